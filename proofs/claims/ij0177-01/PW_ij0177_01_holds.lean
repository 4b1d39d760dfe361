import PyProof.Rows.All
import Wide.All
import OpenK.AllK
import Wide.FinOn
import PySem.Challenge.RW_ij0177_01
set_option Elab.async false
set_option maxRecDepth 100000

namespace Mine
/-- what «by rfl» and «by decide» say where a rule leaves a fact to them: written once -/
def rflT : Lean.Syntax := .node .none `Lean.Parser.Tactic.tacticSeq #[.node .none `Lean.Parser.Tactic.tacticSeq1Indented #[.node .none `null #[.node .none `Lean.Parser.Tactic.tacticRfl #[Lean.mkAtom "rfl"]]]]
def decT : Lean.Syntax := .node .none `Lean.Parser.Tactic.tacticSeq #[.node .none `Lean.Parser.Tactic.tacticSeq1Indented #[.node .none `null #[.node .none `Lean.Parser.Tactic.decide #[Lean.mkAtom "decide", .node .none `Lean.Parser.Tactic.optConfig #[.node .none `null #[]]]]]]
end Mine

namespace Mine
open PySem PySem.W PyProof.Rows PySem.Calls

/-- what follows a statement -/
noncomputable abbrev contQ (M : Model) (A : Around) (rest : List Stmt) (env : Env) (Q : Flow → Shared → Prop) (E : Value → Shared → Prop) : Flow → Shared → Prop := fun f s' => match f with | .next => wpAny M A (execs rest env) Q E s' | f => Q f s'
theorem wpAny_execs_cons {M : Model} {A : Around} {E : Value → Shared → Prop} {s : Shared} {env : Env} {st : Stmt} {rest : List Stmt} {Q : Flow → Shared → Prop} (h : wpAny M A (exec st env) (contQ M A rest env Q E) E s) : wpAny M A (execs (st :: rest) env) Q E s := PySem.wpAny_execs_cons h
theorem cutQ {α : Type} {M : Model} {A : Around} {x : Sem α} {Q : α → Shared → Prop} {E : Value → Shared → Prop} {s : Shared} (H : ∀ Q' : α → Shared → Prop, (∀ f s', Q f s' → Q' f s') → wpAny M A x Q' E s) : wpAny M A x Q E s := H Q fun _ _ h => h

theorem ifY {c : Prop} [Decidable c] {P Q : Prop} (h : c) (p : P) : if c then P else Q := by rw [if_pos h]; exact p
theorem ifN {c : Prop} [Decidable c] {P Q : Prop} (h : ¬ c) (q : Q) : if c then P else Q := by rw [if_neg h]; exact q
theorem ifYd {c : Prop} [Decidable c] {P Q : Prop} (h : c) (p : P) : if decide c = true then P else Q := ifY (decide_eq_true h) p
theorem ifNd {c : Prop} [Decidable c] {P Q : Prop} (h : ¬ c) (q : Q) : if decide c = true then P else Q := ifN (fun e => h (of_decide_eq_true e)) q

/-! ## values by what they mean -/

inductive PV where
  | dat (d : PyData)
  | ref (a : Addr)

noncomputable abbrev PV.s (x : Str) : PV := .dat (.str x)
noncomputable abbrev PV.i (n : Int) : PV := .dat (.int n)
noncomputable abbrev PV.b (b : Bool) : PV := .dat (.bool b)
noncomputable abbrev PV.n : PV := .dat .none

noncomputable def VR (h : Heap) : PV → Value → Prop
  | .dat d, v => Reads h v d []
  | .ref a, v => v = .ref a

/-- tuples stay -/
noncomputable def TK (h h' : Heap) : Prop := ∀ a o vs n, h.get? a = some o → o.cls = .type "tuple" → o.data = .seq vs n → h'.get? a = some o
theorem TK.refl (h : Heap) : TK h h := fun _ _ _ _ e _ _ => e
theorem TK.trans {h1 h2 h3 : Heap} (x : TK h1 h2) (y : TK h2 h3) : TK h1 h3 := fun a o vs n e c d => y a o vs n (x a o vs n e c d) c d
theorem TK.of_keeps {h h' : Heap} (k : ∀ b o, h.get? b = some o → h'.get? b = some o) : TK h h' := fun a o _ _ e _ _ => k a o e

theorem reads_tk {h h' : Heap} (k : TK h h') {v : Value} {d : PyData} {as : List Addr} (r : Reads h v d as) : as = [] → Reads h' v d as := by
  refine Reads.rec (motive_1 := fun v d as _ => as = [] → Reads h' v d as) (motive_2 := fun vs ds as _ => as = [] → ReadsAll h' vs ds as) ?_ ?_ ?_ ?_ ?_ ?_ ?_ ?_ ?_ r
  · intro _; exact .none
  · intro b _; exact .bool b
  · intro i t _; exact .int i t
  · intro x t _; exact .str x t
  · intro a o vs n xs as ho hc hd r ih e; cases e
  · intro a o vs n xs as ho hc hd r ih e; exact .tuple (k _ _ _ _ ho hc hd) hc hd (ih e)
  · intro a o es n kvs as bs ho hc hd r1 r2 ih1 ih2 e; cases e
  · intro _; exact .nil
  · intro v vs d ds as bs r rs ih1 ih2 e; exact .cons (ih1 (List.append_eq_nil_iff.mp e).1) (ih2 (List.append_eq_nil_iff.mp e).2)

theorem VR.tk {h h' : Heap} (k : TK h h') {p : PV} {v : Value} (x : VR h p v) : VR h' p v := by
  cases p with
  | dat d => exact reads_tk k x rfl
  | ref a => exact x

noncomputable def VRs (h : Heap) : List PV → List Value → Prop
  | [], [] => True
  | p :: ps, v :: vs => VR h p v ∧ VRs h ps vs
  | _, _ => False
theorem VRs.tk {h h' : Heap} (k : TK h h') : ∀ {ps : List PV} {vs : List Value}, VRs h ps vs → VRs h' ps vs
  | [], [], _ => trivial
  | _ :: _, _ :: _, ⟨a, b⟩ => ⟨a.tk k, b.tk k⟩
theorem VRs.length {h : Heap} : ∀ {ps : List PV} {vs : List Value}, VRs h ps vs → ps.length = vs.length
  | [], [], _ => rfl
  | _ :: _, _ :: _, ⟨_, b⟩ => by simp [b.length]
theorem VRs.append {h : Heap} : ∀ {ps qs : List PV} {vs ws : List Value}, VRs h ps vs → VRs h qs ws → VRs h (ps ++ qs) (vs ++ ws)
  | [], _, [], _, _, y => y
  | _ :: _, _, _ :: _, _, ⟨a, b⟩, y => ⟨a, b.append y⟩
theorem VRs.get {h : Heap} : ∀ {ps : List PV} {vs : List Value}, VRs h ps vs → ∀ {i : Nat} {v : Value}, vs[i]? = some v → ∃ p, ps[i]? = some p ∧ VR h p v
  | _ :: _, _ :: _, ⟨a, _⟩, 0, v, e => by cases e; exact ⟨_, rfl, a⟩
  | _ :: _, _ :: _, ⟨_, b⟩, i + 1, v, e => by simpa using b.get (i := i) (by simpa using e)
  | [], [], _, _, _, e => by simp at e
theorem VRs.getP {h : Heap} {ps : List PV} {vs : List Value} (x : VRs h ps vs) {i : Nat} {p : PV} (e : ps[i]? = some p) : ∃ v, vs[i]? = some v ∧ VR h p v := by
  have hl : i < vs.length := by rw [← x.length]; exact (List.getElem?_eq_some_iff.mp e).1
  obtain ⟨p', e', r⟩ := x.get (i := i) (v := vs[i]) (by simp [hl])
  rw [e] at e'; cases e'
  exact ⟨_, by simp [hl], r⟩

theorem vr_str {h : Heap} {x : Str} {v : Value} (r : VR h (.dat (.str x)) v) : ∃ t, v = .str x t := by
  have r' : Reads h v (.str x) [] := r
  cases r'; exact ⟨_, rfl⟩
theorem vr_int {h : Heap} {x : Int} {v : Value} (r : VR h (.dat (.int x)) v) : ∃ t, v = .int x t := by
  have r' : Reads h v (.int x) [] := r
  cases r'; exact ⟨_, rfl⟩
theorem vr_bool {h : Heap} {x : Bool} {v : Value} (r : VR h (.dat (.bool x)) v) : v = .bool x := by
  have r' : Reads h v (.bool x) [] := r
  cases r'; rfl
theorem vr_none {h : Heap} {v : Value} (r : VR h (.dat .none) v) : v = .none := by
  have r' : Reads h v .none [] := r
  cases r'; rfl
theorem vr_tuple {h : Heap} {v : Value} {ds : List PyData} (r : VR h (.dat (.tuple ds)) v) : ∃ a o vs n, v = .ref a ∧ h.get? a = some o ∧ o.cls = .type "tuple" ∧ o.data = .seq vs n ∧ VRs h (ds.map .dat) vs.toList := by
  have r' : Reads h v (.tuple ds) [] := r
  cases r' with
  | tuple ho hc hd rr =>
    refine ⟨_, _, _, _, rfl, ho, hc, hd, ?_⟩
    have : ∀ {vs : List Value} {ds : List PyData} {as : List Addr}, ReadsAll h vs ds as → as = [] → VRs h (ds.map .dat) vs := by
      intro vs ds
      induction ds generalizing vs with
      | nil => intro as r _; cases r; trivial
      | cons d ds ih =>
        intro as r e
        cases r with
        | cons r1 r2 =>
          obtain ⟨e1, e2⟩ := List.append_eq_nil_iff.mp e
          subst e1
          exact ⟨r1, ih r2 e2⟩
    exact this rr rfl
theorem readsAll_of_vrs {h : Heap} : ∀ {ds : List PyData} {vs : List Value}, VRs h (ds.map .dat) vs → ReadsAll h vs ds []
  | [], [], _ => .nil
  | _ :: _, _ :: _, ⟨a, b⟩ => by
    have a' : Reads h _ _ [] := a
    exact .cons a' (readsAll_of_vrs b)
theorem vr_mk_tuple {h : Heap} {a : Addr} {o : Obj} {vs : Array Value} {n : Nat} {ds : List PyData} (ho : h.get? a = some o) (hc : o.cls = .type "tuple") (hd : o.data = .seq vs n) (r : VRs h (ds.map .dat) vs.toList) :
    VR h (.dat (.tuple ds)) (.ref a) := Reads.tuple ho hc hd (readsAll_of_vrs r)

/-! ## what is known of an object -/

inductive AO where
  | list (l : List PV)
  | dict (l : List (Str × PV))
  | cell (v : Option PV)
  | ns (loc : List (Str × PV))
  | raw (o : Obj)
  | tab
  | pin (o : Obj) (x : AO)
  | idict (l : List (Int × PV))

noncomputable def KVR (h : Heap) {K : Type} : List (K × PV) → List (K × Value) → Prop
  | [], [] => True
  | p :: ps, v :: vs => p.1 = v.1 ∧ VR h p.2 v.2 ∧ KVR h ps vs
  | _, _ => False
theorem KVR.tk {h h' : Heap} (k : TK h h') {K : Type} : ∀ {ps : List (K × PV)} {vs : List (K × Value)}, KVR h ps vs → KVR h' ps vs
  | [], [], _ => trivial
  | _ :: _, _ :: _, ⟨e, a, b⟩ => ⟨e, a.tk k, b.tk k⟩

structure Cfg where
  prog : Program
  w : World
  top : Heap
  gens : Array GenState
  drawn : Drawn
  os : OsState

/-- the locals -/
noncomputable def Loc (h : Heap) (L : Addr) (loc : List (Str × PV)) : Prop := ∃ m, h.Ns L m ∧ ∀ x p, loc.lookup x = some p → ∃ v, m x = some v ∧ VR h p v

noncomputable def OR (C : Cfg) (h : Heap) (a : Addr) : AO → Prop
  | .list l => ∃ items, h.PlainList a items ∧ VRs h l items.toList
  | .dict l => ∃ kvs, h.DictOf (strKind C.prog C.w) a kvs ∧ KVR h l kvs
  | .cell none => h.IsCell a none
  | .cell (some p) => ∃ v, h.IsCell a (some v) ∧ VR h p v
  | .ns loc => Loc h a loc
  | .raw o => h.get? a = some o ∧ o.cls ≠ .type "tuple"
  | .tab => ∃ ps : Array Value, h.get? a = some (tabObj ps) ∧ TriplesOk ps.toList
  | .pin o x => h.get? a = some o ∧ OR C h a x
  | .idict l => ∃ kvs, h.DictOf (intKind C.prog C.w) a kvs ∧ KVR h l kvs

theorem Loc.to {h h' : Heap} {L : Addr} {loc : List (Str × PV)} (k : TK h h') (e : ∀ o, h.get? L = some o → h'.get? L = some o) (x : Loc h L loc) : Loc h' L loc := by
  obtain ⟨m, ⟨o, es, ep, ho, r⟩, q⟩ := x
  exact ⟨m, ⟨o, es, ep, e o ho, r⟩, fun y p hy => let ⟨v, a, b⟩ := q y p hy; ⟨v, a, b.tk k⟩⟩
theorem Loc.lt {h : Heap} {L : Addr} {loc : List (Str × PV)} (x : Loc h L loc) : L < h.objs.size := by
  obtain ⟨m, n, _⟩ := x; exact n.lt

/-- an address of no one's, beyond the first tables -/
noncomputable def Cfg.Off (C : Cfg) (a : Addr) : Prop := C.top.get? a = none ∧ sysModules < a

structure St (C : Cfg) (h₀ : Heap) (L : Addr) (loc : List (Str × PV)) (R : List (Addr × AO)) (s : Shared) : Prop where
  gens : s.gens = C.gens
  drawn : s.drawn = C.drawn
  os : s.os = C.os
  top : ∀ b o, C.top.get? b = some o → s.heap.get? b = some o
  tk : TK h₀ s.heap
  loc : Loc s.heap L loc
  offL : C.Off L
  nodup : (L :: R.map (·.1)).Nodup
  off : ∀ p ∈ R, C.Off p.1
  ok : ∀ p ∈ R, OR C s.heap p.1 p.2

/-- all that is known, but at one address -/
theorem OR.to {C : Cfg} {h h' : Heap} {a : Addr} {x : AO} (k : TK h h') (e : ∀ o, h.get? a = some o → h'.get? a = some o) (r : OR C h a x) : OR C h' a x := by
  induction x with
  | list l => obtain ⟨items, p, q⟩ := r; exact ⟨items, p.at e, q.tk k⟩
  | dict l =>
    obtain ⟨kvs, ⟨o, es, ep, ho, hr⟩, q⟩ := r
    exact ⟨kvs, ⟨o, es, ep, e o ho, hr⟩, q.tk k⟩
  | cell v =>
    cases v with
    | none => obtain ⟨o, ho, hd⟩ := r; exact ⟨o, e o ho, hd⟩
    | some p => obtain ⟨v, ⟨o, ho, hd⟩, q⟩ := r; exact ⟨v, ⟨o, e o ho, hd⟩, q.tk k⟩
  | ns loc => exact Loc.to k e r
  | raw o => exact ⟨e o r.1, r.2⟩
  | tab => obtain ⟨ps, a, b⟩ := r; exact ⟨ps, e _ a, b⟩
  | pin o x ih => exact ⟨e _ r.1, ih r.2⟩
  | idict l =>
    obtain ⟨kvs, ⟨o, es, ep, ho, hr⟩, q⟩ := r
    exact ⟨kvs, ⟨o, es, ep, e o ho, hr⟩, q.tk k⟩
theorem OR.notTuple {C : Cfg} {h : Heap} {a : Addr} {x : AO} (r : OR C h a x) : ∃ o, h.get? a = some o ∧ ¬ (o.cls = .type "tuple" ∧ ∃ vs n, o.data = .seq vs n) := by
  induction x with
  | list l => obtain ⟨items, ⟨n, p⟩, q⟩ := r; exact ⟨_, p, fun h => by have := h.1; simp at this⟩
  | dict l =>
    obtain ⟨kvs, ⟨o, es, ep, ho, _, hd, _⟩, q⟩ := r
    exact ⟨o, ho, fun h => by obtain ⟨_, vs, n, e⟩ := h; rw [hd] at e; cases e⟩
  | cell v =>
    cases v with
    | none => obtain ⟨o, ho, hd⟩ := r; exact ⟨o, ho, fun h => by obtain ⟨_, vs, n, e⟩ := h; rw [hd] at e; cases e⟩
    | some p => obtain ⟨v, ⟨o, ho, hd⟩, q⟩ := r; exact ⟨o, ho, fun h => by obtain ⟨_, vs, n, e⟩ := h; rw [hd] at e; cases e⟩
  | ns loc =>
    obtain ⟨m, ⟨o, es, ep, ho, hd, _⟩, q⟩ := r
    exact ⟨o, ho, fun h => by obtain ⟨_, vs, n, e⟩ := h; rw [hd] at e; cases e⟩
  | raw o => exact ⟨o, r.1, fun h => r.2 h.1⟩
  | tab => obtain ⟨ps, a, b⟩ := r; exact ⟨_, a, fun h => by have := h.1; cases this⟩
  | pin o x ih => exact ih r.2
  | idict l =>
    obtain ⟨kvs, ⟨o, es, ep, ho, _, hd, _⟩, q⟩ := r
    exact ⟨o, ho, fun h => by obtain ⟨_, vs, n, e⟩ := h; rw [hd] at e; cases e⟩
theorem OR.lt {C : Cfg} {h : Heap} {a : Addr} {x : AO} (r : OR C h a x) : a < h.objs.size := by
  obtain ⟨o, ho, _⟩ := r.notTuple; exact Heap.lt_size ho

theorem Loc.notTuple {h : Heap} {L : Addr} {loc : List (Str × PV)} (x : Loc h L loc) : ∃ o, h.get? L = some o ∧ ¬ (o.cls = .type "tuple" ∧ ∃ vs n, o.data = .seq vs n) := OR.notTuple (C := ⟨default, ⟨fun _ _ => 0, ⟨fun _ => 0, fun _ => 0, id, fun _ => 0, fun _ _ => 0, fun _ => false, fun _ => 0, .refcount, .text, fun _ => 0, fun _ => none, fun _ => false, fun _ _ _ => true, fun _ _ _ => false, true, fun _ => false, fun _ => none, fun _ => none, fun _ _ _ => 0, fun _ _ => none, fun _ => none, fun _ => (0, false, ""), fun _ => none, id, fun _ => false⟩⟩, h, #[], {}, {}⟩) (x := .ns loc) x

/-- one address of no tuple is changed, all else stays -/
theorem TK.of_but {h h' : Heap} {a : Addr} {o : Obj} (e : Heap.ExtBut a h h') (ho : h.get? a = some o) (hn : ¬ (o.cls = .type "tuple" ∧ ∃ vs n, o.data = .seq vs n)) : TK h h' := by
  intro b ob vs n hb hc hd
  by_cases q : b = a
  · subst q
    rw [ho] at hb
    cases hb
    exact absurd ⟨hc, vs, n, hd⟩ hn
  · exact e b ob q hb

section
variable {C : Cfg} {h₀ : Heap} {L : Addr} {loc : List (Str × PV)} {R : List (Addr × AO)} {s : Shared}

theorem St.tok (S : St C h₀ L loc R s) (t : Nat) : St C h₀ L loc R { s with toks := t } := ⟨S.gens, S.drawn, S.os, S.top, S.tk, S.loc, S.offL, S.nodup, S.off, S.ok⟩
theorem St.keeps (S : St C h₀ L loc R s) {h' : Heap} {t : Nat} (k : ∀ b o, s.heap.get? b = some o → h'.get? b = some o) : St C h₀ L loc R { s with heap := h', toks := t } :=
  ⟨S.gens, S.drawn, S.os, fun b o e => k b o (S.top b o e), S.tk.trans (TK.of_keeps k), S.loc.to (TK.of_keeps k) (k L), S.offL, S.nodup, S.off, fun p hp => (S.ok p hp).to (TK.of_keeps k) (k p.1)⟩
theorem St.keeps' (S : St C h₀ L loc R s) {h' : Heap} (k : ∀ b o, s.heap.get? b = some o → h'.get? b = some o) : St C h₀ L loc R { s with heap := h' } := S.keeps (t := s.toks) k
theorem St.lt (S : St C h₀ L loc R s) {p : Addr × AO} (hp : p ∈ R) : p.1 < s.heap.objs.size := (S.ok p hp).lt
/-- a new thing onto the ledger -/
theorem St.new (S : St C h₀ L loc R s) {h' : Heap} {t : Nat} {a : Addr} {x : AO} (ha : s.heap.get? a = none) (hs : s.heap.objs.size ≤ a) (k : ∀ b o, s.heap.get? b = some o → h'.get? b = some o) (r : OR C h' a x) :
    St C h₀ L loc ((a, x) :: R) { s with heap := h', toks := t } := by
  have B := S.keeps (t := t) k
  refine ⟨B.gens, B.drawn, B.os, B.top, B.tk, B.loc, B.offL, ?_, ?_, ?_⟩
  · have hL : L ≠ a := Nat.ne_of_lt (Nat.lt_of_lt_of_le S.loc.lt hs)
    have hR : a ∉ R.map (·.1) := fun hm => by
      obtain ⟨p, hp, e⟩ := List.mem_map.mp hm
      exact absurd (S.lt hp) (by rw [e]; exact Nat.not_lt.mpr hs)
    obtain ⟨n1, n2⟩ := List.nodup_cons.mp S.nodup
    refine List.nodup_cons.mpr ⟨fun hm => ?_, List.nodup_cons.mpr ⟨hR, n2⟩⟩
    rcases List.mem_cons.mp hm with e | e
    · exact hL e
    · exact n1 e
  · intro p hp
    rcases List.mem_cons.mp hp with e | e
    · subst e
      refine ⟨?_, Nat.lt_of_lt_of_le (Nat.lt_trans S.offL.2 S.loc.lt) hs⟩
      show C.top.get? a = none
      cases q : C.top.get? a with
      | none => rfl
      | some o => rw [S.top a o q] at ha; cases ha
    · exact S.off p e
  · intro p hp
    rcases List.mem_cons.mp hp with e | e
    · subst e; exact r
    · exact B.ok p e
theorem St.pushed (S : St C h₀ L loc R s) {o : Obj} {x : AO} (r : OR C (s.heap.push o) s.heap.objs.size x) :
    St C h₀ L loc ((s.heap.objs.size, x) :: R) { s with heap := s.heap.push o } :=
  S.new (t := s.toks) (Heap.get?_none_of_le (Nat.le_refl _)) (Nat.le_refl _) (fun b o' e => Heap.get?_push_of_some _ e) r
theorem St.push (S : St C h₀ L loc R s) (o : Obj) : St C h₀ L loc R { s with heap := s.heap.push o } := S.keeps' fun b o' e => Heap.get?_push_of_some _ e
/-- a thing of the ledger's head is changed -/
theorem St.set {a : Addr} {x x' : AO} (S : St C h₀ L loc ((a, x) :: R) s) {h' : Heap} {t : Nat} (e : Heap.ExtBut a s.heap h') (r : OR C h' a x') : St C h₀ L loc ((a, x') :: R) { s with heap := h', toks := t } := by
  obtain ⟨o, ho, hn⟩ := (S.ok _ (List.mem_cons_self ..)).notTuple
  have k := TK.of_but e ho hn
  obtain ⟨n1, n2⟩ := List.nodup_cons.mp S.nodup
  have hL : L ≠ a := fun q => n1 (by rw [q]; exact List.mem_cons_self ..)
  have hto := S.off _ (List.mem_cons_self ..)
  have hta : C.top.get? a = none := hto.1
  refine ⟨S.gens, S.drawn, S.os, fun b o' eb => ?_, S.tk.trans k, S.loc.to k fun o' eb => e _ _ hL eb, S.offL, S.nodup, fun p hp => ?_, fun p hp => ?_⟩
  · have : b ≠ a := fun q => by rw [q, hta] at eb; cases eb
    exact e b o' this (S.top b o' eb)
  · rcases List.mem_cons.mp hp with q | q
    · rw [q]; exact hto
    · exact S.off p (List.mem_cons_of_mem _ q)
  · rcases List.mem_cons.mp hp with q | q
    · rw [q]; exact r
    · have hne : p.1 ≠ a := fun z => (List.nodup_cons.mp n2).1 (by rw [← z]; exact List.mem_map_of_mem (f := (·.1)) q)
      exact (S.ok p (List.mem_cons_of_mem _ q)).to k fun o' eb => e _ _ hne eb
theorem St.setLoc {loc' : List (Str × PV)} (S : St C h₀ L loc R s) {h' : Heap} {t : Nat} (e : Heap.ExtBut L s.heap h') (r : ∀ k : TK s.heap h', Loc h' L loc') : St C h₀ L loc' R { s with heap := h', toks := t } := by
  obtain ⟨o, ho, hn⟩ := S.loc.notTuple
  have k := TK.of_but e ho hn
  obtain ⟨n1, n2⟩ := List.nodup_cons.mp S.nodup
  refine ⟨S.gens, S.drawn, S.os, fun b o' eb => ?_, S.tk.trans k, r k, S.offL, S.nodup, S.off, fun p hp => ?_⟩
  · have : b ≠ L := fun q => by rw [q, S.offL.1] at eb; cases eb
    exact e b o' this (S.top b o' eb)
  · have hne : p.1 ≠ L := fun z => n1 (by rw [← z]; exact List.mem_map_of_mem (f := (·.1)) hp)
    exact (S.ok p hp).to k fun o' eb => e _ _ hne eb
theorem St.perm {R' : List (Addr × AO)} (S : St C h₀ L loc R s) (p : R'.Perm R) : St C h₀ L loc R' s :=
  ⟨S.gens, S.drawn, S.os, S.top, S.tk, S.loc, S.offL, ((p.map (·.1)).cons L).nodup_iff.mpr S.nodup, fun q hq => S.off q (p.mem_iff.mp hq), fun q hq => S.ok q (p.mem_iff.mp hq)⟩
theorem St.sub {R' : List (Addr × AO)} (S : St C h₀ L loc R s) (p : R'.Sublist R) : St C h₀ L loc R' s :=
  ⟨S.gens, S.drawn, S.os, S.top, S.tk, S.loc, S.offL, S.nodup.sublist ((p.map (·.1)).cons_cons L), fun q hq => S.off q (p.mem hq), fun q hq => S.ok q (p.mem hq)⟩
theorem St.drop {q : Addr × AO} (S : St C h₀ L loc (q :: R) s) : St C h₀ L loc R s := S.sub (List.sublist_cons_self ..)
theorem perm_pull {α : Type} : ∀ {l : List α} {i : Nat} {p : α}, l[i]? = some p → (p :: l.eraseIdx i).Perm l
  | x :: l, 0, p, e => by cases e; exact List.Perm.refl _
  | x :: l, i + 1, p, e => by
    have e' : l[i]? = some p := by simpa using e
    exact (List.Perm.swap x p _).trans ((perm_pull e').cons x)
theorem St.pull (S : St C h₀ L loc R s) (i : Nat) {p : Addr × AO} (e : R[i]? = some p) : St C h₀ L loc (p :: R.eraseIdx i) s := S.perm (perm_pull e)

noncomputable def LocSub (loc : List (Str × PV)) : List (Str × PV) → Prop
  | [] => True
  | (x, p) :: r => loc.lookup x = some p ∧ LocSub loc r
theorem LocSub.of {loc : List (Str × PV)} : ∀ {loc' : List (Str × PV)}, LocSub loc loc' → ∀ x p, loc'.lookup x = some p → loc.lookup x = some p
  | (y, q) :: r, ⟨a, b⟩, x, p, e => by
    rw [List.lookup_cons] at e
    cases h : x == y with
    | true => rw [h] at e; cases e; rw [beq_iff_eq.mp h]; exact a
    | false => rw [h] at e; exact LocSub.of b x p e
theorem Loc.weaken {h : Heap} {loc' : List (Str × PV)} (x : Loc h L loc) (w : ∀ x p, loc'.lookup x = some p → loc.lookup x = some p) : Loc h L loc' := by
  obtain ⟨m, n, q⟩ := x
  exact ⟨m, n, fun y p e => q y p (w y p e)⟩
theorem St.weaken {loc' : List (Str × PV)} (S : St C h₀ L loc R s) (w : LocSub loc loc') : St C h₀ L loc' R s :=
  ⟨S.gens, S.drawn, S.os, S.top, S.tk, S.loc.weaken w.of, S.offL, S.nodup, S.off, S.ok⟩
/-- the tuples that stand now -/
theorem St.re (S : St C h₀ L loc R s) : St C s.heap L loc R s := ⟨S.gens, S.drawn, S.os, S.top, TK.refl _, S.loc, S.offL, S.nodup, S.off, S.ok⟩
theorem St.un {h₁ : Heap} (S : St C h₁ L loc R s) (k : TK h₀ h₁) : St C h₀ L loc R s := ⟨S.gens, S.drawn, S.os, S.top, k.trans S.tk, S.loc, S.offL, S.nodup, S.off, S.ok⟩
theorem St.getOK (S : St C h₀ L loc R s) {a : Addr} {x : AO} (h : (a, x) ∈ R) : OR C s.heap a x := S.ok _ h
end

end Mine

namespace Mine

open PySem PySem.W PyProof.Rows PySem.Calls

@[reducible] noncomputable def mkEnv (sc : Scope) (L : Addr) (cells : List (Str × Addr)) (q : Str) (a : Addr) (cd : Value) : Env :=
  { scope := sc, locals := L, globals := mainGlobals, cells := cells, qual := q, func := some a, code := cd, frame := some L, builtins := builtinsNs }

/-- the room that a frame has -/
structure Room (A : Around) (k : Nat) : Prop where
  handled : A.handled = none
  depth : A.depth + k < recursionLimit
  units : A.units + 10 * k + 100 < cLine
theorem Room.in1 {A : Around} {k : Nat} (r : Room A (k + 1)) : Room A.in1 k := ⟨r.handled, by have := r.depth; show A.depth + k < _; lia, by have := r.units; show A.units + 1 + 10 * k + 100 < _; lia⟩
theorem Room.deeper {A : Around} {k : Nat} (r : Room A (k + 1)) (env : Env) : Room (A.deeper env) k := ⟨r.handled, by have := r.depth; show A.depth + 1 + k < _; lia, by have := r.units; show A.units + 3 + 10 * k + 100 < _; lia⟩
theorem Room.le {A : Around} {k j : Nat} (r : Room A k) (h : j ≤ k) : Room A j := ⟨r.handled, by have := r.depth; lia, by have := r.units; lia⟩
theorem Room.mark {A : Around} {k : Nat} (r : Room A k) : Room (A.mark none) k := ⟨r.handled, r.depth, r.units⟩

/-- what stands at the top -/
structure Base (C : Cfg) (mg mb : Str → Option Value) : Prop where
  ng : C.top.Ns mainGlobals mg
  nb : C.top.Ns builtinsNs mb
  lim : C.top.NoLimit

section
variable {C : Cfg} {h₀ : Heap} {loc : List (Str × PV)} {R : List (Addr × AO)} {s : Shared} {A : Around} {E : Value → Shared → Prop} {env : Env} {mg mb : Str → Option Value}

/-! ### names -/
theorem nm {x : Str} {pos : Pos} {p : PV} {Q : Value → Shared → Prop} (S : St C h₀ env.locals loc R s) (hx : loc.lookup x = some p) (h : ∀ v, VR s.heap p v → Q v s)
    (hk : autoParam (env.scope.kind = .function) rflT) (hl : autoParam (env.kindOf x = some .local) rflT) (hd : autoParam ((x == ("__debug__" : Str)) = false) decT) :
    wpAny (model C.prog C.w) A (eval (.Name x pos) env) Q E s := by
  obtain ⟨m, n, q⟩ := S.loc
  obtain ⟨v, e, r⟩ := q x p hx
  exact wpAny_Name (wpAny_loadName_local hk hl n e (h v r)) hd
theorem nm_s {x : Str} {pos : Pos} {y : Str} {Q : Value → Shared → Prop} (S : St C h₀ env.locals loc R s) (hx : loc.lookup x = some (.s y)) (h : ∀ t, Q (.str y t) s)
    (hk : autoParam (env.scope.kind = .function) rflT) (hl : autoParam (env.kindOf x = some .local) rflT) (hd : autoParam ((x == ("__debug__" : Str)) = false) decT) :
    wpAny (model C.prog C.w) A (eval (.Name x pos) env) Q E s := nm S hx (fun v r => by obtain ⟨t, rfl⟩ := vr_str r; exact h t) hk hl hd
theorem nm_i {x : Str} {pos : Pos} {y : Int} {Q : Value → Shared → Prop} (S : St C h₀ env.locals loc R s) (hx : loc.lookup x = some (.i y)) (h : ∀ t, Q (.int y t) s)
    (hk : autoParam (env.scope.kind = .function) rflT) (hl : autoParam (env.kindOf x = some .local) rflT) (hd : autoParam ((x == ("__debug__" : Str)) = false) decT) :
    wpAny (model C.prog C.w) A (eval (.Name x pos) env) Q E s := nm S hx (fun v r => by obtain ⟨t, rfl⟩ := vr_int r; exact h t) hk hl hd
theorem nm_b {x : Str} {pos : Pos} {y : Bool} {Q : Value → Shared → Prop} (S : St C h₀ env.locals loc R s) (hx : loc.lookup x = some (.b y)) (h : Q (.bool y) s)
    (hk : autoParam (env.scope.kind = .function) rflT) (hl : autoParam (env.kindOf x = some .local) rflT) (hd : autoParam ((x == ("__debug__" : Str)) = false) decT) :
    wpAny (model C.prog C.w) A (eval (.Name x pos) env) Q E s := nm S hx (fun v r => by cases vr_bool r; exact h) hk hl hd
theorem nm_r {x : Str} {pos : Pos} {a : Addr} {Q : Value → Shared → Prop} (S : St C h₀ env.locals loc R s) (hx : loc.lookup x = some (.ref a)) (h : Q (.ref a) s)
    (hk : autoParam (env.scope.kind = .function) rflT) (hl : autoParam (env.kindOf x = some .local) rflT) (hd : autoParam ((x == ("__debug__" : Str)) = false) decT) :
    wpAny (model C.prog C.w) A (eval (.Name x pos) env) Q E s := nm S hx (fun v r => by cases r; exact h) hk hl hd

theorem nm_cell {x : Str} {pos : Pos} {c : Addr} {p : PV} {Q : Value → Shared → Prop} (S : St C h₀ env.locals loc R s) (hm : (c, AO.cell (some p)) ∈ R) (h : ∀ v, VR s.heap p v → Q v s)
    (hc : env.cells.lookup x = some c) (hk : autoParam (env.scope.kind = .function) rflT) (hl : autoParam (env.kindOf x = some .cell) rflT) (hd : autoParam ((x == ("__debug__" : Str)) = false) decT) :
    wpAny (model C.prog C.w) A (eval (.Name x pos) env) Q E s := by
  obtain ⟨v, e, r⟩ := S.getOK hm
  exact wpAny_Name (wpAny_loadName_cell hk hl hc e (h v r)) hd
theorem nm_free {x : Str} {pos : Pos} {c : Addr} {p : PV} {Q : Value → Shared → Prop} (S : St C h₀ env.locals loc R s) (hm : (c, AO.cell (some p)) ∈ R) (h : ∀ v, VR s.heap p v → Q v s)
    (hc : env.cells.lookup x = some c) (hk : autoParam (env.scope.kind = .function) rflT) (hl : autoParam (env.kindOf x = some .free) rflT) (hd : autoParam ((x == ("__debug__" : Str)) = false) decT) (hd' : (x == ("__classdict__" : Str)) = false := by decide) :
    wpAny (model C.prog C.w) A (eval (.Name x pos) env) Q E s := by
  obtain ⟨v, e, r⟩ := S.getOK hm
  exact wpAny_Name (wpAny_loadName_free hk hl hc e (h v r) hd') hd

theorem nm_g {x : Str} {pos : Pos} {v : Value} {Q : Value → Shared → Prop} {L : Addr} (B : Base C mg mb) (S : St C h₀ L loc R s) (hv : mg x = some v) (h : Q v s)
    (hg : autoParam (env.globals = mainGlobals) rflT) (hk : autoParam (env.scope.kind = .function) rflT) (hl : autoParam (env.kindOf x = some .globalImplicit) rflT) (hd : autoParam ((x == ("__debug__" : Str)) = false) decT) :
    wpAny (model C.prog C.w) A (eval (.Name x pos) env) Q E s :=
  Name_function_global hk hl (loadGlobal_global (by rw [hg]; exact B.ng.keeps S.top) hv h) hd
theorem nm_bi {x : Str} {pos : Pos} {v : Value} {Q : Value → Shared → Prop} {L : Addr} (B : Base C mg mb) (S : St C h₀ L loc R s) (hn : mg x = none ∧ mb x = some v) (h : Q v s)
    (hg : autoParam (env.globals = mainGlobals) rflT) (hb : autoParam (env.builtins = builtinsNs) rflT) (hk : autoParam (env.scope.kind = .function) rflT) (hl : autoParam (env.kindOf x = some .globalImplicit) rflT) (hd : autoParam ((x == ("__debug__" : Str)) = false) decT) :
    wpAny (model C.prog C.w) A (eval (.Name x pos) env) Q E s :=
  Name_function_global hk hl (loadGlobal_builtin (by rw [hg]; exact B.ng.keeps S.top) hn.1 (by rw [hb]; exact B.nb.keeps S.top) hn.2 h) hd

/-! ### stores -/
theorem stloc {x : Str} {v : Value} {p : PV} {Q : Unit → Shared → Prop} (S : St C h₀ env.locals loc R s) (r : VR s.heap p v) (h : ∀ s', St C h₀ env.locals ((x, p) :: loc) R s' → Q () s')
    (hk : autoParam (env.scope.kind = .function) rflT) (hl : autoParam (env.kindOf x = some .local) rflT) :
    wpAny (model C.prog C.w) A (storeName env x v) Q E s := by
  obtain ⟨m, n, q⟩ := S.loc
  refine wpAny_storeName_local hl n (fun h' n' sb => ?_) (by rw [hk]; rfl)
  obtain ⟨o, ho, hnt⟩ := S.loc.notTuple
  have tk := TK.of_but sb.extBut ho hnt
  refine h _ (S.setLoc sb.extBut fun k => ⟨_, n', fun y p' e => ?_⟩)
  rw [List.lookup_cons] at e
  cases hb : y == x with
  | true =>
    rw [hb] at e; cases e
    exact ⟨v, by rw [if_pos (beq_iff_eq.mp hb)], r.tk k⟩
  | false =>
    rw [hb] at e
    obtain ⟨w, e1, e2⟩ := q y p' e
    exact ⟨w, by rw [if_neg (beq_eq_false_iff_ne.mp hb)]; exact e1, e2.tk k⟩
theorem stcell {x : Str} {v : Value} {c : Addr} {p : PV} {o : Option PV} {Q : Unit → Shared → Prop} (S : St C h₀ env.locals loc ((c, .cell o) :: R) s) (r : VR s.heap p v) (h : ∀ s', St C h₀ env.locals loc ((c, .cell (some p)) :: R) s' → Q () s')
    (hc : env.cells.lookup x = some c) (hk : autoParam (env.scope.kind = .function) rflT) (hl : autoParam (env.kindOf x = some .cell) rflT) :
    wpAny (model C.prog C.w) A (storeName env x v) Q E s := by
  have hcell : ∃ v₀, s.heap.IsCell c v₀ := by
    have := S.getOK (List.mem_cons_self ..)
    cases o with
    | none => exact ⟨_, this⟩
    | some p => obtain ⟨v, e, _⟩ := this; exact ⟨_, e⟩
  obtain ⟨v₀, hcell⟩ := hcell
  refine wpAny_storeName_cell hk hl hc hcell fun h' n' sb => ?_
  obtain ⟨oc, ho, hnt⟩ := (S.ok _ (List.mem_cons_self ..)).notTuple
  have tk := TK.of_but sb.extBut ho hnt
  exact h _ (S.set (t := s.toks) sb.extBut ⟨v, n', r.tk tk⟩)

/-! ### consts -/
theorem c_s {x : Str} {k : Nat} {pos : Pos} {L : Addr} {Q : Value → Shared → Prop} (S : St C h₀ L loc R s) (h : ∀ t s', St C h₀ L loc R s' → Q (.str x t) s') : wpAny (model C.prog C.w) A (eval (.Constant (.str x) k pos) env) Q E s :=
  wpAny_Constant_str (h _ _ (S.tok _))
theorem c_i {x : Int} {k : Nat} {pos : Pos} {L : Addr} {Q : Value → Shared → Prop} (S : St C h₀ L loc R s) (h : ∀ t s', St C h₀ L loc R s' → Q (.int x t) s') : wpAny (model C.prog C.w) A (eval (.Constant (.int x) k pos) env) Q E s :=
  wpAny_Constant_int (h _ _ (S.tok _))
end

/-! ### calls of the text's own defs -/

noncomputable def paramsOf : Stmt → Arguments
  | .FunctionDef _ a _ _ _ _ _ _ _ _ => a
  | _ => ⟨[], [], none, [], [], none, []⟩
noncomputable def bodyOf : Stmt → List Stmt
  | .FunctionDef _ _ b _ _ _ _ _ _ _ => b
  | _ => []
noncomputable def scopeOf : Stmt → Scope
  | .FunctionDef _ _ _ _ _ _ sc _ _ _ => sc
  | _ => ⟨.function, [], false, false, []⟩

theorem memAt {α : Type} {a : α} {P R : List α} (i : Nat) (e : R[i]? = some a) : a ∈ P ++ R := List.mem_append_right P (List.mem_of_getElem? e)

noncomputable abbrev fnEnv (st : Stmt) (L : Addr) (q : Str) (a : Addr) (cd : Value) : Env := mkEnv (scopeOf st) L (cellsFrom (L + 1) (scopeOf st).names []) q a cd

structure DefAt (C : Cfg) (a : Addr) (st : Stmt) : Prop where
  ex : ∃ o fd, C.top.get? a = some o ∧ o.data = .func fd ∧ fd.params = paramsOf st ∧ fd.body = .stmts (bodyOf st) ∧ fd.scope = scopeOf st ∧ fd.globals = mainGlobals ∧ fd.builtins = builtinsNs ∧ fd.closure = [] ∧
    fd.defaults = .none ∧ fd.kwdefaults = .none ∧ C.top.CodeRec fd.code fd.qualname

theorem bindL_lookup {k : Str → Option NameKind} : ∀ {binds : List (Str × Value)} {m : Str → Option Value} {x : Str}, (binds.map (·.1)).Nodup →
    bindL k binds m x = if k x = some .local then (binds.lookup x).or (m x) else m x
  | [], m, x, _ => by simp [bindL]
  | (n, v) :: r, m, x, h => by
    obtain ⟨h1, h2⟩ := List.nodup_cons.mp h
    rw [bindL, bindL_lookup h2]
    by_cases hx : x = n
    · subst hx
      have hr : r.lookup x = none := by
        rw [List.lookup_eq_none_iff]
        intro p hp
        simpa using fun e => h1 (by rw [e]; exact List.mem_map_of_mem (f := (·.1)) hp)
      by_cases hk : k x = some .local
      · simp [hk, hr]
      · simp [hk]
    · have hb : (x == n) = false := beq_eq_false_iff_ne.mpr hx
      by_cases hn : k n = some .local <;> simp [hn, hb, hx, List.lookup_cons]
theorem bindC_lookup {k : Str → Option NameKind} : ∀ {binds : List (Str × Value)} {m : Str → Option Value} {x : Str}, (binds.map (·.1)).Nodup →
    bindC k binds m x = if k x = some .local then m x else (binds.lookup x).or (m x)
  | [], m, x, _ => by simp [bindC]
  | (n, v) :: r, m, x, h => by
    obtain ⟨h1, h2⟩ := List.nodup_cons.mp h
    rw [bindC, bindC_lookup h2]
    by_cases hx : x = n
    · subst hx
      have hr : r.lookup x = none := by
        rw [List.lookup_eq_none_iff]
        intro p hp
        simpa using fun e => h1 (by rw [e]; exact List.mem_map_of_mem (f := (·.1)) hp)
      by_cases hk : k x = some .local
      · simp [hk]
      · simp [hk, hr]
    · have hb : (x == n) = false := beq_eq_false_iff_ne.mpr hx
      by_cases hn : k n = some .local <;> simp [hn, hb, hx, List.lookup_cons]

theorem lookup_zip {h : Heap} : ∀ {ns : List Str} {ps : List PV} {vs : List Value}, VRs h ps vs → ∀ {x : Str} {p : PV}, (ns.zip ps).lookup x = some p → ∃ v, (ns.zip vs).lookup x = some v ∧ VR h p v
  | n :: ns, p :: ps, v :: vs, ⟨a, b⟩, x, q, e => by
    rw [List.zip_cons_cons, List.lookup_cons] at e ⊢
    cases hb : x == n with
    | true => rw [hb] at e; cases e; exact ⟨v, rfl, a⟩
    | false => rw [hb] at e; exact lookup_zip b e
  | [], _, _, _, _, _, e => by simp at e
  | _ :: _, [], _, _, _, _, e => by simp at e
theorem lookup_zip_none {h : Heap} : ∀ {ns : List Str} {ps : List PV} {vs : List Value}, VRs h ps vs → ∀ {x : Str}, (ns.zip ps).lookup x = none → (ns.zip vs).lookup x = none
  | n :: ns, p :: ps, v :: vs, ⟨a, b⟩, x, e => by
    rw [List.zip_cons_cons, List.lookup_cons] at e ⊢
    cases hb : x == n with
    | true => rw [hb] at e; cases e
    | false => rw [hb] at e; exact lookup_zip_none b e
  | [], _, _, _, _, _ => by simp
  | _ :: _, [], [], _, _, _ => by simp
theorem lookup_filter {k : Str → Bool} : ∀ {l : List (Str × PV)} {x : Str} {p : PV}, (l.filter fun q => k q.1).lookup x = some p → k x = true ∧ l.lookup x = some p
  | (n, q) :: r, x, p, e => by
    rw [List.filter_cons] at e
    cases hk : k n with
    | true =>
      simp only [hk, if_true] at e
      rw [List.lookup_cons] at e ⊢
      cases hb : x == n with
      | true => rw [hb] at e; cases e; exact ⟨by rw [beq_iff_eq.mp hb]; exact hk, rfl⟩
      | false => rw [hb] at e; exact lookup_filter e
    | false =>
      simp only [hk, Bool.false_eq_true, if_false] at e
      have ih := lookup_filter e
      rw [List.lookup_cons]
      cases hb : x == n with
      | true => rw [beq_iff_eq.mp hb, hk] at ih; cases ih.1
      | false => exact ih
  | [], _, _, e => by simp at e

/-- the cells of a frame, as the ledger has them -/
noncomputable def cellsR (binds : List (Str × PV)) : List (Str × Addr) → List (Addr × AO)
  | [] => []
  | (n, c) :: r => (c, AO.cell (binds.lookup n)) :: cellsR binds r
theorem cellsR_mem {binds : List (Str × PV)} {cs : List (Str × Addr)} {p : Addr × AO} (h : p ∈ cellsR binds cs) : ∃ n, (n, p.1) ∈ cs ∧ p.2 = AO.cell (binds.lookup n) := by
  induction cs with
  | nil => cases h
  | cons q r ih =>
    obtain ⟨n, c⟩ := q
    rcases List.mem_cons.mp h with e | e
    · subst e; exact ⟨n, List.mem_cons_self .., rfl⟩
    · obtain ⟨m, a, b⟩ := ih e; exact ⟨m, List.mem_cons_of_mem _ a, b⟩
theorem cellsR_keys {binds : List (Str × PV)} : ∀ {cs : List (Str × Addr)}, (cellsR binds cs).map (·.1) = cs.map (·.2)
  | [] => rfl
  | (n, c) :: r => by simp [cellsR, cellsR_keys]

section
variable {C : Cfg} {h₀ : Heap} {loc : List (Str × PV)} {R : List (Addr × AO)} {s : Shared} {A : Around} {E : Value → Shared → Prop} {L₀ : Addr} {mg mb : Str → Option Value}

noncomputable def retV : Flow → Value
  | .ret v => v
  | _ => .none

theorem call_fn {a : Addr} {st : Stmt} {vals : List Value} {ps : List PV} {names : List Str} {k : Nat} {Q : Value → Shared → Prop} (B : Base C mg mb) (D : DefAt C a st) (Rm : Room A (k + 1)) (S : St C h₀ L₀ loc R s) (hv : VRs s.heap ps vals)
    (hnames : (paramsOf st).args.map (·.arg) = names)
    (hbind : ∀ fd : FuncData, fd.params = paramsOf st → fd.defaults = .none → fd.kwdefaults = .none → bindArgs fd ⟨vals, []⟩ = pure (names.zip vals))
    (hnd : names.Nodup) (hlen : names.length = ps.length)
    (hloc : ∀ n ∈ names, (scopeOf st).names.lookup n = some .local ∨ ((scopeOf st).names.lookup n = some .cell ∧ ∀ L, ((cellsFrom (L + 1) (scopeOf st).names []).lookup n).isSome = true))
    (hcn : ∀ L, ((cellsFrom (L + 1) (scopeOf st).names []).map (·.1)).Nodup)
    (hck : ∀ L n c, (n, c) ∈ cellsFrom (L + 1) (scopeOf st).names [] → (scopeOf st).names.lookup n = some .cell)
    (hco : (scopeOf st).isCoroutine = false) (hgen : (scopeOf st).isGenerator = false) (hk : (scopeOf st).kind = .function)
    (h : ∀ L q cd s₁, (∃ o fd, C.top.get? a = some o ∧ o.data = .func fd ∧ cd = fd.code) → Room (A.deeper (fnEnv st L q a cd)) k →
      St C h₀ L ((names.zip ps).filter fun q => decide ((scopeOf st).names.lookup q.1 = some .local)) (cellsR (names.zip ps) (cellsFrom (L + 1) (scopeOf st).names []) ++ (L₀, .ns loc) :: R) s₁ →
      wpAny (model C.prog C.w) (A.deeper (fnEnv st L q a cd)) (execs (bodyOf st) (fnEnv st L q a cd))
        (fun f s' => Q (retV f) s') (fun _ _ => False) s₁) :
    wpAny (model C.prog C.w) A (call (.ref a) vals) Q E s := by
  obtain ⟨o, fd, ho, hd, e1, e2, e3, e4, e5, e6, e7, e8, hcr⟩ := D.ex
  have hcr' : s.heap.CodeRec fd.code fd.qualname := by
    obtain ⟨c, oc, vs, t, h1, h2, h3⟩ := hcr
    exact ⟨c, oc, vs, t, h1, S.top _ _ h2, h3⟩
  refine wpAny_call ?_
  have hvl := hv.length
  have hzl : (names.zip vals).map (·.1) = names := by rw [List.map_fst_zip]; lia
  refine codeAny_call_cells (o := o) (fd := fd) (body := bodyOf st) (binds := names.zip vals) (by have := Rm.depth; lia) (S.top _ _ ho) hd (B.lim.keeps S.top) hcr' e2 (hbind fd e1 e7 e8) e6 ?_ (fun s₁ x => ?_) (by rw [e3]; exact hco) (by rw [e3]; exact hgen) (by rw [e3]; exact hk)
  · intro y hy
    have hy1 : y.1 ∈ names := by rw [← hzl]; exact List.mem_map_of_mem (f := (·.1)) hy
    rw [e3]
    rcases hloc _ hy1 with q | ⟨q1, q2⟩
    · exact .inl q
    · exact .inr ⟨q1, q2 _⟩
  · have henv : callEnvC fd s.heap.objs.size a = mkEnv (scopeOf st) s.heap.objs.size (cellsFrom (s.heap.objs.size + 1) (scopeOf st).names []) (fd.qualname ++ ".<locals>.") a fd.code := by
      unfold callEnvC newEnv mkEnv
      rw [e3, e4, e5]
    rw [henv] at x ⊢
    obtain ⟨⟨⟨h₁, tk, rfl⟩, xns, xkeep, xfresh⟩, xcell, xapart, xabove⟩ := x
    have hnd' : ((names.zip vals).map (·.1)).Nodup := by rw [hzl]; exact hnd
    have tk1 := TK.of_keeps xkeep
    have B1 := S.keeps (t := tk) xkeep
    have hLc : C.Off s.heap.objs.size := by
      refine ⟨?_, Nat.lt_trans S.offL.2 S.loc.lt⟩
      cases q : C.top.get? s.heap.objs.size with
      | none => rfl
      | some o => exact absurd (Heap.lt_size (S.top _ _ q)) (Nat.lt_irrefl _)
    have hLloc : Loc h₁ s.heap.objs.size ((names.zip ps).filter fun q => decide ((scopeOf st).names.lookup q.1 = some .local)) := by
      refine ⟨_, xns, fun y p hy => ?_⟩
      obtain ⟨k1, k2⟩ := lookup_filter (k := fun z => decide ((scopeOf st).names.lookup z = some .local)) hy
      obtain ⟨v, k3, k4⟩ := lookup_zip hv k2
      refine ⟨v, ?_, k4.tk tk1⟩
      rw [bindL_lookup hnd']
      have : (mkEnv (scopeOf st) s.heap.objs.size (cellsFrom (s.heap.objs.size + 1) (scopeOf st).names []) (fd.qualname ++ ".<locals>.") a fd.code).kindOf y = some .local := of_decide_eq_true k1
      rw [if_pos this, k3]; rfl
    have hS1 : St C h₀ s.heap.objs.size ((names.zip ps).filter fun q => decide ((scopeOf st).names.lookup q.1 = some .local)) (cellsR (names.zip ps) (cellsFrom (s.heap.objs.size + 1) (scopeOf st).names []) ++ (L₀, .ns loc) :: R) { s with heap := h₁, toks := tk } := by
      have hlt0 : ∀ b ∈ L₀ :: R.map (·.1), b < s.heap.objs.size := by
        intro b hb
        rcases List.mem_cons.mp hb with e | e
        · rw [e]; exact S.loc.lt
        · obtain ⟨p, hp, rfl⟩ := List.mem_map.mp e; exact S.lt hp
      have habv : ∀ b ∈ (cellsFrom (s.heap.objs.size + 1) (scopeOf st).names []).map (·.2), s.heap.objs.size < b := by
        intro b hb
        obtain ⟨p, hp, rfl⟩ := List.mem_map.mp hb
        exact xabove p.1 p.2 hp
      refine ⟨B1.gens, B1.drawn, B1.os, B1.top, B1.tk, hLloc, hLc, ?_, ?_, ?_⟩
      · rw [List.map_append, cellsR_keys, List.map_cons]
        refine List.nodup_cons.mpr ⟨fun hm => ?_, ?_⟩
        · rcases List.mem_append.mp hm with e | e
          · exact absurd (habv _ e) (Nat.lt_irrefl _)
          · exact absurd (hlt0 _ e) (Nat.lt_irrefl _)
        · refine List.nodup_append.mpr ⟨?_, S.nodup, fun b hb b' hb' e => ?_⟩
          · exact List.pairwise_map.mpr (xapart.imp fun h => h)
          · subst e; exact absurd (Nat.lt_trans (hlt0 _ hb') (habv _ hb)) (Nat.lt_irrefl _)
      · intro p hp
        rcases List.mem_append.mp hp with e | e
        · obtain ⟨n, hn, _⟩ := cellsR_mem e
          refine ⟨?_, Nat.lt_trans (Nat.lt_trans S.offL.2 S.loc.lt) (xabove n p.1 hn)⟩
          cases q : C.top.get? p.1 with
          | none => rfl
          | some o => exact absurd (Heap.lt_size (S.top _ _ q)) (Nat.not_lt.mpr (Nat.le_of_lt (xabove n p.1 hn)))
        · rcases List.mem_cons.mp e with e | e
          · subst e; exact S.offL
          · exact S.off p e
      · intro p hp
        rcases List.mem_append.mp hp with e | e
        · obtain ⟨n, hn, e2⟩ := cellsR_mem e
          have hlk : (cellsFrom (s.heap.objs.size + 1) (scopeOf st).names []).lookup n = some p.1 := by
            have hnn := hcn s.heap.objs.size
            generalize cellsFrom (s.heap.objs.size + 1) (scopeOf st).names [] = l at hn hnn
            induction l with
            | nil => cases hn
            | cons q l ih =>
              rw [List.lookup_cons]
              rcases List.mem_cons.mp hn with e | e
              · subst e; simp
              · have hne : n ≠ q.1 := fun z => (List.nodup_cons.mp hnn).1 (List.mem_map.mpr ⟨(n, p.1), e, z⟩)
                rw [beq_eq_false_iff_ne.mpr hne]
                exact ih e (List.nodup_cons.mp hnn).2
          have hc := xcell n p.1 hlk
          rw [bindC_lookup hnd'] at hc
          have hkc : ¬ ((mkEnv (scopeOf st) s.heap.objs.size (cellsFrom (s.heap.objs.size + 1) (scopeOf st).names []) (fd.qualname ++ ".<locals>.") a fd.code).kindOf n = some .local) := by
            have := hck s.heap.objs.size n p.1 hn
            show ¬ ((scopeOf st).names.lookup n = some .local)
            rw [this]; decide
          rw [if_neg hkc, Option.or_none] at hc
          rw [e2]
          cases hb : (names.zip ps).lookup n with
          | none => rw [lookup_zip_none hv hb] at hc; exact hc
          | some pv =>
            obtain ⟨v, k3, k4⟩ := lookup_zip hv hb
            rw [k3] at hc
            exact ⟨v, hc, k4.tk tk1⟩
        · rcases List.mem_cons.mp e with e | e
          · subst e; exact B1.loc
          · exact B1.ok p e
    refine wpAny_mono (h _ _ _ _ ⟨o, fd, ho, hd, rfl⟩ (Rm.deeper _) hS1) (fun f s' q => ?_) fun _ _ q => q.elim
    cases f <;> exact q
end


noncomputable def isCell (x : Str × NameKind) : Bool := x.2 == .cell
theorem cellsFrom_names : ∀ (l : List (Str × NameKind)) (n : Nat) (acc : List (Str × Addr)), (cellsFrom n l acc).map (·.1) = ((l.filter isCell).map (·.1)).reverse ++ acc.map (·.1)
  | [], _, _ => by simp [cellsFrom]
  | (x, k) :: r, n, acc => by
    unfold cellsFrom
    cases h : k == NameKind.cell with
    | true => simp [cellsFrom_names r, isCell, h, List.filter_cons]
    | false => simp [cellsFrom_names r, isCell, h, List.filter_cons]
noncomputable def defOk (st : Stmt) (names : List Str) : Bool :=
  decide ((paramsOf st).args.map (·.arg) = names) && decide names.Nodup && names.all (fun n => decide ((scopeOf st).names.lookup n = some .local) || (decide ((scopeOf st).names.lookup n = some .cell) && (((scopeOf st).names.filter isCell).map (·.1)).contains n)) &&
  decide ((((scopeOf st).names.filter isCell).map (·.1)).Nodup) && ((scopeOf st).names.filter isCell).all (fun x => decide ((scopeOf st).names.lookup x.1 = some .cell)) &&
  !(scopeOf st).isCoroutine && !(scopeOf st).isGenerator && decide ((scopeOf st).kind = .function)
theorem lookup_isSome {l : List (Str × Addr)} {n : Str} (h : n ∈ l.map (·.1)) : (l.lookup n).isSome = true := by
  induction l with
  | nil => cases h
  | cons q l ih =>
    rw [List.lookup_cons]
    cases hb : n == q.1 with
    | true => rfl
    | false =>
      rcases List.mem_cons.mp h with e | e
      · rw [e] at hb; simp at hb
      · exact ih e
section
variable {C : Cfg} {h₀ : Heap} {loc : List (Str × PV)} {R : List (Addr × AO)} {s : Shared} {A : Around} {E : Value → Shared → Prop} {L₀ : Addr} {mg mb : Str → Option Value}
theorem call_def {a : Addr} {st : Stmt} {vals : List Value} {ps : List PV} (names : List Str) {k : Nat} {Q : Value → Shared → Prop} (B : Base C mg mb) (D : DefAt C a st) (Rm : Room A (k + 1)) (S : St C h₀ L₀ loc R s) (hv : VRs s.heap ps vals)
    (hbind : ∀ fd : FuncData, fd.params = paramsOf st → fd.defaults = .none → fd.kwdefaults = .none → bindArgs fd ⟨vals, []⟩ = pure (names.zip vals))
    (hlen : names.length = ps.length) (ok : defOk st names = true)
    (h : ∀ L q cd s₁, (∃ o fd, C.top.get? a = some o ∧ o.data = .func fd ∧ cd = fd.code) → Room (A.deeper (fnEnv st L q a cd)) k →
      St C h₀ L ((names.zip ps).filter fun q => decide ((scopeOf st).names.lookup q.1 = some .local)) (cellsR (names.zip ps) (cellsFrom (L + 1) (scopeOf st).names []) ++ (L₀, .ns loc) :: R) s₁ →
      wpAny (model C.prog C.w) (A.deeper (fnEnv st L q a cd)) (execs (bodyOf st) (fnEnv st L q a cd))
        (fun f s' => Q (retV f) s') (fun _ _ => False) s₁) :
    wpAny (model C.prog C.w) A (call (.ref a) vals) Q E s := by
  unfold defOk at ok
  simp only [Bool.and_eq_true, Bool.not_eq_true', decide_eq_true_eq, List.all_eq_true, Bool.or_eq_true] at ok
  obtain ⟨⟨⟨⟨⟨⟨⟨o1, o2⟩, o3⟩, o4⟩, o5⟩, o6⟩, o7⟩, o8⟩ := ok
  refine call_fn (names := names) B D Rm S hv o1 hbind o2 hlen (fun n hn => ?_) (fun L => ?_) (fun L n c hm => ?_) o6 o7 o8 h
  · rcases o3 n hn with q | ⟨q1, q2⟩
    · exact .inl q
    · refine .inr ⟨q1, fun L => lookup_isSome ?_⟩
      rw [cellsFrom_names, List.map_nil, List.append_nil]
      exact List.mem_reverse.mpr (List.contains_iff_mem.mp q2)
  · rw [cellsFrom_names, List.map_nil, List.append_nil]
    exact (List.reverse_perm _).nodup_iff.mpr o4
  · have : n ∈ (cellsFrom (L + 1) (scopeOf st).names []).map (·.1) := List.mem_map_of_mem (f := (·.1)) hm
    rw [cellsFrom_names, List.map_nil, List.append_nil] at this
    obtain ⟨x, hx, rfl⟩ := List.mem_map.mp (List.mem_reverse.mp this)
    exact o5 x hx
end

/-- back in the caller's frame -/
theorem St.back {C : Cfg} {h₀ : Heap} {L L₀ : Addr} {loc loc₀ : List (Str × PV)} {X R : List (Addr × AO)} {s : Shared} (S : St C h₀ L loc (X ++ (L₀, .ns loc₀) :: R) s) : St C h₀ L₀ loc₀ R s := by
  have hm : (L₀, AO.ns loc₀) ∈ X ++ (L₀, .ns loc₀) :: R := by simp
  have hR : R.Sublist (X ++ (L₀, .ns loc₀) :: R) := (List.sublist_cons_self ..).trans (List.sublist_append_right ..)
  have hN : ((L₀, AO.ns loc₀) :: R).Sublist (X ++ (L₀, .ns loc₀) :: R) := List.sublist_append_right ..
  exact ⟨S.gens, S.drawn, S.os, S.top, S.tk, S.ok _ hm, S.off _ hm, ((List.nodup_cons.mp S.nodup).2).sublist (show (L₀ :: R.map (·.1)).Sublist _ from hN.map (fun p : Addr × AO => p.1)), fun p hp => S.off p (hR.mem hp), fun p hp => S.ok p (hR.mem hp)⟩
end Mine

namespace Mine

open PySem PySem.W PyProof.Rows PySem.Calls

noncomputable def theDef (i : Nat) : Stmt := (PySem.Challenge.pw_ij0177_01.main.body)[i]?.getD (.Pass ⟨0, 0, 0, 0⟩)

/-! ### texts as lists of signs -/
noncomputable abbrev T := List Nat
noncomputable def toS (l : T) : Str := ⟨l.toArray⟩
@[simp] theorem toS_length (l : T) : (toS l).length = l.length := by simp [toS, Str.length]
@[simp] theorem toS_inj {l m : T} : toS l = toS m ↔ l = m := by simp [toS]
theorem toS_append (l m : T) : toS l ++ toS m = toS (l ++ m) := by
  show Str.append _ _ = _
  simp [Str.append, toS]
@[simp] theorem toS_cps (l : T) : (toS l).cps.toList = l := by simp [toS]
theorem toS_of (x : Str) : x = toS x.cps.toList := by cases x; simp [toS]
theorem toS_beq (l m : T) : (toS l == toS m) = decide (l = m) := by
  rw [Bool.eq_iff_iff]; simp

theorem slice_drop (l : T) (n : Nat) : Txt.slice (toS l) (some (n : Int)) none = toS (l.drop n) := by
  by_cases h : n ≤ l.length
  · rw [slice_from_eq (b := (l.length : Int)) (by lia) (by rw [toS_length]; lia) (by rw [toS_length])]
    simp only [toS_cps, toS]
    congr 2
    rw [show ((l.length : Int) - (n : Int)).toNat = l.length - n by lia, Int.toNat_natCast]
    exact List.take_of_length_le (by simp)
  · rw [slice_beyond (by rw [toS_length]; lia), List.drop_eq_nil_of_le (by lia)]
    rfl
theorem slice_take (l : T) (n : Nat) : Txt.slice (toS l) none (some (n : Int)) = toS (l.take n) := by
  have := beq_iff_eq.mp (slice_to_min_closes (x := toS l) (n := n) (m := if ((toS l).length : Int) < n then ((toS l).length : Int) else n) (by lia) rfl)
  rw [this]
  simp only [toS_cps, toS_length, Int.toNat_zero, List.drop_zero, Int.sub_zero]
  show toS _ = _
  rw [toS_inj]
  split
  · rw [Int.toNat_natCast, List.take_of_length_le (Nat.le_refl _), List.take_of_length_le (by lia)]
  · rw [Int.toNat_natCast]

theorem sizeT : sizeLine = 16777216 := sizeLine_eq

section
variable {C : Cfg} {h₀ : Heap} {loc : List (Str × PV)} {R : List (Addr × AO)} {s : Shared} {A : Around} {E : Value → Shared → Prop} {env : Env} {mg mb : Str → Option Value} {L : Addr}

theorem stKept : KeptByPush (St C h₀ L loc R) := fun s ob k S => S.keeps fun b o e => Heap.get?_push_of_some _ e
/-! ### a call of a def of the text, by its name -/
theorem r_call {f : Str} {p pos : Pos} {a : Addr} {st : Stmt} {e : Expr} {rest : List Expr} {Q : Value → Shared → Prop} (B : Base C mg mb) (S : St C h₀ L loc R s) (D : DefAt C a st) (hv : mg f = some (.ref a))
    (h : wpAny (model C.prog C.w) A (spliced (backTo pos (starEach (e :: rest) env))) (fun vs s₁ => (∀ b o, C.top.get? b = some o → s₁.heap.get? b = some o) ∧ wpAny (model C.prog C.w) A (call (.ref a) vs) Q E s₁) E s)
    (he : autoParam (starEach (e :: rest) env = (false, eval e env) :: starEach rest env) rflT)
    (hg : autoParam (env.globals = mainGlobals) rflT) (hk : autoParam (env.scope.kind = .function) rflT) (hl : autoParam (env.kindOf f = some .globalImplicit) rflT) (hd : autoParam ((f == ("__debug__" : Str)) = false) decT) :
    wpAny (model C.prog C.w) A (eval (.Call (.Name f p) (e :: rest) [] pos) env) Q E s := by
  obtain ⟨o, fd, ho, hdt, _⟩ := D.ex
  refine wpAny_Call_ofName (nm_g B S hv ?_ hg hk hl hd)
  show wpAny _ A (callWith pos (.ref a) [] (backTo pos (starEach (e :: rest) env)) []) Q E s
  refine callWith_function (o := o) (fd := fd) ?_
  rw [he] at h ⊢
  exact evalArgs_plain (wpAny_mono h (fun vs s₁ q => ⟨⟨q.1 _ _ ho, hdt⟩, q.2⟩) fun _ _ q => q)
theorem r_call0 {f : Str} {p pos : Pos} {a : Addr} {st : Stmt} {Q : Value → Shared → Prop} (B : Base C mg mb) (S : St C h₀ L loc R s) (D : DefAt C a st) (hv : mg f = some (.ref a))
    (h : wpAny (model C.prog C.w) A (call (.ref a) []) Q E s)
    (hg : autoParam (env.globals = mainGlobals) rflT) (hk : autoParam (env.scope.kind = .function) rflT) (hl : autoParam (env.kindOf f = some .globalImplicit) rflT) (hd : autoParam ((f == ("__debug__" : Str)) = false) decT) :
    wpAny (model C.prog C.w) A (eval (.Call (.Name f p) [] [] pos) env) Q E s := by
  obtain ⟨o, fd, ho, hdt, _⟩ := D.ex
  refine wpAny_Call_ofName (nm_g B S hv ?_ hg hk hl hd)
  show wpAny _ A (callWith pos (.ref a) [] [] []) Q E s
  exact callWith_function (o := o) (fd := fd) (PySem.evalArgs_none ⟨⟨S.top _ _ ho, hdt⟩, h⟩)
/-- a built-in function, by its name -/
theorem r_bi {f : Str} {id : String} {p pos : Pos} {e : Expr} {rest : List Expr} {Q : Value → Shared → Prop} (B : Base C mg mb) (S : St C h₀ L loc R s) (hv : mg f = none ∧ mb f = some (.builtin id))
    (h : wpAny (model C.prog C.w) A (spliced (backTo pos (starEach (e :: rest) env))) (fun vs s₁ => wpAny (model C.prog C.w) A (call (.builtin id) vs) Q E s₁) E s)
    (he : autoParam (starEach (e :: rest) env = (false, eval e env) :: starEach rest env) rflT) (hpl : autoParam ((backTo pos (starEach (e :: rest) env)).any (·.1) = false) rflT)
    (hg : autoParam (env.globals = mainGlobals) rflT) (hb : autoParam (env.builtins = builtinsNs) rflT) (hk : autoParam (env.scope.kind = .function) rflT) (hl : autoParam (env.kindOf f = some .globalImplicit) rflT) (hd : autoParam ((f == ("__debug__" : Str)) = false) decT) :
    wpAny (model C.prog C.w) A (eval (.Call (.Name f p) (e :: rest) [] pos) env) Q E s := by
  refine wpAny_Call_ofName (nm_bi B S hv ?_ hg hb hk hl hd)
  show wpAny _ A (callWith pos (.builtin id) [] (backTo pos (starEach (e :: rest) env)) []) Q E s
  refine callWith_builtin hpl ?_
  rw [he] at h ⊢
  exact evalArgs_plain h

theorem r_len_str {l : T} {t : Tok} {Q : Value → Shared → Prop} (S : St C h₀ L loc R s) (hz : l.length ≤ 16000000) (h : ∀ t' s', St C h₀ L loc R s' → Q (.int (l.length : Int) t') s') : wpAny (model C.prog C.w) A (call (.builtin "len") [.str (toS l) t]) Q E s := by
  refine PyProof.Rows.len_str (by rw [toS_length]; lia) ?_
  rw [toS_length]
  exact h _ _ (S.tok _)
theorem r_sub {a b : Int} {t u : Tok} {Q : Value → Shared → Prop} (S : St C h₀ L loc R s) (h : ∀ t' s', St C h₀ L loc R s' → Q (.int (a - b) t') s') : wpAny (model C.prog C.w) A (binaryOp .Sub (.int a t) (.int b u)) Q E s :=
  PyProof.Rows.sub_int (h _ _ (S.tok _))
theorem r_add {a b : Int} {t u : Tok} {Q : Value → Shared → Prop} (S : St C h₀ L loc R s) (h : ∀ t' s', St C h₀ L loc R s' → Q (.int (a + b) t') s') : wpAny (model C.prog C.w) A (binaryOp .Add (.int a t) (.int b u)) Q E s :=
  PyProof.Rows.add_int (h _ _ (S.tok _))
theorem r_cat {l m : T} {t u : Tok} {Q : Value → Shared → Prop} (S : St C h₀ L loc R s) (hz : l.length + m.length ≤ 16000000) (h : ∀ t' s', St C h₀ L loc R s' → Q (.str (toS (l ++ m)) t') s') : wpAny (model C.prog C.w) A (binaryOp .Add (.str (toS l) t) (.str (toS m) u)) Q E s := by
  refine PyProof.Rows.add_str (fun t' tk => ?_) (by rw [toS_length, toS_length, sizeT]; lia)
  rw [toS_append]
  exact h _ _ (S.tok _)

inductive FromK (C : Cfg) (h₀ : Heap) (L : Addr) (loc : List (Str × PV)) (R : List (Addr × AO)) (l : T) (Q : Value → Shared → Prop) (i : Value) (s₂ : Shared) : Prop
  | mk (n : Nat) (u : Tok)
    (e0 : i = .int (n : Int) u)
    (e1 : St C h₀ L loc R s₂)
    (e2 : ∀ t' s', St C h₀ L loc R s' → Q (.str (toS (l.drop n)) t') s') : FromK C h₀ L loc R l Q i s₂

inductive FromO (C : Cfg) (h₀ : Heap) (L : Addr) (loc : List (Str × PV)) (R : List (Addr × AO)) (A : Around) (env : Env) (lo : Expr) (Q : Value → Shared → Prop) (E : Value → Shared → Prop) (o : Value) (s₁ : Shared) : Prop
  | mk (l : T) (t : Tok)
    (e0 : o = .str (toS l) t)
    (e1 : l.length ≤ 16000000)
    (e2 : wpAny (model C.prog C.w) A (eval lo env) (FromK C h₀ L loc R l Q) E s₁) : FromO C h₀ L loc R A env lo Q E o s₁

/-- x[n:] -/
theorem r_from {value lo : Expr} {p pos : Pos} {Q : Value → Shared → Prop} (Su_ : St C h₀ L loc R s)
    (h : wpAny (model C.prog C.w) A (eval value env) (FromO C h₀ L loc R A env lo Q E) E s)
    (ht : ∀ o r, letTemporaryGo value o r = pure () := by intro _ _; rfl) :
    wpAny (model C.prog C.w) A (eval (.Subscript value (.Slice (some lo) none none p) pos) env) Q E s := by
  refine Subscript_Slice (wpAny_mono h (fun o s₁ q => ?_) fun _ _ q => q) ht
  obtain ⟨l, t, rfl, hz, q⟩ := q
  refine wpAny_Slice (evalPart_some_step (wpAny_mono q (fun i s₂ q => ?_) fun _ _ q => q))
  obtain ⟨n, u, rfl, S₂, q⟩ := q
  refine evalPart_none_step (evalPart_none_step ?_)
  refine SBG.sliceItem_sn stKept S₂ (fun s' t' S' => ?_) (by rw [toS_length, sizeT]; lia)
  rw [slice_drop]
  exact q _ _ S'
inductive UptoK (C : Cfg) (h₀ : Heap) (L : Addr) (loc : List (Str × PV)) (R : List (Addr × AO)) (l : T) (Q : Value → Shared → Prop) (i : Value) (s₂ : Shared) : Prop
  | mk (n : Nat) (u : Tok)
    (e0 : i = .int (n : Int) u)
    (e1 : St C h₀ L loc R s₂)
    (e2 : ∀ t' s', St C h₀ L loc R s' → Q (.str (toS (l.take n)) t') s') : UptoK C h₀ L loc R l Q i s₂

inductive UptoO (C : Cfg) (h₀ : Heap) (L : Addr) (loc : List (Str × PV)) (R : List (Addr × AO)) (A : Around) (env : Env) (hi : Expr) (Q : Value → Shared → Prop) (E : Value → Shared → Prop) (o : Value) (s₁ : Shared) : Prop
  | mk (l : T) (t : Tok)
    (e0 : o = .str (toS l) t)
    (e1 : l.length ≤ 16000000)
    (e2 : wpAny (model C.prog C.w) A (eval hi env) (UptoK C h₀ L loc R l Q) E s₁) : UptoO C h₀ L loc R A env hi Q E o s₁

/-- x[:n] -/
theorem r_upto {value hi : Expr} {p pos : Pos} {Q : Value → Shared → Prop} (Su_ : St C h₀ L loc R s)
    (h : wpAny (model C.prog C.w) A (eval value env) (UptoO C h₀ L loc R A env hi Q E) E s)
    (ht : ∀ o r, letTemporaryGo value o r = pure () := by intro _ _; rfl) :
    wpAny (model C.prog C.w) A (eval (.Subscript value (.Slice none (some hi) none p) pos) env) Q E s := by
  refine Subscript_Slice (wpAny_mono h (fun o s₁ q => ?_) fun _ _ q => q) ht
  obtain ⟨l, t, rfl, hz, q⟩ := q
  refine wpAny_Slice (evalPart_none_step (evalPart_some_step (wpAny_mono q (fun i s₂ q => ?_) fun _ _ q => q)))
  obtain ⟨n, u, rfl, S₂, q⟩ := q
  refine evalPart_none_step ?_
  refine SBG.sliceItem_ns stKept S₂ (fun s' t' S' => ?_) (by rw [toS_length, sizeT]; lia)
  rw [slice_take]
  exact q _ _ S'
end

/-! ### law_leftu_ -/
noncomputable def leftT (w p : T) (behind : Bool) : T := if behind then w.take (w.length - p.length) else w.drop p.length

theorem left_spec {C : Cfg} {h₀ : Heap} {L : Addr} {loc : List (Str × PV)} {R : List (Addr × AO)} {s : Shared} {A : Around} {E : Value → Shared → Prop} {mg mb : Str → Option Value} {a : Addr} {k : Nat} {w p : T} {behind : Bool} {t u : Tok} {Q : Value → Shared → Prop}
    (B : Base C mg mb) (hlen : mg "len" = none ∧ mb "len" = some (.builtin "len")) (D : DefAt C a (theDef 66)) (Rm : Room A (k + 1)) (S : St C h₀ L loc R s) (hle : p.length ≤ w.length) (hz : w.length ≤ 16000000)
    (h : ∀ t s', St C h₀ L loc R s' → Q (.str (toS (leftT w p behind)) t) s') :
    wpAny (model C.prog C.w) A (call (.ref a) [.str (toS w) t, .str (toS p) u, .bool behind]) Q E s := by
  refine call_def ["whole", "part", "behind"] (ps := [.s (toS w), .s (toS p), .b behind]) B D Rm S ⟨.str _ _, .str _ _, .bool _, trivial⟩ (fun fd e1 e2 e3 => ?_) rfl (by decide +kernel) (fun L' q cd s₁ _ Rm' S₁ => ?_)
  · obtain ⟨n, qn, ps, bd, sc, gl, cl, df, kd⟩ := fd
    dsimp only at e1 e2 e3
    subst e1 e2 e3
    rfl
  · replace S₁ := S₁.weaken (loc' := [("whole", .s (toS w)), ("part", .s (toS p)), ("behind", .b behind)]) ⟨by rfl, by rfl, by rfl, trivial⟩
    change St C h₀ L' _ ((L, .ns loc) :: R) s₁ at S₁
    refine wpAny_execs_cons (wpAny_Return_some (wpAny_IfExp (wpAny_isTrue_value (nm_b S₁ rfl (wpAny_truthy_bool ?_)))))
    cases behind with
    | true =>
      rw [if_pos rfl]
      refine r_upto S₁ (nm_s S₁ rfl fun t1 => ⟨w, t1, rfl, hz, ?_⟩)
      refine wpAny_BinOp (r_bi B S₁ hlen (wpAny_items_cons (nm_s S₁ rfl fun t2 => wpAny_items_nil (r_len_str S₁ hz fun t3 s₂ S₂ => ?_))))
      refine r_bi B S₂ hlen (wpAny_items_cons (nm_s S₂ rfl fun t4 => wpAny_items_nil (r_len_str S₂ (by lia) fun t5 s₃ S₃ => ?_)))
      refine r_sub S₃ fun t6 s₄ S₄ => ⟨w.length - p.length, t6, by rw [Int.ofNat_sub hle], S₄, fun t7 s₅ S₅ => ?_⟩
      exact h _ _ (St.back (X := []) S₅)
    | false =>
      rw [if_neg Bool.false_ne_true]
      refine r_from S₁ (nm_s S₁ rfl fun t1 => ⟨w, t1, rfl, hz, ?_⟩)
      refine r_bi B S₁ hlen (wpAny_items_cons (nm_s S₁ rfl fun t2 => wpAny_items_nil (r_len_str S₁ (by lia) fun t3 s₂ S₂ => ⟨p.length, t3, rfl, S₂, fun t7 s₅ S₅ => ?_⟩)))
      exact h _ _ (St.back (X := []) S₅)
end Mine

namespace Mine

open PySem PySem.W PyProof.Rows PySem.Calls

section
variable {C : Cfg} {h₀ : Heap} {L : Addr} {loc : List (Str × PV)} {R : List (Addr × AO)} {s : Shared}
theorem set_keys {R : List (Addr × AO)} {i : Nat} {a : Addr} {x x' : AO} (e : R[i]? = some (a, x)) : (R.set i (a, x')).map (·.1) = R.map (·.1) := by
  induction R generalizing i with
  | nil => simp at e
  | cons p r ih =>
    cases i with
    | zero => cases e; rfl
    | succ i => simp only [List.set_cons_succ, List.map_cons]; rw [ih (by simpa using e)]
/-- a thing of the ledger is changed where it stands -/
theorem St.upd (S : St C h₀ L loc R s) (i : Nat) {a : Addr} {x x' : AO} (ei : R[i]? = some (a, x)) {h' : Heap} {t : Nat} (e : Heap.ExtBut a s.heap h') (r : TK s.heap h' → OR C h' a x') :
    St C h₀ L loc (R.set i (a, x')) { s with heap := h', toks := t } := by
  have hm := List.mem_of_getElem? ei
  obtain ⟨o, ho, hn⟩ := (S.ok _ hm).notTuple
  have k := TK.of_but e ho hn
  obtain ⟨n1, n2⟩ := List.nodup_cons.mp S.nodup
  have hL : L ≠ a := fun q => n1 (by rw [q]; exact List.mem_map_of_mem (f := (·.1)) hm)
  have hto := S.off _ hm
  have hta : C.top.get? a = none := hto.1
  refine ⟨S.gens, S.drawn, S.os, fun b o' eb => ?_, S.tk.trans k, S.loc.to k fun o' eb => e _ _ hL eb, S.offL, by rw [set_keys ei]; exact S.nodup, fun p hp => ?_, fun p hp => ?_⟩
  · have : b ≠ a := fun q => by rw [q, hta] at eb; cases eb
    exact e b o' this (S.top b o' eb)
  · rcases List.mem_or_eq_of_mem_set hp with q | q
    · exact S.off p q
    · rw [q]; exact hto
  · by_cases hpa : p.1 = a
    · have hp' : p = (a, x') := by
        rw [List.mem_iff_getElem?] at hp
        obtain ⟨j, hj⟩ := hp
        rw [List.getElem?_set] at hj
        by_cases hij : i = j
        · rw [if_pos hij] at hj
          split at hj
          · exact (Option.some.inj hj).symm
          · cases hj
        · rw [if_neg hij] at hj
          exfalso
          have h1 : (R.map (·.1))[i]? = some a := by rw [List.getElem?_map, ei]; rfl
          have h2 : (R.map (·.1))[j]? = some a := by rw [List.getElem?_map, hj, ← hpa]; rfl
          obtain ⟨hi1, hi2⟩ := List.getElem?_eq_some_iff.mp h1
          obtain ⟨hj1, hj2⟩ := List.getElem?_eq_some_iff.mp h2
          exact hij ((List.getElem_inj n2).mp (hi2.trans hj2.symm))
      rw [hp']; exact r k
    · rcases List.mem_or_eq_of_mem_set hp with q | q
      · exact (S.ok p q).to k fun o' eb => e _ _ hpa eb
      · rw [q] at hpa; exact absurd rfl hpa
/-- the head is lost -/
theorem St.lose {a : Addr} {x : AO} (S : St C h₀ L loc ((a, x) :: R) s) {h' : Heap} {t : Nat} (e : Heap.ExtBut a s.heap h') : St C h₀ L loc R { s with heap := h', toks := t } := by
  obtain ⟨o, ho, hn⟩ := (S.ok _ (List.mem_cons_self ..)).notTuple
  have k := TK.of_but e ho hn
  obtain ⟨n1, n2⟩ := List.nodup_cons.mp S.nodup
  have hL : L ≠ a := fun q => n1 (by rw [q]; exact List.mem_cons_self ..)
  have hta : C.top.get? a = none := (S.off _ (List.mem_cons_self ..)).1
  have B := S.drop
  refine ⟨S.gens, S.drawn, S.os, fun b o' eb => ?_, S.tk.trans k, S.loc.to k fun o' eb => e _ _ hL eb, S.offL, B.nodup, B.off, fun p hp => ?_⟩
  · have : b ≠ a := fun q => by rw [q, hta] at eb; cases eb
    exact e b o' this (S.top b o' eb)
  · have hne : p.1 ≠ a := fun z => (List.nodup_cons.mp n2).1 (by rw [← z]; exact List.mem_map_of_mem (f := (·.1)) hp)
    exact (B.ok p hp).to k fun o' eb => e _ _ hne eb
end

section
variable {C : Cfg} {h₀ : Heap} {loc : List (Str × PV)} {R : List (Addr × AO)} {s : Shared} {A : Around} {E : Value → Shared → Prop} {env : Env} {mg mb : Str → Option Value} {L : Addr}

/-- a for, over anything that walks -/
theorem r_for_walk {Rr : Result → Shared → Prop} {target : Expr} {body : List Stmt} {I : Addr} {fp : List Addr} {n : Nat} {Pv : Nat → Value → Prop} {Sti : Nat → Heap → Prop} {o₀ : Obj}
    (W : Walks C.prog C.w A I fp [I] n Pv Sti) (P : Nat → List (Str × PV) → List (Addr × AO) → Prop)
    (hobj : ∀ i h, Sti i h → ∃ o, h.get? I = some o ∧ o.cls ≠ .type "tuple")
    (hfp : ∀ b ∈ fp, b = I ∨ ∃ o, ∀ i loc R', P i loc R' → (b, AO.raw o) ∈ R')
    (S : St C h₀ L loc ((I, .raw o₀) :: R) s) (h0 : P 0 loc R) (hst : Sti 0 s.heap)
    (turn : ∀ i v o loc' R' s', i < n → Pv i v → P i loc' R' → St C h₀ L loc' ((I, .raw o) :: R') s' →
      wpAny (model C.prog C.w) A (assign target env v) (fun _ s₂ => wpAny (model C.prog C.w) A (execs body env) (fun f s₃ => match f with
        | .next | .cont => ∃ loc'' R'', P (i + 1) loc'' R'' ∧ St C h₀ L loc'' ((I, .raw o) :: R'') s₃
        | .brk => Rr (.ok .next) s₃
        | .ret v => Rr (.ok (.ret v)) s₃) (fun _ _ => False) s₂) (fun _ _ => False) s')
    (done : ∀ loc' R' s', P n loc' R' → St C h₀ L loc' R' s' → Rr (.ok .next) s')
    (ht : ∀ v, letOwnedTupleGo target (.ref I) v = pure () := by intro _; rfl) :
    codeAny (model C.prog C.w) A (.forLoop target (.ref I) body [] env) Rr s := by
  refine codeAny_forLoop (fun k s' => ∃ i loc' R' o, i + k = n ∧ P i loc' R' ∧ St C h₀ L loc' ((I, .raw o) :: R') s' ∧ Sti i s'.heap) (fun k s' hI => ?_) n ⟨0, loc, R, o₀, Nat.zero_add _, h0, S, hst⟩ ht
  obtain ⟨i, loc', R', o, hk, hP, S', hs'⟩ := hI
  by_cases hi : i < n
  · refine W.item i s' _ _ hi hs' fun v h' tk hv hs2 hkeep => ?_
    obtain ⟨o', ho', hc'⟩ := hobj _ _ hs2
    have ext : Heap.ExtBut I s'.heap h' := fun b x hb e => hkeep b x (by simpa using hb) e
    have S2 : St C h₀ L loc' ((I, .raw o') :: R') { s' with heap := h', toks := tk } := S'.upd 0 (x' := .raw o') rfl ext fun _ => ⟨ho', hc'⟩
    refine wpAny_mono (turn i v o' loc' R' _ hi hv hP S2) (fun _ s₂ q => wpAny_mono q (fun f s₃ q => ?_) fun _ _ q => q.elim) fun _ _ q => q.elim
    have next : (∃ loc'' R'', P (i + 1) loc'' R'' ∧ St C h₀ L loc'' ((I, .raw o') :: R'') s₃) → ∃ m, m < k ∧ ∃ i loc' R' o, i + m = n ∧ P i loc' R' ∧ St C h₀ L loc' ((I, .raw o) :: R') s₃ ∧ Sti i s₃.heap := by
      rintro ⟨loc'', R'', hP2, S3⟩
      refine ⟨k - 1, by lia, i + 1, loc'', R'', o', by lia, hP2, S3, W.frame (i + 1) h' s₃.heap hs2 fun b hb x e => ?_⟩
      rcases hfp b hb with rfl | ⟨ob, hob⟩
      · rw [ho'] at e; cases e
        exact (S3.ok _ (List.mem_cons_self ..)).1
      · have m1 := (S2.ok (b, .raw ob) (List.mem_cons_of_mem _ (hob _ _ _ hP))).1
        have m2 := (S3.ok (b, .raw ob) (List.mem_cons_of_mem _ (hob _ _ _ hP2))).1
        have : h'.get? b = some ob := m1
        rw [this] at e; cases e
        exact m2
    cases f with
    | next => exact next q
    | cont => exact next q
    | brk => exact q
    | ret v => exact q
  · have hin : i = n := by lia
    subst hin
    refine W.done s' _ _ hs' fun h' tk hkeep => ?_
    have ext : Heap.ExtBut I s'.heap h' := fun b x hb e => hkeep b x (by simpa using hb) e
    exact wpAny_execs_nil (done loc' R' _ hP (S'.lose (t := tk) ext))

inductive ForStrK (C : Cfg) (h₀ : Heap) (A : Around) (env : Env) (x : Str) (body : List Stmt) (P : Nat → List (Str × PV) → List (Addr × AO) → Prop) (Q : Flow → Shared → Prop) (v : Value) (s₁ : Shared) : Prop
  | mk (l : T) (t : Tok) (loc : List (Str × PV)) (R : List (Addr × AO))
    (e0 : v = .str (toS l) t)
    (e1 : St C h₀ env.locals loc R s₁)
    (e2 : P 0 loc R)
    (e3 : (∀ i c I o loc' R' s', l[i]? = some c → P i loc' R' → St C h₀ env.locals ((x, .s (toS [c])) :: loc') ((I, .raw o) :: R') s' →
        wpAny (model C.prog C.w) A (execs body env) (fun f s₃ => match f with
          | .next | .cont => ∃ loc'' R'', P (i + 1) loc'' R'' ∧ St C h₀ env.locals loc'' ((I, .raw o) :: R'') s₃
          | .brk => Q .next s₃
          | .ret v => Q (.ret v) s₃) (fun _ _ => False) s'))
    (e4 : (∀ loc' R' s', P l.length loc' R' → St C h₀ env.locals loc' R' s' → Q .next s')) : ForStrK C h₀ A env x body P Q v s₁

/-- a for over the signs of a text -/
theorem r_for_str {x : Str} {px pos : Pos} {iter : Expr} {body : List Stmt} {Q : Flow → Shared → Prop} (Su_ : St C h₀ L loc R s) (hh : A.handled = none) (P : Nat → List (Str × PV) → List (Addr × AO) → Prop)
    (h : wpAny (model C.prog C.w) A (eval iter env) (ForStrK C h₀ A env x body P Q) E s)
    (hs : ∀ v, foldedSetIterable iter env v = pure v := by intro _; rfl)
    (hk : autoParam (env.scope.kind = .function) rflT) (hl : autoParam (env.kindOf x = some .local) rflT) :
    wpAny (model C.prog C.w) A (exec (.For (.Name x px) iter body [] pos) env) Q E s := by
  refine wpAny_For (wpAny_mono h (fun v s₁ q => ?_) fun _ _ q => q) hs
  obtain ⟨l, t, loc, R, rfl, S, h0, turn, done⟩ := q
  have key : ∀ (ty : String) (s₂ : Shared), ty ≠ "tuple" → St C h₀ env.locals loc ((s₁.heap.objs.size, .raw { cls := .type ty, data := .fields #[.str (toS l) t, .int 0 0] }) :: R) s₂ →
      s₂.heap.IsStrIter s₁.heap.objs.size ty (toS l) t 0 → Walks C.prog C.w A s₁.heap.objs.size [s₁.heap.objs.size] [s₁.heap.objs.size] (toS l).cps.size (SignAt (toS l)) (fun i h => h.IsStrIter s₁.heap.objs.size ty (toS l) t i) →
      codeAny (model C.prog C.w) A (.forLoop (.Name x px) (.ref s₁.heap.objs.size) body [] env) (fun r s' => match r with | .ok f => Q f s' | .error e => cameBackBy (model C.prog C.w) A env E e s') s₂ := by
    intro ty s₂ hty S₂ hit W
    refine r_for_walk (L := env.locals) W P (fun i h hh => ?_) (fun b hb => .inl (by simpa using hb)) S₂ h0 hit (fun i v o loc' R' s' hi hv hP S' => ?_) fun loc' R' s' hP S' => ?_
    · obtain ⟨o, ho, hc, _⟩ := hh
      exact ⟨o, ho, by rw [hc]; simpa using hty⟩
    · obtain ⟨c, u, hc, rfl⟩ := hv
      refine wpAny_assign_Name (stloc (p := .s (toS [c])) S' (.str _ _) (fun s'' S'' => ?_) hk hl)
      refine turn i c _ o loc' R' s'' ?_ hP S''
      simpa [toS] using hc
    · have e : (toS l).cps.size = l.length := by simp [toS]
      rw [e] at hP
      exact done loc' R' s' hP S'
  cases ha : (toS l).cps.all (· < 128) with
  | true =>
    refine wpAny_pyIter_ascii ha ?_
    refine key "str_ascii_iterator" _ (by decide) (S.pushed ⟨Heap.get?_push_size _ rfl, by simp⟩) ⟨_, Heap.get?_push_size _ rfl, rfl, rfl⟩ (Walks.strAscii hh _ _ _)
  | false =>
    refine wpAny_pyIter_wide ha ?_
    refine key "str_iterator" _ (by decide) (S.pushed ⟨Heap.get?_push_size _ rfl, by simp⟩) ⟨_, Heap.get?_push_size _ rfl, rfl, rfl⟩ (Walks.strWide hh _ _ _)

/-! ### tuples taken apart -/
theorem aio_cons {t : Value → Sem Unit} {ts : List (Value → Sem Unit)} {x : Value} {xs : List Value} {Q : Unit → Shared → Prop}
    (h : wpAny (model C.prog C.w) A (t x) (fun _ s' => wpAny (model C.prog C.w) A (assignInOrder ts xs) Q E s') E s) : wpAny (model C.prog C.w) A (assignInOrder (t :: ts) (x :: xs)) Q E s := by
  show wpAny _ A (holding xs (t x) >>= fun _ => assignInOrder ts xs) Q E s
  exact wpAny_bind (wpAny_holding h)
theorem aio_nil {Q : Unit → Shared → Prop} (h : Q () s) : wpAny (model C.prog C.w) A (assignInOrder [] []) Q E s := wpAny_pure h

inductive UnpackK (C : Cfg) (h₀ : Heap) (A : Around) (env : Env) (elts : List Expr) (Q : Flow → Shared → Prop) (E : Value → Shared → Prop) (v : Value) (s₁ : Shared) : Prop
  | mk (a : Addr) (items : Array Value) (L : Addr) (loc : List (Str × PV)) (R : List (Addr × AO))
    (e0 : v = .ref a)
    (e1 : s₁.heap.IsTuple a items)
    (e2 : (assignEach elts env).length = items.size)
    (e3 : St C h₀ L loc R s₁)
    (e4 : (∀ s₂, St C h₀ L loc R s₂ → TK s₁.heap s₂.heap → wpAny (model C.prog C.w) A (assignInOrder ((assignEach elts env).map (·.2)) items.toList) (fun _ => Q .next) E s₂)) : UnpackK C h₀ A env elts Q E v s₁

/-- a, b, .. = <tuple>, name by name -/
theorem r_unpack {elts : List Expr} {k : Nat} {tpos pos : Pos} {value : Expr} {Q : Flow → Shared → Prop} (Su_ : St C h₀ L loc R s) (hh : A.handled = none)
    (h : wpAny (model C.prog C.w) A (eval value env) (UnpackK C h₀ A env elts Q E) E s)
    (hstar : autoParam ((assignEach elts env).findIdx? (·.1) = none) rflT)
    (hs : autoParam (swapsWithSole [.Tuple elts k tpos] value pos.line env = pure false) rflT) (hw : autoParam (swappedStores [.Tuple elts k tpos] value env = pure none) rflT) :
    wpAny (model C.prog C.w) A (exec (.Assign [.Tuple elts k tpos] value pos) env) Q E s := by
  refine wpAny_Assign_stores (wpAny_mono h (fun v s₁ q => ?_) fun _ _ q => q) hs hw
  obtain ⟨a, items, L, loc, R, rfl, ht, hn, S, q⟩ := q
  show wpAny _ A (assign (.Tuple elts k tpos) env (.ref a)) _ E s₁
  refine wpAny_assign_Tuple hh ht hn hstar fun h' he => ?_
  have kp : ∀ b o, s₁.heap.get? b = some o → h'.get? b = some o := fun b o e => he b o (Nat.ne_of_lt (Heap.lt_size e)) e
  exact q _ (S.keeps' kp) (TK.of_keeps kp)

/-- a, b, .. = x, y, ..: names of the frame alone, from behind -/
theorem r_swap {elts vs : List Expr} {k j : Nat} {tpos vpos pos : Pos} {names : List Str} {Q : Flow → Shared → Prop} (Su_ : St C h₀ L loc R s) (hh : A.handled = none)
    (h : wpAny (model C.prog C.w) A (spliced (backTo vpos (starEach vs env))) (fun xs s₁ => ∃ loc R, xs.length = names.length ∧ xs.length ≤ 100 ∧ St C h₀ L loc R s₁ ∧
      (∀ s₂, St C h₀ L loc R s₂ → TK s₁.heap s₂.heap → wpAny (model C.prog C.w) A (assignInOrder (names.reverse.map fun n => bindName env n) xs.reverse) (fun _ => Q .next) E s₂)) E s)
    (hs : autoParam (swapsWithSole [.Tuple elts k tpos] (.Tuple vs j vpos) pos.line env = pure false) rflT) (hw : autoParam (swappedStores [.Tuple elts k tpos] (.Tuple vs j vpos) env = pure (some names)) rflT) :
    wpAny (model C.prog C.w) A (exec (.Assign [.Tuple elts k tpos] (.Tuple vs j vpos) pos) env) Q E s := by
  rw [exec_Assign_arm]
  refine wpAny_bind (wpAny_standAt ?_)
  rw [hs]
  refine wpAny_bind (wpAny_pure ?_)
  show wpAny _ A (do let v ← eval (.Tuple vs j vpos) env; assignStores env v (← swappedStores [.Tuple elts k tpos] (.Tuple vs j vpos) env) ((assignEach [.Tuple elts k tpos] env).map (·.2))) Q E s
  refine wpAny_bind (wpAny_Tuple (wpAny_mono h (fun xs s₁ q => ?_) fun _ _ q => q))
  obtain ⟨loc, R, hn, hz, S, q⟩ := q
  refine ⟨by rw [sizeT]; lia, ?_⟩
  rw [hw]
  refine wpAny_bind (wpAny_pure ?_)
  show wpAny _ A (do rule "assign.swapped-stores"; let items ← unpackItems (.ref s₁.heap.objs.size) names.length none; assignInOrder (names.reverse.map fun n => bindName env n) items.reverse; pure .next) Q E _
  refine wpAny_bind (wpAny_rule (wpAny_bind ?_))
  have hsz : names.length = (xs.toArray).size := by simp [hn]
  rw [hsz]
  refine wpAny_unpackItems_tuple hh ⟨_, Heap.get?_push_size _ rfl, rfl, _, rfl⟩ fun h' he => ?_
  have kp : ∀ b o, s₁.heap.get? b = some o → h'.get? b = some o := fun b o e => he b o (Nat.ne_of_lt (Heap.lt_size (Heap.get?_push_of_some _ e))) (Heap.get?_push_of_some _ e)
  exact wpAny_bind (wpAny_mono (q _ (S.keeps' kp) (TK.of_keeps kp)) (fun _ s₃ q => wpAny_pure q) fun _ _ q => q)

/-! ### signs in texts -/
theorem r_in_str {l : T} {c : Nat} {t u : Tok} {Q : Value → Shared → Prop} (h : Q (.bool (decide (c ∈ l))) s) : wpAny (model C.prog C.w) A (compareOp .In (.str (toS [c]) t) (.str (toS l) u)) Q E s := by
  refine PyProof.Rows.in_str ?_
  have := StrLaws.found_one (toS l) c
  rw [toS_cps] at this
  have e : (⟨#[c]⟩ : Str) = toS [c] := rfl
  rw [← e, this]
  exact h
theorem r_eq_str {l m : T} {t u : Tok} {Q : Value → Shared → Prop} (h : Q (.bool (decide (l = m))) s) : wpAny (model C.prog C.w) A (compareOp .Eq (.str (toS l) t) (.str (toS m) u)) Q E s := by
  refine PyProof.Rows.eq_str ?_
  rw [toS_beq]; exact h
theorem r_ne_str {l m : T} {t u : Tok} {Q : Value → Shared → Prop} (h : Q (.bool (!decide (l = m))) s) : wpAny (model C.prog C.w) A (compareOp .NotEq (.str (toS l) t) (.str (toS m) u)) Q E s := by
  refine PyProof.Rows.ne_str ?_
  have : (toS l != toS m) = !decide (l = m) := by rw [bne, toS_beq]
  rw [this]; exact h
end
end Mine

namespace Mine

open PySem PySem.W PyProof.Rows PySem.Calls

section
variable {C : Cfg} {h₀ : Heap} {loc : List (Str × PV)} {R : List (Addr × AO)} {s : Shared} {A : Around} {E : Value → Shared → Prop} {env : Env} {mg mb : Str → Option Value} {L : Addr}
theorem sz2 : 2 ≤ sizeLine := by rw [sizeT]; decide
theorem sz3 : 3 ≤ sizeLine := by rw [sizeT]; decide
theorem sz1 : 1 ≤ sizeLine := by rw [sizeT]; decide
theorem sz0 : 0 ≤ sizeLine := Nat.zero_le _
theorem c_t {x : Str} {k : Nat} {pos : Pos} {Q : Value → Shared → Prop} (l : T) (S : St C h₀ L loc R s) (h : ∀ t s', St C h₀ L loc R s' → Q (.str (toS l) t) s') (e : x = toS l := by decide +kernel) :
    wpAny (model C.prog C.w) A (eval (.Constant (.str x) k pos) env) Q E s := by
  subst e; exact c_s S h
/-- [x, y]: two written texts, and whether a text is one of them -/
theorem eqGives_t (l m : T) (t u : Tok) : MeetsSeq.EqGives (.str (toS l) t) (.str (toS m) u) (decide (l = m)) := by
  have := SeqRoads2.EqGives.str (toS l) (toS m) t u
  rw [show ((toS l).cps.toList == (toS m).cps.toList) = decide (l = m) by rw [toS_cps, toS_cps]; rw [Bool.eq_iff_iff]; simp] at this
  exact this
noncomputable def strOf? : Value → T
  | .str x _ => x.cps.toList
  | _ => []
theorem r_in_two {a : Addr} {l1 l2 l : T} {t1 t2 t : Tok} {n : Nat} {Q : Value → Shared → Prop} (ho : s.heap.get? a = some { cls := .type "list", data := .seq #[.str (toS l1) t1, .str (toS l2) t2] n }) (h : Q (.bool (decide (l1 = l) || decide (l2 = l))) s) :
    wpAny (model C.prog C.w) A (compareOp .In (.str (toS l) t) (.ref a)) Q E s := by
  refine SeqInW.in_listW (fun y => decide (strOf? y = l)) (fun y hy => ?_) ⟨_, ho, rfl, _, rfl⟩ ?_
  · simp at hy
    rcases hy with rfl | rfl
    · exact eqGives_t _ _ _ _
    · exact eqGives_t _ _ _ _
  · simpa [strOf?] using h
end

/-- a test that leaves what is known as it is -/
noncomputable def Tst (C : Cfg) (h₀ : Heap) (L : Addr) (loc : List (Str × PV)) (R : List (Addr × AO)) (A : Around) (env : Env) (e : Expr) (b : Bool) : Prop :=
  ∀ (s : Shared) (E : Value → Shared → Prop) (Q : Bool → Shared → Prop), St C h₀ L loc R s → (∀ s', St C h₀ L loc R s' → Q b s') → wpAny (model C.prog C.w) A (PySem.isTrue e env (eval e env)) Q E s
section
variable {C : Cfg} {h₀ : Heap} {loc : List (Str × PV)} {R : List (Addr × AO)} {A : Around} {env : Env} {L : Addr}
theorem Tst.and {x y : Expr} {pos : Pos} {a b : Bool} (h1 : Tst C h₀ L loc R A env x a) (h2 : Tst C h₀ L loc R A env y b) : Tst C h₀ L loc R A env (.BoolOp .And [x, y] pos) (a && b) := fun s E Q S h => by
  refine wpAny_isTrue_BoolOp (wpAny_allTrue_And_cons (h1 s E _ S fun s₁ S₁ => ?_))
  cases a with
  | true =>
    refine wpAny_allTrue_And_cons (h2 s₁ E _ S₁ fun s₂ S₂ => ?_)
    cases b with
    | true => exact wpAny_allTrue_And_nil (h s₂ S₂)
    | false => exact h s₂ S₂
  | false => exact h s₁ S₁
theorem Tst.or {x y : Expr} {pos : Pos} {a b : Bool} (h1 : Tst C h₀ L loc R A env x a) (h2 : Tst C h₀ L loc R A env y b) : Tst C h₀ L loc R A env (.BoolOp .Or [x, y] pos) (a || b) := fun s E Q S h => by
  refine wpAny_isTrue_BoolOp (wpAny_allTrue_Or_cons (h1 s E _ S fun s₁ S₁ => ?_))
  cases a with
  | false =>
    refine wpAny_allTrue_Or_cons (h2 s₁ E _ S₁ fun s₂ S₂ => ?_)
    cases b with
    | false => exact wpAny_allTrue_Or_nil (h s₂ S₂)
    | true => exact h s₂ S₂
  | true => exact h s₁ S₁
end

/-! ### law_plainu_ -/
noncomputable def plainStep (c : Nat) (sg st : T) : Option (T × T) :=
  if st = [93] then (if c = 93 then some (sg, []) else none)
  else if (st = [] ∧ c ∈ [92, 91]) ∨ (st = [91] ∧ c = 92) then some (sg, st ++ [c])
  else if (st = [] ∧ c ∈ [46, 94, 36, 42, 43, 63, 123, 125, 40, 41, 124]) ∨ (st = [91] ∧ c ∈ [93, 94]) then none
  else some (sg ++ [c], if st = [] ∨ st = [92] then [] else [93])
noncomputable def plainRun : T → T → T → Option (T × T)
  | [], sg, st => some (sg, st)
  | c :: r, sg, st => (plainStep c sg st).bind fun p => plainRun r p.1 p.2
noncomputable def plainT (l : T) : Option T := (plainRun l [] []).bind fun p => if p.2 = [] then some p.1 else none
noncomputable def optPV : Option T → PV
  | none => .n
  | some l => .s (toS l)

section
variable {C : Cfg} {h₀ : Heap} {L : Addr} {loc : List (Str × PV)} {R : List (Addr × AO)} {s : Shared} {A : Around} {E : Value → Shared → Prop} {mg mb : Str → Option Value} {a : Addr} {k : Nat}
@[reducible] noncomputable def plainLoc (l sg st : T) : List (Str × PV) := [("inner", .s (toS l)), ("signs", .s (toS sg)), ("state", .s (toS st))]
theorem plain_spec {l : T} {t : Tok} {Q : Value → Shared → Prop}
    (B : Base C mg mb) (D : DefAt C a (theDef 64)) (Rm : Room A (k + 1)) (S : St C h₀ L loc R s) (hz : l.length ≤ 1000000)
    (h : ∀ v s', VR h₀ (optPV (plainT l)) v → St C h₀ L loc R s' → Q v s') :
    wpAny (model C.prog C.w) A (call (.ref a) [.str (toS l) t]) Q E s := by
  refine call_def ["inner"] (ps := [.s (toS l)]) B D Rm S ⟨.str _ _, trivial⟩ (fun fd e1 e2 e3 => ?_) rfl (by decide +kernel) (fun L' q cd s₁ _ Rm' S₁ => ?_)
  · obtain ⟨n, qn, ps, bd, sc, gl, cl, df, kd⟩ := fd
    dsimp only at e1 e2 e3
    subst e1 e2 e3
    rfl
  · replace S₁ := S₁.weaken (loc' := [("inner", .s (toS l))]) ⟨by rfl, trivial⟩
    change St C h₀ L' _ ((L, .ns loc) :: R) s₁ at S₁
    let en : Env := fnEnv (theDef 64) L' q a cd
    let A' : Around := A.deeper en
    change wpAny (model C.prog C.w) A' (execs (bodyOf (theDef 64)) en) _ _ _
    let X : List (Addr × AO) := (L, .ns loc) :: R
    -- signs, state = ('', '')
    refine wpAny_execs_cons (r_unpack S₁ Rm'.handled (wpAny_Tuple (wpAny_items_cons (c_t [] S₁ fun t1 s₂ S₂ => wpAny_items_cons (c_t [] S₂ fun t2 s₃ S₃ => wpAny_items_nil ⟨sz2, ?_⟩)))))
    refine ⟨_, _, L', _, _, rfl, ⟨_, Heap.get?_push_size _ rfl, rfl, _, rfl⟩, by rfl, S₃.push _, fun s₄ S₄ _ => ?_⟩
    refine aio_cons (wpAny_assign_Name (stloc (p := .s (toS [])) S₄ (.str _ _) fun s₅ S₅ => aio_cons (wpAny_assign_Name (stloc (p := .s (toS [])) S₅ (.str _ _) fun s₆ S₆ => aio_nil ?_))))
    replace S₆ := S₆.weaken (loc' := plainLoc l [] []) ⟨by rfl, by rfl, by rfl, trivial⟩
    -- for sign in inner
    refine wpAny_execs_cons ?_
    refine r_for_str S₆ Rm'.handled (fun i loc' R' => ∃ sg st, loc' = plainLoc l sg st ∧ R' = X ∧ plainRun (l.drop i) sg st = plainRun l [] [] ∧ sg.length ≤ i ∧ st.length ≤ 2) ?_
    refine nm_s S₆ rfl fun t3 => ⟨l, t3, _, _, rfl, S₆, ⟨[], [], rfl, rfl, by simp, by simp, by simp⟩, ?_, ?_⟩
    · intro i c I o l1 R1 s₇ hc hI1 S₇
      refine cutQ fun Q₁ hQ₁ => ?_
      obtain ⟨sg, st, rfl, rfl, hrun, hsg, hst⟩ := hI1
      have hil : i < l.length := (List.getElem?_eq_some_iff.mp hc).1
      have hd : l.drop i = c :: l.drop (i + 1) := by
        rw [List.drop_eq_getElem_cons hil]
        rw [List.getElem?_eq_some_iff] at hc
        rw [hc.2]
      rw [hd] at hrun
      simp only [plainRun] at hrun
      let l₁ : List (Str × PV) := ("sign", .s (toS [c])) :: plainLoc l sg st
      let R₁ : List (Addr × AO) := (I, .raw o) :: X
      change St C h₀ L' l₁ R₁ s₇ at S₇
      refine wpAny_execs_cons (wpAny_If ?_)
      refine wpAny_isTrue_Compare1 (nm_s S₇ rfl fun t4 => c_t [93] S₇ fun t5 s₈ S₈ => r_eq_str (wpAny_truthy_bool ?_)) (by rfl)
      refine split_dec (fun h1 => ?_) (fun h1 => ?_)
      · -- state == ']'
        subst h1
        refine wpAny_execs_cons (wpAny_If ?_)
        refine wpAny_isTrue_Compare1 (nm_s S₈ rfl fun t4 => c_t [93] S₈ fun t5 s₉ S₉ => r_ne_str (wpAny_truthy_bool ?_)) (by rfl)
        by_cases h2 : c = 93
        · subst h2
          refine ifN (by simp) ?_
          refine wpAny_execs_nil (wpAny_execs_cons (wpAny_Assign_Name (c_t [] S₉ fun t6 s₁₀ S₁₀ => stloc (p := .s (toS [])) S₁₀ (.str _ _) fun s₁₁ S₁₁ => wpAny_execs_nil ?_) (by rfl)))
          repeat refine wpAny_execs_nil ?_
          refine hQ₁ .next _ ⟨_, _, ⟨sg, [], rfl, rfl, ?_, by lia, by simp⟩, S₁₁.weaken ⟨by rfl, by rfl, by rfl, trivial⟩⟩
          rw [← hrun]; simp [plainStep]
        · refine ifY (by simp [h2]) ?_
          refine wpAny_execs_cons (wpAny_Return_some (wpAny_Constant_none ?_))
          refine hQ₁ _ _ (h _ _ ?_ (St.back (X := [(I, .raw o)]) S₉))
          have : plainT l = none := by unfold plainT; rw [← hrun]; simp [plainStep, h2]
          rw [this]; exact Reads.none
      · refine wpAny_execs_cons (wpAny_If ?_)
        have tEq : ∀ (x : Str) (m : T) (p1 p2 p3 : Pos), x = toS m → Tst C h₀ L' l₁ R₁ A' en
            (.Compare (.Name "state" p1) [.Eq] [.Constant (.str x) 0 p2] p3) (decide (st = m)) := fun x m p1 p2 p3 hx s E Q S h =>
          wpAny_isTrue_Compare1 (nm_s S rfl fun t4 => c_t m S (fun t5 s₉ S₉ => r_eq_str (wpAny_truthy_bool (h _ S₉))) hx) (by rfl)
        have tSg : ∀ (x : Str) (m : Nat) (p1 p2 p3 : Pos), x = toS [m] → Tst C h₀ L' l₁ R₁ A' en
            (.Compare (.Name "sign" p1) [.Eq] [.Constant (.str x) 0 p2] p3) (decide (c = m)) := fun x m p1 p2 p3 hx s E Q S h =>
          wpAny_isTrue_Compare1 (nm_s S rfl fun t4 => c_t [m] S (fun t5 s₉ S₉ => r_eq_str (wpAny_truthy_bool (by have := h _ S₉; simpa using this))) hx) (by rfl)
        have tIn : ∀ (x : Str) (m : T) (p1 p2 p3 : Pos), x = toS m → Tst C h₀ L' l₁ R₁ A' en
            (.Compare (.Name "sign" p1) [.In] [.Constant (.str x) 0 p2] p3) (decide (c ∈ m)) := fun x m p1 p2 p3 hx s E Q S h =>
          wpAny_isTrue_Compare1 (nm_s S rfl fun t4 => c_t m S (fun t5 s₉ S₉ => r_in_str (wpAny_truthy_bool (h _ S₉))) hx) (by rfl)
        refine ((tEq _ [] _ _ _ (by decide +kernel)).and (tIn _ [92, 91] _ _ _ (by decide +kernel))).or ((tEq _ [91] _ _ _ (by decide +kernel)).and (tSg _ 92 _ _ _ (by decide +kernel))) s₈ _ _ S₈ fun s₉ S₉ => ?_
        by_cases h2 : (st = [] ∧ c ∈ [92, 91]) ∨ (st = [91] ∧ c = 92)
        · have h2' : (decide (st = []) && decide (c ∈ [92, 91]) || decide (st = [91]) && decide (c = 92)) = true := by simpa using h2
          rw [h2', if_pos rfl]
          refine wpAny_execs_cons (wpAny_Assign_Name (wpAny_BinOp (nm_s S₉ rfl fun t6 => nm_s S₉ rfl fun t7 => r_cat S₉ (by simp; lia) fun t8 s₁₀ S₁₀ => stloc (p := .s (toS (st ++ [c]))) S₁₀ (.str _ _) fun s₁₁ S₁₁ => wpAny_execs_nil ?_)) (by rfl))
          repeat refine wpAny_execs_nil ?_
          refine hQ₁ .next _ ⟨_, _, ⟨sg, st ++ [c], rfl, rfl, ?_, by lia, ?_⟩, S₁₁.weaken ⟨by rfl, by rfl, by rfl, trivial⟩⟩
          · rw [← hrun]; simp only [plainStep, if_neg h1, if_pos h2, Option.bind_some]
          · rcases h2 with h2 | h2 <;> simp [h2.1]
        · have h2' : (decide (st = []) && decide (c ∈ [92, 91]) || decide (st = [91]) && decide (c = 92)) = false := by
            rw [← Bool.not_eq_true]; simpa using h2
          rw [h2', if_neg Bool.false_ne_true]
          refine wpAny_execs_cons (wpAny_If ?_)
          refine ((tEq _ [] _ _ _ (by decide +kernel)).and (tIn _ [46, 94, 36, 42, 43, 63, 123, 125, 40, 41, 124] _ _ _ (by decide +kernel))).or ((tEq _ [91] _ _ _ (by decide +kernel)).and (tIn _ [93, 94] _ _ _ (by decide +kernel))) s₉ _ _ S₉ fun s₁₀ S₁₀ => ?_
          by_cases h3 : (st = [] ∧ c ∈ [46, 94, 36, 42, 43, 63, 123, 125, 40, 41, 124]) ∨ (st = [91] ∧ c ∈ [93, 94])
          · have h3' : (decide (st = []) && decide (c ∈ [46, 94, 36, 42, 43, 63, 123, 125, 40, 41, 124]) || decide (st = [91]) && decide (c ∈ [93, 94])) = true := by simpa using h3
            rw [h3', if_pos rfl]
            refine wpAny_execs_cons (wpAny_Return_some (wpAny_Constant_none ?_))
            refine hQ₁ _ _ (h _ _ ?_ (St.back (X := [(I, .raw o)]) S₁₀))
            have : plainT l = none := by unfold plainT; rw [← hrun]; simp only [plainStep, if_neg h1, if_neg h2, if_pos h3, Option.bind_none]
            rw [this]; exact Reads.none
          · have h3' : (decide (st = []) && decide (c ∈ [46, 94, 36, 42, 43, 63, 123, 125, 40, 41, 124]) || decide (st = [91]) && decide (c ∈ [93, 94])) = false := by
              rw [← Bool.not_eq_true]; simpa using h3
            rw [h3', if_neg Bool.false_ne_true]
            refine wpAny_execs_cons (wpAny_Assign_Name (wpAny_BinOp (nm_s S₁₀ rfl fun t6 => nm_s S₁₀ rfl fun t7 => r_cat S₁₀ (by simp; lia) fun t8 s₁₁ S₁₁ => stloc (p := .s (toS (sg ++ [c]))) S₁₁ (.str _ _) fun s₁₂ S₁₂ => ?_)) (by rfl))
            refine wpAny_execs_cons (wpAny_Assign_Name (wpAny_IfExp ?_) (by rfl))
            refine wpAny_isTrue_Compare1 (nm_s S₁₂ rfl fun t9 => wpAny_List (wpAny_items_cons (c_t [] S₁₂ fun t10 s₁₃ S₁₃ => wpAny_items_cons (c_t [92] S₁₃ fun t11 s₁₄ S₁₄ => wpAny_items_nil ⟨sz2, ?_⟩)))) (by rfl)
            refine r_in_two (Heap.get?_push_size _ rfl) (wpAny_truthy_bool ?_)
            have S₁₅ := S₁₄.push { cls := .type "list", data := .seq #[.str (toS []) t10, .str (toS [92]) t11] }
            have fin : ∀ (st' : T) (s' : Shared), st' = (if st = [] ∨ st = [92] then [] else [93]) → St C h₀ L' ((Str.ofString "state", PV.s (toS st')) :: (Str.ofString "signs", PV.s (toS (sg ++ [c]))) :: l₁) R₁ s' →
                ∃ loc'' R'', (∃ sg st, loc'' = plainLoc l sg st ∧ R'' = X ∧ plainRun (l.drop (i + 1)) sg st = plainRun l [] [] ∧ sg.length ≤ i + 1 ∧ st.length ≤ 2) ∧ St C h₀ L' loc'' ((I, AO.raw o) :: R'') s' := by
              intro st' s' hst' S'
              refine ⟨_, _, ⟨sg ++ [c], st', rfl, rfl, ?_, by simp; lia, ?_⟩, S'.weaken ⟨by rfl, by rfl, by rfl, trivial⟩⟩
              · rw [← hrun, hst']; simp only [plainStep, if_neg h1, if_neg h2, if_neg h3, Option.bind_some]
              · rw [hst']; split <;> simp
            by_cases h4 : st = [] ∨ st = [92]
            · have h4' : (decide ([] = st) || decide ([92] = st)) = true := by
                rcases h4 with h4 | h4 <;> simp [h4]
              rw [h4', if_pos rfl]
              refine c_t [] S₁₅ fun t12 s₁₆ S₁₆ => stloc (p := .s (toS [])) S₁₆ (.str _ _) fun s₁₇ S₁₇ => ?_
              repeat refine wpAny_execs_nil ?_
              exact hQ₁ .next _ (fin [] _ (by rw [if_pos h4]) S₁₇)
            · have h4' : (decide ([] = st) || decide ([92] = st)) = false := by
                simp only [not_or] at h4
                simp [Ne.symm h4.1, Ne.symm h4.2]
              rw [h4', if_neg Bool.false_ne_true]
              refine c_t [93] S₁₅ fun t12 s₁₆ S₁₆ => stloc (p := .s (toS [93])) S₁₆ (.str _ _) fun s₁₇ S₁₇ => ?_
              repeat refine wpAny_execs_nil ?_
              exact hQ₁ .next _ (fin [93] _ (by rw [if_neg h4]) S₁₇)
    · rintro _ _ s₇ ⟨sg, st, rfl, rfl, hrun, hsg, hst⟩ S₇
      rw [List.drop_length] at hrun
      simp only [plainRun] at hrun
      refine wpAny_execs_cons (wpAny_Return_some (wpAny_IfExp ?_))
      refine wpAny_isTrue_Compare1 (nm_s S₇ rfl fun t4 => c_t [] S₇ fun t5 s₈ S₈ => r_eq_str (wpAny_truthy_bool ?_)) (by rfl)
      refine split_dec (fun h1 => ?_) (fun h1 => ?_)
      · subst h1
        refine nm_s S₈ rfl fun t6 => ?_
        refine h _ _ ?_ (St.back (X := []) S₈)
        have : plainT l = some sg := by unfold plainT; rw [← hrun]; simp
        rw [this]; exact Reads.str _ _
      · refine wpAny_Constant_none ?_
        refine h _ _ ?_ (St.back (X := []) S₈)
        have : plainT l = none := by unfold plainT; rw [← hrun]; simp [h1]
        rw [this]; exact Reads.none
end
end Mine

namespace Mine
open PySem PySem.W PyProof.Rows PySem.Calls

theorem f_list_append : typeLookup (.type "list") "append" = pure (some (.builtin "list.append")) := F.slot_list_append.lookup
theorem f_md : typeOf (.builtin "list.append") = pure (.type "method_descriptor") := F.type_list_append
theorem f_md_get : typeLookup (.type "method_descriptor") "__get__" = pure (some (.builtin "method_descriptor.__get__")) := by rw [typeLookup_type, builtinLookup_eq_fast]; kernel_rfl
theorem f_md_set : typeLookup (.type "method_descriptor") "__set__" = pure none := by rw [typeLookup_type, builtinLookup_eq_fast]; kernel_rfl
theorem f_md_del : typeLookup (.type "method_descriptor") "__delete__" = pure none := by rw [typeLookup_type, builtinLookup_eq_fast]; kernel_rfl
theorem f_md_slot : Slot "method_descriptor" "__get__" "method_descriptor.__get__" :=
  .of (owner := "method_descriptor") (n := "__get__") (by rw [typeLookup_type, builtinLookup_eq_fast]; kernel_rfl) (by decide +kernel) (by decide +kernel) (by decide +kernel)
    (by first | exact .inl (by decide +kernel) | exact .inr (by decide +kernel)) (by rw [isSubtype_type]; kernel_rfl)
theorem entry_md_get : entryFor table "method_descriptor.__get__" = some Builtin.«method_descriptor.__get__» := entryFor_of_tree (by kernel_rfl)
theorem args_md_get (a b c : Value) : argsOk "method_descriptor.__get__" ⟨[a, b, c], []⟩ := by unfold argsOk; kernel_rfl
theorem owner_list_append : (".".intercalate ("list.append".cutAt '.').dropLast) = "list" := by
  have e0 : "list.append".cutAt '.' = ["list", "append"] := by first | rfl | decide +kernel
  rw [e0]; decide +kernel
theorem sub_list_append_owner : isSubtype (.type "list") (.type (".".intercalate ("list.append".cutAt '.').dropLast)) = pure true := by
  rw [owner_list_append, isSubtype_type]; kernel_rfl

noncomputable abbrev boundAppend (a : Addr) : Obj := { cls := .type "builtin_function_or_method", data := .fields #[.builtin "list.append", .ref a] }

set_option maxHeartbeats 4000000 in
theorem getAttr_append {prog : Program} {w : World} {A : Around} {E : Value → Shared → Prop} {s : Shared} {a : Addr} {xs : Array Value} {Q : Value → Shared → Prop}
    (hl : s.heap.PlainList a xs)
    (h : Q (.ref s.heap.objs.size) { s with heap := s.heap.push (boundAppend a), toks := s.toks + 1 }) :
    wpAny (model prog w) A (getAttr (.ref a) "append" true) Q E s := by
  obtain ⟨hp, g, d, tk, os⟩ := s
  obtain ⟨k, hx⟩ := hl
  have hT : ∀ tk', (⟨hp, g, d, tk', os⟩ : Shared).TypeIs (.ref a) "list" := fun _ => ⟨_, hx, rfl⟩
  have f3 := F.slot_list_getattribute.lookup
  have f4 := F.slot_list_getattribute.bind (.ref a)
  have f5 := am_list_getattr_none
  have f6 := f_list_append
  have f7 := f_md
  have f8 := f_md_get
  have f9 := f_md_set
  have f10 := f_md_del
  have hT5 : ∀ s : Shared, s.TypeIs (.builtin "list.append") "method_descriptor" := fun s => F.type_list_append
  have f11 := sub_list_append_owner
  unfold getAttr getAttrBy
  repeat (first | assumption | exact hT _ | wp_step)
  refine codeAny_call_builtin F.slot_list_getattribute.plain F.entry_list_ga (F.slot_list_getattribute.check _ _ _ _ _ _ _ _ (hT _) (F.args_list_getattribute_2 _ _) ?_)
  iterate 60 (first | assumption | exact hT _ | exact hT5 _ | wp_step)
  repeat (first | assumption | exact hT _ | exact hT5 _ | wp_step)
  refine codeAny_call_builtin f_md_slot.plain entry_md_get (f_md_slot.check _ _ _ _ _ _ _ _ (hT5 _) (args_md_get _ _ _) ?_)
  repeat (first | assumption | exact hT _ | exact hT5 _ | wp_step)

end Mine

namespace Mine
open PySem PySem.W PyProof.Rows PySem.Calls
theorem check_append_sig (a x : Value) : (Manifest.signature? "list.append").map (fun sig => Bind.checkArgs "list.append" { sig with full := s!"{Bind.lastOf "list"}.{Bind.lastOf "list.append"}" } ⟨[a, x], []⟩) = some (pure ()) := by kernel_rfl
theorem boundCheck {prog : Program} {w : World} {A : Around} {E : Value → Shared → Prop} {s : Shared} {a : Addr} {x : Value} {Q : Unit → Shared → Prop} {xs : Array Value} (hl : s.heap.PlainList a xs) (h : Q () s) :
    wpAny (model prog w) A (checkBoundCall "list.append" ⟨[.ref a, x], []⟩) Q E s := by
  have hs : (Manifest.signature? "list.append").isSome = true := by decide +kernel
  obtain ⟨sig, hsig⟩ := Option.isSome_iff_exists.mp hs
  have hc := check_append_sig (.ref a) x
  rw [hsig] at hc
  have hc := Option.some.inj hc
  have hk : builtinKind "list.append" = some .method := by kernel_rfl
  have hv : Manifest.varargsMethods.contains "list.append" = false := by decide +kernel
  have hm : isSubtype (.type "list") (.type "module") = pure false := by rw [isSubtype_type]; kernel_rfl
  unfold checkBoundCall
  rw [hsig]
  simp only [hk, hv]
  obtain ⟨hp, g, d, tk, os⟩ := s
  obtain ⟨k, hx⟩ := hl
  have hT : (⟨hp, g, d, tk, os⟩ : Shared).TypeIs (.ref a) "list" := ⟨_, hx, rfl⟩
  repeat (first | assumption | wp_step)

theorem call_boundAppend {prog : Program} {w : World} {A : Around} {E : Value → Shared → Prop} {s : Shared} {a b : Addr} {x : Value} {xs : Array Value} {Q : Value → Shared → Prop} (hb : s.heap.get? b = some (boundAppend a)) (hl : s.heap.PlainList a xs)
    (hQ : ∀ h', h'.PlainList a (xs.push x) → Heap.SameBut a s.heap h' → Q .none { s with heap := h' }) (hsz : xs.size ≤ sizeLine) :
    wpAny (model prog w) A (call (.ref b) [x]) Q E s := by
  refine wpAny_call (codeAny_of_tree ?_)
  show wpAny _ A.in1 (callAny (.ref b) ⟨[x], []⟩) _ _ s
  simp only [callAny]
  refine wpAny_bind (wpAny_load hb ?_)
  show wpAny _ A.in1 (do checkBoundCall "list.append" ⟨[.ref a, x], []⟩; again (.builtin "list.append" ⟨[.ref a, x], []⟩)) _ _ s
  refine wpAny_bind (boundCheck hl ?_)
  refine wpAny_pure ⟨plainId_quiet F.slot_list_append.plain _, ?_⟩
  refine codeAny_builtin F.entry_list_append ?_
  obtain ⟨n, ho⟩ := hl
  show wpAny _ _ (updateSeq a (·.push x) >>= fun _ => ret .none) _ _ s
  refine wpAny_bind ?_
  refine wpAny_updateSeq ho rfl (wpAny_pure (hQ _ ⟨n + 1, ?_⟩ (Heap.SameBut.update ..)))
  rw [Heap.get?_update_self _ ho (by rw [Obj.mapSeq_push_plain]; rfl), Obj.mapSeq_push_plain]

/-- f(x) where f is the append of a list -/
theorem r_bound {prog : Program} {w : World} {A : Around} {E : Value → Shared → Prop} {s : Shared} {env : Env} {f : Str} {p pos : Pos} {e : Expr} {a b : Addr} {Q : Value → Shared → Prop}
    (hf : ∀ Q', Q' (.ref b) s → wpAny (model prog w) A (eval (.Name f p) env) Q' E s)
    (h : wpAny (model prog w) A (eval e env) (fun x s₁ => s₁.heap.get? b = some (boundAppend a) ∧ ∃ xs, s₁.heap.PlainList a xs ∧ xs.size ≤ sizeLine ∧
      ∀ h', h'.PlainList a (xs.push x) → Heap.SameBut a s₁.heap h' → Q .none { s₁ with heap := h' }) E s)
    (he : autoParam (starEach [e] env = [(false, eval e env)]) rflT) :
    wpAny (model prog w) A (eval (.Call (.Name f p) [e] [] pos) env) Q E s := by
  refine wpAny_Call_ofName (hf _ ?_)
  show wpAny _ A (callWith pos (.ref b) [] (backTo pos (starEach [e] env)) []) Q E s
  rw [he]
  unfold callWith
  refine wpAny_bind (wpAny_holding ?_)
  refine evalArgs_plain (x := eval e env) (rest := []) (spliced_cons (wpAny_mono h (fun x s₁ q => spliced_nil ?_) fun _ _ q => q))
  refine wpAny_bind (wpAny_standAt ?_)
  obtain ⟨hb, xs, hl, hz, q⟩ := q
  refine wpAny_bind (m := keeperOf (.ref b)) ?_
  unfold keeperOf
  refine wpAny_bind (wpAny_load hb (wpAny_pure ?_))
  refine wpAny_bind (m := call (.ref b) [x]) ?_
  refine call_boundAppend hb hl (fun h' hl' hs => ?_) hz
  exact wpAny_bind (wpAny_holding (wpAny_point (wpAny_pure (q h' hl' hs))))
end Mine

namespace Mine
open PySem PySem.W PyProof.Rows PySem.Calls

/-! ### the pattern's sub -/
theorem pa_Pattern : PlainAttrs "re.Pattern" :=
  ⟨⟨"object.__getattribute__", by rw [typeLookup_type, builtinLookup_eq_fast]; kernel_rfl, by decide +kernel⟩, by rw [typeLookup_type, builtinLookup_eq_fast]; kernel_rfl⟩
theorem slot_Pattern_sub : Slot "re.Pattern" "sub" "re.Pattern.sub" :=
  .of (owner := "re.Pattern") (n := "sub") (by rw [typeLookup_type, builtinLookup_eq_fast]; kernel_rfl) (by decide +kernel) (by decide +kernel) (by decide +kernel)
    (by first | exact .inl (by decide +kernel) | exact .inr (by decide +kernel)) (by rw [isSubtype_type]; kernel_rfl)
theorem type_Pattern_sub : typeOf (.builtin "re.Pattern.sub") = pure (.type "method_descriptor") := by show builtinType _ = _; rw [builtinType_eq_fast]; kernel_rfl
theorem entry_Pattern_sub : entryFor table "re.Pattern.sub" = some Builtin.«re.Pattern.sub» := entryFor_of_tree (by kernel_rfl)
theorem entry_Pattern_sub_loop : entryFor table "re.Pattern.sub.loop" = some Builtin.«re.Pattern.sub.loop» := entryFor_of_tree (by kernel_rfl)
theorem args_Pattern_sub (a b c : Value) : argsOk "re.Pattern.sub" ⟨[a, b, c], []⟩ := by unfold argsOk; kernel_rfl
theorem quiet_sub_loop (a : Args) : (Code.builtin "re.Pattern.sub.loop" a).quiet = true := plainId_quiet (by decide +kernel) a
theorem fn_call : typeLookup (.type "function") "__call__" = pure (some (.builtin "function.__call__")) := by rw [typeLookup_type, builtinLookup_eq_fast]; kernel_rfl

/-- what the pattern is known by -/
structure PatOk (C : Cfg) (pa : Addr) : Prop where
  ex : ∃ fs la o items n, C.top.get? pa = some { cls := .type "re.Pattern", data := .fields fs } ∧ fs.getD 5 .none = .ref la ∧ Builtin.Re.reRawNat (fs.getD 6 .none) = 0 ∧ Builtin.Re.reRawNat (fs.getD 2 .none) = 1 ∧
    C.top.get? la = some o ∧ o.data = .seq items n ∧ ∀ c ∈ [42, 63, 91], ∃ n, ∀ g, X.skim g n (Builtin.Re.reRunToEnd (Sre.forSearch ((items.map Builtin.Re.reRawOf).map (·.toNat)) #[c] 1 0 1 false)) = pure none

set_option maxHeartbeats 4000000 in
theorem wholeTarget {prog : Program} {w : World} {A : Around} {E : Value → Shared → Prop} {s : Shared} {pa la : Addr} {op o : Obj} {fs items : Array Value} {n : Nat} {x : Str} {t : Tok} {Q : Builtin.Re.ReTarget → Shared → Prop}
    (hp : s.heap.get? pa = some op) (hpd : op.data = .fields fs) (h5 : fs.getD 5 .none = .ref la) (h6 : Builtin.Re.reRawNat (fs.getD 6 .none) = 0) (h2 : Builtin.Re.reRawNat (fs.getD 2 .none) = 1)
    (ho : s.heap.get? la = some o) (hd : o.data = .seq items n)
    (h : Q { pattern := .ref pa, string := .str x t, code := (items.map Builtin.Re.reRawOf).map (·.toNat), text := x.cps, kind := 0, groups := 1, pos := 0, lim := x.cps.size } s) :
    wpAny (model prog w) A (Builtin.Re.reWholeTarget (.ref pa) (.str x t)) Q E s := by
  unfold Builtin.Re.reWholeTarget
  refine wpAny_bind (wpAny_fieldsOf hp hpd ?_)
  refine wpAny_bind (m := Builtin.Re.reTextOf (.str x t)) ?_
  show wpAny _ A (pure (x.cps, 0)) _ E s
  refine wpAny_pure ?_
  dsimp only
  rw [h6, h2, h5]
  refine wpAny_bind (m := Builtin.Re.reNoCollectionInside (.str x t) 0) (wpAny_pure ?_)
  refine wpAny_bind (m := Builtin.Re.reRawItems (.ref la)) ?_
  unfold Builtin.Re.reRawItems
  refine wpAny_bind (wpAny_seqItems ho hd (wpAny_pure ?_))
  exact wpAny_pure h

theorem sub_spec {C : Cfg} {h₀ : Heap} {L : Addr} {loc : List (Str × PV)} {R : List (Addr × AO)} {s : Shared} {A : Around} {E : Value → Shared → Prop} {pa f : Addr} {of : Obj} {c : Nat} {t : Tok} {Q : Value → Shared → Prop}
    (P : PatOk C pa) (S : St C h₀ L loc R s) (hf : s.heap.get? f = some of) (hfc : of.cls = .type "function") (hc : c ∈ [42, 63, 91])
    (h : ∀ t s', St C h₀ L loc R s' → Q (.str (toS [c]) t) s') :
    wpAny (model C.prog C.w) A (call (.builtin "re.Pattern.sub") [.ref pa, .ref f, .str (toS [c]) t]) Q E s := by
  obtain ⟨fs, la, o, items, n, hp, h5, h6, h2, ho, hd, hsk⟩ := P.ex
  have hpN : s.heap.get? pa = some { cls := .type "re.Pattern", data := .fields fs } := S.top _ _ hp
  have hoN : s.heap.get? la = some o := S.top _ _ ho
  refine wpAny_call (codeAny_call_builtin slot_Pattern_sub.plain entry_Pattern_sub (slot_Pattern_sub.check _ _ _ _ _ _ _ _ ⟨_, hpN, rfl⟩ (args_Pattern_sub _ _ _) ?_))
  unfold Builtin.«re.Pattern.sub» Builtin.Re.reSubstitute
  dsimp only
  refine wpAny_bind (m := Builtin.Re.reNamed "re.Pattern.sub" "sub" ["repl", "string", "count"] 2 [.ref f, .str (toS [c]) t] []) ?_
  refine wpAny_of_eq (show Builtin.Re.reNamed "re.Pattern.sub" "sub" ["repl", "string", "count"] 2 [.ref f, .str (toS [c]) t] [] = pure [some (.ref f), some (.str (toS [c]) t), none] from by rfl) ?_
  dsimp only
  have hTf : s.TypeIs (.ref f) "function" := ⟨_, hf, hfc⟩
  refine wpAny_bind (wpAny_pure ?_)
  refine wpAny_bind (wpAny_specialOf hTf fn_call ?_)
  dsimp only [Option.isSome]
  refine wpAny_bind (wpAny_pure ?_)
  refine wpAny_bind (wpAny_pure ?_)
  refine wpAny_bind (wpAny_holding (wholeTarget hpN rfl h5 h6 h2 hoN hd ?_))
  rw [if_pos (by rfl)]
  have f1 : typeOf (.str (toS [c]) t) = pure (.type "str") := rfl
  have f2 : isSubtype (.type "str") (.type "bytearray") = pure false := by rw [isSubtype_type]; kernel_rfl
  refine wpAny_bind (m := Builtin.Re.reNotHeld "re.Pattern.sub" (.str (toS [c]) t)) ?_
  unfold Builtin.Re.reNotHeld
  refine wpAny_bind (wpAny_isInstance_val f1 f2 ?_)
  refine wpAny_pure ?_
  refine wpAny_bind (wpAny_newList ?_ (by rw [sizeT]; decide))
  refine wpAny_pure ⟨quiet_sub_loop _, ?_⟩
  refine codeAny_builtin entry_Pattern_sub_loop ?_
  have S1 := S.pushed (x := .list []) (o := { cls := .type "list", data := .seq #[] }) ⟨#[], ⟨0, Heap.get?_push_size _ rfl⟩, trivial⟩
  unfold Builtin.«re.Pattern.sub.loop»
  dsimp only [rawInt]
  refine wpAny_bind (wholeTarget (Heap.get?_push_of_some _ hpN) rfl h5 h6 h2 (Heap.get?_push_of_some _ hoN) hd ?_)
  dsimp only
  rw [if_neg (by decide)]
  refine wpAny_bind (m := (if ((0 : Int) != 0 && decide ((0 : Int) ≥ 0)) = true then pure none else _)) ?_
  rw [if_neg (by decide)]
  unfold Builtin.Re.reNextFound
  obtain ⟨k, hk⟩ := hsk c hc
  refine X.x_skim k ?_
  have e1 : (toS [c]).cps = #[c] := rfl
  rw [show Int.toNat 0 = 0 from rfl]
  simp only [e1]
  rw [show (#[c] : Array Nat).size = 1 from rfl, hk]
  refine wpAny_pure ?_
  dsimp only
  rw [if_pos (by decide)]
  have k1 : s.heap.get? s.heap.objs.size = none := Heap.get?_none_of_le (Nat.le_refl _)
  refine wpAny_bind (m := mkStr (toS [c])) (wpAny_mkStr ?_ (by rw [toS_length, sizeT, List.length_singleton]; decide))
  refine wpAny_bind (wpAny_updateSeq (Heap.get?_push_size _ rfl) rfl ?_ (by rw [sizeT]; decide) (by rw [sizeT]; show 1 ≤ 16777216 + 1; decide))
  refine wpAny_bind (m := mkStr (toS [])) (wpAny_mkStr ?_ (by rw [toS_length, sizeT]; decide))
  have hob : ((s.heap.push { cls := .type "list", data := .seq #[] }).update s.heap.objs.size (Obj.mapSeq fun x => x.push (.str (toS [c]) s.toks))).get? s.heap.objs.size = some { cls := .type "list", data := .seq #[.str (toS [c]) s.toks] 1 } := by
    rw [Heap.get?_update_self _ (Heap.get?_push_size _ rfl) rfl]
    rfl
  refine wpAny_bind (wpAny_seqItems hob rfl ?_)
  rw [if_neg (by simp)]
  refine wpAny_bind (m := call (.builtin "str.join") [.str (toS []) (s.toks + 1), .ref s.heap.objs.size]) ?_
  refine join_listW (ys := [toS [c]]) ⟨_, hob, rfl, _, rfl⟩ ?_ (by rw [toS_length]; decide) (by simp) (fun t' k' => ?_)
  · exact .cons _ _ .nil
  · rw [if_neg (by decide)]
    refine wpAny_pure ?_
    have ej : Txt.join (toS []) [toS [c]] = toS [c] := by
      have := beq_iff_eq.mp (join_plain_closes (toS []) [toS [c]])
      rw [this]; rfl
    rw [ej]
    exact h _ _ (S1.lose (t := k') (Heap.SameBut.update ..).extBut)
end Mine

namespace Mine
open PySem PySem.W PyProof.Rows PySem.Calls

/-! ### escape -/
noncomputable def special : T := [40, 41, 91, 93, 123, 125, 63, 42, 43, 45, 124, 94, 36, 92, 46, 38, 126, 35, 32, 9, 10, 13, 11, 12]
noncomputable def escT (c : Nat) : T := if c ∈ special then [92, c] else [c]

structure MapOk (C : Cfg) (ma : Addr) : Prop where
  ne : (ma == sysModules) = false
  ex : ∃ f : Int → Option Value, C.top.MapOf (intKind C.prog C.w) ma f ∧ ∀ c : Nat, c < 128 → (c ∈ special → ∃ t, f (c : Int) = some (.str (toS [92, c]) t)) ∧ (c ∉ special → f (c : Int) = none)

section
variable {C : Cfg} {h₀ : Heap} {L : Addr} {loc : List (Str × PV)} {R : List (Addr × AO)} {s : Shared} {A : Around} {E : Value → Shared → Prop} {ma : Addr} {f : Int → Option Value}

theorem mapOf_keep {prog : Program} {w : World} {h h' : Heap} {a : Addr} {f : Int → Option Value} (x : h.MapOf (intKind prog w) a f) (k : ∀ b o, h.get? b = some o → h'.get? b = some o) : h'.MapOf (intKind prog w) a f := by
  obtain ⟨o, es, ep, ho, r⟩ := x
  exact ⟨o, es, ep, k _ _ ho, r⟩
theorem tl_hit {c : Nat} {x : Str} {t : Tok} {Q : Builtin.Str.Mapped → Shared → Prop} (hm : C.top.MapOf (intKind C.prog C.w) ma f) (S : St C h₀ L loc R s) (hf : f (c : Int) = some (.str x t)) (h : ∀ s', St C h₀ L loc R s' → Q (.text x) s') :
    wpAny (model C.prog C.w) A (Builtin.Str.tableLookup (.ref ma) c) Q E s := by
  unfold Builtin.Str.tableLookup
  refine wpAny_bind (wpAny_attempt (wpAny_bind (wpAny_mkInt ?_)))
  refine wpAny_getItem_of (knd := intKind C.prog C.w) (k := (c : Int)) (f := f) (by show (Value.isInt (c : Int) (.int (c : Int) s.toks)) = true; simp [Value.isInt]) (mapOf_keep hm S.top) hf ?_
  refine wpAny_bind (wpAny_pure ?_)
  dsimp only
  refine wpAny_bind (wpAny_pure ?_)
  exact wpAny_pure (h _ ((S.tok _).tok _))
theorem sub_Key_Lookup : isSubtype (.type "KeyError") (.type "LookupError") = pure true := by rw [isSubtype_type]; kernel_rfl
theorem tl_miss {c : Nat} {Q : Builtin.Str.Mapped → Shared → Prop} (hm : C.top.MapOf (intKind C.prog C.w) ma f) (hne : (ma == sysModules) = false) (hh : A.handled = none) (S : St C h₀ L loc R s) (hf : f (c : Int) = none) (h : ∀ s', St C h₀ L loc R s' → Q .keep s') :
    wpAny (model C.prog C.w) A (Builtin.Str.tableLookup (.ref ma) c) Q E s := by
  unfold Builtin.Str.tableLookup
  refine wpAny_bind (wpAny_attempt (wpAny_bind (wpAny_mkInt ?_)))
  refine wpAny_getItem_missing_of (knd := intKind C.prog C.w) (k := (c : Int)) (f := f) (by show (Value.isInt (c : Int) (.int (c : Int) s.toks)) = true; simp [Value.isInt]) hne hh (mapOf_keep hm S.top) hf (fun h' e he => ?_)
  dsimp only
  obtain ⟨ob, t, h1, h2, h3⟩ := he.there
  have hT : ({ s with heap := h', toks := s.toks + 1 + 1 } : Shared).TypeIs (.ref e) "KeyError" := ⟨ob, h1, h2⟩
  refine wpAny_bind (wpAny_isInstance hT sub_Key_Lookup ?_)
  rw [if_pos rfl]
  exact wpAny_bind (wpAny_rule (wpAny_pure (h _ (S.keeps he.keeps))))

theorem translate1 {c : Nat} {t : Tok} {Q : Value → Shared → Prop} (hM : MapOk C ma) (hh : A.handled = none) (hc : c < 128) (S : St C h₀ L loc R s) (h : ∀ t s', St C h₀ L loc R s' → Q (.str (toS (escT c)) t) s') :
    wpAny (model C.prog C.w) A (call (.builtin "str.translate") [.str (toS [c]) t, .ref ma]) Q E s := by
  obtain ⟨f, hm, hf⟩ := hM.ex
  obtain ⟨hf1, hf2⟩ := hf c hc
  refine wpAny_call_entry F.slot_str_translate (typeIs_str _ _ _) F.entry_str_translate ?_ (F.args_str_translate_2 _ _)
  unfold Builtin.«str.translate»
  refine wpAny_bind (m := Builtin.Str.strOneArg "translate" ⟨[.str (toS [c]) t, .ref ma], []⟩) ?_
  refine wpAny_of_eq (show Builtin.Str.strOneArg "translate" ⟨[.str (toS [c]) t, .ref ma], []⟩ = pure (.str (toS [c]) t, toS [c], .ref ma) from by rfl) ?_
  dsimp only
  rw [if_neg (by simp)]
  have e1 : (toS [c]).cps = #[c] := rfl
  rw [e1, show (#[c] : Array Nat).all (· < 128) = true by simp [hc]]
  refine wpAny_bind ?_
  rw [← Array.forIn_toList]
  show wpAny _ _ (forIn [c] _ _) _ _ _
  rw [List.forIn_cons]
  refine wpAny_bind ?_
  have z0 : Builtin.Str.tooLong 0 = false := by decide +kernel
  have z1 : Builtin.Str.tooLong 1 = false := by decide +kernel
  have z2 : Builtin.Str.tooLong 2 = false := by decide +kernel
  dsimp only
  rw [if_neg (by rw [z0]; exact Bool.false_ne_true), if_pos rfl]
  dsimp only [List.lookup]
  by_cases hs : c ∈ special
  · obtain ⟨u, hu⟩ := hf1 hs
    refine wpAny_bind (tl_hit hm S hu fun s₁ S₁ => ?_)
    dsimp only
    rw [if_neg (by rw [toS_length]; simp)]
    dsimp only
    repeat (first | with_reducible refine wpAny_bind ?_ | with_reducible refine wpAny_pure ?_ | with_reducible refine wpAny_rule ?_)
    rw [if_neg Bool.false_ne_true]
    refine wpAny_bind (tl_hit hm S₁ hu fun s₂ S₂ => ?_)
    dsimp only
    repeat (first | with_reducible refine wpAny_bind ?_ | with_reducible refine wpAny_pure ?_ | with_reducible refine wpAny_rule ?_)
    dsimp only
    rw [List.forIn_nil]
    repeat (first | with_reducible refine wpAny_bind ?_ | with_reducible refine wpAny_pure ?_ | with_reducible refine wpAny_rule ?_)
    dsimp only
    rw [if_neg (by rw [toS_length]; show ¬ Builtin.Str.tooLong 2 = true; rw [z2]; exact Bool.false_ne_true)]
    refine wpAny_bind (m := mkStr (toS [92, c])) (wpAny_mkStr ?_ (by rw [toS_length, sizeT]; simp))
    refine wpAny_pure ⟨_, rfl, ?_⟩
    have e2 : escT c = [92, c] := by rw [escT, if_pos hs]
    rw [← e2]
    exact h _ _ (S₂.tok _)
  · refine wpAny_bind (tl_miss hm hM.ne hh S (hf2 hs) fun s₁ S₁ => ?_)
    dsimp only
    repeat (first | with_reducible refine wpAny_bind ?_ | with_reducible refine wpAny_pure ?_ | with_reducible refine wpAny_rule ?_)
    dsimp only
    rw [List.forIn_nil]
    repeat (first | with_reducible refine wpAny_bind ?_ | with_reducible refine wpAny_pure ?_ | with_reducible refine wpAny_rule ?_)
    dsimp only
    rw [if_neg (by show ¬ Builtin.Str.tooLong 1 = true; rw [z1]; exact Bool.false_ne_true)]
    refine wpAny_bind (m := mkStr (toS [c])) (wpAny_mkStr ?_ (by rw [toS_length, sizeT]; simp))
    refine wpAny_pure ⟨_, rfl, ?_⟩
    have e2 : escT c = [c] := by rw [escT, if_neg hs]
    rw [← e2]
    exact h _ _ (S₁.tok _)

/-! a method of a built-in kind, by an expression's value -/
theorem escape_spec {mg mb : Str → Option Value} {a : Addr} {k c : Nat} {t : Tok} {Q : Value → Shared → Prop}
    (B : Base C mg mb) (hisi : mg "isinstance" = none ∧ mb "isinstance" = some (.builtin "isinstance")) (hstr : mg "str" = none ∧ mb "str" = some (.type "str")) (hmap : mg "_special_chars_map" = some (.ref ma)) (hM : MapOk C ma)
    (D : DefAt C a (theDef 6)) (Rm : Room A (k + 1)) (S : St C h₀ L loc R s) (hc : c < 128)
    (h : ∀ t s', St C h₀ L loc R s' → Q (.str (toS (escT c)) t) s') :
    wpAny (model C.prog C.w) A (call (.ref a) [.str (toS [c]) t]) Q E s := by
  refine call_def ["pattern"] (ps := [.s (toS [c])]) B D Rm S ⟨.str _ _, trivial⟩ (fun fd e1 e2 e3 => ?_) rfl (by decide +kernel) (fun L' q cd s₁ _ Rm' S₁ => ?_)
  · obtain ⟨n, qn, ps, bd, sc, gl, cl, df, kd⟩ := fd
    dsimp only at e1 e2 e3
    subst e1 e2 e3
    rfl
  · replace S₁ := S₁.weaken (loc' := [("pattern", .s (toS [c]))]) ⟨by rfl, trivial⟩
    change St C h₀ L' _ ((L, .ns loc) :: R) s₁ at S₁
    refine wpAny_execs_cons (wpAny_If (wpAny_isTrue_value ?_))
    refine r_bi B S₁ hisi (wpAny_items_cons (nm_s S₁ rfl fun t1 => wpAny_items_cons (nm_bi B S₁ hstr (wpAny_items_nil ?_))))
    refine call_isinstance_yes (Tx := "str") (typeIs_str _ _ _) (by rfl) (by rw [isSubtype_type]; kernel_rfl) (wpAny_truthy_bool ?_)
    rw [if_pos rfl]
    refine wpAny_execs_cons (wpAny_Return_some ?_)
    refine wpAny_Call_method (T := "str") (id := "str.translate") (by rfl) (by rfl) (by rfl) F.plainAttrs_str F.slot_str_translate F.type_str_translate ?_
    refine nm_s S₁ rfl fun t2 => ⟨typeIs_str _ _ _, (fun _ e => nomatch e), ?_⟩
    refine callWith_builtin (by rfl) (evalArgs_plain (spliced_cons (nm_g B S₁ hmap (spliced_nil ?_))))
    refine translate1 hM Rm'.handled hc S₁ fun t3 s₂ S₂ => ?_
    exact h _ _ (St.back (X := []) S₂)
end
end Mine

namespace Mine

open PySem PySem.W PyProof.Rows PySem.Calls

section
variable {C : Cfg} {h₀ : Heap} {loc : List (Str × PV)} {R : List (Addr × AO)} {s : Shared} {A : Around} {E : Value → Shared → Prop} {env : Env} {mg mb : Str → Option Value} {L : Addr}

/-- while -/
theorem r_while {test : Expr} {body : List Stmt} {pos : Pos} {Q : Flow → Shared → Prop} (S : St C h₀ L loc R s) (I : Nat → List (Str × PV) → List (Addr × AO) → Prop) (n : Nat) (h0 : I n loc R)
    (turn : ∀ n loc' R' s', I n loc' R' → St C h₀ L loc' R' s' → wpAny (model C.prog C.w) A (PySem.isTrue test env (eval test env)) (fun b s₂ => if b = true then wpAny (model C.prog C.w) A (execs body env) (fun f s₃ => match f with
        | .next | .cont => ∃ m loc'' R'', m < n ∧ I m loc'' R'' ∧ St C h₀ L loc'' R'' s₃
        | .brk => Q .next s₃
        | .ret v => Q (.ret v) s₃) (fun _ _ => False) s₂ else Q .next s₂) (fun _ _ => False) s') :
    wpAny (model C.prog C.w) A (exec (.While test body [] pos) env) Q E s := by
  refine wpAny_While ?_
  refine codeAny_whileLoop (fun n s' => ∃ loc' R', I n loc' R' ∧ St C h₀ L loc' R' s') (fun n s' hI => ?_) n ⟨loc, R, h0, S⟩
  obtain ⟨loc', R', hI, S'⟩ := hI
  refine wpAny_mono (turn n loc' R' s' hI S') (fun b s₂ q => ?_) fun _ _ q => q.elim
  cases b with
  | true =>
    simp only [if_true] at q ⊢
    refine wpAny_mono q (fun f s₃ q => ?_) fun _ _ q => q.elim
    cases f with
    | next => obtain ⟨m, l, r, a, b, c⟩ := q; exact ⟨m, a, l, r, b, c⟩
    | cont => obtain ⟨m, l, r, a, b, c⟩ := q; exact ⟨m, a, l, r, b, c⟩
    | brk => exact q
    | ret v => exact q
  | false =>
    simp only [Bool.false_eq_true, if_false] at q ⊢
    exact wpAny_execs_nil q

theorem r_whileQ {test : Expr} {body : List Stmt} {pos : Pos} {Q : Flow → Shared → Prop} (S : St C h₀ L loc R s) (I : Nat → List (Str × PV) → List (Addr × AO) → Prop) (n : Nat) (h0 : I n loc R)
    (turn : ∀ n loc' R' s', I n loc' R' → St C h₀ L loc' R' s' → ∀ Qb : Flow → Shared → Prop, (∀ f s₃, (match f with
        | .next | .cont => ∃ m loc'' R'', m < n ∧ I m loc'' R'' ∧ St C h₀ L loc'' R'' s₃
        | .brk => Q .next s₃
        | .ret v => Q (.ret v) s₃) → Qb f s₃) → wpAny (model C.prog C.w) A (PySem.isTrue test env (eval test env)) (fun b s₂ => if b = true then wpAny (model C.prog C.w) A (execs body env) Qb (fun _ _ => False) s₂ else Q .next s₂) (fun _ _ => False) s') :
    wpAny (model C.prog C.w) A (exec (.While test body [] pos) env) Q E s :=
  r_while S I n h0 fun n loc' R' s' hI S' => turn n loc' R' s' hI S' _ fun _ _ h => h

theorem set_self {α : Type} : ∀ {l : List α} {i : Nat} {x : α}, l[i]? = some x → l.set i x = l
  | y :: l, 0, x, e => by cases e; rfl
  | y :: l, i + 1, x, e => by rw [List.set_cons_succ, set_self (by simpa using e)]

/-- lambda: .., with no cell of the frame -/
theorem r_lambda {params : Arguments} {body : Expr} {scope : Scope} {pos : Pos} {c Pl : Addr} {Q : Value → Shared → Prop} (B : Base C mg mb) (BM : C.top.BuiltinsAt mg Pl) (S : St C h₀ L loc R s) (i : Nat) (ei : R[i]? = some (Pl, .tab))
    (hcd : env.code = .ref c) (CH : CodeHd C.top c Pl) (h : ∀ f s', St C h₀ L loc R s' → (∃ o, s'.heap.get? f = some o ∧ o.cls = .type "function") → Q (.ref f) s')
    (hdef : autoParam (defaultsOf params env = ([], [])) rflT) (hcl : autoParam (closureFor scope env = pure []) rflT) (hg : autoParam (env.globals = mainGlobals) rflT) :
    wpAny (model C.prog C.w) A (eval (.Lambda params body scope pos) env) Q E s := by
  refine kla_eval hdef ?_
  have hm := List.mem_of_getElem? ei
  obtain ⟨ps, hP, ht⟩ := S.getOK hm
  have hta : C.top.get? Pl = none := (S.off _ hm).1
  have hgP : mainGlobals ≠ Pl := fun q => by
    obtain ⟨o, _, _, ho, _⟩ := B.ng
    rw [q, hta] at ho; cases ho
  cases hf : codeAmong pos ps.toList with
  | none =>
    refine kla_makeFunction hcl hg (B.ng.keeps S.top) hcd (CH.keeps S.top) hP ht hf hgP (BM.keeps S.top) fun c' ctv h' tk ext h1 h2 hrec hp => ?_
    have S1 := S.upd (h' := h') (t := tk) i ei ext (x' := .tab) fun _ => ⟨_, hp, by rw [Array.toList_append]; exact TriplesOk_snoc _ _ _ _ ht⟩
    rw [set_self ei] at S1
    exact h _ _ (S1.push _) ⟨_, Heap.get?_push_size _ rfl, rfl⟩
  | some cv =>
    refine kla_makeFunctionHit hcl hg (B.ng.keeps S.top) hcd (CH.keeps S.top) hP ht hf (BM.keeps S.top) fun ctv h' tk k1 hsz => ?_
    have S1 := S.keeps (h' := h') (t := tk) k1
    exact h _ _ (S1.push _) ⟨_, Heap.get?_push_size _ rfl, rfl⟩

/-- text[i] -/
theorem item_t {l : T} {i c : Nat} {t u : Tok} {Q : Value → Shared → Prop} (S : St C h₀ L loc R s) (hc : l[i]? = some c) (hz : i < 16000000) (h : ∀ t' s', St C h₀ L loc R s' → Q (.str (toS [c]) t') s') :
    ItemOn (model C.prog C.w) A E (.str (toS l) t) (.int (i : Int) u) Q s := by
  have hil : i < l.length := (List.getElem?_eq_some_iff.mp hc).1
  have hch : Txt.charAt (toS l) (i : Int) = some c := by
    unfold Txt.charAt
    have e1 : seqIndex? (i : Int) (toS l).length = some i := by
      unfold seqIndex?
      rw [toS_length]
      have hn : ¬ ((i : Int) < 0) := by lia
      simp [hn, hil]
    rw [e1]
    simp [toS, hc]
  refine SB.item (by unfold fitsSsize; simp; lia) (by rw [hch]; rfl) ?_
  have : Txt.item (toS l) (i : Int) = toS [c] := by unfold Txt.item; rw [hch]; rfl
  rw [this]
  exact h _ _ (S.tok _)

inductive AppK (C : Cfg) (h₀ : Heap) (ra : Addr) (ba : Addr) (Q : Value → Shared → Prop) (x : Value) (s₁ : Shared) : Prop
  | mk (l : List PV) (pv : PV) (L : Addr) (loc : List (Str × PV)) (R : List (Addr × AO)) (i : Nat)
    (e0 : VR s₁.heap pv x)
    (e1 : St C h₀ L loc R s₁)
    (e2 : R[i]? = some (ra, .list l))
    (e3 : (ba, .raw (boundAppend ra)) ∈ R)
    (e4 : l.length ≤ 1000000)
    (e5 : ∀ s', St C h₀ L loc (R.set i (ra, .list (l ++ [pv]))) s' → Q .none s') : AppK C h₀ ra ba Q x s₁

/-- f(x) where f is the append of a list that the ledger knows -/
theorem r_app {f : Str} {p pos : Pos} {e : Expr} {ra ba : Addr} {Q : Value → Shared → Prop} (Su_ : St C h₀ L loc R s)
    (hf : ∀ Q', Q' (.ref ba) s → wpAny (model C.prog C.w) A (eval (.Name f p) env) Q' E s)
    (h : wpAny (model C.prog C.w) A (eval e env) (AppK C h₀ ra ba Q) E s)
    (he : autoParam (starEach [e] env = [(false, eval e env)]) rflT) :
    wpAny (model C.prog C.w) A (eval (.Call (.Name f p) [e] [] pos) env) Q E s := by
  refine r_bound (a := ra) hf (wpAny_mono h (fun x s₁ q => ?_) fun _ _ q => q) he
  obtain ⟨l, pv, L, loc, R, i, r, S, ei, hb, hz, q⟩ := q
  obtain ⟨xs, hl, hr⟩ := S.getOK (List.mem_of_getElem? ei)
  have hlen : xs.size = l.length := by have := hr.length; simp at this; lia
  refine ⟨(S.getOK hb).1, xs, hl, by rw [hlen, sizeT]; lia, fun h' hl' hs => ?_⟩
  refine q _ (S.upd (t := s₁.toks) i ei hs.extBut fun k => ⟨_, hl', ?_⟩)
  rw [Array.toList_push]
  exact (hr.tk k).append ⟨r.tk k, trivial⟩

/-! ### tests of whole numbers and signs -/
theorem Tst.use {e : Expr} {b : Bool} {Q : Bool → Shared → Prop} (h : Tst C h₀ L loc R A env e b) (S : St C h₀ L loc R s) (q : ∀ s', St C h₀ L loc R s' → Q b s') : wpAny (model C.prog C.w) A (PySem.isTrue e env (eval e env)) Q E s := h _ _ _ S q
theorem c_neg {i : Int} {k : Nat} {p1 p2 : Pos} {Q : Value → Shared → Prop} (S : St C h₀ L loc R s) (h : ∀ t s', St C h₀ L loc R s' → Q (.int (-i) t) s') : wpAny (model C.prog C.w) A (eval (.UnaryOp .USub (.Constant (.int i) k p1) p2) env) Q E s := by
  refine lit_neg _ fun v tk hv => ?_
  obtain ⟨t, rfl⟩ := vr_int (h := s.heap) (hv s.heap)
  exact h _ _ (S.tok _)
theorem item_last {a : Addr} {l : List PV} {pv : PV} {t : Tok} {Q : Value → Shared → Prop} (S : St C h₀ L loc R s) (hm : (a, AO.list l) ∈ R) (hl : l.getLast? = some pv) (hz : l.length ≤ 1000000) (h : ∀ v, VR s.heap pv v → Q v s) :
    ItemOn (model C.prog C.w) A E (.ref a) (.int (-1) t) Q s := by
  obtain ⟨xs, ⟨n, hx⟩, hr⟩ := S.getOK hm
  have hlen : xs.size = l.length := by have := hr.length; simp at this; lia
  rw [List.getLast?_eq_getElem?] at hl
  obtain ⟨v, e1, e2⟩ := hr.getP hl
  have hpos : l.length - 1 < l.length := (List.getElem?_eq_some_iff.mp hl).1
  refine ⟨"list", "list.__getitem__", list_getitem_lookup, ⟨_, hx, rfl⟩, ?_⟩
  refine wpAny_getItem_list_neg ⟨_, hx, rfl, _, rfl⟩ (by lia) (by lia) (by lia) ?_ (h v e2)
  rw [show ((-1 : Int) + xs.size).toNat = l.length - 1 by lia]
  simpa using e1

theorem tst_lt {x y : Str} {p1 p2 p3 : Pos} {a b : Int} (hx : loc.lookup x = some (.i a)) (hy : loc.lookup y = some (.i b))
    (hk : autoParam (env.scope.kind = .function) rflT) (hl : autoParam (env.kindOf x = some .local) rflT) (hl' : env.kindOf y = some .local := by rfl) (hd : autoParam ((x == ("__debug__" : Str)) = false) decT) (hd' : (y == ("__debug__" : Str)) = false := by decide) :
    Tst C h₀ env.locals loc R A env (.Compare (.Name x p1) [.Lt] [.Name y p2] p3) (decide (a < b)) := fun _ _ _ S h =>
  wpAny_isTrue_Compare1 (nm_i S hx (fun t => nm_i S hy (fun u => PyProof.Rows.lt_int (wpAny_truthy_bool (h _ S))) hk hl' hd') hk hl hd) (by rfl)
theorem tst_ge {x y : Str} {p1 p2 p3 : Pos} {a b : Int} (hx : loc.lookup x = some (.i a)) (hy : loc.lookup y = some (.i b))
    (hk : autoParam (env.scope.kind = .function) rflT) (hl : autoParam (env.kindOf x = some .local) rflT) (hl' : env.kindOf y = some .local := by rfl) (hd : autoParam ((x == ("__debug__" : Str)) = false) decT) (hd' : (y == ("__debug__" : Str)) = false := by decide) :
    Tst C h₀ env.locals loc R A env (.Compare (.Name x p1) [.GtE] [.Name y p2] p3) (decide (a ≥ b)) := fun _ _ _ S h =>
  wpAny_isTrue_Compare1 (nm_i S hx (fun t => nm_i S hy (fun u => PyProof.Rows.ge_int (wpAny_truthy_bool (h _ S))) hk hl' hd') hk hl hd) (by rfl)
theorem beq_int (a b : Int) : (a == b) = decide (a = b) := by rw [Bool.eq_iff_iff]; simp
theorem tst_eqi {x y : Str} {p1 p2 p3 : Pos} {a b : Int} (hx : loc.lookup x = some (.i a)) (hy : loc.lookup y = some (.i b))
    (hk : autoParam (env.scope.kind = .function) rflT) (hl : autoParam (env.kindOf x = some .local) rflT) (hl' : env.kindOf y = some .local := by rfl) (hd : autoParam ((x == ("__debug__" : Str)) = false) decT) (hd' : (y == ("__debug__" : Str)) = false := by decide) :
    Tst C h₀ env.locals loc R A env (.Compare (.Name x p1) [.Eq] [.Name y p2] p3) (decide (a = b)) := fun _ _ _ S h =>
  wpAny_isTrue_Compare1 (nm_i S hx (fun t => nm_i S hy (fun u => PyProof.Rows.eq_int (wpAny_truthy_bool (by rw [beq_int]; exact h _ S))) hk hl' hd') hk hl hd) (by rfl)
/-- x[j] == 'c' -/
theorem tst_sign_eq {x j : Str} {y : Str} {m : Nat} {k : Nat} {p1 p2 p3 p4 p5 : Pos} {l : T} {n c : Nat} (hx : loc.lookup x = some (.s (toS l))) (hj : loc.lookup j = some (.i (n : Int))) (hc : l[n]? = some c) (hz : n < 16000000) (hy : y = toS [m])
    (hk : autoParam (env.scope.kind = .function) rflT) (hl : autoParam (env.kindOf x = some .local) rflT) (hl' : env.kindOf j = some .local := by rfl) (hd : autoParam ((x == ("__debug__" : Str)) = false) decT) (hd' : (j == ("__debug__" : Str)) = false := by decide) :
    Tst C h₀ env.locals loc R A env (.Compare (.Subscript (.Name x p1) (.Name j p2) p3) [.Eq] [.Constant (.str y) k p4] p5) (decide (c = m)) := fun _ _ _ S h =>
  wpAny_isTrue_Compare1 (Subscript_Name (nm_s S hx (fun t => nm_i S hj (fun u => item_t S hc hz fun t1 s1 S1 => c_t [m] S1 (fun t2 s2 S2 => r_eq_str (wpAny_truthy_bool (by have := h _ S2; simpa using this))) hy) hk hl' hd') hk hl hd)) (by rfl)
theorem tst_sign_ne {x j : Str} {y : Str} {m : Nat} {k : Nat} {p1 p2 p3 p4 p5 : Pos} {l : T} {n c : Nat} (hx : loc.lookup x = some (.s (toS l))) (hj : loc.lookup j = some (.i (n : Int))) (hc : l[n]? = some c) (hz : n < 16000000) (hy : y = toS [m])
    (hk : autoParam (env.scope.kind = .function) rflT) (hl : autoParam (env.kindOf x = some .local) rflT) (hl' : env.kindOf j = some .local := by rfl) (hd : autoParam ((x == ("__debug__" : Str)) = false) decT) (hd' : (j == ("__debug__" : Str)) = false := by decide) :
    Tst C h₀ env.locals loc R A env (.Compare (.Subscript (.Name x p1) (.Name j p2) p3) [.NotEq] [.Constant (.str y) k p4] p5) (!decide (c = m)) := fun _ _ _ S h =>
  wpAny_isTrue_Compare1 (Subscript_Name (nm_s S hx (fun t => nm_i S hj (fun u => item_t S hc hz fun t1 s1 S1 => c_t [m] S1 (fun t2 s2 S2 => r_ne_str (wpAny_truthy_bool (by have := h _ S2; simpa using this))) hy) hk hl' hd') hk hl hd)) (by rfl)
/-- x == 'text' -/
theorem tst_str_eq {x : Str} {y : Str} {l m : T} {k : Nat} {p1 p2 p3 : Pos} (hx : loc.lookup x = some (.s (toS l))) (hy : y = toS m)
    (hk : autoParam (env.scope.kind = .function) rflT) (hl : autoParam (env.kindOf x = some .local) rflT) (hd : autoParam ((x == ("__debug__" : Str)) = false) decT) :
    Tst C h₀ env.locals loc R A env (.Compare (.Name x p1) [.Eq] [.Constant (.str y) k p2] p3) (decide (l = m)) := fun _ _ _ S h =>
  wpAny_isTrue_Compare1 (nm_s S hx (fun t => c_t m S (fun t2 s2 S2 => r_eq_str (wpAny_truthy_bool (h _ S2))) hy) hk hl hd) (by rfl)
/-- x = y + k -/
theorem r_inc {x y : Str} {k : Nat} {a b : Int} {p1 p2 p3 p4 pos : Pos} {Q : Flow → Shared → Prop} (S : St C h₀ env.locals loc R s) (hy : loc.lookup y = some (.i a)) (h : ∀ s', St C h₀ env.locals ((x, .i (a + b)) :: loc) R s' → Q .next s')
    (hk : autoParam (env.scope.kind = .function) rflT) (hl : autoParam (env.kindOf x = some .local) rflT) (hl' : env.kindOf y = some .local := by rfl) (hd' : (y == ("__debug__" : Str)) = false := by decide) :
    wpAny (model C.prog C.w) A (exec (.Assign [.Name x p1] (.BinOp (.Name y p2) .Add (.Constant (.int b) k p3) p4) pos) env) Q E s :=
  wpAny_Assign_Name (wpAny_BinOp (nm_i S hy (fun t => c_i S fun t1 s1 S1 => r_add S1 fun t2 s2 S2 => stloc (p := .i (a + b)) S2 (.int _ _) h hk hl) hk hl' hd')) (by rfl)
inductive PartJ (C : Cfg) (h₀ : Heap) (L : Addr) (loc : List (Str × PV)) (R : List (Addr × AO)) (l : T) (n : Nat) (Q : Value → Shared → Prop) (j : Value) (s₃ : Shared) : Prop
  | mk (m : Nat) (u : Tok)
    (e0 : j = .int (m : Int) u)
    (e1 : n ≤ m)
    (e2 : m ≤ l.length)
    (e3 : St C h₀ L loc R s₃)
    (e4 : ∀ t' s', St C h₀ L loc R s' → Q (.str (toS ((l.drop n).take (m - n))) t') s') : PartJ C h₀ L loc R l n Q j s₃

inductive PartK (C : Cfg) (h₀ : Heap) (L : Addr) (loc : List (Str × PV)) (R : List (Addr × AO)) (A : Around) (env : Env) (hi : Expr) (l : T) (Q : Value → Shared → Prop) (E : Value → Shared → Prop) (i : Value) (s₂ : Shared) : Prop
  | mk (n : Nat) (u : Tok)
    (e0 : i = .int (n : Int) u)
    (e1 : wpAny (model C.prog C.w) A (eval hi env) (PartJ C h₀ L loc R l n Q) E s₂) : PartK C h₀ L loc R A env hi l Q E i s₂

inductive PartO (C : Cfg) (h₀ : Heap) (L : Addr) (loc : List (Str × PV)) (R : List (Addr × AO)) (A : Around) (env : Env) (lo : Expr) (hi : Expr) (Q : Value → Shared → Prop) (E : Value → Shared → Prop) (o : Value) (s₁ : Shared) : Prop
  | mk (l : T) (t : Tok)
    (e0 : o = .str (toS l) t)
    (e1 : l.length ≤ 16000000)
    (e2 : wpAny (model C.prog C.w) A (eval lo env) (PartK C h₀ L loc R A env hi l Q E) E s₁) : PartO C h₀ L loc R A env lo hi Q E o s₁

/-- x[i:j] -/
theorem r_part {value lo hi : Expr} {p pos : Pos} {Q : Value → Shared → Prop} (Su_ : St C h₀ L loc R s)
    (h : wpAny (model C.prog C.w) A (eval value env) (PartO C h₀ L loc R A env lo hi Q E) E s)
    (ht : ∀ o r, letTemporaryGo value o r = pure () := by intro _ _; rfl) :
    wpAny (model C.prog C.w) A (eval (.Subscript value (.Slice (some lo) (some hi) none p) pos) env) Q E s := by
  refine Subscript_Slice (wpAny_mono h (fun o s₁ q => ?_) fun _ _ q => q) ht
  obtain ⟨l, t, rfl, hz, q⟩ := q
  refine wpAny_Slice (evalPart_some_step (wpAny_mono q (fun i s₂ q => ?_) fun _ _ q => q))
  obtain ⟨n, u, rfl, q⟩ := q
  refine evalPart_some_step (wpAny_mono q (fun i s₂ q => ?_) fun _ _ q => q)
  obtain ⟨m, u', rfl, h1, h2, S₃, q⟩ := q
  refine evalPart_none_step ?_
  refine SBG.sliceItem_ss stKept S₃ (fun s' t' S' => ?_) (by rw [toS_length, sizeT]; lia)
  have := beq_iff_eq.mp (slice_closesL (x := toS l) (i := n) (j := m) (by lia) (by lia) (by rw [toS_length]; lia))
  rw [this]
  have e : (⟨(((toS l).cps.toList.drop (n : Int).toNat).take ((m : Int) - (n : Int)).toNat).toArray⟩ : Str) = toS ((l.drop n).take (m - n)) := by
    rw [toS_cps, Int.toNat_natCast, show ((m : Int) - (n : Int)).toNat = m - n by lia]; rfl
  rw [e]
  exact q _ _ S'
theorem wpAny_bindName1 {x : Str} {v : Value} {Q : Unit → Shared → Prop} (h : wpAny (model C.prog C.w) A (storeName env x v) Q E s) : wpAny (model C.prog C.w) A (bindName env x v) Q E s := by
  unfold bindName
  exact wpAny_bind (wpAny_holding (wpAny_point (wpAny_bind (wpAny_mono h (fun _ _ q => wpAny_point q) fun _ _ q => q))))
/-- x, y = a, b: two names of the frame -/
theorem r_swap2 {x y : Str} {px py tpos vpos pos : Pos} {k j : Nat} {e1 e2 : Expr} {Q : Flow → Shared → Prop} (S : St C h₀ L loc R s) (hh : A.handled = none)
    (h : wpAny (model C.prog C.w) A (spliced (backTo vpos (starEach [e1, e2] env))) (fun xs s₁ => ∃ v w loc R, xs = [v, w] ∧ St C h₀ L loc R s₁ ∧
      (∀ s₂, St C h₀ L loc R s₂ → TK s₁.heap s₂.heap → wpAny (model C.prog C.w) A (storeName env y w) (fun _ s₃ => wpAny (model C.prog C.w) A (storeName env x v) (fun _ => Q .next) E s₃) E s₂)) E s)
    (hs : autoParam (swapsWithSole [.Tuple [.Name x px, .Name y py] k tpos] (.Tuple [e1, e2] j vpos) pos.line env = pure false) rflT) (hw : autoParam (swappedStores [.Tuple [.Name x px, .Name y py] k tpos] (.Tuple [e1, e2] j vpos) env = pure (some [x, y])) rflT) :
    wpAny (model C.prog C.w) A (exec (.Assign [.Tuple [.Name x px, .Name y py] k tpos] (.Tuple [e1, e2] j vpos) pos) env) Q E s := by
  refine r_swap (names := [x, y]) S hh (wpAny_mono h (fun xs s₁ q => ?_) fun _ _ q => q) hs hw
  obtain ⟨v, w, loc, R, rfl, S₁, q⟩ := q
  refine ⟨loc, R, rfl, by simp, S₁, fun s₂ S₂ tk => ?_⟩
  exact aio_cons (t := bindName env y) (ts := [bindName env x]) (wpAny_bindName1 (wpAny_mono (q s₂ S₂ tk) (fun _ s₃ q => aio_cons (ts := []) (wpAny_bindName1 (wpAny_mono q (fun _ s₄ q => aio_nil q) fun _ _ q => q))) fun _ _ q => q))
end
end Mine

namespace Mine

open PySem PySem.W PyProof.Rows PySem.Calls

/-! ### translateu_, on signs told as they are and stars -/
noncomputable def quote1 (c : Nat) : T := if c ∈ [42, 63, 91] then [91, c, 93] else [c]
noncomputable def E1 (c : Nat) : T := if c ∈ [42, 63, 91] then (if c = 91 then [91, 92, 91, 93] else [91, c, 93]) else escT c
noncomputable def qI : Option Nat → T
  | none => [42]
  | some c => quote1 c
noncomputable def oI (sa : Addr) : Option Nat → PV
  | none => .ref sa
  | some c => .s (toS (E1 c))
noncomputable def NoTwo : List (Option Nat) → Prop
  | none :: none :: _ => False
  | _ :: r => NoTwo r
  | [] => True

/-- what translate's call reaches -/
structure Tr (C : Cfg) (mg mb : Str → Option Value) (pl : Addr) : Prop where
  base : Base C mg mb
  len : mg "len" = none ∧ mb "len" = some (.builtin "len")
  isi : mg "isinstance" = none ∧ mb "isinstance" = some (.builtin "isinstance")
  str : mg "str" = none ∧ mb "str" = some (.type "str")
  obj : mg "object" = none ∧ mb "object" = some (.type "object")
  bm : C.top.BuiltinsAt mg pl
  map : ∃ ma, mg "_special_chars_map" = some (.ref ma) ∧ MapOk C ma
  pat : ∃ pa, mg "_twin_re_1" = some (.ref pa) ∧ PatOk C pa
  esc : ∃ a, mg "escape" = some (.ref a) ∧ DefAt C a (theDef 6)
  tr_ : ∃ a, mg "_translate" = some (.ref a) ∧ DefAt C a (theDef 8) ∧ ∀ o fd, C.top.get? a = some o → o.data = .func fd → ∃ c, fd.code = .ref c ∧ CodeHd C.top c pl
  join_ : ∃ a, mg "_join_translated_parts" = some (.ref a) ∧ DefAt C a (theDef 9)
  tr : ∃ a, mg "translate" = some (.ref a) ∧ DefAt C a (theDef 3)

noncomputable abbrev trLoc (pat : T) (sa ra ba : Addr) (i n : Nat) : List (Str × PV) :=
  [("pat", .s (toS pat)), ("STAR", .ref sa), ("QUESTION_MARK", .s (toS [46])), ("res", .ref ra), ("add", .ref ba), ("i", .i (i : Int)), ("n", .i (n : Int))]

section
variable {C : Cfg} {h₀ : Heap} {L : Addr} {loc : List (Str × PV)} {R : List (Addr × AO)} {s : Shared} {A : Around} {E : Value → Shared → Prop} {mg mb : Str → Option Value} {a : Addr} {k : Nat}

theorem replace_same {x : Str} {y z : Str} {t u v : Tok} {Q : Value → Shared → Prop} (S : St C h₀ L loc R s) (hx : (Builtin.Str.occurrences x y 0 x.length (x.length + 1)).isEmpty = true) (h : ∀ t' s', St C h₀ L loc R s' → Q (.str x t') s') :
    wpAny (model C.prog C.w) A (call (.builtin "str.replace") [.str x t, .str y u, .str z v]) Q E s := by
  refine call_gives F.slot_str_replace (typeIs_str _ _ _) F.entry_str_replace (F.args_str_replace_3 _ _ _) (gives_str_replace x y z t u v fun e => by rw [hx] at e; cases e) ?_
  rw [hx, Bool.true_or, if_pos rfl]
  exact h _ _ S

section
variable {env : Env}
theorem callWith_bi {id : String} {first : List Value} {e : Expr} {rest : List Expr} {pos : Pos} {Q : Value → Shared → Prop}
    (h : wpAny (model C.prog C.w) A (spliced (backTo pos (starEach (e :: rest) env))) (fun vs s₁ => wpAny (model C.prog C.w) A (call (.builtin id) (first ++ vs)) Q E s₁) E s)
    (he : autoParam (starEach (e :: rest) env = (false, eval e env) :: starEach rest env) rflT) (hpl : autoParam ((backTo pos (starEach (e :: rest) env)).any (·.1) = false) rflT) :
    wpAny (model C.prog C.w) A (callWith pos (.builtin id) first (backTo pos (starEach (e :: rest) env)) []) Q E s := by
  refine callWith_builtin hpl ?_
  rw [he] at h ⊢
  exact evalArgs_plain h
/-- not res or res[-1] is not STAR -/
theorem tst_star {res star : Str} {ra sa : Addr} {l : List PV} {kk : Nat} {p1 p2 p3 p4 p5 p6 p7 p8 p9 : Pos} (hres : loc.lookup res = some (.ref ra)) (hstar : loc.lookup star = some (.ref sa)) (hm : (ra, AO.list l) ∈ R)
    (hl : l = [] ∨ ∃ x, l.getLast? = some (.s x)) (hz : l.length ≤ 1000000)
    (hk : autoParam (env.scope.kind = .function) rflT) (hl1 : autoParam (env.kindOf res = some .local) rflT) (hl2 : autoParam (env.kindOf star = some .local) rflT) (hd : autoParam ((res == ("__debug__" : Str)) = false) decT) (hd' : (star == ("__debug__" : Str)) = false := by decide) :
    Tst C h₀ env.locals loc R A env (.BoolOp .Or [.UnaryOp .Not (.Name res p1) p2, .Compare (.Subscript (.Name res p3) (.UnaryOp .USub (.Constant (.int 1) kk p4) p5) p6) [.IsNot] [.Name star p7] p8] p9) true := fun s E Q S h => by
  obtain ⟨xs, ⟨n, hx⟩, hr⟩ := S.getOK hm
  have hlen : xs.size = l.length := by have := hr.length; simp at this; lia
  refine wpAny_isTrue_BoolOp (wpAny_allTrue_Or_cons (wpAny_isTrue_Not (wpAny_isTrue_value (nm_r S hres ?_ hk hl1 hd))))
  refine wpAny_truthy_list ⟨_, hx, rfl, _, rfl⟩ (by lia) ?_
  have S1 := S.tok (s.toks + 1 + 1)
  rcases hl with rfl | ⟨x, hx'⟩
  · have e : xs = #[] := Array.eq_empty_of_size_eq_zero hlen
    subst e
    exact h _ S1
  · have e : xs.isEmpty = false := by
      cases hq : xs.isEmpty with
      | false => rfl
      | true =>
        rw [Array.isEmpty_iff] at hq
        subst hq
        simp at hlen
        rw [List.length_eq_zero_iff.mp hlen.symm] at hx'
        cases hx'
    rw [e]
    refine wpAny_allTrue_Or_cons (wpAny_isTrue_Compare1 (Subscript_UnaryOp (nm_r S1 hres (c_neg S1 fun t s2 S2 => item_last S2 hm hx' hz fun v hv => ?_) hk hl1 hd)) (by rfl))
    refine nm_r S2 hstar ?_ hk hl2 hd'
    obtain ⟨t', rfl⟩ := vr_str hv
    exact wpAny_isNot_other rfl (by simp) (wpAny_truthy_bool (h _ S2))
theorem r_notin_str {l : T} {c : Nat} {t u : Tok} {Q : Value → Shared → Prop} (h : Q (.bool (!decide (c ∈ l))) s) : wpAny (model C.prog C.w) A (compareOp .NotIn (.str (toS [c]) t) (.str (toS l) u)) Q E s := by
  refine PyProof.Rows.notIn_str ?_
  have := StrLaws.found_one (toS l) c
  rw [toS_cps] at this
  have e : (⟨#[c]⟩ : Str) = toS [c] := rfl
  rw [← e, this]
  exact h
theorem tst_truthy {x : Str} {l : T} {p1 : Pos} (hx : loc.lookup x = some (.s (toS l))) (hz : l.length ≤ 1000000)
    (hk : autoParam (env.scope.kind = .function) rflT) (hl : autoParam (env.kindOf x = some .local) rflT) (hd : autoParam ((x == ("__debug__" : Str)) = false) decT) :
    Tst C h₀ env.locals loc R A env (.Name x p1) (!decide (l = [])) := fun s E Q S h => by
  refine wpAny_isTrue_value (nm_s S hx (fun t => ?_) hk hl hd)
  refine P.truthy_str (by rw [toS_length]; lia) ?_
  have e : (((toS l).length : Int) != 0) = !decide (l = []) := by
    rw [toS_length]
    cases l <;> simp
    lia
  rw [e]
  exact h _ (S.tok _)
theorem Tst.not {e : Expr} {p : Pos} {b : Bool} (x : Tst C h₀ L loc R A env e b) : Tst C h₀ L loc R A env (.UnaryOp .Not e p) (!b) := fun s _ _ S h => wpAny_isTrue_Not (x s _ _ S fun s' S' => h s' S')
/-- x[0] == 'c' -/
theorem tst_first_eq {x y : Str} {m c : Nat} {k k' : Nat} {p1 p2 p3 p4 p5 : Pos} {l : T} (hx : loc.lookup x = some (.s (toS l))) (hc : l[0]? = some c) (hy : y = toS [m])
    (hk : autoParam (env.scope.kind = .function) rflT) (hl : autoParam (env.kindOf x = some .local) rflT) (hd : autoParam ((x == ("__debug__" : Str)) = false) decT) :
    Tst C h₀ env.locals loc R A env (.Compare (.Subscript (.Name x p1) (.Constant (.int 0) k' p2) p3) [.Eq] [.Constant (.str y) k p4] p5) (decide (c = m)) := fun _ _ _ S h =>
  wpAny_isTrue_Compare1 (Subscript_Constant (nm_s S hx (fun t => c_i S fun u s0 S0 => item_t (i := 0) S0 hc (by lia) fun t1 s1 S1 => c_t [m] S1 (fun t2 s2 S2 => r_eq_str (wpAny_truthy_bool (by have := h _ S2; simpa using this))) hy) hk hl hd)) (by rfl)
/-- x[0] in ('a', 'b') -/
theorem tst_first_in2 {x y1 y2 : Str} {m1 m2 c : Nat} {k k1 k2 k' : Nat} {p1 p2 p3 p4 p5 p6 p7 : Pos} {l : T} (hx : loc.lookup x = some (.s (toS l))) (hc : l[0]? = some c) (hy1 : y1 = toS [m1]) (hy2 : y2 = toS [m2])
    (hk : autoParam (env.scope.kind = .function) rflT) (hl : autoParam (env.kindOf x = some .local) rflT) (hd : autoParam ((x == ("__debug__" : Str)) = false) decT) :
    Tst C h₀ env.locals loc R A env (.Compare (.Subscript (.Name x p1) (.Constant (.int 0) k' p2) p3) [.In] [.Tuple [.Constant (.str y1) k1 p4, .Constant (.str y2) k2 p5] k p6] p7) (decide (m1 = c) || decide (m2 = c)) := fun _ _ _ S h =>
  wpAny_isTrue_Compare1 (Subscript_Constant (nm_s S hx (fun t => c_i S fun u s0 S0 => item_t (i := 0) S0 hc (by lia) fun t1 s1 S1 =>
    wpAny_Tuple (wpAny_items_cons (c_t [m1] S1 (fun t2 s2 S2 => wpAny_items_cons (c_t [m2] S2 (fun t3 s3 S3 => wpAny_items_nil ⟨sz2, by
      refine PySem.SeqRoads2.in_tuple (n := 0) (fun y => decide (strOf? y = [c])) (fun y hy => ?_) (Heap.get?_push_size _ rfl) (wpAny_truthy_bool ?_)
      · simp at hy
        rcases hy with rfl | rfl
        · exact eqGives_t _ _ _ _
        · exact eqGives_t _ _ _ _
      · have := h _ (S3.push { cls := .type "tuple", data := .seq #[.str (toS [m1]) t2, .str (toS [m2]) t3] })
        simpa [strOf?] using this⟩) hy2)) hy1))) hk hl hd)) (by rfl)
end
end
end Mine

namespace Mine

open PySem PySem.W PyProof.Rows PySem.Calls
section
variable {C : Cfg} {h₀ : Heap} {L : Addr} {loc : List (Str × PV)} {R : List (Addr × AO)} {s : Shared} {A : Around} {E : Value → Shared → Prop} {mg mb : Str → Option Value} {a pl sa : Addr} {k : Nat}

theorem quote1_len (c : Nat) : 1 ≤ (quote1 c).length ∧ (quote1 c).length ≤ 3 := by unfold quote1; split <;> simp
theorem qI_len (x : Option Nat) : 1 ≤ (qI x).length ∧ (qI x).length ≤ 3 := by cases x with | none => simp [qI] | some c => exact quote1_len c
theorem flat_len : ∀ l : List (Option Nat), (l.flatMap qI).length ≤ 3 * l.length
  | [] => by simp
  | x :: r => by have := flat_len r; have := qI_len x; simp only [List.flatMap_cons, List.length_append, List.length_cons]; lia

theorem noTwo_mid : ∀ {l : List (Option Nat)} {r : List (Option Nat)}, NoTwo (l ++ none :: none :: r) → False
  | [], _, h => h
  | none :: none :: l, r, h => h
  | [none], r, h => h
  | none :: some c :: l, r, h => noTwo_mid (l := some c :: l) (r := r) h
  | some c :: l, r, h => by
    have : NoTwo (l ++ none :: none :: r) := by
      cases l <;> exact h
    exact noTwo_mid this

noncomputable abbrev trLocJ (j c : Nat) (pat : T) (sa ra ba : Addr) (i n : Nat) : List (Str × PV) := ("j", .i (j : Int)) :: ("c", .s (toS [c])) :: trLoc pat sa ra ba i n
noncomputable abbrev trLocS (x : T) (pat : T) (sa ra ba : Addr) (i n : Nat) : List (Str × PV) := ("stuff", .s (toS x)) :: trLoc pat sa ra ba i n
set_option maxHeartbeats 2000000 in
theorem tr_spec {items : List (Option Nat)} {so : Obj} {t u : Tok} {Q : Value → Shared → Prop} (Z : Tr C mg mb pl)
    (D : DefAt C a (theDef 8)) (DC : ∀ o fd, C.top.get? a = some o → o.data = .func fd → ∃ c, fd.code = .ref c ∧ CodeHd C.top c pl)
    (Rm : Room A (k + 2)) (S : St C h₀ L loc R s) (hpl : (pl, .tab) ∈ R) (hsa : (sa, .raw so) ∈ R) (hno : NoTwo items) (h128 : ∀ c, some c ∈ items → c < 128) (hz : items.length ≤ 100000)
    (h : ∀ ra s', St C h₀ L loc ((ra, .list (items.map (oI sa))) :: R) s' → Q (.ref ra) s') :
    wpAny (model C.prog C.w) A (call (.ref a) [.str (toS (items.flatMap qI)) t, .ref sa, .str (toS [46]) u]) Q E s := by
  have B := Z.base
  obtain ⟨ma, hma, hM⟩ := Z.map
  obtain ⟨pa, hpa, hP⟩ := Z.pat
  obtain ⟨ea, hea, DE⟩ := Z.esc
  have hflat := flat_len items
  refine call_def ["pat", "STAR", "QUESTION_MARK"] (ps := [.s (toS (items.flatMap qI)), .ref sa, .s (toS [46])]) B D Rm S ⟨.str _ _, rfl, .str _ _, trivial⟩ (fun fd e1 e2 e3 => ?_) rfl (by decide +kernel) (fun L' q cd s₁ hcd Rm' S₁ => ?_)
  · obtain ⟨n, qn, ps, bd, sc, gl, cl, df, kd⟩ := fd
    dsimp only at e1 e2 e3
    subst e1 e2 e3
    rfl
  · obtain ⟨oa, fda, ho, hd, rfl⟩ := hcd
    obtain ⟨cc, hcc, CH⟩ := DC _ _ ho hd
    replace S₁ := S₁.weaken (loc' := [("pat", .s (toS (items.flatMap qI))), ("STAR", .ref sa), ("QUESTION_MARK", .s (toS [46]))]) ⟨by rfl, by rfl, by rfl, trivial⟩
    change St C h₀ L' _ ((L, .ns loc) :: R) s₁ at S₁
    let en : Env := fnEnv (theDef 8) L' q a fda.code
    let A' : Around := A.deeper en
    change wpAny (model C.prog C.w) A' (execs (bodyOf (theDef 8)) en) _ _ _
    -- res = []; add = res.append
    refine wpAny_execs_cons (wpAny_Assign_Name (wpAny_List (wpAny_items_nil ⟨sz0, ?_⟩)) (by rfl))
    have S₂ := S₁.pushed (x := .list []) (o := { cls := .type "list", data := .seq #[] }) ⟨#[], ⟨0, Heap.get?_push_size _ rfl⟩, trivial⟩
    generalize hra : s₁.heap.objs.size = ra at S₂
    refine stloc (p := .ref ra) S₂ rfl fun s₃ S₃ => ?_
    refine wpAny_execs_cons (wpAny_Assign_Name (Attribute_Name_ (nm_r S₃ rfl ?_) (by rfl)) (by rfl))
    obtain ⟨xs, hxs, _⟩ := S₃.getOK (List.mem_cons_self ..)
    refine getAttr_append hxs ?_
    have S₄ := (S₃.pushed (x := .raw (boundAppend ra)) (o := boundAppend ra) ⟨Heap.get?_push_size _ rfl, by simp⟩).tok (s₃.toks + 1)
    generalize hba : s₃.heap.objs.size = ba at S₄
    refine stloc (p := .ref ba) S₄ rfl fun s₅ S₅ => ?_
    -- i, n = 0, len(pat)
    refine wpAny_execs_cons (r_swap2 S₅ Rm'.handled (wpAny_items_cons (c_i S₅ fun t1 s₆ S₆ => wpAny_items_cons (r_bi B S₆ Z.len (wpAny_items_cons (nm_s S₆ rfl fun t2 => wpAny_items_nil (r_len_str S₆ (by lia) fun t3 s₇ S₇ => wpAny_items_nil ⟨_, _, _, _, rfl, S₇, fun s₈ S₈ _ => ?_⟩)))))))
    refine stloc (p := .i ((items.flatMap qI).length : Int)) S₈ (.int _ _) fun s₉ S₉ => stloc (p := .i 0) S₉ (.int _ _) fun s₁₀ S₁₀ => ?_
    replace S₁₀ := (S₁₀.weaken (loc' := trLoc (items.flatMap qI) sa ra ba 0 (items.flatMap qI).length) ⟨by rfl, by rfl, by rfl, by rfl, by rfl, by rfl, by rfl, trivial⟩).perm (List.Perm.swap (ba, .raw (boundAppend ra)) (ra, .list []) ((L, .ns loc) :: R))
    -- while i < n
    let X : List (Addr × AO) := (ba, .raw (boundAppend ra)) :: (L, .ns loc) :: R
    have hpl₀ : ∀ (x y z : Addr × AO), (pl, AO.tab) ∈ x :: y :: z :: R := fun x y z => List.mem_cons_of_mem _ (List.mem_cons_of_mem _ (List.mem_cons_of_mem _ hpl))
    have hsa₀ : ∀ (x y z : Addr × AO), (sa, AO.raw so) ∈ x :: y :: z :: R := fun x y z => List.mem_cons_of_mem _ (List.mem_cons_of_mem _ (List.mem_cons_of_mem _ hsa))
    refine wpAny_execs_cons (r_whileQ S₁₀ (fun m loc' R' => ∃ done todo i, items = done ++ todo ∧ i = (done.flatMap qI).length ∧ m = todo.length ∧ loc' = trLoc (items.flatMap qI) sa ra ba i (items.flatMap qI).length ∧
      R' = (ra, .list (done.map (oI sa))) :: X) items.length ⟨[], items, 0, rfl, rfl, rfl, rfl, rfl⟩ ?_)
    intro m lw Rw s₂ hIw S₂ Qw hQw
    obtain ⟨done, todo, i, hdt, rfl, rfl, rfl, rfl⟩ := hIw
    have hdl : done.length ≤ 100000 := by rw [hdt, List.length_append] at hz; lia
    refine Tst.use (tst_lt (a := ((done.flatMap qI).length : Int)) (b := ((items.flatMap qI).length : Int)) rfl rfl) S₂ fun s₃ S₃ => ?_
    cases todo with
    | nil =>
      rw [List.append_nil] at hdt
      subst hdt
      refine ifN (by simp) ?_
      refine wpAny_execs_cons (wpAny_Assert_holds (Tst.use (tst_eqi (a := ((items.flatMap qI).length : Int)) (b := ((items.flatMap qI).length : Int)) rfl rfl) S₃ fun s₄ S₄ => ⟨by simp, ?_⟩))
      refine wpAny_execs_cons (wpAny_Return_some (nm_r S₄ rfl ?_))
      refine h ra s₄ ?_
      exact (St.back (X := []) (S₄.pull 2 rfl)).sub (.cons_cons _ (List.sublist_cons_self ..))
    | cons x todo =>
      have hpat : items.flatMap qI = done.flatMap qI ++ (qI x ++ todo.flatMap qI) := by rw [hdt]; simp
      have hget : ∀ j, j < (qI x).length → (items.flatMap qI)[(done.flatMap qI).length + j]? = (qI x)[j]? := fun j hj => by
        rw [hpat, List.getElem?_append_right (by lia), Nat.add_sub_cancel_left, List.getElem?_append_left hj]
      have hn : (items.flatMap qI).length = (done.flatMap qI).length + ((qI x).length + (todo.flatMap qI).length) := by rw [hpat]; simp
      have hqx := qI_len x
      have hdone' : ((done ++ [x]).flatMap qI).length = (done.flatMap qI).length + (qI x).length := by simp
      have hitems' : items = (done ++ [x]) ++ todo := by rw [hdt]; simp
      have hmap' : (done ++ [x]).map (oI sa) = done.map (oI sa) ++ [oI sa x] := by simp
      generalize hi : (done.flatMap qI).length = i at S₃ hget hn hdone'
      have hil : i < 16000000 := by lia
      let l₀ : List (Str × PV) := trLoc (items.flatMap qI) sa ra ba i (items.flatMap qI).length
      let R₁ : List (Addr × AO) := (ra, .list (done.map (oI sa))) :: X
      change St C h₀ L' l₀ R₁ _ at S₃
      refine ifY (by rw [decide_eq_true_eq, hn]; lia) ?_
      have hend : ∀ (s' : Shared) (loc' : List (Str × PV)), St C h₀ L' loc' ((ra, .list ((done ++ [x]).map (oI sa))) :: X) s' →
          LocSub loc' (trLoc (items.flatMap qI) sa ra ba (i + (qI x).length) (items.flatMap qI).length) →
          ∃ m loc'' R'', m < (x :: todo).length ∧ (∃ done todo i, items = done ++ todo ∧ i = (done.flatMap qI).length ∧ m = todo.length ∧ loc'' = trLoc (items.flatMap qI) sa ra ba i (items.flatMap qI).length ∧
            R'' = (ra, .list (done.map (oI sa))) :: X) ∧ St C h₀ L' loc'' R'' s' := fun s' loc' S' w =>
        ⟨todo.length, _, _, by simp, ⟨done ++ [x], todo, _, hitems', hdone'.symm, rfl, rfl, rfl⟩, S'.weaken w⟩
      replace hend := fun s' loc' S w => hQw .next s' (hend s' loc' S w)
      clear hQw
      have hba' : ∀ (y : Addr × AO) (r : List (Addr × AO)), (ba, AO.raw (boundAppend ra)) ∈ y :: (ba, AO.raw (boundAppend ra)) :: r := fun y r => List.mem_cons_of_mem _ (List.mem_cons_self ..)
      have hdl' : (done.map (oI sa)).length ≤ 1000000 := by simp; lia
      obtain ⟨c, hc0, hcx⟩ : ∃ c, (qI x)[0]? = some c ∧ (x = none ∧ c = 42 ∨ ∃ d, x = some d ∧ (d ∈ [42, 63, 91] ∧ c = 91 ∨ d ∉ [42, 63, 91] ∧ c = d)) := by
        cases x with
        | none => exact ⟨42, rfl, .inl ⟨rfl, rfl⟩⟩
        | some d =>
          by_cases hd : d ∈ [42, 63, 91]
          · exact ⟨91, by simp only [qI, quote1, if_pos hd]; rfl, .inr ⟨d, rfl, .inl ⟨hd, rfl⟩⟩⟩
          · exact ⟨d, by simp only [qI, quote1, if_neg hd]; rfl, .inr ⟨d, rfl, .inr ⟨hd, rfl⟩⟩⟩
      have hc1 : (items.flatMap qI)[i]? = some c := by rw [← hc0, ← hget 0 (by lia), Nat.add_zero]
      refine wpAny_execs_cons (wpAny_Assign_Name (Subscript_Name (nm_s S₃ rfl fun t1 => nm_i S₃ rfl fun t2 => item_t S₃ hc1 hil fun t3 s₄ S₄ => stloc (p := .s (toS [c])) S₄ (.str _ _) fun s₅ S₅ => ?_)) (by rfl))
      refine wpAny_execs_cons (r_inc (a := (i : Int)) S₅ rfl fun s₆ S₆ => ?_)
      let lc : List (Str × PV) := ("c", .s (toS [c])) :: trLoc (items.flatMap qI) sa ra ba (i + 1) (items.flatMap qI).length
      replace S₆ := S₆.weaken (loc' := lc) ⟨by rfl, by rfl, by rfl, by rfl, by rfl, by rfl, by rfl, by rfl, trivial⟩
      refine wpAny_execs_cons (wpAny_If (Tst.use (tst_str_eq (l := [c]) (m := [42]) rfl (by decide +kernel)) S₆ fun s₇ S₇ => ?_))
      rcases hcx with ⟨rfl, rfl⟩ | ⟨d, rfl, hcx⟩
      · -- a star
        refine ifY (by decide) ?_
        refine wpAny_execs_cons (wpAny_If (Tst.use (tst_star (l := done.map (oI sa)) rfl rfl (List.mem_cons_self ..) ?_ hdl') S₇ fun s₈ S₈ => ?_))
        · rcases List.eq_nil_or_concat done with rfl | ⟨dn, y, rfl⟩
          · exact .inl rfl
          · cases y with
            | none =>
              exfalso
              rw [hdt] at hno
              exact noTwo_mid (l := dn) (r := todo) (by simpa using hno)
            | some d => exact .inr ⟨toS (E1 d), by simp [oI]⟩
        · refine ifY rfl ?_
          refine wpAny_execs_cons (wpAny_Expr_any (r_app S₈ (fun Q' hq => nm_r S₈ rfl hq) (nm_r S₈ rfl ⟨done.map (oI sa), .ref sa, _, _, _, 0, rfl, S₈, rfl, hba' _ _, hdl', fun s₉ S₉ => ?_⟩)))
          repeat refine wpAny_execs_nil ?_
          refine hend _ _ (by rw [hmap']; exact S₉) ⟨by rfl, by rfl, by rfl, by rfl, by rfl, by rfl, by rfl, trivial⟩
      · have hd128 := h128 d (by rw [hdt]; simp)
        rcases hcx with ⟨hd, rfl⟩ | ⟨hd, hcd'⟩
        · -- a sign in a set
          refine ifN (by decide) ?_
          have hq : qI (some d) = [91, d, 93] := by simp only [qI, quote1, if_pos hd]
          have hq3 : (qI (some d)).length = 3 := by rw [hq]; rfl
          have hp1 : (items.flatMap qI)[i + 1]? = some d := by rw [hget 1 (by lia), hq]; rfl
          have hp2 : (items.flatMap qI)[i + 2]? = some 93 := by rw [hget 2 (by lia), hq]; rfl
          have hd33 : d ≠ 33 := by rintro rfl; revert hd; decide
          have hd93 : d ≠ 93 := by rintro rfl; revert hd; decide
          have hd45 : d ≠ 45 := by rintro rfl; revert hd; decide
          refine wpAny_execs_cons (wpAny_If (Tst.use (tst_str_eq (l := [91]) (m := [63]) rfl (by decide +kernel)) S₇ fun s₈ S₈ => ?_))
          refine ifN (by decide) ?_
          refine wpAny_execs_cons (wpAny_If (Tst.use (tst_str_eq (l := [91]) (m := [91]) rfl (by decide +kernel)) S₈ fun s₉ S₉ => ?_))
          refine ifY (by decide) ?_
          refine wpAny_execs_cons (wpAny_Assign_Name (nm_i (y := ((i + 1 : Nat) : Int)) S₉ rfl fun t4 => stloc (p := .i ((i + 1 : Nat) : Int)) S₉ (.int _ _) fun s₁₁ S₁₁ => ?_) (by rfl))
          refine wpAny_execs_cons (wpAny_If (Tst.use ((tst_lt (a := ((i + 1 : Nat) : Int)) (b := ((items.flatMap qI).length : Int)) rfl rfl).and (tst_sign_eq (m := 33) (n := i + 1) rfl rfl hp1 (by lia) (by decide +kernel))) S₁₁ fun s₁₂ S₁₂ => ?_))
          refine ifN (by simp [hd33]) ?_
          refine wpAny_execs_nil (wpAny_execs_cons (wpAny_If (Tst.use ((tst_lt (a := ((i + 1 : Nat) : Int)) (b := ((items.flatMap qI).length : Int)) rfl rfl).and (tst_sign_eq (m := 93) (n := i + 1) rfl rfl hp1 (by lia) (by decide +kernel))) S₁₂ fun s₁₃ S₁₃ => ?_)))
          refine ifN (by simp [hd93]) ?_
          refine wpAny_execs_nil ?_
          let l₁ : List (Str × PV) := trLocJ (i + 1) 91 (items.flatMap qI) sa ra ba (i + 1) (items.flatMap qI).length
          let l₂ : List (Str × PV) := trLocJ (i + 2) 91 (items.flatMap qI) sa ra ba (i + 1) (items.flatMap qI).length
          refine wpAny_execs_cons (r_whileQ S₁₃ (fun m loc' R' => ((m = 1 ∧ loc' = l₁) ∨ (m = 0 ∧ loc' = l₂)) ∧
              R' = R₁) 1 ⟨.inl ⟨rfl, rfl⟩, rfl⟩ ?_)
          intro m l1 R1 s₁₄ hI1 S₁₄ Qi hQi
          rcases hI1 with ⟨⟨rfl, rfl⟩ | ⟨rfl, rfl⟩, rfl⟩
          · refine Tst.use ((tst_lt (a := ((i + 1 : Nat) : Int)) (b := ((items.flatMap qI).length : Int)) rfl rfl).and (tst_sign_ne (m := 93) (n := i + 1) rfl rfl hp1 (by lia) (by decide +kernel))) S₁₄ fun s₁₅ S₁₅ => ?_
            have e : (decide (((i + 1 : Nat) : Int) < ((items.flatMap qI).length : Int)) && !decide (d = 93)) = true := by
              rw [hn, hq3]; simp [hd93]; lia
            refine ifY e ?_
            refine wpAny_execs_cons (r_inc (a := ((i + 1 : Nat) : Int)) S₁₅ rfl fun s₁₆ S₁₆ => wpAny_execs_nil ?_)
            exact hQi .next _ ⟨0, _, _, by lia, ⟨.inr ⟨rfl, rfl⟩, rfl⟩, S₁₆.weaken ⟨by rfl, by rfl, by rfl, by rfl, by rfl, by rfl, by rfl, by rfl, by rfl, trivial⟩⟩
          · refine Tst.use ((tst_lt (a := ((i + 2 : Nat) : Int)) (b := ((items.flatMap qI).length : Int)) rfl rfl).and (tst_sign_ne (m := 93) (n := i + 2) rfl rfl hp2 (by lia) (by decide +kernel))) S₁₄ fun s₁₅ S₁₅ => ?_
            refine ifN (by simp) ?_
            refine wpAny_execs_cons (wpAny_If (Tst.use (tst_ge (a := ((i + 2 : Nat) : Int)) (b := ((items.flatMap qI).length : Int)) rfl rfl) S₁₅ fun s₁₆ S₁₆ => ?_))
            refine ifN (by rw [decide_eq_true_eq, hn, hq3]; lia) ?_
            refine wpAny_execs_cons (wpAny_Assign_Name (r_part S₁₆ (nm_s S₁₆ rfl fun t5 => ⟨items.flatMap qI, t5, rfl, by lia, nm_i (y := ((i + 1 : Nat) : Int)) S₁₆ rfl fun t6 => ⟨i + 1, t6, rfl, nm_i (y := ((i + 2 : Nat) : Int)) S₁₆ rfl fun t7 => ⟨i + 2, t7, rfl, by lia, by lia, S₁₆, fun t8 s₁₇ S₁₇ => ?_⟩⟩⟩)) (by rfl))
            have hst : ((items.flatMap qI).drop (i + 1)).take (i + 2 - (i + 1)) = [d] := by
              rw [show i + 2 - (i + 1) = 1 by lia]
              have : (items.flatMap qI).drop (i + 1) = d :: (items.flatMap qI).drop (i + 1 + 1) := by
                obtain ⟨h1, h2⟩ := List.getElem?_eq_some_iff.mp hp1
                rw [List.drop_eq_getElem_cons h1, h2]
              rw [this]; rfl
            rw [hst]
            refine stloc (p := .s (toS [d])) S₁₇ (.str _ _) fun s₁₈ S₁₈ => ?_
            let l₃ : List (Str × PV) := ("stuff", .s (toS [d])) :: ("j", .i ((i + 2 : Nat) : Int)) :: trLoc (items.flatMap qI) sa ra ba (i + 1) (items.flatMap qI).length
            replace S₁₈ := S₁₈.weaken (loc' := l₃) ⟨by rfl, by rfl, by rfl, by rfl, by rfl, by rfl, by rfl, by rfl, by rfl, trivial⟩
            -- '-' not in stuff
            refine wpAny_execs_cons (wpAny_If (wpAny_isTrue_Compare1 (c_t [45] S₁₈ fun t9 s₁₉ S₁₉ => nm_s S₁₉ rfl fun t10 => r_notin_str (wpAny_truthy_bool ?_)) (by rfl)))
            refine ifY (by simp [Ne.symm hd45]) ?_
            refine wpAny_execs_cons (wpAny_Assign_Name (wpAny_Call_method (T := "str") (id := "str.replace") (by rfl) (by rfl) (by rfl) F.plainAttrs_str F.slot_str_replace F.type_str_replace ?_) (by rfl))
            refine nm_s S₁₉ rfl fun t11 => ⟨typeIs_str _ _ _, (fun _ e => nomatch e), ?_⟩
            refine callWith_bi (wpAny_items_cons (c_t [92] S₁₉ fun t12 s₂₀ S₂₀ => wpAny_items_cons (c_t [92, 92] S₂₀ fun t13 s₂₁ S₂₁ => wpAny_items_nil ?_)))
            refine replace_same S₂₁ ?_ fun t14 s₂₂ S₂₂ => stloc (p := .s (toS [d])) S₂₂ (.str _ _) fun s₂₃ S₂₃ => wpAny_execs_nil ?_
            · revert hd; clear S₂₁
              intro hd
              have : ∀ d ∈ [42, 63, 91], (Builtin.Str.occurrences (toS [d]) (toS [92]) 0 (toS [d]).length ((toS [d]).length + 1)).isEmpty = true := by decide +kernel
              exact this d hd
            -- the pattern's sub
            refine wpAny_execs_cons (wpAny_Assign_Name (wpAny_Call_method (T := "re.Pattern") (id := "re.Pattern.sub") (by rfl) (by rfl) (by rfl) pa_Pattern slot_Pattern_sub type_Pattern_sub ?_) (by rfl))
            obtain ⟨fs, _, _, _, _, hpo, _⟩ := hP.ex
            have hpo' := S₂₃.top _ _ hpo
            refine nm_g B S₂₃ hpa ⟨⟨_, hpo', rfl⟩, fun _ e => by cases e; exact ⟨_, hpo', rfl⟩, ?_⟩
            obtain ⟨il, hil'⟩ := List.mem_iff_getElem?.mp hpl
            refine callWith_bi (wpAny_items_cons (r_lambda B Z.bm S₂₃ (il + 3) hil' hcc CH fun f s₂₄ S₂₄ hf => wpAny_items_cons (nm_s S₂₄ rfl fun t15 => wpAny_items_nil ?_)))
            obtain ⟨of, hof, hofc⟩ := hf
            refine sub_spec hP S₂₄ hof hofc hd fun t16 s₂₅ S₂₅ => stloc (p := .s (toS [d])) S₂₅ (.str _ _) fun s₂₆ S₂₆ => ?_
            refine wpAny_execs_cons (r_inc (a := ((i + 2 : Nat) : Int)) S₂₆ rfl fun s₂₇ S₂₇ => ?_)
            let l₄ : List (Str × PV) := ("stuff", .s (toS [d])) :: trLoc (items.flatMap qI) sa ra ba (i + 3) (items.flatMap qI).length
            replace S₂₇ := S₂₇.weaken (loc' := l₄) ⟨by rfl, by rfl, by rfl, by rfl, by rfl, by rfl, by rfl, by rfl, trivial⟩
            refine wpAny_execs_cons (wpAny_If (Tst.use (Tst.not (tst_truthy (l := [d]) rfl (by simp))) S₂₇ fun s₂₈ S₂₈ => ?_))
            refine ifN (by simp) ?_
            refine wpAny_execs_cons (wpAny_If (Tst.use (tst_str_eq (l := [d]) (m := [33]) rfl (by decide +kernel)) S₂₈ fun s₂₉ S₂₉ => ?_))
            refine ifN (by simp [hd33]) ?_
            refine wpAny_execs_cons (wpAny_If (Tst.use (tst_first_eq (l := [d]) (m := 33) rfl rfl (by decide +kernel)) S₂₉ fun s₃₀ S₃₀ => ?_))
            refine ifN (by simp [hd33]) ?_
            refine wpAny_execs_cons (wpAny_mono (Q := fun f s' => f = .next ∧ ∃ x : T, [91] ++ x ++ [93] = E1 d ∧ x.length ≤ 3 ∧
              St C h₀ L' (trLocS x (items.flatMap qI) sa ra ba (i + 3) (items.flatMap qI).length) (R₁) s') ?_ (fun f s' hq => ?_) fun _ _ q => q)
            · refine wpAny_If (Tst.use (tst_first_in2 (l := [d]) (m1 := 94) (m2 := 91) rfl rfl (by decide +kernel) (by decide +kernel)) S₃₀ fun s₃₁ S₃₁ => ?_)
              by_cases h91 : d = 91
              · subst h91
                refine ifY (by decide) ?_
                refine wpAny_execs_cons (wpAny_Assign_Name (wpAny_BinOp (c_t [92] S₃₁ fun t17 s₃₂ S₃₂ => nm_s S₃₂ rfl fun t18 => r_cat S₃₂ (by simp) fun t19 s₃₃ S₃₃ => stloc (p := .s (toS [92, 91])) S₃₃ (.str _ _) fun s₃₄ S₃₄ => wpAny_execs_nil ?_)) (by rfl))
                exact ⟨rfl, [92, 91], by decide, by decide, S₃₄.weaken ⟨by rfl, by rfl, by rfl, by rfl, by rfl, by rfl, by rfl, by rfl, trivial⟩⟩
              · have hd94 : d ≠ 94 := by rintro rfl; revert hd; decide
                refine ifN (by simp [Ne.symm hd94, Ne.symm h91]) ?_
                refine wpAny_execs_nil ⟨rfl, [d], ?_, by simp, S₃₁⟩
                unfold E1
                rw [if_pos hd, if_neg h91]; rfl
            · obtain ⟨rfl, x, hx, hxl, S₃₁⟩ := hq
              have hE : ((Str.empty ++ toS [91]) ++ toS x) ++ toS [93] = toS (E1 d) := by
                rw [show Str.empty = toS [] from rfl, toS_append, toS_append, toS_append, ← hx]; rfl
              refine wpAny_execs_nil ?_
              refine wpAny_execs_cons (wpAny_Expr_any ?_)
              refine r_app (ra := ra) S₃₁ (fun Q' hq => nm_r S₃₁ rfl hq) ?_
              refine wpAny_JoinedStr (Joins_cons (c_t [91] S₃₁ fun t20 s₃₂ S₃₂ => ⟨_, _, rfl, ?_, ?_⟩))
              · rw [show Str.empty = toS [] from rfl, toS_append, toS_length, sizeT]; simp
              refine Joins_cons (FormattedValue_plain (nm_s S₃₂ rfl fun t21 => ?_))
              refine formatField_str (fun t22 tk => ⟨_, _, rfl, ?_, ?_⟩) (by rw [toS_length, sizeT]; lia)
              · rw [show Str.empty = toS [] from rfl, toS_append, toS_append, toS_length, sizeT]; simp; lia
              refine Joins_cons (c_t [93] (S₃₂.tok tk) fun t23 s₃₃ S₃₃ => ⟨_, _, rfl, ?_, Joins_nil ⟨?_, ?_⟩⟩)
              · rw [show Str.empty = toS [] from rfl, toS_append, toS_append, toS_append, toS_length, sizeT]; simp; lia
              · rw [show Str.empty = toS [] from rfl, toS_append, toS_append, toS_append, toS_length, sizeT]; simp; lia
              · rw [hE]
                refine ⟨done.map (oI sa), .s (toS (E1 d)), _, _, _, 0, .str _ _, S₃₃.tok _, rfl, hba' _ _, hdl', fun s₃₄ S₃₄ => ?_⟩
                repeat refine wpAny_execs_nil ?_
                exact hend _ _ (by rw [hmap']; exact S₃₄) (by rw [hq3]; exact ⟨by rfl, by rfl, by rfl, by rfl, by rfl, by rfl, by rfl, trivial⟩)
        · -- a sign told plainly
          obtain rfl : d = c := hcd'.symm
          have hne : ∀ m ∈ [42, 63, 91], ¬ (d = m) := fun m hm e => hd (by rw [e]; exact hm)
          have hq : qI (some d) = [d] := by simp only [qI, quote1, if_neg hd]
          have hq1 : (qI (some d)).length = 1 := by rw [hq]; rfl
          refine ifN (by simpa using hne 42 (by decide)) ?_
          refine wpAny_execs_cons (wpAny_If (Tst.use (tst_str_eq (l := [d]) (m := [63]) rfl (by decide +kernel)) S₇ fun s₈ S₈ => ?_))
          refine ifN (by simpa using hne 63 (by decide)) ?_
          refine wpAny_execs_cons (wpAny_If (Tst.use (tst_str_eq (l := [d]) (m := [91]) rfl (by decide +kernel)) S₈ fun s₉ S₉ => ?_))
          refine ifN (by simpa using hne 91 (by decide)) ?_
          refine wpAny_execs_cons (wpAny_Expr_any (r_app (ra := ra) S₉ (fun Q' hq => nm_r S₉ rfl hq) (r_call B S₉ DE hea (wpAny_items_cons (nm_s S₉ rfl fun t4 => wpAny_items_nil ⟨S₉.top, escape_spec B Z.isi Z.str hma hM DE Rm' S₉ hd128 fun t5 s₁₁ S₁₁ => ?_⟩)))))
          have hE : E1 d = escT d := by unfold E1; rw [if_neg hd]
          refine ⟨done.map (oI sa), .s (toS (E1 d)), _, _, _, 0, by rw [hE]; exact .str _ _, S₁₁, rfl, hba' _ _, hdl', fun s₁₂ S₁₂ => ?_⟩
          repeat refine wpAny_execs_nil ?_
          exact hend _ _ (by rw [hmap']; exact S₁₂) (by rw [hq1]; exact ⟨by rfl, by rfl, by rfl, by rfl, by rfl, by rfl, by rfl, trivial⟩)
end
end Mine

namespace Mine

open PySem PySem.W PyProof.Rows PySem.Calls
theorem mro_object : mroOf (.type "object") = pure [.type "object"] := by rw [mroOf_type]; kernel_rfl
theorem lookup_object_new : typeLookup (.type "object") "__new__" = pure (some (.builtin "object.__new__")) := by rw [typeLookup_type, builtinLookup_eq_fast]; kernel_rfl
theorem slot_object_init : Slot "object" "__init__" "object.__init__" :=
  .of (owner := "object") (n := "__init__") (by rw [typeLookup_type, builtinLookup_eq_fast]; kernel_rfl) (by decide +kernel) (by decide +kernel) (by decide +kernel)
    (by first | exact .inl (by decide +kernel) | exact .inr (by decide +kernel)) (by rw [isSubtype_type]; kernel_rfl)
theorem made_object : Bind.madeBy (.type "object") = pure (some "object.__new__") := madeBy_type mro_object lookup_object_new (by decide +kernel)
theorem called_object : TypeCalled "object" "object.__new__" "object.__init__" :=
  ⟨by decide +kernel, by decide +kernel, ⟨_, _, mro_object⟩, made_object, by decide +kernel, by rw [isSubtype_type]; kernel_rfl, slot_object_init⟩
theorem typeCall_object : checkTypeCall "object" ⟨[], []⟩ = pure () := by kernel_rfl
theorem newCall_object : checkBuiltinCall "object.__new__" ⟨[.type "object"], []⟩ = pure () := by kernel_rfl
theorem args_object_init (a : Value) : argsOk "object.__init__" ⟨[a], []⟩ := by unfold argsOk; kernel_rfl
theorem entry_object_init : entryFor table "object.__init__" = some Builtin.«object.__init__» := entryFor_of_tree (by kernel_rfl)
theorem entry_object_new' : entryFor table "object.__new__" = some Builtin.«object.__new__» := entryFor_of_tree (by kernel_rfl)
theorem here_object : Bind.madeHere "object.__new__" (.type "object") = pure () := by
  unfold Bind.madeHere Bind.staticBase
  rw [mro_object]
  simp only [pure_bind, List.forIn_cons, made_object, Option.isSome_some, if_true]
  rfl
section
variable {prog : Program} {w : World} {A : Around} {E : Value → Shared → Prop} {s : Shared}
theorem call_object {Q : Value → Shared → Prop} (h : Q (.ref s.heap.objs.size) { s with heap := s.heap.push { cls := .type "object" } }) : wpAny (model prog w) A (call (.type "object") []) Q E s := by
  refine callType_codes (Q₁ := fun obj s₁ => obj = .ref s.heap.objs.size ∧ s₁ = { s with heap := s.heap.push { cls := .type "object" } }) called_object typeCall_object entry_object_init ?_ fun obj s₁ h₁ => ?_
  · refine codeAny_of_tree ?_
    show wpAny _ _ (do checkBuiltinCall "object.__new__" ⟨[.type "object"], []⟩; again (.builtin "object.__new__" ⟨[.type "object"], []⟩)) _ _ s
    refine wpAny_bind (wpAny_of_eq newCall_object (wpAny_pure ⟨plainId_quiet (by decide +kernel) _, codeAny_builtin entry_object_new' ?_⟩))
    have h1 := made_object
    have h2 := here_object
    unfold Builtin.«object.__new__»
    obtain ⟨hp, g, d, tk, os⟩ := s
    repeat (first | assumption | wp_step)
    exact ⟨rfl, rfl⟩
  · obtain ⟨rfl, rfl⟩ := h₁
    refine ⟨⟨_, Heap.get?_push_size _ rfl, rfl⟩, args_object_init _, ?_⟩
    exact wpAny_pure ⟨rfl, h⟩
end
section
variable {C : Cfg} {h₀ : Heap} {L : Addr} {loc : List (Str × PV)} {R : List (Addr × AO)} {s : Shared} {A : Around} {E : Value → Shared → Prop} {mg mb : Str → Option Value} {env : Env}

/-- l[i] of a list that the ledger knows -/
theorem item_l {a : Addr} {l : List PV} {pv : PV} {i : Nat} {t : Tok} {Q : Value → Shared → Prop} (S : St C h₀ L loc R s) (hm : (a, AO.list l) ∈ R) (hl : l[i]? = some pv) (hz : i < 1000000) (h : ∀ v, VR s.heap pv v → Q v s) :
    ItemOn (model C.prog C.w) A E (.ref a) (.int (i : Int) t) Q s := by
  obtain ⟨xs, ⟨n, hx⟩, hr⟩ := S.getOK hm
  obtain ⟨v, e1, e2⟩ := hr.getP hl
  refine ⟨"list", "list.__getitem__", list_getitem_lookup, ⟨_, hx, rfl⟩, ?_⟩
  refine wpAny_getItem_list ⟨_, hx, rfl, _, rfl⟩ (by lia) (by lia) ?_ (h v e2)
  simpa using e1
noncomputable def notRef (sa : Addr) : PV → Prop
  | .dat _ => True
  | .ref a => a ≠ sa
/-- inp[i] is not STAR -/
theorem tst_isnot {x j y : Str} {p1 p2 p3 p4 p5 : Pos} {a sa : Addr} {l : List PV} {d : PyData} {n : Nat} (hx : loc.lookup x = some (.ref a)) (hj : loc.lookup j = some (.i (n : Int))) (hy : loc.lookup y = some (.ref sa)) (hm : (a, AO.list l) ∈ R)
    (hc : l[n]? = some (.dat d)) (hd0 : d ≠ .none) (hst : ∃ z, d = .str z) (hz : n < 1000000)
    (hk : autoParam (env.scope.kind = .function) rflT) (hl : autoParam (env.kindOf x = some .local) rflT) (hl' : env.kindOf j = some .local := by rfl) (hl2 : autoParam (env.kindOf y = some .local) rflT)
    (hd : autoParam ((x == ("__debug__" : Str)) = false) decT) (hd' : (j == ("__debug__" : Str)) = false := by decide) (hd2 : autoParam ((y == ("__debug__" : Str)) = false) decT) :
    Tst C h₀ env.locals loc R A env (.Compare (.Subscript (.Name x p1) (.Name j p2) p3) [.IsNot] [.Name y p4] p5) true := fun _ _ _ S h => by
  obtain ⟨z, rfl⟩ := hst
  refine wpAny_isTrue_Compare1 (Subscript_Name (nm_r S hx (nm_i S hj (fun u => item_l S hm hc hz fun v hv => ?_) hk hl' hd') hk hl hd)) (by rfl)
  obtain ⟨t', rfl⟩ := vr_str hv
  exact nm_r S hy (wpAny_isNot_other rfl (by simp) (wpAny_truthy_bool (h _ S))) hk hl2 hd2
theorem tst_isnot_f {x j y : Str} {p1 p2 p3 p4 p5 : Pos} {a sa : Addr} {l : List PV} {n : Nat} (hx : loc.lookup x = some (.ref a)) (hj : loc.lookup j = some (.i (n : Int))) (hy : loc.lookup y = some (.ref sa)) (hm : (a, AO.list l) ∈ R)
    (hc : l[n]? = some (.ref sa)) (hz : n < 1000000)
    (hk : autoParam (env.scope.kind = .function) rflT) (hl : autoParam (env.kindOf x = some .local) rflT) (hl' : env.kindOf j = some .local := by rfl) (hl2 : autoParam (env.kindOf y = some .local) rflT)
    (hd : autoParam ((x == ("__debug__" : Str)) = false) decT) (hd' : (j == ("__debug__" : Str)) = false := by decide) (hd2 : autoParam ((y == ("__debug__" : Str)) = false) decT) :
    Tst C h₀ env.locals loc R A env (.Compare (.Subscript (.Name x p1) (.Name j p2) p3) [.IsNot] [.Name y p4] p5) false := fun _ _ _ S h => by
  refine wpAny_isTrue_Compare1 (Subscript_Name (nm_r S hx (nm_i S hj (fun u => item_l S hm hc hz fun v hv => ?_) hk hl' hd') hk hl hd)) (by rfl)
  cases hv
  exact nm_r S hy (wpAny_isNot_ref_self (wpAny_truthy_bool (h _ S))) hk hl2 hd2
theorem tst_is {x j y : Str} {p1 p2 p3 p4 p5 : Pos} {a sa : Addr} {l : List PV} {n : Nat} (hx : loc.lookup x = some (.ref a)) (hj : loc.lookup j = some (.i (n : Int))) (hy : loc.lookup y = some (.ref sa)) (hm : (a, AO.list l) ∈ R)
    (hc : l[n]? = some (.ref sa)) (hz : n < 1000000)
    (hk : autoParam (env.scope.kind = .function) rflT) (hl : autoParam (env.kindOf x = some .local) rflT) (hl' : env.kindOf j = some .local := by rfl) (hl2 : autoParam (env.kindOf y = some .local) rflT)
    (hd : autoParam ((x == ("__debug__" : Str)) = false) decT) (hd' : (j == ("__debug__" : Str)) = false := by decide) (hd2 : autoParam ((y == ("__debug__" : Str)) = false) decT) :
    Tst C h₀ env.locals loc R A env (.Compare (.Subscript (.Name x p1) (.Name j p2) p3) [.Is] [.Name y p4] p5) true := fun _ _ _ S h => by
  refine wpAny_isTrue_Compare1 (Subscript_Name (nm_r S hx (nm_i S hj (fun u => item_l S hm hc hz fun v hv => ?_) hk hl' hd') hk hl hd)) (by rfl)
  cases hv
  exact nm_r S hy (wpAny_is_ref_self (wpAny_truthy_bool (h _ S))) hk hl2 hd2
theorem Tst.andF {x y : Expr} {pos : Pos} (h1 : Tst C h₀ L loc R A env x false) : Tst C h₀ L loc R A env (.BoolOp .And [x, y] pos) false := fun s _ _ S h =>
  wpAny_isTrue_BoolOp (wpAny_allTrue_And_cons (h1 s _ _ S fun s₁ S₁ => h s₁ S₁))
theorem tst_lt_f {x y : Str} {p1 p2 p3 : Pos} {a b : Int} (hx : loc.lookup x = some (.i a)) (hy : loc.lookup y = some (.i b)) (hn : ¬ a < b)
    (hk : autoParam (env.scope.kind = .function) rflT) (hl : autoParam (env.kindOf x = some .local) rflT) (hl' : env.kindOf y = some .local := by rfl) (hd : autoParam ((x == ("__debug__" : Str)) = false) decT) (hd' : (y == ("__debug__" : Str)) = false := by decide) :
    Tst C h₀ env.locals loc R A env (.Compare (.Name x p1) [.Lt] [.Name y p2] p3) false := by
  have := tst_lt (C := C) (h₀ := h₀) (R := R) (A := A) (p1 := p1) (p2 := p2) (p3 := p3) hx hy hk hl hl' hd hd'
  rw [decide_eq_false hn] at this
  exact this
/-- x += k -/
theorem r_aug {x : Str} {k : Nat} {a b : Int} {p1 p3 pos : Pos} {Q : Flow → Shared → Prop} (S : St C h₀ env.locals loc R s) (hy : loc.lookup x = some (.i a)) (h : ∀ s', St C h₀ env.locals ((x, .i (a + b)) :: loc) R s' → Q .next s')
    (hk : autoParam (env.scope.kind = .function) rflT) (hl : autoParam (env.kindOf x = some .local) rflT) :
    wpAny (model C.prog C.w) A (exec (.AugAssign (.Name x p1) .Add (.Constant (.int b) k p3) pos) env) Q E s := by
  refine wpAny_AugAssign_Name ?_
  obtain ⟨m, n, q⟩ := S.loc
  obtain ⟨v, e, r⟩ := q x _ hy
  refine wpAny_loadName_local hk hl n e ?_
  obtain ⟨t, rfl⟩ := vr_int r
  exact c_i S fun t1 s1 S1 => wpAny_iadd_int (stloc (p := .i (a + b)) (S1.tok _) (.int _ _) h hk hl)
/-- l.append(x) -/
theorem call_append {ra : Addr} {l : List PV} {pv : PV} {x : Value} {i : Nat} {Q : Value → Shared → Prop} (S : St C h₀ L loc R s) (hx : VR s.heap pv x) (ei : R[i]? = some (ra, .list l)) (hz : l.length ≤ 1000000)
    (h : ∀ s', St C h₀ L loc (R.set i (ra, .list (l ++ [pv]))) s' → Q .none s') :
    wpAny (model C.prog C.w) A (call (.builtin "list.append") [.ref ra, x]) Q E s := by
  obtain ⟨xs, hl, hr⟩ := S.getOK (List.mem_of_getElem? ei)
  have hlen : xs.size = l.length := by have := hr.length; simp at this; lia
  refine wpAny_list_append_plain hl (fun h' hl' hs => ?_) (by rw [hlen, sizeT]; lia)
  refine h _ (S.upd (t := s.toks) i ei hs.extBut fun k => ⟨_, hl', ?_⟩)
  rw [Array.toList_push]
  exact (hr.tk k).append ⟨hx.tk k, trivial⟩
/-- len of a list that the ledger knows -/
theorem r_len_list {a : Addr} {l : List PV} {Q : Value → Shared → Prop} (S : St C h₀ L loc R s) (hm : (a, AO.list l) ∈ R) (hz : l.length ≤ 1000000) (h : ∀ t' s', St C h₀ L loc R s' → Q (.int (l.length : Int) t') s') :
    wpAny (model C.prog C.w) A (call (.builtin "len") [.ref a]) Q E s := by
  obtain ⟨xs, ⟨n, hl⟩, hr⟩ := S.getOK hm
  have hlen : xs.size = l.length := by have := hr.length; simp at this; lia
  refine call_len_list ⟨_, hl, rfl, _, rfl⟩ (by lia) ?_
  rw [hlen]
  exact h _ _ (S.tok _)
theorem strsAre {h : Heap} : ∀ {P : List T} {vs : List Value}, VRs h (P.map fun x => .s (toS x)) vs → StrsAre vs (P.map toS)
  | [], [], _ => .nil
  | _ :: _, _ :: _, ⟨a, b⟩ => by obtain ⟨t, rfl⟩ := vr_str a; exact .cons _ _ (strsAre b)
theorem join_empty : ∀ P : List T, Txt.join (toS []) (P.map toS) = toS P.flatten := by
  intro P
  have := beq_iff_eq.mp (join_plain_closes (toS []) (P.map toS))
  rw [this]
  induction P with
  | nil => rfl
  | cons x r ih =>
    cases r with
    | nil => simp [Str.join]
    | cons y r =>
      have ih' := ih (beq_iff_eq.mp (join_plain_closes (toS []) ((y :: r).map toS)))
      simp only [List.map_cons, Str.join] at ih' ⊢
      rw [ih', toS_append, toS_append]
      simp
/-- ''.join(l) of a list that the ledger knows -/
theorem call_join {ra : Addr} {P : List T} {t : Tok} {Q : Value → Shared → Prop} (S : St C h₀ L loc R s) (hm : (ra, AO.list (P.map fun x => .s (toS x))) ∈ R) (hz : P.flatten.length + P.length ≤ 1000000)
    (h : ∀ t' s', St C h₀ L loc R s' → Q (.str (toS P.flatten) t') s') :
    wpAny (model C.prog C.w) A (call (.builtin "str.join") [.str (toS []) t, .ref ra]) Q E s := by
  obtain ⟨xs, ⟨n, hl⟩, hr⟩ := S.getOK hm
  refine join_listW (ys := P.map toS) ⟨_, hl, rfl, _, rfl⟩ (strsAre hr) (by rw [toS_length]; decide) ?_ fun t' k => ?_
  · have : ((P.map toS).map (·.length)).sum = P.flatten.length := by
      rw [List.map_map, List.length_flatten]; congr 1
    rw [this, List.length_map]; lia
  · rw [join_empty]; exact h _ _ (S.tok k)
end
theorem attrBase_const {c : Const} {k : Nat} {p : Pos} {name : Str} {env : Env} {m : Sem Value} : attributeBase (.Constant c k p) name env m = m := rfl
/-- 'text'.join(e) -/
theorem r_joinCall {C : Cfg} {A : Around} {E : Value → Shared → Prop} {s : Shared} {env : Env} {x : Str} {kk : Nat} {p1 p2 pos : Pos} {e : Expr} {Q : Value → Shared → Prop}
    (h : wpAny (model C.prog C.w) A (eval (.Constant (.str x) kk p1) env) (fun ov s₁ => s₁.TypeIs ov "str" ∧ (∀ a, ov = .ref a → ∃ ob, s₁.heap.get? a = some ob ∧ ob.dict = none) ∧
      wpAny (model C.prog C.w) A (callWith pos (.builtin "str.join") [ov] (backTo pos (starEach [e] env)) []) Q E s₁) E s)
    (he : autoParam (starEach [e] env = [(false, eval e env)]) rflT) (hline : autoParam ((p2.endLine == pos.line) = true) rflT) :
    wpAny (model C.prog C.w) A (eval (.Call (.Attribute (.Constant (.str x) kk p1) "join" p2) [e] [] pos) env) Q E s :=
  wpAny_Call_method (T := "str") (id := "str.join") attrBase_const (by rw [he]; rfl) hline F.plainAttrs_str F.slot_str_join F.type_str_join h
end Mine

namespace Mine

open PySem PySem.W PyProof.Rows PySem.Calls

noncomputable abbrev sP (x : T) : PV := .s (toS x)
noncomputable abbrev joLoc (ia sa ra ba : Addr) (i n : Nat) : List (Str × PV) :=
  [("inp", .ref ia), ("STAR", .ref sa), ("res", .ref ra), ("add", .ref ba), ("i", .i (i : Int)), ("n", .i (n : Int))]
noncomputable abbrev joLocF (fa ia sa ra ba : Addr) (i n : Nat) : List (Str × PV) := ("fixed", .ref fa) :: joLoc ia sa ra ba i n
noncomputable abbrev joLocX (x : T) (ia sa ra ba : Addr) (i n : Nat) : List (Str × PV) := ("fixed", .s (toS x)) :: joLoc ia sa ra ba i n
noncomputable def inpOf (P : List T) (sa : Addr) (behind : Bool) : List PV := if behind then .ref sa :: P.map sP else P.map sP ++ [.ref sa]
noncomputable def writtenT (x : T) (behind : Bool) : T := [40, 63, 115, 58] ++ (if behind then [46, 42] ++ x else x ++ [46, 42]) ++ [41, 92, 90]

section
variable {C : Cfg} {h₀ : Heap} {L : Addr} {loc : List (Str × PV)} {R : List (Addr × AO)} {s : Shared} {A : Around} {E : Value → Shared → Prop} {mg mb : Str → Option Value} {a ia sa : Addr} {k : Nat}

set_option maxHeartbeats 2000000 in
theorem join_spec {P : List T} {behind : Bool} {Q : Value → Shared → Prop} (B : Base C mg mb) (hlen : mg "len" = none ∧ mb "len" = some (.builtin "len"))
    (D : DefAt C a (theDef 9)) (Rm : Room A (k + 1)) (S : St C h₀ L loc R s) (hin : (ia, .list (inpOf P sa behind)) ∈ R) (hP : P ≠ []) (hz : P.flatten.length + P.length ≤ 100000)
    (h : ∀ t s', St C h₀ L loc R s' → Q (.str (toS (writtenT P.flatten behind)) t) s') :
    wpAny (model C.prog C.w) A (call (.ref a) [.ref ia, .ref sa]) Q E s := by
  have hil : (inpOf P sa behind).length = P.length + 1 := by unfold inpOf; split <;> simp
  have hPl : 0 < P.length := List.length_pos_iff.mpr hP
  refine call_def ["inp", "STAR"] (ps := [.ref ia, .ref sa]) B D Rm S ⟨rfl, rfl, trivial⟩ (fun fd e1 e2 e3 => ?_) rfl (by decide +kernel) (fun L' q cd s₁ _ Rm' S₁ => ?_)
  · obtain ⟨n, qn, ps, bd, sc, gl, cl, df, kd⟩ := fd
    dsimp only at e1 e2 e3
    subst e1 e2 e3
    rfl
  · replace S₁ := S₁.weaken (loc' := [("inp", .ref ia), ("STAR", .ref sa)]) ⟨by rfl, by rfl, trivial⟩
    change St C h₀ L' _ ((L, .ns loc) :: R) s₁ at S₁
    let en : Env := fnEnv (theDef 9) L' q a cd
    let A' : Around := A.deeper en
    change wpAny (model C.prog C.w) A' (execs (bodyOf (theDef 9)) en) _ _ _
    refine wpAny_execs_cons (wpAny_Assign_Name (wpAny_List (wpAny_items_nil ⟨sz0, ?_⟩)) (by rfl))
    have S₂ := S₁.pushed (x := .list []) (o := { cls := .type "list", data := .seq #[] }) ⟨#[], ⟨0, Heap.get?_push_size _ rfl⟩, trivial⟩
    generalize hra : s₁.heap.objs.size = ra at S₂
    refine stloc (p := .ref ra) S₂ rfl fun s₃ S₃ => ?_
    refine wpAny_execs_cons (wpAny_Assign_Name (Attribute_Name_ (nm_r S₃ rfl ?_) (by rfl)) (by rfl))
    obtain ⟨xs, hxs, _⟩ := S₃.getOK (List.mem_cons_self ..)
    refine getAttr_append hxs ?_
    have S₄ := (S₃.pushed (x := .raw (boundAppend ra)) (o := boundAppend ra) ⟨Heap.get?_push_size _ rfl, by simp⟩).tok (s₃.toks + 1)
    generalize hba : s₃.heap.objs.size = ba at S₄
    refine stloc (p := .ref ba) S₄ rfl fun s₅ S₅ => ?_
    have hin5 : ∀ (x y z : Addr × AO), (ia, AO.list (inpOf P sa behind)) ∈ x :: y :: z :: R := fun x y z => List.mem_cons_of_mem _ (List.mem_cons_of_mem _ (List.mem_cons_of_mem _ hin))
    refine wpAny_execs_cons (r_swap2 S₅ Rm'.handled (wpAny_items_cons (c_i S₅ fun t1 s₆ S₆ => wpAny_items_cons (r_bi B S₆ hlen (wpAny_items_cons (nm_r S₆ rfl (wpAny_items_nil ?_)))))))
    refine r_len_list S₆ (hin5 _ _ _) (by lia) fun t2 s₇ S₇ => ?_
    rw [hil]
    refine wpAny_items_nil ⟨_, _, _, _, rfl, S₇, fun s₈ S₈ _ => ?_⟩
    refine stloc (p := .i ((P.length + 1 : Nat) : Int)) S₈ (.int _ _) fun s₉ S₉ => stloc (p := .i 0) S₉ (.int _ _) fun s₁₀ S₁₀ => ?_
    replace S₁₀ := (S₁₀.weaken (loc' := joLoc ia sa ra ba 0 (P.length + 1)) ⟨by rfl, by rfl, by rfl, by rfl, by rfl, by rfl, trivial⟩).perm (List.Perm.swap (ba, .raw (boundAppend ra)) (ra, .list []) ((L, .ns loc) :: R))
    have hba' : ∀ (y : Addr × AO) (r : List (Addr × AO)), (ba, AO.raw (boundAppend ra)) ∈ y :: (ba, AO.raw (boundAppend ra)) :: r := fun y r => List.mem_cons_of_mem _ (List.mem_cons_self ..)
    let X : List (Addr × AO) := (ba, .raw (boundAppend ra)) :: (L, .ns loc) :: R
    -- the first loop
    refine wpAny_execs_cons (wpAny_mono (Q := fun f s' => f = .next ∧ St C h₀ L' (joLoc ia sa ra ba (if behind then 0 else P.length) (P.length + 1)) ((ra, .list ((if behind then [] else P).map sP)) :: X) s') ?_ (fun f s' hq => ?_) fun _ _ q => q)
    · cases behind with
      | true =>
        refine r_while S₁₀ (fun m loc' R' => loc' = joLoc ia sa ra ba 0 (P.length + 1) ∧ R' = (ra, .list []) :: X) 0 ⟨rfl, rfl⟩ ?_
        rintro m _ _ s₂ ⟨rfl, rfl⟩ S₂
        refine Tst.use ((tst_lt (a := ((0 : Nat) : Int)) (b := ((P.length + 1 : Nat) : Int)) rfl rfl).and (tst_isnot_f (n := 0) rfl rfl rfl (hin5 _ _ _) rfl (by lia))) S₂ fun s₃ S₃ => ?_
        refine ifN (by simp) ?_
        exact ⟨rfl, S₃⟩
      | false =>
        refine r_while S₁₀ (fun m loc' R' => ∃ i, i ≤ P.length ∧ m = P.length - i ∧ loc' = joLoc ia sa ra ba i (P.length + 1) ∧ R' = (ra, .list ((P.take i).map sP)) :: X) P.length ⟨0, Nat.zero_le _, rfl, rfl, rfl⟩ ?_
        rintro m _ _ s₂ ⟨i, hi, rfl, rfl, rfl⟩ S₂
        by_cases hiP : i < P.length
        · let l₁ : List (Str × PV) := joLoc ia sa ra ba i (P.length + 1)
          let R₁ : List (Addr × AO) := (ra, .list ((P.take i).map sP)) :: X
          change St C h₀ L' l₁ R₁ _ at S₂
          have hget : (inpOf P sa false)[i]? = some (sP P[i]) := by
            show (P.map sP ++ [.ref sa])[i]? = _
            rw [List.getElem?_append_left (by simpa using hiP), List.getElem?_map, List.getElem?_eq_getElem hiP]; rfl
          refine Tst.use ((tst_lt (a := (i : Int)) (b := ((P.length + 1 : Nat) : Int)) rfl rfl).and (tst_isnot (n := i) rfl rfl rfl (hin5 _ _ _) hget (by simp) ⟨_, rfl⟩ (by lia))) S₂ fun s₃ S₃ => ?_
          refine ifY (by simp; lia) ?_
          refine wpAny_execs_cons (wpAny_Expr_any (r_app (ra := ra) S₃ (fun Q' hq => nm_r S₃ rfl hq) (Subscript_Name (nm_r S₃ rfl (nm_i S₃ rfl fun u => item_l S₃ (hin5 _ _ _) hget (by lia) fun v hv => ?_)))))
          refine ⟨(P.take i).map sP, sP P[i], _, _, _, 0, hv, S₃, rfl, hba' _ _, by simp; lia, fun s₄ S₄ => ?_⟩
          refine wpAny_execs_cons (r_aug (a := (i : Int)) S₄ rfl fun s₅ S₅ => wpAny_execs_nil ?_)
          refine ⟨P.length - (i + 1), _, _, by lia, ⟨i + 1, hiP, rfl, rfl, rfl⟩, ?_⟩
          have e : (P.take (i + 1)).map sP = (P.take i).map sP ++ [sP P[i]] := by
            rw [List.take_succ_eq_append_getElem hiP, List.map_append, List.map_cons, List.map_nil]
          rw [e]
          exact S₅.weaken ⟨by rfl, by rfl, by rfl, by rfl, by rfl, by rfl, trivial⟩
        · have hiP' : i = P.length := by lia
          subst hiP'
          refine Tst.use ((tst_lt (a := (P.length : Int)) (b := ((P.length + 1 : Nat) : Int)) rfl rfl).and (tst_isnot_f (n := P.length) rfl rfl rfl (hin5 _ _ _) (by simp [inpOf]) (by lia))) S₂ fun s₃ S₃ => ?_
          refine ifN (by simp) ?_
          refine ⟨rfl, ?_⟩
          rw [List.take_length] at S₃
          exact S₃
    obtain ⟨rfl, S₁₁⟩ := hq
    -- the second loop
    refine wpAny_execs_cons (wpAny_mono (Q := fun f s' => f = .next ∧ ∃ G : List T, [40, 63, 115, 58] ++ G.flatten ++ [41, 92, 90] = writtenT P.flatten behind ∧ G.flatten.length + G.length ≤ 200000 ∧
      St C h₀ L' (joLoc ia sa ra ba (P.length + 1) (P.length + 1)) ((ra, .list (G.map sP)) :: X) s') ?_ (fun f s'' hq => ?_) fun _ _ q => q)
    · cases behind with
      | false =>
        refine r_while S₁₁ (fun m loc' R' => loc' = joLoc ia sa ra ba P.length (P.length + 1) ∧ R' = (ra, .list (P.map sP)) :: X) 0 ⟨rfl, rfl⟩ ?_
        rintro m _ _ s₂ ⟨rfl, rfl⟩ S₂
        have hget : (inpOf P sa false)[P.length]? = some (.ref sa) := by simp [inpOf]
        refine Tst.use (tst_lt (a := (P.length : Int)) (b := ((P.length + 1 : Nat) : Int)) rfl rfl) S₂ fun s₃ S₃ => ?_
        refine ifY (by simp; lia) ?_
        refine wpAny_execs_cons (wpAny_Assert_holds (Tst.use (tst_is (n := P.length) rfl rfl rfl (hin5 _ _ _) hget (by lia)) S₃ fun s₄ S₄ => ⟨rfl, ?_⟩))
        refine wpAny_execs_cons (r_aug (a := (P.length : Int)) S₄ rfl fun s₅ S₅ => ?_)
        refine wpAny_execs_cons (wpAny_If (Tst.use (tst_eqi (a := ((P.length + 1 : Nat) : Int)) (b := ((P.length + 1 : Nat) : Int)) rfl rfl) S₅ fun s₆ S₆ => ?_))
        refine ifY (by simp) ?_
        refine wpAny_execs_cons (wpAny_Expr_any (r_app (ra := ra) S₆ (fun Q' hq => nm_r S₆ rfl hq) (c_t [46, 42] S₆ fun t2 s₇ S₇ => ⟨P.map sP, sP [46, 42], _, _, _, 0, .str _ _, S₇, rfl, hba' _ _, by simp; lia, fun s₈ S₈ => ?_⟩)))
        refine wpAny_execs_cons (wpAny_Break ?_)
        refine ⟨rfl, P ++ [[46, 42]], ?_, ?_, ?_⟩
        · simp [writtenT]
        · rw [List.flatten_append]; simp only [List.length_append, List.flatten_cons, List.flatten_nil, List.length_cons, List.length_nil, List.append_nil]; lia
        · have e : (P ++ [[46, 42]]).map sP = P.map sP ++ [sP [46, 42]] := by simp
          rw [e]
          exact S₈.weaken ⟨by rfl, by rfl, by rfl, by rfl, by rfl, by rfl, trivial⟩
      | true =>
        refine r_while S₁₁ (fun m loc' R' => (m = 1 ∧ loc' = joLoc ia sa ra ba 0 (P.length + 1) ∧ R' = (ra, .list []) :: X) ∨
          (m = 0 ∧ loc' = joLoc ia sa ra ba (P.length + 1) (P.length + 1) ∧ R' = (ra, .list [sP [46, 42], sP P.flatten]) :: X)) 1 (.inl ⟨rfl, rfl, rfl⟩) ?_
        rintro m _ _ s₂ (⟨rfl, rfl, rfl⟩ | ⟨rfl, rfl, rfl⟩) S₂
        · refine Tst.use (tst_lt (a := ((0 : Nat) : Int)) (b := ((P.length + 1 : Nat) : Int)) rfl rfl) S₂ fun s₃ S₃ => ?_
          refine ifY (by simp) ?_
          refine wpAny_execs_cons (wpAny_Assert_holds (Tst.use (tst_is (n := 0) rfl rfl rfl (hin5 _ _ _) rfl (by lia)) S₃ fun s₄ S₄ => ⟨rfl, ?_⟩))
          refine wpAny_execs_cons (r_aug (a := ((0 : Nat) : Int)) S₄ rfl fun s₅ S₅ => ?_)
          let l₂ : List (Str × PV) := joLoc ia sa ra ba 1 (P.length + 1)
          replace S₅ := S₅.weaken (loc' := l₂) ⟨by rfl, by rfl, by rfl, by rfl, by rfl, by rfl, trivial⟩
          refine wpAny_execs_cons (wpAny_If (Tst.use (tst_eqi (a := ((1 : Nat) : Int)) (b := ((P.length + 1 : Nat) : Int)) rfl rfl) S₅ fun s₆ S₆ => ?_))
          refine ifN (by simp; lia) ?_
          have hget : ∀ i (hi : i < P.length), (inpOf P sa true)[i + 1]? = some (sP P[i]) := fun i hi => by
            show (PV.ref sa :: P.map sP)[i + 1]? = _
            rw [List.getElem?_cons_succ, List.getElem?_map, List.getElem?_eq_getElem hi]; rfl
          refine wpAny_execs_nil (wpAny_execs_cons (wpAny_Assert_holds (Tst.use (tst_isnot (n := 1) rfl rfl rfl (hin5 _ _ _) (hget 0 hPl) (by simp) ⟨_, rfl⟩ (by lia)) S₆ fun s₇ S₇ => ⟨rfl, ?_⟩)))
          refine wpAny_execs_cons (wpAny_Assign_Name (wpAny_List (wpAny_items_nil ⟨sz0, ?_⟩)) (by rfl))
          have S₈ := S₇.pushed (x := .list []) (o := { cls := .type "list", data := .seq #[] }) ⟨#[], ⟨0, Heap.get?_push_size _ rfl⟩, trivial⟩
          generalize hfa : s₇.heap.objs.size = fa at S₈
          refine stloc (p := .ref fa) S₈ rfl fun s₉ S₉ => ?_
          have hin6 : ∀ (w x y z : Addr × AO), (ia, AO.list (inpOf P sa true)) ∈ w :: x :: y :: z :: R := fun w x y z => List.mem_cons_of_mem _ (hin5 x y z)
          refine wpAny_execs_cons (wpAny_mono (Q := fun f s' => f = .next ∧ St C h₀ L' (joLocF fa ia sa ra ba (P.length + 1) (P.length + 1)) ((fa, .list (P.map sP)) :: (ra, .list []) :: X) s') ?_ (fun f s' hq => ?_) fun _ _ q => q)
          · refine r_while S₉ (fun m loc' R' => ∃ i, i ≤ P.length ∧ m = P.length - i ∧ loc' = joLocF fa ia sa ra ba (i + 1) (P.length + 1) ∧ R' = (fa, .list ((P.take i).map sP)) :: (ra, .list []) :: X) P.length ⟨0, Nat.zero_le _, rfl, rfl, rfl⟩ ?_
            rintro m _ _ s₁₂ ⟨i, hi, rfl, rfl, rfl⟩ S₁₂
            by_cases hiP : i < P.length
            · let l₁ : List (Str × PV) := joLocF fa ia sa ra ba (i + 1) (P.length + 1)
              let R₁ : List (Addr × AO) := (fa, .list ((P.take i).map sP)) :: (ra, .list []) :: X
              change St C h₀ L' l₁ R₁ _ at S₁₂
              refine Tst.use ((tst_lt (a := ((i + 1 : Nat) : Int)) (b := ((P.length + 1 : Nat) : Int)) rfl rfl).and (tst_isnot (n := i + 1) rfl rfl rfl (hin6 _ _ _ _) (hget i hiP) (by simp) ⟨_, rfl⟩ (by lia))) S₁₂ fun s₁₃ S₁₃ => ?_
              refine ifY (by simp; lia) ?_
              obtain ⟨zs, ⟨n1, hzs⟩, _⟩ := S₁₃.getOK (List.mem_cons_self ..)
              refine wpAny_execs_cons (wpAny_Expr_any (wpAny_Call_method (T := "list") (id := "list.append") (by rfl) (by rfl) (by rfl) F.plainAttrs_list F.slot_list_append F.type_list_append ?_))
              refine nm_r S₁₃ rfl ⟨⟨_, hzs, rfl⟩, fun _ e => by cases e; exact ⟨_, hzs, rfl⟩, callWith_bi (wpAny_items_cons (Subscript_Name (nm_r S₁₃ rfl (nm_i S₁₃ rfl fun u => item_l S₁₃ (hin6 _ _ _ _) (hget i hiP) (by lia) fun v hv => ?_))))⟩
              refine wpAny_items_nil (call_append (i := 0) (l := (P.take i).map sP) (pv := sP P[i]) S₁₃ hv rfl (by simp; lia) fun s₁₄ S₁₄ => ?_)
              refine wpAny_execs_cons (r_aug (a := ((i + 1 : Nat) : Int)) S₁₄ rfl fun s₁₅ S₁₅ => wpAny_execs_nil ?_)
              refine ⟨P.length - (i + 1), _, _, by lia, ⟨i + 1, hiP, rfl, rfl, rfl⟩, ?_⟩
              have e : (P.take (i + 1)).map sP = (P.take i).map sP ++ [sP P[i]] := by
                rw [List.take_succ_eq_append_getElem hiP, List.map_append, List.map_cons, List.map_nil]
              rw [e]
              exact S₁₅.weaken ⟨by rfl, by rfl, by rfl, by rfl, by rfl, by rfl, by rfl, trivial⟩
            · have hiP' : i = P.length := by lia
              subst hiP'
              refine Tst.use (Tst.andF (tst_lt_f (a := ((P.length + 1 : Nat) : Int)) (b := ((P.length + 1 : Nat) : Int)) rfl rfl (Int.lt_irrefl _))) S₁₂ fun s₁₃ S₁₃ => ?_
              refine ifN (by simp) ?_
              refine ⟨rfl, ?_⟩
              rw [List.take_length] at S₁₃
              exact S₁₃
          obtain ⟨rfl, S₁₃⟩ := hq
          refine wpAny_execs_cons (wpAny_Assign_Name (r_joinCall ?_) (by rfl))
          refine c_t [] S₁₃ fun t3 s₁₄ S₁₄ => ⟨typeIs_str _ _ _, (fun _ e => nomatch e), callWith_bi (wpAny_items_cons (nm_r S₁₄ rfl (wpAny_items_nil (call_join S₁₄ (List.mem_cons_self ..) (by lia) fun t4 s₁₅ S₁₅ => ?_))))⟩
          refine stloc (p := .s (toS P.flatten)) S₁₅.drop (.str _ _) fun s₁₆ S₁₆ => ?_
          let l₃ : List (Str × PV) := joLocX P.flatten ia sa ra ba (P.length + 1) (P.length + 1)
          replace S₁₆ := S₁₆.weaken (loc' := l₃) ⟨by rfl, by rfl, by rfl, by rfl, by rfl, by rfl, by rfl, trivial⟩
          refine wpAny_execs_cons (wpAny_If (Tst.use (tst_eqi (a := ((P.length + 1 : Nat) : Int)) (b := ((P.length + 1 : Nat) : Int)) rfl rfl) S₁₆ fun s₁₇ S₁₇ => ?_))
          refine ifY (by simp) ?_
          refine wpAny_execs_cons (wpAny_Expr_any (r_app (ra := ra) S₁₇ (fun Q' hq => nm_r S₁₇ rfl hq) (c_t [46, 42] S₁₇ fun t2 s₁₈ S₁₈ => ⟨[], sP [46, 42], _, _, _, 0, .str _ _, S₁₈, rfl, hba' _ _, by simp, fun s₁₉ S₁₉ => ?_⟩)))
          refine wpAny_execs_cons (wpAny_Expr_any (r_app (ra := ra) S₁₉ (fun Q' hq => nm_r S₁₉ rfl hq) (nm_s S₁₉ rfl fun t5 => ⟨[sP [46, 42]], sP P.flatten, _, _, _, 0, .str _ _, S₁₉, rfl, hba' _ _, by simp, fun s₂₀ S₂₀ => ?_⟩)))
          repeat refine wpAny_execs_nil ?_
          exact ⟨0, _, _, by lia, .inr ⟨rfl, rfl, rfl⟩, S₂₀.weaken ⟨by rfl, by rfl, by rfl, by rfl, by rfl, by rfl, trivial⟩⟩
        · refine Tst.use (tst_lt (a := ((P.length + 1 : Nat) : Int)) (b := ((P.length + 1 : Nat) : Int)) rfl rfl) S₂ fun s₃ S₃ => ?_
          refine ifN (by simp) ?_
          refine ⟨rfl, [[46, 42], P.flatten], by simp [writtenT], by simp only [List.length_append, List.flatten_cons, List.flatten_nil, List.length_cons, List.length_nil, List.append_nil]; lia, S₃⟩
    obtain ⟨rfl, G, hG, hGz, S₁₂⟩ := hq
    refine wpAny_execs_cons (wpAny_Assert_holds (Tst.use (tst_eqi (a := ((P.length + 1 : Nat) : Int)) (b := ((P.length + 1 : Nat) : Int)) rfl rfl) S₁₂ fun s₁₃ S₁₃ => ⟨by simp, ?_⟩))
    refine wpAny_execs_cons (wpAny_Assign_Name (r_joinCall ?_) (by rfl))
    refine c_t [] S₁₃ fun t3 s₁₄ S₁₄ => ⟨typeIs_str _ _ _, (fun _ e => nomatch e), callWith_bi (wpAny_items_cons (nm_r S₁₄ rfl (wpAny_items_nil (call_join S₁₄ (List.mem_cons_self ..) (by lia) fun t4 s₁₅ S₁₅ => ?_))))⟩
    refine stloc (p := .s (toS G.flatten)) S₁₅ (.str _ _) fun s₁₆ S₁₆ => ?_
    refine wpAny_execs_cons (wpAny_Return_some ?_)
    have hE : ((Str.empty ++ toS [40, 63, 115, 58]) ++ toS G.flatten) ++ toS [41, 92, 90] = toS (writtenT P.flatten behind) := by
      rw [show Str.empty = toS [] from rfl, toS_append, toS_append, toS_append, ← hG]; rfl
    refine wpAny_JoinedStr (Joins_cons (c_t [40, 63, 115, 58] S₁₆ fun t20 s₃₂ S₃₂ => ⟨_, _, rfl, ?_, ?_⟩))
    · rw [show Str.empty = toS [] from rfl, toS_append, toS_length, sizeT]; simp
    refine Joins_cons (FormattedValue_plain (nm_s S₃₂ rfl fun t21 => ?_))
    refine formatField_str (fun t22 tk => ⟨_, _, rfl, ?_, ?_⟩) (by rw [toS_length, sizeT]; lia)
    · rw [show Str.empty = toS [] from rfl, toS_append, toS_append, toS_length, sizeT]; simp only [List.length_append, List.length_cons, List.length_nil]; lia
    refine Joins_cons (c_t [41, 92, 90] (S₃₂.tok tk) fun t23 s₃₃ S₃₃ => ⟨_, _, rfl, ?_, Joins_nil ⟨?_, ?_⟩⟩)
    · rw [show Str.empty = toS [] from rfl, toS_append, toS_append, toS_append, toS_length, sizeT]; simp only [List.length_append, List.length_cons, List.length_nil]; lia
    · rw [show Str.empty = toS [] from rfl, toS_append, toS_append, toS_append, toS_length, sizeT]; simp only [List.length_append, List.length_cons, List.length_nil]; lia
    rw [hE]
    exact h _ _ (St.back (X := [(ra, _), (ba, _)]) (S₃₃.tok _))
end
end Mine

namespace Mine

open PySem PySem.W PyProof.Rows PySem.Calls

noncomputable def patT (part : T) (behind : Bool) : T := if behind then [42] ++ part.flatMap quote1 else part.flatMap quote1 ++ [42]
noncomputable def itemsOf (part : T) (behind : Bool) : List (Option Nat) := if behind then none :: part.map some else part.map some ++ [none]
theorem items_flat (part : T) (behind : Bool) : (itemsOf part behind).flatMap qI = patT part behind := by
  have e : ∀ l : T, (l.map some).flatMap qI = l.flatMap quote1 := fun l => by
    induction l with
    | nil => rfl
    | cons c r ih => simp only [List.map_cons, List.flatMap_cons, ih]; rfl
  cases behind
  · show (part.map some ++ [none]).flatMap qI = part.flatMap quote1 ++ [42]
    rw [List.flatMap_append, e]; rfl
  · show (none :: part.map some).flatMap qI = [42] ++ part.flatMap quote1
    rw [List.flatMap_cons, e]; rfl
theorem items_out (part : T) (behind : Bool) (sa : Addr) : (itemsOf part behind).map (oI sa) = inpOf (part.map E1) sa behind := by
  cases behind <;> simp [itemsOf, inpOf, oI]
theorem noTwo_somes : ∀ (l : T) (r : List (Option Nat)), NoTwo r → NoTwo (l.map some ++ r)
  | [], _, h => h
  | _ :: l, r, h => noTwo_somes l r h
theorem noTwo_items (part : T) (behind : Bool) : NoTwo (itemsOf part behind) := by
  cases behind
  · exact noTwo_somes part [none] trivial
  · have := noTwo_somes part [] trivial
    rw [List.append_nil] at this
    show NoTwo (none :: part.map some)
    cases part with
    | nil => trivial
    | cons c r => exact this

section
variable {C : Cfg} {h₀ : Heap} {L : Addr} {loc : List (Str × PV)} {R : List (Addr × AO)} {s : Shared} {A : Around} {E : Value → Shared → Prop} {mg mb : Str → Option Value} {a pl : Addr} {k : Nat}
set_option maxHeartbeats 1000000 in
theorem translate_spec {part : T} {behind : Bool} {t : Tok} {Q : Value → Shared → Prop} (Z : Tr C mg mb pl) (D : DefAt C a (theDef 3)) (Rm : Room A (k + 3)) (S : St C h₀ L loc R s) (hpl : (pl, .tab) ∈ R)
    (hp : part ≠ []) (h128 : ∀ c ∈ part, c < 128) (hz : part.length ≤ 10000)
    (h : ∀ t s', St C h₀ L loc R s' → Q (.str (toS (writtenT (part.flatMap E1) behind)) t) s') :
    wpAny (model C.prog C.w) A (call (.ref a) [.str (toS (patT part behind)) t]) Q E s := by
  have B := Z.base
  obtain ⟨ta, hta, DT, DC⟩ := Z.tr_
  obtain ⟨ja, hja, DJ⟩ := Z.join_
  refine call_def ["pat"] (ps := [.s (toS (patT part behind))]) B D Rm S ⟨.str _ _, trivial⟩ (fun fd e1 e2 e3 => ?_) rfl (by decide +kernel) (fun L' q cd s₁ _ Rm' S₁ => ?_)
  · obtain ⟨n, qn, ps, bd, sc, gl, cl, df, kd⟩ := fd
    dsimp only at e1 e2 e3
    subst e1 e2 e3
    rfl
  · replace S₁ := S₁.weaken (loc' := [("pat", .s (toS (patT part behind)))]) ⟨by rfl, trivial⟩
    change St C h₀ L' _ ((L, .ns loc) :: R) s₁ at S₁
    -- STAR = object()
    refine wpAny_execs_cons (wpAny_Assign_Name (wpAny_Call_ofName (nm_bi B S₁ Z.obj ?_)) (by rfl))
    show wpAny _ _ (callWith _ (.type "object") [] [] []) _ _ s₁
    refine PySem.callWith_type rfl (PySem.evalArgs_none ?_)
    refine call_object ?_
    have S₂ := S₁.pushed (x := .raw { cls := .type "object" }) (o := { cls := .type "object" }) ⟨Heap.get?_push_size _ rfl, by simp⟩
    generalize hsa : s₁.heap.objs.size = sa at S₂
    refine stloc (p := .ref sa) S₂ rfl fun s₃ S₃ => ?_
    -- parts = translateu_(pat, STAR, '.')
    refine wpAny_execs_cons (wpAny_Assign_Name (r_call B S₃ DT hta (wpAny_items_cons (nm_s S₃ rfl fun t1 => wpAny_items_cons (nm_r S₃ rfl (wpAny_items_cons (c_t [46] S₃ fun t2 s₄ S₄ => wpAny_items_nil ⟨S₄.top, ?_⟩)))))) (by rfl))
    rw [← items_flat]
    refine tr_spec Z DT DC Rm' S₄ (List.mem_cons_of_mem _ (List.mem_cons_of_mem _ hpl)) (List.mem_cons_self ..) (noTwo_items part behind) ?_ ?_ fun ra s₅ S₅ => ?_
    · intro c hc
      unfold itemsOf at hc
      split at hc
      · simp at hc; exact h128 c hc
      · simp at hc; exact h128 c hc
    · unfold itemsOf; split <;> simp <;> lia
    rw [items_out] at S₅
    refine stloc (p := .ref ra) S₅ rfl fun s₆ S₆ => ?_
    -- the join
    refine wpAny_execs_cons (wpAny_Return_some (r_call B S₆ DJ hja (wpAny_items_cons (nm_r S₆ rfl (wpAny_items_cons (nm_r S₆ rfl (wpAny_items_nil ⟨S₆.top, ?_⟩)))))))
    refine join_spec B Z.len DJ Rm' S₆ (List.mem_cons_self ..) (by simpa using hp) ?_ fun t3 s₇ S₇ => ?_
    · have : ∀ l : T, (l.map E1).flatten.length ≤ 4 * l.length := fun l => by
        induction l with
        | nil => simp
        | cons c r ih =>
          have h1 : (E1 c).length ≤ 4 := by
            unfold E1 escT
            split
            · split <;> simp
            · split <;> simp
          simp only [List.map_cons, List.flatten_cons, List.length_append, List.length_cons]
          lia
      have := this part
      rw [List.length_map]; lia
    · rw [← List.flatMap_def] at *
      exact h _ _ (St.back (X := [(ra, _), (sa, _)]) S₇)
end
end Mine

namespace Mine

open PySem PySem.W PyProof.Rows PySem.Calls

/-! ### pinned things, and what walks -/
section
variable {C : Cfg} {h₀ : Heap} {loc : List (Str × PV)} {R : List (Addr × AO)} {s : Shared} {A : Around} {E : Value → Shared → Prop} {env : Env} {mg mb : Str → Option Value} {L : Addr}

/-- a thing of the ledger, known otherwise -/
theorem St.as (S : St C h₀ L loc R s) (i : Nat) {a : Addr} {x x' : AO} (ei : R[i]? = some (a, x)) (f : OR C s.heap a x → OR C s.heap a x') : St C h₀ L loc (R.set i (a, x')) s := by
  have hm := List.mem_of_getElem? ei
  refine ⟨S.gens, S.drawn, S.os, S.top, S.tk, S.loc, S.offL, by rw [set_keys ei]; exact S.nodup, fun p hp => ?_, fun p hp => ?_⟩
  · rcases List.mem_or_eq_of_mem_set hp with q | q
    · exact S.off p q
    · rw [q]; exact S.off (a, x) hm
  · rcases List.mem_or_eq_of_mem_set hp with q | q
    · exact S.ok p q
    · rw [q]; exact f (S.ok (a, x) hm)
theorem St.pin (S : St C h₀ L loc R s) (i : Nat) {a : Addr} {x : AO} (ei : R[i]? = some (a, x)) : ∃ o, St C h₀ L loc (R.set i (a, .pin o x)) s := by
  obtain ⟨o, ho, _⟩ := (S.ok _ (List.mem_of_getElem? ei)).notTuple
  exact ⟨o, S.as i ei fun r => ⟨ho, r⟩⟩
theorem St.unpin (S : St C h₀ L loc R s) (i : Nat) {a : Addr} {o : Obj} {x : AO} (ei : R[i]? = some (a, .pin o x)) : St C h₀ L loc (R.set i (a, x)) s := S.as i ei fun r => r.2

noncomputable def Pinned (C : Cfg) (R : List (Addr × AO)) (b : Addr) : Prop := ∃ x o, (b, x) ∈ R ∧ ∀ h, OR C h b x → h.get? b = some o
theorem Pinned.of {R : List (Addr × AO)} {b : Addr} {o : Obj} {x : AO} (h : (b, AO.pin o x) ∈ R) : Pinned C R b := ⟨_, o, h, fun _ r => r.1⟩
theorem Pinned.raw {R : List (Addr × AO)} {b : Addr} {o : Obj} (h : (b, AO.raw o) ∈ R) : Pinned C R b := ⟨_, o, h, fun _ r => r.1⟩

/-- an iterator that stands at the start of n things -/
structure Wk (C : Cfg) (A : Around) (I : Addr) (n : Nat) (item : Nat → PV) (h₁ : Heap) (K : List (Addr × AO)) : Prop where
  ex : ∃ fp Pv Sti, Walks C.prog C.w A I fp [I] n Pv Sti ∧ (∀ i h, Sti i h → ∃ o, h.get? I = some o ∧ o.cls ≠ .type "tuple") ∧ (∀ b ∈ fp, b = I ∨ Pinned C K b) ∧ Sti 0 h₁ ∧
    ∀ i v h', Pv i v → TK h₁ h' → VR h' (item i) v

theorem wk_list {a : Addr} {o : Obj} {l : List PV} {Q : Value → Shared → Prop} (hh : A.handled = none) (S : St C h₀ L loc R s) (hm : (a, AO.pin o (.list l)) ∈ R)
    (h : ∀ I o₁ s₁, St C h₀ L loc ((I, .raw o₁) :: R) s₁ → Wk C A I l.length (fun i => l.getD i .n) s₁.heap [(a, AO.pin o (.list l))] → Q (.ref I) s₁) : wpAny (model C.prog C.w) A (pyIter (.ref a)) Q E s := by
  obtain ⟨ho, xs, ⟨n, hx⟩, hr⟩ := S.getOK hm
  have hlen : xs.size = l.length := by have := hr.length; simp at this; lia
  refine wpAny_pyIter_list ⟨_, hx, rfl, _, rfl⟩ (h s.heap.objs.size { cls := .type "list_iterator", data := .fields #[.ref a, .int 0 0] } _ (S.pushed ⟨Heap.get?_push_size _ rfl, by simp⟩) ⟨[s.heap.objs.size, a], _, _, by
    have := Walks.list (prog := C.prog) (w := C.w) hh s.heap.objs.size a (Nat.ne_of_lt (S.lt hm)) xs
    rw [hlen] at this
    exact this, ?_, ?_, ?_, ?_⟩)
  · rintro i h ⟨⟨o, ho, hc, _⟩, _⟩; exact ⟨o, ho, by rw [hc]; simp⟩
  · intro b hb
    simp at hb
    rcases hb with rfl | rfl
    · exact .inl rfl
    · exact .inr (.of (List.mem_singleton.mpr rfl))
  · exact ⟨⟨_, Heap.get?_push_size _ rfl, rfl, rfl⟩, ⟨_, Heap.get?_push_of_some _ hx, rfl, _, rfl⟩⟩
  · intro i v h' hv tk
    obtain ⟨p, e1, e2⟩ := hr.get (i := i) (v := v) (by simpa using hv)
    rw [List.getD_eq_getElem?_getD, e1]
    exact e2.tk ((TK.of_keeps fun b o e => Heap.get?_push_of_some _ e).trans tk)
theorem wk_str {l : T} {t : Tok} {Q : Value → Shared → Prop} (hh : A.handled = none) (S : St C h₀ L loc R s)
    (h : ∀ I o₁ s₁, St C h₀ L loc ((I, .raw o₁) :: R) s₁ → Wk C A I l.length (fun i => .s (toS [l.getD i 0])) s₁.heap [] → Q (.ref I) s₁) : wpAny (model C.prog C.w) A (pyIter (.str (toS l) t)) Q E s := by
  have e : (toS l).cps.size = l.length := by simp [toS]
  have item : ∀ i v h', SignAt (toS l) i v → VR h' (.s (toS [l.getD i 0])) v := by
    rintro i v h' ⟨c, u, hc, rfl⟩
    have : l[i]? = some c := by simpa [toS] using hc
    rw [List.getD_eq_getElem?_getD, this]
    exact .str _ _
  have W1 := Walks.strAscii (prog := C.prog) (w := C.w) hh s.heap.objs.size (toS l) t
  have W2 := Walks.strWide (prog := C.prog) (w := C.w) hh s.heap.objs.size (toS l) t
  rw [e] at W1 W2
  cases ha : (toS l).cps.all (· < 128) with
  | true =>
    refine wpAny_pyIter_ascii ha (h _ _ _ (S.pushed ⟨Heap.get?_push_size _ rfl, by simp⟩) ⟨[s.heap.objs.size], _, _, W1, fun i h q => ?_, fun b hb => .inl (by simpa using hb), ⟨_, Heap.get?_push_size _ rfl, rfl, rfl⟩, fun i v h' hv _ => item i v h' hv⟩)
    obtain ⟨o, ho, hc, _⟩ := q
    exact ⟨o, ho, by rw [hc]; simp⟩
  | false =>
    refine wpAny_pyIter_wide ha (h _ _ _ (S.pushed ⟨Heap.get?_push_size _ rfl, by simp⟩) ⟨[s.heap.objs.size], _, _, W2, fun i h q => ?_, fun b hb => .inl (by simpa using hb), ⟨_, Heap.get?_push_size _ rfl, rfl, rfl⟩, fun i v h' hv _ => item i v h' hv⟩)
    obtain ⟨o, ho, hc, _⟩ := q
    exact ⟨o, ho, by rw [hc]; simp⟩
theorem KVR.get {h : Heap} {K : Type} : ∀ {l : List (K × PV)} {kvs : List (K × Value)}, KVR h l kvs → ∀ {i : Nat} {k : K} {v : Value}, kvs[i]? = some (k, v) → ∃ p, l[i]? = some (k, p) ∧ VR h p v
  | (k, p) :: _, (k', v) :: _, ⟨e, a, _⟩, 0, _, _, q => by cases q; cases e; exact ⟨p, rfl, a⟩
  | _ :: _, _ :: _, ⟨_, _, b⟩, i + 1, _, _, q => by simpa using b.get (i := i) (by simpa using q)
  | [], [], _, _, _, _, q => by simp at q
theorem KVR.length {h : Heap} {K : Type} : ∀ {l : List (K × PV)} {kvs : List (K × Value)}, KVR h l kvs → kvs.length = l.length
  | [], [], _ => rfl
  | _ :: _, _ :: _, ⟨_, _, b⟩ => by simp [b.length]
theorem wk_dict {a : Addr} {o : Obj} {l : List (Str × PV)} {Q : Value → Shared → Prop} (hh : A.handled = none) (hsys : ∃ o, C.top.get? mainGlobals = some o) (S : St C h₀ L loc R s) (hm : (a, AO.pin o (.dict l)) ∈ R)
    (h : ∀ I o₁ s₁, St C h₀ L loc ((I, .raw o₁) :: R) s₁ → Wk C A I l.length (fun i => .s (l.getD i ((Str.empty), .n)).1) s₁.heap [(a, AO.pin o (.dict l))] → Q (.ref I) s₁) : wpAny (model C.prog C.w) A (pyIter (.ref a)) Q E s := by
  obtain ⟨ho, kvs, hd, hr⟩ := S.getOK hm
  obtain ⟨ep, hat⟩ := hd.dictAt
  have hne : (a == sysModules) = false := beq_eq_false_iff_ne.mpr (Nat.ne_of_gt (S.off _ hm).2)
  have hat' : ∀ o, (s.heap.push o).DictAt (strKind C.prog C.w) a kvs ep := fun ob => by
    obtain ⟨o, es, ho, hrest⟩ := hat
    exact ⟨o, es, Heap.get?_push_of_some _ ho, hrest⟩
  refine wpAny_pyIter_dict hne hat (h _ _ _ (S.pushed ⟨Heap.get?_push_size _ rfl, by simp⟩) ⟨[s.heap.objs.size, a], _, _, by
    have := Walks.dictKeys (knd := strKind C.prog C.w) hh s.heap.objs.size a (Nat.ne_of_lt (S.lt hm)) kvs ep
    rw [hr.length] at this
    exact this, ?_, ?_, ?_, ?_⟩)
  · rintro i h ⟨⟨o, ho, hc, _⟩, _⟩; exact ⟨o, ho, by rw [hc]; simp⟩
  · intro b hb
    simp at hb
    rcases hb with rfl | rfl
    · exact .inl rfl
    · exact .inr (.of (List.mem_singleton.mpr rfl))
  · rw [← hr.length]
    exact ⟨⟨_, Heap.get?_push_size _ rfl, rfl, rfl⟩, hat' _⟩
  · rintro i v h' ⟨k, x, hk, hv⟩ tk
    obtain ⟨p, e1, e2⟩ := hr.get hk
    rw [List.getD_eq_getElem?_getD, e1]
    obtain ⟨t, rfl⟩ := Value.isStrOf_shape hv
    exact .str _ _

/-- a for, over what walks; within it tuples are told from its start on -/
theorem for_core {Rr : Result → Shared → Prop} {target : Expr} {body : List Stmt} {I : Addr} {n : Nat} {item : Nat → PV} {o₀ : Obj} {K : List (Addr × AO)}
    (S : St C h₀ L loc ((I, .raw o₀) :: R) s) (W : Wk C A I n item s.heap K) (P : Nat → List (Str × PV) → List (Addr × AO) → Prop) (h0 : P 0 loc R)
    (hK : ∀ i loc R', P i loc R' → ∀ p ∈ K, p ∈ R')
    (turn : ∀ i v o loc' R' s', i < n → VR s'.heap (item i) v → P i loc' R' → St C s.heap L loc' ((I, .raw o) :: R') s' →
      wpAny (model C.prog C.w) A (assign target env v) (fun _ s₂ => wpAny (model C.prog C.w) A (execs body env) (fun f s₃ => match f with
        | .next | .cont => ∃ loc'' R'', P (i + 1) loc'' R'' ∧ St C s.heap L loc'' ((I, .raw o) :: R'') s₃
        | .brk => Rr (.ok .next) s₃
        | .ret v => Rr (.ok (.ret v)) s₃) (fun _ _ => False) s₂) (fun _ _ => False) s')
    (done : ∀ loc' R' s', P n loc' R' → St C h₀ L loc' R' s' → Rr (.ok .next) s')
    (ht : ∀ v, letOwnedTupleGo target (.ref I) v = pure () := by intro _; rfl) :
    codeAny (model C.prog C.w) A (.forLoop target (.ref I) body [] env) Rr s := by
  obtain ⟨fp, Pv, Sti, W, hobj, hfp, hst, hitem⟩ := W.ex
  refine codeAny_forLoop (fun k s' => ∃ i loc' R' o, i + k = n ∧ P i loc' R' ∧ St C s.heap L loc' ((I, .raw o) :: R') s' ∧ Sti i s'.heap) (fun k s' hI => ?_) n ⟨0, loc, R, o₀, Nat.zero_add _, h0, S.re, hst⟩ ht
  obtain ⟨i, loc', R', o, hk, hP, S', hs'⟩ := hI
  by_cases hi : i < n
  · refine W.item i s' _ _ hi hs' fun v h' tk hv hs2 hkeep => ?_
    obtain ⟨o', ho', hc'⟩ := hobj _ _ hs2
    have ext : Heap.ExtBut I s'.heap h' := fun b x hb e => hkeep b x (by simpa using hb) e
    have S2 : St C s.heap L loc' ((I, .raw o') :: R') { s' with heap := h', toks := tk } := S'.upd 0 (x' := .raw o') rfl ext fun _ => ⟨ho', hc'⟩
    refine wpAny_mono (turn i v o' loc' R' _ hi (hitem i v h' hv S2.tk) hP S2) (fun _ s₂ q => wpAny_mono q (fun f s₃ q => ?_) fun _ _ q => q.elim) fun _ _ q => q.elim
    have next : (∃ loc'' R'', P (i + 1) loc'' R'' ∧ St C s.heap L loc'' ((I, .raw o') :: R'') s₃) → ∃ m, m < k ∧ ∃ i loc' R' o, i + m = n ∧ P i loc' R' ∧ St C s.heap L loc' ((I, .raw o) :: R') s₃ ∧ Sti i s₃.heap := by
      rintro ⟨loc'', R'', hP2, S3⟩
      refine ⟨k - 1, by lia, i + 1, loc'', R'', o', by lia, hP2, S3, W.frame (i + 1) h' s₃.heap hs2 fun b hb x e => ?_⟩
      rcases hfp b hb with rfl | ⟨xb, ob, hob, hpin⟩
      · rw [ho'] at e; cases e
        exact (S3.ok _ (List.mem_cons_self ..)).1
      · have m1 := hpin _ (S2.ok (b, xb) (List.mem_cons_of_mem _ (hK _ _ _ hP _ hob)))
        have m2 := hpin _ (S3.ok (b, xb) (List.mem_cons_of_mem _ (hK _ _ _ hP2 _ hob)))
        have : h'.get? b = some ob := m1
        rw [this] at e; cases e
        exact m2
    cases f with
    | next => exact next q
    | cont => exact next q
    | brk => exact q
    | ret v => exact q
  · have hin : i = n := by lia
    subst hin
    refine W.done s' _ _ hs' fun h' tk hkeep => ?_
    have ext : Heap.ExtBut I s'.heap h' := fun b x hb e => hkeep b x (by simpa using hb) e
    exact wpAny_execs_nil (done loc' R' _ hP ((S'.lose (t := tk) ext).un S.tk))

/-! ### comprehensions -/
theorem St.swapFrame {L' : Addr} {loc' : List (Str × PV)} (S : St C h₀ L loc ((L', .ns loc') :: R) s) : St C h₀ L' loc' ((L, .ns loc) :: R) s := by
  refine ⟨S.gens, S.drawn, S.os, S.top, S.tk, S.ok _ (List.mem_cons_self ..), S.off _ (List.mem_cons_self ..), ?_, fun p hp => ?_, fun p hp => ?_⟩
  · have := S.nodup
    simp only [List.map_cons] at this ⊢
    exact (List.Perm.swap L' L (R.map (·.1))).nodup_iff.mp this
  · rcases List.mem_cons.mp hp with e | e
    · rw [e]; exact S.offL
    · exact S.off _ (List.mem_cons_of_mem _ e)
  · rcases List.mem_cons.mp hp with e | e
    · rw [e]; exact S.loc
    · exact S.ok _ (List.mem_cons_of_mem _ e)
theorem St.enter (S : St C h₀ L loc R s) {h' : Heap} {t : Nat} {ob : Obj} (hns : h'.Ns s.heap.objs.size (fun _ => none)) (hs : Heap.SameBut s.heap.objs.size (s.heap.push ob) h') :
    St C h₀ s.heap.objs.size [] ((L, .ns loc) :: R) { s with heap := h', toks := t } := by
  have k : ∀ b o, s.heap.get? b = some o → h'.get? b = some o := fun b o e => hs.extBut b o (Nat.ne_of_lt (Heap.lt_size e)) (Heap.get?_push_of_some _ e)
  exact (S.new (t := t) (a := s.heap.objs.size) (x := .ns []) (Heap.get?_none_of_le (Nat.le_refl _)) (Nat.le_refl _) k ⟨_, hns, fun x p e => by cases e⟩).swapFrame
theorem Ns_of {a : Addr} {l : List (Str × PV)} {h : Heap} (r : OR C h a (.ns l)) : ∃ m, h.Ns a m := let ⟨m, n, _⟩ := r; ⟨m, n⟩

noncomputable abbrev cTests (ifs : List Expr) (env : Env) : Sem Bool := forIn ifs true fun c r => if r = true then do let ok ← isTrue c env (eval c env); pure (ForInStep.yield ok) else pure (ForInStep.yield r)

/-- the loop of a list comprehension -/
theorem comp_core {elt iter : Expr} {x : Str} {px : Pos} {ifs : List Expr} {scope : Scope} {cl : List (Str × Addr)} {pos : Pos} {I : Addr} {n : Nat} {item : Nat → PV} {o₀ : Obj} {K : List (Addr × AO)} {RR : Value → Addr → Result → Shared → Prop}
    (S : St C h₀ env.locals loc ((I, .raw o₀) :: R) s) (W : Wk C A I n item s.heap K) (hK : ∀ p ∈ K, p ∈ R) (hn : n ≤ 1000000)
    (acc : Nat → List PV) (hacc0 : acc 0 = []) (haccl : ∀ i, i ≤ n → (acc i).length ≤ i)
    (hcell : ∀ y ∈ scope.names, y.2 ≠ .cell) (hkind : scope.kind = .function) (hx : scope.names.lookup x = some .local)
    (turn : ∀ i Cc D o s', i < n → St C s.heap Cc [(x, item i)] ((D, .list (acc i)) :: (I, .raw o) :: (env.locals, .ns loc) :: R) s' →
      wpAny (model C.prog C.w) A (cTests ifs (compEnvC scope cl Cc env)) (fun ok s₃ => if ok = true then wpAny (model C.prog C.w) A (eval elt (compEnvC scope cl Cc env)) (fun y s₄ => ∃ pv, VR s₄.heap pv y ∧ acc (i + 1) = acc i ++ [pv] ∧
          St C s.heap Cc [(x, item i)] ((D, .list (acc i)) :: (I, .raw o) :: (env.locals, .ns loc) :: R) s₄) (fun _ _ => False) s₃
        else acc (i + 1) = acc i ∧ St C s.heap Cc [(x, item i)] ((D, .list (acc i)) :: (I, .raw o) :: (env.locals, .ns loc) :: R) s₃) (fun _ _ => False) s')
    (hRR : ∀ Cc D locc s', St C h₀ env.locals loc ((Cc, .ns locc) :: (D, .list (acc n)) :: R) s' → RR (.ref D) Cc (.ok .next) s') :
    wpAny (model C.prog C.w) A (newList []) (fun acc s₃ => wpAny (model C.prog C.w) A (newFunctionEnv scope env.globals cl [] env.qual none .none (some env)) (fun cenv s₄ =>
      codeAny (model C.prog C.w) A (.compStart (.ListComp elt [⟨.Name x px, iter, ifs, 0⟩] scope pos) 0 (.ref I) acc { cenv with scope := relabel scope env }) (RR acc cenv.locals) s₄) E s₃) E s := by
  obtain ⟨fp, Pv, Sti, W, hobj, hfp, hst, hitem⟩ := W.ex
  refine wpAny_newObj_type (wpAny_newFunctionEnv hcell (by intro y hy; simp at hy) (fun h₁ hns₁ hsb₁ => ?_) hkind)
  have S1 := S.re.pushed (x := .list []) (o := { cls := .type "list", data := .seq ([] : List Value).toArray }) ⟨#[], ⟨0, Heap.get?_push_size _ rfl⟩, trivial⟩
  generalize hD : s.heap.objs.size = D at S1 ⊢
  have S2 := S1.enter (t := s.toks + ([] : List (Str × Value)).length) hns₁ hsb₁
  generalize hCc : (s.heap.push { cls := .type "list", data := .seq ([] : List Value).toArray }).objs.size = Cc at S2 ⊢
  have keep : ∀ b o, s.heap.get? b = some o → h₁.get? b = some o := fun b o e => hsb₁.extBut b o (Nat.ne_of_lt (Nat.lt_trans (Heap.lt_size e) (by rw [Heap.size_push]; exact Nat.lt_succ_self _))) (Heap.get?_push_of_some _ (Heap.get?_push_of_some _ e))
  have loop : ∀ s₃ : Shared, s₃ = { s with heap := h₁, toks := s.toks + ([] : List (Str × Value)).length } →
      codeAny (model C.prog C.w) A (.compLoop (.ListComp elt [⟨.Name x px, iter, ifs, 0⟩] scope pos) 0 (.ref I) (.ref D) (compEnvC scope cl Cc env)) (RR (.ref D) Cc) s₃ := by
    rintro s₃ rfl
    have S3 : St C s.heap Cc [] ((D, .list (acc 0)) :: (I, .raw o₀) :: (env.locals, .ns loc) :: R) { s with heap := h₁, toks := s.toks + ([] : List (Str × Value)).length } := by
      rw [hacc0]
      exact S2.perm ((List.Perm.swap _ _ _).trans ((List.Perm.swap _ _ _).cons _)).symm
    refine codeAny_compLoop_tests (fun k s' => ∃ i o locc, i + k = n ∧ St C s.heap Cc locc ((D, .list (acc i)) :: (I, .raw o) :: (env.locals, .ns loc) :: R) s' ∧ Sti i s'.heap) (fun k s' hI => ?_) n
      ⟨0, o₀, [], Nat.zero_add _, S3, W.frame _ _ _ hst fun b _ o e => keep b o e⟩
    obtain ⟨i, o, locc, hk, S', hs'⟩ := hI
    by_cases hi : i < n
    · refine W.item i s' _ _ hi hs' fun v h' tk hv hs2 hkeep => ?_
      obtain ⟨o', ho', hc'⟩ := hobj _ _ hs2
      have ext : Heap.ExtBut I s'.heap h' := fun b x hb e => hkeep b x (by simpa using hb) e
      have S4 : St C s.heap Cc locc ((D, .list (acc i)) :: (I, .raw o') :: (env.locals, .ns loc) :: R) { s' with heap := h', toks := tk } := S'.upd 1 (x' := .raw o') rfl ext fun _ => ⟨ho', hc'⟩
      refine wpAny_assign_Name (stloc (env := compEnvC scope cl Cc env) (p := item i) S4 (hitem i v h' hv S4.tk) (fun s₂ S5 => ?_) hkind (lookup_relabel_local hx))
      replace S5 := S5.weaken (loc' := [(x, item i)]) ⟨by simp, trivial⟩
      have frame : ∀ s₅ l, St C s.heap Cc [(x, item i)] ((D, .list l) :: (I, .raw o') :: (env.locals, .ns loc) :: R) s₅ → Sti (i + 1) s₅.heap := fun s₅ l S6 => W.frame (i + 1) h' s₅.heap hs2 fun b hb xx e => by
        rcases hfp b hb with rfl | ⟨xb, ob, hob, hpin⟩
        · rw [ho'] at e; cases e
          exact (S6.ok (b, .raw o') (List.mem_cons_of_mem _ (List.mem_cons_self ..))).1
        · have hb' : ∀ (p q r : Addr × AO), (b, xb) ∈ p :: q :: r :: R := fun p q r => List.mem_cons_of_mem _ (List.mem_cons_of_mem _ (List.mem_cons_of_mem _ (hK _ hob)))
          have m1 := hpin _ (S4.ok (b, xb) (hb' _ _ _))
          have m2 := hpin _ (S6.ok (b, xb) (hb' _ _ _))
          have : h'.get? b = some ob := m1
          rw [this] at e; cases e
          exact m2
      refine wpAny_mono (turn i Cc D o' s₂ hi S5) (fun ok s₃ q => ?_) fun _ _ q => q.elim
      cases ok with
      | true =>
        simp only [if_true] at q ⊢
        refine wpAny_mono q (fun y s₄ q => ?_) fun _ _ q => q.elim
        obtain ⟨pv, hv', hacc, S6⟩ := q
        refine call_append (i := 0) S6 hv' rfl (by have := haccl i (by lia); lia) fun s₅ S7 => ?_
        refine ⟨k - 1, by lia, i + 1, o', [(x, item i)], by lia, ?_, frame _ _ S7⟩
        rw [hacc]; exact S7
      | false =>
        simp only [Bool.false_eq_true, if_false] at q ⊢
        obtain ⟨hacc, S6⟩ := q
        refine ⟨k - 1, by lia, i + 1, o', [(x, item i)], by lia, ?_, frame _ _ S6⟩
        rw [hacc]; exact S6
    · have hin : i = n := by lia
      subst hin
      refine W.done s' _ _ hs' fun h' tk hkeep => ?_
      have ext : Heap.ExtBut I s'.heap h' := fun b x hb e => hkeep b x (by simpa using hb) e
      have S4 := (((S'.pull 1 rfl).lose (t := tk) ext).un S.tk)
      exact hRR Cc D _ _ (St.swapFrame (S4.perm (List.Perm.swap _ _ _)))
  have hst₁ : Sti 0 h₁ := W.frame _ _ _ hst fun b _ o e => keep b o e
  exact codeAny_compStart_list (loop _ rfl) (W.self 0 _ _ _ hst₁ (loop _ rfl))

inductive ListCompK (C : Cfg) (A : Around) (env : Env) (x : Str) (ifs : List Expr) (elt : Expr) (scope : Scope) (cl : List (Str × Addr)) (Q : Value → Shared → Prop) (it : Value) (s₂ : Shared) : Prop
  | mk (I : Addr) (n : Nat) (item : Nat → PV) (o₀ : Obj) (K : List (Addr × AO)) (h₀ : Heap) (loc : List (Str × PV)) (R : List (Addr × AO)) (acc : Nat → List PV)
    (e0 : it = .ref I)
    (e1 : St C h₀ env.locals loc ((I, .raw o₀) :: R) s₂)
    (e2 : Wk C A I n item s₂.heap K)
    (e3 : (∀ p ∈ K, p ∈ R))
    (e4 : n ≤ 1000000)
    (e5 : acc 0 = [])
    (e6 : (∀ i, i ≤ n → (acc i).length ≤ i))
    (e7 : (∀ i Cc D o s', i < n → St C s₂.heap Cc [(x, item i)] ((D, .list (acc i)) :: (I, .raw o) :: (env.locals, .ns loc) :: R) s' →
        wpAny (model C.prog C.w) A (cTests ifs (compEnvC scope cl Cc env)) (fun ok s₃ => if ok = true then wpAny (model C.prog C.w) A (eval elt (compEnvC scope cl Cc env)) (fun y s₄ => ∃ pv, VR s₄.heap pv y ∧ acc (i + 1) = acc i ++ [pv] ∧
            St C s₂.heap Cc [(x, item i)] ((D, .list (acc i)) :: (I, .raw o) :: (env.locals, .ns loc) :: R) s₄) (fun _ _ => False) s₃
          else acc (i + 1) = acc i ∧ St C s₂.heap Cc [(x, item i)] ((D, .list (acc i)) :: (I, .raw o) :: (env.locals, .ns loc) :: R) s₃) (fun _ _ => False) s'))
    (e8 : (∀ D s', St C h₀ env.locals loc ((D, .list (acc n)) :: R) s' → Q (.ref D) s')) : ListCompK C A env x ifs elt scope cl Q it s₂

/-- [elt for x in iter if ..] -/
theorem r_listcomp {elt iter : Expr} {x : Str} {px : Pos} {ifs : List Expr} {scope : Scope} {cl : List (Str × Addr)} {pos : Pos} {Q : Value → Shared → Prop}
    (hclos : closureFor scope env = pure cl) (hcell : ∀ y ∈ scope.names, y.2 ≠ .cell) (hkind : scope.kind = .function)
    (hnames : ∀ y ∈ scope.names, y.2 = .local → scope.names.lookup y.1 = some .local) (hx : scope.names.lookup x = some .local)
    (h : wpAny (model C.prog C.w) A (eval iter env) (fun xv s₁ => wpAny (model C.prog C.w) A (pyIter xv) (ListCompK C A env x ifs elt scope cl Q) E s₁) E s)
    (hs : ∀ x, foldedSetIterable iter env x = pure x := by intro _; rfl) :
    wpAny (model C.prog C.w) A (eval (.ListComp elt [⟨.Name x px, iter, ifs, 0⟩] scope pos) env) Q E s := by
  rw [eval_ListComp]
  refine wpAny_comprehension_free (use := none) rfl hs hclos hkind hnames (wpAny_mono h (fun xv s₁ h₁ => wpAny_mono h₁ (fun it s₂ h₂ => ?_) fun _ _ e => e) fun _ _ e => e)
  obtain ⟨I, n, item, o₀, K, h₀, loc, R, acc, rfl, S, W, hK, hn, ha0, hal, turn, hQ⟩ := h₂
  refine comp_core (RR := fun acc C' => compPost (model C.prog C.w) A E none Q acc C') S W hK hn acc ha0 hal hcell hkind hx turn fun Cc D locc s' S' => ?_
  obtain ⟨m, hm⟩ := Ns_of (S'.ok _ (List.mem_cons_self ..))
  exact ⟨m, hm, fun h' hs' => hQ D _ (S'.lose (t := s'.toks) hs'.extBut)⟩
inductive AsgCompK (C : Cfg) (A : Around) (env : Env) (x : Str) (y : Str) (ifs : List Expr) (elt : Expr) (scope : Scope) (cl : List (Str × Addr)) (Q : Flow → Shared → Prop) (it : Value) (s₂ : Shared) : Prop
  | mk (I : Addr) (n : Nat) (item : Nat → PV) (o₀ : Obj) (K : List (Addr × AO)) (h₀ : Heap) (loc : List (Str × PV)) (R : List (Addr × AO)) (acc : Nat → List PV)
    (e0 : it = .ref I)
    (e1 : St C h₀ env.locals loc ((I, .raw o₀) :: R) s₂)
    (e2 : Wk C A I n item s₂.heap K)
    (e3 : (∀ p ∈ K, p ∈ R))
    (e4 : n ≤ 1000000)
    (e5 : acc 0 = [])
    (e6 : (∀ i, i ≤ n → (acc i).length ≤ i))
    (e7 : (∀ i Cc D o s', i < n → St C s₂.heap Cc [(x, item i)] ((D, .list (acc i)) :: (I, .raw o) :: (env.locals, .ns loc) :: R) s' →
        wpAny (model C.prog C.w) A (cTests ifs (compEnvC scope cl Cc env)) (fun ok s₃ => if ok = true then wpAny (model C.prog C.w) A (eval elt (compEnvC scope cl Cc env)) (fun y s₄ => ∃ pv, VR s₄.heap pv y ∧ acc (i + 1) = acc i ++ [pv] ∧
            St C s₂.heap Cc [(x, item i)] ((D, .list (acc i)) :: (I, .raw o) :: (env.locals, .ns loc) :: R) s₄) (fun _ _ => False) s₃
          else acc (i + 1) = acc i ∧ St C s₂.heap Cc [(x, item i)] ((D, .list (acc i)) :: (I, .raw o) :: (env.locals, .ns loc) :: R) s₃) (fun _ _ => False) s'))
    (e8 : (∀ D s', St C h₀ env.locals ((y, .ref D) :: loc) ((D, .list (acc n)) :: R) s' → Q .next s')) : AsgCompK C A env x y ifs elt scope cl Q it s₂

/-- y = [elt for x in iter if ..] -/
theorem r_asgcomp {elt iter : Expr} {x y : Str} {px py : Pos} {ifs : List Expr} {scope : Scope} {cl : List (Str × Addr)} {pos spos : Pos} {Q : Flow → Shared → Prop}
    (hsw : swapsWith (.ListComp elt [⟨.Name x px, iter, ifs, 0⟩] scope pos) (some (.Name y py)) spos.line env = pure true)
    (hclos : closureFor scope env = pure cl) (hcell : ∀ y ∈ scope.names, y.2 ≠ .cell) (hkind : scope.kind = .function)
    (hnames : ∀ y ∈ scope.names, y.2 = .local → scope.names.lookup y.1 = some .local) (hx : scope.names.lookup x = some .local)
    (hk : env.scope.kind = .function) (hy : env.kindOf y = some .local)
    (h : wpAny (model C.prog C.w) A (eval iter env) (fun xv s₁ => wpAny (model C.prog C.w) A (pyIter xv) (AsgCompK C A env x y ifs elt scope cl Q) E s₁) E s)
    (hs : ∀ x, foldedSetIterable iter env x = pure x := by intro _; rfl) :
    wpAny (model C.prog C.w) A (exec (.Assign [.Name y py] (.ListComp elt [⟨.Name x px, iter, ifs, 0⟩] scope pos) spos) env) Q E s := by
  rw [exec_Assign_Name_used _ _ _ _ hsw]
  refine wpAny_bind (wpAny_standAt (wpAny_bind ?_))
  show wpAny _ A (do let _ ← comprehension (.ListComp elt [⟨.Name x px, iter, ifs, 0⟩] scope pos) scope env _ (newList []) false (eval iter env) (some (assign (.Name y py) env))) _ _ s
  refine wpAny_bind (wpAny_mono (wpAny_comprehension_free (use := some (assign (.Name y py) env)) (Q := fun _ s' => Q .next s') rfl hs hclos hkind hnames
    (wpAny_mono h (fun xv s₁ h₁ => wpAny_mono h₁ (fun it s₂ h₂ => ?_) fun _ _ e => e) fun _ _ e => e)) (fun _ s' hq => wpAny_pure (wpAny_pure hq)) fun _ _ e => e)
  obtain ⟨I, n, item, o₀, K, h₀, loc, R, acc, rfl, S, W, hK, hn, ha0, hal, turn, hQ⟩ := h₂
  refine comp_core (RR := fun acc C' => compPost (model C.prog C.w) A E (some (assign (.Name y py) env)) (fun _ s' => Q .next s') acc C') S W hK hn acc ha0 hal hcell hkind hx turn fun Cc D locc s' S' => ?_
  show wpAny _ A (assign (.Name y py) env (.ref D)) _ _ _
  refine wpAny_assign_Name (stloc (p := .ref D) S' rfl (fun s₃ S₃ => ?_) hk hy)
  obtain ⟨m, hm⟩ := Ns_of (S₃.ok _ (List.mem_cons_self ..))
  exact ⟨m, hm, fun h' hs' => hQ D _ (S₃.lose (t := s₃.toks) hs'.extBut)⟩
theorem tests_nil {env : Env} {Q : Bool → Shared → Prop} (h : Q true s) : wpAny (model C.prog C.w) A (cTests [] env) Q E s := wpAny_tests_nil h
theorem tests_one {env : Env} {c : Expr} {Q : Bool → Shared → Prop} (h : wpAny (model C.prog C.w) A (PySem.isTrue c env (eval c env)) Q E s) : wpAny (model C.prog C.w) A (cTests [c] env) Q E s := wpAny_tests_one h
end
end Mine

namespace Mine

open PySem PySem.W PyProof.Rows PySem.Calls

/-! ### dicts by texts -/
noncomputable def dget {K : Type} [DecidableEq K] (l : List (K × PV)) (k : K) : Option PV := (l.find? fun kv => kv.1 = k).map (·.2)
noncomputable def dset {K : Type} [DecidableEq K] (l : List (K × PV)) (k : K) (v : PV) : List (K × PV) :=
  if l.any (fun kv => kv.1 = k) then l.map (fun kv => if kv.1 = k then (kv.1, v) else kv) else l ++ [(k, v)]
theorem KVR.at {h : Heap} : ∀ {l : List (Str × PV)} {kvs : List (Str × Value)}, KVR h l kvs → ∀ k, (dget l k = none ∧ valueAt kvs k = none) ∨ ∃ p v, dget l k = some p ∧ valueAt kvs k = some v ∧ VR h p v
  | [], [], _, k => .inl ⟨rfl, rfl⟩
  | (k1, p) :: l, (k2, v) :: kvs, ⟨e, a, b⟩, k => by
    cases e
    by_cases hk : k1 = k
    · exact .inr ⟨p, v, by simp [dget, List.find?_cons, hk], by simp [valueAt, List.find?_cons, hk], a⟩
    · have := KVR.at b k
      simpa [dget, valueAt, List.find?_cons, hk] using this
theorem KVR.any {h : Heap} (f : Str → Bool) : ∀ {l : List (Str × PV)} {kvs : List (Str × Value)}, KVR h l kvs → (l.any fun kv => f kv.1) = kvs.any fun kv => f kv.1
  | [], [], _ => rfl
  | (k1, p) :: l, (k2, v) :: kvs, ⟨e, a, b⟩ => by
    cases e
    simp [KVR.any f b]
theorem KVR.mapset {h : Heap} {k : Str} {p : PV} {v : Value} (r : VR h p v) : ∀ {l : List (Str × PV)} {kvs : List (Str × Value)}, KVR h l kvs → KVR h (l.map fun kv => if kv.1 = k then (kv.1, p) else kv) (kvs.map fun kv => if kv.1 = k then (kv.1, v) else kv)
  | [], [], _ => trivial
  | (k1, q) :: l, (k2, w) :: kvs, ⟨e, a, b⟩ => by
    cases e
    simp only [List.map_cons]
    by_cases hk : k1 = k
    · rw [if_pos hk, if_pos hk]; exact ⟨rfl, r, KVR.mapset r b⟩
    · rw [if_neg hk, if_neg hk]; exact ⟨rfl, a, KVR.mapset r b⟩
theorem KVR.append {h : Heap} : ∀ {l m : List (Str × PV)} {kvs ws : List (Str × Value)}, KVR h l kvs → KVR h m ws → KVR h (l ++ m) (kvs ++ ws)
  | [], _, [], _, _, y => y
  | _ :: _, _, _ :: _, _, ⟨e, a, b⟩, y => ⟨e, a, b.append y⟩
theorem KVR.set {h : Heap} {k : Str} {p : PV} {v : Value} {l : List (Str × PV)} {kvs : List (Str × Value)} (x : KVR h l kvs) (r : VR h p v) : KVR h (dset l k p) (stored kvs k v) := by
  unfold dset stored
  have := x.any (fun y => decide (y = k))
  rw [this]
  split
  · exact x.mapset r
  · exact x.append ⟨rfl, r, trivial⟩

section
variable {C : Cfg} {h₀ : Heap} {loc : List (Str × PV)} {R : List (Addr × AO)} {s : Shared} {A : Around} {E : Value → Shared → Prop} {env : Env} {mg mb : Str → Option Value} {L : Addr}
theorem St.notSys (hsys : ∃ o, C.top.get? mainGlobals = some o) (S : St C h₀ L loc R s) {a : Addr} {x : AO} (hm : (a, x) ∈ R) : (a == sysModules) = false := by
  exact beq_eq_false_iff_ne.mpr (Nat.ne_of_gt (S.off _ hm).2)
theorem strKey (prog : Program) (w : World) (x : Str) (t : Tok) : (strKind prog w).is x (.str x t) = true := by
  show Value.isStrOf x (.str x t) = true
  simp [Value.isStrOf]
theorem r_in_dict {a : Addr} {x : Str} {t : Tok} {l : List (Str × PV)} {Q : Value → Shared → Prop} (hsys : ∃ o, C.top.get? mainGlobals = some o) (S : St C h₀ L loc R s) {ax : AO} (hm : (a, ax) ∈ R) (ho : OR C s.heap a (.dict l))
    (h : ∀ s', St C h₀ L loc R s' → Q (.bool (dget l x).isSome) s') : wpAny (model C.prog C.w) A (compareOp .In (.str x t) (.ref a)) Q E s := by
  obtain ⟨kvs, hd, hr⟩ := ho
  refine wpAny_in_of (knd := strKind C.prog C.w) (k := x) (strKey _ _ _ _) (S.notSys hsys hm) hd.mapOf ?_
  have e : (valueAt kvs x).isSome = (dget l x).isSome := by
    rcases hr.at x with ⟨e1, e2⟩ | ⟨p, v, e1, e2, _⟩
    · rw [e1, e2]; rfl
    · rw [e1, e2]; rfl
  rw [e]; exact h _ (S.tok _)
theorem r_notin_dict {a : Addr} {x : Str} {t : Tok} {l : List (Str × PV)} {Q : Value → Shared → Prop} (hsys : ∃ o, C.top.get? mainGlobals = some o) (S : St C h₀ L loc R s) {ax : AO} (hm : (a, ax) ∈ R) (ho : OR C s.heap a (.dict l))
    (h : ∀ s', St C h₀ L loc R s' → Q (.bool (!(dget l x).isSome)) s') : wpAny (model C.prog C.w) A (compareOp .NotIn (.str x t) (.ref a)) Q E s := by
  obtain ⟨kvs, hd, hr⟩ := ho
  refine wpAny_notIn_of (knd := strKind C.prog C.w) (k := x) (strKey _ _ _ _) (S.notSys hsys hm) hd.mapOf ?_
  have e : (valueAt kvs x).isSome = (dget l x).isSome := by
    rcases hr.at x with ⟨e1, e2⟩ | ⟨p, v, e1, e2, _⟩
    · rw [e1, e2]; rfl
    · rw [e1, e2]; rfl
  rw [e]; exact h _ (S.tok _)
theorem item_d {a : Addr} {x : Str} {t : Tok} {l : List (Str × PV)} {p : PV} {Q : Value → Shared → Prop} (S : St C h₀ L loc R s) (ho : OR C s.heap a (.dict l)) (hp : dget l x = some p)
    (h : ∀ v s', VR s'.heap p v → St C h₀ L loc R s' → Q v s') : ItemOn (model C.prog C.w) A E (.ref a) (.str x t) Q s := by
  obtain ⟨kvs, hd, hr⟩ := ho
  rcases hr.at x with ⟨e1, e2⟩ | ⟨p', v, e1, e2, rv⟩
  · rw [hp] at e1; cases e1
  · rw [hp] at e1; cases e1
    exact ⟨"dict", "dict.__getitem__", F.slot_dict_getitem.lookup, hd.typeIs, wpAny_getItem_of (knd := strKind C.prog C.w) (k := x) (strKey _ _ _ _) hd.mapOf e2 (h v _ rv (S.tok _))⟩
theorem r_setitem {a : Addr} {x : Str} {t : Tok} {v : Value} {l : List (Str × PV)} {p : PV} {Q : Unit → Shared → Prop} (S : St C h₀ L loc R s) (i : Nat) (ei : R[i]? = some (a, .dict l)) (hv : VR s.heap p v) (hz : l.length ≤ 1000000)
    (h : ∀ s', St C h₀ L loc (R.set i (a, .dict (dset l x p))) s' → Q () s') : wpAny (model C.prog C.w) A (setItem (.ref a) (.str x t) v) Q E s := by
  obtain ⟨kvs, hd, hr⟩ := S.getOK (List.mem_of_getElem? ei)
  refine wpAny_setItem_pairs (knd := strKind C.prog C.w) (k := x) (strKey _ _ _ _) hd (fun h' hd' hs => ?_) (by rw [hr.length, sizeT]; lia)
  exact h _ (S.upd (t := s.toks + 1) i ei hs.extBut fun k => ⟨_, hd', (hr.tk k).set (hv.tk k)⟩)

/-! ### slices told from behind -/
theorem idx_neg (i j : Int) (n : Nat) (h : j < 0) : Builtin.Str.strSliceIndices (some i) (some j) 1 n = Builtin.Str.strSliceIndices (some i) (some (max 0 (j + n))) 1 n := by
  unfold Builtin.Str.strSliceIndices
  simp only [show (1 : Int) > 0 by decide, if_true]
  congr 1
  rw [if_pos h, if_neg (by lia)]
  lia
theorem slice_both_neg {l : T} {i k : Nat} (h : i + k ≤ l.length) (hk : 0 < k) : Txt.slice (toS l) (some (i : Int)) (some (-(k : Int))) = toS ((l.drop i).take (l.length - k - i)) := by
  have e : Txt.slice (toS l) (some (i : Int)) (some (-(k : Int))) = Txt.slice (toS l) (some (i : Int)) (some ((l.length - k : Nat) : Int)) := by
    show StrLaws.sliceText _ _ _ = StrLaws.sliceText _ _ _
    unfold StrLaws.sliceText
    rw [idx_neg _ _ _ (by lia), toS_length, show max 0 (-(k : Int) + (l.length : Int)) = ((l.length - k : Nat) : Int) by lia]
  rw [e]
  have := beq_iff_eq.mp (slice_closesL (x := toS l) (i := i) (j := (l.length - k : Nat)) (by lia) (by lia) (by rw [toS_length]; lia))
  rw [this]
  rw [toS_cps, Int.toNat_natCast, show (((l.length - k : Nat) : Int) - (i : Int)).toNat = l.length - k - i by lia]; rfl
theorem slice_tail {l : T} {k : Nat} (h : k ≤ l.length) (hk : 0 < k) : Txt.slice (toS l) (some (-(k : Int))) none = toS (l.drop (l.length - k)) := by
  rw [slice_from_neg (by lia), toS_length]
  rw [show max 0 ((l.length : Int) + -(k : Int)) = ((l.length - k : Nat) : Int) by lia]
  exact slice_drop l _
inductive BehindK (C : Cfg) (l : T) (Q : Value → Shared → Prop) (i : Value) (s₂ : Shared) : Prop
  | mk (n : Nat) (u : Tok) (h₀ : Heap) (L : Addr) (loc : List (Str × PV)) (R : List (Addr × AO))
    (e0 : i = .int (-(n : Int)) u)
    (e1 : 0 < n)
    (e2 : n ≤ l.length)
    (e3 : St C h₀ L loc R s₂)
    (e4 : ∀ t' s', St C h₀ L loc R s' → Q (.str (toS (l.drop (l.length - n))) t') s') : BehindK C l Q i s₂

inductive BehindO (C : Cfg) (A : Around) (env : Env) (lo : Expr) (Q : Value → Shared → Prop) (E : Value → Shared → Prop) (o : Value) (s₁ : Shared) : Prop
  | mk (l : T) (t : Tok)
    (e0 : o = .str (toS l) t)
    (e1 : l.length ≤ 16000000)
    (e2 : wpAny (model C.prog C.w) A (eval lo env) (BehindK C l Q) E s₁) : BehindO C A env lo Q E o s₁

/-- x[-n:] -/
theorem r_behind {value lo : Expr} {p pos : Pos} {Q : Value → Shared → Prop}
    (h : wpAny (model C.prog C.w) A (eval value env) (BehindO C A env lo Q E) E s)
    (ht : ∀ o r, letTemporaryGo value o r = pure () := by intro _ _; rfl) :
    wpAny (model C.prog C.w) A (eval (.Subscript value (.Slice (some lo) none none p) pos) env) Q E s := by
  refine Subscript_Slice (wpAny_mono h (fun o s₁ q => ?_) fun _ _ q => q) ht
  obtain ⟨l, t, rfl, hz, q⟩ := q
  refine wpAny_Slice (evalPart_some_step (wpAny_mono q (fun i s₂ q => ?_) fun _ _ q => q))
  obtain ⟨n, u, h₀, L, loc, R, rfl, h1, h2, S₂, q⟩ := q
  refine evalPart_none_step (evalPart_none_step ?_)
  refine SBG.sliceItem_sn stKept S₂ (fun s' t' S' => ?_) (by rw [toS_length, sizeT]; lia)
  rw [slice_tail h2 h1]
  exact q _ _ S'
inductive InnerJ (C : Cfg) (l : T) (m : Nat) (Q : Value → Shared → Prop) (j : Value) (s₃ : Shared) : Prop
  | mk (n : Nat) (u : Tok) (h₀ : Heap) (L : Addr) (loc : List (Str × PV)) (R : List (Addr × AO))
    (e0 : j = .int (-(n : Int)) u)
    (e1 : 0 < n)
    (e2 : m + n ≤ l.length)
    (e3 : St C h₀ L loc R s₃)
    (e4 : ∀ t' s', St C h₀ L loc R s' → Q (.str (toS ((l.drop m).take (l.length - n - m))) t') s') : InnerJ C l m Q j s₃

inductive InnerK (C : Cfg) (A : Around) (env : Env) (hi : Expr) (l : T) (Q : Value → Shared → Prop) (E : Value → Shared → Prop) (i : Value) (s₂ : Shared) : Prop
  | mk (m : Nat) (u : Tok)
    (e0 : i = .int (m : Int) u)
    (e1 : wpAny (model C.prog C.w) A (eval hi env) (InnerJ C l m Q) E s₂) : InnerK C A env hi l Q E i s₂

inductive InnerO (C : Cfg) (A : Around) (env : Env) (lo : Expr) (hi : Expr) (Q : Value → Shared → Prop) (E : Value → Shared → Prop) (o : Value) (s₁ : Shared) : Prop
  | mk (l : T) (t : Tok)
    (e0 : o = .str (toS l) t)
    (e1 : l.length ≤ 16000000)
    (e2 : wpAny (model C.prog C.w) A (eval lo env) (InnerK C A env hi l Q E) E s₁) : InnerO C A env lo hi Q E o s₁

/-- x[i:-n] -/
theorem r_inner {value lo hi : Expr} {p pos : Pos} {Q : Value → Shared → Prop}
    (h : wpAny (model C.prog C.w) A (eval value env) (InnerO C A env lo hi Q E) E s)
    (ht : ∀ o r, letTemporaryGo value o r = pure () := by intro _ _; rfl) :
    wpAny (model C.prog C.w) A (eval (.Subscript value (.Slice (some lo) (some hi) none p) pos) env) Q E s := by
  refine Subscript_Slice (wpAny_mono h (fun o s₁ q => ?_) fun _ _ q => q) ht
  obtain ⟨l, t, rfl, hz, q⟩ := q
  refine wpAny_Slice (evalPart_some_step (wpAny_mono q (fun i s₂ q => ?_) fun _ _ q => q))
  obtain ⟨m, u, rfl, q⟩ := q
  refine evalPart_some_step (wpAny_mono q (fun i s₂ q => ?_) fun _ _ q => q)
  obtain ⟨n, u', h₀, L, loc, R, rfl, h1, h2, S₃, q⟩ := q
  refine evalPart_none_step ?_
  refine SBG.sliceItem_ss stKept S₃ (fun s' t' S' => ?_) (by rw [toS_length, sizeT]; lia)
  rw [slice_both_neg h2 h1]
  exact q _ _ S'
end
end Mine

namespace Mine
open PySem PySem.W PyProof.Rows PySem.Calls

/-! ### law_standsu_ -/
noncomputable def headT (behind : Bool) : T := if behind then [40, 63, 115, 58, 46, 42] else [40, 63, 115, 58]
noncomputable def tailT (behind : Bool) : T := if behind then [41, 92, 90] else [46, 42, 41, 92, 90]
theorem written_eq (x : T) (behind : Bool) : writtenT x behind = headT behind ++ x ++ tailT behind := by
  cases behind <;> simp [writtenT, headT, tailT]
noncomputable def standsT (p w : T) (behind : Bool) : Bool := if behind then decide (w.drop (w.length - p.length) = p) else decide (w.take p.length = p)

theorem plainRun_append : ∀ (l m sg st : T), plainRun (l ++ m) sg st = (plainRun l sg st).bind fun p => plainRun m p.1 p.2
  | [], m, sg, st => rfl
  | c :: l, m, sg, st => by
    simp only [List.cons_append, plainRun]
    cases plainStep c sg st with
    | none => rfl
    | some p => exact plainRun_append l m p.1 p.2
theorem plain_one (c : Nat) (sg : T) : plainRun (E1 c) sg [] = some (sg ++ [c], []) := by
  unfold E1
  by_cases h : c ∈ [42, 63, 91]
  · rw [if_pos h]
    by_cases h91 : c = 91
    · subst h91; rw [if_pos rfl]; rfl
    · rw [if_neg h91]
      simp at h
      rcases h with rfl | rfl | rfl
      · rfl
      · rfl
      · exact absurd rfl h91
  · rw [if_neg h]
    unfold escT
    by_cases hs : c ∈ special
    · rw [if_pos hs]
      simp [plainRun, plainStep]
    · rw [if_neg hs]
      have h1 : ¬ c ∈ [92, 91] := fun hc => hs ((by decide : ∀ x ∈ [92, 91], x ∈ special) c hc)
      have h2 : ¬ c ∈ [46, 94, 36, 42, 43, 63, 123, 125, 40, 41, 124] := fun hc => hs ((by decide : ∀ x ∈ [46, 94, 36, 42, 43, 63, 123, 125, 40, 41, 124], x ∈ special) c hc)
      simp only [plainRun, plainStep]
      rw [if_neg (by simp), if_neg (by simp only [true_and]; rintro (h | ⟨h, _⟩); exact h1 h; cases h), if_neg (by simp only [true_and]; rintro (h | ⟨h, _⟩); exact h2 h; cases h)]
      simp
theorem plain_part (part : T) : plainT (part.flatMap E1) = some part := by
  have : ∀ (l sg : T), plainRun (l.flatMap E1) sg [] = some (sg ++ l, []) := fun l => by
    induction l with
    | nil => intro sg; simp [plainRun]
    | cons c r ih =>
      intro sg
      rw [List.flatMap_cons, plainRun_append, plain_one, Option.bind_some, ih]
      simp
  unfold plainT
  rw [this]; simp

noncomputable def KOk (l : List (Str × PV)) : Prop := ∀ p : T, dget l (toS p) = none ∨ dget l (toS p) = some (.s (toS p))
theorem dget_map (l : List (Str × PV)) (k y : Str) (p : PV) : dget (l.map fun kv => if kv.1 = k then (kv.1, p) else kv) y = if y = k then (dget l y).map (fun _ => p) else dget l y := by
  induction l with
  | nil => simp [dget]
  | cons x r ih =>
    unfold dget at ih ⊢
    rw [List.map_cons, List.find?_cons, List.find?_cons]
    by_cases hx : x.1 = k
    · rw [if_pos hx]
      by_cases hy : y = k
      · subst hy; simp [hx]
      · have : ¬ x.1 = y := fun h => hy (h.symm.trans hx)
        simp only [this, decide_false]
        exact ih
    · rw [if_neg hx]
      by_cases hxy : x.1 = y
      · simp only [hxy, decide_true, Option.map_some]
        by_cases hy : y = k
        · exact absurd (hxy.trans hy) hx
        · rw [if_neg hy]
      · simp only [hxy, decide_false]
        exact ih
theorem dget_append (l m : List (Str × PV)) (y : Str) : dget (l ++ m) y = (dget l y).or (dget m y) := by
  unfold dget
  rw [List.find?_append]
  cases List.find? (fun kv => decide (kv.1 = y)) l <;> simp
theorem dget_none_of_any {l : List (Str × PV)} {k : Str} (h : (l.any fun kv => decide (kv.1 = k)) = false) : dget l k = none := by
  unfold dget
  rw [List.find?_eq_none.mpr]; rfl
  intro x hx
  have := (List.any_eq_false.mp h) x hx
  simpa using this
theorem dget_dset (l : List (Str × PV)) (k y : Str) (p : PV) : dget (dset l k p) y = if y = k then some p else dget l y := by
  unfold dset
  cases h : l.any fun kv => decide (kv.1 = k) with
  | true =>
    rw [if_pos rfl, dget_map]
    by_cases hy : y = k
    · subst hy
      rw [if_pos rfl, if_pos rfl]
      obtain ⟨x, hx, hk⟩ := List.any_eq_true.mp h
      have : (dget l y).isSome = true := by
        unfold dget
        rw [Option.isSome_map, List.find?_isSome]
        exact ⟨x, hx, hk⟩
      obtain ⟨q, hq⟩ := Option.isSome_iff_exists.mp this
      rw [hq]; rfl
    · rw [if_neg hy, if_neg hy]
  | false =>
    rw [if_neg Bool.false_ne_true, dget_append]
    by_cases hy : y = k
    · subst hy
      rw [if_pos rfl, dget_none_of_any h]
      simp [dget]
    · rw [if_neg hy]
      have : dget [(k, p)] y = none := by
        unfold dget
        simp [Ne.symm hy]
      rw [this, Option.or_none]
theorem dset_length (l : List (Str × PV)) (k : Str) (p : PV) : (dset l k p).length ≤ l.length + 1 := by
  unfold dset; split <;> simp
theorem dset_twice_length (l : List (Str × PV)) (k : Str) (p q : PV) : (dset (dset l k p) k q).length ≤ l.length + 1 := by
  have h : ((dset l k p).any fun kv => decide (kv.1 = k)) = true := by
    cases hh : (dset l k p).any fun kv => decide (kv.1 = k) with
    | true => rfl
    | false =>
      have := dget_none_of_any hh
      rw [dget_dset, if_pos rfl] at this; cases this
  have e : (dset (dset l k p) k q).length = (dset l k p).length := by
    rw [dset, if_pos h, List.length_map]
  rw [e]; exact dset_length l k p
theorem KOk.set {l : List (Str × PV)} (h : KOk l) (p : T) (v : PV) : KOk (dset (dset l (toS p) v) (toS p) (.s (toS p))) := fun q => by
  rw [dget_dset, dget_dset]
  by_cases hq : q = p
  · subst hq; rw [if_pos rfl]; exact .inr rfl
  · have : ¬ toS q = toS p := by rwa [toS_inj]
    rw [if_neg this, if_neg this]; exact h q
end Mine

namespace Mine

open PySem PySem.W PyProof.Rows PySem.Calls

/-- what the law's own parts reach -/
structure Lw (C : Cfg) (mg mb : Str → Option Value) (pl : Addr) : Prop extends Tr C mg mb pl where
  sys : ∃ o, C.top.get? mainGlobals = some o
  max : mg "max" = none ∧ mb "max" = some (.builtin "max")
  min : mg "min" = none ∧ mb "min" = some (.builtin "min")
  plain : ∃ a, mg "_law_plain" = some (.ref a) ∧ DefAt C a (theDef 64)
  stands : ∃ a, mg "_law_stands" = some (.ref a) ∧ DefAt C a (theDef 65)
  left : ∃ a, mg "_law_left" = some (.ref a) ∧ DefAt C a (theDef 66)

section
variable {C : Cfg} {h₀ : Heap} {L : Addr} {loc : List (Str × PV)} {R : List (Addr × AO)} {s : Shared} {A : Around} {E : Value → Shared → Prop} {mg mb : Str → Option Value} {a pl ka : Addr} {k : Nat}

noncomputable abbrev stLoc (part whole : T) (behind : Bool) (ka : Addr) : List (Str × PV) := [("part", .s (toS part)), ("whole", .s (toS whole)), ("behind", .b behind), ("known", .ref ka)]

theorem take_map_succ {α β : Type} (f : α → β) (l : List α) (i : Nat) (d : α) (h : i < l.length) : (l.take (i + 1)).map f = (l.take i).map f ++ [f (l.getD i d)] := by
  rw [List.take_succ_eq_append_getElem h, List.map_append, List.getD_eq_getElem?_getD, List.getElem?_eq_getElem h]; rfl

set_option maxHeartbeats 2000000 in
theorem stands_spec {part whole : T} {behind : Bool} {l : List (Str × PV)} {i : Nat} {t u : Tok} {Q : Value → Shared → Prop} (Z : Lw C mg mb pl) (D : DefAt C a (theDef 65)) (Rm : Room A (k + 4)) (S : St C h₀ L loc R s) (hpl : (pl, .tab) ∈ R)
    (ei : R[i]? = some (ka, .dict l)) (hK : KOk l) (hl : l.length ≤ 100000) (hp : part ≠ []) (h128 : ∀ c ∈ part, c < 128) (hz : part.length ≤ 1000) (hw : whole.length ≤ 1000)
    (h : ∀ l' s', KOk l' → l'.length ≤ l.length + 1 → St C h₀ L loc (R.set i (ka, .dict l')) s' → Q (.bool (standsT part whole behind)) s') :
    wpAny (model C.prog C.w) A (call (.ref a) [.str (toS part) t, .str (toS whole) u, .bool behind, .ref ka]) Q E s := by
  have B := Z.base
  obtain ⟨ta, hta, DT⟩ := Z.tr
  obtain ⟨pa, hpa, DP⟩ := Z.plain
  have hfm : ∀ x : T, (x.flatMap E1).length ≤ 4 * x.length := fun x => by
    induction x with
    | nil => simp
    | cons c r ih =>
      have h1 : (E1 c).length ≤ 4 := by
        unfold E1 escT
        split
        · split <;> simp
        · split <;> simp
      simp only [List.flatMap_cons, List.length_append, List.length_cons]
      lia
  have hfq : ∀ x : T, (x.map quote1).flatten.length ≤ 3 * x.length := fun x => by
    induction x with
    | nil => simp
    | cons c r ih =>
      have h1 := quote1_len c
      simp only [List.map_cons, List.flatten_cons, List.length_append, List.length_cons]
      lia
  have hwl : (writtenT (part.flatMap E1) behind).length = 9 + (part.flatMap E1).length := by
    rw [written_eq]; cases behind <;> simp [headT, tailT] <;> lia
  have hfp := hfm part
  have hfqp := hfq part
  have hhl : (headT behind).length + (tailT behind).length = 9 := by cases behind <;> rfl
  have htl : 0 < (tailT behind).length := by cases behind <;> simp [tailT]
  refine call_def ["part", "whole", "behind", "known"] (ps := [.s (toS part), .s (toS whole), .b behind, .ref ka]) B D Rm S ⟨.str _ _, .str _ _, .bool _, rfl, trivial⟩ (fun fd e1 e2 e3 => ?_) rfl (by decide +kernel) (fun L' q cd s₁ _ Rm' S₁ => ?_)
  · obtain ⟨n, qn, ps, bd, sc, gl, cl, df, kd⟩ := fd
    dsimp only at e1 e2 e3
    subst e1 e2 e3
    rfl
  · replace S₁ := S₁.weaken (loc' := stLoc part whole behind ka) ⟨by rfl, by rfl, by rfl, by rfl, trivial⟩
    change St C h₀ L' _ ((L, .ns loc) :: R) s₁ at S₁
    let en : Env := fnEnv (theDef 65) L' q a cd
    let A' : Around := A.deeper en
    let l₀ : List (Str × PV) := stLoc part whole behind ka
    let X : List (Addr × AO) := (L, .ns loc) :: R
    change wpAny (model C.prog C.w) A' (execs (bodyOf (theDef 65)) en) _ _ _
    change St C h₀ L' l₀ X s₁ at S₁
    have ei1 : X[i + 1]? = some (ka, .dict l) := ei
    have hkm := List.mem_of_getElem? ei1
    -- the known texts
    refine wpAny_execs_cons (wpAny_mono (Q := fun f s' => f = .next ∧ ∃ l', KOk l' ∧ dget l' (toS part) = some (.s (toS part)) ∧ l'.length ≤ l.length + 1 ∧ St C h₀ L' (l₀) ((L, .ns loc) :: R.set i (ka, .dict l')) s') ?_ (fun f s' hq => ?_) fun _ _ q => q)
    · refine cutQ fun Q₁ hQ₁ => ?_
      refine wpAny_If (wpAny_isTrue_Compare1 (nm_s S₁ rfl fun t1 => nm_r S₁ rfl (r_notin_dict Z.sys S₁ hkm (S₁.getOK hkm) fun s₂ S₂ => wpAny_truthy_bool ?_)) (by rfl))
      cases hd : dget l (toS part) with
      | some pv =>
        refine ifN (by simp) ?_
        refine wpAny_execs_nil (hQ₁ _ _ ⟨rfl, l, hK, ?_, by lia, ?_⟩)
        · rcases hK part with e | e
          · rw [hd] at e; cases e
          · exact e
        · rw [set_self ei]; exact S₂
      | none =>
        refine ifY (by simp) ?_
        -- quoted
        refine wpAny_execs_cons (wpAny_Assign_Name (r_joinCall ?_) (by rfl))
        refine c_t [] S₂ fun t2 s₃ S₃ => ⟨typeIs_str _ _ _, (fun _ e => nomatch e), callWith_bi (wpAny_items_cons ?_)⟩
        refine r_listcomp (cl := []) (by rfl) (by decide) rfl (by decide) (by rfl) (nm_s S₃ rfl fun t3 => wk_str Rm'.handled S₃ fun I o₁ s₄ S₄ W => ?_)
        refine ⟨I, part.length, _, o₁, _, h₀, _, _, fun j => (part.take j).map fun c => sP (quote1 c), rfl, S₄, W, (fun _ q => nomatch q), by lia, rfl, fun j hj => by simp; lia, fun j Cc D' o s₅ hj S₅ => ?_, fun D' s₅ S₅ => ?_⟩
        · refine tests_nil ?_
          refine ifY rfl ?_
          refine wpAny_IfExp (wpAny_isTrue_Compare1 (nm_s S₅ (by rfl) fun t4 => c_t [42, 63, 91] S₅ fun t5 s₆ S₆ => r_in_str (wpAny_truthy_bool ?_)) (by rfl))
          refine split_dec (fun h1 => ?_) (fun h1 => ?_)
          · refine wpAny_BinOp (wpAny_BinOp (c_t [91] S₆ fun t6 s₇ S₇ => nm_s S₇ (by rfl) fun t7 => r_cat S₇ (by simp) fun t8 s₈ S₈ => c_t [93] S₈ fun t9 s₉ S₉ => r_cat S₉ (by simp) fun t10 s₁₀ S₁₀ => ?_))
            refine ⟨sP [91, part.getD j 0, 93], .str _ _, ?_, S₁₀⟩
            show (part.take (j + 1)).map (fun c => sP (quote1 c)) = _
            rw [take_map_succ _ _ _ 0 hj, quote1, if_pos h1]
          · refine nm_s S₆ (by rfl) fun t6 => ⟨sP [part.getD j 0], .str _ _, ?_, S₆⟩
            show (part.take (j + 1)).map (fun c => sP (quote1 c)) = _
            rw [take_map_succ _ _ _ 0 hj, quote1, if_neg h1]
        · refine wpAny_items_nil ?_
          try dsimp only at S₅
          rw [List.take_length] at S₅
          refine call_join (P := part.map quote1) S₅ (by rw [List.map_map]; exact List.mem_cons_self ..) (by rw [List.length_map]; lia) fun t4 s₆ S₆ => ?_
          refine stloc (p := .s (toS (part.map quote1).flatten)) S₆ (.str _ _) fun s₇ S₇ => ?_
          replace S₇ := S₇.drop
          let lq : List (Str × PV) := ("quoted", .s (toS (part.map quote1).flatten)) :: l₀
          replace S₇ := S₇.weaken (loc' := lq) ⟨by rfl, by rfl, by rfl, by rfl, by rfl, trivial⟩
          -- written
          refine wpAny_execs_cons (wpAny_Assign_Name (r_call B S₇ DT hta (wpAny_items_cons (wpAny_mono (Q := fun v s' => ∃ t, v = .str (toS (patT part behind)) t ∧ St C h₀ L' lq X s') ?_ (fun v s' hq => ?_) fun _ _ q => q))) (by rfl))
          · refine wpAny_IfExp (wpAny_isTrue_value (nm_b S₇ rfl (wpAny_truthy_bool ?_)))
            have hfl : (part.map quote1).flatten = part.flatMap quote1 := List.flatMap_def.symm
            cases behind with
            | true =>
              refine ifY rfl ?_
              refine wpAny_BinOp (c_t [42] S₇ fun t5 s₈ S₈ => nm_s S₈ rfl fun t6 => r_cat S₈ (by simp only [List.length_cons, List.length_nil]; lia) fun t7 s₉ S₉ => ⟨t7, by rw [hfl]; rfl, S₉⟩)
            | false =>
              refine ifN Bool.false_ne_true ?_
              refine wpAny_BinOp (nm_s S₇ rfl fun t6 => c_t [42] S₇ fun t5 s₈ S₈ => r_cat S₈ (by simp only [List.length_cons, List.length_nil]; lia) fun t7 s₉ S₉ => ⟨t7, by rw [hfl]; rfl, S₉⟩)
          obtain ⟨t5, rfl, S₈⟩ := hq
          refine wpAny_items_nil ⟨S₈.top, translate_spec Z.toTr DT Rm' S₈ (List.mem_cons_of_mem _ hpl) hp h128 (by lia) fun t6 s₉ S₉ => ?_⟩
          refine stloc (p := .s (toS (writtenT (part.flatMap E1) behind))) S₉ (.str _ _) fun s₁₀ S₁₀ => ?_
          let lw : List (Str × PV) := ("written", .s (toS (writtenT (part.flatMap E1) behind))) :: l₀
          replace S₁₀ := S₁₀.weaken (loc' := lw) ⟨by rfl, by rfl, by rfl, by rfl, by rfl, trivial⟩
          -- head, tail
          refine wpAny_execs_cons (r_unpack S₁₀ Rm'.handled (wpAny_mono (Q := fun v s' => ∃ b t1 t2, v = .ref b ∧ s'.heap.IsTuple b #[.str (toS (headT behind)) t1, .str (toS (tailT behind)) t2] ∧
            St C h₀ L' lw X s') ?_ (fun v s' hq => ?_) fun _ _ q => q))
          · refine wpAny_IfExp (wpAny_isTrue_value (nm_b S₁₀ rfl (wpAny_truthy_bool ?_)))
            cases behind with
            | true =>
              refine ifY rfl ?_
              exact wpAny_Tuple (wpAny_items_cons (c_t [40, 63, 115, 58, 46, 42] S₁₀ fun t7 s₁₁ S₁₁ => wpAny_items_cons (c_t [41, 92, 90] S₁₁ fun t8 s₁₂ S₁₂ => wpAny_items_nil ⟨sz2, _, t7, t8, rfl, ⟨_, Heap.get?_push_size _ rfl, rfl, _, rfl⟩, S₁₂.push _⟩)))
            | false =>
              refine ifN Bool.false_ne_true ?_
              exact wpAny_Tuple (wpAny_items_cons (c_t [40, 63, 115, 58] S₁₀ fun t7 s₁₁ S₁₁ => wpAny_items_cons (c_t [46, 42, 41, 92, 90] S₁₁ fun t8 s₁₂ S₁₂ => wpAny_items_nil ⟨sz2, _, t7, t8, rfl, ⟨_, Heap.get?_push_size _ rfl, rfl, _, rfl⟩, S₁₂.push _⟩)))
          obtain ⟨b, t7, t8, rfl, htup, S₁₁⟩ := hq
          refine ⟨b, _, L', _, _, rfl, htup, by rfl, S₁₁, fun s₁₂ S₁₂ _ => ?_⟩
          refine aio_cons (wpAny_assign_Name (stloc (p := .s (toS (headT behind))) S₁₂ (.str _ _) fun s₁₃ S₁₃ => aio_cons (wpAny_assign_Name (stloc (p := .s (toS (tailT behind))) S₁₃ (.str _ _) fun s₁₄ S₁₄ => aio_nil ?_))))
          -- known[part] = None
          refine wpAny_execs_cons (wpAny_Assign_Subscript (wpAny_Constant_none (nm_r S₁₄ rfl (nm_s S₁₄ rfl fun t9 => r_setitem (p := .n) S₁₄ (i + 1) ei1 .none (by lia) fun s₁₅ S₁₅ => ?_))))
          have ei2 : (X.set (i + 1) (ka, .dict (dset l (toS part) .n)))[i + 1]? = some (ka, .dict (dset l (toS part) .n)) := by
            rw [List.getElem?_set]
            have : i + 1 < X.length := (List.getElem?_eq_some_iff.mp ei1).1
            simp only [if_true, this]
          have hW1 : (writtenT (part.flatMap E1) behind).take (headT behind).length = headT behind := by
            rw [written_eq, List.append_assoc, List.take_left']
            rfl
          have hW2 : (writtenT (part.flatMap E1) behind).drop ((writtenT (part.flatMap E1) behind).length - (tailT behind).length) = tailT behind := by
            rw [written_eq, List.drop_left']
            simp only [List.length_append]; lia
          have hW3 : ((writtenT (part.flatMap E1) behind).drop (headT behind).length).take ((writtenT (part.flatMap E1) behind).length - (tailT behind).length - (headT behind).length) = part.flatMap E1 := by
            rw [written_eq, List.append_assoc, List.drop_left' rfl, List.take_left']
            simp only [List.length_append]; lia
          refine wpAny_execs_cons (wpAny_If (wpAny_isTrue_BoolOp (wpAny_allTrue_And_cons (wpAny_isTrue_Compare1 (r_upto S₁₅ (nm_s S₁₅ rfl fun t10 => ⟨_, t10, rfl, by lia, ?_⟩)) (by rfl)))))
          refine r_bi B S₁₅ Z.len (wpAny_items_cons (nm_s S₁₅ rfl fun t11 => wpAny_items_nil (r_len_str S₁₅ (by lia) fun t12 s₁₆ S₁₆ => ⟨(headT behind).length, t12, rfl, S₁₆, fun t13 s₁₇ S₁₇ => nm_s S₁₇ rfl fun t14 => r_eq_str (wpAny_truthy_bool ?_)⟩)))
          rw [hW1, decide_eq_true rfl]
          refine wpAny_allTrue_And_cons (wpAny_isTrue_Compare1 (r_behind (nm_s S₁₇ rfl fun t15 => ⟨_, t15, rfl, by lia, ?_⟩)) (by rfl))
          refine wpAny_UnaryOp (r_bi B S₁₇ Z.len (wpAny_items_cons (nm_s S₁₇ rfl fun t16 => wpAny_items_nil (r_len_str S₁₇ (by lia) fun t17 s₁₈ S₁₈ => PyProof.Rows.neg_int ⟨(tailT behind).length, _, _, _, _, _, rfl, htl, by lia, S₁₈.tok _, fun t18 s₁₉ S₁₉ => nm_s S₁₉ rfl fun t19 => r_eq_str (wpAny_truthy_bool ?_)⟩))))
          rw [hW2, decide_eq_true rfl]
          refine wpAny_allTrue_And_nil ?_
          refine ifY rfl ?_
          -- known[part] = law_plainu_(..)
          refine wpAny_execs_cons (wpAny_Assign_Subscript (r_call B S₁₉ DP hpa (wpAny_items_cons (r_inner (nm_s S₁₉ rfl fun t20 => ⟨_, t20, rfl, by lia, ?_⟩)))))
          refine r_bi B S₁₉ Z.len (wpAny_items_cons (nm_s S₁₉ rfl fun t21 => wpAny_items_nil (r_len_str S₁₉ (by lia) fun t22 s₂₀ S₂₀ => ⟨(headT behind).length, t22, rfl, ?_⟩)))
          refine wpAny_UnaryOp (r_bi B S₂₀ Z.len (wpAny_items_cons (nm_s S₂₀ rfl fun t23 => wpAny_items_nil (r_len_str S₂₀ (by lia) fun t24 s₂₁ S₂₁ => PyProof.Rows.neg_int ⟨(tailT behind).length, _, _, _, _, _, rfl, htl, by lia, S₂₁.tok _, fun t25 s₂₂ S₂₂ => ?_⟩))))
          rw [hW3]
          refine wpAny_items_nil ⟨S₂₂.top, plain_spec B DP Rm' S₂₂ (by lia) fun v s₂₃ hv S₂₃ => ?_⟩
          rw [plain_part] at hv
          refine nm_r S₂₃ rfl (nm_s S₂₃ rfl fun t26 => r_setitem (p := .s (toS part)) S₂₃ (i + 1) ei2 (VR.tk S₂₃.tk hv) (by have := dset_length l (toS part) .n; lia) fun s₂₄ S₂₄ => ?_)
          repeat refine wpAny_execs_nil ?_
          refine hQ₁ _ _ ⟨rfl, dset (dset l (toS part) .n) (toS part) (.s (toS part)), hK.set part _, by rw [dget_dset, if_pos rfl], dset_twice_length _ _ _ _, ?_⟩
          rw [List.set_set] at S₂₄
          exact S₂₄.weaken ⟨by rfl, by rfl, by rfl, by rfl, trivial⟩
    obtain ⟨rfl, l', hK', hg, hl', S₂⟩ := hq
    -- signs = known[part]
    have ei3 : ((L, AO.ns loc) :: R.set i (ka, .dict l'))[i + 1]? = some (ka, .dict l') := by
      have : i < R.length := (List.getElem?_eq_some_iff.mp ei).1
      simp [List.getElem?_set, this]
    have hkm' := List.mem_of_getElem? ei3
    refine wpAny_execs_cons (wpAny_Assign_Name (Subscript_Name (nm_r S₂ rfl (nm_s S₂ rfl fun t1 => item_d S₂ (S₂.getOK hkm') hg fun v s₃ hv S₃ => ?_))) (by rfl))
    refine stloc (p := .s (toS part)) S₃ hv fun s₄ S₄ => ?_
    refine wpAny_execs_cons (wpAny_If (wpAny_isTrue_Compare1 (nm_s S₄ rfl fun t2 => wpAny_Constant_none (is_none (wpAny_truthy_bool ?_))) (by rfl)))
    refine ifN (by simp) ?_
    refine wpAny_execs_nil (wpAny_execs_cons (wpAny_Return_some (wpAny_IfExp (wpAny_isTrue_value (nm_b S₄ rfl (wpAny_truthy_bool ?_))))))
    have hret : ∀ s', St C h₀ L' (("signs", .s (toS part)) :: l₀) ((L, .ns loc) :: R.set i (ka, .dict l')) s' → Q (.bool (standsT part whole behind)) s' := fun s' S' => h l' s' hK' hl' (St.back (X := []) S')
    cases behind with
    | true =>
      refine ifY rfl ?_
      refine wpAny_Compare1 (r_from S₄ (nm_s S₄ rfl fun t3 => ⟨whole, t3, rfl, by lia, ?_⟩)) (by rfl)
      refine r_bi B S₄ Z.max (wpAny_items_cons (c_i S₄ fun t4 s₅ S₅ => wpAny_items_cons (wpAny_BinOp (r_bi B S₅ Z.len (wpAny_items_cons (nm_s S₅ rfl fun t5 => wpAny_items_nil (r_len_str S₅ (by lia) fun t6 s₆ S₆ =>
        r_bi B S₆ Z.len (wpAny_items_cons (nm_s S₆ rfl fun t7 => wpAny_items_nil (r_len_str S₆ (by lia) fun t8 s₇ S₇ => r_sub S₇ fun t9 s₈ S₈ => wpAny_items_nil ?_))))))))))
      refine max_two_ints Rm'.handled fun h' tk hk => ?_
      have S₉ := S₈.keeps (h' := h') (t := tk) hk
      have e : ∃ t, (if (whole.length : Int) - (part.length : Int) > 0 then Value.int ((whole.length : Int) - (part.length : Int)) t9 else Value.int 0 t4) = .int ((whole.length - part.length : Nat) : Int) t := by
        by_cases hh : (whole.length : Int) - (part.length : Int) > 0
        · rw [if_pos hh]; exact ⟨t9, by rw [Int.ofNat_sub (by lia)]⟩
        · rw [if_neg hh]; exact ⟨t4, by rw [show whole.length - part.length = 0 by lia]; rfl⟩
      obtain ⟨t10, e⟩ := e
      rw [e]
      refine ⟨whole.length - part.length, t10, rfl, S₉, fun t11 s₁₀ S₁₀ => nm_s S₁₀ rfl fun t12 => r_eq_str ?_⟩
      exact hret _ S₁₀
    | false =>
      refine ifN Bool.false_ne_true ?_
      refine wpAny_Compare1 (r_upto S₄ (nm_s S₄ rfl fun t3 => ⟨whole, t3, rfl, by lia, ?_⟩)) (by rfl)
      refine r_bi B S₄ Z.len (wpAny_items_cons (nm_s S₄ rfl fun t5 => wpAny_items_nil (r_len_str S₄ (by lia) fun t6 s₅ S₅ => ⟨part.length, t6, rfl, S₅, fun t7 s₆ S₆ => nm_s S₆ rfl fun t8 => r_eq_str ?_⟩)))
      exact hret _ S₆
end
end Mine

namespace Mine

open PySem PySem.W PyProof.Rows PySem.Calls

/-! ### tuples by order -/
noncomputable abbrev Row := Nat × T × T
noncomputable def rowPV (r : Row) : PV := .dat (.tuple [.int (r.1 : Int), .str (toS r.2.1), .str (toS r.2.2)])
noncomputable def rowLt (r q : Row) : Bool := if r.1 = q.1 then (if r.2.1 = q.2.1 then decide (r.2.2 < q.2.2) else decide (r.2.1 < q.2.1)) else decide (r.1 < q.1)
theorem slot_tuple_lt : Slot "tuple" (cmpInfo .Lt).2.1 "tuple.__lt__" :=
  .of (owner := "tuple") (n := "__lt__") (by rw [typeLookup_type, builtinLookup_eq_fast]; kernel_rfl) (by decide +kernel) (by decide +kernel) (by decide +kernel)
    (by first | exact .inl (by decide +kernel) | exact .inr (by decide +kernel)) (by rw [isSubtype_type]; kernel_rfl)
theorem entry_tuple_lt : entryFor table "tuple.__lt__" = some Builtin.«tuple.__lt__» := entryFor_of_tree (by kernel_rfl)
theorem args_tuple_lt (a b : Value) : argsOk "tuple.__lt__" ⟨[a, b], []⟩ := by unfold argsOk; kernel_rfl
theorem sub_tuple_tuple : isSubtype (.type "tuple") (.type "tuple") = pure true := by rw [isSubtype_type]; kernel_rfl

section
variable {prog : Program} {w : World} {A : Around} {E : Value → Shared → Prop} {s : Shared}
theorem rc_lt_int {a b : Int} {t u : Tok} {Q : Value → Shared → Prop} (h : Q (.bool (decide (a < b))) s) : wpAny (model prog w) A (richCompare .Lt (.int a t) (.int b u)) Q E s := PyProof.Rows.lt_int h
theorem rc_lt_str {a b : T} {t u : Tok} {Q : Value → Shared → Prop} (h : Q (.bool (decide (a < b))) s) : wpAny (model prog w) A (richCompare .Lt (.str (toS a) t) (.str (toS b) u)) Q E s := by
  refine PyProof.Rows.lt_str ?_
  rw [toS_cps, toS_cps]; exact h
theorem eqb_int {a b : Int} {t u : Tok} {Q : Bool → Shared → Prop} (h : Q (decide (a = b)) s) : wpAny (model prog w) A (eqBool (.int a t) (.int b u)) Q E s := wpAny_eqBool_int (by rw [beq_int]; exact h)
theorem eqb_str {a b : T} {t u : Tok} {Q : Bool → Shared → Prop} (h : Q (decide (a = b)) s) : wpAny (model prog w) A (eqBool (.str (toS a) t) (.str (toS b) u)) Q E s := by
  refine eqBool_str ?_
  rw [toS_beq]; exact h

theorem lt_row {r q : Row} {a b : Addr} {P : Fin → Shared → Prop} (ha : VR s.heap (rowPV r) (.ref a)) (hb : VR s.heap (rowPV q) (.ref b)) (h : P (.done (.ret (.bool (rowLt r q)))) s) :
    wpAny (model prog w) A (Builtin.«tuple.__lt__» ⟨[.ref a, .ref b], []⟩) P E s := by
  obtain ⟨_, oa, vs, n, e1, hoa, hca, hda, hra⟩ := vr_tuple ha
  cases e1
  obtain ⟨_, ob, ws, m, e2, hob, hcb, hdb, hrb⟩ := vr_tuple hb
  cases e2
  obtain ⟨vl⟩ := vs
  obtain ⟨wl⟩ := ws
  match vl, hra with
  | [v0, v1, v2], ⟨h0, h1, h2, _⟩ =>
  match wl, hrb with
  | [w0, w1, w2], ⟨g0, g1, g2, _⟩ =>
  obtain ⟨t0, rfl⟩ := vr_int h0
  obtain ⟨t1, rfl⟩ := vr_str h1
  obtain ⟨t2, rfl⟩ := vr_str h2
  obtain ⟨u0, rfl⟩ := vr_int g0
  obtain ⟨u1, rfl⟩ := vr_str g1
  obtain ⟨u2, rfl⟩ := vr_str g2
  have hTb : s.TypeIs (.ref b) "tuple" := ⟨_, hob, hcb⟩
  show wpAny _ _ (isInstance (.ref b) (.type "tuple") >>= _) _ _ s
  refine wpAny_bind (wpAny_isInstance hTb sub_tuple_tuple ?_)
  simp only [Bool.not_true, Bool.false_eq_true, if_false]
  refine wpAny_bind (wpAny_tupleItemsOf hoa hda ?_)
  refine wpAny_bind (wpAny_tupleItemsOf hob hdb ?_)
  simp only [List.zip_cons_cons, List.zip_nil_left, List.forIn_cons, List.forIn_nil, bind_assoc]
  have B : ∀ {α β : Type} {m : Sem α} {f : α → Sem β} {s : Shared} {Q : β → Shared → Prop}, wpAny (model prog w) A m (fun x s' => wpAny (model prog w) A (f x) Q E s') E s → wpAny (model prog w) A (m >>= f) Q E s := fun h => wpAny_bind h
  repeat with_reducible refine B ?_
  refine eqb_int ?_
  unfold rowLt at h
  by_cases e0 : r.1 = q.1
  · rw [if_pos e0] at h
    rw [decide_eq_true (by lia)]
    simp only [Bool.not_true, Bool.false_eq_true, if_false, pure_bind]
    repeat with_reducible first | refine B ?_ | refine wpAny_pure ?_
    refine eqb_str ?_
    by_cases e1 : r.2.1 = q.2.1
    · rw [if_pos e1] at h
      rw [decide_eq_true e1]
      simp only [Bool.not_true, Bool.false_eq_true, if_false, pure_bind]
      repeat with_reducible first | refine B ?_ | refine wpAny_pure ?_
      refine eqb_str ?_
      by_cases e2 : r.2.2 = q.2.2
      · rw [decide_eq_true e2]
        simp only [Bool.not_true, Bool.false_eq_true, if_false, pure_bind]
        have hx : ¬ r.2.2 < q.2.2 := by rw [e2]; exact List.lt_irrefl _
        rw [decide_eq_false hx] at h
        repeat with_reducible first | refine B ?_ | refine wpAny_pure ?_
        exact wpAny_pure h
      · rw [decide_eq_false e2]
        simp only [Bool.not_false, if_true, bind_assoc, pure_bind]
        repeat with_reducible first | refine B ?_ | refine wpAny_pure ?_ | refine wpAny_rule ?_
        refine rc_lt_str ?_
        repeat with_reducible first | refine B ?_ | refine wpAny_pure ?_ | refine wpAny_rule ?_
        exact wpAny_pure (wpAny_pure (wpAny_pure h))
    · rw [if_neg e1] at h
      rw [decide_eq_false e1]
      simp only [Bool.not_false, if_true, bind_assoc, pure_bind]
      repeat with_reducible first | refine B ?_ | refine wpAny_pure ?_ | refine wpAny_rule ?_
      refine rc_lt_str ?_
      repeat with_reducible first | refine B ?_ | refine wpAny_pure ?_ | refine wpAny_rule ?_
      exact wpAny_pure (wpAny_pure (wpAny_pure h))
  · rw [if_neg e0] at h
    rw [decide_eq_false (by lia)]
    simp only [Bool.not_false, if_true, bind_assoc, pure_bind]
    repeat with_reducible first | refine B ?_ | refine wpAny_pure ?_ | refine wpAny_rule ?_
    refine rc_lt_int ?_
    repeat with_reducible first | refine B ?_ | refine wpAny_pure ?_ | refine wpAny_rule ?_
    rw [show decide ((r.1 : Int) < (q.1 : Int)) = decide (r.1 < q.1) by simp]
    exact wpAny_pure (wpAny_pure h)
end
end Mine

namespace Mine

open PySem PySem.W PyProof.Rows PySem.Calls

section
variable {C : Cfg} {h₀ h₁ : Heap} {loc : List (Str × PV)} {R : List (Addr × AO)} {s : Shared} {A : Around} {E : Value → Shared → Prop} {env : Env} {mg mb : Str → Option Value} {L : Addr}

theorem St.lose2 {a b : Addr} {x y : AO} (S : St C h₀ L loc ((a, x) :: (b, y) :: R) s) {h' : Heap} {t : Nat} (e : ∀ c o, c ≠ a → c ≠ b → s.heap.get? c = some o → h'.get? c = some o) : St C h₀ L loc R { s with heap := h', toks := t } := by
  obtain ⟨oa, hoa, hna⟩ := (S.ok _ (List.mem_cons_self ..)).notTuple
  obtain ⟨ob, hob, hnb⟩ := (S.ok _ (List.mem_cons_of_mem _ (List.mem_cons_self ..))).notTuple
  have k : TK s.heap h' := fun c o vs n hc h1 h2 => by
    by_cases q : c = a
    · subst q; rw [hoa] at hc; cases hc; exact absurd ⟨h1, vs, n, h2⟩ hna
    · by_cases q' : c = b
      · subst q'; rw [hob] at hc; cases hc; exact absurd ⟨h1, vs, n, h2⟩ hnb
      · exact e c o q q' hc
  obtain ⟨n1, n2⟩ := List.nodup_cons.mp S.nodup
  obtain ⟨n3, n4⟩ := List.nodup_cons.mp n2
  obtain ⟨n5, n6⟩ := List.nodup_cons.mp n4
  have hLa : L ≠ a := fun q => n1 (by rw [q]; exact List.mem_cons_self ..)
  have hLb : L ≠ b := fun q => n1 (by rw [q]; exact List.mem_cons_of_mem _ (List.mem_cons_self ..))
  have hta : C.top.get? a = none := (S.off _ (List.mem_cons_self ..)).1
  have htb : C.top.get? b = none := (S.off _ (List.mem_cons_of_mem _ (List.mem_cons_self ..))).1
  have B := S.drop.drop
  refine ⟨S.gens, S.drawn, S.os, fun c o' eb => ?_, S.tk.trans k, S.loc.to k fun o' eb => e _ _ hLa hLb eb, S.offL, B.nodup, B.off, fun p hp => ?_⟩
  · have h1 : c ≠ a := fun q => by rw [q, hta] at eb; cases eb
    have h2 : c ≠ b := fun q => by rw [q, htb] at eb; cases eb
    exact e c o' h1 h2 (S.top c o' eb)
  · have h1 : p.1 ≠ a := fun z => n3 (by rw [← z]; exact List.mem_cons_of_mem _ (List.mem_map_of_mem (f := (·.1)) hp))
    have h2 : p.1 ≠ b := fun z => n5 (by rw [← z]; exact List.mem_map_of_mem (f := (·.1)) hp)
    exact (B.ok p hp).to k fun o' eb => e _ _ h1 h2 eb

theorem tk_two {h h' : Heap} {a b : Addr} {oa ob : Obj} (e : ∀ c o, c ≠ a → c ≠ b → h.get? c = some o → h'.get? c = some o) (ha : h.get? a = some oa) (hca : oa.cls ≠ .type "tuple") (hb : h.get? b = some ob) (hcb : ob.cls ≠ .type "tuple") : TK h h' := fun c o vs n hc h1 _ => by
  by_cases q : c = a
  · subst q; rw [ha] at hc; cases hc; exact absurd h1 hca
  · by_cases q' : c = b
    · subst q'; rw [hb] at hc; cases hc; exact absurd h1 hcb
    · exact e c o q q' hc

noncomputable abbrev lst (vs : Array Value) (c : Nat) : Obj := { cls := .type "list", dict := none, data := .seq vs c, slots := #[] }

theorem name_min : (toString "min" ++ toString ".loop" : String) = "min.loop" := by decide
theorem best_lt {n : Nat} (bt : Nat → Nat → Bool) : ∀ j, j < n → argBest bt j < n
  | 0, h => h
  | j + 1, h => by
    unfold argBest
    split
    · exact h
    · exact best_lt bt j (by lia)

section
variable {I : Addr} {fp : List Addr} {n : Nat} {Pv : Nat → Value → Prop} {Sti : Nat → Heap → Prop} {item : Nat → PV} {RR : Result → Shared → Prop} {bt : Nat → Nat → Bool} {D : Addr}
/-- what the loop of min ends in -/
noncomputable def MinEnd (h₁ : Heap) (RR : Result → Shared → Prop) (I D : Addr) (p : PV) (s : Shared) : Prop :=
  ∀ v h' tk, VR h' p v → TK h₁ h' → (∀ b o, b ≠ D → b ≠ I → s.heap.get? b = some o → h'.get? b = some o) → RR (.ok (.ret v)) { s with heap := h', toks := tk }
theorem upd_tk {h : Heap} {vs : Array Value} {c : Nat} {f : Array Value → Array Value} (hD : h.get? D = some (lst vs c)) : TK h (h.update D (Obj.mapSeq f)) :=
  TK.of_but (Heap.SameBut.update ..).extBut hD fun q => by have := q.1; simp at this

/-- the least of what walks, by an order that the contents of tuples tell -/
theorem least_loop (W : Walks C.prog C.w A.in1 I fp [I] n Pv Sti)
    (hobj : ∀ i h, Sti i h → ∃ o, h.get? I = some o ∧ o.cls ≠ .type "tuple") (hitem : ∀ i v h', Pv i v → TK h₁ h' → VR h' (item i) v)
    (hcmp : ∀ i j vi vj (s : Shared) (Q : Value → Shared → Prop) (E : Value → Shared → Prop), i < n → j < n → VR s.heap (item i) vi → VR s.heap (item j) vj → Q (.bool (bt i j)) s → wpAny (model C.prog C.w) A.in1 (richCompare .Lt vi vj) Q E s)
    (hDf : D ∉ fp) (hDI : D ≠ I) :
    ∀ (k j : Nat) (s : Shared) (vb : Value) (c : Nat), n - (j + 1) = k → j + 1 ≤ n → Sti (j + 1) s.heap → TK h₁ s.heap → VR s.heap (item (argBest bt j)) vb → s.heap.get? D = some (lst #[vb, vb] c) →
    MinEnd h₁ RR I D (item (argBest bt (n - 1))) s → codeAny (model C.prog C.w) A (.builtin "min.loop" ⟨[.ref I, .none, .ref D], []⟩) RR s := by
  intro k
  induction k with
  | zero =>
    intro j s vb c hk hj hst htk hvb hD hR
    have hin : n = j + 1 := by lia
    obtain ⟨oI, hoI, hcI⟩ := hobj _ _ hst
    refine codeAny_builtin F.entry_min_loop ?_
    rw [Around.under_plainId F.plain_min_loop _]
    show wpAny _ A.in1 (seqItems? (.ref D) >>= _) _ _ s
    refine wpAny_bind (wpAny_seqItems hD rfl ?_)
    show wpAny _ A.in1 (tryCatch (pyNext (.ref I)) _ >>= _) _ _ s
    refine wpAny_bind (wpAny_tryCatch (W.done s _ _ (hin ▸ hst) fun h' tk hk' => ?_))
    have ext : Heap.ExtBut I s.heap h' := fun b x hb e => hk' b x (by simpa using hb) e
    have tk1 : TK s.heap h' := TK.of_but ext hoI fun q => hcI q.1
    have hD' := ext D _ hDI hD
    show wpAny _ A.in1 (updateSeq D (fun _ => #[]) >>= _) _ _ _
    refine wpAny_bind (wpAny_updateSeq hD' rfl (wpAny_bind (wpAny_letGo (wpAny_pure ?_))))
    refine hR vb _ tk ?_ ((htk.trans tk1).trans (upd_tk hD')) fun b o h1 h2 e => (Heap.get?_update_other _ _ (Ne.symm h1)).trans (ext b o h2 e)
    rw [show n - 1 = j by lia]
    exact (hvb.tk tk1).tk (upd_tk hD')
  | succ k ih =>
    intro j s vb c hk hj hst htk hvb hD hR
    have hlt : j + 1 < n := by lia
    obtain ⟨oI, hoI, hcI⟩ := hobj _ _ hst
    refine codeAny_builtin F.entry_min_loop ?_
    rw [Around.under_plainId F.plain_min_loop _]
    show wpAny _ A.in1 (seqItems? (.ref D) >>= _) _ _ s
    refine wpAny_bind (wpAny_seqItems hD rfl ?_)
    show wpAny _ A.in1 (tryCatch (pyNext (.ref I)) _ >>= _) _ _ s
    refine wpAny_bind (wpAny_tryCatch (W.item (j + 1) s _ _ hlt hst fun v h' tk hP hst' hk' => ?_))
    have ext : Heap.ExtBut I s.heap h' := fun b x hb e => hk' b x (by simpa using hb) e
    have tk1 : TK s.heap h' := TK.of_but ext hoI fun q => hcI q.1
    have hD' := ext D _ hDI hD
    have hv := hitem _ _ _ hP (htk.trans tk1)
    have end' : ∀ (s₂ : Shared), (∃ h₂ t₂, s₂ = { s with heap := h₂, toks := t₂ } ∧ ∀ b o, b ≠ D → b ≠ I → s.heap.get? b = some o → h₂.get? b = some o) → MinEnd h₁ RR I D (item (argBest bt (n - 1))) s₂ := by
      rintro _ ⟨h₂, t₂, rfl, hk2⟩ v' h'' tk'' q1 q2 q3
      exact hR v' h'' tk'' q1 q2 fun b o h1 h2 e => q3 b o h1 h2 (hk2 b o h1 h2 e)
    show wpAny _ A.in1 (tryCatch (holding [v, v] (richCompare .Lt v vb >>= _)) _ >>= _) _ _ _
    refine wpAny_bind (wpAny_tryCatch (wpAny_holding (wpAny_bind (hcmp (j + 1) (argBest bt j) v vb _ _ _ hlt (best_lt bt j (by lia)) hv (hvb.tk tk1) ?_))))
    refine wpAny_bind (wpAny_holding (wpAny_truthy_bool (wpAny_bind (wpAny_letGo (wpAny_pure ?_)))))
    cases hb : bt (j + 1) (argBest bt j) with
    | true =>
      simp only [if_true]
      refine wpAny_bind (wpAny_updateSeq hD' rfl (wpAny_bind (wpAny_letGo ?_)))
      rw [name_min]
      refine wpAny_pure ⟨plainId_quiet F.plain_min_loop _, ih (j + 1) _ v _ (by lia) hlt (W.frame _ _ _ hst' fun b hbf o e => ?_) ((htk.trans tk1).trans (upd_tk hD')) ?_ (Heap.get?_update_self _ hD' rfl) (end' _ ⟨_, _, rfl, fun b o h1 h2 e => ?_⟩)⟩
      · exact (Heap.get?_update_other _ _ (fun h : D = b => hDf (by rw [h]; exact hbf))).trans e
      · rw [argBest, if_pos hb]; exact hv.tk (upd_tk hD')
      · exact (Heap.get?_update_other _ _ (Ne.symm h1)).trans (ext b o h2 e)
    | false =>
      simp only [Bool.false_eq_true, if_false]
      refine wpAny_bind (wpAny_letGo ?_)
      rw [name_min]
      refine wpAny_pure ⟨plainId_quiet F.plain_min_loop _, ih (j + 1) _ vb c (by lia) hlt hst' (htk.trans tk1) ?_ hD' (end' _ ⟨_, _, rfl, fun b o h1 h2 e => ext b o h2 e⟩)⟩
      rw [argBest, if_neg (by rw [hb]; exact Bool.false_ne_true)]
      exact hvb.tk tk1
end

/-- min of a list that the ledger pins -/
theorem call_min {a : Addr} {o : Obj} {l : List PV} {bt : Nat → Nat → Bool} {Q : Value → Shared → Prop} (hh : A.handled = none) (S : St C h₀ L loc R s) (hm : (a, AO.pin o (.list l)) ∈ R) (hne : 0 < l.length)
    (hcmp : ∀ i j vi vj (s : Shared) (Q : Value → Shared → Prop) (E : Value → Shared → Prop), i < l.length → j < l.length → VR s.heap (l.getD i .n) vi → VR s.heap (l.getD j .n) vj → Q (.bool (bt i j)) s → wpAny (model C.prog C.w) A.in1 (richCompare .Lt vi vj) Q E s)
    (h : ∀ v s', VR s'.heap (l.getD (argBest bt (l.length - 1)) .n) v → St C h₀ L loc R s' → Q v s') :
    wpAny (model C.prog C.w) A (call (.builtin "min") [.ref a]) Q E s := by
  refine call_function_tree F.kind_min F.plain_min F.entry_min (by unfold argsOk; kernel_rfl) ?_
  show wpAny _ A.in1 (Builtin.Builtins.bindParams "min" ["key", "default"] 0 ⟨[], []⟩ >>= _) _ _ s
  refine wpAny_bind (wpAny_of_eq (show Builtin.Builtins.bindParams "min" ["key", "default"] 0 ⟨[], []⟩ = pure [none, none] from rfl) ?_)
  refine wpAny_bind (wpAny_pure ?_)
  refine wpAny_bind (wk_list (A := A.in1) hh S hm fun I o₁ s₁ S₁ W => ?_)
  obtain ⟨fp, Pv, Sti, W, hobj, hfp, hst, hitem⟩ := W.ex
  refine wpAny_bind (wpAny_newObj_type ?_)
  rw [name_min]
  have hne' : s₁.heap.objs.size ≠ I := Nat.ne_of_gt (S₁.lt (List.mem_cons_self ..))
  have hDf : s₁.heap.objs.size ∉ fp := fun hb => by
    rcases hfp _ hb with e | ⟨x, ob, hx, _⟩
    · exact hne' e
    · have e : s₁.heap.objs.size = a := congrArg Prod.fst (List.mem_singleton.mp hx)
      have := S₁.lt (List.mem_cons_of_mem _ hm)
      rw [e] at this
      exact Nat.lt_irrefl _ this
  have S₂ := S₁.pushed (x := .list []) (o := { cls := .type "list", data := .seq #[] }) ⟨#[], ⟨0, Heap.get?_push_size _ rfl⟩, trivial⟩
  have tk2 : TK s₁.heap (s₁.heap.push { cls := .type "list", data := .seq #[] }) := TK.of_keeps fun b o e => Heap.get?_push_of_some _ e
  have hst2 : Sti 0 (s₁.heap.push { cls := .type "list", data := .seq #[] }) := W.frame _ _ _ hst fun b _ o e => Heap.get?_push_of_some _ e
  have hD : (s₁.heap.push { cls := .type "list", data := .seq #[] }).get? s₁.heap.objs.size = some (lst #[] 0) := Heap.get?_push_size _ rfl
  generalize hgD : s₁.heap.objs.size = D at S₂ hne' hDf hD ⊢
  obtain ⟨oI, hoI, hcI⟩ := hobj _ _ hst2
  refine wpAny_pure ⟨plainId_quiet F.plain_min_loop _, codeAny_builtin F.entry_min_loop ?_⟩
  rw [Around.under_plainId F.plain_min_loop _]
  show wpAny _ A.in1 (seqItems? (.ref D) >>= _) _ _ _
  refine wpAny_bind (wpAny_seqItems hD rfl ?_)
  show wpAny _ A.in1 (tryCatch (pyNext (.ref I)) _ >>= _) _ _ _
  refine wpAny_bind (wpAny_tryCatch (W.item 0 _ _ _ hne hst2 fun v h' tk hP hst' hk' => ?_))
  have ext : Heap.ExtBut I (s₁.heap.push { cls := .type "list", data := .seq #[] }) h' := fun b x hb e => hk' b x (by simpa using hb) e
  have tk1 : TK s₁.heap h' := tk2.trans (TK.of_but ext hoI fun q => hcI q.1)
  have hD' := ext D _ hne' hD
  show wpAny _ A.in1 (updateSeq D (fun _ => #[v, v]) >>= _) _ _ _
  refine wpAny_bind (wpAny_updateSeq hD' rfl ?_)
  rw [name_min]
  refine wpAny_pure ⟨plainId_quiet F.plain_min_loop _, least_loop (h₁ := s₁.heap) (bt := bt) W hobj hitem hcmp hDf hne' _ 0 _ v _ rfl hne (W.frame _ _ _ hst' fun b hbf o e => ?_) (tk1.trans (upd_tk hD')) ?_ (Heap.get?_update_self _ hD' rfl) ?_⟩
  · exact (Heap.get?_update_other _ _ (fun h : D = b => hDf (by rw [h]; exact hbf))).trans e
  · exact (hitem _ _ _ hP tk1).tk (upd_tk hD')
  · intro v' h'' tk'' q1 q2 q3
    exact h v' _ q1 (S₂.lose2 (t := tk'') fun c o h1 h2 e => q3 c o h1 h2 ((Heap.get?_update_other _ _ (Ne.symm h1)).trans (ext c o h2 e)))
end
end Mine

namespace Mine

open PySem PySem.W PyProof.Rows PySem.Calls

section
variable {C : Cfg} {h₀ h₁ : Heap} {loc : List (Str × PV)} {R : List (Addr × AO)} {s : Shared} {A : Around} {E : Value → Shared → Prop} {env : Env} {mg mb : Str → Option Value} {L : Addr}

/-- l != [] -/
theorem tst_nonempty {x : Str} {a : Addr} {l : List PV} {p1 p2 p3 : Pos} (hu : A.units < cLine) (hx : loc.lookup x = some (.ref a)) (hm : (a, AO.list l) ∈ R) (hz : l.length ≤ 1000000)
    (hk : autoParam (env.scope.kind = .function) rflT) (hl : autoParam (env.kindOf x = some .local) rflT) (hd : autoParam ((x == ("__debug__" : Str)) = false) decT) :
    Tst C h₀ env.locals loc R A env (.Compare (.Name x p1) [.NotEq] [.List [] p2] p3) (!decide (l = [])) := fun s E Q S h => by
  refine wpAny_isTrue_Compare1 (nm_r S hx (wpAny_List (wpAny_items_nil ⟨sz0, ?_⟩)) hk hl hd) (by rfl)
  have S1 := S.push { cls := .type "list", data := .seq ([] : List Value).toArray }
  have hb : (s.heap.push { cls := .type "list", data := .seq ([] : List Value).toArray }).IsList s.heap.objs.size #[] := ⟨_, Heap.get?_push_size _ rfl, rfl, _, rfl⟩
  obtain ⟨xs, ⟨n, hx'⟩, hr⟩ := S1.getOK hm
  have hlen : xs.size = l.length := by have := hr.length; simp at this; lia
  show wpAny _ A (richCompare .NotEq (.ref a) (.ref s.heap.objs.size)) _ _ _
  by_cases he : l = []
  · have hx0 : xs.size = (#[] : Array Value).size := by rw [hlen, he]; rfl
    have := PySem.SeqAt.RcNeAt.lists (A := A) (s := { s with heap := s.heap.push { cls := .type "list", data := .seq ([] : List Value).toArray } }) (e := fun _ => true) (l := a) (items := xs) ⟨_, hx', rfl, _, rfl⟩ hb hx0 hu (fun j h1 h2 => absurd h2 (by simp))
    refine this _ _ _ _ (wpAny_truthy_bool ?_)
    rw [hx0]
    have := h _ S1
    rw [decide_eq_true he] at this
    exact this
  · have hx0 : (xs.size != (#[] : Array Value).size) = true := by
      rw [hlen]
      cases l with
      | nil => exact absurd rfl he
      | cons p r => simp
    have := PySem.SeqAt.RcNeAt.lists_lengths (A := A) (s := { s with heap := s.heap.push { cls := .type "list", data := .seq ([] : List Value).toArray } }) (l := a) (items := xs) ⟨_, hx', rfl, _, rfl⟩ hb hx0 hu
    refine this _ _ _ _ (wpAny_truthy_bool ?_)
    have := h _ S1
    rw [decide_eq_false he] at this
    exact this

/-- t[i] of a tuple -/
theorem item_tup {v : Value} {ds : List PyData} {i : Nat} {d : PyData} {t : Tok} {Q : Value → Shared → Prop} (hv : VR s.heap (.dat (.tuple ds)) v) (hd : ds[i]? = some d) (hz : i < 1000000) (h : ∀ x, VR s.heap (.dat d) x → Q x s) :
    ItemOn (model C.prog C.w) A E v (.int (i : Int) t) Q s := by
  obtain ⟨a, o, vs, n, rfl, ho, hc, hdt, hr⟩ := vr_tuple hv
  obtain ⟨x, e1, e2⟩ := hr.getP (i := i) (p := .dat d) (by rw [List.getElem?_map, hd]; rfl)
  have hlt : i < vs.size := by have := (List.getElem?_eq_some_iff.mp e1).1; simpa using this
  refine ⟨"tuple", "tuple.__getitem__", F.slot_tuple_getitem.lookup, ⟨o, ho, hc⟩, ?_⟩
  have hj : seqIndex? (i : Int) vs.size = some i := by
    unfold seqIndex?
    have hn : ¬ ((i : Int) < 0) := by lia
    simp [hn, hlt]
  exact PyProof.Rows.getItem_tuple (items := vs) (j := i) (x := x) ⟨o, ho, hc, n, hdt⟩ (by lia) (by lia) hj (by simpa using e1) (h x e2)

inductive ForListK (C : Cfg) (h₀ : Heap) (A : Around) (env : Env) (x : Str) (body : List Stmt) (Q : Flow → Shared → Prop) (v : Value) (s₁ : Shared) : Prop
  | mk (a : Addr) (o : Obj) (l : List PV) (loc : List (Str × PV)) (R : List (Addr × AO)) (P : Nat → List (Str × PV) → List (Addr × AO) → Prop)
    (e0 : v = .ref a)
    (e1 : St C h₀ env.locals loc R s₁)
    (e2 : (a, AO.pin o (.list l)) ∈ R)
    (e3 : P 0 loc R)
    (e4 : (∀ i loc R', P i loc R' → (a, AO.pin o (.list l)) ∈ R'))
    (e5 : (∀ h₁ i pv I ob loc' R' s', TK h₀ h₁ → l[i]? = some pv → P i loc' R' → St C h₁ env.locals ((x, pv) :: loc') ((I, .raw ob) :: R') s' →
        wpAny (model C.prog C.w) A (execs body env) (fun f s₃ => match f with
          | .next | .cont => ∃ loc'' R'', P (i + 1) loc'' R'' ∧ St C h₁ env.locals loc'' ((I, .raw ob) :: R'') s₃
          | .brk => Q .next s₃
          | .ret v => Q (.ret v) s₃) (fun _ _ => False) s'))
    (e6 : (∀ loc' R' s', P l.length loc' R' → St C h₀ env.locals loc' R' s' → Q .next s')) : ForListK C h₀ A env x body Q v s₁

/-- for x in l, a list that the ledger pins -/
theorem r_for_list {x : Str} {px pos : Pos} {iter : Expr} {body : List Stmt} {Q : Flow → Shared → Prop} (hh : A.handled = none)
    (h : wpAny (model C.prog C.w) A (eval iter env) (ForListK C h₀ A env x body Q) E s)
    (hs : ∀ v, foldedSetIterable iter env v = pure v := by intro _; rfl)
    (hk : autoParam (env.scope.kind = .function) rflT) (hl : autoParam (env.kindOf x = some .local) rflT) :
    wpAny (model C.prog C.w) A (exec (.For (.Name x px) iter body [] pos) env) Q E s := by
  refine wpAny_For (wpAny_mono h (fun v s₁ q => ?_) fun _ _ q => q) hs
  obtain ⟨a, o, l, loc, R, P, rfl, S, hm, h0, hP, turn, done⟩ := q
  refine wk_list hh S hm fun I o₁ s₂ S₂ W => ?_
  refine for_core (L := env.locals) S₂ W P h0 (fun i loc' R' hp p hpm => ?_) (fun i v ob loc' R' s' hi hv hp S' => ?_) fun loc' R' s' hp S' => done loc' R' s' hp S'
  · rw [List.mem_singleton.mp hpm]; exact hP i loc' R' hp
  · have hpv : l[i]? = some (l.getD i .n) := by rw [List.getD_eq_getElem?_getD, List.getElem?_eq_getElem hi]; rfl
    refine wpAny_assign_Name (stloc (p := l.getD i .n) S' hv (fun s'' S'' => ?_) hk hl)
    exact turn _ i _ I ob loc' R' s'' S₂.tk hpv hp S''
end
end Mine

namespace Mine

open PySem PySem.W PyProof.Rows PySem.Calls

/-! ### what law_hangingu_ computes, with no program in sight -/
section
variable {V : Type}
noncomputable def mget (l : List (T × V)) (k : T) : Option V := (l.find? fun kv => decide (kv.1 = k)).map (·.2)
noncomputable def mset (l : List (T × V)) (k : T) (v : V) : List (T × V) := if l.any (fun kv => decide (kv.1 = k)) then l.map (fun kv => if kv.1 = k then (kv.1, v) else kv) else l ++ [(k, v)]
theorem mset_length (l : List (T × V)) (k : T) (v : V) : (mset l k v).length ≤ l.length + 1 := by unfold mset; split <;> simp
theorem mget_cons (x : T × V) (l : List (T × V)) (k : T) : mget (x :: l) k = if x.1 = k then some x.2 else mget l k := by
  unfold mget
  rw [List.find?_cons]
  by_cases h : x.1 = k <;> simp [h]
theorem mget_append (l m : List (T × V)) (y : T) : mget (l ++ m) y = (mget l y).or (mget m y) := by
  induction l with
  | nil => simp [mget]
  | cons x r ih =>
    rw [List.cons_append, mget_cons, mget_cons, ih]
    split <;> simp
theorem mget_none_any {l : List (T × V)} {k : T} : mget l k = none ↔ (l.any fun kv => decide (kv.1 = k)) = false := by
  induction l with
  | nil => simp [mget]
  | cons x r ih =>
    rw [mget_cons]
    by_cases h : x.1 = k
    · simp [h]
    · simp [h, ih]
theorem mget_map (l : List (T × V)) (k y : T) (p : V) : mget (l.map fun kv => if kv.1 = k then (kv.1, p) else kv) y = if y = k then (mget l y).map (fun _ => p) else mget l y := by
  induction l with
  | nil => simp [mget]
  | cons x r ih =>
    rw [List.map_cons, mget_cons, mget_cons, ih]
    by_cases hx : x.1 = k
    · rw [if_pos hx]
      by_cases hy : y = k
      · subst hy; simp [hx]
      · have : ¬ x.1 = y := fun h => hy (h.symm.trans hx)
        simp [this, hy]
    · rw [if_neg hx]
      by_cases hxy : x.1 = y
      · have : ¬ y = k := fun h => hx (hxy.trans h)
        simp [hxy, this]
      · simp [hxy]
theorem mget_mset (l : List (T × V)) (k y : T) (p : V) : mget (mset l k p) y = if y = k then some p else mget l y := by
  unfold mset
  cases h : l.any fun kv => decide (kv.1 = k) with
  | true =>
    rw [if_pos rfl, mget_map]
    by_cases hy : y = k
    · subst hy
      rw [if_pos rfl, if_pos rfl]
      cases hg : mget l y with
      | none => rw [mget_none_any.mp hg] at h; cases h
      | some v => rfl
    · rw [if_neg hy, if_neg hy]
  | false =>
    rw [if_neg Bool.false_ne_true, mget_append]
    by_cases hy : y = k
    · subst hy
      rw [if_pos rfl, mget_none_any.mpr h, mget_cons, if_pos rfl]; rfl
    · rw [if_neg hy, mget_cons, if_neg (Ne.symm hy)]
      cases mget l y <;> rfl
end

noncomputable abbrev pvMap (l : List (T × T)) : List (Str × PV) := l.map fun kv => (toS kv.1, .s (toS kv.2))
theorem dget_pvMap (l : List (T × T)) (k : T) : dget (pvMap l) (toS k) = (mget l k).map fun v => .s (toS v) := by
  induction l with
  | nil => rfl
  | cons x r ih =>
    rw [mget_cons]
    unfold dget at ih ⊢
    show Option.map _ (List.find? _ ((toS x.1, PV.s (toS x.2)) :: pvMap r)) = _
    rw [List.find?_cons]
    by_cases h : x.1 = k
    · simp [h]
    · have : ¬ toS x.1 = toS k := by rwa [toS_inj]
      simp only [this, decide_false, h, if_false]
      exact ih
theorem dset_pvMap (l : List (T × T)) (k v : T) : dset (pvMap l) (toS k) (.s (toS v)) = pvMap (mset l k v) := by
  unfold dset mset
  have : (pvMap l).any (fun kv => decide (kv.1 = toS k)) = l.any fun kv => decide (kv.1 = k) := by
    rw [List.any_map]; congr 1; funext x; simp
  rw [this]
  split
  · show ((l.map _).map _) = (l.map _).map _
    rw [List.map_map, List.map_map]
    refine List.map_congr_left fun x _ => ?_
    by_cases h : x.1 = k
    · simp [h]
    · simp [h]
  · simp

noncomputable def row0 : Row := (0, [], [])
noncomputable def minRow (rows : List Row) : Row := rows.getD (argBest (fun i j => rowLt (rows.getD i row0) (rows.getD j row0)) (rows.length - 1)) row0
noncomputable def pairRow (b : Bool) (one other : T) : List Row := if one ≠ other ∧ standsT one other b = true then [(other.length, other, leftT other one b)] else []
noncomputable def initRows (ws : List T) (b : Bool) : List Row := ws.flatMap fun one => ws.flatMap fun other => pairRow b one other
noncomputable def ext1 (b : Bool) (r : Row) (w : T) : List Row := if r.2.2 ≠ [] ∧ standsT r.2.2 w b = true then [(r.1 + (leftT w r.2.2 b).length, (if b then leftT w r.2.2 b ++ r.2.1 else r.2.1 ++ leftT w r.2.2 b), leftT w r.2.2 b)] else []
noncomputable def ext2 (b : Bool) (r : Row) (w : T) : List Row := if r.2.2 ≠ [] ∧ standsT w r.2.2 b = true then [(r.1, r.2.1, leftT r.2.2 w b)] else []
noncomputable def extRows (ws : List T) (b : Bool) (r : Row) : List Row := ws.flatMap fun w => ext1 b r w ++ ext2 b r w
noncomputable abbrev HS := List Row × List (T × T)
noncomputable def hstep (ws : List T) (b : Bool) (s : HS) : HS :=
  ((s.1 ++ extRows ws b (minRow s.1)).filter (fun r => (mget (mset s.2 (minRow s.1).2.2 (minRow s.1).2.1) r.2.2).isNone), mset s.2 (minRow s.1).2.2 (minRow s.1).2.1)
noncomputable def hrun (ws : List T) (b : Bool) : Nat → HS
  | 0 => (initRows ws b, [])
  | n + 1 => hstep ws b (hrun ws b n)

/-! how large it may be -/
structure WOk (ws : List T) : Prop where
  len : ws.length ≤ 4
  ok : ∀ w ∈ ws, w ≠ [] ∧ w.length ≤ 100 ∧ ∀ c ∈ w, c < 128
structure ROk (n : Nat) (r : Row) : Prop where
  size : r.1 ≤ 100 * (n + 1)
  text : r.2.1.length ≤ 100 * (n + 1)
  rest : r.2.2.length ≤ 100
  signs : ∀ c ∈ r.2.2, c < 128
theorem standsT_len {p w : T} {b : Bool} (h : standsT p w b = true) : p.length ≤ w.length := by
  unfold standsT at h
  cases b with
  | true =>
    simp only [if_true, decide_eq_true_eq] at h
    rw [← h, List.length_drop]; lia
  | false =>
    simp only [Bool.false_eq_true, if_false, decide_eq_true_eq] at h
    rw [← h, List.length_take]; lia
theorem leftT_sub (w p : T) (b : Bool) : ∀ c ∈ leftT w p b, c ∈ w := fun c hc => by
  unfold leftT at hc
  split at hc
  · exact List.mem_of_mem_take hc
  · exact List.mem_of_mem_drop hc
theorem leftT_len (w p : T) (b : Bool) : (leftT w p b).length ≤ w.length := by
  unfold leftT; split <;> simp
theorem ROk.mono {n m : Nat} (h : n ≤ m) {r : Row} (x : ROk n r) : ROk m r := by
  have h1 : 100 * (n + 1) ≤ 100 * (m + 1) := by lia
  exact ⟨by have := x.size; lia, by have := x.text; lia, x.rest, x.signs⟩
theorem ok_pair {ws : List T} (W : WOk ws) {b : Bool} {one other : T} (h2 : other ∈ ws) : ∀ r ∈ pairRow b one other, ROk 0 r := by
  intro r hr
  unfold pairRow at hr
  split at hr
  · rw [List.mem_singleton.mp hr]
    obtain ⟨_, h1, h2⟩ := W.ok _ h2
    exact ⟨by simpa using h1, by simpa using h1, by have := leftT_len other one b; simp; lia, fun c hc => h2 c (leftT_sub _ _ _ c hc)⟩
  · cases hr
theorem ok_ext {ws : List T} (W : WOk ws) {b : Bool} {n : Nat} {m : Row} (hm : ROk n m) {w : T} (hw : w ∈ ws) : ∀ r ∈ ext1 b m w ++ ext2 b m w, ROk (n + 1) r := by
  intro r hr
  obtain ⟨_, h1, h2⟩ := W.ok _ hw
  have e1 := hm.size
  have e2 := hm.text
  rcases List.mem_append.mp hr with hr | hr
  · unfold ext1 at hr
    split at hr
    · rw [List.mem_singleton.mp hr]
      have := leftT_len w m.2.2 b
      refine ⟨by simp; lia, ?_, by simp; lia, fun c hc => h2 c (leftT_sub _ _ _ c hc)⟩
      simp only
      split <;> simp <;> lia
    · cases hr
  · unfold ext2 at hr
    split at hr
    · rw [List.mem_singleton.mp hr]
      have := leftT_len m.2.2 w b
      have := hm.rest
      exact ⟨by simp; lia, by simp; lia, by simp; lia, fun c hc => hm.signs c (leftT_sub _ _ _ c hc)⟩
    · cases hr
theorem argBest_lt (bt : Nat → Nat → Bool) : ∀ j, argBest bt j ≤ j
  | 0 => Nat.le_refl _
  | j + 1 => by
    unfold argBest
    split
    · exact Nat.le_refl _
    · exact Nat.le_succ_of_le (argBest_lt bt j)
theorem minRow_mem {rows : List Row} (h : rows ≠ []) : minRow rows ∈ rows := by
  unfold minRow
  have hl : 0 < rows.length := List.length_pos_iff.mpr h
  have h1 := argBest_lt (fun i j => rowLt (rows.getD i row0) (rows.getD j row0)) (rows.length - 1)
  have h2 : argBest (fun i j => rowLt (rows.getD i row0) (rows.getD j row0)) (rows.length - 1) < rows.length := by lia
  rw [List.getD_eq_getElem?_getD, List.getElem?_eq_getElem h2]
  exact List.getElem_mem h2
theorem ext_len (b : Bool) (m : Row) (w : T) : (ext1 b m w ++ ext2 b m w).length ≤ 2 := by
  have h1 : (ext1 b m w).length ≤ 1 := by unfold ext1; split <;> simp
  have h2 : (ext2 b m w).length ≤ 1 := by unfold ext2; split <;> simp
  rw [List.length_append]; lia
theorem flat_le {α β : Type} (f : α → List β) (k : Nat) (h : ∀ x, (f x).length ≤ k) : ∀ l : List α, (l.flatMap f).length ≤ k * l.length
  | [] => by simp
  | x :: r => by
    have h1 := flat_le f k h r
    have h2 := h x
    rw [List.flatMap_cons, List.length_append, List.length_cons, Nat.mul_succ]; lia
theorem pair_len (b : Bool) (one other : T) : (pairRow b one other).length ≤ 1 := by unfold pairRow; split <;> simp
structure HOk (ws : List T) (n : Nat) (s : HS) : Prop where
  rows : ∀ r ∈ s.1, ROk n r
  many : s.1.length ≤ 16 + 8 * n
  least : s.2.length ≤ n
theorem hok {ws : List T} (W : WOk ws) (b : Bool) : ∀ n, (∀ i, i < n → (hrun ws b i).1 ≠ []) → HOk ws n (hrun ws b n)
  | 0, _ => by
    refine ⟨fun r hr => ?_, ?_, Nat.le_refl _⟩
    · obtain ⟨one, h1, hr⟩ := List.mem_flatMap.mp hr
      obtain ⟨other, h2, hr⟩ := List.mem_flatMap.mp hr
      exact ok_pair W h2 r hr
    · have h1 := flat_le (fun one => ws.flatMap fun other => pairRow b one other) 4 (fun one => by
        have h2 := flat_le (fun other => pairRow b one other) 1 (pair_len b one) ws
        have := W.len; lia) ws
      have := W.len
      show (initRows ws b).length ≤ _
      unfold initRows; lia
  | n + 1, h => by
    have ih := hok W b n fun i hi => h i (by lia)
    have hne := h n (by lia)
    have hm := ih.rows _ (minRow_mem hne)
    refine ⟨fun r hr => ?_, ?_, ?_⟩
    · rcases List.mem_append.mp ((List.mem_filter.mp hr).1) with hr | hr
      · exact (ih.rows r hr).mono (by lia)
      · obtain ⟨w, hw, hr⟩ := List.mem_flatMap.mp hr
        exact ok_ext W hm hw r hr
    · have h1 : (extRows ws b (minRow (hrun ws b n).1)).length ≤ 2 * ws.length := flat_le (fun w => ext1 b (minRow (hrun ws b n).1) w ++ ext2 b (minRow (hrun ws b n).1) w) 2 (ext_len b _) ws
      have h2 := List.length_filter_le (fun r : Row => (mget (mset (hrun ws b n).2 (minRow (hrun ws b n).1).2.2 (minRow (hrun ws b n).1).2.1) r.2.2).isNone) ((hrun ws b n).1 ++ extRows ws b (minRow (hrun ws b n).1))
      have := ih.many
      have := W.len
      rw [List.length_append] at h2
      show (List.filter _ _).length ≤ _
      lia
    · have h1 := mset_length (hrun ws b n).2 (minRow (hrun ws b n).1).2.2 (minRow (hrun ws b n).1).2.1
      have := ih.least
      show (mset _ _ _).length ≤ _
      lia
end Mine

namespace Mine

open PySem PySem.W PyProof.Rows PySem.Calls

noncomputable abbrev haLoc (wa : Addr) (b : Bool) (ka ra : Addr) : List (Str × PV) := [("words", .ref wa), ("behind", .b b), ("known", .ref ka), ("rows", .ref ra)]
noncomputable abbrev haR (lc la ra ka : Addr) (rows : List Row) (least : List (T × T)) (known : List (Str × PV)) (X : List (Addr × AO)) : List (Addr × AO) :=
  (lc, .cell (some (.ref la))) :: (ra, .list (rows.map rowPV)) :: (la, .dict (pvMap least)) :: (ka, .dict known) :: X

section
variable {C : Cfg} {h₀ : Heap} {L : Addr} {loc : List (Str × PV)} {R : List (Addr × AO)} {s : Shared} {A : Around} {E : Value → Shared → Prop} {mg mb : Str → Option Value} {a pl wa : Addr} {k : Nat} {env : Env}

theorem vr_row {h : Heap} {n : Nat} {x y : T} {t u v : Tok} : VR (h.push { cls := .type "tuple", data := .seq #[.int (n : Int) t, .str (toS x) u, .str (toS y) v] }) (rowPV (n, x, y)) (.ref h.objs.size) :=
  vr_mk_tuple (Heap.get?_push_size _ rfl) rfl rfl ⟨.int _ _, .str _ _, .str _ _, trivial⟩

/-- rows.append(v), rows second of the ledger -/
theorem r_rowapp {x : Str} {p1 p2 pos pos' : Pos} {e : Expr} {ra : Addr} {r : Row} {rows : List Row} {Q : Flow → Shared → Prop}
    (S : St C h₀ env.locals loc R s) (i : Nat) (ei : R[i]? = some (ra, .list (rows.map rowPV))) (hx : loc.lookup x = some (.ref ra)) (hz : rows.length ≤ 100000)
    (h : wpAny (model C.prog C.w) A (eval e env) (fun v s₁ => VR s₁.heap (rowPV r) v ∧ St C h₀ env.locals loc R s₁) E s)
    (hQ : ∀ s', St C h₀ env.locals loc (R.set i (ra, .list ((rows ++ [r]).map rowPV))) s' → Q .next s')
    (hbase : autoParam (attributeBase (.Name x p1) "append" env (eval (.Name x p1) env) = eval (.Name x p1) env) rflT)
    (hfew : ((backTo pos (starEach [e] env)).all (fun x => !x.1) && (backToKw pos (keywordEach [] env)).all (fun x => x.1.isSome)
      && decide ([e].length + ([] : List Keyword).length + (if ([] : List Keyword).isEmpty then 0 else 1) < 30)) = true := by rfl)
    (hline : autoParam ((p2.endLine == pos.line) = true) rflT) (he : autoParam (starEach [e] env = (false, eval e env) :: starEach [] env) rflT) (hpl : autoParam ((backTo pos (starEach [e] env)).any (·.1) = false) rflT)
    (hk : autoParam (env.scope.kind = .function) rflT) (hl : autoParam (env.kindOf x = some .local) rflT) (hd : autoParam ((x == ("__debug__" : Str)) = false) decT) (hi : autoParam (interactive env = false) rflT) :
    wpAny (model C.prog C.w) A (exec (.Expr (.Call (.Attribute (.Name x p1) "append" p2) [e] [] pos) pos') env) Q E s := by
  obtain ⟨zs, ⟨n1, hzs⟩, _⟩ := S.getOK (List.mem_of_getElem? ei)
  refine wpAny_Expr_any (wpAny_Call_method (T := "list") (id := "list.append") hbase hfew hline F.plainAttrs_list F.slot_list_append F.type_list_append ?_) hi
  refine nm_r S hx ⟨⟨_, hzs, rfl⟩, fun _ e => by cases e; exact ⟨_, hzs, rfl⟩, callWith_bi (wpAny_items_cons (wpAny_mono h (fun v s₁ q => ?_) fun _ _ q => q) he) he hpl⟩ hk hl hd
  obtain ⟨hv, S₁⟩ := q
  refine wpAny_items_nil (call_append (i := i) (l := rows.map rowPV) (pv := rowPV r) S₁ hv ei (by simp; lia) fun s₂ S₂ => hQ s₂ ?_)
  rw [List.map_append]
  exact S₂

theorem rc_lt_row {r q : Row} {x y : Value} {Q : Value → Shared → Prop} (hu : A.units < cLine) (hx : VR s.heap (rowPV r) x) (hy : VR s.heap (rowPV q) y) (h : Q (.bool (rowLt r q)) s) : wpAny (model C.prog C.w) A (richCompare .Lt x y) Q E s := by
  obtain ⟨a, oa, _, _, rfl, hoa, hca, _⟩ := vr_tuple hx
  obtain ⟨b, ob, _, _, rfl, hob, hcb, _⟩ := vr_tuple hy
  refine wpAny_richCompare_same_room (T := "tuple") (id := "tuple.__lt__") ⟨oa, hoa, hca⟩ ⟨ob, hob, hcb⟩ slot_tuple_lt ?_ hu
  refine wpAny_call_entry slot_tuple_lt ⟨oa, hoa, hca⟩ entry_tuple_lt ?_ (args_tuple_lt _ _)
  exact lt_row hx hy ⟨_, rfl, by simp, h⟩
theorem nm_cellr {x : Str} {pos : Pos} {c b : Addr} {Q : Value → Shared → Prop} (S : St C h₀ env.locals loc R s) (hm : (c, AO.cell (some (.ref b))) ∈ R) (h : Q (.ref b) s)
    (hc : env.cells.lookup x = some c) (hk : autoParam (env.scope.kind = .function) rflT) (hl : autoParam (env.kindOf x = some .cell) rflT) (hd : autoParam ((x == ("__debug__" : Str)) = false) decT) :
    wpAny (model C.prog C.w) A (eval (.Name x pos) env) Q E s := nm_cell S hm (fun v hv => by cases hv; exact h) hc hk hl hd
theorem getD_rows {rows : List Row} {i : Nat} (h : i < rows.length) : (rows.map rowPV).getD i .n = rowPV (rows.getD i row0) := by
  rw [List.getD_eq_getElem?_getD, List.getD_eq_getElem?_getD, List.getElem?_map, List.getElem?_eq_getElem h]; rfl
noncomputable abbrev haLoc3 (wa : Addr) (b : Bool) (ka ra : Addr) (m : Row) : List (Str × PV) := ("size", .i (m.1 : Int)) :: ("text", .s (toS m.2.1)) :: ("rest", .s (toS m.2.2)) :: haLoc wa b ka ra
theorem vrs3 {h : Heap} {p q r : PV} {vl : List Value} (e : VRs h [p, q, r] vl) : ∃ v0 v1 v2, vl = [v0, v1, v2] ∧ VR h p v0 ∧ VR h q v1 ∧ VR h r v2 := by
  cases vl with
  | nil => exact e.elim
  | cons v0 vl =>
    obtain ⟨g0, e⟩ := e
    cases vl with
    | nil => exact e.elim
    | cons v1 vl =>
      obtain ⟨g1, e⟩ := e
      cases vl with
      | nil => exact e.elim
      | cons v2 vl =>
        obtain ⟨g2, e⟩ := e
        cases vl with
        | nil => exact ⟨v0, v1, v2, rfl, g0, g1, g2⟩
        | cons v3 vl => exact e.elim
set_option maxHeartbeats 4000000 in
theorem hanging_spec {ws : List T} {b : Bool} {iw : Nat} {N : Nat} {Q : Value → Shared → Prop} (Z : Lw C mg mb pl) (D : DefAt C a (theDef 67)) (Rm : Room A (k + 6)) (S : St C h₀ L loc R s) (hpl : (pl, .tab) ∈ R)
    (ew : R[iw]? = some (wa, .list (ws.map sP))) (W : WOk ws) (hN : N ≤ 1000) (hpos : ∀ i, i < N → (hrun ws b i).1 ≠ []) (hend : (hrun ws b N).1 = [])
    (h : ∀ la s', St C h₀ L loc ((la, .dict (pvMap (hrun ws b N).2)) :: R) s' → Q (.ref la) s') :
    wpAny (model C.prog C.w) A (call (.ref a) [.ref wa, .bool b]) Q E s := by
  have B := Z.base
  obtain ⟨sa, hsa, DS⟩ := Z.stands
  obtain ⟨fa, hfa, DL⟩ := Z.left
  refine call_def ["words", "behind"] (ps := [.ref wa, .b b]) B D Rm S ⟨rfl, .bool _, trivial⟩ (fun fd e1 e2 e3 => ?_) rfl (by decide +kernel) (fun L' q cd s₁ _ Rm' S₁ => ?_)
  · obtain ⟨n, qn, ps, bd, sc, gl, cl, df, kd⟩ := fd
    dsimp only at e1 e2 e3
    subst e1 e2 e3
    rfl
  · replace S₁ := S₁.weaken (loc' := [("words", .ref wa), ("behind", .b b)]) ⟨by rfl, by rfl, trivial⟩
    change St C h₀ L' _ ((L' + 1, .cell none) :: (L, .ns loc) :: R) s₁ at S₁
    -- the words stay
    have ew1 : ((L' + 1, AO.cell none) :: (L, AO.ns loc) :: R)[iw + 2]? = some (wa, .list (ws.map sP)) := by simpa using ew
    obtain ⟨ow, S₂⟩ := S₁.pin (iw + 2) ew1
    change St C h₀ L' _ ((L' + 1, .cell none) :: (L, .ns loc) :: R.set iw (wa, .pin ow (.list (ws.map sP)))) s₁ at S₂
    have hpl' : (pl, AO.tab) ∈ R.set iw (wa, .pin ow (.list (ws.map sP))) := by
      obtain ⟨j, hj⟩ := List.mem_iff_getElem?.mp hpl
      refine List.mem_iff_getElem?.mpr ⟨j, ?_⟩
      rw [List.getElem?_set]
      by_cases e : iw = j
      · subst e; rw [ew] at hj; cases hj
      · rw [if_neg e]; exact hj
    have hwm : (wa, AO.pin ow (.list (ws.map sP))) ∈ R.set iw (wa, .pin ow (.list (ws.map sP))) := List.mem_iff_getElem?.mpr ⟨iw, by
      rw [List.getElem?_set]; have := (List.getElem?_eq_some_iff.mp ew).1; simp [this]⟩
    have hset : (R.set iw (wa, AO.pin ow (.list (ws.map sP)))).set iw (wa, .list (ws.map sP)) = R := by rw [List.set_set, set_self ew]
    generalize hRp : R.set iw (wa, AO.pin ow (.list (ws.map sP))) = Rp at S₂ hpl' hwm hset
    let en : Env := fnEnv (theDef 67) L' q a cd
    let A' : Around := A.deeper en
    change wpAny (model C.prog C.w) A' (execs (bodyOf (theDef 67)) en) _ _ _
    let rc : Addr := L' + 1
    let X : List (Addr × AO) := (L, .ns loc) :: Rp
    change St C h₀ L' _ ((rc, .cell none) :: X) s₁ at S₂
    -- known, least, rows
    refine wpAny_execs_cons (r_unpack S₂ Rm'.handled (wpAny_Tuple (wpAny_items_cons (wpAny_Dict_empty (wpAny_items_cons (wpAny_Dict_empty (wpAny_items_cons (wpAny_List (wpAny_items_nil ⟨sz0, wpAny_items_nil ⟨sz3, ?_⟩⟩)))))))))
    have S₃ := S₂.pushed (x := .dict []) (o := { cls := .type "dict", data := .dict #[] }) ⟨[], Heap.DictOf.new _, trivial⟩
    generalize hka : s₁.heap.objs.size = ka at S₃ ⊢
    have S₄ := S₃.pushed (x := .dict []) (o := { cls := .type "dict", data := .dict #[] }) ⟨[], Heap.DictOf.new _, trivial⟩
    generalize hla : (s₁.heap.push { cls := .type "dict", data := .dict #[] }).objs.size = la at S₄ ⊢
    have S₅ := S₄.pushed (x := .list []) (o := { cls := .type "list", data := .seq ([] : List Value).toArray }) ⟨#[], ⟨0, Heap.get?_push_size _ rfl⟩, trivial⟩
    generalize hra : ((s₁.heap.push { cls := .type "dict", data := .dict #[] }).push { cls := .type "dict", data := .dict #[] }).objs.size = ra at S₅ ⊢
    have S₆ := S₅.push { cls := .type "tuple", data := .seq [Value.ref ka, Value.ref la, Value.ref ra].toArray }
    refine ⟨_, _, L', _, _, rfl, ⟨_, Heap.get?_push_size _ rfl, rfl, _, rfl⟩, by rfl, S₆, fun s₂ S₇ _ => ?_⟩
    refine aio_cons (wpAny_assign_Name (stloc (p := .ref ka) S₇ rfl fun s₃ S₈ => aio_cons (wpAny_assign_Name ?_)))
    refine stcell (env := en) (p := .ref la) (c := rc) (o := none) (S₈.pull 3 rfl) rfl (fun s₄ S₉ => ?_) (by rfl)
    refine aio_cons (wpAny_assign_Name (stloc (p := .ref ra) S₉ rfl fun s₅ S₁₀ => aio_nil ?_))
    replace S₁₀ := S₁₀.weaken (loc' := haLoc wa b ka ra) ⟨by rfl, by rfl, by rfl, by rfl, trivial⟩
    change St C h₀ L' (haLoc wa b ka ra) (haR rc la ra ka [] [] [] X) s₅ at S₁₀
    have hwm' : ∀ (ra : Addr) (rows : List Row) (least : List (T × T)) (known : List (Str × PV)), (wa, AO.pin ow (.list (ws.map sP))) ∈ haR rc la ra ka rows least known X := fun _ _ _ _ =>
      List.mem_cons_of_mem _ (List.mem_cons_of_mem _ (List.mem_cons_of_mem _ (List.mem_cons_of_mem _ (List.mem_cons_of_mem _ hwm))))
    have hpm' : ∀ (ra : Addr) (rows : List Row) (least : List (T × T)) (known : List (Str × PV)), (pl, AO.tab) ∈ haR rc la ra ka rows least known X := fun _ _ _ _ =>
      List.mem_cons_of_mem _ (List.mem_cons_of_mem _ (List.mem_cons_of_mem _ (List.mem_cons_of_mem _ (List.mem_cons_of_mem _ hpl'))))
    have hword : ∀ {i : Nat} {pv : PV}, (ws.map sP)[i]? = some pv → ∃ w, ws[i]? = some w ∧ pv = sP w := fun {i pv} e => by
      rw [List.getElem?_map] at e
      cases hw : ws[i]? with
      | none => rw [hw] at e; cases e
      | some w => rw [hw] at e; cases e; exact ⟨w, rfl, rfl⟩
    have htake : ∀ {i : Nat} {w : T} {f : T → List Row}, ws[i]? = some w → (ws.take (i + 1)).flatMap f = (ws.take i).flatMap f ++ f w := fun {i w f} e => by
      obtain ⟨h1, h2⟩ := List.getElem?_eq_some_iff.mp e
      rw [List.take_succ_eq_append_getElem h1, List.flatMap_append, h2]; simp
    have hi4 : ∀ {i : Nat} {w : T}, ws[i]? = some w → i < 4 := fun {i w} e => by
      have := (List.getElem?_eq_some_iff.mp e).1
      have := W.len; lia
    -- the first rows
    refine wpAny_execs_cons (r_for_list Rm'.handled (nm_r S₁₀ rfl ⟨wa, ow, ws.map sP, _, _, fun i loc' R' => ∃ known, KOk known ∧ known.length ≤ 4 * i ∧ loc' = haLoc wa b ka ra ∧
      R' = haR rc la ra ka ((ws.take i).flatMap fun one => ws.flatMap fun other => pairRow b one other) [] known X, rfl, S₁₀, hwm' _ _ _ _, ⟨[], fun _ => .inl rfl, by simp, rfl, by simp⟩, ?_, ?_, ?_⟩))
    · rintro i _ _ ⟨known, _, _, _, rfl⟩; exact hwm' _ _ _ _
    · intro h₁ i pv I ob l1 R1 s₆ tk hpv hI1 S₁₁
      refine cutQ fun Q₁ hQ₁ => ?_
      obtain ⟨known, hK, hKl, rfl, rfl⟩ := hI1
      obtain ⟨one, hone, rfl⟩ := hword hpv
      let l₀ : List (Str × PV) := haLoc wa b ka ra
      let e₁ : Addr × AO := (I, .raw ob)
      let l₁ : List (Str × PV) := ("one", sP one) :: l₀
      obtain ⟨hone0, hone1, hone2⟩ := W.ok one (List.mem_of_getElem? hone)
      generalize hacc : ((ws.take i).flatMap fun one => ws.flatMap fun other => pairRow b one other) = acc at S₁₁
      change St C h₁ L' l₁ (e₁ :: haR rc la ra ka acc [] known X) _ at S₁₁
      have haccl : acc.length ≤ 16 := by
        have h1 := flat_le (fun one => ws.flatMap fun other => pairRow b one other) 4 (fun one => by
          have h2 := flat_le (fun other => pairRow b one other) 1 (pair_len b one) ws
          have := W.len; lia) (ws.take i)
        have := W.len
        rw [hacc, List.length_take] at h1; lia
      refine wpAny_execs_cons (r_for_list Rm'.handled (nm_r S₁₁ rfl ⟨wa, ow, ws.map sP, _, _, fun j loc' R' => ∃ known, KOk known ∧ known.length ≤ 4 * i + j ∧ loc' = l₁ ∧
        R' = e₁ :: haR rc la ra ka (acc ++ (ws.take j).flatMap fun other => pairRow b one other) [] known X, rfl, S₁₁, List.mem_cons_of_mem _ (hwm' _ _ _ _), ⟨known, hK, by lia, rfl, by simp⟩, ?_, ?_, ?_⟩))
      · rintro j _ _ ⟨known, _, _, _, rfl⟩; exact List.mem_cons_of_mem _ (hwm' _ _ _ _)
      · intro h₂ j pv I₂ ob₂ l1 R1 s₇ tk2 hpv2 hI1 S₁₂
        refine cutQ fun Q₂ hQ₂ => ?_
        obtain ⟨known, hK, hKl, rfl, rfl⟩ := hI1
        obtain ⟨other, hother, rfl⟩ := hword hpv2
        obtain ⟨hoth0, hoth1, hoth2⟩ := W.ok other (List.mem_of_getElem? hother)
        have hi := hi4 hone
        have hj := hi4 hother
        generalize hacc2 : acc ++ ((ws.take j).flatMap fun other => pairRow b one other) = acc2 at S₁₂
        let l₂ : List (Str × PV) := ("other", sP other) :: l₁
        let e₂ : Addr × AO := (I₂, .raw ob₂)
        let R₂ : List (Addr × AO) := e₂ :: e₁ :: haR rc la ra ka acc2 [] known X
        change St C h₂ L' l₂ R₂ _ at S₁₂
        have hacc2l : acc2.length ≤ 20 := by
          have h2 := flat_le (fun other => pairRow b one other) 1 (pair_len b one) (ws.take j)
          have := W.len
          rw [List.length_take] at h2
          rw [← hacc2, List.length_append]; lia
        refine wpAny_execs_cons (wpAny_mono (Q := fun f s' => f = .next ∧ ∃ known', KOk known' ∧ known'.length ≤ known.length + 1 ∧
          St C h₂ L' l₂ (e₂ :: e₁ :: haR rc la ra ka (acc2 ++ pairRow b one other) [] known' X) s') ?_ (fun f s' hq => ?_) fun _ _ q => q)
        · refine cutQ fun Q₃ hQ₃ => ?_
          refine wpAny_If (wpAny_isTrue_BoolOp (wpAny_allTrue_And_cons (wpAny_isTrue_Compare1 (nm_s S₁₂ rfl fun t1 => nm_s S₁₂ rfl fun t2 => r_ne_str (wpAny_truthy_bool ?_)) (by rfl))))
          by_cases hne : one = other
          · rw [decide_eq_true hne, if_neg (by simp), if_neg (by simp)]
            have e : pairRow b one other = [] := by unfold pairRow; rw [if_neg]; simp [hne]
            refine wpAny_execs_nil (hQ₃ _ _ ⟨rfl, known, hK, by lia, ?_⟩)
            rw [e, List.append_nil]; exact S₁₂
          · rw [decide_eq_false hne, if_pos (by simp)]
            refine wpAny_allTrue_And_cons (wpAny_isTrue_value (r_call B S₁₂ DS hsa (wpAny_items_cons (nm_s S₁₂ rfl fun t3 => wpAny_items_cons (nm_s S₁₂ rfl fun t4 => wpAny_items_cons (nm_b S₁₂ rfl (wpAny_items_cons (nm_r S₁₂ rfl (wpAny_items_nil ⟨S₁₂.top, ?_⟩)))))))))
            refine stands_spec Z DS Rm' S₁₂ (List.mem_cons_of_mem _ (List.mem_cons_of_mem _ (hpm' _ _ _ _))) (i := 5) rfl hK (by lia) hone0 hone2 (by lia) (by lia) fun l' s₈ hK' hl' S₁₃ => wpAny_truthy_bool ?_
            let R₃ : List (Addr × AO) := e₂ :: e₁ :: haR rc la ra ka acc2 [] l' X
            change St C h₂ L' l₂ R₃ s₈ at S₁₃
            cases hst : standsT one other b with
            | false =>
              refine ifN (by simp) (ifN (by simp) ?_)
              have e : pairRow b one other = [] := by unfold pairRow; rw [if_neg]; simp [hst]
              refine wpAny_execs_nil (hQ₃ _ _ ⟨rfl, l', hK', hl', ?_⟩)
              rw [e, List.append_nil]; exact S₁₃
            | true =>
              refine ifY rfl ?_
              refine wpAny_allTrue_And_nil ?_
              refine ifY rfl ?_
              have e : pairRow b one other = [(other.length, other, leftT other one b)] := by unfold pairRow; rw [if_pos ⟨hne, hst⟩]
              refine wpAny_execs_cons (r_rowapp (ra := ra) (r := (other.length, other, leftT other one b)) S₁₃ 3 rfl rfl (by lia) ?_ fun s₉ S₁₄ => wpAny_execs_nil (hQ₃ _ _ ⟨rfl, l', hK', hl', ?_⟩))
              · refine wpAny_Tuple (wpAny_items_cons (r_bi B S₁₃ Z.len (wpAny_items_cons (nm_s S₁₃ rfl fun t5 => wpAny_items_nil (r_len_str S₁₃ (by lia) fun t6 s₉ S₁₄ => wpAny_items_cons (nm_s S₁₄ rfl fun t7 => wpAny_items_cons (r_call B S₁₄ DL hfa
                  (wpAny_items_cons (nm_s S₁₄ rfl fun t8 => wpAny_items_cons (nm_s S₁₄ rfl fun t9 => wpAny_items_cons (nm_b S₁₄ rfl (wpAny_items_nil ⟨S₁₄.top, left_spec B Z.len DL Rm' S₁₄ (standsT_len hst) (by lia) fun t10 s₁₀ S₁₅ => wpAny_items_nil ⟨sz3, vr_row, S₁₅.push _⟩⟩))))))))))))
              · rw [e]; exact S₁₄
        · obtain ⟨rfl, known', hK', hkl', S₁₃⟩ := hq
          refine wpAny_execs_nil (hQ₂ .next _ ⟨_, _, ⟨known', hK', by lia, rfl, ?_⟩, S₁₃.weaken ⟨by rfl, by rfl, by rfl, by rfl, by rfl, trivial⟩⟩)
          rw [← hacc2, htake hother, List.append_assoc]
      · rintro _ _ s₇ ⟨known, hK, hKl, rfl, rfl⟩ S₁₂
        refine wpAny_execs_nil (hQ₁ .next _ ⟨_, _, ⟨known, hK, ?_, rfl, ?_⟩, S₁₂.weaken ⟨by rfl, by rfl, by rfl, by rfl, trivial⟩⟩)
        · have := W.len
          rw [List.length_map] at hKl; lia
        · rw [List.length_map, List.take_length, ← hacc, htake hone]
    · rintro _ _ s₆ ⟨known, hK, hKl, rfl, rfl⟩ S₁₁
      rw [List.length_map, List.take_length] at S₁₁
      rw [List.length_map] at hKl
      have hu : ∀ (A : Around), Room A (k + 5) → A.units + 1 < cLine := fun A r => by have := r.units; lia
      refine wpAny_execs_cons (r_whileQ S₁₁ (fun m loc' R' => ∃ i ra known, i + m = N ∧ KOk known ∧ known.length ≤ 16 + 8 * i ∧ loc' = haLoc wa b ka ra ∧ R' = haR rc la ra ka (hrun ws b i).1 (hrun ws b i).2 known X) N
        ⟨0, ra, known, by lia, hK, by have := W.len; lia, rfl, rfl⟩ ?_)
      intro m₀ lw Rw s₇ hIw S₁₂ Q₄ hQ₄
      obtain ⟨i, ra, known, him, hK, hKl, rfl, rfl⟩ := hIw
      have hH := hok W b i (fun j hj => hpos j (by lia))
      have hmany := hH.many
      have hleast := hH.least
      refine Tst.use (tst_nonempty (a := ra) (l := (hrun ws b i).1.map rowPV) (by have := hu _ Rm'; lia) rfl (List.mem_cons_of_mem _ (List.mem_cons_self ..)) (by simp; lia)) S₁₂ fun s₈ S₁₃ => ?_
      by_cases hiN : i < N
      · have hne := hpos i hiN
        have hrok := hH.rows _ (minRow_mem hne)
        have hrun1 : hrun ws b (i + 1) = hstep ws b (hrun ws b i) := rfl
        refine ifY (by simp [hne]) ?_
        unfold hstep at hrun1
        generalize hrows : (hrun ws b i).1 = rows at S₁₃ hne hrok hrun1 hmany
        generalize hlea : (hrun ws b i).2 = least at S₁₃ hrun1 hleast
        generalize hmr : minRow rows = m at hrok hrun1
        have hlen : 0 < rows.length := List.length_pos_iff.mpr hne
        -- size, text, rest = min(rows)
        obtain ⟨orow, Sp⟩ := S₁₃.pin 1 rfl
        refine wpAny_execs_cons (r_unpack S₁₃ Rm'.handled (r_bi B Sp Z.min (wpAny_items_cons (nm_r Sp rfl (wpAny_items_nil ?_)))))
        refine call_min (l := rows.map rowPV) (bt := fun i j => rowLt (rows.getD i row0) (rows.getD j row0)) Rm'.handled Sp (List.mem_cons_of_mem _ (List.mem_cons_self ..)) (by simpa using hlen) ?_ fun v s₉ hv S₁₄ => ?_
        · intro i j vi vj s Q E hi hj h1 h2 h3
          rw [List.length_map] at hi hj
          rw [getD_rows hi] at h1
          rw [getD_rows hj] at h2
          exact rc_lt_row (hu _ Rm') h1 h2 h3
        replace S₁₄ := S₁₄.unpin 1 rfl
        change St C h₀ L' (haLoc wa b ka ra) (haR rc la ra ka rows least known X) s₉ at S₁₄
        have hv' : VR s₉.heap (rowPV m) v := by
          rw [List.length_map, getD_rows (Nat.lt_of_le_of_lt (argBest_lt _ _) (by lia))] at hv
          rw [← hmr]; exact hv
        obtain ⟨ta, to, vs, tn, rfl, hto, htc, htd, hvr⟩ := vr_tuple hv'
        obtain ⟨vl⟩ := vs
        obtain ⟨v0, v1, v2, rfl, g0, g1, g2⟩ := vrs3 (vl := vl) hvr
        refine ⟨ta, #[v0, v1, v2], L', _, _, rfl, ⟨to, hto, htc, tn, htd⟩, by rfl, S₁₄, fun s₁₀ S₁₅ tk => ?_⟩
        refine aio_cons (wpAny_assign_Name (stloc (p := .i (m.1 : Int)) S₁₅.re (VR.tk tk g0) fun s₁₁ S₁₆ => aio_cons (wpAny_assign_Name (stloc (p := .s (toS m.2.1)) S₁₆ (VR.tk (tk.trans S₁₆.tk) g1) fun s₁₂ S₁₇ =>
          aio_cons (wpAny_assign_Name (stloc (p := .s (toS m.2.2)) S₁₇ (VR.tk (tk.trans S₁₇.tk) g2) fun s₁₃ S₁₈ => aio_nil ?_))))))
        let l₃ : List (Str × PV) := haLoc3 wa b ka ra m
        replace S₁₈ := (S₁₈.un S₁₅.tk).weaken (loc' := l₃) ⟨by rfl, by rfl, by rfl, by rfl, by rfl, by rfl, by rfl, trivial⟩
        -- least[rest] = text
        refine wpAny_execs_cons (wpAny_Assign_Subscript (nm_s S₁₈ rfl fun t1 => nm_cellr S₁₈ (List.mem_cons_self ..) (nm_s S₁₈ rfl fun t2 => r_setitem (p := .s (toS m.2.1)) S₁₈ 2 rfl (.str _ _) (by simp; lia) fun s₁₄ S₁₉ => ?_) (by rfl)))
        rw [dset_pvMap] at S₁₉
        change St C h₀ L' (l₃) (haR rc la ra ka rows (mset least m.2.2 m.2.1) known X) s₁₄ at S₁₉
        generalize hl2 : mset least m.2.2 m.2.1 = least2 at S₁₉ hrun1
        have hl2l : least2.length ≤ 1001 := by rw [← hl2]; have := mset_length least m.2.2 m.2.1; lia
        have hrt := hrok.text
        have hrr := hrok.rest
        -- for word in words
        refine wpAny_execs_cons (r_for_list Rm'.handled (nm_r S₁₉ rfl ⟨wa, ow, ws.map sP, _, _, fun j loc' R' => ∃ known, KOk known ∧ known.length ≤ 16 + 8 * i + 2 * j ∧ loc' = l₃ ∧
          R' = haR rc la ra ka (rows ++ (ws.take j).flatMap fun w => ext1 b m w ++ ext2 b m w) least2 known X, rfl, S₁₉, hwm' _ _ _ _, ⟨known, hK, by lia, rfl, by simp⟩, ?_, ?_, ?_⟩))
        · rintro j _ _ ⟨known, _, _, _, rfl⟩; exact hwm' _ _ _ _
        · intro h₁ j pv I ob l1 R1 s₁₅ tk1 hpv hI1 S₂₀
          refine cutQ fun Q₅ hQ₅ => ?_
          obtain ⟨known, hK, hKl, rfl, rfl⟩ := hI1
          obtain ⟨word, hword', rfl⟩ := hword hpv
          obtain ⟨hw0, hw1, hw2⟩ := W.ok word (List.mem_of_getElem? hword')
          have hj := hi4 hword'
          generalize hacc : rows ++ ((ws.take j).flatMap fun w => ext1 b m w ++ ext2 b m w) = acc at S₂₀
          let lw : List (Str × PV) := ("word", sP word) :: l₃
          let eI : Addr × AO := (I, .raw ob)
          let R₄ : List (Addr × AO) := eI :: haR rc la ra ka acc least2 known X
          change St C h₁ L' lw R₄ _ at S₂₀
          have haccl : acc.length ≤ 16 + 8 * i + 8 := by
            have h2 := flat_le (fun w => ext1 b m w ++ ext2 b m w) 2 (ext_len b m) (ws.take j)
            rw [List.length_take] at h2
            rw [← hacc, List.length_append]; lia
          -- the rest begins the word
          refine wpAny_execs_cons (wpAny_mono (Q := fun f s' => f = .next ∧ ∃ known', KOk known' ∧ known'.length ≤ known.length + 1 ∧
            St C h₁ L' lw (eI :: haR rc la ra ka (acc ++ ext1 b m word) least2 known' X) s') ?_ (fun f s' hq => ?_) fun _ _ q => q)
          · refine cutQ fun Q₆ hQ₆ => ?_
            refine wpAny_If (wpAny_isTrue_BoolOp (wpAny_allTrue_And_cons (wpAny_isTrue_Compare1 (nm_s S₂₀ rfl fun t1 => c_t [] S₂₀ fun t2 s₁₆ S₂₁ => r_ne_str (wpAny_truthy_bool ?_)) (by rfl))))
            by_cases hre : m.2.2 = []
            · rw [decide_eq_true hre, if_neg (by simp), if_neg (by simp)]
              have e : ext1 b m word = [] := by unfold ext1; rw [if_neg]; simp [hre]
              refine wpAny_execs_nil (hQ₆ _ _ ⟨rfl, known, hK, by lia, ?_⟩)
              rw [e, List.append_nil]; exact S₂₁
            · rw [decide_eq_false hre, if_pos (by simp)]
              refine wpAny_allTrue_And_cons (wpAny_isTrue_value (r_call B S₂₁ DS hsa (wpAny_items_cons (nm_s S₂₁ rfl fun t3 => wpAny_items_cons (nm_s S₂₁ rfl fun t4 => wpAny_items_cons (nm_b S₂₁ rfl (wpAny_items_cons (nm_r S₂₁ rfl (wpAny_items_nil ⟨S₂₁.top, ?_⟩)))))))))
              refine stands_spec Z DS Rm' S₂₁ (List.mem_cons_of_mem _ (hpm' _ _ _ _)) (i := 4) rfl hK (by lia) hre hrok.signs (by lia) (by lia) fun l' s₁₇ hK' hl' S₂₂ => wpAny_truthy_bool ?_
              let R₅ : List (Addr × AO) := eI :: haR rc la ra ka acc least2 l' X
              change St C h₁ L' lw R₅ s₁₇ at S₂₂
              cases hst : standsT m.2.2 word b with
              | false =>
                refine ifN (by simp) (ifN (by simp) ?_)
                have e : ext1 b m word = [] := by unfold ext1; rw [if_neg]; simp [hst]
                refine wpAny_execs_nil (hQ₆ _ _ ⟨rfl, l', hK', hl', ?_⟩)
                rw [e, List.append_nil]; exact S₂₂
              | true =>
                refine ifY rfl ?_
                refine wpAny_allTrue_And_nil ?_
                refine ifY rfl ?_
                have e : ext1 b m word = [(m.1 + (leftT word m.2.2 b).length, (if b then leftT word m.2.2 b ++ m.2.1 else m.2.1 ++ leftT word m.2.2 b), leftT word m.2.2 b)] := by unfold ext1; rw [if_pos ⟨hre, hst⟩]
                have hml := leftT_len word m.2.2 b
                refine wpAny_execs_cons (wpAny_Assign_Name (r_call B S₂₂ DL hfa (wpAny_items_cons (nm_s S₂₂ rfl fun t5 => wpAny_items_cons (nm_s S₂₂ rfl fun t6 => wpAny_items_cons (nm_b S₂₂ rfl (wpAny_items_nil ⟨S₂₂.top, left_spec B Z.len DL Rm' S₂₂ (standsT_len hst) (by lia) fun t7 s₁₈ S₂₃ => ?_⟩)))))) (by rfl))
                generalize hmore : leftT word m.2.2 b = more at S₂₃ e hml ⊢
                refine stloc (p := .s (toS more)) S₂₃ (.str _ _) fun s₁₉ S₂₄ => ?_
                refine wpAny_execs_cons (r_rowapp (ra := ra) (r := (m.1 + more.length, (if b then more ++ m.2.1 else m.2.1 ++ more), more)) S₂₄ 2 rfl rfl (by lia) ?_ fun s₂₀ S₂₅ => wpAny_execs_nil (hQ₆ _ _ ⟨rfl, l', hK', hl', ?_⟩))
                · refine wpAny_Tuple (wpAny_items_cons (wpAny_BinOp (nm_i S₂₄ rfl fun t8 => r_bi B S₂₄ Z.len (wpAny_items_cons (nm_s S₂₄ rfl fun t9 => wpAny_items_nil (r_len_str S₂₄ (by lia) fun t10 s₂₀ S₂₅ => r_add S₂₅ fun t11 s₂₁ S₂₆ => wpAny_items_cons ?_))))))
                  refine wpAny_mono (Q := fun v s' => ∃ t, v = .str (toS (if b then more ++ m.2.1 else m.2.1 ++ more)) t ∧ St C h₁ L' (("more", sP more) :: lw) R₅ s') ?_ (fun v s' hq => ?_) fun _ _ q => q
                  · refine wpAny_IfExp (wpAny_isTrue_value (nm_b S₂₆ rfl (wpAny_truthy_bool ?_)))
                    cases b with
                    | true =>
                      rw [if_pos rfl, if_pos rfl]
                      exact wpAny_BinOp (nm_s S₂₆ rfl fun t12 => nm_s S₂₆ rfl fun t13 => r_cat S₂₆ (by lia) fun t14 s₂₂ S₂₇ => ⟨t14, rfl, S₂₇⟩)
                    | false =>
                      rw [if_neg Bool.false_ne_true, if_neg Bool.false_ne_true]
                      exact wpAny_BinOp (nm_s S₂₆ rfl fun t12 => nm_s S₂₆ rfl fun t13 => r_cat S₂₆ (by lia) fun t14 s₂₂ S₂₇ => ⟨t14, rfl, S₂₇⟩)
                  · obtain ⟨t12, rfl, S₂₇⟩ := hq
                    exact wpAny_items_cons (nm_s S₂₇ rfl fun t13 => wpAny_items_nil ⟨sz3, vr_row, S₂₇.push _⟩)
                · rw [e]; exact S₂₅.weaken ⟨by rfl, by rfl, by rfl, by rfl, by rfl, by rfl, by rfl, by rfl, trivial⟩
          obtain ⟨rfl, known', hK', hkl', S₂₁⟩ := hq
          -- the word begins the rest
          have haccl2 : (acc ++ ext1 b m word).length ≤ 16 + 8 * i + 9 := by
            have : (ext1 b m word).length ≤ 1 := by unfold ext1; split <;> simp
            rw [List.length_append]; lia
          generalize hacc2 : acc ++ ext1 b m word = acc2 at S₂₁ haccl2
          let R₆ : List (Addr × AO) := eI :: haR rc la ra ka acc2 least2 known' X
          change St C h₁ L' lw R₆ _ at S₂₁
          refine wpAny_execs_cons (wpAny_mono (Q := fun f s' => f = .next ∧ ∃ known'', KOk known'' ∧ known''.length ≤ known'.length + 1 ∧
            St C h₁ L' lw (eI :: haR rc la ra ka (acc2 ++ ext2 b m word) least2 known'' X) s') ?_ (fun f s' hq => ?_) fun _ _ q => q)
          · refine cutQ fun Q₆ hQ₆ => ?_
            refine wpAny_If (wpAny_isTrue_BoolOp (wpAny_allTrue_And_cons (wpAny_isTrue_Compare1 (nm_s S₂₁ rfl fun t1 => c_t [] S₂₁ fun t2 s₁₆ S₂₂ => r_ne_str (wpAny_truthy_bool ?_)) (by rfl))))
            by_cases hre : m.2.2 = []
            · rw [decide_eq_true hre, if_neg (by simp), if_neg (by simp)]
              have e : ext2 b m word = [] := by unfold ext2; rw [if_neg]; simp [hre]
              refine wpAny_execs_nil (hQ₆ _ _ ⟨rfl, known', hK', by lia, ?_⟩)
              rw [e, List.append_nil]; exact S₂₂
            · rw [decide_eq_false hre, if_pos (by simp)]
              refine wpAny_allTrue_And_cons (wpAny_isTrue_value (r_call B S₂₂ DS hsa (wpAny_items_cons (nm_s S₂₂ rfl fun t3 => wpAny_items_cons (nm_s S₂₂ rfl fun t4 => wpAny_items_cons (nm_b S₂₂ rfl (wpAny_items_cons (nm_r S₂₂ rfl (wpAny_items_nil ⟨S₂₂.top, ?_⟩)))))))))
              refine stands_spec Z DS Rm' S₂₂ (List.mem_cons_of_mem _ (hpm' _ _ _ _)) (i := 4) rfl hK' (by lia) hw0 hw2 (by lia) (by lia) fun l' s₁₇ hK'' hl' S₂₃ => wpAny_truthy_bool ?_
              let R₇ : List (Addr × AO) := eI :: haR rc la ra ka acc2 least2 l' X
              change St C h₁ L' lw R₇ s₁₇ at S₂₃
              cases hst : standsT word m.2.2 b with
              | false =>
                refine ifN (by simp) (ifN (by simp) ?_)
                have e : ext2 b m word = [] := by unfold ext2; rw [if_neg]; simp [hst]
                refine wpAny_execs_nil (hQ₆ _ _ ⟨rfl, l', hK'', hl', ?_⟩)
                rw [e, List.append_nil]; exact S₂₃
              | true =>
                refine ifY rfl ?_
                refine wpAny_allTrue_And_nil ?_
                refine ifY rfl ?_
                have e : ext2 b m word = [(m.1, m.2.1, leftT m.2.2 word b)] := by unfold ext2; rw [if_pos ⟨hre, hst⟩]
                refine wpAny_execs_cons (r_rowapp (ra := ra) (r := (m.1, m.2.1, leftT m.2.2 word b)) S₂₃ 2 rfl rfl (by lia) ?_ fun s₂₀ S₂₅ => wpAny_execs_nil (hQ₆ _ _ ⟨rfl, l', hK'', hl', ?_⟩))
                · exact wpAny_Tuple (wpAny_items_cons (nm_i S₂₃ rfl fun t8 => wpAny_items_cons (nm_s S₂₃ rfl fun t9 => wpAny_items_cons (r_call B S₂₃ DL hfa (wpAny_items_cons (nm_s S₂₃ rfl fun t5 => wpAny_items_cons (nm_s S₂₃ rfl fun t6 => wpAny_items_cons (nm_b S₂₃ rfl
                    (wpAny_items_nil ⟨S₂₃.top, left_spec B Z.len DL Rm' S₂₃ (standsT_len hst) (by lia) fun t7 s₁₈ S₂₄ => wpAny_items_nil ⟨sz3, vr_row, S₂₄.push _⟩⟩)))))))))
                · rw [e]; exact S₂₅
          obtain ⟨rfl, known'', hK'', hkl'', S₂₂⟩ := hq
          refine wpAny_execs_nil (hQ₅ .next _ ⟨_, _, ⟨known'', hK'', by lia, rfl, ?_⟩, S₂₂.weaken ⟨by rfl, by rfl, by rfl, by rfl, by rfl, by rfl, by rfl, trivial⟩⟩)
          rw [htake hword', ← hacc2, ← hacc]; simp only [List.append_assoc]
        · rintro _ _ s₁₅ ⟨known, hK, hKl, rfl, rfl⟩ S₂₀
          rw [List.length_map, List.take_length] at S₂₀
          rw [List.length_map] at hKl
          have hw4 := W.len
          change St C h₀ L' (l₃) (haR rc la ra ka (rows ++ extRows ws b m) least2 known X) s₁₅ at S₂₀
          have hal : (rows ++ extRows ws b m).length ≤ 100000 := by
            have h2 : (extRows ws b m).length ≤ 2 * ws.length := flat_le (fun w => ext1 b m w ++ ext2 b m w) 2 (ext_len b m) ws
            rw [List.length_append]; lia
          generalize hall : rows ++ extRows ws b m = all at S₂₀ hrun1 hal
          -- rows = [row for row in rows if row[2] not in least]
          obtain ⟨oall, Sp2⟩ := S₂₀.pin 1 rfl
          refine wpAny_execs_cons (r_asgcomp (cl := [(("least" : Str), (L' + 1))]) (by rfl) (by rfl) (by decide) rfl (by decide) (by rfl) rfl (by rfl) (nm_r Sp2 rfl (wk_list Rm'.handled Sp2 (List.mem_cons_of_mem _ (List.mem_cons_self ..)) fun I o₁ s₁₆ S₂₁ WI => ?_)))
          refine ⟨I, (all.map rowPV).length, _, o₁, _, h₀, _, _, fun j => ((all.take j).filter fun r => (mget least2 r.2.2).isNone).map rowPV, rfl, S₂₁, WI, ?_, by simp; lia, by simp, ?_, ?_, ?_⟩
          · intro p hp
            rw [List.mem_singleton.mp hp]; exact List.mem_cons_of_mem _ (List.mem_cons_self ..)
          · intro j hj
            have h1 := List.length_filter_le (fun r : Row => (mget least2 r.2.2).isNone) (all.take j)
            rw [List.length_take] at h1
            rw [List.length_map]; lia
          · intro j Cc D' o s₁₇ hj S₂₂
            rw [List.length_map] at hj
            try dsimp only at S₂₂ ⊢
            rw [getD_rows hj] at S₂₂ ⊢
            have hsucc : all.take (j + 1) = all.take j ++ [all.getD j row0] := by
              rw [List.take_succ_eq_append_getElem hj, List.getD_eq_getElem?_getD, List.getElem?_eq_getElem hj]; rfl
            generalize hr : all.getD j row0 = r at S₂₂ hsucc ⊢
            refine tests_one (wpAny_isTrue_Compare1 (Subscript_Constant (nm S₂₂ rfl (fun v hv => c_i S₂₂.re fun t1 s₁₈ S₂₃ => ?_) (by rfl) (by rfl))) (by rfl))
            refine item_tup (ds := [.int (r.1 : Int), .str (toS r.2.1), .str (toS r.2.2)]) (i := 2) (d := .str (toS r.2.2)) (s := s₁₈) ?_ rfl (by lia) fun x hx => ?_
            · exact VR.tk S₂₃.tk hv
            · obtain ⟨t2, rfl⟩ := vr_str hx
              have hlm : ∀ (p q r p1 p2 : Addr × AO) (X : List (Addr × AO)), (la, AO.dict (pvMap least2)) ∈ p :: q :: r :: p1 :: p2 :: (la, AO.dict (pvMap least2)) :: X := fun p q r p1 p2 X => List.mem_of_getElem? (i := 5) rfl
              have hcm : ∀ (p q r : Addr × AO) (X : List (Addr × AO)), ((L' + 1), AO.cell (some (.ref la))) ∈ p :: q :: r :: ((L' + 1), AO.cell (some (.ref la))) :: X := fun p q r X => List.mem_of_getElem? (i := 3) rfl
              refine nm_cellr S₂₃ (hcm _ _ _ _) (r_notin_dict Z.sys S₂₃ (hlm _ _ _ _ _ _) (S₂₃.getOK (hlm _ _ _ _ _ _)) fun s₁₉ S₂₄ => wpAny_truthy_bool ?_) (by rfl) (by rfl) (by rfl)
              rw [dget_pvMap, Option.isSome_map]
              cases hg : mget least2 r.2.2 with
              | none =>
                refine ifY (by rfl) ?_
                refine nm S₂₄ rfl (fun v2 hv2 => ⟨rowPV r, hv2, ?_, S₂₄.un S₂₂.tk⟩) (by rfl) (by rfl)
                rw [hsucc, List.filter_append, List.map_append]
                simp [hg]
              | some y =>
                refine ifN (by simp) ?_
                refine ⟨?_, S₂₄.un S₂₂.tk⟩
                rw [hsucc, List.filter_append]
                simp [hg]
          · intro D' s₁₇ S₂₂
            refine wpAny_execs_nil (hQ₄ .next _ ⟨N - (i + 1), _, _, by lia, ⟨i + 1, D', known, by lia, hK, by lia, rfl, rfl⟩, ?_⟩)
            rw [hrun1]
            try dsimp only at S₂₂
            rw [List.length_map, List.take_length] at S₂₂
            have S₂₃ := (S₂₂.perm (List.Perm.swap _ _ _)).sub (.cons_cons _ (.cons_cons _ (List.sublist_cons_self ..)))
            exact S₂₃.weaken ⟨by rfl, by rfl, by rfl, by rfl, trivial⟩
      · have hiN' : i = N := by lia
        subst hiN'
        refine ifN (by simp [hend]) ?_
        refine wpAny_execs_cons (wpAny_Return_some (nm_cellr S₁₃ (List.mem_cons_self ..) ?_ (by rfl)))
        refine h la s₈ ?_
        have eRp : Rp[iw]? = some (wa, AO.pin ow (.list (ws.map sP))) := by
          rw [← hRp, List.getElem?_set]; have := (List.getElem?_eq_some_iff.mp ew).1; simp [this]
        have S₁₄ := S₁₃.unpin (iw + 5) eRp
        have S₁₅ : St C h₀ L' (haLoc wa b ka ra) (haR rc la ra ka (hrun ws b i).1 (hrun ws b i).2 known ((L, .ns loc) :: R)) s₈ := by
          rw [← hset]; exact S₁₄
        exact (St.back (X := []) (S₁₅.pull 4 rfl)).sub (.cons _ (.cons _ (.cons_cons _ (List.sublist_cons_self ..))))
end
end Mine

namespace Mine

open PySem PySem.W PyProof.Rows PySem.Calls

/-! ### what law_fingersu_ computes, with no program in sight -/
section
variable {V : Type}
noncomputable abbrev pvM (f : V → PV) (l : List (T × V)) : List (Str × PV) := l.map fun kv => (toS kv.1, f kv.2)
theorem dget_pvM (f : V → PV) (l : List (T × V)) (k : T) : dget (pvM f l) (toS k) = (mget l k).map f := by
  induction l with
  | nil => rfl
  | cons x r ih =>
    rw [mget_cons]
    unfold dget at ih ⊢
    show Option.map _ (List.find? _ ((toS x.1, f x.2) :: pvM f r)) = _
    rw [List.find?_cons]
    by_cases h : x.1 = k
    · simp [h]
    · have : ¬ toS x.1 = toS k := by rwa [toS_inj]
      simp only [this, decide_false, h, if_false]
      exact ih
theorem dset_pvM (f : V → PV) (l : List (T × V)) (k : T) (v : V) : dset (pvM f l) (toS k) (f v) = pvM f (mset l k v) := by
  unfold dset mset
  have : (pvM f l).any (fun kv => decide (kv.1 = toS k)) = l.any fun kv => decide (kv.1 = k) := by
    rw [List.any_map]; congr 1; funext x; simp
  rw [this]
  split
  · show ((l.map _).map _) = (l.map _).map _
    rw [List.map_map, List.map_map]
    refine List.map_congr_left fun x _ => ?_
    by_cases h : x.1 = k
    · simp [h]
    · simp [h]
  · simp
theorem mget_mem {l : List (T × V)} {k : T} {v : V} (h : mget l k = some v) : (k, v) ∈ l := by
  induction l with
  | nil => cases h
  | cons x r ih =>
    rw [mget_cons] at h
    split at h
    · rename_i e
      cases h; rw [← e]; exact List.mem_cons_self ..
    · exact List.mem_cons_of_mem _ (ih h)
theorem mget_of_mem {l : List (T × V)} (hn : (l.map (·.1)).Nodup) {k : T} {v : V} (h : (k, v) ∈ l) : mget l k = some v := by
  induction l with
  | nil => cases h
  | cons x r ih =>
    rw [mget_cons]
    obtain ⟨n1, n2⟩ := List.nodup_cons.mp hn
    rcases List.mem_cons.mp h with e | e
    · rw [← e]; simp
    · have : x.1 ≠ k := fun q => n1 (by show x.1 ∈ _; rw [q]; exact List.mem_map_of_mem (f := (·.1)) e)
      rw [if_neg this]; exact ih n2 e
theorem mset_keys (l : List (T × V)) (k : T) (v : V) : (mset l k v).map (·.1) = if l.any (fun kv => decide (kv.1 = k)) then l.map (·.1) else l.map (·.1) ++ [k] := by
  unfold mset
  split
  · rw [List.map_map]
    refine List.map_congr_left fun x _ => ?_
    by_cases h : x.1 = k <;> simp [h]
  · simp
theorem mset_nodup {l : List (T × V)} (hn : (l.map (·.1)).Nodup) (k : T) (v : V) : ((mset l k v).map (·.1)).Nodup := by
  rw [mset_keys]
  split
  · exact hn
  · rename_i h
    refine List.nodup_append.mpr ⟨hn, by simp, fun x hx y hy e => h ?_⟩
    rw [List.mem_singleton.mp hy] at e
    obtain ⟨z, hz, e2⟩ := List.mem_map.mp hx
    exact List.any_eq_true.mpr ⟨z, hz, by simp [e2, e]⟩
theorem mset_key_mem {l : List (T × V)} {k x : T} {v : V} (h : x ∈ (mset l k v).map (·.1)) : x ∈ l.map (·.1) ∨ x = k := by
  rw [mset_keys] at h
  split at h
  · exact .inl h
  · rcases List.mem_append.mp h with h | h
    · exact .inl h
    · exact .inr (List.mem_singleton.mp h)
theorem mset_mem {l : List (T × V)} {k : T} {v : V} {e : T × V} (h : e ∈ mset l k v) : e ∈ l ∨ e = (k, v) := by
  unfold mset at h
  split at h
  · obtain ⟨x, hx, rfl⟩ := List.mem_map.mp h
    split
    · rename_i q; rw [q]; exact .inr rfl
    · exact .inl hx
  · rcases List.mem_append.mp h with h | h
    · exact .inl h
    · exact .inr (List.mem_singleton.mp h)
end

/-- a list with nothing twice is no longer than one that holds it -/
theorem nodup_le {α : Type} [DecidableEq α] : ∀ {l m : List α}, l.Nodup → (∀ x ∈ l, x ∈ m) → l.length ≤ m.length
  | [], _, _, _ => Nat.zero_le _
  | x :: l, m, hn, hs => by
    obtain ⟨n1, n2⟩ := List.nodup_cons.mp hn
    have hx := hs x (List.mem_cons_self ..)
    have h1 : l.length ≤ (m.erase x).length := nodup_le n2 fun y hy => by
      have hy' := hs y (List.mem_cons_of_mem _ hy)
      have hne : y ≠ x := fun e => n1 (e ▸ hy)
      exact (List.mem_erase_of_ne hne).mpr hy'
    have h2 := List.length_erase_of_mem hx
    have h3 : 0 < m.length := List.length_pos_of_mem hx
    rw [List.length_cons]; lia

noncomputable def KEY (a b : T) : T := a ++ [32] ++ b
noncomputable def tmin (a b : T) : T := if b < a then b else a
noncomputable def tmax (a b : T) : T := if b > a then b else a
noncomputable def lt2 (x y : T) : Bool := if x.length = y.length then decide (x < y) else decide (x.length < y.length)
noncomputable def sp (k : T) : T × T := (k.takeWhile (fun c => c != 32), (k.dropWhile (fun c => c != 32)).drop 1)
theorem sp_KEY {a b : T} (ha : 32 ∉ a) : sp (KEY a b) = (a, b) := by
  have h1 : ∀ a : T, 32 ∉ a → (a ++ [32] ++ b).takeWhile (fun c => c != 32) = a ∧ ((a ++ [32] ++ b).dropWhile (fun c => c != 32)).drop 1 = b := fun a => by
    induction a with
    | nil => intro _; simp
    | cons c r ih =>
      intro h
      have hc : c ≠ 32 := fun e => h (by rw [e]; exact List.mem_cons_self ..)
      have := ih fun hr => h (List.mem_cons_of_mem _ hr)
      simp only [List.cons_append, List.takeWhile_cons, List.dropWhile_cons]
      have hb : (c != 32) = true := by simp [hc]
      rw [hb]
      exact ⟨by simp only [if_true, this.1], by simp only [if_true, this.2]⟩
  unfold sp KEY
  rw [(h1 a ha).1, (h1 a ha).2]
noncomputable def fEmit (first : List (T × T)) (text rest one other : T) : List (T × T) :=
  if (one = [] ∨ other = []) ∧ (match mget first rest with | none => true | some f => lt2 (text ++ rest) f) = true then mset first rest (text ++ rest) else first
noncomputable def fPairs (ws : List T) (one other rest : T) : List (T × T) := if one ≠ [] ∧ other ≠ [] then [(one, other)] else if rest ≠ [] then ws.map (fun w => (w, rest)) else []
noncomputable def fKey (p : T × T) : T := KEY (tmin p.1 p.2) (tmax p.1 p.2)
noncomputable def fPush (seen : List (T × Unit)) (text : T) (deeper : List (T × T)) (p : T × T) : List (T × T) :=
  if mget seen (fKey p) = none ∧ (match mget deeper (fKey p) with | none => true | some d => decide (text < d)) = true then mset deeper (fKey p) text else deeper
noncomputable abbrev FS := List (T × T) × List (T × T)
noncomputable def fTurn (ws : List T) (seen : List (T × Unit)) (acc : FS) (e : T × T) : FS :=
  if (sp e.1).1.headD 0 = (sp e.1).2.headD 0 then
    (fEmit acc.1 (e.2 ++ [(sp e.1).1.headD 0]) ((sp e.1).1.drop 1 ++ (sp e.1).2.drop 1) ((sp e.1).1.drop 1) ((sp e.1).2.drop 1),
      (fPairs ws ((sp e.1).1.drop 1) ((sp e.1).2.drop 1) ((sp e.1).1.drop 1 ++ (sp e.1).2.drop 1)).foldl (fPush seen (e.2 ++ [(sp e.1).1.headD 0])) acc.2)
  else acc
noncomputable def fSeen (seen : List (T × Unit)) (level : List (T × T)) : List (T × Unit) := level.foldl (fun s e => mset s e.1 ()) seen
noncomputable def level0 (ws : List T) : List (T × T) := ws.foldl (fun d one => ws.foldl (fun d other => if one < other then mset d (KEY one other) [] else d) d) []
structure FX where
  first : List (T × T)
  seen : List (T × Unit)
  level : List (T × T)
noncomputable def fStep (ws : List T) (x : FX) : FX :=
  ⟨(x.level.foldl (fTurn ws (fSeen x.seen x.level)) (x.first, [])).1, fSeen x.seen x.level, (x.level.foldl (fTurn ws (fSeen x.seen x.level)) (x.first, [])).2⟩
noncomputable def frun (ws : List T) : Nat → FX
  | 0 => ⟨[], [], level0 ws⟩
  | n + 1 => fStep ws (frun ws n)
end Mine

namespace Mine

open PySem PySem.W PyProof.Rows PySem.Calls

section
variable {C : Cfg} {h₀ : Heap} {L : Addr} {loc : List (Str × PV)} {R : List (Addr × AO)} {s : Shared} {A : Around} {E : Value → Shared → Prop} {mg mb : Str → Option Value} {env : Env} {prog : Program} {w : World}

/-! ### a list taken apart -/
theorem draw_walk {I D : Addr} {items : Array Value} (W : Walks prog w A I [I, D] [I] items.size (fun i v => items[i]? = some v) (fun i h => h.IsListIter I D i ∧ h.IsList D items)) :
    ∀ (n i : Nat) (s : Shared) (Q : List Value → Shared → Prop), i + n ≤ items.size → (s.heap.IsListIter I D i ∧ s.heap.IsList D items) →
    (∀ h' tk, (h'.IsListIter I D (i + n) ∧ h'.IsList D items) → (∀ b o, b ≠ I → s.heap.get? b = some o → h'.get? b = some o) → Q ((items.toList.drop i).take n) { s with heap := h', toks := tk }) →
    wpAny (model prog w) A (draw (.ref I) n) Q E s
  | 0, i, s, Q, _, hst, hQ => by
    show wpAny _ _ (pure []) Q E s
    exact wpAny_pure (by simpa using hQ s.heap s.toks hst fun _ _ _ e => e)
  | n + 1, i, s, Q, hle, hst, hQ => by
    show wpAny _ _ (pyNext (.ref I) >>= _) Q E s
    refine wpAny_bind (W.item i s _ _ (by lia) hst fun v h' tk hv hst' hk => ?_)
    dsimp only
    refine wpAny_bind (wpAny_holding (draw_walk W n (i + 1) _ _ (by lia) hst' fun h₂ tk₂ hst₂ hk₂ => wpAny_pure ?_))
    have hd : items.toList.drop i = v :: items.toList.drop (i + 1) := by
      have h1 : i < items.toList.length := by simp; lia
      rw [List.drop_eq_getElem_cons h1]
      have : items.toList[i] = v := by
        have h2 : i < items.size := by lia
        rw [Array.getElem?_eq_getElem h2] at hv
        simpa using hv
      rw [this]
    have := hQ h₂ tk₂ (by rw [show i + (n + 1) = i + 1 + n by lia]; exact hst₂) fun b o hb e => hk₂ b o hb (hk b o (by simpa using hb) e)
    rw [hd, List.take_succ_cons] at this
    exact this
theorem unpack_list {D : Addr} {items : Array Value} {Q : List Value → Shared → Prop} (hh : A.handled = none) (hl : s.heap.IsList D items)
    (hQ : ∀ h' tk, (∀ b o, s.heap.get? b = some o → h'.get? b = some o) → Q items.toList { s with heap := h', toks := tk }) : wpAny (model prog w) A (unpackItems (.ref D) items.size none) Q E s := by
  have hT : s.TypeIs (.ref D) "list" := by obtain ⟨o, ho, hc, _⟩ := hl; exact ⟨o, ho, hc⟩
  have hlt : D ≠ s.heap.objs.size := by obtain ⟨o, ho, _⟩ := hl; exact Nat.ne_of_lt (Heap.lt_size ho)
  have W := Walks.list (prog := prog) (w := w) hh s.heap.objs.size D hlt items
  unfold unpackItems
  refine wpAny_bind ?_
  unfold notIterableAtAll
  refine wpAny_bind (wpAny_specialOf hT F.slot_list_iter.lookup ?_)
  refine wpAny_pure ?_
  simp only [Bool.false_eq_true, if_false]
  refine wpAny_bind (wpAny_holding (wpAny_pyIter_list hl ?_))
  refine wpAny_bind (wpAny_holding (draw_walk W items.size 0 _ _ (by lia) ⟨⟨_, Heap.get?_push_size _ rfl, rfl, rfl⟩, hl.push _⟩ fun h₁ tk₁ hst₁ hk₁ => ?_))
  have hall : List.take items.size (List.drop 0 items.toList) = items.toList := by
    rw [List.drop_zero]; exact List.take_of_length_le (by simp)
  rw [hall, if_neg (by simp)]
  rw [Nat.zero_add] at hst₁
  refine wpAny_bind (wpAny_holding (W.done _ _ _ hst₁ fun h₂ tk₂ hk₂ => ?_))
  simp only [Option.isSome_none, Bool.false_eq_true, if_false]
  exact wpAny_pure (hQ h₂ tk₂ fun b o e => by
    have hb : b ≠ s.heap.objs.size := Nat.ne_of_lt (Heap.lt_size e)
    exact hk₂ b o (by simpa using hb) (hk₁ b o hb (Heap.get?_push_of_some _ e)))
inductive UnpackLK (C : Cfg) (A : Around) (env : Env) (elts : List Expr) (Q : Flow → Shared → Prop) (E : Value → Shared → Prop) (v : Value) (s₁ : Shared) : Prop
  | mk (a : Addr) (items : Array Value) (h₀ : Heap) (L : Addr) (loc : List (Str × PV)) (R : List (Addr × AO))
    (e0 : v = .ref a)
    (e1 : s₁.heap.IsList a items)
    (e2 : (assignEach elts env).length = items.size)
    (e3 : St C h₀ L loc R s₁)
    (e4 : (∀ s₂, St C h₀ L loc R s₂ → TK s₁.heap s₂.heap → wpAny (model C.prog C.w) A (assignInOrder ((assignEach elts env).map (·.2)) items.toList) (fun _ => Q .next) E s₂)) : UnpackLK C A env elts Q E v s₁

/-- a, b, .. = <list>, name by name -/
theorem r_unpackL {elts : List Expr} {k : Nat} {tpos pos : Pos} {value : Expr} {Q : Flow → Shared → Prop} (hh : A.handled = none)
    (h : wpAny (model C.prog C.w) A (eval value env) (UnpackLK C A env elts Q E) E s)
    (hstar : autoParam ((assignEach elts env).findIdx? (·.1) = none) rflT)
    (hs : autoParam (swapsWithSole [.Tuple elts k tpos] value pos.line env = pure false) rflT) (hw : autoParam (swappedStores [.Tuple elts k tpos] value env = pure none) rflT) :
    wpAny (model C.prog C.w) A (exec (.Assign [.Tuple elts k tpos] value pos) env) Q E s := by
  refine wpAny_Assign_stores (wpAny_mono h (fun v s₁ q => ?_) fun _ _ q => q) hs hw
  obtain ⟨a, items, h₀, L, loc, R, rfl, ht, hn, S, q⟩ := q
  show wpAny _ A (assign (.Tuple elts k tpos) env (.ref a)) _ E s₁
  rw [arm_assign_Tuple]
  refine wpAny_bind (wpAny_standAt ?_)
  unfold unpack
  rw [hn, hstar]
  exact wpAny_bind (wpAny_holding (unpack_list hh ht fun h' tk kp => q _ (S.keeps kp) (TK.of_keeps kp)))

/-! ### the parts of a state -/
noncomputable def jT : List T → T
  | [] => []
  | [x] => x
  | x :: y :: r => KEY x (jT (y :: r))
theorem join_jT : ∀ l : List T, Str.join (toS [32]) (l.map toS) = toS (jT l)
  | [] => rfl
  | [x] => rfl
  | x :: y :: r => by
    have ih := join_jT (y :: r)
    show toS x ++ toS [32] ++ Str.join (toS [32]) ((y :: r).map toS) = _
    rw [ih, toS_append, toS_append]; rfl
theorem jT_two {ps : List T} {a b : T} (hf : ∀ p ∈ ps, 32 ∉ p) (ha : 32 ∉ a) (hb : 32 ∉ b) (h : jT ps = KEY a b) : ps = [a, b] := by
  have hk : (32 : Nat) ∈ KEY a b := by unfold KEY; simp
  match ps, hf, h with
  | [], _, h => rw [← h] at hk; cases hk
  | [p], hf, h => rw [← h] at hk; exact absurd hk (hf p (List.mem_cons_self ..))
  | p :: q :: r, hf, h =>
    have e1 := congrArg sp h
    rw [show jT (p :: q :: r) = KEY p (jT (q :: r)) from rfl, sp_KEY (hf p (List.mem_cons_self ..)), sp_KEY ha] at e1
    have e2 : p = a := congrArg Prod.fst e1
    have e3 : jT (q :: r) = b := congrArg Prod.snd e1
    cases r with
    | nil => rw [e2, ← e3]; rfl
    | cons z r =>
      exfalso
      apply hb
      rw [← e3, show jT (q :: z :: r) = KEY q (jT (z :: r)) from rfl]
      unfold KEY; simp
theorem split_KEY {a b : T} (ha : 32 ∉ a) (hb : 32 ∉ b) : Txt.split (toS (KEY a b)) (toS [32]) = [toS a, toS b] := by
  have h1 := StrLaws.join_split (toS (KEY a b)) (toS [32])
  have h2 := StrLaws.split_free (toS (KEY a b)) 32
  have e0 : (⟨#[32]⟩ : Str) = toS [32] := rfl
  rw [e0] at h2
  generalize Txt.split (toS (KEY a b)) (toS [32]) = ps at h1 h2
  have e1 : ps = (ps.map fun p => p.cps.toList).map toS := by
    rw [List.map_map]
    conv => lhs; rw [← List.map_id ps]
    exact List.map_congr_left fun p _ => toS_of p
  rw [e1, join_jT, toS_inj] at h1
  have := jT_two (fun p hp => by
    obtain ⟨q, hq, rfl⟩ := List.mem_map.mp hp
    exact h2 q hq) ha hb h1
  rw [e1, this]; rfl
/-- state.split(' ') -/
theorem call_split {a b : T} {t u : Tok} {Q : Value → Shared → Prop} (S : St C h₀ L loc R s) (ha : 32 ∉ a) (hb : 32 ∉ b) (hz : (KEY a b).length ≤ 1000)
    (h : ∀ D t1 t2 s', St C h₀ L loc R s' → s'.heap.IsList D #[.str (toS a) t1, .str (toS b) t2] → Q (.ref D) s') :
    wpAny (model C.prog C.w) A (call (.builtin "str.split") [.str (toS (KEY a b)) t, .str (toS [32]) u]) Q E s := by
  have hsp := split_KEY ha hb
  refine SCG.split1 stKept S rfl (fun D l s' hl S' hL => ?_) (by rw [toS_length, sizeT]; lia) ?_
  · rw [hsp] at hl
    match l, hl with
    | [(x, t1), (y, t2)], hl =>
      simp only [List.map_cons, List.map_nil, List.cons.injEq, and_true] at hl
      obtain ⟨rfl, rfl⟩ := hl
      exact h D t1 t2 s' S' hL
  · have := StrLaws.occ_length_le (toS (KEY a b)) (toS [32]) 0 (toS (KEY a b)).length ((toS (KEY a b)).length + 1)
    rw [PyProof.Rows.len_partsBetween, sizeT]
    rw [toS_length] at this ⊢
    lia
end
end Mine

namespace Mine
open PySem PySem.W PyProof.Rows PySem.Calls

section
variable {C : Cfg} {h₀ : Heap} {L : Addr} {loc : List (Str × PV)} {R : List (Addr × AO)} {s : Shared} {A : Around} {E : Value → Shared → Prop} {mg mb : Str → Option Value} {env : Env}

theorem newNotSys (hsys : ∃ o, C.top.get? mainGlobals = some o) (S : St C h₀ L loc R s) : (s.heap.objs.size == sysModules) = false := by
  exact beq_eq_false_iff_ne.mpr (Nat.ne_of_gt (Nat.lt_trans S.offL.2 S.loc.lt))
/-- d != {} -/
theorem tst_dict_ne {x : Str} {a : Addr} {l : List (Str × PV)} {p1 p2 p3 : Pos} (hsys : ∃ o, C.top.get? mainGlobals = some o) (hu : A.units < cLine) (hx : loc.lookup x = some (.ref a)) (hm : (a, AO.dict l) ∈ R)
    (hk : autoParam (env.scope.kind = .function) rflT) (hl : autoParam (env.kindOf x = some .local) rflT) (hd : autoParam ((x == ("__debug__" : Str)) = false) decT) :
    Tst C h₀ env.locals loc R A env (.Compare (.Name x p1) [.NotEq] [.Dict [] [] p2] p3) (!decide (l = [])) := fun s E Q S h => by
  refine wpAny_isTrue_Compare1 (nm_r S hx (wpAny_Dict_empty ?_) hk hl hd) (by rfl)
  have S1 := S.push { cls := .type "dict", data := .dict #[] }
  obtain ⟨kvs, hd, hr⟩ := S1.getOK hm
  refine keq_ne (kb := []) (r := decide (l = [])) (S.notSys hsys hm) (newNotSys hsys S) hd (Heap.DictOf.new _) hu (fun e => ?_) (wpAny_truthy_bool ?_)
  · have hl0 : l = [] := by
      have := hr.length
      rw [e] at this
      exact List.length_eq_zero_iff.mp this.symm
    have hk0 : kvs = [] := List.length_eq_zero_iff.mp e
    rw [hk0, decide_eq_true hl0]
    exact .nil
  · have e : (kvs.length == ([] : List (Str × Value)).length && decide (l = [])) = decide (l = []) := by
      rw [hr.length]
      cases l <;> simp
    rw [e]
    exact h _ S1

inductive ForDictK (C : Cfg) (h₀ : Heap) (A : Around) (env : Env) (x : Str) (body : List Stmt) (Q : Flow → Shared → Prop) (v : Value) (s₁ : Shared) : Prop
  | mk (a : Addr) (o : Obj) (l : List (Str × PV)) (loc : List (Str × PV)) (R : List (Addr × AO)) (P : Nat → List (Str × PV) → List (Addr × AO) → Prop)
    (e0 : v = .ref a)
    (e1 : St C h₀ env.locals loc R s₁)
    (e2 : (a, AO.pin o (.dict l)) ∈ R)
    (e3 : P 0 loc R)
    (e4 : (∀ i loc R', P i loc R' → (a, AO.pin o (.dict l)) ∈ R'))
    (e5 : (∀ h₁ i k v I ob loc' R' s', TK h₀ h₁ → l[i]? = some (k, v) → P i loc' R' → St C h₁ env.locals ((x, .s k) :: loc') ((I, .raw ob) :: R') s' →
        wpAny (model C.prog C.w) A (execs body env) (fun f s₃ => match f with
          | .next | .cont => ∃ loc'' R'', P (i + 1) loc'' R'' ∧ St C h₁ env.locals loc'' ((I, .raw ob) :: R'') s₃
          | .brk => Q .next s₃
          | .ret v => Q (.ret v) s₃) (fun _ _ => False) s'))
    (e6 : (∀ loc' R' s', P l.length loc' R' → St C h₀ env.locals loc' R' s' → Q .next s')) : ForDictK C h₀ A env x body Q v s₁

/-- for x in d, a dict that the ledger pins -/
theorem r_for_dict {x : Str} {px pos : Pos} {iter : Expr} {body : List Stmt} {Q : Flow → Shared → Prop} (hsys : ∃ o, C.top.get? mainGlobals = some o) (hh : A.handled = none)
    (h : wpAny (model C.prog C.w) A (eval iter env) (ForDictK C h₀ A env x body Q) E s)
    (hs : ∀ v, foldedSetIterable iter env v = pure v := by intro _; rfl)
    (hk : autoParam (env.scope.kind = .function) rflT) (hl : autoParam (env.kindOf x = some .local) rflT) :
    wpAny (model C.prog C.w) A (exec (.For (.Name x px) iter body [] pos) env) Q E s := by
  refine wpAny_For (wpAny_mono h (fun v s₁ q => ?_) fun _ _ q => q) hs
  obtain ⟨a, o, l, loc, R, P, rfl, S, hm, h0, hP, turn, done⟩ := q
  refine wk_dict hh hsys S hm fun I o₁ s₂ S₂ W => ?_
  refine for_core (L := env.locals) S₂ W P h0 (fun i loc' R' hp p hpm => ?_) (fun i v ob loc' R' s' hi hv hp S' => ?_) fun loc' R' s' hp S' => done loc' R' s' hp S'
  · rw [List.mem_singleton.mp hpm]; exact hP i loc' R' hp
  · have hpv : l[i]? = some (l.getD i (Str.empty, .n)) := by rw [List.getD_eq_getElem?_getD, List.getElem?_eq_getElem hi]; rfl
    refine wpAny_assign_Name (stloc (p := .s (l.getD i (Str.empty, .n)).1) S' hv (fun s'' S'' => ?_) hk hl)
    exact turn _ i _ _ I ob loc' R' s'' S₂.tk hpv hp S''

/-! ### min and max of two texts -/
noncomputable def pairPV (p : T × T) : PV := .dat (.tuple [.str (toS p.1), .str (toS p.2)])
theorem pair_obj {h : Heap} {p : T × T} {v : Value} (hv : VR h (pairPV p) v) : ∃ a t1 t2, v = .ref a ∧ h.IsTuple a #[.str (toS p.1) t1, .str (toS p.2) t2] := by
  obtain ⟨a, o, vs, n, rfl, ho, hc, hd, hr⟩ := vr_tuple hv
  obtain ⟨vl⟩ := vs
  match vl, hr with
  | [v0, v1], ⟨h0, h1, _⟩ =>
  obtain ⟨t0, rfl⟩ := vr_str h0
  obtain ⟨t1, rfl⟩ := vr_str h1
  exact ⟨a, t0, t1, rfl, o, ho, hc, n, hd⟩
theorem rc_gt_str {prog : Program} {w : World} {a b : T} {t u : Tok} {Q : Value → Shared → Prop} (h : Q (.bool (decide (b < a))) s) : wpAny (model prog w) A (richCompare .Gt (.str (toS a) t) (.str (toS b) u)) Q E s := by
  refine PySem.P.gt_str ?_
  rw [toS_cps, toS_cps]; exact h
theorem call_minP {p : T × T} {v : Value} {Q : Value → Shared → Prop} (hh : A.handled = none) (S : St C h₀ L loc R s) (hv : VR s.heap (pairPV p) v) (h : ∀ t s', St C h₀ L loc R s' → Q (.str (toS (tmin p.1 p.2)) t) s') :
    wpAny (model C.prog C.w) A (call (.builtin "min") [v]) Q E s := by
  obtain ⟨a, t1, t2, rfl, ht⟩ := pair_obj hv
  have hlt : a ≠ s.heap.objs.size := by obtain ⟨o, ho, _⟩ := ht; exact Nat.ne_of_lt (Heap.lt_size ho)
  have S1 := S.pushed (x := .raw { cls := .type "tuple_iterator", data := .fields #[.ref a, .int 0 0] }) (o := { cls := .type "tuple_iterator", data := .fields #[.ref a, .int 0 0] }) ⟨Heap.get?_push_size _ rfl, by simp⟩
  refine call_min_walk (wpAny_pyIter_tuple ht ⟨s.heap.objs.size, _, _, _, _, _, fun i j => decide ((if i = 0 then p.1 else p.2) < (if j = 0 then p.1 else p.2)), rfl, Walks.tuple (A := A.in1) hh s.heap.objs.size a hlt _, ⟨⟨_, Heap.get?_push_size _ rfl, rfl, rfl⟩, ht.push _⟩, ?_, (Nat.zero_lt_succ 1), ?_, ?_⟩)
  · intro b hb
    simp at hb
    rcases hb with rfl | rfl
    · rw [Heap.size_push]; exact Nat.lt_succ_self _
    · obtain ⟨o, ho, _⟩ := ht
      have := Heap.lt_size ho
      rw [Heap.size_push]; exact Nat.lt_succ_of_lt this
  · intro i j vi vj s Q E hi hj hQ
    have two : ∀ {i : Nat} {vi : Value}, (#[Value.str (toS p.1) t1, .str (toS p.2) t2])[i]? = some vi → ∃ t, vi = .str (toS (if i = 0 then p.1 else p.2)) t := fun {i vi} e => by
      match i, e with
      | 0, e => cases e; exact ⟨_, rfl⟩
      | 1, e => cases e; exact ⟨_, rfl⟩
      | i + 2, e => simp at e
    obtain ⟨t, rfl⟩ := two hi
    obtain ⟨u, rfl⟩ := two hj
    exact rc_lt_str hQ
  · intro v h' tk hP hk
    have S2 := S1.lose (t := tk) (h' := h') fun b o hb e => hk b o (by simpa using hb) e
    have e : argBest (fun i j => decide ((if i = 0 then p.1 else p.2) < (if j = 0 then p.1 else p.2))) 1 = if p.2 < p.1 then 1 else 0 := by
      simp [argBest]
    change (#[Value.str (toS p.1) t1, .str (toS p.2) t2])[argBest (fun i j => decide ((if i = 0 then p.1 else p.2) < (if j = 0 then p.1 else p.2))) 1]? = some v at hP
    rw [e] at hP
    by_cases hlt' : p.2 < p.1
    · rw [if_pos hlt'] at hP
      cases hP
      have : tmin p.1 p.2 = p.2 := by unfold tmin; rw [if_pos hlt']
      have := h t2 _ S2
      rw [‹tmin p.1 p.2 = p.2›] at this
      exact this
    · rw [if_neg hlt'] at hP
      cases hP
      have : tmin p.1 p.2 = p.1 := by unfold tmin; rw [if_neg hlt']
      have := h t1 _ S2
      rw [‹tmin p.1 p.2 = p.1›] at this
      exact this
theorem call_maxP {p : T × T} {v : Value} {Q : Value → Shared → Prop} (hh : A.handled = none) (S : St C h₀ L loc R s) (hv : VR s.heap (pairPV p) v) (h : ∀ t s', St C h₀ L loc R s' → Q (.str (toS (tmax p.1 p.2)) t) s') :
    wpAny (model C.prog C.w) A (call (.builtin "max") [v]) Q E s := by
  obtain ⟨a, t1, t2, rfl, ht⟩ := pair_obj hv
  have hlt : a ≠ s.heap.objs.size := by obtain ⟨o, ho, _⟩ := ht; exact Nat.ne_of_lt (Heap.lt_size ho)
  have S1 := S.pushed (x := .raw { cls := .type "tuple_iterator", data := .fields #[.ref a, .int 0 0] }) (o := { cls := .type "tuple_iterator", data := .fields #[.ref a, .int 0 0] }) ⟨Heap.get?_push_size _ rfl, by simp⟩
  refine call_max_walk (wpAny_pyIter_tuple ht ⟨s.heap.objs.size, _, _, _, _, _, fun i j => decide ((if j = 0 then p.1 else p.2) < (if i = 0 then p.1 else p.2)), rfl, Walks.tuple (A := A.in1) hh s.heap.objs.size a hlt _, ⟨⟨_, Heap.get?_push_size _ rfl, rfl, rfl⟩, ht.push _⟩, ?_, (Nat.zero_lt_succ 1), ?_, ?_⟩)
  · intro b hb
    simp at hb
    rcases hb with rfl | rfl
    · rw [Heap.size_push]; exact Nat.lt_succ_self _
    · obtain ⟨o, ho, _⟩ := ht
      have := Heap.lt_size ho
      rw [Heap.size_push]; exact Nat.lt_succ_of_lt this
  · intro i j vi vj s Q E hi hj hQ
    have two : ∀ {i : Nat} {vi : Value}, (#[Value.str (toS p.1) t1, .str (toS p.2) t2])[i]? = some vi → ∃ t, vi = .str (toS (if i = 0 then p.1 else p.2)) t := fun {i vi} e => by
      match i, e with
      | 0, e => cases e; exact ⟨_, rfl⟩
      | 1, e => cases e; exact ⟨_, rfl⟩
      | i + 2, e => simp at e
    obtain ⟨t, rfl⟩ := two hi
    obtain ⟨u, rfl⟩ := two hj
    exact rc_gt_str hQ
  · intro v h' tk hP hk
    have S2 := S1.lose (t := tk) (h' := h') fun b o hb e => hk b o (by simpa using hb) e
    have e : argBest (fun i j => decide ((if j = 0 then p.1 else p.2) < (if i = 0 then p.1 else p.2))) 1 = if p.2 > p.1 then 1 else 0 := by
      simp [argBest]
    change (#[Value.str (toS p.1) t1, .str (toS p.2) t2])[argBest (fun i j => decide ((if j = 0 then p.1 else p.2) < (if i = 0 then p.1 else p.2))) 1]? = some v at hP
    rw [e] at hP
    by_cases hlt' : p.2 > p.1
    · rw [if_pos hlt'] at hP
      cases hP
      have : tmax p.1 p.2 = p.2 := by unfold tmax; rw [if_pos hlt']
      have := h t2 _ S2
      rw [‹tmax p.1 p.2 = p.2›] at this
      exact this
    · rw [if_neg hlt'] at hP
      cases hP
      have : tmax p.1 p.2 = p.1 := by unfold tmax; rw [if_neg hlt']
      have := h t1 _ S2
      rw [‹tmax p.1 p.2 = p.1›] at this
      exact this
end
end Mine

namespace Mine

open PySem PySem.W PyProof.Rows PySem.Calls

section
variable {C : Cfg} {h₀ : Heap} {L : Addr} {loc : List (Str × PV)} {R : List (Addr × AO)} {s : Shared} {A : Around} {E : Value → Shared → Prop} {mg mb : Str → Option Value} {env : Env} {prog : Program} {w : World}

/-! ### (len, text) < (len, text) -/
noncomputable def lenPV (x : T) : PV := .dat (.tuple [.int (x.length : Int), .str (toS x)])
theorem lt_len_code {x y : T} {a b : Addr} {P : Fin → Shared → Prop} (ha : VR s.heap (lenPV x) (.ref a)) (hb : VR s.heap (lenPV y) (.ref b)) (h : P (.done (.ret (.bool (lt2 x y)))) s) :
    wpAny (model prog w) A (Builtin.«tuple.__lt__» ⟨[.ref a, .ref b], []⟩) P E s := by
  obtain ⟨_, oa, vs, n, e1, hoa, hca, hda, hra⟩ := vr_tuple ha
  cases e1
  obtain ⟨_, ob, ws, m, e2, hob, hcb, hdb, hrb⟩ := vr_tuple hb
  cases e2
  obtain ⟨vl⟩ := vs
  obtain ⟨wl⟩ := ws
  match vl, hra with
  | [v0, v1], ⟨h0, h1, _⟩ =>
  match wl, hrb with
  | [w0, w1], ⟨g0, g1, _⟩ =>
  obtain ⟨t0, rfl⟩ := vr_int h0
  obtain ⟨t1, rfl⟩ := vr_str h1
  obtain ⟨u0, rfl⟩ := vr_int g0
  obtain ⟨u1, rfl⟩ := vr_str g1
  have hTb : s.TypeIs (.ref b) "tuple" := ⟨_, hob, hcb⟩
  show wpAny _ _ (isInstance (.ref b) (.type "tuple") >>= _) _ _ s
  refine wpAny_bind (wpAny_isInstance hTb sub_tuple_tuple ?_)
  simp only [Bool.not_true, Bool.false_eq_true, if_false]
  refine wpAny_bind (wpAny_tupleItemsOf hoa hda ?_)
  refine wpAny_bind (wpAny_tupleItemsOf hob hdb ?_)
  simp only [List.zip_cons_cons, List.zip_nil_left, List.forIn_cons, List.forIn_nil, bind_assoc]
  have B : ∀ {α β : Type} {m : Sem α} {f : α → Sem β} {s : Shared} {Q : β → Shared → Prop}, wpAny (model prog w) A m (fun x s' => wpAny (model prog w) A (f x) Q E s') E s → wpAny (model prog w) A (m >>= f) Q E s := fun h => wpAny_bind h
  repeat with_reducible refine B ?_
  refine eqb_int ?_
  unfold lt2 at h
  by_cases e0 : x.length = y.length
  · rw [if_pos e0] at h
    rw [decide_eq_true (by lia)]
    simp only [Bool.not_true, Bool.false_eq_true, if_false, pure_bind]
    repeat with_reducible first | refine B ?_ | refine wpAny_pure ?_
    refine eqb_str ?_
    by_cases e1 : x = y
    · rw [decide_eq_true e1]
      simp only [Bool.not_true, Bool.false_eq_true, if_false, pure_bind]
      have hx : ¬ x < y := by rw [e1]; exact List.lt_irrefl _
      rw [decide_eq_false hx] at h
      repeat with_reducible first | refine B ?_ | refine wpAny_pure ?_
      exact wpAny_pure h
    · rw [decide_eq_false e1]
      simp only [Bool.not_false, if_true, bind_assoc, pure_bind]
      repeat with_reducible first | refine B ?_ | refine wpAny_pure ?_ | refine wpAny_rule ?_
      refine rc_lt_str ?_
      repeat with_reducible first | refine B ?_ | refine wpAny_pure ?_ | refine wpAny_rule ?_
      exact wpAny_pure (wpAny_pure (wpAny_pure h))
  · rw [if_neg e0] at h
    rw [decide_eq_false (by lia)]
    simp only [Bool.not_false, if_true, bind_assoc, pure_bind]
    repeat with_reducible first | refine B ?_ | refine wpAny_pure ?_ | refine wpAny_rule ?_
    refine rc_lt_int ?_
    repeat with_reducible first | refine B ?_ | refine wpAny_pure ?_ | refine wpAny_rule ?_
    rw [show decide ((x.length : Int) < (y.length : Int)) = decide (x.length < y.length) by simp]
    exact wpAny_pure (wpAny_pure h)
theorem cmp_lt_len {x y : T} {u v : Value} {Q : Value → Shared → Prop} (hu : A.units < cLine) (hx : VR s.heap (lenPV x) u) (hy : VR s.heap (lenPV y) v) (h : Q (.bool (lt2 x y)) s) : wpAny (model C.prog C.w) A (compareOp .Lt u v) Q E s := by
  obtain ⟨a, oa, _, _, rfl, hoa, hca, _⟩ := vr_tuple hx
  obtain ⟨b, ob, _, _, rfl, hob, hcb, _⟩ := vr_tuple hy
  show wpAny _ A (richCompare .Lt (.ref a) (.ref b)) _ _ _
  refine wpAny_richCompare_same_room (T := "tuple") (id := "tuple.__lt__") ⟨oa, hoa, hca⟩ ⟨ob, hob, hcb⟩ slot_tuple_lt ?_ hu
  refine wpAny_call_entry slot_tuple_lt ⟨oa, hoa, hca⟩ entry_tuple_lt ?_ (args_tuple_lt _ _)
  exact lt_len_code hx hy ⟨_, rfl, by simp, h⟩
theorem vr_len {h : Heap} {x : T} {t u : Tok} : VR (h.push { cls := .type "tuple", data := .seq #[.int (x.length : Int) t, .str (toS x) u] }) (lenPV x) (.ref h.objs.size) :=
  vr_mk_tuple (Heap.get?_push_size _ rfl) rfl rfl ⟨.int _ _, .str _ _, trivial⟩
theorem vr_pair {h : Heap} {x y : T} {t u : Tok} : VR (h.push { cls := .type "tuple", data := .seq #[.str (toS x) t, .str (toS y) u] }) (pairPV (x, y)) (.ref h.objs.size) :=
  vr_mk_tuple (Heap.get?_push_size _ rfl) rfl rfl ⟨.str _ _, .str _ _, trivial⟩

/-- x, y, z = a, b, c: three names of the frame -/
theorem r_swap3 {x y z : Str} {px py pz tpos vpos pos : Pos} {k j : Nat} {e1 e2 e3 : Expr} {Q : Flow → Shared → Prop} (S : St C h₀ L loc R s) (hh : A.handled = none)
    (h : wpAny (model C.prog C.w) A (spliced (backTo vpos (starEach [e1, e2, e3] env))) (fun xs s₁ => ∃ v w u loc R, xs = [v, w, u] ∧ St C h₀ L loc R s₁ ∧
      (∀ s₂, St C h₀ L loc R s₂ → TK s₁.heap s₂.heap → wpAny (model C.prog C.w) A (storeName env z u) (fun _ s₃ => wpAny (model C.prog C.w) A (storeName env y w) (fun _ s₄ => wpAny (model C.prog C.w) A (storeName env x v) (fun _ => Q .next) E s₄) E s₃) E s₂)) E s)
    (hs : autoParam (swapsWithSole [.Tuple [.Name x px, .Name y py, .Name z pz] k tpos] (.Tuple [e1, e2, e3] j vpos) pos.line env = pure false) rflT)
    (hw : autoParam (swappedStores [.Tuple [.Name x px, .Name y py, .Name z pz] k tpos] (.Tuple [e1, e2, e3] j vpos) env = pure (some [x, y, z])) rflT) :
    wpAny (model C.prog C.w) A (exec (.Assign [.Tuple [.Name x px, .Name y py, .Name z pz] k tpos] (.Tuple [e1, e2, e3] j vpos) pos) env) Q E s := by
  refine r_swap (names := [x, y, z]) S hh (wpAny_mono h (fun xs s₁ q => ?_) fun _ _ q => q) hs hw
  obtain ⟨v, w, u, loc, R, rfl, S₁, q⟩ := q
  refine ⟨loc, R, rfl, by simp, S₁, fun s₂ S₂ tk => ?_⟩
  exact aio_cons (t := bindName env z) (ts := [bindName env y, bindName env x]) (wpAny_bindName1 (wpAny_mono (q s₂ S₂ tk) (fun _ s₃ q => aio_cons (t := bindName env y) (ts := [bindName env x])
    (wpAny_bindName1 (wpAny_mono q (fun _ s₄ q => aio_cons (ts := []) (wpAny_bindName1 (wpAny_mono q (fun _ s₅ q => aio_nil q) fun _ _ q => q))) fun _ _ q => q))) fun _ _ q => q))

/-! ### a dict comprehension of two loops -/
theorem compTurn_inner (kx vx t1 i1 t2 i2 : Expr) (ifs : List Expr) (scope : Scope) (pos : Pos) (it : Value) (D : Addr) (env : Env) :
    compTurn (.DictComp kx vx [⟨t1, i1, [], 0⟩, ⟨t2, i2, ifs, 0⟩] scope pos) 1 it (.ref D) env = (do
      standAt i2.pos
      match ← pyNext it with
      | none => pure (.done .next)
      | some v =>
        letOwnedTupleGo t2 it v
        assign t2 env v
        let mut ok := true
        for c in ifs do
          if ok then ok ← isTrue c env (eval c env)
        if ok then
          (do
            let kv ← eval kx env
            let vv ← holding [kv] (eval vx env)
            standAt { kx.pos with endLine := vx.pos.endLine, endCol := vx.pos.endCol }
            holding [kv, vv] (dictSet D kv vv))
        again (.compLoop (.DictComp kx vx [⟨t1, i1, [], 0⟩, ⟨t2, i2, ifs, 0⟩] scope pos) 1 it (.ref D) env)) := by rfl
end
end Mine

namespace Mine

open PySem PySem.W PyProof.Rows PySem.Calls

section
variable {C : Cfg} {h₀ : Heap} {L : Addr} {loc : List (Str × PV)} {R : List (Addr × AO)} {s : Shared} {A : Around} {E : Value → Shared → Prop} {mg mb : Str → Option Value} {env : Env}

theorem compTurn_outer (kx vx t1 i1 t2 i2 : Expr) (ifs : List Expr) (scope : Scope) (pos : Pos) (it acc : Value) (env : Env) :
    compTurn (.DictComp kx vx [⟨t1, i1, [], 0⟩, ⟨t2, i2, ifs, 0⟩] scope pos) 0 it acc env = (do
      standAt i1.pos
      match ← pyNext it with
      | none => pure (.done .next)
      | some v =>
        letOwnedTupleGo t1 it v
        assign t1 env v
        let x ← eval i2 env
        standAt i2.pos
        let x ← foldedSetIterable i2 env x
        let it2 ← holding [x] (pyIter x)
        let _ ← runOwn (.compStart (.DictComp kx vx [⟨t1, i1, [], 0⟩, ⟨t2, i2, ifs, 0⟩] scope pos) 1 it2 acc env) env
        again (.compLoop (.DictComp kx vx [⟨t1, i1, [], 0⟩, ⟨t2, i2, ifs, 0⟩] scope pos) 0 it acc env)) := by
  unfold compTurn
  simp only [List.getElem?_cons_zero, List.getElem?_cons_succ, bne_self_eq_false, Bool.false_eq_true, if_false, List.forIn_nil, pure_bind, if_true]
  rfl

/-- a loop of a comprehension, over what walks -/
theorem compl_core {e : Expr} {depth : Nat} {target : Expr} {acc : Value} {cenv : Env} {BW : (Shared → Prop) → Shared → Prop} {I : Addr} {n : Nat} {item : Nat → PV} {o₀ : Obj} {K : List (Addr × AO)} {RR : Result → Shared → Prop}
    (hstep : ∀ (Q : Fin → Shared → Prop) (E : Value → Shared → Prop) (s : Shared), wpAny (model C.prog C.w) A (pyNext (.ref I)) (fun r s₁ => match r with
      | none => Q (.done .next) s₁
      | some v => wpAny (model C.prog C.w) A (assign target cenv v) (fun _ s₂ => BW (Q (.again (.compLoop e depth (.ref I) acc cenv))) s₂) E s₁) E s →
      wpAny (model C.prog C.w) A (compTurn e depth (.ref I) acc cenv) Q E s)
    (hBW : ∀ P P' s, (∀ s, P s → P' s) → BW P s → BW P' s)
    (hq : (Code.compLoop e depth (.ref I) acc cenv).quiet = true) (hf : (Code.compLoop e depth (.ref I) acc cenv).isFrame = false) (hun : A.under (Code.compLoop e depth (.ref I) acc cenv) = A)
    (S : St C h₀ L loc ((I, .raw o₀) :: R) s) (W : Wk C A I n item s.heap K) (P : Nat → List (Str × PV) → List (Addr × AO) → Prop) (h0 : P 0 loc R)
    (hK : ∀ i loc R', P i loc R' → ∀ p ∈ K, p ∈ R')
    (turn : ∀ i v o loc' R' s', i < n → VR s'.heap (item i) v → P i loc' R' → St C s.heap L loc' ((I, .raw o) :: R') s' →
      wpAny (model C.prog C.w) A (assign target cenv v) (fun _ s₂ => BW (fun s₃ => ∃ loc'' R'', P (i + 1) loc'' R'' ∧ St C s.heap L loc'' ((I, .raw o) :: R'') s₃) s₂) (fun _ _ => False) s')
    (done : ∀ loc' R' s', P n loc' R' → St C h₀ L loc' R' s' → RR (.ok .next) s') :
    codeAny (model C.prog C.w) A (.compLoop e depth (.ref I) acc cenv) RR s := by
  obtain ⟨fp, Pv, Sti, W, hobj, hfp, hst, hitem⟩ := W.ex
  refine codeAny_loop hq (fun k s' => ∃ i loc' R' o, i + k = n ∧ P i loc' R' ∧ St C s.heap L loc' ((I, .raw o) :: R') s' ∧ Sti i s'.heap) (fun k s' hI => ?_) n ⟨0, loc, R, o₀, Nat.zero_add _, h0, S.re, hst⟩
  rw [hun]
  show wpAny _ A (if (Code.compLoop e depth (.ref I) acc cenv).isFrame = true then (compTurn e depth (.ref I) acc cenv).onRaise (leaving cenv) else (compTurn e depth (.ref I) acc cenv).onRaise (fun x => do noteFrame x cenv; theTreesLotGoes x)) _ _ s'
  rw [hf, if_neg Bool.false_ne_true]
  refine wpAny_noted ?_
  refine hstep _ _ _ ?_
  obtain ⟨i, loc', R', o, hk, hP, S', hs'⟩ := hI
  by_cases hi : i < n
  · refine W.item i s' _ _ hi hs' fun v h' tk hv hs2 hkeep => ?_
    obtain ⟨o', ho', hc'⟩ := hobj _ _ hs2
    have ext : Heap.ExtBut I s'.heap h' := fun b x hb e => hkeep b x (by simpa using hb) e
    have S2 : St C s.heap L loc' ((I, .raw o') :: R') { s' with heap := h', toks := tk } := S'.upd 0 (x' := .raw o') rfl ext fun _ => ⟨ho', hc'⟩
    refine wpAny_mono (turn i v o' loc' R' _ hi (hitem i v h' hv S2.tk) hP S2) (fun _ s₂ q => hBW _ _ _ (fun s₃ q => ?_) q) fun _ _ q => q.elim
    obtain ⟨loc'', R'', hP2, S3⟩ := q
    refine ⟨rfl, k - 1, by lia, i + 1, loc'', R'', o', by lia, hP2, S3, W.frame (i + 1) h' s₃.heap hs2 fun b hb x e => ?_⟩
    rcases hfp b hb with rfl | ⟨xb, ob, hob, hpin⟩
    · rw [ho'] at e; cases e
      exact (S3.ok _ (List.mem_cons_self ..)).1
    · have m1 := hpin _ (S2.ok (b, xb) (List.mem_cons_of_mem _ (hK _ _ _ hP _ hob)))
      have m2 := hpin _ (S3.ok (b, xb) (List.mem_cons_of_mem _ (hK _ _ _ hP2 _ hob)))
      have : h'.get? b = some ob := m1
      rw [this] at e; cases e
      exact m2
  · have hin : i = n := by lia
    subst hin
    refine W.done s' _ _ hs' fun h' tk hkeep => ?_
    have ext : Heap.ExtBut I s'.heap h' := fun b x hb e => hkeep b x (by simpa using hb) e
    exact done loc' R' _ hP ((S'.lose (t := tk) ext).un S.tk)
end
end Mine

namespace Mine

open PySem PySem.W PyProof.Rows PySem.Calls

section
variable {C : Cfg} {h₀ : Heap} {L : Addr} {loc : List (Str × PV)} {R : List (Addr × AO)} {s : Shared} {A : Around} {E : Value → Shared → Prop} {mg mb : Str → Option Value} {env : Env}

theorem compStart1 {kx vx t1 i1 t2 i2 : Expr} {ifs : List Expr} {scope : Scope} {pos : Pos} {it acc : Value} {env : Env} {RR : Result → Shared → Prop}
    (h0 : codeAny (model C.prog C.w) A (.compLoop (.DictComp kx vx [⟨t1, i1, [], 0⟩, ⟨t2, i2, ifs, 0⟩] scope pos) 1 it acc env) RR s)
    (h : wpAny (model C.prog C.w) A (pyIter it) (fun it' s' => codeAny (model C.prog C.w) A (.compLoop (.DictComp kx vx [⟨t1, i1, [], 0⟩, ⟨t2, i2, ifs, 0⟩] scope pos) 1 it' acc env) RR s') (fun _ _ => False) s) :
    codeAny (model C.prog C.w) A (.compStart (.DictComp kx vx [⟨t1, i1, [], 0⟩, ⟨t2, i2, ifs, 0⟩] scope pos) 1 it acc env) RR s := by
  refine codeAny_of_tree ?_
  show wpAny _ A ((compStart (.DictComp kx vx [⟨t1, i1, [], 0⟩, ⟨t2, i2, ifs, 0⟩] scope pos) 1 it acc env).onRaise (fun x => do noteFrame x env; standAt theWindowsPlace)) _ _ s
  refine wpAny_notedAt ?_
  unfold compStart
  show wpAny _ A (ask >>= _) _ _ s
  refine wpAny_bind (wpAny_askSetting (wpAny_ite ?_))
  split
  · first
      | exact wpAny_bind (wpAny_pure (wpAny_pure (And.intro rfl h0)))
      | exact wpAny_pure (And.intro rfl h0)
  · refine wpAny_bind (wpAny_rule ?_)
    show wpAny _ _ (standAt i2.pos >>= _) _ _ s
    exact wpAny_bind (wpAny_standAt (wpAny_bind (wpAny_mono h (fun it' s' h' => wpAny_pure (And.intro rfl h')) fun _ _ x => x.elim)))

theorem compStart0 {kx vx t1 i1 t2 i2 : Expr} {ifs : List Expr} {scope : Scope} {pos : Pos} {it acc : Value} {env : Env} {RR : Result → Shared → Prop}
    (h0 : codeAny (model C.prog C.w) A (.compLoop (.DictComp kx vx [⟨t1, i1, [], 0⟩, ⟨t2, i2, ifs, 0⟩] scope pos) 0 it acc env) RR s)
    (h : wpAny (model C.prog C.w) A (pyIter it) (fun it' s' => codeAny (model C.prog C.w) A (.compLoop (.DictComp kx vx [⟨t1, i1, [], 0⟩, ⟨t2, i2, ifs, 0⟩] scope pos) 0 it' acc env) RR s')
      (notedBy (model C.prog C.w) A env fun x s' => RR (.error x) s') s) :
    codeAny (model C.prog C.w) A (.compStart (.DictComp kx vx [⟨t1, i1, [], 0⟩, ⟨t2, i2, ifs, 0⟩] scope pos) 0 it acc env) RR s := codeAny_compStart_dict h0 h

/-- the inner loop of a dict comprehension of two loops -/
theorem dict2_inner {kx vx i1 i2 : Expr} {t1 : Expr} {y : Str} {py : Pos} {ifs : List Expr} {scope : Scope} {pos : Pos} {D I : Addr} {n : Nat} {item : Nat → PV} {o₀ : Obj} {K : List (Addr × AO)} {RR : Result → Shared → Prop} {cenv : Env} {locc : List (Str × PV)}
    {acc : Nat → List (Str × PV)} (S : St C h₀ cenv.locals locc ((I, .raw o₀) :: (D, .dict (acc 0)) :: R) s) (W : Wk C A I n item s.heap K) (hK : ∀ p ∈ K, p ∈ R) (haccl : ∀ j, (acc j).length ≤ 1000000)
    (hk : cenv.scope.kind = .function) (hy : cenv.kindOf y = some .local) (hsub : ∀ pv, LocSub ((y, pv) :: locc) locc)
    (turn : ∀ h₁ j o s', j < n → TK h₀ h₁ → St C h₁ cenv.locals ((y, item j) :: locc) ((I, .raw o) :: (D, .dict (acc j)) :: R) s' →
      wpAny (model C.prog C.w) A (cTests ifs cenv) (fun ok s₃ => if ok = true then wpAny (model C.prog C.w) A (eval kx cenv) (fun kv s₄ => wpAny (model C.prog C.w) A (eval vx cenv) (fun vv s₅ => ∃ key t pv, kv = .str key t ∧ VR s₅.heap pv vv ∧ acc (j + 1) = dset (acc j) key pv ∧
          St C h₁ cenv.locals ((y, item j) :: locc) ((I, .raw o) :: (D, .dict (acc j)) :: R) s₅) (fun _ _ => False) s₄) (fun _ _ => False) s₃
        else acc (j + 1) = acc j ∧ St C h₁ cenv.locals ((y, item j) :: locc) ((I, .raw o) :: (D, .dict (acc j)) :: R) s₃) (fun _ _ => False) s')
    (done : ∀ s', St C h₀ cenv.locals locc ((D, .dict (acc n)) :: R) s' → RR (.ok .next) s') :
    codeAny (model C.prog C.w) A (.compLoop (.DictComp kx vx [⟨t1, i1, [], 0⟩, ⟨.Name y py, i2, ifs, 0⟩] scope pos) 1 (.ref I) (.ref D) cenv) RR s := by
  refine compl_core (target := .Name y py) (L := cenv.locals) (BW := fun P s => wpAny (model C.prog C.w) A (cTests ifs cenv) (fun ok s₃ => if ok = true then wpAny (model C.prog C.w) A (eval kx cenv) (fun kv s₄ => wpAny (model C.prog C.w) A (eval vx cenv) (fun vv s₅ =>
    wpAny (model C.prog C.w) A (dictSet D kv vv) (fun _ => P) (fun _ _ => False) s₅) (fun _ _ => False) s₄) (fun _ _ => False) s₃ else P s₃) (fun _ _ => False) s) (fun Q E s h => ?_) (fun P P' s hPP h => ?_) rfl rfl rfl S W
    (fun j loc' R' => loc' = locc ∧ R' = (D, .dict (acc j)) :: R) ⟨rfl, rfl⟩ (fun j loc' R' hP p hp => ?_) (fun j v o loc' R' s' hj hv hP S' => ?_) (fun loc' R' s' hP S' => ?_)
  · rw [compTurn_inner]
    refine wpAny_bind (wpAny_standAt (wpAny_bind (wpAny_mono h (fun r s₁ q => ?_) fun _ _ q => q)))
    cases r with
    | none => exact wpAny_pure q
    | some v =>
      refine wpAny_bind (wpAny_of_eq (show letOwnedTupleGo (.Name y py) (.ref I) v = pure () from rfl) ?_)
      refine wpAny_bind (wpAny_mono q (fun _ s₂ q => wpAny_bind (wpAny_mono q (fun ok s₃ q => ?_) fun _ _ q => q.elim)) fun _ _ q => q)
      cases ok with
      | false => exact wpAny_pure q
      | true => exact wpAny_bind (wpAny_bind (wpAny_mono q (fun kv s₄ q => wpAny_bind (wpAny_holding (wpAny_mono q (fun vv s₅ q => wpAny_bind (wpAny_standAt (wpAny_holding (wpAny_mono q (fun _ s₆ q => wpAny_pure q) fun _ _ q => q.elim))) ) fun _ _ q => q.elim))) fun _ _ q => q.elim))
  · refine wpAny_mono h (fun ok s₃ q => ?_) fun _ _ q => q
    cases ok with
    | false => exact hPP _ q
    | true => exact wpAny_mono q (fun kv s₄ q => wpAny_mono q (fun vv s₅ q => wpAny_mono q (fun _ s₆ q => hPP _ q) fun _ _ q => q) fun _ _ q => q) fun _ _ q => q
  · obtain ⟨rfl, rfl⟩ := hP
    exact List.mem_cons_of_mem _ (hK p hp)
  · obtain ⟨rfl, rfl⟩ := hP
    refine wpAny_assign_Name (stloc (p := item j) S' hv (fun s₂ S₂ => ?_) hk hy)
    refine wpAny_mono (turn _ j o s₂ hj S.tk S₂) (fun ok s₃ q => ?_) fun _ _ q => q
    cases ok with
    | true =>
      simp only [if_true] at q ⊢
      refine wpAny_mono q (fun kv s₄ q => wpAny_mono q (fun vv s₅ q => ?_) fun _ _ q => q) fun _ _ q => q
      obtain ⟨key, t, pv, rfl, hvv, hacc, S₃⟩ := q
      obtain ⟨kvs, hd, hr⟩ := S₃.getOK (List.mem_cons_of_mem _ (List.mem_cons_self ..))
      refine wpAny_dictSet_pairs (knd := strKind C.prog C.w) (k := key) (strKey _ _ _ _) hd (fun h' hd' hs => ?_) (by have := haccl j; rw [hr.length, sizeT]; lia)
      refine ⟨_, _, ⟨rfl, rfl⟩, ?_⟩
      rw [hacc]
      exact (S₃.upd (t := s₅.toks + 1) (x' := .dict (dset (acc j) key pv)) 1 rfl hs.extBut fun k => ⟨_, hd', (hr.tk k).set (hvv.tk k)⟩).weaken (hsub _)
    | false =>
      simp only [Bool.false_eq_true, if_false] at q ⊢
      obtain ⟨hacc, S₃⟩ := q
      refine ⟨_, _, ⟨rfl, rfl⟩, ?_⟩
      rw [hacc]
      exact S₃.weaken (hsub _)
  · obtain ⟨rfl, rfl⟩ := hP
    exact done s' S'

inductive AsgDict2K (C : Cfg) (A : Around) (env : Env) (x : Str) (y : Str) (z : Str) (ifs : List Expr) (kx : Expr) (vx : Expr) (i2 : Expr) (scope : Scope) (cl : List (Str × Addr)) (Q : Flow → Shared → Prop) (it : Value) (s₂ : Shared) : Prop
  | mk (I : Addr) (n : Nat) (item : Nat → PV) (o₀ : Obj) (K : List (Addr × AO)) (h₀ : Heap) (loc : List (Str × PV)) (R : List (Addr × AO)) (a2 : Addr) (o2 : Obj) (l2 : List PV)
      (acc : Nat → Nat → List (Str × PV))
    (e0 : it = .ref I)
    (e1 : St C h₀ env.locals loc ((I, .raw o₀) :: R) s₂)
    (e2 : Wk C A I n item s₂.heap K)
    (e3 : (∀ p ∈ K, p ∈ R))
    (e4 : (a2, AO.pin o2 (.list l2)) ∈ R)
    (e5 : acc 0 0 = [])
    (e6 : (∀ i, i < n → acc (i + 1) 0 = acc i l2.length))
    (e7 : (∀ i j, (acc i j).length ≤ 1000000))
    (e8 : (∀ h₁ i Cc D o s', i < n → St C h₁ Cc [(x, item i)] ((D, .dict (acc i 0)) :: (I, .raw o) :: (env.locals, .ns loc) :: R) s' →
        wpAny (model C.prog C.w) A (eval i2 (compEnvC scope cl Cc env)) (fun v s₃ => v = .ref a2 ∧ St C h₁ Cc [(x, item i)] ((D, .dict (acc i 0)) :: (I, .raw o) :: (env.locals, .ns loc) :: R) s₃) (fun _ _ => False) s'))
    (e9 : (∀ h₁ i j Cc D o I2 oo s', i < n → j < l2.length → St C h₁ Cc [(y, l2.getD j .n), (x, item i)] ((I2, .raw oo) :: (D, .dict (acc i j)) :: (I, .raw o) :: (env.locals, .ns loc) :: R) s' →
        wpAny (model C.prog C.w) A (cTests ifs (compEnvC scope cl Cc env)) (fun ok s₃ => if ok = true then wpAny (model C.prog C.w) A (eval kx (compEnvC scope cl Cc env)) (fun kv s₄ => wpAny (model C.prog C.w) A (eval vx (compEnvC scope cl Cc env)) (fun vv s₅ => ∃ key t pv, kv = .str key t ∧ VR s₅.heap pv vv ∧
            acc i (j + 1) = dset (acc i j) key pv ∧ St C h₁ Cc [(y, l2.getD j .n), (x, item i)] ((I2, .raw oo) :: (D, .dict (acc i j)) :: (I, .raw o) :: (env.locals, .ns loc) :: R) s₅) (fun _ _ => False) s₄) (fun _ _ => False) s₃
          else acc i (j + 1) = acc i j ∧ St C h₁ Cc [(y, l2.getD j .n), (x, item i)] ((I2, .raw oo) :: (D, .dict (acc i j)) :: (I, .raw o) :: (env.locals, .ns loc) :: R) s₃) (fun _ _ => False) s'))
    (e10 : (∀ D s', St C h₀ env.locals ((z, .ref D) :: loc) ((D, .dict (acc n 0)) :: R) s' → Q .next s')) : AsgDict2K C A env x y z ifs kx vx i2 scope cl Q it s₂

/-- z = {kx: vx for x in i1 for y in i2 if ..} -/
theorem r_asgdict2 {kx vx i1 i2 : Expr} {x y z : Str} {px py pz : Pos} {ifs : List Expr} {scope : Scope} {cl : List (Str × Addr)} {pos spos : Pos} {Q : Flow → Shared → Prop} (hh : A.handled = none)
    (hsw : swapsWith (.DictComp kx vx [⟨.Name x px, i1, [], 0⟩, ⟨.Name y py, i2, ifs, 0⟩] scope pos) (some (.Name z pz)) spos.line env = pure true)
    (hclos : closureFor scope env = pure cl) (hcell : ∀ y ∈ scope.names, y.2 ≠ .cell) (hkind : scope.kind = .function)
    (hnames : ∀ y ∈ scope.names, y.2 = .local → scope.names.lookup y.1 = some .local) (hx : scope.names.lookup x = some .local) (hy : scope.names.lookup y = some .local) (hxy : x ≠ y)
    (hk : env.scope.kind = .function) (hz : env.kindOf z = some .local)
    (h : wpAny (model C.prog C.w) A (eval i1 env) (fun xv s₁ => wpAny (model C.prog C.w) A (pyIter xv) (AsgDict2K C A env x y z ifs kx vx i2 scope cl Q) E s₁) E s)
    (hs : ∀ x, foldedSetIterable i1 env x = pure x := by intro _; rfl) (hs2 : ∀ env x, foldedSetIterable i2 env x = pure x := by intro _ _; rfl) :
    wpAny (model C.prog C.w) A (exec (.Assign [.Name z pz] (.DictComp kx vx [⟨.Name x px, i1, [], 0⟩, ⟨.Name y py, i2, ifs, 0⟩] scope pos) spos) env) Q E s := by
  rw [exec_Assign_Name_used _ _ _ _ hsw]
  refine wpAny_bind (wpAny_standAt (wpAny_bind ?_))
  show wpAny _ A (do let _ ← comprehension (.DictComp kx vx [⟨.Name x px, i1, [], 0⟩, ⟨.Name y py, i2, ifs, 0⟩] scope pos) scope env _ newDict false (eval i1 env) (some (assign (.Name z pz) env))) _ _ s
  refine wpAny_bind (wpAny_mono (wpAny_comprehension_free (use := some (assign (.Name z pz) env)) (Q := fun _ s' => Q .next s') rfl hs hclos hkind hnames
    (wpAny_mono h (fun xv s₁ h₁ => wpAny_mono h₁ (fun it s₂ h₂ => ?_) fun _ _ e => e) fun _ _ e => e)) (fun _ s' hq => wpAny_pure (wpAny_pure hq)) fun _ _ e => e)
  obtain ⟨I, n, item, o₀, K, h₀, loc, R, a2, o2, l2, acc, rfl, S, W, hK, ha2, ha0, haS, hal, hi2, turn, hQ⟩ := h₂
  refine wpAny_newObj_type (wpAny_newFunctionEnv hcell (by intro y hy; simp at hy) (fun h₁ hns₁ hsb₁ => ?_) hkind)
  have S1 := S.re.pushed (x := .dict []) (o := { cls := .type "dict", data := .dict #[] }) ⟨[], Heap.DictOf.new _, trivial⟩
  generalize hD : s₂.heap.objs.size = D at S1 ⊢
  have S2 := S1.enter (t := s₂.toks + ([] : List (Str × Value)).length) hns₁ hsb₁
  generalize hCc : (s₂.heap.push { cls := .type "dict", data := .dict #[] }).objs.size = Cc at S2 ⊢
  have keep : ∀ b o, s₂.heap.get? b = some o → h₁.get? b = some o := fun b o e => hsb₁.extBut b o (Nat.ne_of_lt (Nat.lt_trans (Heap.lt_size e) (by rw [Heap.size_push]; exact Nat.lt_succ_self _))) (Heap.get?_push_of_some _ (Heap.get?_push_of_some _ e))
  have hkx : (compEnvC scope cl Cc env).kindOf x = some .local := lookup_relabel_local hx
  have hky : (compEnvC scope cl Cc env).kindOf y = some .local := lookup_relabel_local hy
  have tk1 : TK s₂.heap h₁ := TK.of_keeps keep
  have W' : Wk C A I n item h₁ K := by
    obtain ⟨fp, Pv, Sti, W1, W2, W3, W4, W5⟩ := W.ex
    exact ⟨fp, Pv, Sti, W1, W2, W3, W1.frame _ _ _ W4 fun b _ o e => keep b o e, fun i v h' hv tk => W5 i v h' hv (tk1.trans tk)⟩
  have S3 : St C s₂.heap Cc [] ((I, .raw o₀) :: (D, .dict (acc 0 0)) :: (env.locals, .ns loc) :: R) { s₂ with heap := h₁, toks := s₂.toks + ([] : List (Str × Value)).length } := by
    rw [ha0]
    exact (S2.pull 2 rfl).perm ((List.Perm.swap _ _ _).cons _)
  have hfin : ∀ (s' : Shared) (l' : List (Str × PV)), St C s₂.heap Cc l' ((D, .dict (acc n 0)) :: (env.locals, .ns loc) :: R) s' → compPost (model C.prog C.w) A E (some (assign (.Name z pz) env)) (fun _ s' => Q .next s') (.ref D) Cc (.ok .next) s' := fun s' l' S' => by
    have S4 := ((S'.perm (List.Perm.swap _ _ _)).swapFrame).un S.tk
    show wpAny _ A (assign (.Name z pz) env (.ref D)) _ _ _
    refine wpAny_assign_Name (stloc (p := .ref D) S4 rfl (fun s₃ S₃ => ?_) hk hz)
    obtain ⟨m, hm⟩ := Ns_of (S₃.ok _ (List.mem_cons_self ..))
    exact ⟨m, hm, fun h' hs' => hQ D _ (S₃.lose (t := s₃.toks) hs'.extBut)⟩
  have loop : codeAny (model C.prog C.w) A (.compLoop (.DictComp kx vx [⟨.Name x px, i1, [], 0⟩, ⟨.Name y py, i2, ifs, 0⟩] scope pos) 0 (.ref I) (.ref D) (compEnvC scope cl Cc env))
      (compPost (model C.prog C.w) A E (some (assign (.Name z pz) env)) (fun _ s' => Q .next s') (.ref D) Cc) { s₂ with heap := h₁, toks := s₂.toks + ([] : List (Str × Value)).length } := by
    refine compl_core (target := .Name x px) (L := Cc) (cenv := compEnvC scope cl Cc env) (BW := fun P s => wpAny (model C.prog C.w) A (eval i2 (compEnvC scope cl Cc env)) (fun v s₁ => wpAny (model C.prog C.w) A (pyIter v) (fun it2 s₂ =>
      codeAny (model C.prog C.w) A (.compStart (.DictComp kx vx [⟨.Name x px, i1, [], 0⟩, ⟨.Name y py, i2, ifs, 0⟩] scope pos) 1 it2 (.ref D) (compEnvC scope cl Cc env)) (fun r s' => match r with | .ok _ => P s' | .error _ => False) s₂) (fun _ _ => False) s₁) (fun _ _ => False) s)
      (fun Q E s h => ?_) (fun P P' s hPP h => ?_) rfl rfl rfl S3 W' (fun i loc' R' => R' = (D, .dict (acc i 0)) :: (env.locals, .ns loc) :: R) rfl (fun i loc' R' hP p hp => ?_) (fun i v o loc' R' s' hi hv hP S' => ?_) (fun loc' R' s' hP S' => ?_)
    · rw [compTurn_outer]
      refine wpAny_bind (wpAny_standAt (wpAny_bind (wpAny_mono h (fun r s₁ q => ?_) fun _ _ q => q)))
      cases r with
      | none => exact wpAny_pure q
      | some v =>
        refine wpAny_bind (wpAny_of_eq (show letOwnedTupleGo (.Name x px) (.ref I) v = pure () from rfl) ?_)
        refine wpAny_bind (wpAny_mono q (fun _ s₂ q => wpAny_bind (wpAny_mono q (fun xv s₃ q => ?_) fun _ _ q => q.elim)) fun _ _ q => q)
        refine wpAny_bind (wpAny_standAt (wpAny_bind (wpAny_of_eq (hs2 _ _) ?_)))
        refine wpAny_bind (wpAny_holding (wpAny_mono q (fun it2 s₄ q => ?_) fun _ _ q => q.elim))
        refine wpAny_bind (wpAny_runOwn (codeAny_mono q fun r s' q => ?_))
        cases r with
        | ok f => exact wpAny_pure q
        | error e => exact q.elim
    · refine wpAny_mono h (fun v s₁ q => wpAny_mono q (fun it2 s₂ q => codeAny_mono q fun r s' q => ?_) fun _ _ q => q) fun _ _ q => q
      cases r with
      | ok f => exact hPP _ q
      | error e => exact q
    · rw [hP]; exact List.mem_cons_of_mem _ (List.mem_cons_of_mem _ (hK p hp))
    · subst hP
      refine wpAny_assign_Name (stloc (env := compEnvC scope cl Cc env) (p := item i) S' hv (fun s₃ S₄ => ?_) hkind hkx)
      replace S₄ := (S₄.weaken (loc' := [(x, item i)]) ⟨by simp, trivial⟩).perm (List.Perm.swap _ _ _)
      refine wpAny_mono (hi2 _ i Cc D o s₃ hi S₄) (fun v s₅ q => ?_) fun _ _ q => q
      obtain ⟨rfl, S₅⟩ := q
      have hm2 : ∀ (p q r : Addr × AO), (a2, AO.pin o2 (.list l2)) ∈ p :: q :: r :: R := fun p q r => List.mem_cons_of_mem _ (List.mem_cons_of_mem _ (List.mem_cons_of_mem _ ha2))
      refine wk_list hh S₅ (hm2 _ _ _) fun I2 o₁ s₆ S₆ W2 => ?_
      have inner : codeAny (model C.prog C.w) A (.compLoop (.DictComp kx vx [⟨.Name x px, i1, [], 0⟩, ⟨.Name y py, i2, ifs, 0⟩] scope pos) 1 (.ref I2) (.ref D) (compEnvC scope cl Cc env))
          (fun r s' => match r with | .ok _ => ∃ loc'' R'', R'' = (D, .dict (acc (i + 1) 0)) :: (env.locals, .ns loc) :: R ∧ St C h₁ Cc loc'' ((I, .raw o) :: R'') s' | .error _ => False) s₆ := by
        refine dict2_inner (cenv := compEnvC scope cl Cc env) (acc := acc i) S₆ W2 (fun p hp => by rw [List.mem_singleton.mp hp]; exact List.mem_cons_of_mem _ (List.mem_cons_of_mem _ ha2)) (hal i) hkind hky (fun pv => ⟨by simp [List.lookup_cons, beq_eq_false_iff_ne.mpr hxy], trivial⟩) (fun h₂ j oo s' hj _ S' => turn h₂ i j Cc D o I2 oo s' hi hj S') fun s' S₇ => ?_
        refine ⟨[(x, item i)], _, rfl, ?_⟩
        rw [haS i hi]
        exact S₇.perm (List.Perm.swap _ _ _)
      obtain ⟨fp, Pv, Sti, W1, _, _, W4, _⟩ := W2.ex
      exact compStart1 inner (W1.self 0 _ _ _ W4 inner)
    · rw [hP] at S'
      exact hfin s' loc' S'
  obtain ⟨fp, Pv, Sti, W1, _, _, W4, _⟩ := W'.ex
  exact codeAny_compStart_dict loop (W1.self 0 _ _ _ W4 loop)
end
end Mine

namespace Mine

open PySem PySem.W PyProof.Rows PySem.Calls

/-! ### how large the fingers' things may be -/
structure SOk (a : T) : Prop where
  ne : a ≠ []
  free : 32 ∉ a
  len : a.length ≤ 100
structure FOk (n : Nat) (x : FX) : Prop where
  level : ∀ e ∈ x.level, (∃ a b, e.1 = KEY a b ∧ SOk a ∧ SOk b) ∧ e.2.length ≤ n
  levelN : x.level.length ≤ 200000
  seenN : x.seen.length ≤ 200000
  firstN : x.first.length ≤ 1000
  firstT : ∀ e ∈ x.first, e.2.length ≤ n + 200
  nodup : (x.level.map (·.1)).Nodup
structure WOk2 (ws : List T) : Prop extends WOk ws where
  free : ∀ w ∈ ws, 32 ∉ w

noncomputable def lvStep (one : T) (d : List (T × T)) (other : T) : List (T × T) := if one < other then mset d (KEY one other) [] else d
noncomputable def lv (ws : List T) (i j : Nat) : List (T × T) := (ws.take j).foldl (lvStep (ws.getD i [])) ((ws.take i).foldl (fun d one => ws.foldl (lvStep one) d) [])
theorem lvStep_len (one : T) (d : List (T × T)) (other : T) : (lvStep one d other).length ≤ d.length + 1 := by
  unfold lvStep; split
  · exact mset_length _ _ _
  · lia
theorem lvFold_len (one : T) : ∀ (l : List T) (d : List (T × T)), (l.foldl (lvStep one) d).length ≤ d.length + l.length
  | [], d => by simp
  | x :: r, d => by
    have h1 := lvStep_len one d x
    have h2 := lvFold_len one r (lvStep one d x)
    rw [List.foldl_cons, List.length_cons]; lia
theorem lvFold2_len (ws : List T) : ∀ (l : List T) (d : List (T × T)), (l.foldl (fun d one => ws.foldl (lvStep one) d) d).length ≤ d.length + l.length * ws.length
  | [], d => by simp
  | x :: r, d => by
    have h1 := lvFold_len x ws d
    have h2 := lvFold2_len ws r (ws.foldl (lvStep x) d)
    rw [List.foldl_cons, List.length_cons, Nat.succ_mul]; lia
theorem lv_zero (ws : List T) : lv ws 0 0 = [] := rfl
theorem lv_full (ws : List T) : lv ws ws.length 0 = level0 ws := by
  unfold lv
  rw [List.take_length]; rfl
theorem lv_succ {ws : List T} {i : Nat} (h : i < ws.length) : lv ws (i + 1) 0 = lv ws i ws.length := by
  unfold lv
  rw [List.take_length, List.take_succ_eq_append_getElem h, List.foldl_append]
  have : ws.getD i [] = ws[i] := by rw [List.getD_eq_getElem?_getD, List.getElem?_eq_getElem h]; rfl
  rw [this]; rfl
theorem lv_step {ws : List T} {i j : Nat} (h : j < ws.length) : lv ws i (j + 1) = lvStep (ws.getD i []) (lv ws i j) (ws.getD j []) := by
  unfold lv
  rw [List.take_succ_eq_append_getElem h, List.foldl_append]
  have : ws.getD j [] = ws[j] := by rw [List.getD_eq_getElem?_getD, List.getElem?_eq_getElem h]; rfl
  rw [this]; rfl
theorem lv_len {ws : List T} (h : ws.length ≤ 4) (i j : Nat) : (lv ws i j).length ≤ 100 := by
  unfold lv
  have h1 := lvFold_len (ws.getD i []) (ws.take j) ((ws.take i).foldl (fun d one => ws.foldl (lvStep one) d) [])
  have h2 := lvFold2_len ws (ws.take i) []
  have h3 : (ws.take i).length ≤ 4 := by rw [List.length_take]; lia
  have h4 : (ws.take j).length ≤ 4 := by rw [List.length_take]; lia
  have h5 : (ws.take i).length * ws.length ≤ 4 * 4 := Nat.mul_le_mul h3 h
  simp only [List.length_nil] at h2
  lia

/-! within a level -/
theorem fEmit_or (first : List (T × T)) (text rest one other : T) : fEmit first text rest one other = mset first rest (text ++ rest) ∨ fEmit first text rest one other = first := by
  unfold fEmit
  exact if h : _ then .inl (if_pos h) else .inr (if_neg h)
theorem fPush_or (seen : List (T × Unit)) (text : T) (d : List (T × T)) (p : T × T) : fPush seen text d p = mset d (fKey p) text ∨ fPush seen text d p = d := by
  unfold fPush
  exact if h : _ then .inl (if_pos h) else .inr (if_neg h)
theorem fEmit_len (first : List (T × T)) (text rest one other : T) : (fEmit first text rest one other).length ≤ first.length + 1 := by
  rcases fEmit_or first text rest one other with e | e <;> rw [e]
  · exact mset_length _ _ _
  · lia
theorem fEmit_text {B : Nat} {first : List (T × T)} {text rest one other : T} (h : ∀ f ∈ first, f.2.length ≤ B) (h2 : text.length + rest.length ≤ B) : ∀ f ∈ fEmit first text rest one other, f.2.length ≤ B := by
  intro f hf
  rcases fEmit_or first text rest one other with e | e <;> rw [e] at hf
  · rcases mset_mem hf with q | q
    · exact h f q
    · rw [q]; simpa using h2
  · exact h f hf
theorem fPush_len (seen : List (T × Unit)) (text : T) (d : List (T × T)) (p : T × T) : (fPush seen text d p).length ≤ d.length + 1 := by
  rcases fPush_or seen text d p with e | e <;> rw [e]
  · exact mset_length _ _ _
  · lia
theorem fPushes_len (seen : List (T × Unit)) (text : T) : ∀ (l : List (T × T)) (d : List (T × T)), (l.foldl (fPush seen text) d).length ≤ d.length + l.length
  | [], d => by simp
  | p :: r, d => by
    have h1 := fPush_len seen text d p
    have h2 := fPushes_len seen text r (fPush seen text d p)
    rw [List.foldl_cons, List.length_cons]; lia
theorem fPairs_len {ws : List T} (h : ws.length ≤ 4) (one other rest : T) : (fPairs ws one other rest).length ≤ 4 := by
  unfold fPairs; split
  · simp
  · split
    · rw [List.length_map]; exact h
    · simp
theorem fPairs_mem {ws : List T} {n : Nat} (h : ∀ w ∈ ws, w.length ≤ n) {one other rest : T} (h1 : one.length ≤ n) (h2 : other.length ≤ n) (h3 : rest.length ≤ n) : ∀ p ∈ fPairs ws one other rest, p.1.length ≤ n ∧ p.2.length ≤ n := by
  intro p hp
  unfold fPairs at hp
  split at hp
  · rw [List.mem_singleton.mp hp]; exact ⟨h1, h2⟩
  · split at hp
    · obtain ⟨w, hw, rfl⟩ := List.mem_map.mp hp
      exact ⟨h w hw, h3⟩
    · cases hp
theorem acc_bounds {ws : List T} (hw : ws.length ≤ 4) {n : Nat} {x : FX} (F : FOk n x) (seen : List (T × Unit)) : ∀ (l : List (T × T)) (acc : FS), (∀ e ∈ l, e ∈ x.level) → (∀ f ∈ acc.1, f.2.length ≤ n + 201) →
    (l.foldl (fTurn ws seen) acc).2.length ≤ acc.2.length + 4 * l.length ∧ (l.foldl (fTurn ws seen) acc).1.length ≤ acc.1.length + l.length ∧ ∀ f ∈ (l.foldl (fTurn ws seen) acc).1, f.2.length ≤ n + 201
  | [], acc, _, h => by simpa using h
  | e :: r, acc, hl, h => by
    obtain ⟨⟨a, b, hk, ha, hb⟩, ht⟩ := F.level e (hl e (List.mem_cons_self ..))
    have hal := ha.len
    have hbl := hb.len
    have hsp : sp e.1 = (a, b) := by rw [hk]; exact sp_KEY ha.free
    have step : (fTurn ws seen acc e).2.length ≤ acc.2.length + 4 ∧ (fTurn ws seen acc e).1.length ≤ acc.1.length + 1 ∧ ∀ f ∈ (fTurn ws seen acc e).1, f.2.length ≤ n + 201 := by
      unfold fTurn
      rw [hsp]
      split
      · refine ⟨?_, fEmit_len _ _ _ _ _, fEmit_text h ?_⟩
        · have h1 := fPushes_len seen (e.2 ++ [a.headD 0]) (fPairs ws (a.drop 1) (b.drop 1) (a.drop 1 ++ b.drop 1)) acc.2
          have h2 := fPairs_len hw (a.drop 1) (b.drop 1) (a.drop 1 ++ b.drop 1)
          simp only at h1 ⊢
          lia
        · simp only [List.length_append, List.length_cons, List.length_nil, List.length_drop]
          lia
      · exact ⟨by lia, by lia, h⟩
    have ih := acc_bounds hw F seen r (fTurn ws seen acc e) (fun y hy => hl y (List.mem_cons_of_mem _ hy)) step.2.2
    rw [List.foldl_cons, List.length_cons]
    exact ⟨by lia, by lia, ih.2.2⟩
end Mine

namespace Mine

open PySem PySem.W PyProof.Rows PySem.Calls

noncomputable abbrev onePV (uu_ : Unit) : PV := .i 1
noncomputable abbrev fiLoc (fa sa la : Addr) : List (Str × PV) := [("first", .ref fa), ("seen", .ref sa), ("level", .ref la)]
noncomputable abbrev fiR (rc fa sa la : Addr) (rv : Option PV) (x : FX) (X : List (Addr × AO)) : List (Addr × AO) :=
  (la, .dict (pvMap x.level)) :: (sa, .dict (pvM onePV x.seen)) :: (fa, .dict (pvMap x.first)) :: (rc, .cell rv) :: X

section
variable {C : Cfg} {h₀ : Heap} {L : Addr} {loc : List (Str × PV)} {R : List (Addr × AO)} {s : Shared} {A : Around} {E : Value → Shared → Prop} {mg mb : Str → Option Value} {a pl wa : Addr} {k : Nat} {env : Env}

theorem stcellAt {x : Str} {v : Value} {c : Addr} {p : PV} {o : Option PV} {Q : Unit → Shared → Prop} (S : St C h₀ env.locals loc R s) (i : Nat) (ei : R[i]? = some (c, .cell o)) (r : VR s.heap p v) (h : ∀ s', St C h₀ env.locals loc (R.set i (c, .cell (some p))) s' → Q () s')
    (hc : env.cells.lookup x = some c) (hk : autoParam (env.scope.kind = .function) rflT) (hl : autoParam (env.kindOf x = some .cell) rflT) :
    wpAny (model C.prog C.w) A (storeName env x v) Q E s := by
  have hm := List.mem_of_getElem? ei
  have hcell : ∃ v₀, s.heap.IsCell c v₀ := by
    have := S.getOK hm
    cases o with
    | none => exact ⟨_, this⟩
    | some p => obtain ⟨v, e, _⟩ := this; exact ⟨_, e⟩
  obtain ⟨v₀, hcell⟩ := hcell
  refine wpAny_storeName_cell hk hl hc hcell fun h' n' sb => ?_
  exact h _ (S.upd (t := s.toks) i ei sb.extBut fun tk => ⟨v, n', r.tk tk⟩)
theorem getD_words {ws : List T} {i : Nat} (h : i < ws.length) : (ws.map sP).getD i .n = sP (ws.getD i []) := by
  rw [List.getD_eq_getElem?_getD, List.getD_eq_getElem?_getD, List.getElem?_map, List.getElem?_eq_getElem h]; rfl

/-- x != 'text' -/
theorem tst_str_ne {x : Str} {y : Str} {l m : T} {k : Nat} {p1 p2 p3 : Pos} (hx : loc.lookup x = some (.s (toS l))) (hy : y = toS m)
    (hk : autoParam (env.scope.kind = .function) rflT) (hl : autoParam (env.kindOf x = some .local) rflT) (hd : autoParam ((x == ("__debug__" : Str)) = false) decT) :
    Tst C h₀ env.locals loc R A env (.Compare (.Name x p1) [.NotEq] [.Constant (.str y) k p2] p3) (!decide (l = m)) := fun _ _ _ S h =>
  wpAny_isTrue_Compare1 (nm_s S hx (fun t => c_t m S (fun t2 s2 S2 => r_ne_str (wpAny_truthy_bool (h _ S2))) hy) hk hl hd) (by rfl)

theorem fSeen_len : ∀ (l : List (T × T)) (d : List (T × Unit)), (fSeen d l).length ≤ d.length + l.length
  | [], d => Nat.le_refl _
  | e :: r, d => Nat.le_trans (fSeen_len r (mset d e.1 ())) (by have := mset_length d e.1 (); rw [List.length_cons]; lia)

set_option maxHeartbeats 4000000 in
theorem fingers_spec {ws : List T} {iw : Nat} {N : Nat} {Q : Value → Shared → Prop} (Z : Lw C mg mb pl) (D : DefAt C a (theDef 68)) (Rm : Room A (k + 6)) (S : St C h₀ L loc R s)
    (ew : R[iw]? = some (wa, .list (ws.map sP))) (W : WOk2 ws) (hN : N ≤ 200000) (hF : ∀ n, n ≤ N → FOk n (frun ws n)) (hpos : ∀ i, i < N → (frun ws i).level ≠ []) (hend : (frun ws N).level = [])
    (h : ∀ fa s', St C h₀ L loc ((fa, .dict (pvMap (frun ws N).first)) :: R) s' → Q (.ref fa) s') :
    wpAny (model C.prog C.w) A (call (.ref a) [.ref wa]) Q E s := by
  have B := Z.base
  refine call_def ["words"] (ps := [.ref wa]) B D Rm S ⟨rfl, trivial⟩ (fun fd e1 e2 e3 => ?_) rfl (by decide +kernel) (fun L' q cd s₁ _ Rm' S₁ => ?_)
  · obtain ⟨n, qn, ps, bd, sc, gl, cl, df, kd⟩ := fd
    dsimp only at e1 e2 e3
    subst e1 e2 e3
    rfl
  · change St C h₀ L' [] ((L' + 2, .cell none) :: (L' + 1, .cell (some (.ref wa))) :: (L, .ns loc) :: R) s₁ at S₁
    have ew1 : ((L' + 2, AO.cell none) :: (L' + 1, .cell (some (.ref wa))) :: (L, AO.ns loc) :: R)[iw + 3]? = some (wa, .list (ws.map sP)) := by simpa using ew
    obtain ⟨ow, S₂⟩ := S₁.pin (iw + 3) ew1
    change St C h₀ L' [] ((L' + 2, .cell none) :: (L' + 1, .cell (some (.ref wa))) :: (L, .ns loc) :: R.set iw (wa, .pin ow (.list (ws.map sP)))) s₁ at S₂
    have hwm : (wa, AO.pin ow (.list (ws.map sP))) ∈ R.set iw (wa, .pin ow (.list (ws.map sP))) := List.mem_iff_getElem?.mpr ⟨iw, by
      rw [List.getElem?_set]; have := (List.getElem?_eq_some_iff.mp ew).1; simp [this]⟩
    have hset : (R.set iw (wa, AO.pin ow (.list (ws.map sP)))).set iw (wa, .list (ws.map sP)) = R := by rw [List.set_set, set_self ew]
    generalize hRp : R.set iw (wa, AO.pin ow (.list (ws.map sP))) = Rp at S₂ hwm hset
    let en : Env := fnEnv (theDef 68) L' q a cd
    let A' : Around := A.deeper en
    let M : Model := model C.prog C.w
    change wpAny M A' (execs (bodyOf (theDef 68)) en) _ _ _
    let X : List (Addr × AO) := (L' + 1, .cell (some (.ref wa))) :: (L, .ns loc) :: Rp
    change St C h₀ L' [] ((L' + 2, .cell none) :: X) s₁ at S₂
    -- first, seen = {}, {}
    refine wpAny_execs_cons (r_swap2 S₂ Rm'.handled (wpAny_items_cons (wpAny_Dict_empty (wpAny_items_cons (wpAny_Dict_empty (wpAny_items_nil ?_))))))
    have S₃ := S₂.pushed (x := .dict []) (o := { cls := .type "dict", data := .dict #[] }) ⟨[], Heap.DictOf.new _, trivial⟩
    generalize hfa : s₁.heap.objs.size = fa at S₃ ⊢
    have S₄ := S₃.pushed (x := .dict []) (o := { cls := .type "dict", data := .dict #[] }) ⟨[], Heap.DictOf.new _, trivial⟩
    generalize hsa : (s₁.heap.push { cls := .type "dict", data := .dict #[] }).objs.size = sa at S₄ ⊢
    refine ⟨_, _, _, _, rfl, S₄, fun s₂ S₅ _ => ?_⟩
    refine stloc (p := .ref sa) S₅ rfl fun s₃ S₆ => stloc (p := .ref fa) S₆ rfl fun s₄ S₇ => ?_
    -- level = {..}
    have hw4 := W.len
    refine wpAny_execs_cons (r_asgdict2 (cl := [(("words" : Str), L' + 1)]) Rm'.handled (by rfl) (by rfl) (by decide) rfl (by decide) (by rfl) (by rfl) (by decide) rfl (by rfl) ?_)
    have hcm : ∀ (p q r : Addr × AO), ((L' + 1, AO.cell (some (.ref wa))) : Addr × AO) ∈ p :: q :: r :: X := fun p q r => List.mem_of_getElem? (i := 3) rfl
    have hpm : ∀ (p q r t : Addr × AO), (wa, AO.pin ow (.list (ws.map sP))) ∈ p :: q :: r :: t :: (L, .ns loc) :: Rp := fun p q r t => List.mem_cons_of_mem _ (List.mem_cons_of_mem _ (List.mem_cons_of_mem _ (List.mem_cons_of_mem _ (List.mem_cons_of_mem _ hwm))))
    refine nm_cellr S₇ (hcm _ _ _) (wk_list Rm'.handled S₇ (hpm _ _ _ _) fun I o₁ s₅ S₈ WI => ?_) (by rfl)
    refine ⟨I, (ws.map sP).length, _, o₁, _, h₀, _, _, wa, ow, ws.map sP, fun i j => pvMap (lv ws i j), rfl, S₈, WI, ?_, hpm _ _ _ _, rfl, ?_, ?_, ?_, ?_, ?_⟩
    · intro p hp
      rw [List.mem_singleton.mp hp]; exact hpm _ _ _ _
    · intro i hi
      rw [List.length_map] at hi ⊢
      show pvMap (lv ws (i + 1) 0) = pvMap (lv ws i ws.length)
      rw [lv_succ hi]
    · intro i j
      have := lv_len hw4 i j
      show (List.map _ _).length ≤ _
      rw [List.length_map]; lia
    · intro h₁ i Cc D' o s' hi S₉
      exact nm_cellr (c := L' + 1) S₉ (List.mem_of_getElem? (i := 6) rfl) ⟨rfl, S₉⟩ (by rfl) (by rfl) (by rfl)
    · intro h₁ i j Cc D' o I2 oo s' hi hj S₉
      rw [List.length_map] at hi hj
      try dsimp only at S₉ ⊢
      rw [getD_words hi, getD_words hj] at S₉ ⊢
      have hwi := W.ok (ws.getD i []) (by rw [List.getD_eq_getElem?_getD, List.getElem?_eq_getElem hi]; exact List.getElem_mem hi)
      have hwj := W.ok (ws.getD j []) (by rw [List.getD_eq_getElem?_getD, List.getElem?_eq_getElem hj]; exact List.getElem_mem hj)
      have hst := lv_step (ws := ws) (i := i) hj
      generalize ws.getD i [] = one at S₉ hst hwi ⊢
      generalize ws.getD j [] = other at S₉ hst hwj ⊢
      refine tests_one (wpAny_isTrue_Compare1 (nm_s S₉ rfl (fun t1 => nm_s S₉ rfl (fun t2 => PyProof.Rows.lt_str (wpAny_truthy_bool ?_)) (by rfl) (by rfl)) (by rfl) (by rfl)) (by rfl))
      rw [toS_cps, toS_cps]
      refine split_dec (fun h1 => ?_) (fun h1 => ?_)
      · refine wpAny_BinOp (wpAny_BinOp (nm_s S₉ rfl (fun t3 => c_t [32] S₉ fun t4 s₁₀ S₁₀ => r_cat S₁₀ (by simp only [List.length_cons, List.length_nil]; lia) fun t5 s₁₁ S₁₁ => nm_s S₁₁ rfl (fun t6 => r_cat S₁₁ (by simp only [List.length_append, List.length_cons, List.length_nil]; lia) fun t7 s₁₂ S₁₂ => ?_) (by rfl) (by rfl)) (by rfl) (by rfl)))
        refine c_t [] S₁₂ fun t8 s₁₃ S₁₃ => ⟨toS (KEY one other), t7, sP [], rfl, .str _ _, ?_, S₁₃⟩
        show pvMap (lv ws i (j + 1)) = _
        rw [hst, lvStep, if_pos h1]
        exact (dset_pvM (fun v => .s (toS v)) _ _ _).symm
      · refine ⟨?_, S₉⟩
        show pvMap (lv ws i (j + 1)) = _
        rw [hst, lvStep, if_neg h1]
    · intro la s₆ S₉
      try dsimp only at S₉
      rw [List.length_map, lv_full] at S₉
      replace S₉ := S₉.weaken (loc' := fiLoc fa sa la) ⟨by rfl, by rfl, by rfl, trivial⟩
      change St C h₀ L' (fiLoc fa sa la) (fiR (L' + 2) fa sa la none (frun ws 0) X) s₆ at S₉
      have hu : ∀ (A : Around), Room A (k + 5) → A.units + 1 < cLine := fun A r => by have := r.units; lia
      refine wpAny_execs_cons (r_whileQ S₉ (fun m loc' R' => ∃ i la rv, i + m = N ∧ loc' = fiLoc fa sa la ∧ R' = fiR (L' + 2) fa sa la rv (frun ws i) X) N ⟨0, la, none, by lia, rfl, rfl⟩ ?_)
      intro m₀ lw Rw s₇ hIw S₁₀ Qw hQw
      obtain ⟨i, la, rv, him, rfl, rfl⟩ := hIw
      have hFi := hF i (by lia)
      refine Tst.use (tst_dict_ne (a := la) (l := pvMap (frun ws i).level) Z.sys (by have := hu _ Rm'; lia) rfl (List.mem_cons_self ..)) S₁₀ fun s₈ S₁₁ => ?_
      by_cases hiN : i < N
      · have hne := hpos i hiN
        refine ifY (by simpa using hne) ?_
        have hrun1 : frun ws (i + 1) = fStep ws (frun ws i) := rfl
        generalize hx : frun ws i = x at S₁₁ hFi hne hrun1
        -- deeper = {}
        refine wpAny_execs_cons (wpAny_Assign_Name (wpAny_Dict_empty ?_) (by rfl))
        have S₁₂ := S₁₁.pushed (x := .dict []) (o := { cls := .type "dict", data := .dict #[] }) ⟨[], Heap.DictOf.new _, trivial⟩
        generalize hda : s₈.heap.objs.size = da at S₁₂ ⊢
        refine stloc (p := .ref da) S₁₂ rfl fun s₉ S₁₃ => ?_
        -- for state in level: seen[state] = 1
        let ld : List (Str × PV) := ("deeper", .ref da) :: fiLoc fa sa la
        change St C h₀ L' ld _ _ at S₁₃
        obtain ⟨ol, Sp⟩ := S₁₃.pin 1 rfl
        have hln := hFi.levelN
        have hsn := hFi.seenN
        refine wpAny_execs_cons (r_for_dict Z.sys Rm'.handled (nm_r Sp rfl ⟨la, ol, pvMap x.level, _, _, fun j loc' R' => loc' = ld ∧
          R' = (da, .dict []) :: (la, .pin ol (.dict (pvMap x.level))) :: (sa, .dict (pvM onePV (fSeen x.seen (x.level.take j)))) :: (fa, .dict (pvMap x.first)) :: (L' + 2, .cell rv) :: X,
          rfl, Sp, List.mem_cons_of_mem _ (List.mem_cons_self ..), ⟨rfl, rfl⟩, ?_, ?_, ?_⟩))
        · rintro j _ _ ⟨_, rfl⟩; exact List.mem_cons_of_mem _ (List.mem_cons_self ..)
        · intro h₁ j key v I₂ ob l1 R1 s₁₀ tk hkv hI1 S₁₄
          refine cutQ fun Q₁ hQ₁ => ?_
          obtain ⟨rfl, rfl⟩ := hI1
          rw [List.getElem?_map] at hkv
          obtain ⟨e, he, hkv⟩ : ∃ e, x.level[j]? = some e ∧ (toS e.1, PV.s (toS e.2)) = (key, v) := by
            cases hq : x.level[j]? with
            | none => rw [hq] at hkv; cases hkv
            | some e => rw [hq] at hkv; exact ⟨e, rfl, Option.some.inj hkv⟩
          obtain ⟨rfl, rfl⟩ := Prod.mk.inj hkv
          have hjl := (List.getElem?_eq_some_iff.mp he).1
          have hsl1 := fSeen_len (x.level.take j) x.seen
          rw [List.length_take] at hsl1
          refine wpAny_execs_cons (wpAny_Assign_Subscript (c_i S₁₄ fun t1 s₁₁ S₁₅ => nm_r S₁₅ rfl (nm_s S₁₅ rfl fun t2 => r_setitem (p := onePV ()) S₁₅ 3 rfl (.int _ _) (by simp; lia) fun s₁₂ S₁₆ => wpAny_execs_nil ?_)))
          rw [dset_pvM] at S₁₆
          refine hQ₁ .next _ ⟨_, _, ⟨rfl, ?_⟩, S₁₆.weaken ⟨by rfl, by rfl, by rfl, by rfl, trivial⟩⟩
          have : fSeen x.seen (x.level.take (j + 1)) = mset (fSeen x.seen (x.level.take j)) e.1 () := by
            rw [List.take_succ_eq_append_getElem hjl]
            unfold fSeen
            rw [List.foldl_append]
            have := (List.getElem?_eq_some_iff.mp he).2
            rw [this]; rfl
          rw [this]; rfl
        · rintro _ _ s₁₀ ⟨rfl, rfl⟩ S₁₄
          rw [List.length_map, List.take_length] at S₁₄
          have S₁₅ := S₁₄.unpin 1 rfl
          generalize hse : fSeen x.seen x.level = seen at S₁₅ hrun1
          have hseN : seen.length ≤ 400000 := by
            have := fSeen_len x.level x.seen
            rw [← hse]; lia
          -- for state in level
          obtain ⟨ol2, Sp2⟩ := S₁₅.pin 1 rfl
          let eL : Addr × AO := (la, .pin ol2 (.dict (pvMap x.level)))
          let eS : Addr × AO := (sa, .dict (pvM onePV seen))
          refine wpAny_execs_cons (r_for_dict Z.sys Rm'.handled (nm_r Sp2 rfl ⟨la, ol2, pvMap x.level, _, _, fun j loc' R' => ∃ rv, loc' = ld ∧
            R' = (da, .dict (pvMap ((x.level.take j).foldl (fTurn ws seen) (x.first, [])).2)) :: eL :: eS ::
              (fa, .dict (pvMap ((x.level.take j).foldl (fTurn ws seen) (x.first, [])).1)) :: (L' + 2, .cell rv) :: X,
            rfl, Sp2, List.mem_cons_of_mem _ (List.mem_cons_self ..), ⟨rv, rfl, rfl⟩, ?_, ?_, ?_⟩))
          · rintro j _ _ ⟨rv, _, rfl⟩; exact List.mem_cons_of_mem _ (List.mem_cons_self ..)
          · intro h₁ j key v I₂ ob l1 R1 s₁₁ tk hkv hI1 S₁₆
            refine cutQ fun Q₂ hQ₂ => ?_
            obtain ⟨rv, rfl, rfl⟩ := hI1
            rw [List.getElem?_map] at hkv
            obtain ⟨e, he, hkv⟩ : ∃ e, x.level[j]? = some e ∧ (toS e.1, PV.s (toS e.2)) = (key, v) := by
              cases hq : x.level[j]? with
              | none => rw [hq] at hkv; cases hkv
              | some e => rw [hq] at hkv; exact ⟨e, rfl, Option.some.inj hkv⟩
            obtain ⟨rfl, rfl⟩ := Prod.mk.inj hkv
            have hjl := (List.getElem?_eq_some_iff.mp he).1
            have hstep : (x.level.take (j + 1)).foldl (fTurn ws seen) (x.first, []) = fTurn ws seen ((x.level.take j).foldl (fTurn ws seen) (x.first, [])) e := by
              rw [List.take_succ_eq_append_getElem hjl, List.foldl_append, (List.getElem?_eq_some_iff.mp he).2]; rfl
            obtain ⟨⟨a1, b1, hkey, ha, hb⟩, htl⟩ := hFi.level e (List.mem_of_getElem? he)
            obtain ⟨a0, ar, rfl⟩ := List.exists_cons_of_ne_nil ha.ne
            obtain ⟨b0, br, rfl⟩ := List.exists_cons_of_ne_nil hb.ne
            have hal := ha.len
            have hbl := hb.len
            have hsp : sp e.1 = (a0 :: ar, b0 :: br) := by rw [hkey]; exact sp_KEY ha.free
            have hnod : mget x.level e.1 = some e.2 := mget_of_mem hFi.nodup (List.mem_of_getElem? he)
            have hab3 := acc_bounds hw4 hFi seen (x.level.take j) (x.first, []) (fun y hy => List.mem_of_mem_take hy) (fun f hf => by have := hFi.firstT f hf; lia)
            have hfirN := hFi.firstN
            generalize hacc : (x.level.take j).foldl (fTurn ws seen) (x.first, []) = acc at S₁₆ hstep hab3
            rw [List.length_take] at hab3
            obtain ⟨hab1, hab2, hab3⟩ := hab3
            simp only [List.length_nil] at hab1 hab2
            have hdN : acc.2.length ≤ 800000 := by lia
            have hfN : acc.1.length ≤ 300000 := by lia
            have hfT : ∀ f ∈ acc.1, f.2.length ≤ 400000 := fun f hf => by have := hab3 f hf; lia
            let eI : Addr × AO := (I₂, .raw ob)
            let eD : Addr × AO := (da, .dict (pvMap acc.2))
            let l₁ : List (Str × PV) := ("state", .s (toS e.1)) :: ld
            let R₁ : List (Addr × AO) := eI :: eD :: eL :: eS :: (fa, .dict (pvMap acc.1)) :: (L' + 2, .cell rv) :: X
            change St C h₁ L' l₁ R₁ _ at S₁₆
            -- one, other = state.split(' ')
            refine wpAny_execs_cons (r_unpackL Rm'.handled (wpAny_Call_method (T := "str") (id := "str.split") (by rfl) (by rfl) (by rfl) F.plainAttrs_str F.slot_str_split F.type_str_split ?_))
            refine nm_s S₁₆ rfl fun t1 => ⟨typeIs_str _ _ _, (fun _ e => nomatch e), callWith_bi (wpAny_items_cons (c_t [32] S₁₆ fun t2 s₁₂ S₁₇ => wpAny_items_nil ?_))⟩
            show wpAny _ _ (call (.builtin "str.split") [.str (toS e.1) t1, .str (toS [32]) t2]) _ _ _
            rw [hkey]
            refine call_split S₁₇ ha.free hb.free (by unfold KEY; simp only [List.length_append, List.length_cons, List.length_nil] at hal hbl ⊢; lia) fun D' t3 t4 s₁₃ S₁₈ hL => ?_
            refine ⟨D', _, h₁, L', _, _, rfl, hL, by rfl, S₁₈, fun s₁₄ S₁₉ _ => ?_⟩
            refine aio_cons (wpAny_assign_Name (stloc (p := sP (a0 :: ar)) S₁₉ (.str _ _) fun s₁₅ S₂₀ => aio_cons (wpAny_assign_Name (stloc (p := sP (b0 :: br)) S₂₀ (.str _ _) fun s₁₆ S₂₁ => aio_nil ?_))))
            -- if one[0] == other[0]
            refine wpAny_execs_cons (wpAny_If (wpAny_isTrue_Compare1 (Subscript_Constant (nm_s S₂₁ rfl fun t5 => c_i S₂₁ fun t6 s₁₇ S₂₂ => item_t (i := 0) S₂₂ rfl (by lia) fun t7 s₁₈ S₂₃ =>
              Subscript_Constant (nm_s S₂₃ rfl fun t8 => c_i S₂₃ fun t9 s₁₉ S₂₄ => item_t (i := 0) S₂₄ rfl (by lia) fun t10 s₂₀ S₂₅ => r_eq_str (wpAny_truthy_bool ?_)))) (by rfl)))
            by_cases hab : a0 = b0
            · subst hab
              refine ifY (by simp) ?_
              -- text, one, other = ..
              replace S₂₅ := S₂₅.weaken (loc' := ("one", sP (a0 :: ar)) :: ("other", sP (a0 :: br)) :: l₁) ⟨by rfl, by rfl, by rfl, by rfl, by rfl, by rfl, by rfl, trivial⟩
              have hlm : ∀ (p q : Addr × AO) (X : List (Addr × AO)), eL ∈ p :: q :: eL :: X := fun p q X => List.mem_of_getElem? (i := 2) rfl
              refine wpAny_execs_cons (r_swap3 S₂₅ Rm'.handled (wpAny_items_cons (wpAny_BinOp (Subscript_Name (nm_r S₂₅ rfl (nm_s S₂₅ rfl fun t11 => item_d S₂₅ (S₂₅.getOK (a := la) (x := .pin ol2 (.dict (pvMap x.level))) (hlm _ _ _)).2 (p := sP e.2) (by rw [dget_pvMap, hnod]; rfl) fun v s₂₁ hv S₂₆ => ?_))))))
              obtain ⟨t12, rfl⟩ := vr_str hv
              refine Subscript_Constant (nm_s S₂₆ rfl fun t13 => c_i S₂₆ fun t14 s₂₂ S₂₇ => item_t (i := 0) S₂₇ rfl (by lia) fun t15 s₂₃ S₂₈ => r_cat S₂₈ (by simp; lia) fun t16 s₂₄ S₂₉ => ?_)
              simp only [List.length_cons] at hal hbl
              refine wpAny_items_cons (r_from S₂₉ (nm_s S₂₉ rfl fun t17 => ⟨a0 :: ar, t17, rfl, by simp only [List.length_cons]; lia, c_i S₂₉ fun t18 s₂₅ S₃₀ => ⟨1, t18, rfl, S₃₀, fun t19 s₂₆ S₃₁ => ?_⟩⟩))
              refine wpAny_items_cons (r_from S₃₁ (nm_s S₃₁ rfl fun t20 => ⟨a0 :: br, t20, rfl, by simp only [List.length_cons]; lia, c_i S₃₁ fun t21 s₂₇ S₃₂ => ⟨1, t21, rfl, S₃₂, fun t22 s₂₈ S₃₃ => ?_⟩⟩))
              refine wpAny_items_nil ⟨_, _, _, _, _, rfl, S₃₃, fun s₂₉ S₃₄ _ => ?_⟩
              refine stloc (p := sP br) S₃₄ (.str _ _) fun s₃₀ S₃₅ => stloc (p := sP ar) S₃₅ (.str _ _) fun s₃₁ S₃₆ => stloc (p := sP (e.2 ++ [a0])) S₃₆ (.str _ _) fun s₃₂ S₃₇ => ?_
              have htx : (e.2 ++ [a0]).length ≤ 200001 := by simp; lia
              generalize htxt : e.2 ++ [a0] = text at S₃₇ htx
              let l₃ : List (Str × PV) := ("text", sP text) :: ("one", sP ar) :: ("other", sP br) :: ld
              replace S₃₇ := S₃₇.weaken (loc' := l₃) ⟨by rfl, by rfl, by rfl, by rfl, by rfl, by rfl, by rfl, trivial⟩
              -- rest = one + other
              refine wpAny_execs_cons (wpAny_Assign_Name (wpAny_BinOp (nm_s S₃₇ rfl fun t23 => nm_s S₃₇ rfl fun t24 => r_cat S₃₇ (by lia) fun t25 s₃₃ S₃₈ => ?_)) (by rfl))
              refine stcellAt (c := L' + 2) (p := sP (ar ++ br)) S₃₈ 5 rfl (.str _ _) (fun s₃₄ S₃₉ => ?_) (by rfl)
              change St C h₁ L' _ (eI :: eD :: eL :: eS :: (fa, .dict (pvMap acc.1)) :: (L' + 2, .cell (some (sP (ar ++ br)))) :: X) s₃₄ at S₃₉
              have hft : fTurn ws seen acc e = (fEmit acc.1 text (ar ++ br) ar br, (fPairs ws ar br (ar ++ br)).foldl (fPush seen text) acc.2) := by
                unfold fTurn; rw [hsp, ← htxt]; exact if_pos rfl
              rw [hft] at hstep
              have hrl : (ar ++ br).length ≤ 200 := by rw [List.length_append]; lia
              clear hft
              generalize hrest : ar ++ br = rest at S₃₉ hrl hstep
              let Y₁ : List (Addr × AO) := (L' + 2, .cell (some (sP rest))) :: X
              change St C h₁ L' l₃ (eI :: eD :: eL :: eS :: (fa, .dict (pvMap acc.1)) :: Y₁) s₃₄ at S₃₉
              -- first[rest] = text + rest
              refine wpAny_execs_cons (wpAny_mono (Q := fun f s' => f = .next ∧ St C h₁ L' (l₃) (eI :: eD :: eL :: eS ::
                (fa, .dict (pvMap (fEmit acc.1 text rest ar br))) :: Y₁) s') ?_ (fun f s' hq => ?_) fun _ _ q => q)
              · refine cutQ fun Q₃ hQ₃ => ?_
                have hcm : ∀ (p q r u v : Addr × AO), ((L' + 2, AO.cell (some (sP rest))) : Addr × AO) ∈ p :: q :: r :: u :: v :: Y₁ := fun p q r u v => List.mem_of_getElem? (i := 5) rfl
                have hfm : ∀ (p q r u : Addr × AO) (X : List (Addr × AO)), ((fa, AO.dict (pvMap acc.1)) : Addr × AO) ∈ p :: q :: r :: u :: (fa, .dict (pvMap acc.1)) :: X := fun p q r u X => List.mem_of_getElem? (i := 4) rfl
                have nmrest : ∀ {hb : Heap} {loc' : List (Str × PV)} {p : Pos} {s' : Shared} {Q : Value → Shared → Prop} {E : Value → Shared → Prop} {p1 q1 r1 u1 v1 : Addr × AO}, St C hb L' loc' (p1 :: q1 :: r1 :: u1 :: v1 :: Y₁) s' → (∀ t, Q (.str (toS rest) t) s') →
                    wpAny (model C.prog C.w) A' (eval (.Name "rest" p) en) Q E s' := fun S' h' =>
                  nm_cell (c := L' + 2) S' (hcm _ _ _ _ _) (fun v hv => by obtain ⟨t, rfl⟩ := vr_str hv; exact h' t) (by rfl)
                refine wpAny_If (wpAny_isTrue_BoolOp (wpAny_allTrue_And_cons (Tst.use (Tst.or (tst_str_eq (l := ar) (m := []) rfl (by decide +kernel)) (tst_str_eq (l := br) (m := []) rfl (by decide +kernel))) S₃₉ fun s₃₅ S₄₀ => ?_)))
                by_cases hem : ar = [] ∨ br = []
                · rw [show (decide (ar = []) || decide (br = [])) = true by simpa using hem, if_pos rfl]
                  refine wpAny_allTrue_And_cons (wpAny_isTrue_BoolOp (wpAny_allTrue_Or_cons (wpAny_isTrue_Compare1 (nmrest S₄₀ fun t26 => nm_r S₄₀ rfl (r_notin_dict Z.sys S₄₀ (hfm _ _ _ _ _) (S₄₀.getOK (hfm _ _ _ _ _)) fun s₃₆ S₄₁ => wpAny_truthy_bool ?_)) (by rfl))))
                  rw [dget_pvMap, Option.isSome_map]
                  have hset : (mset acc.1 rest (text ++ rest)).length ≤ 1000000 := by have := mset_length acc.1 rest (text ++ rest); lia
                  cases hg : mget acc.1 rest with
                  | none =>
                    have hfe : fEmit acc.1 text rest ar br = mset acc.1 rest (text ++ rest) := by unfold fEmit; rw [if_pos]; rw [hg]; exact ⟨hem, rfl⟩
                    rw [hfe] at hQ₃; rw [if_pos (by simp), if_pos (by simp)]
                    refine wpAny_allTrue_And_nil ?_
                    refine ifY rfl ?_
                    refine wpAny_execs_cons (wpAny_Assign_Subscript (wpAny_BinOp (nm_s S₄₁ rfl fun t27 => nmrest S₄₁ fun t28 => r_cat S₄₁ (by lia) fun t29 s₃₇ S₄₂ => nm_r S₄₂ rfl (nmrest S₄₂ fun t30 => r_setitem (p := sP (text ++ rest)) S₄₂ 4 rfl (.str _ _) (by simp; lia) fun s₃₈ S₄₃ => wpAny_execs_nil (hQ₃ _ _ ⟨rfl, ?_⟩)))))
                    rw [dset_pvMap] at S₄₃
                    exact S₄₃
                  | some f =>
                    have hfl : f.length ≤ 400000 := hfT _ (mget_mem hg)
                    refine ifN (by simp) ?_
                    refine wpAny_allTrue_Or_cons (wpAny_isTrue_Compare1 (wpAny_Tuple (wpAny_items_cons ?_)) (by rfl))
                    refine r_bi B S₄₁ Z.len (wpAny_items_cons (wpAny_BinOp (nm_s S₄₁ rfl fun t27 => nmrest S₄₁ fun t28 => r_cat S₄₁ (by lia) fun t29 s₃₇ S₄₂ => wpAny_items_nil (r_len_str S₄₂ (by rw [List.length_append]; lia) fun t30 s₃₈ S₄₃ => ?_))))
                    refine wpAny_items_cons (wpAny_BinOp (nm_s S₄₃ rfl fun t31 => nmrest S₄₃ fun t32 => r_cat S₄₃ (by lia) fun t33 s₃₉ S₄₄ => wpAny_items_nil ⟨sz2, ?_⟩))
                    have hv1 : VR (s₃₉.heap.push { cls := .type "tuple", data := .seq #[.int ((text ++ rest).length : Int) t30, .str (toS (text ++ rest)) t33] }) (lenPV (text ++ rest)) (.ref s₃₉.heap.objs.size) := vr_len
                    have S₄₅ := (S₄₄.push { cls := .type "tuple", data := .seq #[.int ((text ++ rest).length : Int) t30, .str (toS (text ++ rest)) t33] }).re
                    have hdf : dget (pvMap acc.1) (toS rest) = some (sP f) := by rw [dget_pvMap, hg]; rfl
                    refine wpAny_Tuple (wpAny_items_cons ?_)
                    refine r_bi B S₄₅ Z.len (wpAny_items_cons (Subscript_Name (nm_r S₄₅ rfl (nmrest S₄₅ fun t34 => item_d S₄₅ (S₄₅.getOK (hfm _ _ _ _ _)) hdf fun v1 s₄₀ hv2 S₄₆ => ?_))))
                    obtain ⟨t35, rfl⟩ := vr_str hv2
                    refine wpAny_items_nil (r_len_str S₄₆ (by lia) fun t36 s₄₁ S₄₇ => wpAny_items_cons (Subscript_Name (nm_r S₄₇ rfl (nmrest S₄₇ fun t37 => item_d S₄₇ (S₄₇.getOK (hfm _ _ _ _ _)) hdf fun v2 s₄₂ hv3 S₄₈ => ?_))))
                    obtain ⟨t38, rfl⟩ := vr_str hv3
                    refine wpAny_items_nil ⟨sz2, ?_⟩
                    have S₄₉ := S₄₈.push { cls := .type "tuple", data := .seq #[.int (f.length : Int) t36, .str (toS f) t38] }
                    refine cmp_lt_len (x := text ++ rest) (y := f) (by have := hu _ Rm'; lia) (VR.tk S₄₉.tk hv1) vr_len (wpAny_truthy_bool ?_)
                    have S₅₀ := S₄₉.un (S₄₄.push { cls := .type "tuple", data := .seq #[.int ((text ++ rest).length : Int) t30, .str (toS (text ++ rest)) t33] }).tk
                    cases hlt : lt2 (text ++ rest) f with
                    | true =>
                      have hfe : fEmit acc.1 text rest ar br = mset acc.1 rest (text ++ rest) := by unfold fEmit; rw [if_pos]; rw [hg]; exact ⟨hem, hlt⟩
                      rw [hfe] at hQ₃; rw [if_pos rfl]
                      refine wpAny_allTrue_And_nil ?_
                      refine ifY rfl ?_
                      refine wpAny_execs_cons (wpAny_Assign_Subscript (wpAny_BinOp (nm_s S₅₀ rfl fun t27 => nmrest S₅₀ fun t28 => r_cat S₅₀ (by lia) fun t29 s₄₃ S₅₁ => nm_r S₅₁ rfl (nmrest S₅₁ fun t30 => r_setitem (p := sP (text ++ rest)) S₅₁ 4 rfl (.str _ _) (by simp; lia) fun s₄₄ S₅₂ => wpAny_execs_nil (hQ₃ _ _ ⟨rfl, ?_⟩)))))
                      rw [dset_pvMap] at S₅₂
                      exact S₅₂
                    | false =>
                      have hfe : fEmit acc.1 text rest ar br = acc.1 := by unfold fEmit; rw [if_neg]; rw [hg]; simp [hlt]
                      rw [hfe] at hQ₃; rw [if_neg Bool.false_ne_true]
                      refine wpAny_allTrue_Or_nil ?_
                      refine ifN Bool.false_ne_true (ifN Bool.false_ne_true ?_)
                      exact wpAny_execs_nil (hQ₃ _ _ ⟨rfl, S₅₀⟩)
                · rw [show (decide (ar = []) || decide (br = [])) = false by simpa using hem, if_neg Bool.false_ne_true, if_neg Bool.false_ne_true]
                  refine wpAny_execs_nil (hQ₃ _ _ ⟨rfl, ?_⟩)
                  have : fEmit acc.1 text rest ar br = acc.1 := by unfold fEmit; rw [if_neg]; exact fun h => hem h.1
                  rw [this]; exact S₄₀
              obtain ⟨rfl, S₄₀⟩ := hq
              generalize hfe : fEmit acc.1 text rest ar br = first2 at S₄₀ hstep
              let Y : List (Addr × AO) := eL :: eS :: (fa, .dict (pvMap first2)) :: Y₁
              change St C h₁ L' l₃ (eI :: eD :: Y) _ at S₄₀
              have hwX : (wa, AO.pin ow (.list (ws.map sP))) ∈ X := List.mem_append_right [_, _] hwm
              have hfpl := fPairs_len hw4 ar br rest
              have hfpm := fPairs_mem (ws := ws) (n := 200) (fun w hw => by have := (W.ok w hw).2.1; lia) (show ar.length ≤ 200 by lia) (show br.length ≤ 200 by lia) hrl
              have hwm9 : ∀ (p q r t u v : Addr × AO), (wa, AO.pin ow (.list (ws.map sP))) ∈ p :: q :: r :: t :: u :: v :: X := fun p q r t u v => List.mem_append_right [_, _, _, _, _, _] hwX
              have hcm9 : ∀ (p q r t u v : Addr × AO), ((L' + 1, AO.cell (some (.ref wa))) : Addr × AO) ∈ p :: q :: r :: t :: u :: v :: X := fun p q r t u v => List.mem_of_getElem? (i := 6) rfl
              -- pairs = ..
              refine wpAny_execs_cons (wpAny_Assign_Name (wpAny_mono (Q := fun v s' => ∃ pa, v = .ref pa ∧ St C h₁ L' (l₃) ((pa, .list ((fPairs ws ar br rest).map pairPV)) :: eI :: eD :: Y) s') ?_ (fun v s' hq => ?_) fun _ _ q => q) (by rfl))
              · refine cutQ fun Q₄ hQ₄ => ?_
                refine wpAny_IfExp (Tst.use (Tst.and (tst_str_ne (l := ar) (m := []) rfl (by decide +kernel)) (tst_str_ne (l := br) (m := []) rfl (by decide +kernel))) S₄₀ fun s₃₅ S₄₁ => ?_)
                by_cases hem : ar ≠ [] ∧ br ≠ []
                · have hfp : fPairs ws ar br rest = [(ar, br)] := by unfold fPairs; rw [if_pos hem]
                  rw [hfp] at hQ₄; rw [show (!decide (ar = []) && !decide (br = [])) = true by simpa using hem, if_pos rfl]
                  refine wpAny_List (wpAny_items_cons (wpAny_Tuple (wpAny_items_cons (nm_s S₄₁ rfl fun t40 => wpAny_items_cons (nm_s S₄₁ rfl fun t41 => wpAny_items_nil ⟨sz2, wpAny_items_nil ⟨sz1, ?_⟩⟩)))))
                  have S₄₂ := S₄₁.push { cls := .type "tuple", data := .seq #[.str (toS ar) t40, .str (toS br) t41] }
                  have S₄₃ := S₄₂.pushed (x := .list [pairPV (ar, br)]) (o := { cls := .type "list", data := .seq ([Value.ref s₃₅.heap.objs.size] : List Value).toArray })
                    ⟨#[.ref s₃₅.heap.objs.size], ⟨0, Heap.get?_push_size _ rfl⟩, VR.tk (TK.of_keeps fun b o e => Heap.get?_push_of_some _ e) vr_pair, trivial⟩
                  exact hQ₄ _ _ ⟨_, rfl, S₄₃⟩
                · rw [show (!decide (ar = []) && !decide (br = [])) = false by cases ar <;> cases br <;> simp_all, if_neg Bool.false_ne_true]
                  refine r_listcomp (cl := [(("rest" : Str), L' + 2)]) (by rfl) (by decide) rfl (by decide) (by rfl) (nm_cellr (c := L' + 1) S₄₁ (hcm9 _ _ _ _ _ _) (wk_list Rm'.handled S₄₁ (hwm9 _ _ _ _ _ _) fun I o₁ s₃₆ S₄₂ WI => ?_) (by rfl))
                  refine ⟨I, (ws.map sP).length, _, o₁, _, h₁, _, _, fun i => if rest = [] then [] else (ws.take i).map fun w => pairPV (w, rest), rfl, S₄₂, WI, ?_, by simp; lia, by simp, ?_, ?_, ?_⟩
                  · intro p hp
                    rw [List.mem_singleton.mp hp]; exact hwm9 _ _ _ _ _ _
                  · intro i hi
                    try dsimp only
                    split
                    · exact Nat.zero_le _
                    · rw [List.length_map, List.length_take]; lia
                  · intro i Cc D' o s' hi S₄₃
                    rw [List.length_map] at hi
                    try dsimp only at S₄₃ ⊢
                    rw [getD_words hi] at S₄₃ ⊢
                    have htk : ws.take (i + 1) = ws.take i ++ [ws.getD i []] := by
                      rw [List.take_succ_eq_append_getElem hi, List.getD_eq_getElem?_getD, List.getElem?_eq_getElem hi]; rfl
                    generalize ws.getD i [] = word at S₄₃ htk ⊢
                    have hcr : ∀ (p q r t u v w z : Addr × AO), ((L' + 2, AO.cell (some (sP rest))) : Addr × AO) ∈ p :: q :: r :: t :: u :: v :: w :: z :: Y₁ := fun p q r t u v w z => List.mem_of_getElem? (i := 8) rfl
                    refine tests_one (wpAny_isTrue_Compare1 (nm_cell (c := L' + 2) (p := sP rest) S₄₃ (hcr _ _ _ _ _ _ _ _) (fun v hv => ?_) (by rfl) (by rfl) (by rfl)) (by rfl))
                    obtain ⟨t40, rfl⟩ := vr_str hv
                    refine c_t [] S₄₃ fun t41 s'' S₄₄ => r_ne_str (wpAny_truthy_bool ?_)
                    by_cases hre : rest = []
                    · rw [decide_eq_true hre, if_neg (by simp), if_pos hre, if_pos hre]
                      rw [if_pos hre] at S₄₄
                      exact ⟨rfl, S₄₄⟩
                    · rw [decide_eq_false hre, if_pos (by simp), if_neg hre, if_neg hre]
                      rw [if_neg hre] at S₄₄
                      refine wpAny_Tuple (wpAny_items_cons (nm_s S₄₄ rfl (fun t42 => wpAny_items_cons (nm_cell (c := L' + 2) (p := sP rest) S₄₄ (hcr _ _ _ _ _ _ _ _) (fun v hv => ?_) (by rfl) (by rfl) (by rfl))) (by rfl) (by rfl)))
                      obtain ⟨t43, rfl⟩ := vr_str hv
                      refine wpAny_items_nil ⟨sz2, pairPV (word, rest), vr_pair, ?_, S₄₄.push _⟩
                      rw [htk, List.map_append]; rfl
                  · intro D' s' S₄₃
                    refine hQ₄ _ _ ⟨D', rfl, ?_⟩
                    try dsimp only at S₄₃
                    have hfp : (fPairs ws ar br rest).map pairPV = if rest = [] then [] else (ws.take (ws.map sP).length).map fun w => pairPV (w, rest) := by
                      unfold fPairs
                      rw [if_neg hem, List.length_map, List.take_length]
                      by_cases hre : rest = []
                      · rw [if_pos hre, if_neg (by simp [hre])]; rfl
                      · rw [if_neg hre, if_pos hre, List.map_map]; rfl
                    rw [hfp]; exact S₄₃
              obtain ⟨pa, rfl, S₄₁⟩ := hq
              refine stloc (p := .ref pa) S₄₁ rfl fun s₃₅ S₄₂ => ?_
              generalize hfps : fPairs ws ar br rest = fps at S₄₂ hstep hfpl hfpm
              obtain ⟨op, S₄₃⟩ := S₄₂.pin 0 rfl
              let eP : Addr × AO := (pa, .pin op (.list (fps.map pairPV)))
              refine wpAny_execs_cons (r_for_list Rm'.handled (nm_r S₄₃ rfl ⟨pa, op, fps.map pairPV, _, _, fun i loc' R' => loc' = (("pairs" : Str), .ref pa) :: l₃ ∧
                R' = eP :: eI :: (da, .dict (pvMap ((fps.take i).foldl (fPush seen text) acc.2))) :: Y, rfl, S₄₃, List.mem_cons_self .., ⟨rfl, rfl⟩, ?_, ?_, ?_⟩))
              · rintro i _ _ ⟨_, rfl⟩; exact List.mem_cons_self ..
              · intro h₂ i pv I₃ ob₃ l1 R1 s₃₆ tk3 hpv hI1 S₄₄
                refine cutQ fun Q₅ hQ₅ => ?_
                obtain ⟨rfl, rfl⟩ := hI1
                rw [List.getElem?_map] at hpv
                obtain ⟨p, hp, hpv⟩ : ∃ p, fps[i]? = some p ∧ pairPV p = pv := by
                  cases hq : fps[i]? with
                  | none => rw [hq] at hpv; cases hpv
                  | some p => rw [hq] at hpv; exact ⟨p, rfl, Option.some.inj hpv⟩
                subst hpv
                have hil := (List.getElem?_eq_some_iff.mp hp).1
                have htk : (fps.take (i + 1)).foldl (fPush seen text) acc.2 = fPush seen text ((fps.take i).foldl (fPush seen text) acc.2) p := by
                  rw [List.take_succ_eq_append_getElem hil, List.foldl_append, (List.getElem?_eq_some_iff.mp hp).2]; rfl
                have hdl := fPushes_len seen text (fps.take i) acc.2
                rw [List.length_take] at hdl
                generalize (fps.take i).foldl (fPush seen text) acc.2 = deeper at S₄₄ htk hdl
                obtain ⟨hpl1, hpl2⟩ := hfpm p (List.mem_of_getElem? hp)
                let e₃ : Addr × AO := (I₃, .raw ob₃)
                let l₄ : List (Str × PV) := ("pair", pairPV p) :: ("pairs", .ref pa) :: l₃
                let R₃ : List (Addr × AO) := e₃ :: eP :: eI :: (da, .dict (pvMap deeper)) :: Y
                change St C h₂ L' l₄ R₃ _ at S₄₄
                have hmn : (tmin p.1 p.2).length ≤ 200 := by unfold tmin; split <;> assumption
                have hmx : (tmax p.1 p.2).length ≤ 200 := by unfold tmax; split <;> assumption
                -- after = min(pair) + ' ' + max(pair)
                refine wpAny_execs_cons (wpAny_Assign_Name (wpAny_BinOp (wpAny_BinOp (r_bi B S₄₄ Z.min (wpAny_items_cons (nm (p := pairPV p) S₄₄ rfl fun v hv => wpAny_items_nil (call_minP Rm'.handled S₄₄ hv fun t50 s₃₇ S₄₅ => c_t [32] S₄₅ fun t51 s₃₈ S₄₆ => r_cat S₄₆ (by simp only [List.length_cons, List.length_nil]; lia) fun t52 s₃₉ S₄₇ => ?_)))))) (by rfl))
                refine r_bi B S₄₇ Z.max (wpAny_items_cons (nm (p := pairPV p) S₄₇ rfl fun v hv => wpAny_items_nil (call_maxP Rm'.handled S₄₇ hv fun t53 s₄₀ S₄₈ => r_cat S₄₈ (by simp only [List.length_append, List.length_cons, List.length_nil]; lia) fun t54 s₄₁ S₄₉ => ?_)))
                refine stloc (p := sP (fKey p)) S₄₉ (.str _ _) fun s₄₂ S₅₀ => ?_
                have hsm : (sa, AO.dict (pvM onePV seen)) ∈ R₃ := List.mem_of_getElem? (i := 5) rfl
                have hdm : (da, AO.dict (pvMap deeper)) ∈ R₃ := List.mem_of_getElem? (i := 3) rfl
                -- if after not in seen and ..
                refine wpAny_execs_cons (wpAny_mono (Q := fun f s' => f = .next ∧ St C h₂ L' (("after", sP (fKey p)) :: l₄) (e₃ :: eP :: eI :: (da, .dict (pvMap (fPush seen text deeper p))) :: Y) s') ?_ (fun f s' hq => ?_) fun _ _ q => q)
                · refine cutQ fun Q₆ hQ₆ => ?_
                  refine wpAny_If (wpAny_isTrue_BoolOp (wpAny_allTrue_And_cons (wpAny_isTrue_Compare1 (nm_s S₅₀ rfl fun t55 => nm_r S₅₀ rfl (r_notin_dict Z.sys S₅₀ hsm (S₅₀.getOK hsm) fun s₄₃ S₅₁ => wpAny_truthy_bool ?_)) (by rfl))))
                  rw [dget_pvM, Option.isSome_map]
                  cases hg : mget seen (fKey p) with
                  | some u =>
                    have hfe : fPush seen text deeper p = deeper := by unfold fPush; rw [if_neg]; rw [hg]; simp
                    rw [hfe] at hQ₆; rw [if_neg (by simp), if_neg (by simp)]
                    exact wpAny_execs_nil (hQ₆ _ _ ⟨rfl, S₅₁⟩)
                  | none =>
                    refine ifY (by simp) ?_
                    refine wpAny_allTrue_And_cons (wpAny_isTrue_BoolOp (wpAny_allTrue_Or_cons (wpAny_isTrue_Compare1 (nm_s S₅₁ rfl fun t56 => nm_r S₅₁ rfl (r_notin_dict Z.sys S₅₁ hdm (S₅₁.getOK hdm) fun s₄₄ S₅₂ => wpAny_truthy_bool ?_)) (by rfl))))
                    rw [dget_pvMap, Option.isSome_map]
                    cases hg2 : mget deeper (fKey p) with
                    | none =>
                      have hfe : fPush seen text deeper p = mset deeper (fKey p) text := by unfold fPush; rw [if_pos]; rw [hg, hg2]; simp
                      rw [hfe] at hQ₆; rw [if_pos (by simp), if_pos (by simp)]
                      refine wpAny_allTrue_And_nil ?_
                      refine ifY rfl ?_
                      refine wpAny_execs_cons (wpAny_Assign_Subscript (nm_s S₅₂ rfl fun t57 => nm_r S₅₂ rfl (nm_s S₅₂ rfl fun t58 => r_setitem (p := sP text) S₅₂ 3 rfl (.str _ _) (by simp; lia) fun s₄₅ S₅₃ => wpAny_execs_nil (hQ₆ _ _ ⟨rfl, ?_⟩))))
                      rw [dset_pvMap] at S₅₃
                      exact S₅₃
                    | some d =>
                      refine ifN (by simp) ?_
                      have hdg : dget (pvMap deeper) (toS (fKey p)) = some (sP d) := by rw [dget_pvMap, hg2]; rfl
                      refine wpAny_allTrue_Or_cons (wpAny_isTrue_Compare1 (nm_s S₅₂ rfl fun t57 => Subscript_Name (nm_r S₅₂ rfl (nm_s S₅₂ rfl fun t58 => item_d S₅₂ (S₅₂.getOK hdm) hdg fun v1 s₄₅ hv1 S₅₃ => ?_))) (by rfl))
                      obtain ⟨t59, rfl⟩ := vr_str hv1
                      refine PyProof.Rows.lt_str (wpAny_truthy_bool ?_)
                      rw [toS_cps, toS_cps]
                      by_cases hlt : text < d
                      · have hfe : fPush seen text deeper p = mset deeper (fKey p) text := by unfold fPush; rw [if_pos]; rw [hg, hg2]; simp [hlt]
                        rw [hfe] at hQ₆; rw [decide_eq_true hlt, if_pos rfl]
                        refine wpAny_allTrue_And_nil ?_
                        refine ifY rfl ?_
                        refine wpAny_execs_cons (wpAny_Assign_Subscript (nm_s S₅₃ rfl fun t60 => nm_r S₅₃ rfl (nm_s S₅₃ rfl fun t61 => r_setitem (p := sP text) S₅₃ 3 rfl (.str _ _) (by simp; lia) fun s₄₆ S₅₄ => wpAny_execs_nil (hQ₆ _ _ ⟨rfl, ?_⟩))))
                        rw [dset_pvMap] at S₅₄
                        exact S₅₄
                      · have hfe : fPush seen text deeper p = deeper := by unfold fPush; rw [if_neg]; rw [hg, hg2]; simp [hlt]
                        rw [hfe] at hQ₆; rw [decide_eq_false hlt, if_neg Bool.false_ne_true]
                        refine wpAny_allTrue_Or_nil ?_
                        refine ifN Bool.false_ne_true (ifN Bool.false_ne_true ?_)
                        exact wpAny_execs_nil (hQ₆ _ _ ⟨rfl, S₅₃⟩)
                · obtain ⟨rfl, S₅₁⟩ := hq
                  refine wpAny_execs_nil (hQ₅ .next _ ⟨_, _, ⟨rfl, rfl⟩, ?_⟩)
                  rw [htk]
                  exact S₅₁.weaken ⟨by rfl, by rfl, by rfl, by rfl, by rfl, by rfl, by rfl, by rfl, trivial⟩
              · rintro _ _ s₃₆ ⟨rfl, rfl⟩ S₄₄
                rw [List.length_map, List.take_length] at S₄₄
                repeat refine wpAny_execs_nil ?_
                refine hQ₂ .next _ ⟨_, _, ⟨some (sP rest), rfl, ?_⟩, S₄₄.drop.weaken ⟨by rfl, by rfl, by rfl, by rfl, trivial⟩⟩
                rw [hstep]
            · refine ifN (by simp [hab]) ?_
              repeat refine wpAny_execs_nil ?_
              refine hQ₂ .next _ ⟨_, _, ⟨rv, rfl, ?_⟩, S₂₅.weaken ⟨by rfl, by rfl, by rfl, by rfl, trivial⟩⟩
              have : fTurn ws seen acc e = acc := by unfold fTurn; rw [hsp]; exact if_neg hab
              rw [hstep, this]
          · rintro _ _ s₁₁ ⟨rv, rfl, rfl⟩ S₁₆
            rw [List.length_map, List.take_length] at S₁₆
            have S₁₇ := S₁₆.unpin 1 rfl
            -- level = deeper
            refine wpAny_execs_cons (wpAny_Assign_Name (nm_r S₁₇ rfl (stloc (p := .ref da) S₁₇ rfl fun s₁₂ S₁₈ => wpAny_execs_nil ?_)) (by rfl))
            refine hQw .next _ ⟨N - (i + 1), _, _, by lia, ⟨i + 1, da, rv, by lia, rfl, rfl⟩, ?_⟩
            rw [hrun1]
            unfold fStep
            rw [hse]
            exact (S₁₈.sub (.cons_cons _ (List.sublist_cons_self ..))).weaken ⟨by rfl, by rfl, by rfl, trivial⟩
      · have hiN' : i = N := by lia
        subst hiN'
        refine ifN (by simp [hend]) ?_
        refine wpAny_execs_cons (wpAny_Return_some (nm_r S₁₁ rfl ?_))
        refine h fa s₈ ?_
        have eRp : Rp[iw]? = some (wa, AO.pin ow (.list (ws.map sP))) := by
          rw [← hRp, List.getElem?_set]; have := (List.getElem?_eq_some_iff.mp ew).1; simp [this]
        have S₁₂ := S₁₁.unpin (iw + 6) eRp
        have S₁₃ : St C h₀ L' (fiLoc fa sa la) (fiR (L' + 2) fa sa la rv (frun ws i) ((L' + 1, .cell (some (.ref wa))) :: (L, .ns loc) :: R)) s₈ := by
          rw [← hset]; exact S₁₂
        exact (St.back (X := []) (S₁₃.pull 5 rfl)).sub (.cons _ (.cons _ (.cons_cons _ (.cons _ (List.sublist_cons_self ..)))))
end
end Mine

namespace Mine

open PySem PySem.W PyProof.Rows PySem.Calls

/-! ### texts by (length, signs) -/
noncomputable def le2 (x y : T) : Prop := x.length < y.length ∨ (x.length = y.length ∧ ¬ y < x)
theorem le2_refl (x : T) : le2 x x := .inr ⟨rfl, List.lt_irrefl _⟩
theorem nlt_trans {x y z : T} (h1 : ¬ y < x) (h2 : ¬ z < y) : ¬ z < x := by
  rw [List.not_lt] at h1 h2 ⊢
  exact List.le_trans h1 h2
theorem le2_trans {x y z : T} (h1 : le2 x y) (h2 : le2 y z) : le2 x z := by
  unfold le2 at *
  rcases h1 with h1 | ⟨h1, h1'⟩ <;> rcases h2 with h2 | ⟨h2, h2'⟩
  · left; lia
  · left; lia
  · left; lia
  · exact .inr ⟨by lia, nlt_trans h1' h2'⟩
theorem le2_antisymm {x y : T} (h1 : le2 x y) (h2 : le2 y x) : x = y := by
  unfold le2 at *
  rcases h1 with h1 | ⟨h1, h1'⟩ <;> rcases h2 with h2 | ⟨h2, h2'⟩
  · lia
  · lia
  · lia
  · rw [List.not_lt] at h1' h2'
    exact List.le_antisymm h1' h2'
theorem le2_total (x y : T) : le2 x y ∨ le2 y x := by
  unfold le2
  rcases Nat.lt_trichotomy x.length y.length with h | h | h
  · exact .inl (.inl h)
  · by_cases q : y < x
    · refine .inr (.inr ⟨h.symm, fun q2 => ?_⟩)
      exact List.lt_irrefl _ (List.lt_trans q q2)
    · exact .inl (.inr ⟨h, q⟩)
  · exact .inr (.inl h)
theorem app_lt (m x y : T) : m ++ x < m ++ y ↔ x < y := by
  induction m with
  | nil => rfl
  | cons c m ih => rw [List.cons_append, List.cons_append, List.cons_lt_cons_iff]; simp [ih]
theorem lt_app : ∀ {x y : T}, x.length = y.length → ∀ m, x ++ m < y ++ m ↔ x < y
  | [], [], _, m => by simp [List.lt_irrefl]
  | c :: x, d :: y, h, m => by
    have ih := lt_app (x := x) (y := y) (by simpa using h) m
    rw [List.cons_append, List.cons_append, List.cons_lt_cons_iff, List.cons_lt_cons_iff, ih]
theorem le2_left (m : T) {x y : T} (h : le2 x y) : le2 (m ++ x) (m ++ y) := by
  unfold le2 at *
  simp only [List.length_append, app_lt]
  rcases h with h | ⟨h, h'⟩
  · left; lia
  · exact .inr ⟨by lia, h'⟩
theorem le2_right {x y : T} (h : le2 x y) (m : T) : le2 (x ++ m) (y ++ m) := by
  unfold le2 at *
  simp only [List.length_append]
  rcases h with h | ⟨h, h'⟩
  · left; lia
  · exact .inr ⟨by lia, by rwa [lt_app h.symm]⟩
theorem le2_grow (x m : T) : le2 x (x ++ m) := by
  cases m with
  | nil => rw [List.append_nil]; exact le2_refl _
  | cons c m => left; simp
theorem le2_grow' (m x : T) : le2 x (m ++ x) := by
  cases m with
  | nil => exact le2_refl _
  | cons c m => left; simp; lia
theorem lt2_le {x y : T} : lt2 x y = true → le2 x y := by
  unfold lt2 le2
  split
  · rename_i h
    intro q
    exact .inr ⟨h, fun q2 => List.lt_irrefl _ (List.lt_trans (of_decide_eq_true q) q2)⟩
  · intro q; exact .inl (of_decide_eq_true q)
theorem not_lt2_le {x y : T} : lt2 x y = false → le2 y x := by
  unfold lt2 le2
  split
  · rename_i h
    intro q; exact .inr ⟨h.symm, of_decide_eq_false q⟩
  · rename_i h
    intro q
    have := of_decide_eq_false q
    left; lia

/-! ### the two ways, as relations -/
noncomputable def glue (b : Bool) (t m : T) : T := if b then m ++ t else t ++ m
theorem le2_glue {b : Bool} {x y : T} (h : le2 x y) (m : T) : le2 (glue b x m) (glue b y m) := by
  cases b
  · exact le2_right h m
  · exact le2_left m h
theorem le2_glue_grow (b : Bool) (x m : T) : le2 x (glue b x m) := by
  cases b
  · exact le2_grow x m
  · exact le2_grow' m x
theorem glue_len (b : Bool) (x m : T) : (glue b x m).length = x.length + m.length := by
  cases b <;> simp [glue] <;> lia
theorem stands_iff {p w : T} {b : Bool} (h : standsT p w b = true) : w = glue b p (leftT w p b) := by
  have hl := standsT_len h
  unfold standsT at h
  unfold glue leftT
  cases b with
  | true =>
    simp only [if_true, decide_eq_true_eq] at h ⊢
    conv => lhs; rw [← List.take_append_drop (w.length - p.length) w]
    rw [h]
  | false =>
    simp only [Bool.false_eq_true, if_false, decide_eq_true_eq] at h ⊢
    conv => lhs; rw [← List.take_append_drop p.length w]
    rw [h]
theorem stands_glue (p m : T) (b : Bool) : standsT p (glue b p m) b = true ∧ leftT (glue b p m) p b = m := by
  unfold standsT leftT glue
  cases b with
  | true => simp
  | false => simp

inductive RR (ws : List T) (b : Bool) : T → T → Prop
  | base {p d : T} : p ∈ ws → glue b p d ∈ ws → p ≠ glue b p d → RR ws b (glue b p d) d
  | ext1 {t r m : T} : RR ws b t r → r ≠ [] → glue b r m ∈ ws → RR ws b (glue b t m) m
  | ext2 {t w r : T} : RR ws b t (glue b w r) → glue b w r ≠ [] → w ∈ ws → RR ws b t r

/-! ### what law_hangingu_ computes is the least -/
noncomputable def Cov (rows : List Row) (least : List (T × T)) (t r : T) : Prop := (∃ t0, mget least r = some t0 ∧ le2 t0 t) ∨ ∃ n, (n, t, r) ∈ rows
structure HInv (ws : List T) (b : Bool) (s : HS) : Prop where
  size : ∀ row ∈ s.1, row.1 = row.2.1.length
  sound : ∀ row ∈ s.1, RR ws b row.2.1 row.2.2
  soundL : ∀ r t, mget s.2 r = some t → RR ws b t r
  fresh : ∀ row ∈ s.1, mget s.2 row.2.2 = none
  mono : ∀ r t, mget s.2 r = some t → ∀ row ∈ s.1, le2 t row.2.1
  base : ∀ p d, p ∈ ws → glue b p d ∈ ws → p ≠ glue b p d → Cov s.1 s.2 (glue b p d) d
  ext1 : ∀ r t m, mget s.2 r = some t → r ≠ [] → glue b r m ∈ ws → Cov s.1 s.2 (glue b t m) m
  ext2 : ∀ w t r, mget s.2 (glue b w r) = some t → glue b w r ≠ [] → w ∈ ws → Cov s.1 s.2 t r

theorem rowLt_trans {x y z : Row} (h1 : rowLt x y = true) (h2 : rowLt y z = true) : rowLt x z = true := by
  unfold rowLt at *
  by_cases e1 : x.1 = y.1
  · rw [if_pos e1] at h1
    by_cases e2 : y.1 = z.1
    · rw [if_pos e2] at h2
      rw [if_pos (e1.trans e2)]
      by_cases f1 : x.2.1 = y.2.1
      · rw [if_pos f1] at h1
        by_cases f2 : y.2.1 = z.2.1
        · rw [if_pos f2] at h2
          rw [if_pos (f1.trans f2)]
          exact decide_eq_true (List.lt_trans (of_decide_eq_true h1) (of_decide_eq_true h2))
        · rw [if_neg f2] at h2
          rw [if_neg (by rw [f1]; exact f2), f1]
          exact h2
      · rw [if_neg f1] at h1
        by_cases f2 : y.2.1 = z.2.1
        · rw [← f2, if_neg f1]
          exact h1
        · rw [if_neg f2] at h2
          have := List.lt_trans (of_decide_eq_true h1) (of_decide_eq_true h2)
          rw [if_neg (fun e => by rw [e] at this; exact List.lt_irrefl _ this)]
          exact decide_eq_true this
    · rw [if_neg e2] at h2
      rw [if_neg (by rw [e1]; exact e2), e1]
      exact h2
  · rw [if_neg e1] at h1
    by_cases e2 : y.1 = z.1
    · rw [if_neg (by rw [← e2]; exact e1), ← e2]
      exact h1
    · rw [if_neg e2] at h2
      have h1 := of_decide_eq_true h1
      have h2 := of_decide_eq_true h2
      rw [if_neg (by lia)]
      exact decide_eq_true (by lia)
theorem rowLt_irrefl (x : Row) : rowLt x x = false := by
  unfold rowLt; simp [List.lt_irrefl]
theorem argBest_min (bt : Nat → Nat → Bool) (ht : ∀ i j k, bt i j = true → bt j k = true → bt i k = true) (hi : ∀ i, bt i i = false) : ∀ j i, i ≤ j → bt i (argBest bt j) = false
  | 0, i, h => by
    have : i = 0 := by lia
    subst this; exact hi 0
  | j + 1, i, h => by
    have ih := argBest_min bt ht hi j
    unfold argBest
    split
    · rename_i hb
      by_cases e : i = j + 1
      · subst e; exact hi _
      · cases q : bt i (j + 1) with
        | false => rfl
        | true => rw [← ih i (by lia)]; exact (ht _ _ _ q hb).symm
    · rename_i hb
      by_cases e : i = j + 1
      · subst e; simpa using hb
      · exact ih i (by lia)
theorem minRow_least {rows : List Row} {r : Row} (h : r ∈ rows) : rowLt r (minRow rows) = false := by
  obtain ⟨i, hi, e⟩ := List.mem_iff_getElem.mp h
  have := argBest_min (fun i j => rowLt (rows.getD i row0) (rows.getD j row0)) (fun i j k => rowLt_trans) (fun i => rowLt_irrefl _) (rows.length - 1) i (by lia)
  have e2 : rows.getD i row0 = r := by rw [List.getD_eq_getElem?_getD, List.getElem?_eq_getElem hi, ← e]; rfl
  simp only [e2] at this
  exact this
theorem rowLt_le2 {r m : Row} (hr : r.1 = r.2.1.length) (hm : m.1 = m.2.1.length) (h : rowLt r m = false) : le2 m.2.1 r.2.1 := by
  unfold rowLt at h
  unfold le2
  by_cases e : r.1 = m.1
  · rw [if_pos e] at h
    refine .inr ⟨by lia, ?_⟩
    by_cases f : r.2.1 = m.2.1
    · rw [f]; exact List.lt_irrefl _
    · rw [if_neg f] at h; exact of_decide_eq_false h
  · rw [if_neg e] at h
    have := of_decide_eq_false h
    left; lia

/-- the rows that one step adds -/
structure ExtOf (ws : List T) (b : Bool) (m row : Row) : Prop where
  size : m.1 = m.2.1.length → row.1 = row.2.1.length
  sound : RR ws b m.2.1 m.2.2 → RR ws b row.2.1 row.2.2
  grow : le2 m.2.1 row.2.1
theorem extOf {ws : List T} {b : Bool} {m row : Row} (h : row ∈ extRows ws b m) : ExtOf ws b m row := by
  obtain ⟨w, hw, h⟩ := List.mem_flatMap.mp h
  rcases List.mem_append.mp h with h | h
  · unfold Mine.ext1 at h
    split at h
    · rename_i q
      have e := stands_iff q.2
      rw [List.mem_singleton.mp h]
      have eg : (if b = true then leftT w m.2.2 b ++ m.2.1 else m.2.1 ++ leftT w m.2.2 b) = glue b m.2.1 (leftT w m.2.2 b) := rfl
      rw [eg]
      refine ⟨fun hs => ?_, fun hr => ?_, le2_glue_grow _ _ _⟩
      · simp only [glue_len]; lia
      · exact .ext1 hr q.1 (by rw [← e]; exact hw)
    · cases h
  · unfold Mine.ext2 at h
    split at h
    · rename_i q
      have e := stands_iff q.2
      rw [List.mem_singleton.mp h]
      refine ⟨fun hs => hs, fun hr => ?_, le2_refl _⟩
      refine .ext2 (w := w) ?_ ?_ hw
      · rw [← e]; exact hr
      · rw [← e]; exact q.1
    · cases h
theorem hinv0 (ws : List T) (b : Bool) : HInv ws b (hrun ws b 0) := by
  have pair : ∀ row ∈ initRows ws b, ∃ p d, p ∈ ws ∧ glue b p d ∈ ws ∧ p ≠ glue b p d ∧ row = ((glue b p d).length, glue b p d, d) := by
    intro row h
    obtain ⟨one, h1, h⟩ := List.mem_flatMap.mp h
    obtain ⟨other, h2, h⟩ := List.mem_flatMap.mp h
    unfold pairRow at h
    split at h
    · rename_i q
      have e := stands_iff q.2
      rw [List.mem_singleton.mp h]
      exact ⟨one, leftT other one b, h1, by rw [← e]; exact h2, by rw [← e]; exact q.1, by rw [← e]⟩
    · cases h
  refine ⟨fun row h => ?_, fun row h => ?_, fun r t h => (by cases h), fun row _ => rfl, fun r t h => (by cases h), fun p d h1 h2 h3 => .inr ⟨(glue b p d).length, ?_⟩, fun r t m h => (by cases h), fun w t r h => (by cases h)⟩
  · obtain ⟨p, d, _, _, _, rfl⟩ := pair row h; rfl
  · obtain ⟨p, d, h1, h2, h3, rfl⟩ := pair row h; exact .base h1 h2 h3
  · refine List.mem_flatMap.mpr ⟨p, h1, List.mem_flatMap.mpr ⟨_, h2, ?_⟩⟩
    unfold pairRow
    rw [if_pos ⟨h3, (stands_glue p d b).1⟩, (stands_glue p d b).2]
    exact List.mem_singleton.mpr rfl
theorem hinvS {ws : List T} {b : Bool} {s : HS} (I : HInv ws b s) (hne : s.1 ≠ []) : HInv ws b (hstep ws b s) := by
  obtain ⟨rows, least⟩ := s
  have hm := minRow_mem hne
  have hmin : ∀ row ∈ rows, le2 (minRow rows).2.1 row.2.1 := fun row h => rowLt_le2 (I.size row h) (I.size _ hm) (minRow_least h)
  generalize he : minRow rows = m at hm hmin
  have hfr := I.fresh m hm
  show HInv ws b ((rows ++ extRows ws b (minRow rows)).filter (fun r => (mget (mset least (minRow rows).2.2 (minRow rows).2.1) r.2.2).isNone), mset least (minRow rows).2.2 (minRow rows).2.1)
  rw [he]
  have hg : ∀ y, mget (mset least m.2.2 m.2.1) y = if y = m.2.2 then some m.2.1 else mget least y := fun y => mget_mset _ _ _ _
  -- what is covered stays so
  have keep : ∀ t r, Cov rows least t r → Cov ((rows ++ extRows ws b m).filter (fun r => (mget (mset least m.2.2 m.2.1) r.2.2).isNone)) (mset least m.2.2 m.2.1) t r := by
    rintro t r (⟨t0, h1, h2⟩ | ⟨n, h⟩)
    · refine .inl ⟨t0, ?_, h2⟩
      rw [hg, if_neg (fun e => by rw [e, hfr] at h1; cases h1)]
      exact h1
    · by_cases e : r = m.2.2
      · exact .inl ⟨m.2.1, by rw [hg, if_pos e], hmin _ h⟩
      · refine .inr ⟨n, List.mem_filter.mpr ⟨List.mem_append.mpr (.inl h), ?_⟩⟩
        have := I.fresh _ h
        simp only at this ⊢
        rw [hg, if_neg e, this]; rfl
  have fresh' : ∀ n t r, (n, t, r) ∈ extRows ws b m → Cov ((rows ++ extRows ws b m).filter (fun r => (mget (mset least m.2.2 m.2.1) r.2.2).isNone)) (mset least m.2.2 m.2.1) t r := by
    intro n t r h
    have hgrow := (extOf h).grow
    cases q : mget (mset least m.2.2 m.2.1) r with
    | none => exact .inr ⟨n, List.mem_filter.mpr ⟨List.mem_append.mpr (.inr h), by simp [q]⟩⟩
    | some t0 =>
      refine .inl ⟨t0, q, ?_⟩
      rw [hg] at q
      split at q
      · cases q; exact hgrow
      · exact le2_trans (I.mono r t0 q m hm) hgrow
  refine ⟨fun row h => ?_, fun row h => ?_, fun r t h => ?_, fun row h => ?_, fun r t h row hr => ?_, fun p d h1 h2 h3 => keep _ _ (I.base p d h1 h2 h3), fun r t x h h1 h2 => ?_, fun w t r h h1 h2 => ?_⟩
  · rcases List.mem_append.mp (List.mem_filter.mp h).1 with h | h
    · exact I.size row h
    · exact (extOf h).size (I.size m hm)
  · rcases List.mem_append.mp (List.mem_filter.mp h).1 with h | h
    · exact I.sound row h
    · exact (extOf h).sound (I.sound m hm)
  · simp only at h
    rw [hg] at h
    split at h
    · rename_i e; cases h; rw [e]; exact I.sound m hm
    · exact I.soundL r t h
  · have := (List.mem_filter.mp h).2
    simpa using this
  · simp only at h
    have hmr : le2 m.2.1 row.2.1 := by
      rcases List.mem_append.mp (List.mem_filter.mp hr).1 with h | h
      · exact hmin row h
      · exact (extOf h).grow
    rw [hg] at h
    split at h
    · cases h; exact hmr
    · exact le2_trans (I.mono r t h m hm) hmr
  · simp only at h
    rw [hg] at h
    split at h
    · rename_i e
      cases h
      refine fresh' (m.1 + x.length) _ _ (List.mem_flatMap.mpr ⟨_, h2, List.mem_append.mpr (.inl ?_)⟩)
      unfold Mine.ext1
      rw [← e, if_pos ⟨h1, (stands_glue r x b).1⟩, (stands_glue r x b).2]
      exact List.mem_singleton.mpr rfl
    · exact keep _ _ (I.ext1 r t x h h1 h2)
  · simp only at h
    rw [hg] at h
    split at h
    · rename_i e
      cases h
      refine fresh' m.1 _ _ (List.mem_flatMap.mpr ⟨_, h2, List.mem_append.mpr (.inr ?_)⟩)
      unfold Mine.ext2
      rw [← e, if_pos ⟨h1, (stands_glue w r b).1⟩, (stands_glue w r b).2]
      exact List.mem_singleton.mpr rfl
    · exact keep _ _ (I.ext2 w t r h h1 h2)
theorem hinv (ws : List T) (b : Bool) : ∀ n, (∀ i, i < n → (hrun ws b i).1 ≠ []) → HInv ws b (hrun ws b n)
  | 0, _ => hinv0 ws b
  | n + 1, h => hinvS (hinv ws b n fun i hi => h i (by lia)) (h n (by lia))
structure IsLeast (P : T → T → Prop) (f : T → Option T) : Prop where
  sound : ∀ r t, f r = some t → P t r
  least : ∀ t r, P t r → ∃ t0, f r = some t0 ∧ le2 t0 t
theorem hang_least {ws : List T} {b : Bool} {N : Nat} (hpos : ∀ i, i < N → (hrun ws b i).1 ≠ []) (hend : (hrun ws b N).1 = []) : IsLeast (RR ws b) (mget (hrun ws b N).2) := by
  have I := hinv ws b N hpos
  have cov : ∀ t r, Cov (hrun ws b N).1 (hrun ws b N).2 t r → ∃ t0, mget (hrun ws b N).2 r = some t0 ∧ le2 t0 t := by
    rintro t r (h | ⟨n, h⟩)
    · exact h
    · rw [hend] at h; cases h
  refine ⟨I.soundL, fun t r h => ?_⟩
  induction h with
  | base h1 h2 h3 => exact cov _ _ (I.base _ _ h1 h2 h3)
  | ext1 _ h1 h2 ih =>
    obtain ⟨t0, e, hle⟩ := ih
    obtain ⟨t1, e1, hle1⟩ := cov _ _ (I.ext1 _ _ _ e h1 h2)
    exact ⟨t1, e1, le2_trans hle1 (le2_glue hle _)⟩
  | ext2 _ h1 h2 ih =>
    obtain ⟨t0, e, hle⟩ := ih
    obtain ⟨t1, e1, hle1⟩ := cov _ _ (I.ext2 _ _ _ e h1 h2)
    exact ⟨t1, e1, le2_trans hle1 hle⟩
theorem IsLeast.eq {P : T → T → Prop} {f g : T → Option T} (F : IsLeast P f) (G : IsLeast P g) (r : T) : f r = g r := by
  cases e : f r with
  | some t =>
    obtain ⟨t1, e1, h1⟩ := G.least t r (F.sound r t e)
    obtain ⟨t2, e2, h2⟩ := F.least t1 r (G.sound r t1 e1)
    rw [e] at e2; cases e2
    rw [e1, le2_antisymm h1 h2]
  | none =>
    cases e1 : g r with
    | none => rfl
    | some t1 =>
      obtain ⟨t2, e2, _⟩ := F.least t1 r (G.sound r t1 e1)
      rw [e] at e2; cases e2
end Mine

namespace Mine

open PySem PySem.W PyProof.Rows PySem.Calls

/-! ### two fingers, as a relation -/
inductive SS (ws : List T) : T → T → T → Prop
  | base {a b : T} : a ∈ ws → b ∈ ws → a ≠ b → SS ws [] a b
  | both {t a b : T} {c : Nat} : SS ws t (c :: a) (c :: b) → a ≠ [] → b ≠ [] → SS ws (t ++ [c]) a b
  | left {t b w : T} {c : Nat} : SS ws t [c] (c :: b) → b ≠ [] → w ∈ ws → SS ws (t ++ [c]) w b
  | symm {t a b : T} : SS ws t a b → SS ws t b a
noncomputable def EE (ws : List T) (t r : T) : Prop := ∃ u c a b, SS ws u (c :: a) (c :: b) ∧ (a = [] ∨ b = []) ∧ t = u ++ [c] ++ (a ++ b) ∧ r = a ++ b

/-- what a state means -/
noncomputable def SM (ws : List T) (t a b : T) : Prop :=
  (t ++ a ∈ ws ∧ t ++ b ∈ ws ∧ t ++ a ≠ t ++ b) ∨
  (∃ p, RR ws false (t ++ b) (p ++ b) ∧ p ++ a ∈ ws ∧ p ++ b ≠ []) ∨ (∃ p, RR ws false (t ++ a) (p ++ a) ∧ p ++ b ∈ ws ∧ p ++ a ≠ [])
theorem SM.symm {ws : List T} {t a b : T} (h : SM ws t a b) : SM ws t b a := by
  rcases h with ⟨h1, h2, h3⟩ | h | h
  · exact .inl ⟨h2, h1, Ne.symm h3⟩
  · exact .inr (.inr h)
  · exact .inr (.inl h)
theorem sm_emitL {ws : List T} {t b : T} {c : Nat} (h : SM ws t [c] (c :: b)) : RR ws false (t ++ [c] ++ b) b := by
  have e : t ++ [c] ++ b = t ++ c :: b := by simp
  rcases h with ⟨h1, h2, h3⟩ | ⟨p, h1, h2, h3⟩ | ⟨p, h1, h2, h3⟩
  · have := RR.base (b := false) (p := t ++ [c]) (d := b) h1 (by show t ++ [c] ++ b ∈ ws; rw [e]; exact h2) (by show t ++ [c] ≠ t ++ [c] ++ b; rw [e]; exact h3)
    exact this
  · have e2 : p ++ c :: b = glue false (p ++ [c]) b := by simp [glue]
    rw [e2] at h1 h3
    rw [e]
    exact .ext2 h1 h3 h2
  · have e2 : p ++ c :: b = glue false (p ++ [c]) b := by simp [glue]
    rw [e2] at h2
    exact .ext1 h1 h3 h2
theorem ss_sm {ws : List T} {t a b : T} (h : SS ws t a b) : SM ws t a b := by
  induction h with
  | base h1 h2 h3 => exact .inl ⟨h1, h2, h3⟩
  | @both t a b c _ ha hb ih =>
    have e : ∀ x : T, t ++ [c] ++ x = t ++ c :: x := fun x => by simp
    rcases ih with ⟨h1, h2, h3⟩ | ⟨p, h1, h2, h3⟩ | ⟨p, h1, h2, h3⟩
    · exact .inl ⟨by rw [e]; exact h1, by rw [e]; exact h2, by rw [e, e]; exact h3⟩
    · exact .inr (.inl ⟨p ++ [c], by rw [e]; simpa using h1, by simpa using h2, by simp⟩)
    · exact .inr (.inr ⟨p ++ [c], by rw [e]; simpa using h1, by simpa using h2, by simp⟩)
  | @left t b w c _ hb hw ih =>
    exact .inr (.inl ⟨[], sm_emitL ih, hw, hb⟩)
  | symm _ ih => exact ih.symm
theorem ee_rr {ws : List T} {t r : T} (h : EE ws t r) : RR ws false t r := by
  obtain ⟨u, c, a, b, hs, hab, rfl, rfl⟩ := h
  rcases hab with rfl | rfl
  · simpa using sm_emitL (ss_sm hs)
  · have := sm_emitL (ss_sm hs.symm)
    simpa using this
theorem ss_run {ws : List T} : ∀ (r : T) {t x y : T}, r ≠ [] → (x = [] ∨ y = []) → SS ws t (r ++ x) (r ++ y) → EE ws (t ++ r ++ (x ++ y)) (x ++ y)
  | [], _, _, _, h, _, _ => absurd rfl h
  | [c], t, x, y, _, hxy, h => ⟨t, c, x, y, h, hxy, rfl, rfl⟩
  | c :: d :: r, t, x, y, _, hxy, h => by
    have h2 : SS ws (t ++ [c]) (d :: r ++ x) (d :: r ++ y) := .both h (by simp) (by simp)
    have := ss_run (d :: r) (by simp) hxy h2
    have e : t ++ [c] ++ (d :: r) ++ (x ++ y) = t ++ (c :: d :: r) ++ (x ++ y) := by simp
    rw [e] at this
    exact this
/-- after an emission every word may come -/
theorem ee_next {ws : List T} {t r w : T} (h : EE ws t r) (hr : r ≠ []) (hw : w ∈ ws) : ∃ u, t = u ++ r ∧ SS ws u w r := by
  obtain ⟨u, c, a, b, hs, hab, rfl, rfl⟩ := h
  refine ⟨u ++ [c], rfl, ?_⟩
  rcases hab with rfl | rfl
  · rw [List.nil_append] at hr ⊢
    exact .left hs hr hw
  · rw [List.append_nil] at hr ⊢
    exact .left hs.symm hr hw
theorem rr_ee {ws : List T} (hne : ∀ w ∈ ws, w ≠ []) {t r : T} (h : RR ws false t r) : EE ws t r := by
  induction h with
  | @base p d h1 h2 h3 =>
    have := ss_run (ws := ws) p (t := []) (x := []) (y := d) (hne p h1) (.inl rfl) (.base (by simpa using h1) (by simpa [glue] using h2) (by simpa [glue] using h3))
    simpa [glue] using this
  | @ext1 t r m _ hr hw ih =>
    obtain ⟨u, rfl, hs⟩ := ee_next ih hr hw
    have := ss_run (ws := ws) r (t := u) (x := m) (y := []) hr (.inr rfl) (by simpa [glue] using hs)
    simpa [glue] using this
  | @ext2 t w r _ hr hw ih =>
    obtain ⟨u, e, hs⟩ := ee_next ih hr hw
    have := ss_run (ws := ws) w (t := u) (x := []) (y := r) (hne w hw) (.inl rfl) (by simpa [glue] using hs)
    rw [e]
    simpa [glue] using this

/-! ### texts with two readings -/
noncomputable def DD (ws : List T) (t : T) : Prop := ∃ us vs : List T, us ≠ vs ∧ (∀ u ∈ us, u ∈ ws) ∧ (∀ v ∈ vs, v ∈ ws) ∧ us.flatten = t ∧ vs.flatten = t
theorem rr_dd {ws : List T} {t r : T} (h : RR ws false t r) : ∃ (u v : T) (us vs : List T), u ≠ v ∧ (∀ x ∈ u :: us, x ∈ ws) ∧ (∀ x ∈ v :: vs, x ∈ ws) ∧ (u :: us).flatten ++ r = t ∧ (v :: vs).flatten = t := by
  induction h with
  | @base p d h1 h2 h3 =>
    refine ⟨p, glue false p d, [], [], h3, by simpa using h1, by simpa using h2, by simp [glue], by simp⟩
  | @ext1 t r m _ hr hw ih =>
    obtain ⟨u, v, us, vs, h1, h2, h3, h4, h5⟩ := ih
    refine ⟨v, u, vs, us ++ [glue false r m], Ne.symm h1, h3, fun x hx => ?_, by rw [h5]; rfl, ?_⟩
    · rw [← List.cons_append] at hx
      rcases List.mem_append.mp hx with q | q
      · exact h2 x q
      · rw [List.mem_singleton.mp q]; exact hw
    · rw [← h4]; simp [glue]
  | @ext2 t w r _ hr hw ih =>
    obtain ⟨u, v, us, vs, h1, h2, h3, h4, h5⟩ := ih
    refine ⟨u, v, us ++ [w], vs, h1, fun x hx => ?_, h3, ?_, h5⟩
    · rw [← List.cons_append] at hx
      rcases List.mem_append.mp hx with q | q
      · exact h2 x q
      · rw [List.mem_singleton.mp q]; exact hw
    · rw [← h4]; simp [glue]
theorem rr_dd0 {ws : List T} {t : T} (h : RR ws false t []) : DD ws t := by
  obtain ⟨u, v, us, vs, h1, h2, h3, h4, h5⟩ := rr_dd h
  exact ⟨u :: us, v :: vs, fun e => h1 (List.cons.inj e).1, h2, h3, by simpa using h4, h5⟩
theorem two_begin {a b c d : T} (h : a ++ b = c ++ d) : (∃ x, c = a ++ x ∧ b = x ++ d) ∨ (∃ x, a = c ++ x ∧ d = x ++ b) := by
  rcases List.append_eq_append_iff.mp h with ⟨x, h1, h2⟩ | ⟨x, h1, h2⟩
  · exact .inl ⟨x, h1, h2⟩
  · exact .inr ⟨x, h1, h2⟩
/-- one reading hangs over by r, both go on to the same end -/
theorem hang_end {ws : List T} (hne : ∀ w ∈ ws, w ≠ []) : ∀ (n : Nat) (us vs : List T) (t r : T), us.length + vs.length = n → RR ws false t r → (∀ u ∈ us, u ∈ ws) → (∀ v ∈ vs, v ∈ ws) → us.flatten = r ++ vs.flatten →
    ∃ t' x, RR ws false t' [] ∧ t ++ vs.flatten = t' ++ x := by
  intro n
  induction n with
  | zero =>
    intro us vs t r hn h hu hv e
    cases r with
    | nil => exact ⟨t, vs.flatten, h, rfl⟩
    | cons c r =>
      cases us with
      | nil => simp at e
      | cons u us => rw [List.length_cons] at hn; lia
  | succ n ih =>
    intro us vs t r hn h hu hv e
    cases r with
    | nil => exact ⟨t, vs.flatten, h, rfl⟩
    | cons c r =>
      cases us with
      | nil => simp at e
      | cons u us =>
        have hu' := hu u (List.mem_cons_self ..)
        rw [List.flatten_cons] at e
        rw [List.length_cons] at hn
        rcases two_begin e with ⟨x, h1, h2⟩ | ⟨x, h1, h2⟩
        · have e2 : c :: r = glue false u x := h1
          exact ih us vs t x (by lia) (.ext2 (w := u) (by rw [← e2]; exact h) (by rw [← e2]; simp) hu') (fun y hy => hu y (List.mem_cons_of_mem _ hy)) hv h2
        · have e2 : u = glue false (c :: r) x := h1
          obtain ⟨t', y, h3, h4⟩ := ih vs us (glue false t x) x (by lia) (.ext1 (r := c :: r) h (by simp) (by rw [← e2]; exact hu')) hv (fun y hy => hu y (List.mem_cons_of_mem _ hy)) h2
          refine ⟨t', y, h3, ?_⟩
          rw [h2, ← h4]; simp [glue]
theorem dd_rr_aux {ws : List T} (hne : ∀ w ∈ ws, w ≠ []) : ∀ (us vs : List T), us ≠ vs → (∀ u ∈ us, u ∈ ws) → (∀ v ∈ vs, v ∈ ws) → us.flatten = vs.flatten → ∃ t' p x, RR ws false t' [] ∧ us.flatten = p ++ t' ++ x
  | [], [], h, _, _, _ => absurd rfl h
  | [], v :: vs, _, _, hv, e => by
    have := hne v (hv v (List.mem_cons_self ..))
    rw [List.flatten_cons, List.flatten_nil] at e
    exact absurd (List.append_eq_nil_iff.mp e.symm).1 this
  | u :: us, [], _, hu, _, e => by
    have := hne u (hu u (List.mem_cons_self ..))
    rw [List.flatten_cons, List.flatten_nil] at e
    exact absurd (List.append_eq_nil_iff.mp e).1 this
  | u :: us, v :: vs, h, hu, hv, e => by
    have hu1 := hu u (List.mem_cons_self ..)
    have hv1 := hv v (List.mem_cons_self ..)
    have hu2 : ∀ y ∈ us, y ∈ ws := fun y hy => hu y (List.mem_cons_of_mem _ hy)
    have hv2 : ∀ y ∈ vs, y ∈ ws := fun y hy => hv y (List.mem_cons_of_mem _ hy)
    rw [List.flatten_cons, List.flatten_cons] at e
    by_cases q : u = v
    · subst q
      have e2 := List.append_cancel_left e
      obtain ⟨t', p, x, h1, h2⟩ := dd_rr_aux hne us vs (fun e => h (by rw [e])) hu2 hv2 e2
      refine ⟨t', u ++ p, x, h1, ?_⟩
      rw [List.flatten_cons, h2]; simp
    · rcases two_begin e with ⟨x, h1, h2⟩ | ⟨x, h1, h2⟩
      · have eg : v = glue false u x := h1
        have hb : RR ws false (glue false u x) x := .base hu1 (by rw [← eg]; exact hv1) (by rw [← eg]; exact q)
        obtain ⟨t', y, h3, h4⟩ := hang_end hne _ us vs _ x rfl hb hu2 hv2 h2
        refine ⟨t', [], y, h3, ?_⟩
        rw [List.nil_append, ← h4, List.flatten_cons, e, eg]
      · have eg : u = glue false v x := h1
        have hb : RR ws false (glue false v x) x := .base hv1 (by rw [← eg]; exact hu1) (by rw [← eg]; exact Ne.symm q)
        obtain ⟨t', y, h3, h4⟩ := hang_end hne _ vs us _ x rfl hb hv2 hu2 h2
        refine ⟨t', [], y, h3, ?_⟩
        rw [List.nil_append, ← h4, List.flatten_cons, eg]
/-- the least of the texts with two readings -/
theorem dd_rr {ws : List T} (hne : ∀ w ∈ ws, w ≠ []) {t : T} (h : DD ws t) : ∃ t', RR ws false t' [] ∧ le2 t' t := by
  obtain ⟨us, vs, h1, h2, h3, h4, h5⟩ := h
  obtain ⟨t', p, x, h6, h7⟩ := dd_rr_aux hne us vs h1 h2 h3 (h4.trans h5.symm)
  refine ⟨t', h6, ?_⟩
  rw [← h4, h7]
  exact le2_trans (le2_grow' p t') (le2_grow _ x)
/-! the same from behind -/
theorem rev_glue (b : Bool) (t m : T) : (glue b t m).reverse = glue (!b) t.reverse m.reverse := by
  cases b <;> simp [glue]
theorem rr_rev {ws : List T} {b : Bool} {t r : T} (h : RR ws b t r) : RR (ws.map List.reverse) (!b) t.reverse r.reverse := by
  induction h with
  | @base p d h1 h2 h3 =>
    rw [rev_glue]
    refine .base (List.mem_map_of_mem h1) (by rw [← rev_glue]; exact List.mem_map_of_mem h2) (fun e => h3 ?_)
    rw [← rev_glue] at e
    exact List.reverse_inj.mp e
  | @ext1 t r m _ hr hw ih =>
    rw [rev_glue]
    exact .ext1 ih (by simpa using hr) (by rw [← rev_glue]; exact List.mem_map_of_mem hw)
  | @ext2 t w r _ hr hw ih =>
    rw [rev_glue] at ih
    exact .ext2 ih (by rw [← rev_glue]; simpa using hr) (List.mem_map_of_mem hw)
theorem rev_rev (ws : List T) : (ws.map List.reverse).map List.reverse = ws := by
  rw [List.map_map]
  conv => rhs; rw [← List.map_id ws]
  exact List.map_congr_left fun x _ => by simp
theorem flat_rev (us : List T) : ((us.map List.reverse).reverse).flatten = us.flatten.reverse := by
  induction us with
  | nil => rfl
  | cons u us ih => simp [ih]
theorem dd_rev {ws : List T} {t : T} (h : DD ws t) : DD (ws.map List.reverse) t.reverse := by
  obtain ⟨us, vs, h1, h2, h3, h4, h5⟩ := h
  have inj : ∀ {a b : List T}, (a.map List.reverse).reverse = (b.map List.reverse).reverse → a = b := fun {a b} e => by
    have e := List.reverse_inj.mp e
    rw [← rev_rev a, ← rev_rev b, e]
  refine ⟨_, _, fun e => h1 (inj e), fun u hu => ?_, fun u hu => ?_, by rw [flat_rev, h4], by rw [flat_rev, h5]⟩
  · obtain ⟨x, hx, rfl⟩ := List.mem_map.mp (List.mem_reverse.mp hu)
    exact List.mem_map_of_mem (h2 x hx)
  · obtain ⟨x, hx, rfl⟩ := List.mem_map.mp (List.mem_reverse.mp hu)
    exact List.mem_map_of_mem (h3 x hx)
theorem rr_dd0' {ws : List T} {t : T} (h : RR ws true t []) : DD ws t := by
  have := dd_rev (rr_dd0 (rr_rev h))
  rwa [rev_rev, List.reverse_reverse] at this
theorem len_le2 : ∀ {x y : T}, (x.length < y.length ∨ x = y) → le2 x y := fun h => by
  rcases h with h | h
  · exact .inl h
  · rw [h]; exact le2_refl _
theorem dd_rr' {ws : List T} (hne : ∀ w ∈ ws, w ≠ []) {t : T} (h : DD ws t) : ∃ t', RR ws true t' [] ∧ le2 t' t := by
  obtain ⟨us, vs, h1, h2, h3, h4, h5⟩ := dd_rev h
  obtain ⟨t', p, x, h6, h7⟩ := dd_rr_aux (ws := ws.map List.reverse) (fun w hw => by obtain ⟨y, hy, rfl⟩ := List.mem_map.mp hw; simpa using hne y hy) us vs h1 h2 h3 (h4.trans h5.symm)
  have h8 := rr_rev h6
  rw [rev_rev] at h8
  refine ⟨t'.reverse, h8, ?_⟩
  have e : t = x.reverse ++ t'.reverse ++ p.reverse := by
    rw [← List.reverse_reverse t, ← h4, h7]; simp
  rw [e]
  exact le2_trans (le2_grow' _ _) (le2_grow _ _)
/-- what is left of nothing: the same from both sides -/
theorem least_nil {ws : List T} (hne : ∀ w ∈ ws, w ≠ []) {f g : T → Option T} (F : IsLeast (RR ws false) f) (G : IsLeast (RR ws true) g) : f [] = g [] := by
  cases e : f [] with
  | some t =>
    obtain ⟨t1, h1, hl1⟩ := dd_rr' hne (rr_dd0 (F.sound _ _ e))
    obtain ⟨t2, e2, hl2⟩ := G.least _ _ h1
    obtain ⟨t3, h3, hl3⟩ := dd_rr hne (rr_dd0' (G.sound _ _ e2))
    obtain ⟨t4, e4, hl4⟩ := F.least _ _ h3
    rw [e] at e4; cases e4
    rw [e2, le2_antisymm (le2_trans hl4 hl3) (le2_trans hl2 hl1)]
  | none =>
    cases e1 : g [] with
    | none => rfl
    | some t1 =>
      obtain ⟨t2, h2, _⟩ := dd_rr hne (rr_dd0' (G.sound _ _ e1))
      obtain ⟨t3, e3, _⟩ := F.least _ _ h2
      rw [e] at e3; cases e3
end Mine

namespace Mine

open PySem PySem.W PyProof.Rows PySem.Calls

/-! ### what law_fingersu_ computes is the least -/
noncomputable def Sf (ws : List T) (a : T) : Prop := ∃ p, p ++ a ∈ ws
theorem Sf.tail {ws : List T} {c : Nat} {a : T} (h : Sf ws (c :: a)) : Sf ws a := by
  obtain ⟨p, h⟩ := h
  exact ⟨p ++ [c], by simpa using h⟩
theorem Sf.word {ws : List T} {w : T} (h : w ∈ ws) : Sf ws w := ⟨[], h⟩
theorem Sf.sok {ws : List T} (W : WOk2 ws) {a : T} (h : Sf ws a) (hne : a ≠ []) : SOk a := by
  obtain ⟨p, h⟩ := h
  refine ⟨hne, fun q => W.free _ h (List.mem_append.mpr (.inr q)), ?_⟩
  have := (W.ok _ h).2.1
  rw [List.length_append] at this; lia
theorem not_lt_nil (a : T) : ¬ a < [] := by
  intro h; cases h
theorem nil_lt {a : T} (h : a ≠ []) : [] < a := by
  cases a with
  | nil => exact absurd rfl h
  | cons c a => exact List.nil_lt_cons c a
theorem tri {a b : T} (h : ¬ a < b) (h2 : ¬ b < a) : a = b := by
  rw [List.not_lt] at h h2
  exact List.le_antisymm h2 h
theorem asymm {a b : T} (h : a < b) : ¬ b < a := fun q => List.lt_irrefl _ (List.lt_trans h q)
theorem tm_symm (a b : T) : tmin a b = tmin b a ∧ tmax a b = tmax b a := by
  unfold tmin tmax
  by_cases h : b < a
  · have := asymm h
    simp [h, this]
  · by_cases h2 : a < b
    · simp [h, h2]
    · have := tri h2 h; subst this; simp
theorem tm_ord (a b : T) : ¬ tmax a b < tmin a b := by
  unfold tmin tmax
  by_cases h : b < a
  · have := asymm h
    simp [h, this]
  · by_cases h2 : a < b
    · simp [h, h2]
    · simp [h, h2, List.lt_irrefl]
theorem tm_of {a b : T} (h : ¬ b < a) : tmin a b = a ∧ tmax a b = b := by
  unfold tmin tmax
  by_cases h2 : a < b
  · simp [h, h2]
  · have := tri h2 h; subst this; simp
theorem tm_cons (c : Nat) (a b : T) : tmin (c :: a) (c :: b) = c :: tmin a b ∧ tmax (c :: a) (c :: b) = c :: tmax a b := by
  unfold tmin tmax
  have h1 : ∀ x y : T, c :: x < c :: y ↔ x < y := fun x y => app_lt [c] x y
  constructor
  · by_cases h : b < a
    · rw [if_pos h, if_pos ((h1 _ _).mpr h)]
    · rw [if_neg h, if_neg fun q => h ((h1 _ _).mp q)]
  · by_cases h : b > a
    · rw [if_pos h, if_pos ((h1 _ _).mpr h)]
    · rw [if_neg h, if_neg fun q => h ((h1 _ _).mp q)]
theorem tm_or (a b : T) : (tmin a b = a ∧ tmax a b = b) ∨ (tmin a b = b ∧ tmax a b = a) := by
  by_cases h : b < a
  · have := tm_of (asymm h)
    rw [(tm_symm a b).1, (tm_symm a b).2]
    exact .inr this
  · exact .inl (tm_of h)
theorem fKey_symm (a b : T) : fKey (a, b) = fKey (b, a) := by
  unfold fKey
  rw [(tm_symm a b).1, (tm_symm a b).2]
theorem fKey_tm (a b : T) : fKey (tmin a b, tmax a b) = fKey (a, b) := by
  have := tm_of (tm_ord a b)
  unfold fKey
  simp only [this.1, this.2]
theorem fKey_cons (c : Nat) (a b : T) : fKey (c :: a, c :: b) = KEY (c :: tmin a b) (c :: tmax a b) := by
  unfold fKey
  simp only [(tm_cons c a b).1, (tm_cons c a b).2]

noncomputable def CovM (m : List (T × T)) (k t : T) : Prop := ∃ t0, mget m k = some t0 ∧ le2 t0 t
/-- an entry of a level -/
noncomputable def LvOk (ws : List T) (n : Nat) (e : T × T) : Prop := ∃ a b, e.1 = KEY a b ∧ (Sf ws a ∧ a ≠ []) ∧ (Sf ws b ∧ b ≠ []) ∧ SS ws e.2 a b ∧ e.2.length = n
structure DOk (ws : List T) (n : Nat) (seen : List (T × Unit)) (d : List (T × T)) : Prop where
  ok : ∀ e ∈ d, LvOk ws n e
  fresh : ∀ e ∈ d, mget seen e.1 = none
  nodup : (d.map (·.1)).Nodup
theorem push_ok {ws : List T} {n : Nat} {seen : List (T × Unit)} {d : List (T × T)} {p : T × T} {text : T} (D : DOk ws n seen d) (h1 : Sf ws p.1 ∧ p.1 ≠ []) (h2 : Sf ws p.2 ∧ p.2 ≠ []) (hs : SS ws text p.1 p.2) (hn : text.length = n) :
    DOk ws n seen (fPush seen text d p) ∧ (∀ k t, CovM d k t → CovM (fPush seen text d p) k t) ∧ (mget seen (fKey p) = none → CovM (fPush seen text d p) (fKey p) text) := by
  have hlen : ∀ k t, mget d k = some t → t.length = n := fun k t h => by
    obtain ⟨_, _, _, _, _, _, e⟩ := D.ok _ (mget_mem h)
    exact e
  by_cases hc : mget seen (fKey p) = none ∧ (match mget d (fKey p) with | none => true | some d => decide (text < d)) = true
  · have e : fPush seen text d p = mset d (fKey p) text := by unfold fPush; exact if_pos hc
    rw [e]
    refine ⟨⟨fun e he => ?_, fun e he => ?_, mset_nodup D.nodup _ _⟩, fun k t h => ?_, fun _ => ⟨text, by rw [mget_mset, if_pos rfl], le2_refl _⟩⟩
    · rcases mset_mem he with q | q
      · exact D.ok e q
      · rw [q]
        refine ⟨tmin p.1 p.2, tmax p.1 p.2, rfl, ?_⟩
        rcases tm_or p.1 p.2 with ⟨e1, e2⟩ | ⟨e1, e2⟩ <;> rw [e1, e2]
        · exact ⟨h1, h2, hs, hn⟩
        · exact ⟨h2, h1, hs.symm, hn⟩
    · rcases mset_mem he with q | q
      · exact D.fresh e q
      · rw [q]; exact hc.1
    · obtain ⟨t0, e1, e2⟩ := h
      by_cases hk : k = fKey p
      · refine ⟨text, by rw [mget_mset, if_pos hk], ?_⟩
        have hc2 := hc.2
        rw [← hk, e1] at hc2
        exact le2_trans (.inr ⟨by rw [hlen _ _ e1, hn], asymm (of_decide_eq_true hc2)⟩) e2
      · exact ⟨t0, by rw [mget_mset, if_neg hk]; exact e1, e2⟩
  · have e : fPush seen text d p = d := by unfold fPush; exact if_neg hc
    rw [e]
    refine ⟨D, fun k t h => h, fun hn2 => ?_⟩
    cases hg : mget d (fKey p) with
    | none => exact absurd ⟨hn2, by rw [hg]⟩ hc
    | some t0 =>
      refine ⟨t0, hg, .inr ⟨by rw [hlen _ _ hg, hn], fun q => hc ⟨hn2, ?_⟩⟩⟩
      rw [hg]; exact decide_eq_true q
theorem pushes_ok {ws : List T} {n : Nat} {seen : List (T × Unit)} {text : T} (hn : text.length = n) : ∀ (l : List (T × T)) (d : List (T × T)), DOk ws n seen d → (∀ p ∈ l, (Sf ws p.1 ∧ p.1 ≠ []) ∧ (Sf ws p.2 ∧ p.2 ≠ []) ∧ SS ws text p.1 p.2) →
    DOk ws n seen (l.foldl (fPush seen text) d) ∧ (∀ k t, CovM d k t → CovM (l.foldl (fPush seen text) d) k t) ∧ (∀ p ∈ l, mget seen (fKey p) = none → CovM (l.foldl (fPush seen text) d) (fKey p) text)
  | [], d, D, _ => ⟨D, fun _ _ h => h, fun p hp => (by cases hp)⟩
  | p :: r, d, D, h => by
    obtain ⟨h1, h2, h3⟩ := h p (List.mem_cons_self ..)
    obtain ⟨D1, M1, C1⟩ := push_ok (seen := seen) D h1 h2 h3 hn
    obtain ⟨D2, M2, C2⟩ := pushes_ok hn r _ D1 fun q hq => h q (List.mem_cons_of_mem _ hq)
    rw [List.foldl_cons]
    refine ⟨D2, fun k t hc => M2 k t (M1 k t hc), fun q hq hs => ?_⟩
    rcases List.mem_cons.mp hq with e | e
    · subst e; exact M2 _ _ (C1 hs)
    · exact C2 q e hs
structure FiOk (ws : List T) (f : List (T × T)) : Prop where
  ok : ∀ r t, mget f r = some t → EE ws t r
  suf : ∀ r ∈ f.map (·.1), Sf ws r
  nodup : (f.map (·.1)).Nodup
theorem emit_ok {ws : List T} {f : List (T × T)} {text rest one other : T} (F : FiOk ws f) (h : one = [] ∨ other = [] → EE ws (text ++ rest) rest ∧ Sf ws rest) :
    FiOk ws (fEmit f text rest one other) ∧ (∀ k t, CovM f k t → CovM (fEmit f text rest one other) k t) ∧ (one = [] ∨ other = [] → CovM (fEmit f text rest one other) rest (text ++ rest)) := by
  by_cases hc : (one = [] ∨ other = []) ∧ (match mget f rest with | none => true | some f => lt2 (text ++ rest) f) = true
  · have e : fEmit f text rest one other = mset f rest (text ++ rest) := by unfold fEmit; exact if_pos hc
    obtain ⟨h1, h2⟩ := h hc.1
    rw [e]
    refine ⟨⟨fun r t hg => ?_, fun r hr => ?_, mset_nodup F.nodup _ _⟩, fun k t hk => ?_, fun _ => ⟨_, by rw [mget_mset, if_pos rfl], le2_refl _⟩⟩
    · rw [mget_mset] at hg
      split at hg
      · rename_i q; cases hg; rw [q]; exact h1
      · exact F.ok r t hg
    · rcases mset_key_mem hr with q | q
      · exact F.suf r q
      · rw [q]; exact h2
    · obtain ⟨t0, e1, e2⟩ := hk
      by_cases q : k = rest
      · refine ⟨_, by rw [mget_mset, if_pos q], ?_⟩
        have hc2 := hc.2
        rw [← q, e1] at hc2
        rw [← q] 
        exact le2_trans (lt2_le hc2) e2
      · exact ⟨t0, by rw [mget_mset, if_neg q]; exact e1, e2⟩
  · have e : fEmit f text rest one other = f := by unfold fEmit; exact if_neg hc
    rw [e]
    refine ⟨F, fun _ _ h => h, fun ho => ?_⟩
    cases hg : mget f rest with
    | none => exact absurd ⟨ho, by rw [hg]⟩ hc
    | some t0 =>
      refine ⟨t0, hg, not_lt2_le ?_⟩
      cases q : lt2 (text ++ rest) t0 with
      | false => rfl
      | true => exact absurd ⟨ho, by rw [hg]; exact q⟩ hc
theorem pairs_ok {ws : List T} (hne : ∀ w ∈ ws, w ≠ []) {t a b : T} {c : Nat} (hs : SS ws t (c :: a) (c :: b)) (ha : Sf ws a) (hb : Sf ws b) : ∀ p ∈ fPairs ws a b (a ++ b), (Sf ws p.1 ∧ p.1 ≠ []) ∧ (Sf ws p.2 ∧ p.2 ≠ []) ∧ SS ws (t ++ [c]) p.1 p.2 := by
  intro p hp
  unfold fPairs at hp
  split at hp
  · rename_i q
    rw [List.mem_singleton.mp hp]
    exact ⟨⟨ha, q.1⟩, ⟨hb, q.2⟩, .both hs q.1 q.2⟩
  · rename_i q
    split at hp
    · rename_i q2
      obtain ⟨w, hw, rfl⟩ := List.mem_map.mp hp
      refine ⟨⟨.word hw, hne w hw⟩, ?_⟩
      by_cases h1 : a = []
      · subst h1
        rw [List.nil_append] at q2 ⊢
        exact ⟨⟨hb, q2⟩, .left hs q2 hw⟩
      · have h2 : b = [] := Classical.byContradiction fun h2 => q ⟨h1, h2⟩
        subst h2
        rw [List.append_nil]
        exact ⟨⟨ha, h1⟩, .left hs.symm h1 hw⟩
    · cases hp
/-- what turns of the inner loop keep and bring -/
structure TurnP (ws : List T) (n : Nat) (seen : List (T × Unit)) (acc acc' : FS) (P : T × T → Prop) : Prop where
  F : FiOk ws acc'.1
  D : DOk ws (n + 1) seen acc'.2
  M : ∀ k t, CovM acc.1 k t → CovM acc'.1 k t
  N : ∀ k t, CovM acc.2 k t → CovM acc'.2 k t
  C : ∀ t c a b, P (KEY (c :: a) (c :: b), t) → Sf ws (c :: a) → (a = [] ∨ b = [] → CovM acc'.1 (a ++ b) (t ++ [c] ++ (a ++ b))) ∧
    ∀ p ∈ fPairs ws a b (a ++ b), mget seen (fKey p) = none → CovM acc'.2 (fKey p) (t ++ [c])
/-- one level, turn by turn -/
theorem turns_ok {ws : List T} (W : WOk2 ws) {n : Nat} {seen : List (T × Unit)} : ∀ (l : List (T × T)) (acc : FS), (∀ e ∈ l, LvOk ws n e) → FiOk ws acc.1 → DOk ws (n + 1) seen acc.2 → TurnP ws n seen acc (l.foldl (fTurn ws seen) acc) (· ∈ l)
  | [], acc, _, F, D => ⟨F, D, fun _ _ h => h, fun _ _ h => h, fun _ _ _ _ h => (by cases h)⟩
  | e :: r, acc, hl, F, D => by
    have hne : ∀ w ∈ ws, w ≠ [] := fun w hw => (W.ok w hw).1
    have step : TurnP ws n seen acc (fTurn ws seen acc e) (e = ·) := by
      obtain ⟨a0, b0, hk, ⟨ha, hane⟩, ⟨hb, hbne⟩, hs, hlen⟩ := hl e (List.mem_cons_self ..)
      obtain ⟨c, a, rfl⟩ := List.exists_cons_of_ne_nil hane
      obtain ⟨d, b, rfl⟩ := List.exists_cons_of_ne_nil hbne
      obtain ⟨k, t⟩ := e
      simp only at hk hs hlen
      have hsp : sp k = (c :: a, d :: b) := by rw [hk]; exact sp_KEY (ha.sok W hane).free
      have hft : fTurn ws seen acc (k, t) = if c = d then (fEmit acc.1 (t ++ [c]) (a ++ b) a b, (fPairs ws a b (a ++ b)).foldl (fPush seen (t ++ [c])) acc.2) else acc := by
        unfold fTurn; simp only [hsp]; rfl
      have huniq : ∀ t' c' a' b', (k, t) = (KEY (c' :: a') (c' :: b'), t') → Sf ws (c' :: a') → t' = t ∧ c' = c ∧ a' = a ∧ c' = d ∧ b' = b := by
        intro t' c' a' b' e hsf
        obtain ⟨e1, e2⟩ := Prod.mk.inj e
        have := sp_KEY (b := c' :: b') (hsf.sok W (by simp)).free
        rw [← e1, hsp] at this
        obtain ⟨q1, q2⟩ := Prod.mk.inj this
        obtain ⟨q3, q4⟩ := List.cons.inj q1
        obtain ⟨q5, q6⟩ := List.cons.inj q2
        exact ⟨e2.symm, q3.symm, q4.symm, q5.symm, q6.symm⟩
      rw [hft]
      by_cases hcd : c = d
      · subst hcd
        rw [if_pos rfl]
        obtain ⟨F1, M1, C1⟩ := emit_ok (ws := ws) (f := acc.1) (text := t ++ [c]) (rest := a ++ b) (one := a) (other := b) F (fun ho => ⟨⟨t, c, a, b, hs, ho, rfl, rfl⟩, by
          rcases ho with rfl | rfl
          · exact hb.tail
          · rw [List.append_nil]; exact ha.tail⟩)
        obtain ⟨D1, M2, C2⟩ := pushes_ok (ws := ws) (n := n + 1) (seen := seen) (text := t ++ [c]) (by simp [hlen]) (fPairs ws a b (a ++ b)) acc.2 D (pairs_ok hne hs ha.tail hb.tail)
        refine ⟨F1, D1, M1, M2, fun t' c' a' b' e hsf => ?_⟩
        obtain ⟨rfl, rfl, rfl, _, rfl⟩ := huniq t' c' a' b' e hsf
        exact ⟨C1, C2⟩
      · rw [if_neg hcd]
        refine ⟨F, D, fun _ _ h => h, fun _ _ h => h, fun t' c' a' b' e hsf => ?_⟩
        obtain ⟨_, h1, _, h2, _⟩ := huniq t' c' a' b' e hsf
        exact absurd (h1.symm.trans h2) hcd
    obtain ⟨F1, D1, M1, M2, C1⟩ := step
    obtain ⟨F2, D2, M3, M4, C2⟩ := turns_ok W r _ (fun e he => hl e (List.mem_cons_of_mem _ he)) F1 D1
    rw [List.foldl_cons]
    refine ⟨F2, D2, fun k t h => M3 k t (M1 k t h), fun k t h => M4 k t (M2 k t h), fun t c a b he hsf => ?_⟩
    rcases List.mem_cons.mp he with q | q
    · obtain ⟨g1, g2⟩ := C1 t c a b q.symm hsf
      exact ⟨fun ho => M3 _ _ (g1 ho), fun p hp hs => M4 _ _ (g2 p hp hs)⟩
    · exact C2 t c a b q hsf

/-! ### what was seen -/
theorem fSeen_cons (seen : List (T × Unit)) (e : T × T) (l : List (T × T)) : fSeen seen (e :: l) = fSeen (mset seen e.1 ()) l := rfl
theorem fSeen_get : ∀ (l : List (T × T)) (seen : List (T × Unit)) (k : T), mget (fSeen seen l) k ≠ none ↔ mget seen k ≠ none ∨ k ∈ l.map (·.1)
  | [], seen, k => by simp [fSeen]
  | e :: l, seen, k => by
    rw [fSeen_cons, fSeen_get l, mget_mset, List.map_cons, List.mem_cons]
    by_cases h : k = e.1
    · simp [h]
    · rw [if_neg h]
      constructor
      · rintro (q | q)
        · exact .inl q
        · exact .inr (.inr q)
      · rintro (q | q | q)
        · exact .inl q
        · exact absurd q h
        · exact .inr q
theorem fSeen_nodup : ∀ (l : List (T × T)) (seen : List (T × Unit)), (seen.map (·.1)).Nodup → ((fSeen seen l).map (·.1)).Nodup
  | [], _, h => h
  | e :: l, seen, h => fSeen_nodup l _ (mset_nodup h _ _)
theorem fSeen_key : ∀ (l : List (T × T)) (seen : List (T × Unit)) (k : T), k ∈ (fSeen seen l).map (·.1) → k ∈ seen.map (·.1) ∨ k ∈ l.map (·.1)
  | [], _, _, h => .inl h
  | e :: l, seen, k, h => by
    rcases fSeen_key l _ k h with q | q
    · rcases mset_key_mem q with q | q
      · exact .inl q
      · exact .inr (by rw [q]; exact List.mem_cons_self ..)
    · exact .inr (List.mem_cons_of_mem _ q)
theorem mset_grow (l : List (T × Unit)) (k : T) : l.length ≤ (mset l k ()).length := by
  unfold mset; split <;> simp
theorem mset_grow1 {l : List (T × Unit)} {k : T} (h : mget l k = none) : (mset l k ()).length = l.length + 1 := by
  unfold mset; rw [mget_none_any.mp h]; simp
theorem fSeen_grow : ∀ (l : List (T × T)) (seen : List (T × Unit)), seen.length ≤ (fSeen seen l).length
  | [], _ => Nat.le_refl _
  | e :: l, seen => Nat.le_trans (mset_grow seen e.1) (fSeen_grow l _)
theorem fSeen_grow1 {l : List (T × T)} {seen : List (T × Unit)} (h : l ≠ []) (hf : ∀ e ∈ l, mget seen e.1 = none) : seen.length + 1 ≤ (fSeen seen l).length := by
  obtain ⟨e, r, rfl⟩ := List.exists_cons_of_ne_nil h
  have h1 := mset_grow1 (hf e (List.mem_cons_self ..))
  have h2 := fSeen_grow r (mset seen e.1 ())
  rw [fSeen_cons]; lia

/-! ### the levels -/
structure XInv (ws : List T) (n : Nat) (x : FX) : Prop where
  level : DOk ws n x.seen x.level
  first : FiOk ws x.first
  seenN : (x.seen.map (·.1)).Nodup
  seen : ∀ k ∈ x.seen.map (·.1), ∃ i, i < n ∧ ∃ t, (k, t) ∈ (frun ws i).level
  many : (∀ i, i < n → (frun ws i).level ≠ []) → n ≤ x.seen.length
theorem key_get {V : Type} {l : List (T × V)} {k : T} (h : k ∈ l.map (·.1)) : mget l k ≠ none := fun q => by
  have := mget_none_any.mp q
  obtain ⟨e, he, rfl⟩ := List.mem_map.mp h
  have h2 : (l.any fun kv => decide (kv.1 = e.1)) = true := List.any_eq_true.mpr ⟨e, he, by simp⟩
  rw [this] at h2; cases h2
theorem get_key {V : Type} {l : List (T × V)} {k : T} (h : mget l k ≠ none) : k ∈ l.map (·.1) := by
  cases e : mget l k with
  | none => exact absurd e h
  | some v => exact List.mem_map_of_mem (f := (·.1)) (mget_mem e)
theorem level0_inv {ws : List T} (W : WOk2 ws) : ∀ e ∈ level0 ws, ∃ a b, e.1 = KEY a b ∧ a ∈ ws ∧ b ∈ ws ∧ a < b ∧ e.2 = [] := by
  have inner : ∀ (one : T), one ∈ ws → ∀ (l : List T) (d : List (T × T)), (∀ w ∈ l, w ∈ ws) → (∀ e ∈ d, ∃ a b, e.1 = KEY a b ∧ a ∈ ws ∧ b ∈ ws ∧ a < b ∧ e.2 = []) →
      ∀ e ∈ l.foldl (fun d other => if one < other then mset d (KEY one other) [] else d) d, ∃ a b, e.1 = KEY a b ∧ a ∈ ws ∧ b ∈ ws ∧ a < b ∧ e.2 = [] := by
    intro one ho l
    induction l with
    | nil => intro d _ h; exact h
    | cons w l ih =>
      intro d hl h
      rw [List.foldl_cons]
      refine ih _ (fun y hy => hl y (List.mem_cons_of_mem _ hy)) fun e he => ?_
      split at he
      · rename_i q
        rcases mset_mem he with g | g
        · exact h e g
        · rw [g]; exact ⟨one, w, rfl, ho, hl w (List.mem_cons_self ..), q, rfl⟩
      · exact h e he
  have outer : ∀ (l : List T) (d : List (T × T)), (∀ w ∈ l, w ∈ ws) → (∀ e ∈ d, ∃ a b, e.1 = KEY a b ∧ a ∈ ws ∧ b ∈ ws ∧ a < b ∧ e.2 = []) →
      ∀ e ∈ l.foldl (fun d one => ws.foldl (fun d other => if one < other then mset d (KEY one other) [] else d) d) d, ∃ a b, e.1 = KEY a b ∧ a ∈ ws ∧ b ∈ ws ∧ a < b ∧ e.2 = [] := by
    intro l
    induction l with
    | nil => intro d _ h; exact h
    | cons w l ih =>
      intro d hl h
      rw [List.foldl_cons]
      exact ih _ (fun y hy => hl y (List.mem_cons_of_mem _ hy)) (inner w (hl w (List.mem_cons_self ..)) ws d (fun _ h => h) h)
  exact outer ws [] (fun _ h => h) fun e he => (by cases he)
theorem level0_nodup (ws : List T) : ((level0 ws).map (·.1)).Nodup := by
  have inner : ∀ (one : T) (l : List T) (d : List (T × T)), (d.map (·.1)).Nodup → ((l.foldl (fun d other => if one < other then mset d (KEY one other) [] else d) d).map (·.1)).Nodup := by
    intro one l
    induction l with
    | nil => intro d h; exact h
    | cons w l ih =>
      intro d h
      rw [List.foldl_cons]
      refine ih _ ?_
      split
      · exact mset_nodup h _ _
      · exact h
  have outer : ∀ (l : List T) (d : List (T × T)), (d.map (·.1)).Nodup → ((l.foldl (fun d one => ws.foldl (fun d other => if one < other then mset d (KEY one other) [] else d) d) d).map (·.1)).Nodup := by
    intro l
    induction l with
    | nil => intro d h; exact h
    | cons w l ih => intro d h; rw [List.foldl_cons]; exact ih _ (inner w ws d h)
  exact outer ws [] (by simp)
theorem level0_cov {ws : List T} {a b : T} (ha : a ∈ ws) (hb : b ∈ ws) (h : a < b) : mget (level0 ws) (KEY a b) ≠ none := by
  have keepI : ∀ (one : T) (l : List T) (d : List (T × T)) (k : T), mget d k ≠ none → mget (l.foldl (fun d other => if one < other then mset d (KEY one other) [] else d) d) k ≠ none := by
    intro one l
    induction l with
    | nil => intro d k h; exact h
    | cons w l ih =>
      intro d k h
      rw [List.foldl_cons]
      refine ih _ k ?_
      split
      · rw [mget_mset]; split
        · simp
        · exact h
      · exact h
  have hitI : ∀ (l : List T) (d : List (T × T)), b ∈ l → mget (l.foldl (fun d other => if a < other then mset d (KEY a other) [] else d) d) (KEY a b) ≠ none := by
    intro l
    induction l with
    | nil => intro d h; cases h
    | cons w l ih =>
      intro d hm
      rw [List.foldl_cons]
      rcases List.mem_cons.mp hm with e | e
      · subst e
        refine keepI _ _ _ _ ?_
        rw [if_pos h, mget_mset, if_pos rfl]; simp
      · exact ih _ e
  have keepO : ∀ (l : List T) (d : List (T × T)) (k : T), mget d k ≠ none → mget (l.foldl (fun d one => ws.foldl (fun d other => if one < other then mset d (KEY one other) [] else d) d) d) k ≠ none := by
    intro l
    induction l with
    | nil => intro d k h; exact h
    | cons w l ih => intro d k h; rw [List.foldl_cons]; exact ih _ k (keepI _ _ _ _ h)
  have hitO : ∀ (l : List T) (d : List (T × T)), a ∈ l → mget (l.foldl (fun d one => ws.foldl (fun d other => if one < other then mset d (KEY one other) [] else d) d) d) (KEY a b) ≠ none := by
    intro l
    induction l with
    | nil => intro d h; cases h
    | cons w l ih =>
      intro d hm
      rw [List.foldl_cons]
      rcases List.mem_cons.mp hm with e | e
      · subst e; exact keepO _ _ _ (hitI ws d hb)
      · exact ih _ e
  exact hitO ws [] ha
theorem xinv {ws : List T} (W : WOk2 ws) : ∀ n, XInv ws n (frun ws n)
  | 0 => by
    have hne : ∀ w ∈ ws, w ≠ [] := fun w hw => (W.ok w hw).1
    refine ⟨⟨fun e he => ?_, fun e he => rfl, level0_nodup ws⟩, ⟨fun r t h => (by cases h), fun r h => (by cases h), List.nodup_nil⟩, List.nodup_nil, fun k h => (by cases h), fun _ => Nat.le_refl _⟩
    obtain ⟨a, b, h1, h2, h3, h4, h5⟩ := level0_inv W e he
    refine ⟨a, b, h1, ⟨.word h2, hne a h2⟩, ⟨.word h3, hne b h3⟩, ?_, by rw [h5]; rfl⟩
    rw [h5]
    exact .base h2 h3 fun q => by rw [q] at h4; exact List.lt_irrefl _ h4
  | n + 1 => by
    have I := xinv W n
    have T := turns_ok W (seen := fSeen (frun ws n).seen (frun ws n).level) (frun ws n).level ((frun ws n).first, []) I.level.ok I.first ⟨fun e he => (by cases he), fun e he => (by cases he), List.nodup_nil⟩
    refine ⟨T.D, T.F, fSeen_nodup _ _ I.seenN, fun k hk => ?_, fun hpos => ?_⟩
    · rcases fSeen_key _ _ _ hk with q | q
      · obtain ⟨i, hi, t, h⟩ := I.seen k q
        exact ⟨i, by lia, t, h⟩
      · obtain ⟨e, he, rfl⟩ := List.mem_map.mp q
        exact ⟨n, by lia, e.2, he⟩
    · have h1 := I.many fun i hi => hpos i (by lia)
      have h2 := fSeen_grow1 (hpos n (by lia)) I.level.fresh
      show n + 1 ≤ (fSeen (frun ws n).seen (frun ws n).level).length
      lia
theorem x_next {ws : List T} (W : WOk2 ws) {n : Nat} {t a b : T} {c : Nat} (h : (KEY (c :: a) (c :: b), t) ∈ (frun ws n).level) (hsf : Sf ws (c :: a)) :
    (a = [] ∨ b = [] → CovM (frun ws (n + 1)).first (a ++ b) (t ++ [c] ++ (a ++ b))) ∧ ∀ p ∈ fPairs ws a b (a ++ b), ∃ j t1, (fKey p, t1) ∈ (frun ws j).level ∧ le2 t1 (t ++ [c]) := by
  have I := xinv W n
  have hlen : t.length = n := by
    obtain ⟨_, _, _, _, _, _, e⟩ := I.level.ok _ h
    exact e
  obtain ⟨F, D, _, _, C⟩ := turns_ok W (seen := fSeen (frun ws n).seen (frun ws n).level) (frun ws n).level ((frun ws n).first, []) I.level.ok I.first ⟨fun e he => (by cases he), fun e he => (by cases he), List.nodup_nil⟩
  obtain ⟨C1, C2⟩ := C t c a b h hsf
  refine ⟨C1, fun p hp => ?_⟩
  cases q : mget (fSeen (frun ws n).seen (frun ws n).level) (fKey p) with
  | none =>
    obtain ⟨t1, h1, h2⟩ := C2 p hp q
    exact ⟨n + 1, t1, mget_mem h1, h2⟩
  | some u =>
    have hk : fKey p ∈ (fSeen (frun ws n).seen (frun ws n).level).map (·.1) := get_key (by rw [q]; simp)
    obtain ⟨i, hi, t1, h1⟩ := (xinv W (n + 1)).seen _ hk
    refine ⟨i, t1, h1, .inl ?_⟩
    obtain ⟨_, _, _, _, _, _, e⟩ := (xinv W i).level.ok _ h1
    rw [e]; simp; lia
theorem x_mono {ws : List T} (W : WOk2 ws) {n : Nat} {k t : T} (h : CovM (frun ws n).first k t) : ∀ m, CovM (frun ws (n + m)).first k t
  | 0 => h
  | m + 1 => by
    have I := xinv W (n + m)
    obtain ⟨_, _, M, _, _⟩ := turns_ok W (seen := fSeen (frun ws (n + m)).seen (frun ws (n + m)).level) (frun ws (n + m)).level ((frun ws (n + m)).first, []) I.level.ok I.first ⟨fun e he => (by cases he), fun e he => (by cases he), List.nodup_nil⟩
    exact M k t (x_mono W h m)
theorem x_end {ws : List T} {N : Nat} (h : (frun ws N).level = []) : ∀ m, (frun ws (N + m)).level = []
  | 0 => h
  | m + 1 => by
    have := x_end h m
    show (fStep ws (frun ws (N + m))).level = []
    unfold fStep; rw [this]; rfl
theorem ss_sf {ws : List T} (W : WOk2 ws) {t a b : T} (h : SS ws t a b) : (Sf ws a ∧ a ≠ []) ∧ (Sf ws b ∧ b ≠ []) := by
  have hne : ∀ w ∈ ws, w ≠ [] := fun w hw => (W.ok w hw).1
  induction h with
  | base h1 h2 _ => exact ⟨⟨.word h1, hne _ h1⟩, ⟨.word h2, hne _ h2⟩⟩
  | both _ h1 h2 ih => exact ⟨⟨ih.1.1.tail, h1⟩, ⟨ih.2.1.tail, h2⟩⟩
  | left _ h1 h2 ih => exact ⟨⟨.word h2, hne _ h2⟩, ⟨ih.2.1.tail, h1⟩⟩
  | symm _ ih => exact ⟨ih.2, ih.1⟩
theorem x_all {ws : List T} (W : WOk2 ws) {t a b : T} (h : SS ws t a b) : ∃ i t0, (fKey (a, b), t0) ∈ (frun ws i).level ∧ le2 t0 t := by
  have sfm : ∀ {t a b : T} {c : Nat}, SS ws t (c :: a) (c :: b) → Sf ws (c :: tmin a b) := fun {t a b c} hs => by
    obtain ⟨h1, h2⟩ := ss_sf W hs
    rcases tm_or a b with ⟨e, _⟩ | ⟨e, _⟩ <;> rw [e]
    · exact h1.1
    · exact h2.1
  induction h with
  | @base a b h1 h2 h3 =>
    refine ⟨0, [], ?_, le2_refl _⟩
    have cov : ∀ {a b : T}, a ∈ ws → b ∈ ws → a < b → (fKey (a, b), []) ∈ level0 ws := fun {a b} h1 h2 h => by
      have hk := get_key (level0_cov h1 h2 h)
      obtain ⟨e, he, hek⟩ := List.mem_map.mp hk
      obtain ⟨_, _, _, _, _, _, h5⟩ := level0_inv W e he
      have : fKey (a, b) = KEY a b := by unfold fKey; simp only [(tm_of (asymm h)).1, (tm_of (asymm h)).2]
      rw [this, ← hek, ← h5]; exact he
    by_cases q : a < b
    · exact cov h1 h2 q
    · by_cases q2 : b < a
      · rw [fKey_symm]; exact cov h2 h1 q2
      · exact absurd (tri q q2) h3
  | @both t a b c hs ha hb ih =>
    obtain ⟨i, t0, h0, hle⟩ := ih
    rw [fKey_cons] at h0
    have hmem : (tmin a b, tmax a b) ∈ fPairs ws (tmin a b) (tmax a b) (tmin a b ++ tmax a b) := by
      unfold fPairs
      rw [if_pos]
      · exact List.mem_singleton.mpr rfl
      · rcases tm_or a b with ⟨e1, e2⟩ | ⟨e1, e2⟩ <;> rw [e1, e2]
        · exact ⟨ha, hb⟩
        · exact ⟨hb, ha⟩
    obtain ⟨j, t1, h1, h2⟩ := (x_next W h0 (sfm hs)).2 _ hmem
    rw [fKey_tm] at h1
    exact ⟨j, t1, h1, le2_trans h2 (le2_right hle _)⟩
  | @left t b w c hs hb hw ih =>
    obtain ⟨i, t0, h0, hle⟩ := ih
    rw [fKey_cons] at h0
    have hsf := sfm hs
    obtain ⟨e1, e2⟩ := tm_of (not_lt_nil b)
    rw [e1, e2] at h0
    rw [e1] at hsf
    have hmem : (w, b) ∈ fPairs ws [] b ([] ++ b) := by
      unfold fPairs
      rw [if_neg (by simp), List.nil_append, if_pos hb]
      exact List.mem_map_of_mem hw
    obtain ⟨j, t1, h1, h2⟩ := (x_next W h0 hsf).2 _ hmem
    exact ⟨j, t1, h1, le2_trans h2 (le2_right hle _)⟩
  | symm _ ih =>
    obtain ⟨i, t0, h0, hle⟩ := ih
    exact ⟨i, t0, by rw [fKey_symm]; exact h0, hle⟩
theorem fingers_least {ws : List T} (W : WOk2 ws) {N : Nat} (hend : (frun ws N).level = []) : IsLeast (RR ws false) (mget (frun ws N).first) := by
  have hne : ∀ w ∈ ws, w ≠ [] := fun w hw => (W.ok w hw).1
  refine ⟨fun r t h => ee_rr ((xinv W N).first.ok r t h), fun t r h => ?_⟩
  obtain ⟨u, c, a, b, hs, hab, rfl, rfl⟩ := rr_ee hne h
  obtain ⟨i, t0, h0, hle⟩ := x_all W hs
  rw [fKey_cons] at h0
  have hsf : Sf ws (c :: tmin a b) := by
    obtain ⟨h1, h2⟩ := ss_sf W hs
    rcases tm_or a b with ⟨e, _⟩ | ⟨e, _⟩ <;> rw [e]
    · exact h1.1
    · exact h2.1
  have hor : tmin a b = [] ∨ tmax a b = [] := by
    rcases tm_or a b with ⟨e1, e2⟩ | ⟨e1, e2⟩ <;> rw [e1, e2]
    · exact hab
    · exact hab.symm
  have hcat : tmin a b ++ tmax a b = a ++ b := by
    rcases tm_or a b with ⟨e1, e2⟩ | ⟨e1, e2⟩ <;> rw [e1, e2]
    rcases hab with rfl | rfl <;> simp
  have hC := (x_next W h0 hsf).1 hor
  rw [hcat] at hC
  have hi : i < N := by
    rcases Nat.lt_or_ge i N with q | q
    · exact q
    · have := x_end hend (i - N)
      rw [show N + (i - N) = i by lia] at this
      rw [this] at h0; cases h0
  have := x_mono W hC (N - (i + 1))
  rw [show i + 1 + (N - (i + 1)) = N by lia] at this
  obtain ⟨t1, h1, h2⟩ := this
  exact ⟨t1, h1, le2_trans h2 (le2_right (le2_right hle _) _)⟩
end Mine

namespace Mine

open PySem PySem.W PyProof.Rows PySem.Calls

/-! ### both ways end -/
theorem first_end {P : Nat → Prop} : ∀ (B : Nat), (¬ ∀ i, i < B → ¬ P i) → ∃ N, N < B ∧ P N ∧ ∀ i, i < N → ¬ P i
  | 0, h => absurd (fun i hi => absurd hi (Nat.not_lt_zero i)) h
  | B + 1, h => by
    by_cases q : ∀ i, i < B → ¬ P i
    · refine ⟨B, Nat.lt_succ_self _, Classical.byContradiction fun hp => h fun i hi => ?_, q⟩
      rcases Nat.lt_or_ge i B with e | e
      · exact q i e
      · rw [show i = B by lia]; exact hp
    · obtain ⟨N, h1, h2, h3⟩ := first_end B q
      exact ⟨N, by lia, h2, h3⟩
noncomputable def parts (w : T) : List T := (List.range (w.length + 1)).flatMap fun i => [w.take i, w.drop i]
theorem take_parts (w : T) {i : Nat} (h : i ≤ w.length) : w.take i ∈ parts w := List.mem_flatMap.mpr ⟨i, List.mem_range.mpr (by lia), by simp⟩
theorem drop_parts (w : T) {i : Nat} (h : i ≤ w.length) : w.drop i ∈ parts w := List.mem_flatMap.mpr ⟨i, List.mem_range.mpr (by lia), by simp⟩
theorem parts_len (w : T) (h : w.length ≤ 100) : (parts w).length ≤ 202 := by
  have := flat_le (fun i => [w.take i, w.drop i]) 2 (fun _ => by simp) (List.range (w.length + 1))
  rw [List.length_range] at this
  show (List.flatMap _ _).length ≤ _
  lia
theorem flat_le' {α β : Type} (f : α → List β) (k : Nat) : ∀ l : List α, (∀ x ∈ l, (f x).length ≤ k) → (l.flatMap f).length ≤ k * l.length
  | [], _ => by simp
  | x :: r, h => by
    have h1 := flat_le' f k r fun y hy => h y (List.mem_cons_of_mem _ hy)
    have h2 := h x (List.mem_cons_self ..)
    rw [List.flatMap_cons, List.length_append, List.length_cons, Nat.mul_succ]; lia
theorem allParts_len {ws : List T} (W : WOk ws) : (ws.flatMap parts).length ≤ 808 := by
  have h := flat_le' parts 202 ws fun w hw => parts_len w (W.ok w hw).2.1
  have := W.len
  lia
theorem glue_assoc (b : Bool) (q w r : T) : glue b q (glue b w r) = glue b (glue b q w) r := by
  cases b <;> simp [glue]
theorem glue_part {b : Bool} {q r : T} : r ∈ parts (glue b q r) := by
  cases b with
  | true =>
    have h := take_parts (glue true q r) (i := r.length) (by rw [glue_len]; lia)
    have e : (glue true q r).take r.length = r := by simp [glue]
    rwa [e] at h
  | false =>
    have h := drop_parts (glue false q r) (i := q.length) (by rw [glue_len]; lia)
    have e : (glue false q r).drop q.length = r := by simp [glue]
    rwa [e] at h
theorem rr_part {ws : List T} {b : Bool} {t r : T} (h : RR ws b t r) : ∃ q, glue b q r ∈ ws := by
  induction h with
  | base _ h2 _ => exact ⟨_, h2⟩
  | ext1 _ _ h _ => exact ⟨_, h⟩
  | @ext2 t w r _ _ _ ih =>
    obtain ⟨q, h⟩ := ih
    exact ⟨glue b q w, by rw [← glue_assoc]; exact h⟩
theorem hrun_many {ws : List T} (b : Bool) : ∀ n, (∀ i, i < n → (hrun ws b i).1 ≠ []) → ((hrun ws b n).2.map (·.1)).Nodup ∧ (hrun ws b n).2.length = n
  | 0, _ => ⟨List.nodup_nil, rfl⟩
  | n + 1, h => by
    have h' : ∀ i, i < n → (hrun ws b i).1 ≠ [] := fun i hi => h i (by lia)
    have I := hinv ws b n h'
    obtain ⟨h1, h2⟩ := hrun_many b n h'
    have hf := I.fresh _ (minRow_mem (h n (by lia)))
    refine ⟨mset_nodup h1 _ _, ?_⟩
    show (mset (hrun ws b n).2 _ _).length = n + 1
    unfold mset
    rw [mget_none_any.mp hf]
    simp [h2]
theorem hrun_ends {ws : List T} (W : WOk ws) (b : Bool) : ∃ N, N ≤ 1000 ∧ (hrun ws b N).1 = [] ∧ ∀ i, i < N → (hrun ws b i).1 ≠ [] := by
  obtain ⟨N, h1, h2, h3⟩ := first_end (P := fun n => (hrun ws b n).1 = []) 1000 (fun h => by
    have I := hinv ws b 1000 h
    obtain ⟨g1, g2⟩ := hrun_many b 1000 h
    have := nodup_le (m := ws.flatMap parts) g1 fun r hr => by
      cases e : mget (hrun ws b 1000).2 r with
      | none => exact absurd e (key_get hr)
      | some t =>
        obtain ⟨q, hq⟩ := rr_part (I.soundL r t e)
        exact List.mem_flatMap.mpr ⟨_, hq, glue_part⟩
    have h2 := allParts_len W
    rw [List.length_map] at this
    lia)
  exact ⟨N, by lia, h2, h3⟩
theorem hrun_nodup {ws : List T} {b : Bool} {N : Nat} (h : ∀ i, i < N → (hrun ws b i).1 ≠ []) : ((hrun ws b N).2.map (·.1)).Nodup := (hrun_many b N h).1

/-! the fingers -/
noncomputable def tails (w : T) : List T := (List.range (w.length + 1)).map fun i => w.drop i
theorem sf_tails {ws : List T} {a : T} (h : Sf ws a) : a ∈ ws.flatMap tails := by
  obtain ⟨p, h⟩ := h
  refine List.mem_flatMap.mpr ⟨_, h, List.mem_map.mpr ⟨p.length, List.mem_range.mpr (by simp; lia), by simp⟩⟩
theorem tails_len {ws : List T} (W : WOk ws) : (ws.flatMap tails).length ≤ 404 := by
  have h := flat_le' tails 101 ws fun w hw => by have := (W.ok w hw).2.1; simp [tails]; lia
  have := W.len
  lia
noncomputable def allKeys (ws : List T) : List T := (ws.flatMap tails).flatMap fun a => (ws.flatMap tails).map fun b => KEY a b
theorem allKeys_len {ws : List T} (W : WOk ws) : (allKeys ws).length ≤ 163216 := by
  have h1 := tails_len W
  have h := flat_le' (fun a => (ws.flatMap tails).map fun b => KEY a b) 404 (ws.flatMap tails) fun a _ => by rw [List.length_map]; exact h1
  show (List.flatMap _ _).length ≤ _
  lia
theorem lvOk_key {ws : List T} {n : Nat} {e : T × T} (h : LvOk ws n e) : e.1 ∈ allKeys ws := by
  obtain ⟨a, b, h1, h2, h3, _⟩ := h
  rw [h1]
  exact List.mem_flatMap.mpr ⟨a, sf_tails h2.1, List.mem_map_of_mem (sf_tails h3.1)⟩
theorem x_seenN {ws : List T} (W : WOk2 ws) (n : Nat) : (frun ws n).seen.length ≤ 163216 := by
  have I := xinv W n
  have h := nodup_le (m := allKeys ws) I.seenN fun k hk => by
    obtain ⟨i, _, t, h⟩ := I.seen k hk
    exact lvOk_key ((xinv W i).level.ok _ h)
  rw [List.length_map] at h
  exact Nat.le_trans h (allKeys_len W.toWOk)
theorem x_levelN {ws : List T} (W : WOk2 ws) (n : Nat) : (frun ws n).level.length ≤ 163216 := by
  have I := xinv W n
  have h := nodup_le (m := allKeys ws) I.level.nodup fun k hk => by
    obtain ⟨e, he, rfl⟩ := List.mem_map.mp hk
    exact lvOk_key (I.level.ok _ he)
  rw [List.length_map] at h
  exact Nat.le_trans h (allKeys_len W.toWOk)
theorem x_firstN {ws : List T} (W : WOk2 ws) (n : Nat) : (frun ws n).first.length ≤ 404 := by
  have I := xinv W n
  have h := nodup_le (m := ws.flatMap tails) I.first.nodup fun k hk => sf_tails (I.first.suf k hk)
  rw [List.length_map] at h
  exact Nat.le_trans h (tails_len W.toWOk)
theorem x_fok {ws : List T} (W : WOk2 ws) : ∀ n, FOk n (frun ws n) := by
  have core : ∀ n, (∀ e ∈ (frun ws n).first, e.2.length ≤ n + 200) → FOk n (frun ws n) := fun n hT => by
    have I := xinv W n
    refine ⟨fun e he => ?_, ?_, ?_, ?_, hT, I.level.nodup⟩
    · obtain ⟨a, b, h1, h2, h3, _, h4⟩ := I.level.ok e he
      exact ⟨⟨a, b, h1, h2.1.sok W h2.2, h3.1.sok W h3.2⟩, by lia⟩
    · have := x_levelN W n; lia
    · have := x_seenN W n; lia
    · have := x_firstN W n; lia
  intro n
  induction n with
  | zero => exact core 0 fun e he => (by cases he)
  | succ n ih =>
    refine core (n + 1) fun e he => ?_
    have := (acc_bounds W.len ih (fSeen (frun ws n).seen (frun ws n).level) (frun ws n).level ((frun ws n).first, []) (fun _ h => h) (fun f hf => by have := ih.firstT f hf; lia)).2.2 e he
    lia
theorem frun_ends {ws : List T} (W : WOk2 ws) : ∃ N, N ≤ 200000 ∧ (frun ws N).level = [] ∧ ∀ i, i < N → (frun ws i).level ≠ [] := by
  obtain ⟨N, h1, h2, h3⟩ := first_end (P := fun n => (frun ws n).level = []) 200000 (fun h => by
    have h1 := (xinv W 200000).many h
    have h2 := x_seenN W 200000
    lia)
  exact ⟨N, by lia, h2, h3⟩

/-! ### the law's two equations -/
theorem law_ahead {ws : List T} (W : WOk2 ws) {M N : Nat} (h1 : ∀ i, i < M → (hrun ws false i).1 ≠ []) (h2 : (hrun ws false M).1 = []) (h3 : (frun ws N).level = []) (r : T) : mget (hrun ws false M).2 r = mget (frun ws N).first r :=
  (hang_least h1 h2).eq (fingers_least W h3) r
theorem law_back {ws : List T} (W : WOk2 ws) {M N : Nat} (h1 : ∀ i, i < M → (hrun ws true i).1 ≠ []) (h2 : (hrun ws true M).1 = []) (h3 : (frun ws N).level = []) : mget (hrun ws true M).2 [] = mget (frun ws N).first [] :=
  (least_nil (fun w hw => (W.ok w hw).1) (fingers_least W h3) (hang_least h1 h2)).symm
end Mine

namespace Mine

open PySem PySem.W PyProof.Rows PySem.Calls

/-! ### zip of a range and two lists -/
theorem typeCall_zip_3 (a b c : Value) : checkTypeCall "zip" ⟨[a, b, c], []⟩ = pure () := by kernel_rfl
theorem newCall_zip_3 (a b c : Value) : checkBuiltinCall "zip.__new__" ⟨[.type "zip", a, b, c], []⟩ = pure () := by kernel_rfl
theorem args_object_init_4 (a b c d : Value) : argsOk "object.__init__" ⟨[a, b, c, d], []⟩ := by unfold argsOk; kernel_rfl
noncomputable abbrev IsTrip (h : Heap) (T : Addr) (a b c : Value) : Prop := h.get? T = some { cls := .type "tuple", data := .seq #[a, b, c] }

section
variable {prog : Program} {w : World} {A : Around} {E : Value → Shared → Prop} {s : Shared}

theorem nextOf_range_item {it : Addr} {x left step : Int} {Q : Value → Shared → Prop} (hit : IsRangeIter s.heap it x left step) (hleft : 0 < left)
    (hQ : ∀ h', IsRangeIter h' it (x + step) (left - 1) step → Heap.SameBut it s.heap h' → Q (.int x s.toks) { s with heap := h', toks := s.toks + 1 }) :
    wpAny (model prog w) A (Builtin.SmallTypes.nextOf (.ref it)) Q E s := by
  have hT : s.TypeIs (.ref it) "range_iterator" := ⟨_, hit, rfl⟩
  unfold Builtin.SmallTypes.nextOf
  refine wpAny_bind (wpAny_callSpecial?_slot (name := Str.ofString "__next__") hT F.slot_range_iterator_next
    (call_meets F.slot_range_iterator_next hT F.entry_range_iterator_next (F.args_range_iterator_next_1 _) (AutoRange.range_iterator___next___range_iterator_1 it x left step (by lia)) ⟨hit, ?_⟩))
  exact wpAny_pure (hQ _ (Heap.get?_update_self _ (Heap.get?_update_self _ hit rfl) rfl) ((Heap.SameBut.update ..).trans (Heap.SameBut.update ..)))

theorem upd_trip {T : Addr} {a b c x : Value} {k : Nat} {Q : Unit → Shared → Prop} (hT : IsTrip s.heap T a b c)
    (h : ∀ h', h'.get? T = some { cls := .type "tuple", data := .seq ((#[a, b, c] : Array Value).setIfInBounds k x) } → Heap.SameBut T s.heap h' → Q () { s with heap := h' }) :
    wpAny (model prog w) A (updateSeq T (·.setIfInBounds k x)) Q E s := by
  refine wpAny_updateSeq hT rfl (h _ ?_ (Heap.SameBut.update ..))
  rw [Heap.get?_update_self _ hT rfl]
  simp [Obj.mapSeq]

/-- the addresses: the three iterators, their tuple, the owned tuple, the zip -/
structure Zip3 (h : Heap) (n l2 l3 : Nat) (x left : Int) (k : Nat) (xs ys : Array Value) (f0 a b c : Value) : Prop where
  z : IsZip h (n + 5) (n + 3) (n + 4) f0
  ti : IsTrip h (n + 3) (.ref n) (.ref (n + 1)) (.ref (n + 2))
  to : IsTrip h (n + 4) a b c
  i1 : IsRangeIter h n x left 1
  i2 : h.IsListIter (n + 1) l2 k
  i3 : h.IsListIter (n + 2) l3 k
  al2 : h.IsList l2 xs
  al3 : h.IsList l3 ys
  lt2 : l2 < n
  lt3 : l3 < n

noncomputable abbrev zwr (n : Nat) : List Nat := [n, n + 1, n + 2, n + 4, n + 5]

theorem zip3_item {n l2 l3 : Nat} {x left : Int} {k : Nat} {xs ys : Array Value} {a b c y z : Value} {Q : Option Value → Shared → Prop} (Z : Zip3 s.heap n l2 l3 x left k xs ys .none a b c) (hleft : 0 < left) (hy : xs[k]? = some y) (hz : ys[k]? = some z)
    (hQ : ∀ h', Zip3 h' n l2 l3 (x + 1) (left - 1) (k + 1) xs ys (rawInt s.heap.objs.size) (.int x s.toks) y z → IsTrip h' s.heap.objs.size (.int x s.toks) y z →
      (∀ c o, c ∉ zwr n → s.heap.get? c = some o → h'.get? c = some o) → Q (some (.ref s.heap.objs.size)) { s with heap := h', toks := s.toks + 1 }) :
    wpAny (model prog w) A (pyNext (.ref (n + 5))) Q E s := by
  have hzz := Z.z
  have hT : s.TypeIs (.ref (n + 5)) "zip" := ⟨_, hzz, rfl⟩
  unfold pyNext
  refine wpAny_bind (wpAny_attempt (wpAny_callSpecial?_slot (name := Str.ofString "__next__") hT F.slot_zip_next (wpAny_call_entry F.slot_zip_next hT F.entry_zip_next ?_ (F.args_zip_next_1 _))))
  show wpAny _ _ (field (.ref (n + 5)) 2 >>= _) _ _ _
  refine wpAny_bind (wpAny_field hzz rfl (x := .bool false) rfl ?_)
  show wpAny _ _ (field (.ref (n + 5)) 3 >>= _) _ _ _
  refine wpAny_bind (wpAny_field hzz rfl (x := .ref (n + 3)) rfl ?_)
  refine wpAny_bind (wpAny_seqItems Z.ti rfl ?_)
  show wpAny _ _ (Builtin.SmallTypes.ownedTupleIsFree (.ref (n + 5)) >>= _) _ _ _
  refine wpAny_bind ?_
  unfold Builtin.SmallTypes.ownedTupleIsFree
  refine wpAny_bind (wpAny_field hzz rfl (x := .none) rfl (wpAny_pure ?_))
  simp only [if_true]
  refine wpAny_bind (wpAny_rule ?_)
  refine wpAny_bind (wpAny_field hzz rfl (x := .ref (n + 4)) rfl ?_)
  refine wpAny_bind (wpAny_setField_rec hzz (by simp) fun h₁ hz₁ hs₁ => ?_)
  replace hz₁ : IsZip h₁ (n + 5) (n + 3) (n + 4) .ellipsis := hz₁
  refine wpAny_bind ?_
  simp only [List.zipIdx_cons, List.zipIdx_nil, List.forIn_cons, List.forIn_nil]
  have d2 := Z.lt2
  have d3 := Z.lt3
  have ne : ∀ (p q : Nat), p < q ∨ q < p → p ≠ q := fun p q h => by rcases h with h | h; exact Nat.ne_of_lt h; exact Nat.ne_of_gt h
  -- the range
  refine wpAny_bind (wpAny_bind (wpAny_onRaise ?_))
  show wpAny _ _ (Builtin.SmallTypes.nextOf (.ref n) >>= _) _ _ _
  refine wpAny_bind (nextOf_range_item (hs₁.extBut _ _ (ne n (n + 5) (by lia)) Z.i1) hleft fun h₂ h1₂ hs₂ => wpAny_pure ?_)
  have hTO₂ : IsTrip h₂ (n + 4) a b c := hs₂.extBut _ _ (ne _ _ (by lia)) (hs₁.extBut _ _ (ne _ _ (by lia)) Z.to)
  refine wpAny_bind (wpAny_seqItems hTO₂ rfl ?_)
  refine wpAny_bind (upd_trip hTO₂ fun h₃ hTO₃ hs₃ => ?_)
  replace hTO₃ : IsTrip h₃ (n + 4) (.int x s.toks) b c := hTO₃
  refine wpAny_bind (wpAny_letGo (wpAny_pure ?_))
  -- the first list
  refine wpAny_bind (wpAny_bind (wpAny_onRaise ?_))
  show wpAny _ _ (Builtin.SmallTypes.nextOf (.ref (n + 1)) >>= _) _ _ _
  refine wpAny_bind (wpAny_nextOf_list_item (((Z.i2.extBut hs₁.extBut (ne _ _ (by lia))).extBut hs₂.extBut (ne _ _ (by lia))).extBut hs₃.extBut (ne _ _ (by lia)))
    (((Z.al2.extBut hs₁.extBut (ne _ _ (by lia))).extBut hs₂.extBut (ne _ _ (by lia))).extBut hs₃.extBut (ne _ _ (by lia))) hy fun h₄ h2₄ hs₄ => wpAny_pure ?_)
  have hTO₄ : IsTrip h₄ (n + 4) (.int x s.toks) b c := hs₄.extBut _ _ (ne _ _ (by lia)) hTO₃
  refine wpAny_bind (wpAny_seqItems hTO₄ rfl ?_)
  refine wpAny_bind (upd_trip hTO₄ fun h₅ hTO₅ hs₅ => ?_)
  replace hTO₅ : IsTrip h₅ (n + 4) (.int x s.toks) y c := hTO₅
  refine wpAny_bind (wpAny_letGo (wpAny_pure ?_))
  -- the second list
  refine wpAny_bind (wpAny_bind (wpAny_onRaise ?_))
  show wpAny _ _ (Builtin.SmallTypes.nextOf (.ref (n + 2)) >>= _) _ _ _
  refine wpAny_bind (wpAny_nextOf_list_item (((((Z.i3.extBut hs₁.extBut (ne _ _ (by lia))).extBut hs₂.extBut (ne _ _ (by lia))).extBut hs₃.extBut (ne _ _ (by lia))).extBut hs₄.extBut (ne _ _ (by lia))).extBut hs₅.extBut (ne _ _ (by lia)))
    (((((Z.al3.extBut hs₁.extBut (ne _ _ (by lia))).extBut hs₂.extBut (ne _ _ (by lia))).extBut hs₃.extBut (ne _ _ (by lia))).extBut hs₄.extBut (ne _ _ (by lia))).extBut hs₅.extBut (ne _ _ (by lia))) hz fun h₆ h3₆ hs₆ => wpAny_pure ?_)
  have hTO₆ : IsTrip h₆ (n + 4) (.int x s.toks) y c := hs₆.extBut _ _ (ne _ _ (by lia)) hTO₅
  refine wpAny_bind (wpAny_seqItems hTO₆ rfl ?_)
  refine wpAny_bind (upd_trip hTO₆ fun h₇ hTO₇ hs₇ => ?_)
  replace hTO₇ : IsTrip h₇ (n + 4) (.int x s.toks) y z := hTO₇
  refine wpAny_bind (wpAny_letGo (wpAny_pure (wpAny_pure ?_)))
  refine wpAny_bind (wpAny_seqItems hTO₇ rfl ?_)
  refine wpAny_bind (wpAny_newTuple ?_)
  have hsz : h₇.objs.size = s.heap.objs.size := by rw [hs₇.1, hs₆.1, hs₅.1, hs₄.1, hs₃.1, hs₂.1, hs₁.1]
  have hk₇ : ∀ c o, c ≠ n → c ≠ n + 1 → c ≠ n + 2 → c ≠ n + 4 → c ≠ n + 5 → s.heap.get? c = some o → h₇.get? c = some o := fun c o c1 c2 c3 c4 c5 e =>
    hs₇.extBut _ _ c4 (hs₆.extBut _ _ c3 (hs₅.extBut _ _ c4 (hs₄.extBut _ _ c2 (hs₃.extBut _ _ c4 (hs₂.extBut _ _ c1 (hs₁.extBut _ _ c5 e))))))
  have hz₇ : IsZip h₇ (n + 5) (n + 3) (n + 4) .ellipsis := hs₇.extBut _ _ (ne _ _ (by lia)) (hs₆.extBut _ _ (ne _ _ (by lia)) (hs₅.extBut _ _ (ne _ _ (by lia)) (hs₄.extBut _ _ (ne _ _ (by lia)) (hs₃.extBut _ _ (ne _ _ (by lia)) (hs₂.extBut _ _ (ne _ _ (by lia)) hz₁)))))
  have h1₇ : IsRangeIter h₇ n (x + 1) (left - 1) 1 := hs₇.extBut _ _ (ne _ _ (by lia)) (hs₆.extBut _ _ (ne _ _ (by lia)) (hs₅.extBut _ _ (ne _ _ (by lia)) (hs₄.extBut _ _ (ne _ _ (by lia)) (hs₃.extBut _ _ (ne _ _ (by lia)) h1₂))))
  have h2₇ : h₇.IsListIter (n + 1) l2 (k + 1) := ((h2₄.extBut hs₅.extBut (ne _ _ (by lia))).extBut hs₆.extBut (ne _ _ (by lia))).extBut hs₇.extBut (ne _ _ (by lia))
  have h3₇ : h₇.IsListIter (n + 2) l3 (k + 1) := h3₆.extBut hs₇.extBut (ne _ _ (by lia))
  have hzlt : n + 5 < h₇.objs.size := Heap.lt_size hz₇
  show wpAny _ _ (Builtin.SmallTypes.ownedTupleHandOut (.ref (n + 5)) (.ref h₇.objs.size) >>= _) _ _ _
  refine wpAny_bind ?_
  unfold Builtin.SmallTypes.ownedTupleHandOut
  have hz₈ : IsZip (h₇.push { cls := .type "tuple", data := .seq #[.int x s.toks, y, z] }) (n + 5) (n + 3) (n + 4) .ellipsis := Heap.get?_push_of_some _ hz₇
  refine wpAny_bind (wpAny_setField_rec hz₈ (by simp) fun h₉ hz₉ hs₉ => ?_)
  replace hz₉ : IsZip h₉ (n + 5) (n + 3) (n + 4) (rawInt h₇.objs.size) := hz₉
  refine wpAny_setField_rec hz₉ (by simp) fun h₁₀ hz₁₀ hs₁₀ => ?_
  replace hz₁₀ : IsZip h₁₀ (n + 5) (n + 3) (n + 4) (rawInt h₇.objs.size) := hz₁₀
  have up : ∀ c o, c ≠ n + 5 → h₇.get? c = some o → h₁₀.get? c = some o := fun c o c1 e => hs₁₀.extBut _ _ c1 (hs₉.extBut _ _ c1 (Heap.get?_push_of_some _ e))
  have hT₁₀ : IsTrip h₁₀ h₇.objs.size (.int x s.toks) y z := hs₁₀.extBut _ _ (Nat.ne_of_gt hzlt) (hs₉.extBut _ _ (Nat.ne_of_gt hzlt) (Heap.get?_push_size _ rfl))
  rw [hsz] at hz₁₀ hT₁₀
  refine wpAny_pure ⟨_, rfl, wpAny_pure ?_⟩
  show Q (some (.ref h₇.objs.size)) _
  rw [hsz]
  refine hQ h₁₀ ⟨hz₁₀, up _ _ (ne _ _ (by lia)) (hk₇ _ _ (ne _ _ (by lia)) (ne _ _ (by lia)) (ne _ _ (by lia)) (ne _ _ (by lia)) (ne _ _ (by lia)) Z.ti), up _ _ (ne _ _ (by lia)) hTO₇, up _ _ (ne _ _ (by lia)) h1₇,
    h2₇.at fun o e => up _ o (ne _ _ (by lia)) e, h3₇.at fun o e => up _ o (ne _ _ (by lia)) e,
    Z.al2.at fun o e => up _ o (ne _ _ (by lia)) (hk₇ _ _ (ne _ _ (by lia)) (ne _ _ (by lia)) (ne _ _ (by lia)) (ne _ _ (by lia)) (ne _ _ (by lia)) e),
    Z.al3.at fun o e => up _ o (ne _ _ (by lia)) (hk₇ _ _ (ne _ _ (by lia)) (ne _ _ (by lia)) (ne _ _ (by lia)) (ne _ _ (by lia)) (ne _ _ (by lia)) e), d2, d3⟩ hT₁₀ fun c o hc e => ?_
  simp only [List.mem_cons, List.not_mem_nil, or_false, not_or] at hc
  exact up c o hc.2.2.2.2 (hk₇ c o hc.1 hc.2.1 hc.2.2.1 hc.2.2.2.1 hc.2.2.2.2 e)

theorem nextOf_range_end {it : Addr} {x left step : Int} {Q : Value → Shared → Prop} (hh : A.handled = none) (hit : IsRangeIter s.heap it x left step) (hleft : left ≤ 0)
    (hE : ∀ h' e, Heap.ExtBut it s.heap h' → (∃ o, h'.get? e = some o ∧ o.cls = .type "StopIteration") → E (.ref e) { s with heap := h' }) :
    wpAny (model prog w) A (Builtin.SmallTypes.nextOf (.ref it)) Q E s := by
  have hT : s.TypeIs (.ref it) "range_iterator" := ⟨_, hit, rfl⟩
  unfold Builtin.SmallTypes.nextOf
  refine wpAny_bind (wpAny_callSpecial?_slot (name := Str.ofString "__next__") hT F.slot_range_iterator_next
    (wpAny_call_entry F.slot_range_iterator_next hT F.entry_range_iterator_next ?_ (F.args_range_iterator_next_1 _)))
  show wpAny _ _ (field (.ref it) 0 >>= _) _ _ s
  refine wpAny_bind (wpAny_field hit rfl (x := rawInt x) rfl ?_)
  show wpAny _ _ (field (.ref it) 1 >>= _) _ _ s
  refine wpAny_bind (wpAny_field hit rfl (x := rawInt left) rfl ?_)
  show wpAny _ _ (field (.ref it) 2 >>= _) _ _ s
  refine wpAny_bind (wpAny_field hit rfl (x := rawInt step) rfl ?_)
  show wpAny _ _ (if left ≤ 0 then _ else _) _ _ s
  rw [if_pos hleft]
  refine wpAny_bind (wpAny_rule ?_)
  refine wpAny_bind ?_
  show wpAny _ _ (newExc (.type "StopIteration") [] >>= _) _ _ _
  refine wpAny_bind ?_
  simp only [newExc, newTuple]
  refine wpAny_bind (wpAny_newObj_type ?_ (by size_fits))
  refine wpAny_bind (m := firstArgMember _ _) (wpAny_of_eq (a := Value.none) (by first | rfl | (simp only [firstArgMember]; rfl)) ?_)
  refine wpAny_newObj_type ?_ (by size_fits)
  simp only [raiseNew]
  refine wpAny_bind (wpAny_handled ?_)
  first | rw [show A.in1.handled = none from hh] | rw [hh]
  refine wpAny_bind (wpAny_pure (wpAny_throw ?_))
  exact hE _ _ (((Heap.ExtBut.refl it s.heap).push _).push _) ⟨_, Heap.get?_push_size _ rfl, rfl⟩

theorem zip3_end {n l2 l3 : Nat} {x left : Int} {k : Nat} {xs ys : Array Value} {a b c : Value} {Q : Option Value → Shared → Prop} (hh : A.handled = none) (Z : Zip3 s.heap n l2 l3 x left k xs ys .none a b c) (hleft : left ≤ 0)
    (hQ : ∀ h', (∀ c o, c ∉ zwr n → s.heap.get? c = some o → h'.get? c = some o) → Q none { s with heap := h' }) :
    wpAny (model prog w) A (pyNext (.ref (n + 5))) Q E s := by
  have hzz := Z.z
  have hT : s.TypeIs (.ref (n + 5)) "zip" := ⟨_, hzz, rfl⟩
  have ne : ∀ (p q : Nat), p < q ∨ q < p → p ≠ q := fun p q h => by rcases h with h | h; exact Nat.ne_of_lt h; exact Nat.ne_of_gt h
  unfold pyNext
  refine wpAny_bind (wpAny_attempt (wpAny_callSpecial?_slot (name := Str.ofString "__next__") hT F.slot_zip_next (wpAny_call_entry F.slot_zip_next hT F.entry_zip_next ?_ (F.args_zip_next_1 _))))
  show wpAny _ _ (field (.ref (n + 5)) 2 >>= _) _ _ _
  refine wpAny_bind (wpAny_field hzz rfl (x := .bool false) rfl ?_)
  show wpAny _ _ (field (.ref (n + 5)) 3 >>= _) _ _ _
  refine wpAny_bind (wpAny_field hzz rfl (x := .ref (n + 3)) rfl ?_)
  refine wpAny_bind (wpAny_seqItems Z.ti rfl ?_)
  show wpAny _ _ (Builtin.SmallTypes.ownedTupleIsFree (.ref (n + 5)) >>= _) _ _ _
  refine wpAny_bind ?_
  unfold Builtin.SmallTypes.ownedTupleIsFree
  refine wpAny_bind (wpAny_field hzz rfl (x := .none) rfl (wpAny_pure ?_))
  simp only [if_true]
  refine wpAny_bind (wpAny_rule ?_)
  refine wpAny_bind (wpAny_field hzz rfl (x := .ref (n + 4)) rfl ?_)
  refine wpAny_bind (wpAny_setField_rec hzz (by simp) fun h₁ hz₁ hs₁ => ?_)
  replace hz₁ : IsZip h₁ (n + 5) (n + 3) (n + 4) .ellipsis := hz₁
  refine wpAny_bind ?_
  simp only [List.zipIdx_cons, List.zipIdx_nil, List.forIn_cons, List.forIn_nil]
  refine wpAny_bind (wpAny_bind (wpAny_onRaise ?_))
  show wpAny _ _ (Builtin.SmallTypes.nextOf (.ref n) >>= _) _ _ _
  refine wpAny_bind (nextOf_range_end (by first | exact hh | (show A.in1.handled = none; exact hh)) (hs₁.extBut _ _ (ne n (n + 5) (by lia)) Z.i1) hleft fun h₂ e hs₂ he => ?_)
  obtain ⟨oe, hoe, hce⟩ := he
  have hz₂ : IsZip h₂ (n + 5) (n + 3) (n + 4) .ellipsis := hs₂ _ _ (ne _ _ (by lia)) hz₁
  have hez : e ≠ n + 5 := fun q => by rw [q, hz₂] at hoe; cases hoe; simp at hce
  refine wpAny_setField_rec hz₂ (by simp) fun h₃ _ hs₃ => ?_
  have ho₃ := hs₃.extBut _ _ hez hoe
  refine wpAny_bind (wpAny_isInstance (T := "StopIteration") (b := true) ⟨oe, ho₃, hce⟩ isSubtype_stop ?_)
  refine wpAny_pure (hQ h₃ fun c o hc e => ?_)
  simp only [List.mem_cons, List.not_mem_nil, or_false, not_or] at hc
  exact hs₃.extBut _ _ hc.2.2.2.2 (hs₂ _ _ hc.1 (hs₁.extBut _ _ hc.2.2.2.2 e))

noncomputable abbrev zr1 (h : Heap) : Heap := h.push { cls := .type "range_iterator", data := .fields #[rawInt 0, rawInt 6, rawInt 1] }
noncomputable abbrev zr2 (h : Heap) (l2 : Addr) : Heap := (zr1 h).push { cls := .type "list_iterator", data := .fields #[.ref l2, .int 0 0] }
noncomputable abbrev zr3 (h : Heap) (l2 l3 : Addr) : Heap := (zr2 h l2).push { cls := .type "list_iterator", data := .fields #[.ref l3, .int 0 0] }
noncomputable abbrev zr4 (h : Heap) (l2 l3 : Addr) : Heap := (zr3 h l2 l3).push { cls := .type "tuple", data := .seq #[.ref h.objs.size, .ref (zr1 h).objs.size, .ref (zr2 h l2).objs.size] }
noncomputable abbrev zr5 (h : Heap) (l2 l3 : Addr) : Heap := (zr4 h l2 l3).push { cls := .type "tuple", data := .seq #[.none, .none, .none] }
noncomputable abbrev zr6 (h : Heap) (l2 l3 : Addr) : Heap := (zr5 h l2 l3).push { cls := .type "zip", data := .fields #[.none, .bool false, .bool false, .ref (zr3 h l2 l3).objs.size, .ref (zr4 h l2 l3).objs.size] }

theorem iter_range6 {r : Addr} {t u v : Tok} {Q : Value → Shared → Prop} (hr : IsRange s.heap r 0 6 1 t u v) (hQ : Q (.ref s.heap.objs.size) { s with heap := zr1 s.heap }) : wpAny (model prog w) A (pyIter (.ref r)) Q E s := by
  refine wpAny_pyIter_range hr (by decide) ?_
  rw [show Builtin.Range.rangeSize 0 6 1 = 6 by decide]
  exact hQ
set_option maxHeartbeats 1000000 in
theorem meets_zip3_new (r l2 l3 : Addr) (t u v : Tok) (xs ys : Array Value) :
    Meets (Builtin.«zip.__new__» ⟨[.type "zip", .ref r, .ref l2, .ref l3], []⟩) (fun _ R s => IsRange s.heap r 0 6 1 t u v ∧ s.heap.IsList l2 xs ∧ s.heap.IsList l3 ys ∧
      R (.ok (.ret (.ref (zr5 s.heap l2 l3).objs.size))) { s with heap := zr6 s.heap l2 l3 }) :=
  .of_wp fun prog w A R s h => by
    obtain ⟨hp, g, d, tk, os⟩ := s; obtain ⟨hr, hl1, hl2, h⟩ := h
    have hsub := sub_zip
    have hR : IsRange (Shared.heap ⟨hp, g, d, tk, os⟩) r 0 6 1 t u v := hr
    have hL1 : Heap.IsList (Shared.heap ⟨zr1 hp, g, d, tk, os⟩) l2 xs := Heap.IsList.push hl1 _
    have hL2 : Heap.IsList (Shared.heap ⟨zr2 hp l2, g, d, tk, os⟩) l3 ys := Heap.IsList.push (Heap.IsList.push hl2 _) _
    wp_walk using iter_range6 hR, wpAny_pyIter_list hL1, wpAny_pyIter_list hL2
    exact ⟨_, rfl, h⟩

theorem call_zip3 {r l2 l3 : Addr} {t u v : Tok} {xs ys : Array Value} {Q : Value → Shared → Prop} (hr : IsRange s.heap r 0 6 1 t u v) (hl2 : s.heap.IsList l2 xs) (hl3 : s.heap.IsList l3 ys)
    (h : ∀ h', Zip3 h' s.heap.objs.size l2 l3 0 6 0 xs ys .none .none .none .none → (∀ c o, s.heap.get? c = some o → h'.get? c = some o) → Q (.ref (s.heap.objs.size + 5)) { s with heap := h' }) :
    wpAny (model prog w) A (call (.type "zip") [.ref r, .ref l2, .ref l3]) Q E s := by
  refine callType_new F.called_zip (by decide) (typeCall_zip_3 _ _ _) (newCall_zip_3 _ _ _) (fun obj => args_object_init_4 obj _ _ _) F.entry_zip_new (meets_zip3_new r l2 l3 t u v xs ys) ⟨hr, hl2, hl3, ?_⟩
  have z1 : (zr1 s.heap).objs.size = s.heap.objs.size + 1 := Heap.size_push ..
  have z2 : (zr2 s.heap l2).objs.size = s.heap.objs.size + 2 := by rw [Heap.size_push, z1]
  have z3 : (zr3 s.heap l2 l3).objs.size = s.heap.objs.size + 3 := by rw [Heap.size_push, z2]
  have z4 : (zr4 s.heap l2 l3).objs.size = s.heap.objs.size + 4 := by rw [Heap.size_push, z3]
  have z5 : (zr5 s.heap l2 l3).objs.size = s.heap.objs.size + 5 := by rw [Heap.size_push, z4]
  have keep : ∀ c o, s.heap.get? c = some o → (zr6 s.heap l2 l3).get? c = some o := fun c o e => Heap.get?_push_of_some _ (Heap.get?_push_of_some _ (Heap.get?_push_of_some _ (Heap.get?_push_of_some _ (Heap.get?_push_of_some _ (Heap.get?_push_of_some _ e)))))
  have g6 : (zr6 s.heap l2 l3).get? (zr5 s.heap l2 l3).objs.size = some _ := Heap.get?_push_size _ rfl
  have g5 : (zr6 s.heap l2 l3).get? (zr4 s.heap l2 l3).objs.size = some _ := Heap.get?_push_of_some _ (Heap.get?_push_size _ rfl)
  have g4 : (zr6 s.heap l2 l3).get? (zr3 s.heap l2 l3).objs.size = some _ := Heap.get?_push_of_some _ (Heap.get?_push_of_some _ (Heap.get?_push_size _ rfl))
  have g3 : (zr6 s.heap l2 l3).get? (zr2 s.heap l2).objs.size = some _ := Heap.get?_push_of_some _ (Heap.get?_push_of_some _ (Heap.get?_push_of_some _ (Heap.get?_push_size _ rfl)))
  have g2 : (zr6 s.heap l2 l3).get? (zr1 s.heap).objs.size = some _ := Heap.get?_push_of_some _ (Heap.get?_push_of_some _ (Heap.get?_push_of_some _ (Heap.get?_push_of_some _ (Heap.get?_push_size _ rfl))))
  have g1 : (zr6 s.heap l2 l3).get? s.heap.objs.size = some _ := Heap.get?_push_of_some _ (Heap.get?_push_of_some _ (Heap.get?_push_of_some _ (Heap.get?_push_of_some _ (Heap.get?_push_of_some _ (Heap.get?_push_size _ rfl)))))
  show _ ∧ _
  rw [z3, z4, z5] at g6
  rw [z4] at g5
  rw [z1, z2, z3] at g4
  rw [z2] at g3
  rw [z1] at g2
  rw [z5]
  have lt2 : l2 < s.heap.objs.size := by obtain ⟨_, e, _⟩ := hl2; exact Heap.lt_size e
  have lt3 : l3 < s.heap.objs.size := by obtain ⟨_, e, _⟩ := hl3; exact Heap.lt_size e
  exact ⟨⟨_, g6, rfl⟩, h _ ⟨g6, g4, g5, g1, ⟨_, g2, rfl, rfl⟩, ⟨_, g3, rfl, rfl⟩, hl2.at fun o e => keep _ o e, hl3.at fun o e => keep _ o e, lt2, lt3⟩ keep⟩
end
end Mine

namespace Mine

open PySem PySem.W PyProof.Rows PySem.Calls

/-! ### values that need no heap -/
inductive PV.Flat : PV → Prop
  | ref (a : Addr) : PV.Flat (.ref a)
  | none : PV.Flat .n
  | int (i : Int) : PV.Flat (.i i)
  | str (x : Str) : PV.Flat (.s x)
  | bool (b : Bool) : PV.Flat (.b b)
theorem VR.flat {h h' : Heap} {p : PV} {v : Value} (f : p.Flat) (r : VR h p v) : VR h' p v := by
  cases f with
  | ref a => exact r
  | none => cases vr_none r; exact .none
  | int i => obtain ⟨t, rfl⟩ := vr_int r; exact .int _ _
  | str x => obtain ⟨t, rfl⟩ := vr_str r; exact .str _ _
  | bool b => cases vr_bool r; exact .bool _
theorem VRs.flat {h h' : Heap} : ∀ {ps : List PV} {vs : List Value}, (∀ p ∈ ps, PV.Flat p) → VRs h ps vs → VRs h' ps vs
  | [], [], _, _ => trivial
  | _ :: _, _ :: _, f, ⟨a, b⟩ => ⟨a.flat (f _ (List.mem_cons_self ..)), b.flat fun p hp => f p (List.mem_cons_of_mem _ hp)⟩
theorem KVR.flat {h h' : Heap} {K : Type} : ∀ {ps : List (K × PV)} {vs : List (K × Value)}, (∀ p ∈ ps, PV.Flat p.2) → KVR h ps vs → KVR h' ps vs
  | [], [], _, _ => trivial
  | _ :: _, _ :: _, f, ⟨e, a, b⟩ => ⟨e, a.flat (f _ (List.mem_cons_self ..)), b.flat fun p hp => f p (List.mem_cons_of_mem _ hp)⟩
inductive AO.Flat : AO → Prop
  | list {l : List PV} : (∀ p ∈ l, PV.Flat p) → AO.Flat (.list l)
  | dict {l : List (Str × PV)} : (∀ p ∈ l, PV.Flat p.2) → AO.Flat (.dict l)
  | cell0 : AO.Flat (.cell none)
  | cell {p : PV} : p.Flat → AO.Flat (.cell (some p))
  | raw (o : Obj) : AO.Flat (.raw o)
  | tab : AO.Flat .tab
  | pin {o : Obj} {x : AO} : x.Flat → AO.Flat (.pin o x)
  | idict {l : List (Int × PV)} : (∀ p ∈ l, PV.Flat p.2) → AO.Flat (.idict l)
theorem OR.flat {C : Cfg} {h h' : Heap} {a : Addr} {x : AO} (f : x.Flat) (e : ∀ o, h.get? a = some o → h'.get? a = some o) (r : OR C h a x) : OR C h' a x := by
  induction f with
  | list f => obtain ⟨items, p, q⟩ := r; exact ⟨items, p.at e, q.flat f⟩
  | dict f => obtain ⟨kvs, ⟨o, es, ep, ho, hr⟩, q⟩ := r; exact ⟨kvs, ⟨o, es, ep, e o ho, hr⟩, q.flat f⟩
  | cell0 => obtain ⟨o, ho, hd⟩ := r; exact ⟨o, e o ho, hd⟩
  | cell f => obtain ⟨v, ⟨o, ho, hd⟩, q⟩ := r; exact ⟨v, ⟨o, e o ho, hd⟩, q.flat f⟩
  | raw o => exact ⟨e o r.1, r.2⟩
  | tab => obtain ⟨ps, a, b⟩ := r; exact ⟨ps, e _ a, b⟩
  | pin _ ih => exact ⟨e _ r.1, ih r.2⟩
  | idict f => obtain ⟨kvs, ⟨o, es, ep, ho, hr⟩, q⟩ := r; exact ⟨kvs, ⟨o, es, ep, e o ho, hr⟩, q.flat f⟩

section
variable {C : Cfg} {h₀ : Heap} {L : Addr} {loc : List (Str × PV)} {R : List (Addr × AO)} {s : Shared} {A : Around} {E : Value → Shared → Prop} {mg mb : Str → Option Value} {env : Env}

theorem Loc.flat {h h' : Heap} (f : ∀ x p, loc.lookup x = some p → PV.Flat p) (e : ∀ o, h.get? L = some o → h'.get? L = some o) (x : Loc h L loc) : Loc h' L loc := by
  obtain ⟨m, ⟨o, es, ep, ho, r⟩, q⟩ := x
  exact ⟨m, ⟨o, es, ep, e o ho, r⟩, fun y p hy => let ⟨v, a, b⟩ := q y p hy; ⟨v, a, b.flat (f y p hy)⟩⟩

noncomputable abbrev zR (n : Nat) (oz o1 o2 o3 : Obj) (R : List (Addr × AO)) : List (Addr × AO) := (n + 5, .raw oz) :: (n, .raw o1) :: (n + 1, .raw o2) :: (n + 2, .raw o3) :: R
/-- what must hold around a zip -/
structure ZFit (C : Cfg) (h₀ : Heap) (L : Addr) (n : Nat) (loc : List (Str × PV)) (R : List (Addr × AO)) : Prop where
  fl : ∀ x p, loc.lookup x = some p → PV.Flat p
  fr : ∀ p ∈ R, p.2.Flat
  lt : ∀ p ∈ R, p.1 < n
  ltL : L < n
  h0 : ∀ b, n ≤ b → h₀.get? b = none
  top : ∀ b, n ≤ b → C.top.get? b = none
theorem zipObjs {h : Heap} {n l2 l3 : Nat} {x left : Int} {k : Nat} {xs ys : Array Value} {f0 a b c : Value} (Z : Zip3 h n l2 l3 x left k xs ys f0 a b c) : ∃ oz o1 o2 o3, h.get? (n + 5) = some oz ∧ h.get? n = some o1 ∧ h.get? (n + 1) = some o2 ∧ h.get? (n + 2) = some o3 ∧
    oz.cls ≠ .type "tuple" ∧ o1.cls ≠ .type "tuple" ∧ o2.cls ≠ .type "tuple" ∧ o3.cls ≠ .type "tuple" := by
  obtain ⟨o2, e2, c2, _⟩ := Z.i2
  obtain ⟨o3, e3, c3, _⟩ := Z.i3
  exact ⟨_, _, o2, o3, Z.z, Z.i1, e2, e3, by simp, by simp, by rw [c2]; simp, by rw [c3]; simp⟩
theorem zwr_in {n b : Nat} (hm : b ∈ zwr n) : n ≤ b ∧ b ≤ n + 5 := by
  simp only [List.mem_cons, List.not_mem_nil, or_false] at hm
  lia
theorem zwr_lt {n b : Nat} (hb : b < n) : b ∉ zwr n := fun hm => absurd hb (Nat.not_lt.mpr (zwr_in hm).1)
/-- a step of a zip leaves all else -/
theorem St.zip {n l2 l3 : Nat} {x left : Int} {k : Nat} {xs ys : Array Value} {f0 a b c : Value} (S : St C h₀ L loc R s) (F : ZFit C h₀ L n loc R) {h' : Heap} {t : Nat} (keep : ∀ b o, b ∉ zwr n → s.heap.get? b = some o → h'.get? b = some o)
    (Z : Zip3 h' n l2 l3 x left k xs ys f0 a b c) : ∃ oz o1 o2 o3, St C h₀ L loc (zR n oz o1 o2 o3 R) { s with heap := h', toks := t } := by
  obtain ⟨oz, o1, o2, o3, e0, e1, e2, e3, c0, c1, c2, c3⟩ := zipObjs Z
  have hR : ∀ p ∈ R, p.1 < n := F.lt
  have hsn : sysModules < n := Nat.lt_trans S.offL.2 F.ltL
  refine ⟨oz, o1, o2, o3, S.gens, S.drawn, S.os, fun b o e => ?_, fun b o vs m e h1 h2 => ?_, S.loc.flat F.fl fun o e => keep _ _ (zwr_lt F.ltL) e, S.offL, ?_, fun p hp => ?_, fun p hp => ?_⟩
  · refine keep b o (fun hm => ?_) (S.top b o e)
    rw [F.top b ((zwr_in hm).1)] at e; cases e
  · refine keep b o (fun hm => ?_) (S.tk b o vs m e h1 h2)
    rw [F.h0 b ((zwr_in hm).1)] at e; cases e
  · obtain ⟨n1, n2⟩ := List.nodup_cons.mp S.nodup
    have hm : ∀ m : Nat, n ≤ m → m ∉ R.map (·.1) := fun m hle hm => by
      obtain ⟨p, hp, e⟩ := List.mem_map.mp hm
      have h1 : @LT.lt Nat _ p.1 n := hR p hp
      have e' : @Eq Nat p.1 m := e
      lia
    have hl : @LT.lt Nat _ L n := F.ltL
    simp only [List.map_cons]
    simp only [List.nodup_cons, List.mem_cons, not_or]
    refine ⟨⟨?_, ?_, ?_, ?_, n1⟩, ⟨?_, ?_, ?_, hm _ (by lia)⟩, ⟨?_, ?_, hm _ (by lia)⟩, ⟨?_, hm _ (by lia)⟩, hm _ (by lia), n2⟩
    all_goals (intro e; have e' : @Eq Nat _ _ := e; lia)
  · rcases List.mem_cons.mp hp with e | hp
    · rw [e]; exact ⟨F.top _ (by show n ≤ n + 5; lia), Nat.lt_of_lt_of_le hsn (by show n ≤ n + 5; lia)⟩
    rcases List.mem_cons.mp hp with e | hp
    · rw [e]; exact ⟨F.top _ (Nat.le_refl _), hsn⟩
    rcases List.mem_cons.mp hp with e | hp
    · rw [e]; exact ⟨F.top _ (by show n ≤ n + 1; lia), Nat.lt_of_lt_of_le hsn (by show n ≤ n + 1; lia)⟩
    rcases List.mem_cons.mp hp with e | hp
    · rw [e]; exact ⟨F.top _ (by show n ≤ n + 2; lia), Nat.lt_of_lt_of_le hsn (by show n ≤ n + 2; lia)⟩
    exact S.off p hp
  · rcases List.mem_cons.mp hp with e | hp
    · rw [e]; exact ⟨e0, c0⟩
    rcases List.mem_cons.mp hp with e | hp
    · rw [e]; exact ⟨e1, c1⟩
    rcases List.mem_cons.mp hp with e | hp
    · rw [e]; exact ⟨e2, c2⟩
    rcases List.mem_cons.mp hp with e | hp
    · rw [e]; exact ⟨e3, c3⟩
    exact OR.flat (F.fr p hp) (fun o e => keep _ _ (zwr_lt (hR p hp)) e) (S.ok p hp)
theorem Zip3.go {h h' : Heap} {n l2 l3 : Nat} {x left : Int} {k : Nat} {xs ys : Array Value} {f0 a b c : Value} (Z : Zip3 h n l2 l3 x left k xs ys f0 a b c) (e0 : ∀ o, h.get? (n + 5) = some o → h'.get? (n + 5) = some o) (e1 : ∀ o, h.get? n = some o → h'.get? n = some o)
    (e2 : ∀ o, h.get? (n + 1) = some o → h'.get? (n + 1) = some o) (e3 : ∀ o, h.get? (n + 2) = some o → h'.get? (n + 2) = some o) (k2 : ∀ o, h.get? l2 = some o → h'.get? l2 = some o) (k3 : ∀ o, h.get? l3 = some o → h'.get? l3 = some o) (tk : TK h h') : Zip3 h' n l2 l3 x left k xs ys f0 a b c :=
  ⟨e0 _ Z.z, tk _ _ _ _ Z.ti rfl rfl, tk _ _ _ _ Z.to rfl rfl, e1 _ Z.i1, Z.i2.at e2, Z.i3.at e3, Z.al2.at k2, Z.al3.at k3, Z.lt2, Z.lt3⟩

inductive ForZip3K (C : Cfg) (A : Around) (env : Env) (body : List Stmt) (elts : List Expr) (Q : Flow → Shared → Prop) (v : Value) (s₁ : Shared) : Prop
  | mk (n l2 l3 : Nat) (q2 q3 : List PV) (O2 O3 : Obj) (xs ys : Array Value) (h₀ : Heap) (loc : List (Str × PV)) (R : List (Addr × AO)) (P : Nat → List (Str × PV) → List (Addr × AO) → Prop)
    (e0 : v = .ref (n + 5))
    (e1 : Zip3 s₁.heap n l2 l3 0 6 0 xs ys .none .none .none .none)
    (e2 : 6 ≤ xs.size)
    (e3 : 6 ≤ ys.size)
    (e4 : VRs s₁.heap q2 xs.toList)
    (e5 : VRs s₁.heap q3 ys.toList)
    (e6 : (∀ p ∈ q2, PV.Flat p))
    (e7 : (∀ p ∈ q3, PV.Flat p))
    (e8 : St C h₀ env.locals loc R s₁)
    (e9 : P 0 loc R)
    (e10 : (∀ i loc R, P i loc R → ZFit C h₀ env.locals n loc R ∧ (l2, AO.pin O2 (.list q2)) ∈ R ∧ (l3, AO.pin O3 (.list q3)) ∈ R))
    (e11 : (∀ h₁ i oz o1 o2 o3 t y z loc' R' s', TK h₀ h₁ → i < 6 → VR s'.heap (q2.getD i .n) y → VR s'.heap (q3.getD i .n) z → P i loc' R' → St C h₁ env.locals loc' (zR n oz o1 o2 o3 R') s' →
        wpAny (model C.prog C.w) A (assignInOrder ((assignEach elts env).map (·.2)) [.int (i : Int) t, y, z]) (fun _ s₂ => wpAny (model C.prog C.w) A (execs body env) (fun f s₃ => match f with
          | .next | .cont => ∃ loc'' R'', P (i + 1) loc'' R'' ∧ St C h₁ env.locals loc'' (zR n oz o1 o2 o3 R'') s₃
          | .brk => Q .next s₃
          | .ret v => Q (.ret v) s₃) (fun _ _ => False) s₂) (fun _ _ => False) s'))
    (e12 : (∀ loc' R' s', P 6 loc' R' → St C h₀ env.locals loc' R' s' → Q .next s')) : ForZip3K C A env body elts Q v s₁

/-- what holds at the zip's head -/
inductive Zip3I (C : Cfg) (h₀ : Heap) (L : Addr) (n l2 l3 : Nat) (xs ys : Array Value) (P : Nat → List (Str × PV) → List (Addr × AO) → Prop) (m : Nat) (s : Shared) : Prop
  | mk (i : Nat) (loc : List (Str × PV)) (R : List (Addr × AO)) (oz o1 o2 o3 : Obj) (a b c : Value) (e1 : i + m = 6) (e2 : P i loc R) (e3 : St C h₀ L loc (zR n oz o1 o2 o3 R) s) (e4 : Zip3 s.heap n l2 l3 (i : Int) (6 - (i : Int)) i xs ys .none a b c) : Zip3I C h₀ L n l2 l3 xs ys P m s
theorem St.drop4 {n : Nat} {oz o1 o2 o3 : Obj} (S : St C h₀ L loc (zR n oz o1 o2 o3 R) s) : St C h₀ L loc R s := S.drop.drop.drop.drop
/-- for a, b, c in zip(range(6), <list>, <list>) -/
theorem r_for_zip3 {elts : List Expr} {k : Nat} {tpos pos : Pos} {iter : Expr} {body : List Stmt} {Q : Flow → Shared → Prop} (hh : A.handled = none)
    (h : wpAny (model C.prog C.w) A (eval iter env) (ForZip3K C A env body elts Q) E s)
    (hn3 : (assignEach elts env).length = 3) (hstar : autoParam ((assignEach elts env).findIdx? (·.1) = none) rflT)
    (hs : ∀ v, foldedSetIterable iter env v = pure v := by intro _; rfl) :
    wpAny (model C.prog C.w) A (exec (.For (.Tuple elts k tpos) iter body [] pos) env) Q E s := by
  refine wpAny_For (wpAny_mono h (fun v s₁ q => ?_) fun _ _ q => q) hs
  obtain ⟨n, l2, l3, q2, q3, O2, O3, xs, ys, h₀, loc, R, P, rfl, Z, hx6, hy6, hq2, hq3, f2, f3, S, h0, hP, turn, done⟩ := q
  refine wpAny_pyIter_zip Z.z ?_
  have hl2 : xs.size = q2.length := by have := hq2.length; simp at this; lia
  have hl3 : ys.size = q3.length := by have := hq3.length; simp at this; lia
  obtain ⟨oz, o1, o2, o3, S⟩ := S.zip (t := s₁.toks) (hP _ _ _ h0).1 (fun _ _ _ e => e) Z
  refine codeAny_forLoop_any (Zip3I C h₀ env.locals n l2 l3 xs ys P) (fun m s' hI => ?_) 6 ⟨0, loc, R, oz, o1, o2, o3, .none, .none, .none, rfl, h0, S, by simpa using Z⟩
  obtain ⟨i, loc', R', oz, o1, o2, o3, a, b, c, hm, hPi, S', Z'⟩ := hI
  obtain ⟨ZF, m2, m3⟩ := hP _ _ _ hPi
  by_cases hi : i < 6
  · have hy : xs[i]? = some xs[i] := Array.getElem?_eq_getElem (by lia)
    have hz : ys[i]? = some ys[i] := Array.getElem?_eq_getElem (by lia)
    refine zip3_item Z' (by lia) hy hz fun h' Zn hT hk => ?_
    obtain ⟨oz', o1', o2', o3', S2⟩ := S'.drop4.zip (t := s'.toks + 1) ZF hk Zn
    have hTn : s'.heap.objs.size ∉ zwr n := fun hm => absurd (Nat.lt_of_le_of_lt (zwr_in hm).2 (Heap.lt_size Z'.z)) (Nat.lt_irrefl _)
    -- the tuple's mark goes
    refine wpAny_letOwnedTupleGo_zip Zn.z fun h'' hz'' hs'' => ?_
    have hk2 : ∀ b o, b ∉ zwr n → h'.get? b = some o → h''.get? b = some o := fun b o hb e => hs''.extBut b o (fun q => hb (by rw [q]; simp)) e
    have ne5 : ∀ b : Nat, b ≠ n + 5 → ∀ o, h'.get? b = some o → h''.get? b = some o := fun b hb o e => hs''.extBut b o hb e
    have Zm : Zip3 h'' n l2 l3 (i + 1 : Int) (6 - (i : Int) - 1) (i + 1) xs ys .none (.int (i : Int) s'.toks) xs[i] ys[i] := by
      have d2 := Zn.lt2
      have d3 := Zn.lt3
      exact ⟨hz'', ne5 _ (by lia) _ Zn.ti, ne5 _ (by lia) _ Zn.to, ne5 _ (by lia) _ Zn.i1, Zn.i2.at (ne5 _ (by lia)), Zn.i3.at (ne5 _ (by lia)), Zn.al2.at (ne5 _ (by lia)), Zn.al3.at (ne5 _ (by lia)), d2, d3⟩
    have hT2 : IsTrip h'' s'.heap.objs.size (.int (i : Int) s'.toks) xs[i] ys[i] := hk2 _ _ hTn hT
    obtain ⟨oz2, o12, o22, o32, S3⟩ := S2.drop4.zip (t := s'.toks + 1) ZF hk2 Zm
    show wpAny _ A (assign (.Tuple elts k tpos) env (.ref s'.heap.objs.size)) _ _ _
    refine wpAny_assign_Tuple (items := #[.int (i : Int) s'.toks, xs[i], ys[i]]) hh ⟨_, hT2, rfl, _, rfl⟩ hn3 hstar fun h₃ he => ?_
    have kp : ∀ b o, h''.get? b = some o → h₃.get? b = some o := fun b o e => he b o (Nat.ne_of_lt (Heap.lt_size e)) e
    have S4 := S3.keeps' kp
    have Z4 : Zip3 h₃ n l2 l3 (i + 1 : Int) (6 - (i : Int) - 1) (i + 1) xs ys .none (.int (i : Int) s'.toks) xs[i] ys[i] := Zm.go (kp _) (kp _) (kp _) (kp _) (kp _) (kp _) (TK.of_keeps kp)
    have v2 : VR h₃ (q2.getD i .n) xs[i] := by
      obtain ⟨p, e1, e2⟩ := hq2.get (i := i) (v := xs[i]) (by simp)
      rw [List.getD_eq_getElem?_getD, e1]
      exact e2.flat (f2 p (List.mem_of_getElem? e1))
    have v3 : VR h₃ (q3.getD i .n) ys[i] := by
      obtain ⟨p, e1, e2⟩ := hq3.get (i := i) (v := ys[i]) (by simp)
      rw [List.getD_eq_getElem?_getD, e1]
      exact e2.flat (f3 p (List.mem_of_getElem? e1))
    refine wpAny_mono (turn h₃ i oz2 o12 o22 o32 s'.toks xs[i] ys[i] loc' R' _ S4.tk hi v2 v3 hPi S4.re) (fun _ s₂ q => wpAny_mono q (fun f s₃ q => ?_) fun _ _ q => q.elim) fun _ _ q => q.elim
    have next : (∃ loc'' R'', P (i + 1) loc'' R'' ∧ St C h₃ env.locals loc'' (zR n oz2 o12 o22 o32 R'') s₃) → ∃ m', m' < m ∧ Zip3I C h₀ env.locals n l2 l3 xs ys P m' s₃ := by
      rintro ⟨loc'', R'', hP2, S5⟩
      obtain ⟨_, m2', m3'⟩ := hP _ _ _ hP2
      have same : ∀ {b : Addr} {o : Obj}, (b, AO.raw o) ∈ zR n oz2 o12 o22 o32 [] → ∀ o', h₃.get? b = some o' → s₃.heap.get? b = some o' := fun {b o} hm o' e => by
        have hm1 : (b, AO.raw o) ∈ zR n oz2 o12 o22 o32 R' := List.mem_append_left R' hm
        have hm2 : (b, AO.raw o) ∈ zR n oz2 o12 o22 o32 R'' := List.mem_append_left R'' hm
        have g1 : h₃.get? b = some o := (S4.ok _ hm1).1
        rw [g1] at e; cases e
        exact (S5.ok _ hm2).1
      have samel : ∀ {b : Addr} {O : Obj} {q : List PV}, (b, AO.pin O (.list q)) ∈ R' → (b, AO.pin O (.list q)) ∈ R'' → ∀ o', h₃.get? b = some o' → s₃.heap.get? b = some o' := fun {b O q} hm1 hm2 o' e => by
        have g1 : h₃.get? b = some O := (S4.ok _ (List.mem_cons_of_mem _ (List.mem_cons_of_mem _ (List.mem_cons_of_mem _ (List.mem_cons_of_mem _ hm1))))).1
        rw [g1] at e; cases e
        exact (S5.ok _ (List.mem_cons_of_mem _ (List.mem_cons_of_mem _ (List.mem_cons_of_mem _ (List.mem_cons_of_mem _ hm2))))).1
      refine ⟨m - 1, by lia, i + 1, loc'', R'', oz2, o12, o22, o32, .int (i : Int) s'.toks, xs[i], ys[i], by lia, hP2, S5.un S4.tk, ?_⟩
      have := Z4.go (same (b := n + 5) (o := oz2) (List.mem_of_getElem? (i := 0) rfl)) (same (b := n) (o := o12) (List.mem_of_getElem? (i := 1) rfl)) (same (b := n + 1) (o := o22) (List.mem_of_getElem? (i := 2) rfl)) (same (b := n + 2) (o := o32) (List.mem_of_getElem? (i := 3) rfl)) (samel m2 m2') (samel m3 m3') S5.tk
      rw [show ((i + 1 : Nat) : Int) = (i : Int) + 1 by push_cast; rfl, show (6 : Int) - ((i : Int) + 1) = 6 - (i : Int) - 1 by lia]
      exact this
    cases f with
    | next => exact next q
    | cont => exact next q
    | brk => exact q
    | ret v => exact q
  · have hi6 : i = 6 := by lia
    subst hi6
    refine zip3_end hh Z' (by simp) fun h' hk => ?_
    have S0 := S'.drop4
    have S2 : St C h₀ env.locals loc' R' { s' with heap := h' } := by
      refine ⟨S0.gens, S0.drawn, S0.os, fun b o e => ?_, fun b o vs m e h1 h2 => ?_, S0.loc.flat ZF.fl fun o e => hk _ _ (zwr_lt ZF.ltL) e, S0.offL, S0.nodup, S0.off, fun p hp => OR.flat (ZF.fr p hp) (fun o e => hk _ _ (zwr_lt (ZF.lt p hp)) e) (S0.ok p hp)⟩
      · refine hk b o (fun hm => ?_) (S0.top b o e)
        rw [ZF.top b ((zwr_in hm).1)] at e; cases e
      · refine hk b o (fun hm => ?_) (S0.tk b o vs m e h1 h2)
        rw [ZF.h0 b ((zwr_in hm).1)] at e; cases e
    exact wpAny_execs_nil (done loc' R' _ hPi S2)
end
end Mine

namespace Mine

open PySem PySem.W PyProof.Rows PySem.Calls

section
variable {C : Cfg} {h₀ : Heap} {L : Addr} {loc : List (Str × PV)} {R : List (Addr × AO)} {s : Shared} {A : Around} {E : Value → Shared → Prop} {mg mb : Str → Option Value} {env : Env}

/-! ### lists of ints -/
noncomputable abbrev iP (n : Int) : PV := .i n
theorem intsAre {h : Heap} : ∀ {ns : List Int} {vs : List Value}, VRs h (ns.map iP) vs → IntsAre vs ns
  | [], [], _ => .nil
  | _ :: _, _ :: _, ⟨a, b⟩ => by obtain ⟨t, rfl⟩ := vr_int a; exact .cons _ _ (intsAre b)
theorem vrsInts {h : Heap} : ∀ {ns : List Int} {vs : List Value}, IntsAre vs ns → VRs h (ns.map iP) vs
  | _, _, .nil => trivial
  | _, _, .cons _ _ r => ⟨.int _ _, vrsInts r⟩
theorem intList {h : Heap} {a : Addr} {ns : List Int} (r : OR C h a (.list (ns.map iP))) : ∃ items, h.IsList a items ∧ IntsAre items.toList ns := by
  obtain ⟨items, ⟨n, hl⟩, hr⟩ := r
  exact ⟨items, ⟨_, hl, rfl, n, rfl⟩, intsAre hr⟩
theorem subTail {value slice : Expr} {o i : Value} {ty id : String} {ops : List Value} {Q : Value → Shared → Prop} (hT : s.TypeIs o ty) (hl : typeLookup (.type ty) "__getitem__" = pure (some (.builtin id))) (h : wpAny (model C.prog C.w) A (getItem o i) Q E s)
    (hs : subscripted slice false o i = operate ops (getItem o i)) : wpAny (model C.prog C.w) A (subscriptTail value slice o i) Q E s := by
  unfold subscriptTail
  refine wpAny_bind ?_
  rw [getitemInPython_of_ne hT.not_modules]
  refine wpAny_bind (wpAny_specialOf hT hl ?_)
  have fin : wpAny (model C.prog C.w) A (subscripted slice false o i) (fun r s₃ => wpAny (model C.prog C.w) A (letTemporaryGo value o r >>= fun _ => pure r) Q E s₃) E s := by
    rw [hs]
    exact wpAny_operating (wpAny_mono h (fun r s₃ h₃ => wpAny_bind (wpAny_letTemporaryGo (wpAny_pure h₃))) fun _ _ x => x)
  first
    | exact wpAny_pure (wpAny_bind fin)
    | exact wpAny_bind (wpAny_pure (wpAny_bind fin))
    | exact wpAny_bind fin
/-- l[lo:hi:st] of a list of ints -/
theorem r_lslice {value : Expr} {lo hi st : Option Expr} {p pos : Pos} {Q : Value → Shared → Prop}
    (h : wpAny (model C.prog C.w) A (eval value env) (fun o s₁ => ∃ a, o = .ref a ∧ wpAny (model C.prog C.w) A (evalPart lo env) (fun l s₂ => wpAny (model C.prog C.w) A (evalPart hi env) (fun u s₃ => wpAny (model C.prog C.w) A (evalPart st env) (fun k s₄ =>
      ∃ (ns : List Int) (lo' hi' st' : Option Int) (h₀ : Heap) (L : Addr) (loc : List (Str × PV)) (R : List (Addr × AO)), IsPart l lo' ∧ IsPart u hi' ∧ IsPart k st' ∧ st' ≠ some 0 ∧ St C h₀ L loc R s₄ ∧ (∃ items, s₄.heap.IsList a items ∧ IntsAre items.toList ns) ∧ ns.length ≤ 1000000 ∧
      ∀ D s', St C h₀ L loc ((D, .list ((pickNums ns lo' hi' st').map iP)) :: R) s' → Q (.ref D) s') E s₃) E s₂) E s₁) E s)
    (hs : ∀ o i, ∃ ops, subscripted (.Slice lo hi st p) false o i = operate ops (getItem o i) := by intro _ _; exact ⟨_, rfl⟩) :
    wpAny (model C.prog C.w) A (eval (.Subscript value (.Slice lo hi st p) pos) env) Q E s := by
  refine Subscript_ (wpAny_mono h (fun o s₁ q => ?_) fun _ _ q => q)
  obtain ⟨a, rfl, q⟩ := q
  refine wpAny_Slice (wpAny_mono q (fun l s₂ q => wpAny_mono q (fun u s₃ q => wpAny_mono q (fun k s₄ q => ?_) fun _ _ q => q) fun _ _ q => q) fun _ _ q => q)
  obtain ⟨ns, lo', hi', st', h₀, L, loc, R, p1, p2, p3, h0, S, ⟨items, hL, hi⟩, hz, q⟩ := q
  obtain ⟨ops, hs⟩ := hs (.ref a) (.ref s₄.heap.objs.size)
  have hlen : items.size = ns.length := by have := hi.length; simp at this; lia
  have S1 := S.push { cls := .type "slice", data := .fields #[l, u, k] }
  refine subTail (Heap.IsList.typeIs (s := { s₄ with heap := s₄.heap.push { cls := .type "slice", data := .fields #[l, u, k] } }) (hL.push _)) list_getitem_lookup
    (wpAny_getItem_list_slice (hL.push _) (Heap.IsSliceOf.new ..) p1 p2 p3 h0 ?_ (by rw [hlen, sizeT]; lia)) hs
  refine q _ _ (S1.pushed (x := .list ((pickNums ns lo' hi' st').map iP)) (o := { cls := .type "list", data := .seq (slicePick items lo' hi' st') }) ⟨slicePick items lo' hi' st', ⟨0, Heap.get?_push_size _ rfl⟩, ?_⟩)
  have := hi.pick lo' hi' st'
  rw [show (items.toList).toArray = items from by simp] at this
  exact vrsInts this
theorem pickNums_len (ns : List Int) (lo hi st : Option Int) : (pickNums ns lo hi st).length ≤ ns.length := by
  have : ∃ vs, IntsAre vs ns := by
    induction ns with
    | nil => exact ⟨[], .nil⟩
    | cons n r ih => obtain ⟨vs, h⟩ := ih; exact ⟨_, .cons n 0 h⟩
  obtain ⟨vs, h⟩ := this
  exact length_pickNums_le h lo hi st

/-- l + m -/
theorem r_addl {a b : Addr} {l m : List PV} {Q : Value → Shared → Prop} (S : St C h₀ L loc R s) (ha : OR C s.heap a (.list l)) (hb : OR C s.heap b (.list m)) (hz : l.length + m.length ≤ 1000000)
    (h : ∀ D s', St C h₀ L loc ((D, .list (l ++ m)) :: R) s' → Q (.ref D) s') : wpAny (model C.prog C.w) A (binaryOp .Add (.ref a) (.ref b)) Q E s := by
  obtain ⟨xs, ⟨n, hx⟩, rx⟩ := ha
  obtain ⟨ys, ⟨k, hy⟩, ry⟩ := hb
  have h1 : xs.size = l.length := by have := rx.length; simp at this; lia
  have h2 : ys.size = m.length := by have := ry.length; simp at this; lia
  refine PySem.P.add_list hx hy ?_ (by rw [h1, h2, sizeT]; lia)
  refine h _ _ (S.pushed (x := .list (l ++ m)) ⟨xs ++ ys, ⟨0, Heap.get?_push_size _ rfl⟩, ?_⟩)
  rw [Array.toList_append]
  exact (rx.tk (TK.of_keeps fun b o e => Heap.get?_push_of_some _ e)).append (ry.tk (TK.of_keeps fun b o e => Heap.get?_push_of_some _ e))

/-- sum of a list of ints -/
theorem call_sumI {a : Addr} {ns : List Int} {Q : Value → Shared → Prop} (hh : A.handled = none) (S : St C h₀ L loc R s) (hm : (a, AO.list (ns.map iP)) ∈ R) (h : ∀ n t s', St C h₀ L loc R s' → Q (.int n t) s') :
    wpAny (model C.prog C.w) A (call (.builtin "sum") [.ref a]) Q E s := by
  obtain ⟨xs, ⟨n, hx⟩, hr⟩ := S.getOK hm
  have hi := intsAre hr
  have S1 := S.pushed (x := .raw { cls := .type "list_iterator", data := .fields #[.ref a, .int 0 0] }) (o := { cls := .type "list_iterator", data := .fields #[.ref a, .int 0 0] }) ⟨Heap.get?_push_size _ rfl, by simp⟩
  have hlt : a ≠ s.heap.objs.size := Nat.ne_of_lt (S.lt hm)
  refine call_sum_walkG (wpAny_pyIter_list ⟨_, hx, rfl, _, rfl⟩ ⟨s.heap.objs.size, _, _, _, _, _, fun i => ns.getD i 0, rfl, Walks.list (A := A.in1) hh s.heap.objs.size a hlt xs, ⟨⟨_, Heap.get?_push_size _ rfl, rfl, rfl⟩, ⟨_, Heap.get?_push_of_some _ hx, rfl, _, rfl⟩⟩, ?_, ?_, ?_⟩)
  · intro b hb
    simp at hb
    rcases hb with rfl | rfl
    · rw [Heap.size_push]; exact Nat.lt_succ_self _
    · rw [Heap.size_push]; exact Nat.lt_succ_of_lt (S.lt hm)
  · intro i v hv
    obtain ⟨p, e1, e2⟩ := hr.get (i := i) (v := v) (by simpa using hv)
    rw [List.getElem?_map] at e1
    cases hn : ns[i]? with
    | none => rw [hn] at e1; cases e1
    | some k =>
      rw [hn] at e1
      cases e1
      obtain ⟨t, rfl⟩ := vr_int e2
      exact ⟨t, by show _ = Value.int (ns.getD i 0) t; rw [List.getD_eq_getElem?_getD, hn]; rfl⟩
  · intro h' tk t' hk
    exact h _ _ _ (S1.lose (t := tk) fun b o hb e => hk b o (by simpa using hb) e)

/-! ### names of types; texts, ints -/
theorem r_bt {f : Str} {ty : String} {p pos : Pos} {e : Expr} {rest : List Expr} {Q : Value → Shared → Prop} (B : Base C mg mb) (S : St C h₀ L loc R s) (hv : mg f = none ∧ mb f = some (.type ty))
    (h : wpAny (model C.prog C.w) A (spliced (backTo pos (starEach (e :: rest) env))) (fun vs s₁ => wpAny (model C.prog C.w) A (call (.type ty) vs) Q E s₁) E s)
    (he : autoParam (starEach (e :: rest) env = (false, eval e env) :: starEach rest env) rflT) (hpl : autoParam ((backTo pos (starEach rest env)).any (·.1) = false) rflT)
    (hg : autoParam (env.globals = mainGlobals) rflT) (hb : autoParam (env.builtins = builtinsNs) rflT) (hk : autoParam (env.scope.kind = .function) rflT) (hl : autoParam (env.kindOf f = some .globalImplicit) rflT) (hd : autoParam ((f == ("__debug__" : Str)) = false) decT) :
    wpAny (model C.prog C.w) A (eval (.Call (.Name f p) (e :: rest) [] pos) env) Q E s := by
  refine wpAny_Call_ofName (nm_bi B S hv ?_ hg hb hk hl hd)
  show wpAny _ A (callWith pos (.type ty) [] (backTo pos (starEach (e :: rest) env)) []) Q E s
  exact PyProof.Rows.callWith_type1 h he hpl
theorem r_mod {a b : Int} {t u : Tok} {Q : Value → Shared → Prop} (S : St C h₀ L loc R s) (hb : b ≠ 0) (h : ∀ t' s', St C h₀ L loc R s' → Q (.int (a.fmod b) t') s') : wpAny (model C.prog C.w) A (binaryOp .Mod (.int a t) (.int b u)) Q E s :=
  PyProof.Rows.mod_int hb (h _ _ (S.tok _))
theorem r_fdiv {a b : Int} {t u : Tok} {Q : Value → Shared → Prop} (S : St C h₀ L loc R s) (hb : b ≠ 0) (hs : Builtin.divisionGoesByPylong a b = false) (h : ∀ t' s', St C h₀ L loc R s' → Q (.int (a.fdiv b) t') s') : wpAny (model C.prog C.w) A (binaryOp .FloorDiv (.int a t) (.int b u)) Q E s :=
  PyProof.Rows.floordiv_int hb (h _ _ (S.tok _)) (.inl hs)
theorem r_pow {a n : Int} {t u : Tok} {Q : Value → Shared → Prop} (S : St C h₀ L loc R s) (hn : 0 ≤ n) (hn2 : n ≤ 1000000) (ha : a.natAbs < 2 ^ 64) (h : ∀ t' s', St C h₀ L loc R s' → Q (.int (a ^ n.toNat) t') s') : wpAny (model C.prog C.w) A (binaryOp .Pow (.int a t) (.int n u)) Q E s :=
  PyProof.Rows.pow_int_small hn hn2 ha (h _ _ (S.tok _))
theorem r_int {x : Str} {t : Tok} {n : Int} {Q : Value → Shared → Prop} (S : St C h₀ L loc R s) (hn : PySem.intText? x = some n) (hl : x.length ≤ 640) (h : ∀ t' s', St C h₀ L loc R s' → Q (.int n t') s') : wpAny (model C.prog C.w) A (call (.type "int") [.str x t]) Q E s :=
  KIN.call_text hn hl (h _ _ (S.tok _))
/-- x * 2 -/
theorem r_dbl {l : T} {t u : Tok} {Q : Value → Shared → Prop} (S : St C h₀ L loc R s) (hne : l ≠ []) (hz : l.length ≤ 1000000) (h : ∀ t' s', St C h₀ L loc R s' → Q (.str (toS (l ++ l)) t') s') : wpAny (model C.prog C.w) A (binaryOp .Mult (.str (toS l) t) (.int 2 u)) Q E s := by
  have h0 : ((toS l).length == 0) = false := by
    rw [toS_length]
    cases l with
    | nil => exact absurd rfl hne
    | cons => simp
  refine PySem.P.mul_str (by decide) (fun _ _ => ?_) (fun _ _ => ?_) ?_
  · rw [toS_length, show (2 ^ 63 - 1 : Int) / 2 = 4611686018427387903 by decide]; lia
  · unfold Builtin.Str.tooLong; rw [toS_length, sizeT, show (2 : Int).toNat = 2 from rfl]; exact decide_eq_false (by lia)
  · rw [if_neg (by decide), h0, if_neg (by simp)]
    have e : (⟨(List.replicate (2 : Int).toNat (toS l).cps).foldl (· ++ ·) #[]⟩ : Str) = toS (l ++ l) := by
      show (⟨(#[] ++ l.toArray) ++ l.toArray⟩ : Str) = _
      simp [toS]
    rw [e]
    exact ⟨by rw [toS_length, sizeT, List.length_append]; lia, h _ _ (S.tok _)⟩
/-- x not in l, a list of texts -/
theorem r_notin_list {a : Addr} {l : List T} {x : T} {t : Tok} {Q : Value → Shared → Prop} (ho : OR C s.heap a (.list (l.map sP))) (h : Q (.bool (!decide (x ∈ l))) s) : wpAny (model C.prog C.w) A (compareOp .NotIn (.str (toS x) t) (.ref a)) Q E s := by
  obtain ⟨items, ⟨n, hx⟩, hr⟩ := ho
  have key : ∀ {l : List T} {vs : List Value}, VRs s.heap (l.map sP) vs → (∀ y ∈ vs, ∃ m u, y = .str (toS m) u) ∧ vs.any (fun y => decide (strOf? y = x)) = decide (x ∈ l) := by
    intro l
    induction l with
    | nil => intro vs hv; cases vs with
      | nil => simp
      | cons => exact hv.elim
    | cons m r ih =>
      intro vs hv
      cases vs with
      | nil => exact hv.elim
      | cons v vs =>
        obtain ⟨h1, h2⟩ := hv
        obtain ⟨u, rfl⟩ := vr_str h1
        obtain ⟨i1, i2⟩ := ih h2
        refine ⟨fun y hy => ?_, ?_⟩
        · rcases List.mem_cons.mp hy with e | e
          · exact ⟨m, u, e⟩
          · exact i1 y e
        · rw [List.any_cons, i2]
          have : strOf? (.str (toS m) u) = m := toS_cps m
          rw [this]
          by_cases hmx : m = x
          · subst hmx; simp
          · have hxm : x ≠ m := fun e => hmx e.symm
            simp [hmx, hxm]
  obtain ⟨k1, k2⟩ := key hr
  refine SeqInW.notIn_listW (fun y => decide (strOf? y = x)) (fun y hy => ?_) ⟨_, hx, rfl, _, rfl⟩ ?_
  · obtain ⟨m, u, rfl⟩ := k1 y (by simpa using hy)
    have : strOf? (.str (toS m) u) = m := toS_cps m
    rw [this]
    exact eqGives_t _ _ _ _
  · rw [← Array.any_toList, k2]; exact h

/-! ### dicts by ints -/
theorem KVR.atI {h : Heap} : ∀ {l : List (Int × PV)} {kvs : List (Int × Value)}, KVR h l kvs → ∀ k, (dget l k = none ∧ valueAt kvs k = none) ∨ ∃ p v, dget l k = some p ∧ valueAt kvs k = some v ∧ VR h p v
  | [], [], _, k => .inl ⟨rfl, rfl⟩
  | (k1, p) :: l, (k2, v) :: kvs, ⟨e, a, b⟩, k => by
    cases e
    by_cases hk : k1 = k
    · exact .inr ⟨p, v, by simp [dget, List.find?_cons, hk], by simp [valueAt, List.find?_cons, hk], a⟩
    · have := KVR.atI b k
      simpa [dget, valueAt, List.find?_cons, hk] using this
theorem KVR.anyI {h : Heap} (f : Int → Bool) : ∀ {l : List (Int × PV)} {kvs : List (Int × Value)}, KVR h l kvs → (l.any fun kv => f kv.1) = kvs.any fun kv => f kv.1
  | [], [], _ => rfl
  | (k1, p) :: l, (k2, v) :: kvs, ⟨e, a, b⟩ => by
    cases e
    simp [KVR.anyI f b]
theorem KVR.mapsetI {h : Heap} {k : Int} {p : PV} {v : Value} (r : VR h p v) : ∀ {l : List (Int × PV)} {kvs : List (Int × Value)}, KVR h l kvs → KVR h (l.map fun kv => if kv.1 = k then (kv.1, p) else kv) (kvs.map fun kv => if kv.1 = k then (kv.1, v) else kv)
  | [], [], _ => trivial
  | (k1, q) :: l, (k2, w) :: kvs, ⟨e, a, b⟩ => by
    cases e
    simp only [List.map_cons]
    by_cases hk : k1 = k
    · rw [if_pos hk, if_pos hk]; exact ⟨rfl, r, KVR.mapsetI r b⟩
    · rw [if_neg hk, if_neg hk]; exact ⟨rfl, a, KVR.mapsetI r b⟩
theorem KVR.appendI {h : Heap} : ∀ {l m : List (Int × PV)} {kvs ws : List (Int × Value)}, KVR h l kvs → KVR h m ws → KVR h (l ++ m) (kvs ++ ws)
  | [], _, [], _, _, y => y
  | _ :: _, _, _ :: _, _, ⟨e, a, b⟩, y => ⟨e, a, b.appendI y⟩
theorem KVR.setI {h : Heap} {k : Int} {p : PV} {v : Value} {l : List (Int × PV)} {kvs : List (Int × Value)} (x : KVR h l kvs) (r : VR h p v) : KVR h (dset l k p) (stored kvs k v) := by
  unfold dset stored
  have := x.anyI (fun y => decide (y = k))
  rw [this]
  split
  · exact x.mapsetI r
  · exact x.appendI ⟨rfl, r, trivial⟩
theorem intKey (prog : Program) (w : World) (n : Int) (t : Tok) : (intKind prog w).is n (.int n t) = true := by
  show Value.isInt n (.int n t) = true
  simp [Value.isInt]
theorem item_di {a : Addr} {k : Int} {t : Tok} {l : List (Int × PV)} {p : PV} {Q : Value → Shared → Prop} (S : St C h₀ L loc R s) (ho : OR C s.heap a (.idict l)) (hp : dget l k = some p)
    (h : ∀ v s', VR s'.heap p v → St C h₀ L loc R s' → Q v s') : ItemOn (model C.prog C.w) A E (.ref a) (.int k t) Q s := by
  obtain ⟨kvs, hd, hr⟩ := ho
  rcases hr.atI k with ⟨e1, e2⟩ | ⟨p', v, e1, e2, rv⟩
  · rw [hp] at e1; cases e1
  · rw [hp] at e1; cases e1
    exact ⟨"dict", "dict.__getitem__", F.slot_dict_getitem.lookup, hd.typeIs, wpAny_getItem_of (knd := intKind C.prog C.w) (k := k) (intKey _ _ _ _) hd.mapOf e2 (h v _ rv (S.tok _))⟩

/-! ### written lists -/
noncomputable def constTexts : List Expr → Option (List T)
  | [] => some []
  | .Constant (.str x) _ _ :: r => (constTexts r).map (x.cps.toList :: ·)
  | _ => none
noncomputable def constInts : List Expr → Option (List Int)
  | [] => some []
  | .Constant (.int x) _ _ :: r => (constInts r).map (x :: ·)
  | _ => none
theorem star_const (c : Const) (k : Nat) (p : Pos) (r : List Expr) : starEach (.Constant c k p :: r) env = (false, eval (.Constant c k p) env) :: starEach r env := by rfl
theorem r_consts {elts : List Expr} : ∀ {ls : List T} {pos : Pos} {s : Shared} {Q : List Value → Shared → Prop}, constTexts elts = some ls → St C h₀ L loc R s → (∀ vs s', VRs s'.heap (ls.map sP) vs → St C h₀ L loc R s' → Q vs s') →
    wpAny (model C.prog C.w) A (spliced (backTo pos (starEach elts env))) Q E s := by
  induction elts with
  | nil =>
    intro ls pos s Q hc S h
    cases hc
    exact wpAny_items_nil (h [] s trivial S)
  | cons e r ih =>
    intro ls pos s Q hc S h
    unfold constTexts at hc
    split at hc
    · rename_i heq; cases heq
    · rename_i x k p r' heq
      obtain ⟨rfl, rfl⟩ := List.cons.inj heq
      cases hr : constTexts r with
      | none => rw [hr] at hc; cases hc
      | some rs =>
        rw [hr] at hc
        cases hc
        refine wpAny_items_cons (c_s S fun t s₁ S₁ => ih hr S₁ fun vs s₂ hv S₂ => h _ s₂ ⟨?_, hv⟩ S₂) (star_const _ _ _ _)
        have : VR s₂.heap (sP x.cps.toList) (.str (toS x.cps.toList) t) := .str _ _
        rw [← toS_of x] at this
        exact this
    · cases hc
theorem r_constI {elts : List Expr} : ∀ {ls : List Int} {pos : Pos} {s : Shared} {Q : List Value → Shared → Prop}, constInts elts = some ls → St C h₀ L loc R s → (∀ vs s', VRs s'.heap (ls.map iP) vs → St C h₀ L loc R s' → Q vs s') →
    wpAny (model C.prog C.w) A (spliced (backTo pos (starEach elts env))) Q E s := by
  induction elts with
  | nil =>
    intro ls pos s Q hc S h
    cases hc
    exact wpAny_items_nil (h [] s trivial S)
  | cons e r ih =>
    intro ls pos s Q hc S h
    unfold constInts at hc
    split at hc
    · rename_i heq; cases heq
    · rename_i x k p r' heq
      obtain ⟨rfl, rfl⟩ := List.cons.inj heq
      cases hr : constInts r with
      | none => rw [hr] at hc; cases hc
      | some rs =>
        rw [hr] at hc
        cases hc
        exact wpAny_items_cons (c_i S fun t s₁ S₁ => ih hr S₁ fun vs s₂ hv S₂ => h _ s₂ ⟨.int _ _, hv⟩ S₂) (star_const _ _ _ _)
    · cases hc
/-- a new list -/
theorem St.newList {vs : List Value} {l : List PV} (S : St C h₀ L loc R s) (hv : VRs s.heap l vs) : St C h₀ L loc ((s.heap.objs.size, .list l) :: R) { s with heap := s.heap.push { cls := .type "list", data := .seq vs.toArray } } :=
  S.pushed (x := .list l) ⟨vs.toArray, ⟨0, Heap.get?_push_size _ rfl⟩, hv.tk (TK.of_keeps fun b o e => Heap.get?_push_of_some _ e)⟩
theorem r_listT {elts : List Expr} {pos : Pos} {ls : List T} {Q : Value → Shared → Prop} (hc : constTexts elts = some ls) (S : St C h₀ L loc R s) (hz : ls.length ≤ 1000000) (h : ∀ D s', St C h₀ L loc ((D, .list (ls.map sP)) :: R) s' → Q (.ref D) s') :
    wpAny (model C.prog C.w) A (eval (.List elts pos) env) Q E s :=
  wpAny_List (r_consts hc S fun vs s₁ hv S₁ => ⟨by have := hv.length; rw [List.length_map] at this; rw [sizeT]; lia, h _ _ (S₁.newList hv)⟩)
theorem r_listI {elts : List Expr} {pos : Pos} {ls : List Int} {Q : Value → Shared → Prop} (hc : constInts elts = some ls) (S : St C h₀ L loc R s) (hz : ls.length ≤ 1000000) (h : ∀ D s', St C h₀ L loc ((D, .list (ls.map iP)) :: R) s' → Q (.ref D) s') :
    wpAny (model C.prog C.w) A (eval (.List elts pos) env) Q E s :=
  wpAny_List (r_constI hc S fun vs s₁ hv S₁ => ⟨by have := hv.length; rw [List.length_map] at this; rw [sizeT]; lia, h _ _ (S₁.newList hv)⟩)
end
end Mine

namespace Mine

open PySem PySem.W PyProof.Rows PySem.Calls

noncomputable def ops1 : List T := [[40], [41], [91], [93], [58], [44], [59], [43], [45], [42], [47], [124], [38], [60], [62], [61], [46], [37], [123], [125], [61, 61], [33, 61], [60, 61], [62, 61]]
noncomputable def ops2 : List T := [[126], [94], [60, 60], [62, 62], [42, 42], [43, 61], [45, 61], [42, 61], [47, 61], [37, 61], [38, 61], [124, 61], [94, 61], [60, 60, 61], [62, 62, 61], [42, 42, 61], [47, 47], [47, 47, 61]]
noncomputable def ops3 : List T := [[64], [64, 61], [45, 62], [46, 46, 46], [58, 61], [33]]
noncomputable def OPS : List T := (ops1 ++ ops2) ++ ops3
noncomputable def TOK : List (T × Int) := [([33], 54), ([33, 61], 28), ([37], 24), ([37, 61], 40), ([38], 19), ([38, 61], 41), ([40], 7), ([41], 8), ([42], 16), ([42, 42], 35), ([42, 42, 61], 46), ([42, 61], 38), ([43], 14), ([43, 61], 36), ([44], 12), ([45], 15), ([45, 61], 37), ([45, 62], 51), ([46], 23), ([46, 46, 46], 52), ([47], 17), ([47, 47], 47), ([47, 47, 61], 48), ([47, 61], 39), ([58], 11), ([58, 61], 53), ([59], 13), ([60], 20), ([60, 60], 33), ([60, 60, 61], 44), ([60, 61], 29), ([61], 22), ([61, 61], 27), ([62], 21), ([62, 61], 30), ([62, 62], 34), ([62, 62, 61], 45), ([64], 49), ([64, 61], 50), ([91], 9), ([93], 10), ([94], 32), ([94, 61], 43), ([123], 25), ([124], 18), ([124, 61], 42), ([125], 26), ([126], 31)]
noncomputable def CODES : List T := [[48], [49], [48, 48], [48, 49], [49, 48], [49, 49], [48, 48, 48], [48, 48, 49], [48, 49, 48], [48, 49, 49], [49, 48, 48], [49, 48, 49], [49, 49, 48], [49, 49, 49]]
noncomputable abbrev tokPV : List (Str × PV) := TOK.map fun x => (toS x.1, iP x.2)
noncomputable abbrev txtPV : List (Int × PV) := TOK.map fun x => (x.2, sP x.1)

section
variable {C : Cfg} {h₀ : Heap} {L : Addr} {loc : List (Str × PV)} {R : List (Addr × AO)} {s : Shared} {A : Around} {E : Value → Shared → Prop} {mg mb : Str → Option Value} {env : Env} {a : Addr} {k : Nat}

/-- o[i], whatever the index's form -/
theorem r_item {value slice : Expr} {pos : Pos} {Q : Value → Shared → Prop} (h : wpAny (model C.prog C.w) A (eval value env) (fun o s₁ => wpAny (model C.prog C.w) A (eval slice env) (fun i s₂ => ItemOn (model C.prog C.w) A E o i Q s₂) E s₁) E s)
    (hs : ∀ o i, ∃ ops, subscripted slice false o i = operate ops (getItem o i) := by intro _ _; exact ⟨_, rfl⟩) :
    wpAny (model C.prog C.w) A (eval (.Subscript value slice pos) env) Q E s := by
  refine Subscript_ (wpAny_mono h (fun o s₁ q => wpAny_mono q (fun i s₂ q => ?_) fun _ _ q => q) fun _ _ q => q)
  obtain ⟨T, id, hl, hT, hg⟩ := q
  obtain ⟨ops, e⟩ := hs o i
  exact subTail hT hl hg e

theorem swaps_list (elts : List Expr) (p : Pos) (t : Option Expr) (l : Nat) (env : Env) : swapsWith (.List elts p) t l env = pure false := rfl
theorem swaps_binop (x y : Expr) (op : Operator) (p : Pos) (t : Option Expr) (l : Nat) (env : Env) : swapsWith (.BinOp x op y p) t l env = pure false := rfl
theorem swaps_call (f : Expr) (as : List Expr) (ks : List Keyword) (p : Pos) (t : Option Expr) (l : Nat) (env : Env) : swapsWith (.Call f as ks p) t l env = pure false := rfl
theorem swaps_sub (x y : Expr) (p : Pos) (t : Option Expr) (l : Nat) (env : Env) : swapsWith (.Subscript x y p) t l env = pure false := rfl
theorem swaps_if (x y z : Expr) (p : Pos) (t : Option Expr) (l : Nat) (env : Env) : swapsWith (.IfExp x y z p) t l env = pure false := rfl

/-- law_operatorsu_ -/
theorem ops_spec {Q : Value → Shared → Prop} (B : Base C mg mb) (D : DefAt C a (theDef 63)) (Rm : Room A (k + 1)) (S : St C h₀ L loc R s) (h : ∀ O s', St C h₀ L loc ((O, .list (OPS.map sP)) :: R) s' → Q (.ref O) s') :
    wpAny (model C.prog C.w) A (call (.ref a) []) Q E s := by
  refine call_def [] (ps := []) B D Rm S trivial (fun fd e1 e2 e3 => ?_) rfl (by decide +kernel) (fun L' q cd s₁ _ Rm' S₁ => ?_)
  · obtain ⟨n, qn, ps, bd, sc, gl, cl, df, kd⟩ := fd
    dsimp only at e1 e2 e3
    subst e1 e2 e3
    rfl
  · change St C h₀ L' [] ((L, .ns loc) :: R) s₁ at S₁
    refine wpAny_execs_cons ?_
    refine wpAny_Assign_Name ?_ ?_
    rotate_left
    · exact swaps_list _ _ _ _ _
    refine @r_listT C h₀ L' [] _ s₁ _ _ _ _ _ ops1 _ (by decide +kernel) S₁ (by decide) fun D1 s₂ S₂ => ?_
    refine stloc (p := .ref D1) S₂ rfl fun s₃ S₃ => ?_
    refine wpAny_execs_cons ?_
    refine wpAny_Assign_Name ?_ ?_
    rotate_left
    · exact swaps_binop _ _ _ _ _ _ _
    refine wpAny_BinOp ?_
    refine nm_r S₃ rfl ?_
    refine @r_listT C h₀ L' _ _ s₃ _ _ _ _ _ ops2 _ (by decide +kernel) S₃ (by decide) fun D2 s₄ S₄ => ?_
    refine r_addl S₄ (S₄.getOK (List.mem_cons_of_mem _ (List.mem_cons_self ..))) (S₄.getOK (List.mem_cons_self ..)) (by decide) fun D3 s₅ S₅ => ?_
    refine stloc (p := .ref D3) S₅ rfl fun s₆ S₆ => ?_
    rw [← List.map_append] at S₆
    refine wpAny_execs_cons (wpAny_Return_some (wpAny_BinOp (nm_r S₆ rfl (wpAny_List (wpAny_items_cons (c_t [64] S₆ fun t1 s₇ S₇ => wpAny_items_cons (c_t [64, 61] S₇ fun t2 s₈ S₈ => wpAny_items_cons (c_t [45, 62] S₈ fun t3 s₉ S₉ => wpAny_items_cons (c_t [46, 46, 46] S₉ fun t4 s₁₀ S₁₀ =>
      wpAny_items_cons (wpAny_BinOp (c_t [58] S₁₀ fun t5 s₁₁ S₁₁ => c_t [61] S₁₁ fun t6 s₁₂ S₁₂ => r_cat S₁₂ (by decide) fun t7 s₁₃ S₁₃ => wpAny_items_cons (c_t [33] S₁₃ fun t8 s₁₄ S₁₄ => wpAny_items_nil ⟨by rw [sizeT]; simp, ?_⟩))))))))))))
    have hv : VRs s₁₄.heap (ops3.map sP) [.str (toS [64]) t1, .str (toS [64, 61]) t2, .str (toS [45, 62]) t3, .str (toS [46, 46, 46]) t4, .str (toS ([58] ++ [61])) t7, .str (toS [33]) t8] :=
      ⟨.str _ _, .str _ _, .str _ _, .str _ _, .str _ _, .str _ _, trivial⟩
    have S₁₅ := S₁₄.newList hv
    refine r_addl S₁₅ (S₁₅.getOK (List.mem_cons_of_mem _ (List.mem_cons_self ..))) (S₁₅.getOK (List.mem_cons_self ..)) (by decide) fun D4 s₁₅ S₁₆ => ?_
    rw [← List.map_append] at S₁₆
    exact h D4 _ ((St.back (X := []) (S₁₆.pull 5 rfl)).sub (.cons_cons _ (.cons _ (.cons _ (.cons _ (List.sublist_cons_self ..))))))

/-- ISNONTERMINAL -/
theorem isn_spec {x : Int} {t tn : Tok} {Q : Value → Shared → Prop} (B : Base C mg mb) (hnt : mg "NT_OFFSET" = some (.int 256 tn)) (D : DefAt C a (theDef 61)) (Rm : Room A (k + 1)) (S : St C h₀ L loc R s) (h : ∀ s', St C h₀ L loc R s' → Q (.bool (decide (x ≥ 256))) s') :
    wpAny (model C.prog C.w) A (call (.ref a) [.int x t]) Q E s := by
  refine call_def ["x"] (ps := [iP x]) B D Rm S ⟨.int _ _, trivial⟩ (fun fd e1 e2 e3 => ?_) rfl (by decide +kernel) (fun L' q cd s₁ _ Rm' S₁ => ?_)
  · obtain ⟨n, qn, ps, bd, sc, gl, cl, df, kd⟩ := fd
    dsimp only at e1 e2 e3
    subst e1 e2 e3
    rfl
  · replace S₁ := S₁.weaken (loc' := [("x", iP x)]) ⟨by rfl, trivial⟩
    change St C h₀ L' _ ((L, .ns loc) :: R) s₁ at S₁
    refine wpAny_execs_cons (wpAny_Return_some (wpAny_Compare1 (nm_i S₁ rfl fun t1 => nm_g B S₁ hnt (PyProof.Rows.ge_int (h _ (St.back (X := []) S₁)))) (by rfl)))

inductive LappK (C : Cfg) (ra : Addr) (Q : Flow → Shared → Prop) (v : Value) (s₁ : Shared) : Prop
  | mk (pv : PV) (h₀ : Heap) (L : Addr) (loc : List (Str × PV)) (R : List (Addr × AO)) (i : Nat) (l : List PV)
    (e0 : VR s₁.heap pv v)
    (e1 : St C h₀ L loc R s₁)
    (e2 : R[i]? = some (ra, .list l))
    (e3 : l.length ≤ 100000)
    (e4 : ∀ s', St C h₀ L loc (R.set i (ra, .list (l ++ [pv]))) s' → Q .next s') : LappK C ra Q v s₁

/-- l.append(e) -/
theorem r_lapp {x : Str} {p1 p2 pos pos' : Pos} {e : Expr} {ra : Addr} {l0 : List PV} {Q : Flow → Shared → Prop}
    (S : St C h₀ env.locals loc R s) (hm : (ra, AO.list l0) ∈ R) (hx : loc.lookup x = some (.ref ra))
    (h : wpAny (model C.prog C.w) A (eval e env) (LappK C ra Q) E s)
    (hbase : autoParam (attributeBase (.Name x p1) "append" env (eval (.Name x p1) env) = eval (.Name x p1) env) rflT)
    (hfew : ((backTo pos (starEach [e] env)).all (fun x => !x.1) && (backToKw pos (keywordEach [] env)).all (fun x => x.1.isSome)
      && decide ([e].length + ([] : List Keyword).length + (if ([] : List Keyword).isEmpty then 0 else 1) < 30)) = true := by rfl)
    (hline : autoParam ((p2.endLine == pos.line) = true) rflT) (he : autoParam (starEach [e] env = (false, eval e env) :: starEach [] env) rflT) (hpl : autoParam ((backTo pos (starEach [e] env)).any (·.1) = false) rflT)
    (hk : autoParam (env.scope.kind = .function) rflT) (hl : autoParam (env.kindOf x = some .local) rflT) (hd : autoParam ((x == ("__debug__" : Str)) = false) decT) (hi : autoParam (interactive env = false) rflT) :
    wpAny (model C.prog C.w) A (exec (.Expr (.Call (.Attribute (.Name x p1) "append" p2) [e] [] pos) pos') env) Q E s := by
  obtain ⟨zs, ⟨n1, hzs⟩, _⟩ := S.getOK hm
  refine wpAny_Expr_any (wpAny_Call_method (T := "list") (id := "list.append") hbase hfew hline F.plainAttrs_list F.slot_list_append F.type_list_append ?_) hi
  refine nm_r S hx ⟨⟨_, hzs, rfl⟩, fun _ e => by cases e; exact ⟨_, hzs, rfl⟩, callWith_bi (wpAny_items_cons (wpAny_mono h (fun v s₁ q => ?_) fun _ _ q => q) he) he hpl⟩ hk hl hd
  obtain ⟨pv, h₀, L, loc, R, i, l, hv, S₁, ei, hz, hQ⟩ := q
  exact wpAny_items_nil (call_append (i := i) (l := l) (pv := pv) S₁ hv ei (by lia) fun s₂ S₂ => hQ s₂ S₂)
end
end Mine

namespace Mine

open PySem PySem.W PyProof.Rows PySem.Calls

/-- what law itself reaches -/
structure Lx (C : Cfg) (mg mb : Str → Option Value) (pl ea : Addr) : Prop extends Lw C mg mb pl where
  sum : mg "sum" = none ∧ mb "sum" = some (.builtin "sum")
  zip : mg "zip" = none ∧ mb "zip" = some (.type "zip")
  range : mg "range" = none ∧ mb "range" = some (.type "range")
  int : mg "int" = none ∧ mb "int" = some (.type "int")
  ops : ∃ a, mg "_law_operators" = some (.ref a) ∧ DefAt C a (theDef 63)
  isn : ∃ a, mg "ISNONTERMINAL" = some (.ref a) ∧ DefAt C a (theDef 61)
  nt : ∃ t, mg "NT_OFFSET" = some (.int 256 t)
  ett : mg "EXACT_TOKEN_TYPES" = some (.ref ea)
  hang : ∃ a, mg "_law_hanging" = some (.ref a) ∧ DefAt C a (theDef 67)
  fing : ∃ a, mg "_law_fingers" = some (.ref a) ∧ DefAt C a (theDef 68)

noncomputable abbrev lawSt (i : Nat) : Stmt := ((bodyOf (theDef 69))[i]?).getD (.Pass ⟨0, 0, 0, 0⟩)
noncomputable abbrev lawEnv (L : Addr) (q : Str) (a : Addr) (cd : Value) : Env := fnEnv (theDef 69) L q a cd
noncomputable abbrev cR (L : Addr) (own size pair texts code back first : Option PV) (X : List (Addr × AO)) : List (Addr × AO) :=
  (L + 7, .cell first) :: (L + 6, .cell back) :: (L + 5, .cell code) :: (L + 4, .cell texts) :: (L + 3, .cell pair) :: (L + 2, .cell size) :: (L + 1, .cell own) :: X
noncomputable abbrev cLoc (sa ca : Addr) : List (Str × PV) := [("script", .ref sa), ("cells", .ref ca)]
noncomputable def STARTS : List Int := [9, 5, 0, 3, 4, 13]
noncomputable def SIZES : List Int := [48, 47, 14, 14, 14, 14]
noncomputable def FlatR (R : List (Addr × AO)) : Prop := ∀ p ∈ R, p.2.Flat
theorem FlatR.cons {a : Addr} {x : AO} {R : List (Addr × AO)} (h : x.Flat) (r : FlatR R) : FlatR ((a, x) :: R) := fun p hp => by
  rcases List.mem_cons.mp hp with e | e
  · rw [e]; exact h
  · exact r p e
theorem flatInts (l : List Int) : (AO.list (l.map iP)).Flat := .list fun p hp => by
  obtain ⟨n, _, rfl⟩ := List.mem_map.mp hp; exact .int n
theorem flatTexts (l : List T) : (AO.list (l.map sP)).Flat := .list fun p hp => by
  obtain ⟨n, _, rfl⟩ := List.mem_map.mp hp; exact .str _
noncomputable def FlatO : Option PV → Prop
  | none => True
  | some p => p.Flat
theorem flatCell {o : Option PV} (h : FlatO o) : (AO.cell o).Flat := by
  cases o with
  | none => exact .cell0
  | some p => exact .cell h
theorem FlatR.cR {L : Addr} {own size pair texts code back first : Option PV} {X : List (Addr × AO)} (h1 : FlatO own) (h2 : FlatO size) (h3 : FlatO pair) (h4 : FlatO texts) (h5 : FlatO code) (h6 : FlatO back) (h7 : FlatO first) (hX : FlatR X) : FlatR (Mine.cR L own size pair texts code back first X) :=
  .cons (flatCell h7) (.cons (flatCell h6) (.cons (flatCell h5) (.cons (flatCell h4) (.cons (flatCell h3) (.cons (flatCell h2) (.cons (flatCell h1) hX))))))
theorem fmod_bound (x : Int) {m : Int} (h : 0 < m) : 0 ≤ x.fmod m ∧ x.fmod m < m := by
  rw [Int.fmod_eq_emod_of_nonneg _ (by lia)]
  exact ⟨Int.emod_nonneg _ (by lia), Int.emod_lt_of_pos _ h⟩

section
variable {C : Cfg} {h₀ : Heap} {L : Addr} {loc : List (Str × PV)} {R X : List (Addr × AO)} {s : Shared} {A : Around} {E : Value → Shared → Prop} {mg mb : Str → Option Value} {a pl ea sa oa : Addr} {k : Nat} {q : Str} {cd : Value}

set_option maxHeartbeats 2000000 in
/-- for k, start, size in zip(..): cells.append(..) -/
theorem seg_cells {items : Array Value} {ns : List Int} {ca : Addr} {Q : Flow → Shared → Prop} (Z : Lx C mg mb pl ea) (hh : A.handled = none) (hs : C.top.IsList sa items) (hi : IntsAre items.toList ns) (hz : ns.length ≤ 63)
    (S : St C h₀ L (cLoc sa ca) ((ca, .list []) :: cR L (some (.ref oa)) none none none none none none X) s) (FX : FlatR X)
    (h : ∀ (cs : List Int) sz s', cs.length = 6 → (∀ j c, cs[j]? = some c → 0 ≤ c ∧ c < SIZES.getD j 0) → St C h₀ L (cLoc sa ca) ((ca, .list (cs.map iP)) :: cR L (some (.ref oa)) sz none none none none none X) s' → Q .next s') :
    wpAny (model C.prog C.w) A (exec (lawSt 2) (lawEnv L q a cd)) Q E s := by
  have B := Z.base
  let en : Env := lawEnv L q a cd
  show wpAny _ A (exec (.For (.Tuple _ _ _) _ _ [] _) en) Q E s
  refine r_for_zip3 hh ?_ (by rfl)
  refine r_bt B S Z.zip (wpAny_items_cons (r_bt B S Z.range (wpAny_items_cons (c_i S fun t1 s₁ S₁ => wpAny_items_nil (call_range_1 ?_)))))
  have S₂ := (S₁.pushed (x := .raw { cls := .type "range", data := .fields #[.int 0 s₁.toks, .int 6 t1, .int 1 (s₁.toks + 1)] }) (o := { cls := .type "range", data := .fields #[.int 0 s₁.toks, .int 6 t1, .int 1 (s₁.toks + 1)] }) ⟨Heap.get?_push_size _ rfl, by simp⟩).tok (s₁.toks + 1 + 1)
  generalize s₁.heap.objs.size = ra at S₂ ⊢
  refine wpAny_items_cons (r_listI (ls := STARTS) (by decide +kernel) S₂ (by decide) fun l2 s₃ S₃ => wpAny_items_cons (r_listI (ls := SIZES) (by decide +kernel) S₃ (by decide) fun l3 s₄ S₄ => wpAny_items_nil ?_))
  have hr : IsRange s₄.heap ra 0 6 1 s₁.toks t1 (s₁.toks + 1) := (S₄.getOK (List.mem_cons_of_mem _ (List.mem_cons_of_mem _ (List.mem_cons_self ..)))).1
  obtain ⟨O3, S₅⟩ := S₄.pin 0 rfl
  obtain ⟨O2, S₆⟩ := S₅.pin 1 rfl
  let p3 : Addr × AO := (l3, .pin O3 (.list (SIZES.map iP)))
  let p2 : Addr × AO := (l2, .pin O2 (.list (STARTS.map iP)))
  let lc : List (Str × PV) := cLoc sa ca
  have S₇ : St C h₀ L lc (p3 :: p2 :: (ca, .list ([].map iP)) :: cR L (some (.ref oa)) none none none none none none X) s₄ :=
    S₆.sub (.cons_cons _ (.cons_cons _ (List.sublist_cons_self ..)))
  obtain ⟨_, ys, ⟨n3, hy⟩, hvy⟩ := S₇.getOK (List.mem_cons_self ..)
  obtain ⟨_, xs, ⟨n2, hx⟩, hvx⟩ := S₇.getOK (List.mem_cons_of_mem _ (List.mem_cons_self ..))
  have hxs : xs.size = 6 := by have := hvx.length; simp [STARTS] at this; lia
  have hys : ys.size = 6 := by have := hvy.length; simp [SIZES] at this; lia
  have hlt : ∀ b ∈ l3 :: l2 :: ca :: (cR L (some (.ref oa)) none none none none none none X).map (·.1), b < s₄.heap.objs.size := fun b hb => by
    have : b ∈ (p3 :: p2 :: (ca, .list ([].map iP)) :: cR L (some (.ref oa)) none none none none none none X).map (·.1) := hb
    obtain ⟨p, hp, rfl⟩ := List.mem_map.mp this
    exact S₇.lt hp
  refine call_zip3 hr ⟨_, hx, rfl, _, rfl⟩ ⟨_, hy, rfl, _, rfl⟩ fun h' hZ hk => ?_
  have S₈ := S₇.re.keeps' hk
  have hfr : ∀ b, s₄.heap.objs.size ≤ b → s₄.heap.get? b = none := fun b hb => Heap.get?_none_of_le hb
  refine ⟨s₄.heap.objs.size, l2, l3, STARTS.map iP, SIZES.map iP, O2, O3, xs, ys, s₄.heap, _, _, fun i loc' R' => ∃ (cs : List Int) (sz : Option PV), FlatO sz ∧ cs.length = i ∧ (∀ j c, cs[j]? = some c → 0 ≤ c ∧ c < SIZES.getD j 0) ∧ loc' = lc ∧
      R' = p3 :: p2 :: (ca, .list (cs.map iP)) :: cR L (some (.ref oa)) sz none none none none none X,
    rfl, hZ, by lia, by lia, hvx.tk (TK.of_keeps hk), hvy.tk (TK.of_keeps hk), ?_, ?_, S₈, ⟨[], none, trivial, rfl, fun j c e => by simp at e, rfl, rfl⟩, ?_, ?_, ?_⟩
  · intro p hp; obtain ⟨n, _, rfl⟩ := List.mem_map.mp hp; exact .int n
  · intro p hp; obtain ⟨n, _, rfl⟩ := List.mem_map.mp hp; exact .int n
  · rintro i _ _ ⟨cs, sz, hsz, _, _, rfl, rfl⟩
    refine ⟨⟨fun x p e => ?_, ?_, fun p hp => hlt _ (List.mem_map_of_mem (f := (·.1)) hp), S₇.loc.lt, hfr, fun b hb => ?_⟩, List.mem_cons_of_mem _ (List.mem_cons_self ..), List.mem_cons_self ..⟩
    · rw [List.lookup_cons] at e
      split at e
      · cases e; exact .ref _
      · rw [List.lookup_cons] at e
        split at e
        · cases e; exact .ref _
        · cases e
    · exact FlatR.cons (.pin (flatInts _)) (FlatR.cons (.pin (flatInts _)) (FlatR.cons (flatInts _) (FlatR.cR (.ref _) hsz trivial trivial trivial trivial trivial FX)))
    · cases q : C.top.get? b with
      | none => rfl
      | some o => have := S₇.top b o q; rw [hfr b hb] at this; cases this
  · intro h₁ i oz o1 o2 o3 t y z lx Rx s₅ tk hi6 hy' hz' hI1 S₉
    refine cutQ fun Q₁ hQ₁ => ?_
    obtain ⟨cs, sz, hsz, hlen, hb, rfl, rfl⟩ := hI1
    obtain ⟨st, hst⟩ : ∃ st, STARTS[i]? = some st := ⟨_, List.getElem?_eq_getElem (show i < STARTS.length from hi6)⟩
    obtain ⟨m, hm⟩ : ∃ m, SIZES[i]? = some m := ⟨_, List.getElem?_eq_getElem (show i < SIZES.length from hi6)⟩
    have hmpos : 0 < m := by
      have : ∀ m ∈ SIZES, 0 < m := by decide
      exact this m (List.mem_of_getElem? hm)
    have e2 : (STARTS.map iP).getD i .n = iP st := by rw [List.getD_eq_getElem?_getD, List.getElem?_map, hst]; rfl
    have e3 : (SIZES.map iP).getD i .n = iP m := by rw [List.getD_eq_getElem?_getD, List.getElem?_map, hm]; rfl
    rw [e2] at hy'
    rw [e3] at hz'
    obtain ⟨t2, rfl⟩ := vr_int hy'
    obtain ⟨t3, rfl⟩ := vr_int hz'
    refine aio_cons (wpAny_assign_Name (stloc (p := iP (i : Int)) S₉ (.int _ _) fun s₆ S₁₀ => aio_cons (wpAny_assign_Name (stloc (p := iP st) S₁₀ (.int _ _) fun s₇ S₁₁ => aio_cons (wpAny_assign_Name ?_)))))
    refine stcellAt (c := L + 2) (p := iP m) S₁₁ 12 rfl (.int _ _) (fun s₈ S₁₂ => aio_nil (hQ₁ () _ (cutQ fun Q₂ hQ₂ => ?_))) (by rfl)
    change St C h₁ L (("start", iP st) :: ("k", iP (i : Int)) :: lc) (zR s₄.heap.objs.size oz o1 o2 o3 (p3 :: p2 :: (ca, .list (cs.map iP)) :: cR L (some (.ref oa)) (some (iP m)) none none none none none X)) s₈ at S₁₂
    let R₁ : List (Addr × AO) := zR s₄.heap.objs.size oz o1 o2 o3 (p3 :: p2 :: (ca, .list (cs.map iP)) :: cR L (some (.ref oa)) (some (iP m)) none none none none none X)
    let l₁ : List (Str × PV) := ("start", iP st) :: ("k", iP (i : Int)) :: lc
    change St C h₁ L l₁ R₁ _ at S₁₂
    refine wpAny_execs_cons (r_lapp (ra := ca) (l0 := cs.map iP) S₁₂ (List.mem_of_getElem? (i := 6) rfl) rfl (wpAny_BinOp (wpAny_BinOp (nm_i S₁₂ rfl fun t4 => ?_))))
    refine r_bi B S₁₂ Z.sum (wpAny_items_cons ?_)
    refine r_listcomp (cl := [(("size" : Str), L + 2)]) (by rfl) (by decide) rfl (by decide) (by rfl) (r_lslice (r_lslice (nm_r S₁₂ rfl ⟨sa, rfl, evalPart_none_step (evalPart_some_step (c_i S₁₂ fun t5 s₉ S₁₃ => evalPart_none_step ⟨ns, none, some 60, none, h₁, _, _, _, .none, .int _ _, .none, by simp, S₁₃, ⟨items, ?_, hi⟩, by lia, fun D1 s₁₀ S₁₄ => ?_⟩))⟩)))
    · obtain ⟨o, e, r⟩ := hs; exact ⟨o, S₁₃.top _ _ e, r⟩
    have hp1 := pickNums_len ns none (some 60) none
    generalize pickNums ns none (some 60) none = ns1 at S₁₄ hp1
    refine ⟨D1, rfl, evalPart_some_step (nm_i S₁₄ rfl fun t6 => evalPart_none_step (evalPart_some_step (c_i S₁₄ fun t7 s₁₁ S₁₅ => ⟨ns1, some (i : Int), none, some 6, h₁, _, _, _, .int _ _, .none, .int _ _, by simp, S₁₅, intList (S₁₅.getOK (List.mem_cons_self ..)), by lia, fun D2 s₁₂ S₁₆ => ?_⟩)))⟩
    have hp2 := pickNums_len ns1 (some (i : Int)) none (some 6)
    generalize pickNums ns1 (some (i : Int)) none (some 6) = ms at S₁₆ hp2
    obtain ⟨OD, S₁₇⟩ := S₁₆.pin 0 rfl
    refine wk_list hh S₁₇ (List.mem_cons_self ..) fun I oI s₁₃ S₁₈ WI => ?_
    refine ⟨I, (ms.map iP).length, _, oI, _, h₁, _, _, fun j => (ms.take j).map fun n => iP (n.fmod m), rfl, S₁₈, WI, ?_, by simp; lia, by simp, ?_, ?_, ?_⟩
    · intro p hp; rw [List.mem_singleton.mp hp]; exact List.mem_cons_self ..
    · intro j hj; (try dsimp only); rw [List.length_map, List.length_take]; lia
    · intro j Cc D' oj s₁₄ hj S₁₉
      rw [List.length_map] at hj
      obtain ⟨n, hn⟩ : ∃ n, ms[j]? = some n := ⟨_, List.getElem?_eq_getElem hj⟩
      have en : (ms.map iP).getD j .n = iP n := by rw [List.getD_eq_getElem?_getD, List.getElem?_map, hn]; rfl
      try dsimp only at S₁₉ ⊢
      rw [en] at S₁₉ ⊢
      refine tests_nil ?_
      refine ifY rfl ?_
      refine wpAny_BinOp (nm_i S₁₉ rfl (fun t8 => nm_cell (c := L + 2) (p := iP m) S₁₉ (List.mem_of_getElem? (i := 17) rfl) (fun v hv => ?_) (by rfl) (by rfl) (by rfl)) (by rfl) (by rfl))
      obtain ⟨t9, rfl⟩ := vr_int hv
      refine r_mod S₁₉ (by lia) fun t10 s₁₅ S₂₀ => ⟨iP (n.fmod m), .int _ _, ?_, S₂₀⟩
      have htk : ms.take (j + 1) = ms.take j ++ [n] := by
        rw [List.take_succ_eq_append_getElem hj, (List.getElem?_eq_some_iff.mp hn).2]
      rw [htk, List.map_append]; rfl
    · intro D3 s₁₄ S₁₉
      try dsimp only at S₁₉
      have e4 : (ms.take (ms.map iP).length).map (fun n => iP (n.fmod m)) = (ms.map fun n => n.fmod m).map iP := by
        rw [List.length_map, List.take_length, List.map_map]; rfl
      rw [e4] at S₁₉
      refine wpAny_items_nil (call_sumI hh S₁₉ (List.mem_cons_self ..) fun total t8 s₁₅ S₂₀ => r_add S₂₀ fun t9 s₁₆ S₂₁ => ?_)
      have S₂₂ : St C h₁ L l₁ R₁ s₁₆ := S₂₁.drop.drop.drop
      refine nm_cell (c := L + 2) (p := iP m) S₂₂ (List.mem_of_getElem? (i := 12) rfl) (fun v hv => ?_) (by rfl)
      obtain ⟨t10, rfl⟩ := vr_int hv
      refine r_mod S₂₂ (by lia) fun t11 s₁₇ S₂₃ => ⟨iP ((st + total).fmod m), h₁, L, _, _, 6, cs.map iP, .int _ _, S₂₃, rfl, by rw [List.length_map]; lia, fun s₁₈ S₂₄ => wpAny_execs_nil ?_⟩
      rw [show cs.map iP ++ [iP ((st + total).fmod m)] = (cs ++ [(st + total).fmod m]).map iP by rw [List.map_append]; rfl] at S₂₄
      refine hQ₂ .next _ ⟨_, _, ⟨cs ++ [(st + total).fmod m], some (iP m), .int _, by simp [hlen], fun j c e => ?_, rfl, rfl⟩, (S₂₄.weaken (loc' := lc) ⟨by rfl, by rfl, trivial⟩)⟩
      rw [List.getElem?_append] at e
      split at e
      · exact hb j c e
      · rename_i hj
        have hji : j = i := by
          have := (List.getElem?_eq_some_iff.mp e).1
          simp at this; lia
        subst hji
        rw [hlen, Nat.sub_self] at e
        cases e
        rw [List.getD_eq_getElem?_getD, hm]
        exact fmod_bound _ hmpos
  · rintro _ _ s₅ ⟨cs, sz, hsz, hlen, hb, rfl, rfl⟩ S₉
    exact h cs sz s₅ hlen hb (S₉.un S₇.tk).drop.drop
end
end Mine

namespace Mine

open PySem PySem.W PyProof.Rows PySem.Calls

section
variable {C : Cfg} {h₀ : Heap} {L : Addr} {loc : List (Str × PV)} {R X : List (Addr × AO)} {s : Shared} {A : Around} {E : Value → Shared → Prop} {mg mb : Str → Option Value} {env : Env}

theorem compTurn_one (kx vx t1 i1 : Expr) (ifs : List Expr) (scope : Scope) (pos : Pos) (it : Value) (D : Addr) (env : Env) :
    compTurn (.DictComp kx vx [⟨t1, i1, ifs, 0⟩] scope pos) 0 it (.ref D) env = (do
      standAt i1.pos
      match ← pyNext it with
      | none => pure (.done .next)
      | some v =>
        letOwnedTupleGo t1 it v
        assign t1 env v
        let mut ok := true
        for c in ifs do
          if ok then ok ← isTrue c env (eval c env)
        if ok then
          (do
            let kv ← eval kx env
            let vv ← holding [kv] (eval vx env)
            standAt { kx.pos with endLine := vx.pos.endLine, endCol := vx.pos.endCol }
            holding [kv, vv] (dictSet D kv vv))
        again (.compLoop (.DictComp kx vx [⟨t1, i1, ifs, 0⟩] scope pos) 0 it (.ref D) env)) := by rfl

inductive DictCompIK (C : Cfg) (A : Around) (env : Env) (x : Str) (kx : Expr) (vx : Expr) (scope : Scope) (cl : List (Str × Addr)) (Q : Value → Shared → Prop) (it : Value) (s₂ : Shared) : Prop
  | mk (I : Addr) (n : Nat) (item : Nat → PV) (o₀ : Obj) (K : List (Addr × AO)) (h₀ : Heap) (loc : List (Str × PV)) (R : List (Addr × AO)) (acc : Nat → List (Int × PV))
    (e0 : it = .ref I)
    (e1 : St C h₀ env.locals loc ((I, .raw o₀) :: R) s₂)
    (e2 : Wk C A I n item s₂.heap K)
    (e3 : (∀ p ∈ K, p ∈ R))
    (e4 : acc 0 = [])
    (e5 : (∀ j, (acc j).length ≤ 1000000))
    (e6 : (∀ h₁ i Cc D o s', i < n → St C h₁ Cc [(x, item i)] ((I, .raw o) :: (D, .idict (acc i)) :: (env.locals, .ns loc) :: R) s' →
        wpAny (model C.prog C.w) A (eval kx (compEnvC scope cl Cc env)) (fun kv s₄ => wpAny (model C.prog C.w) A (eval vx (compEnvC scope cl Cc env)) (fun vv s₅ => ∃ key t pv, kv = .int key t ∧ VR s₅.heap pv vv ∧ acc (i + 1) = dset (acc i) key pv ∧
          St C h₁ Cc [(x, item i)] ((I, .raw o) :: (D, .idict (acc i)) :: (env.locals, .ns loc) :: R) s₅) (fun _ _ => False) s₄) (fun _ _ => False) s'))
    (e7 : (∀ D s', St C h₀ env.locals loc ((D, .idict (acc n)) :: R) s' → Q (.ref D) s')) : DictCompIK C A env x kx vx scope cl Q it s₂

/-- {k: v for x in ..}, the keys ints -/
theorem r_dictcompI {kx vx iter : Expr} {x : Str} {px : Pos} {scope : Scope} {cl : List (Str × Addr)} {pos : Pos} {Q : Value → Shared → Prop}
    (hclos : closureFor scope env = pure cl) (hcell : ∀ y ∈ scope.names, y.2 ≠ .cell) (hkind : scope.kind = .function)
    (hnames : ∀ y ∈ scope.names, y.2 = .local → scope.names.lookup y.1 = some .local) (hx : scope.names.lookup x = some .local)
    (h : wpAny (model C.prog C.w) A (eval iter env) (fun xv s₁ => wpAny (model C.prog C.w) A (pyIter xv) (DictCompIK C A env x kx vx scope cl Q) E s₁) E s)
    (hs : ∀ x, foldedSetIterable iter env x = pure x := by intro _; rfl) :
    wpAny (model C.prog C.w) A (eval (.DictComp kx vx [⟨.Name x px, iter, [], 0⟩] scope pos) env) Q E s := by
  show wpAny _ A (comprehension (.DictComp kx vx [⟨.Name x px, iter, [], 0⟩] scope pos) scope env (firstIterPos [⟨.Name x px, iter, [], 0⟩] pos) newDict (firstAsync [⟨.Name x px, iter, [], 0⟩]) (firstIter [⟨.Name x px, iter, [], 0⟩] env)) _ _ _
  refine wpAny_comprehension_free (use := none) rfl hs hclos hkind hnames (wpAny_mono h (fun xv s₁ h₁ => wpAny_mono h₁ (fun it s₂ h₂ => ?_) fun _ _ e => e) fun _ _ e => e)
  obtain ⟨I, n, item, o₀, K, h₀, loc, R, acc, rfl, S, W, hK, ha0, hal, turn, hQ⟩ := h₂
  refine wpAny_newObj_type (wpAny_newFunctionEnv hcell (by intro y hy; simp at hy) (fun h₁ hns₁ hsb₁ => ?_) hkind)
  have S1 := S.re.pushed (x := .idict []) (o := { cls := .type "dict", data := .dict #[] }) ⟨[], Heap.DictOf.new _, trivial⟩
  generalize hD : s₂.heap.objs.size = D at S1 ⊢
  have S2 := S1.enter (t := s₂.toks + ([] : List (Str × Value)).length) hns₁ hsb₁
  generalize hCc : (s₂.heap.push { cls := .type "dict", data := .dict #[] }).objs.size = Cc at S2 ⊢
  have keep : ∀ b o, s₂.heap.get? b = some o → h₁.get? b = some o := fun b o e => hsb₁.extBut b o (Nat.ne_of_lt (Nat.lt_trans (Heap.lt_size e) (by rw [Heap.size_push]; exact Nat.lt_succ_self _))) (Heap.get?_push_of_some _ (Heap.get?_push_of_some _ e))
  have hkx : (compEnvC scope cl Cc env).kindOf x = some .local := lookup_relabel_local hx
  have tk1 : TK s₂.heap h₁ := TK.of_keeps keep
  have W' : Wk C A I n item h₁ K := by
    obtain ⟨fp, Pv, Sti, W1, W2, W3, W4, W5⟩ := W.ex
    exact ⟨fp, Pv, Sti, W1, W2, W3, W1.frame _ _ _ W4 fun b _ o e => keep b o e, fun i v h' hv tk => W5 i v h' hv (tk1.trans tk)⟩
  have S3 : St C s₂.heap Cc [] ((I, .raw o₀) :: (D, .idict (acc 0)) :: (env.locals, .ns loc) :: R) { s₂ with heap := h₁, toks := s₂.toks + ([] : List (Str × Value)).length } := by
    rw [ha0]
    exact (S2.pull 2 rfl).perm ((List.Perm.swap _ _ _).cons _)
  have hfin : ∀ (s' : Shared) (l' : List (Str × PV)), St C s₂.heap Cc l' ((D, .idict (acc n)) :: (env.locals, .ns loc) :: R) s' → compPost (model C.prog C.w) A E none Q (.ref D) Cc (.ok .next) s' := fun s' l' S' => by
    have S4 := ((S'.perm (List.Perm.swap _ _ _)).swapFrame).un S.tk
    obtain ⟨m, hm⟩ := Ns_of (S4.ok _ (List.mem_cons_self ..))
    exact ⟨m, hm, fun h' hs' => hQ D _ (S4.lose (t := s'.toks) hs'.extBut)⟩
  have loop : codeAny (model C.prog C.w) A (.compLoop (.DictComp kx vx [⟨.Name x px, iter, [], 0⟩] scope pos) 0 (.ref I) (.ref D) (compEnvC scope cl Cc env)) (compPost (model C.prog C.w) A E none Q (.ref D) Cc) { s₂ with heap := h₁, toks := s₂.toks + ([] : List (Str × Value)).length } := by
    refine compl_core (target := .Name x px) (L := Cc) (cenv := compEnvC scope cl Cc env) (BW := fun P s => wpAny (model C.prog C.w) A (eval kx (compEnvC scope cl Cc env)) (fun kv s₄ => wpAny (model C.prog C.w) A (eval vx (compEnvC scope cl Cc env)) (fun vv s₅ =>
      wpAny (model C.prog C.w) A (dictSet D kv vv) (fun _ => P) (fun _ _ => False) s₅) (fun _ _ => False) s₄) (fun _ _ => False) s)
      (fun Q E s h => ?_) (fun P P' s hPP h => ?_) rfl rfl rfl S3 W' (fun i loc' R' => R' = (D, .idict (acc i)) :: (env.locals, .ns loc) :: R) rfl (fun i loc' R' hP p hp => ?_) (fun i v o loc' R' s' hi hv hP S' => ?_) (fun loc' R' s' hP S' => ?_)
    · rw [compTurn_one]
      refine wpAny_bind (wpAny_standAt (wpAny_bind (wpAny_mono h (fun r s₁ q => ?_) fun _ _ q => q)))
      cases r with
      | none => exact wpAny_pure q
      | some v =>
        refine wpAny_bind (wpAny_of_eq (show letOwnedTupleGo (.Name x px) (.ref I) v = pure () from rfl) ?_)
        refine wpAny_bind (wpAny_mono q (fun _ s₂ q => ?_) fun _ _ q => q)
        simp only [List.forIn_nil, pure_bind, if_true]
        exact wpAny_bind (wpAny_bind (wpAny_mono q (fun kv s₄ q => wpAny_bind (wpAny_holding (wpAny_mono q (fun vv s₅ q => wpAny_bind (wpAny_standAt (wpAny_holding (wpAny_mono q (fun _ s₆ q => wpAny_pure q) fun _ _ q => q.elim))) ) fun _ _ q => q.elim))) fun _ _ q => q.elim))
    · exact wpAny_mono h (fun kv s₄ q => wpAny_mono q (fun vv s₅ q => wpAny_mono q (fun _ s₆ q => hPP _ q) fun _ _ q => q) fun _ _ q => q) fun _ _ q => q
    · rw [hP]; exact List.mem_cons_of_mem _ (List.mem_cons_of_mem _ (hK p hp))
    · subst hP
      refine wpAny_assign_Name (stloc (env := compEnvC scope cl Cc env) (p := item i) S' hv (fun s₃ S₄ => ?_) hkind hkx)
      replace S₄ := S₄.weaken (loc' := [(x, item i)]) ⟨by simp, trivial⟩
      refine wpAny_mono (turn _ i Cc D o s₃ hi S₄) (fun kv s₄ q => wpAny_mono q (fun vv s₅ q => ?_) fun _ _ q => q) fun _ _ q => q
      obtain ⟨key, t, pv, rfl, hvv, hacc, S₅⟩ := q
      obtain ⟨kvs, hd, hr⟩ := S₅.getOK (List.mem_cons_of_mem _ (List.mem_cons_self ..))
      refine wpAny_dictSet_pairs (knd := intKind C.prog C.w) (k := key) (intKey _ _ _ _) hd (fun h' hd' hs => ?_) (by have := hal i; rw [hr.length, sizeT]; lia)
      refine ⟨[(x, item i)], _, rfl, ?_⟩
      rw [hacc]
      exact S₅.upd (t := s₅.toks + 1) (x' := .idict (dset (acc i) key pv)) 1 rfl hs.extBut fun k => ⟨_, hd', (hr.tk k).setI (hvv.tk k)⟩
    · rw [hP] at S'
      exact hfin s' loc' S'
  obtain ⟨fp, Pv, Sti, W1, _, _, W4, _⟩ := W'.ex
  exact codeAny_compStart_dict loop (W1.self 0 _ _ _ W4 loop)

variable {a pl ea sa oa pa ca : Addr} {k : Nat} {q : Str} {cd : Value}

/-- pair = [..] -/
theorem seg_pair {own sz : Option PV} {cs : List Int} {Q : Flow → Shared → Prop} (S : St C h₀ L (cLoc sa ca) ((ca, .list (cs.map iP)) :: cR L own sz none none none none none X) s) (hlen : cs.length = 6) (hb : ∀ j c, cs[j]? = some c → 0 ≤ c ∧ c < SIZES.getD j 0)
    (h : ∀ pa p0 p1 s', (0 ≤ p0 ∧ p0 < 48) → (0 ≤ p1 ∧ p1 < 48) → St C h₀ L (cLoc sa ca) ((pa, .list ([p0, p1].map iP)) :: (ca, .list (cs.map iP)) :: cR L own sz (some (.ref pa)) none none none none X) s' → Q .next s') :
    wpAny (model C.prog C.w) A (exec (lawSt 3) (lawEnv L q a cd)) Q E s := by
  obtain ⟨c0, e0⟩ : ∃ c, cs[0]? = some c := ⟨_, List.getElem?_eq_getElem (by lia)⟩
  obtain ⟨c1, e1⟩ : ∃ c, cs[1]? = some c := ⟨_, List.getElem?_eq_getElem (by lia)⟩
  have m0 : (cs.map iP)[0]? = some (iP c0) := by rw [List.getElem?_map, e0]; rfl
  have m1 : (cs.map iP)[1]? = some (iP c1) := by rw [List.getElem?_map, e1]; rfl
  have b0 := hb 0 c0 e0
  show wpAny _ A (exec (.Assign [.Name _ _] (.List _ _) _) _) Q E s
  refine wpAny_Assign_Name ?_ (swaps_list ..)
  refine wpAny_List (wpAny_items_cons (Subscript_Constant (nm_r S rfl (c_i S fun t1 s₁ S₁ => item_l (i := 0) S₁ (List.mem_cons_self ..) m0 (by lia) fun v hv => ?_))))
  obtain ⟨t2, rfl⟩ := vr_int hv
  refine wpAny_items_cons (wpAny_BinOp (wpAny_BinOp (wpAny_BinOp (Subscript_Constant (nm_r S₁ rfl (c_i S₁ fun t3 s₂ S₂ => item_l (i := 0) S₂ (List.mem_cons_self ..) m0 (by lia) fun v hv => ?_))))))
  obtain ⟨t4, rfl⟩ := vr_int hv
  refine c_i S₂ fun t5 s₃ S₃ => r_add S₃ fun t6 s₄ S₄ => Subscript_Constant (nm_r S₄ rfl (c_i S₄ fun t7 s₅ S₅ => item_l (i := 1) S₅ (List.mem_cons_self ..) m1 (by lia) fun v hv => ?_))
  obtain ⟨t8, rfl⟩ := vr_int hv
  refine r_add S₅ fun t9 s₆ S₆ => c_i S₆ fun t10 s₇ S₇ => r_mod S₇ (by decide) fun t11 s₈ S₈ => wpAny_items_nil ⟨sz2, ?_⟩
  have S₉ := S₈.newList (l := [c0, (c0 + 1 + c1).fmod 48].map iP) (vs := [.int c0 t2, .int ((c0 + 1 + c1).fmod 48) t11]) ⟨.int _ _, .int _ _, trivial⟩
  generalize s₈.heap.objs.size = pa at S₉ ⊢
  refine stcellAt (c := L + 3) (p := .ref pa) S₉ 6 rfl rfl (fun s₁₀ S₁₀ => ?_) (by rfl)
  exact h pa _ _ s₁₀ b0 (fmod_bound _ (by decide)) S₁₀

theorem tok_fresh : ∀ j, j < 48 → ((TOK.take j).map (·.2)).all (fun n => n != (TOK.getD j ([], 0)).2) = true := by decide +kernel
theorem dset_new {l : List (Int × PV)} {k : Int} {v : PV} (h : (l.map (·.1)).all (fun n => n != k) = true) : dset l k v = l ++ [(k, v)] := by
  unfold dset
  rw [if_neg]
  intro ha
  obtain ⟨x, hx, e⟩ := List.any_eq_true.mp ha
  have := List.all_eq_true.mp h x.1 (List.mem_map_of_mem (f := (·.1)) hx)
  have e2 : x.1 = k := of_decide_eq_true e
  rw [e2] at this
  simp at this
theorem tokPV_get {j : Nat} (h : j < 48) : ∃ x, TOK[j]? = some x ∧ dget tokPV (toS x.1) = some (iP x.2) := by
  have hl : j < TOK.length := h
  refine ⟨TOK[j], List.getElem?_eq_getElem hl, ?_⟩
  have e : tokPV = pvM iP TOK := rfl
  have hg : mget TOK TOK[j].1 = some TOK[j].2 := mget_of_mem (by decide +kernel) (List.getElem_mem hl)
  rw [e, dget_pvM, hg]
  rfl
/-- texts = {..} -/
theorem seg_texts {own sz pr : Option PV} {OE : Obj} {iE : Nat} {Q : Flow → Shared → Prop} (Z : Lx C mg mb pl ea) (hh : A.handled = none) (S : St C h₀ L (cLoc sa ca) (R ++ cR L own sz pr none none none none X) s) (hE : (ea, AO.pin OE (.dict tokPV)) ∈ X) (hR : R.length = iE)
    (h : ∀ ta s', St C h₀ L (cLoc sa ca) ((ta, .idict txtPV) :: R ++ cR L own sz pr (some (.ref ta)) none none none X) s' → Q .next s') :
    wpAny (model C.prog C.w) A (exec (lawSt 4) (lawEnv L q a cd)) Q E s := by
  have B := Z.base
  show wpAny _ A (exec (.Assign [.Name _ _] (.DictComp _ _ [⟨.Name _ _, _, [], 0⟩] _ _) _) _) Q E s
  refine wpAny_Assign_Name ?_ (by rfl)
  have hm : ∀ (P : List (Addr × AO)), (ea, AO.pin OE (.dict tokPV)) ∈ P ++ (R ++ cR L own sz pr none none none none X) := fun P => by simp [hE]
  refine r_dictcompI (cl := []) (by rfl) (by decide) rfl (by decide) (by rfl) (nm_g B S Z.ett (wk_dict hh Z.sys S (hm []) fun I oI s₁ S₁ WI => ?_))
  refine ⟨I, tokPV.length, _, oI, _, h₀, _, _, fun j => (TOK.take j).map fun x => (x.2, sP x.1), rfl, S₁, WI, ?_, rfl, ?_, ?_, ?_⟩
  · intro p hp; rw [List.mem_singleton.mp hp]; exact hm []
  · intro j; rw [List.length_map, List.length_take]; have : TOK.length = 48 := rfl; lia
  · intro h₁ j Cc D o s₂ hj S₂
    have hj' : j < 48 := hj
    obtain ⟨x, hx, hget⟩ := tokPV_get hj'
    have en : (tokPV.getD j (Str.empty, .n)).1 = toS x.1 := by rw [List.getD_eq_getElem?_getD, List.getElem?_map, hx]; rfl
    dsimp only at S₂ ⊢
    rw [en] at S₂ ⊢
    have hmE : ∀ (p1 p2 p3 : Addr × AO), (ea, AO.pin OE (.dict tokPV)) ∈ p1 :: p2 :: p3 :: (R ++ cR L own sz pr none none none none X) := fun p1 p2 p3 => hm [p1, p2, p3]
    refine Subscript_Name (nm_g B S₂ Z.ett (nm_s S₂ rfl (fun t1 => item_d S₂ (S₂.getOK (hmE _ _ _)).2 hget fun v s₃ hv S₃ => ?_) (by rfl) (by rfl)) (by rfl) (by rfl) (by rfl))
    obtain ⟨t2, rfl⟩ := vr_int hv
    refine nm_s S₃ rfl (fun t3 => ⟨x.2, t2, sP x.1, rfl, .str _ _, ?_, S₃⟩) (by rfl) (by rfl)
    have hfr := tok_fresh j hj'
    have eg : TOK.getD j ([], 0) = x := by rw [List.getD_eq_getElem?_getD, hx]; rfl
    rw [eg] at hfr
    rw [dset_new (by rw [List.map_map]; exact hfr)]
    have htk : TOK.take (j + 1) = TOK.take j ++ [x] := by
      rw [List.take_succ_eq_append_getElem (show j < TOK.length from hj'), (List.getElem?_eq_some_iff.mp hx).2]
    rw [htk, List.map_append]; rfl
  · intro D s₂ S₂
    have S₃ : St C h₀ L (cLoc sa ca) ((D, .idict txtPV) :: (R ++ cR L own sz pr none none none none X)) s₂ := S₂
    refine stcellAt (c := L + 4) (p := .ref D) S₃ (iE + 4) (show _ = some (L + 4, AO.cell none) by rw [← hR]; simp) rfl (fun s₄ S₄ => h D s₄ ?_) (by rfl)
    rw [← hR] at S₄
    have : ((D, AO.idict txtPV) :: (R ++ cR L own sz pr none none none none X)).set (R.length + 4) (L + 4, .cell (some (.ref D))) = (D, AO.idict txtPV) :: R ++ cR L own sz pr (some (.ref D)) none none none X := by
      simp [List.set_append]
    rw [this] at S₄
    exact S₄
end
end Mine

namespace Mine

open PySem PySem.W PyProof.Rows PySem.Calls

/-! ### a symbol's text -/
noncomputable def OPSat (p : Int) : T := OPS.getD p.toNat []
noncomputable def pairAt (p0 p1 e : Int) : Int := if e = 0 then p0 else p1
noncomputable def WT (p0 p1 : Int) (bs : List Int) : T := (bs.map fun b => OPSat (pairAt p0 p1 b)).flatten
noncomputable def bitsOf (c : Nat) : List Int := List.map (fun d : Nat => (d : Int) - 48) (CODES.getD c [])
noncomputable def bitv (c : Nat) (b : Int) : Int := (((c : Int) + 2).fdiv (2 ^ b.toNat)).fmod 2
noncomputable def bitL (c : Nat) : List Int := if c + 2 < 8 then [1, 0] else [2, 1, 0]
theorem bits_ok : ∀ c, c < 14 → 2 ≤ c → (bitL c).map (bitv c) = bitsOf c := by decide +kernel
theorem bits_01 : ∀ c, c < 14 → ∀ b ∈ bitsOf c, b = 0 ∨ b = 1 := by decide +kernel
theorem bits_len : ∀ c, c < 14 → (bitsOf c).length ≤ 3 ∧ bitsOf c ≠ [] := by decide +kernel
theorem bits_low : ∀ c, c < 2 → bitsOf c = [(c : Int)] := by decide +kernel
theorem codes_01 : ∀ c, c < 14 → ∀ d ∈ CODES.getD c [], d = 48 ∨ d = 49 := by decide +kernel
noncomputable def tget (k : Int) : Option T := (TOK.find? fun x => decide (x.2 = k)).map (·.1)
theorem txt_tget (k : Int) : dget txtPV k = (tget k).map sP := by
  unfold dget tget
  show Option.map _ (List.find? _ (TOK.map fun x => (x.2, sP x.1))) = _
  rw [List.find?_map, Option.map_map, Option.map_map]
  rfl
theorem tget_ops : ∀ n : Nat, n < 48 → tget (7 + (n : Int)) = some (OPS.getD n []) := by decide +kernel
theorem txt_get {p : Int} (h : 0 ≤ p ∧ p < 48) : dget txtPV (7 + p) = some (sP (OPSat p)) := by
  have e : p = (p.toNat : Int) := by lia
  rw [txt_tget]
  unfold OPSat
  conv => lhs; rw [e]
  rw [tget_ops _ (by lia)]; rfl
theorem ops_get {p : Int} (h : 0 ≤ p ∧ p < 48) : (OPS.map sP)[p.toNat]? = some (sP (OPSat p)) := by
  have hl : p.toNat < OPS.length := by show p.toNat < 48; lia
  rw [List.getElem?_map, List.getElem?_eq_getElem hl]
  unfold OPSat
  rw [List.getD_eq_getElem?_getD, List.getElem?_eq_getElem hl]; rfl
structure WGd (n : Nat) (w : T) : Prop where
  ne : w ≠ []
  len : w.length ≤ n
  signs : ∀ c ∈ w, c < 128 ∧ c ≠ 32
theorem ops_all : ∀ n, n < 48 → (OPS.getD n [] != []) = true ∧ (OPS.getD n []).length ≤ 3 ∧ (OPS.getD n []).all (fun c => decide (c < 128) && decide (c ≠ 32)) = true := by decide +kernel
theorem ops_good {p : Int} (h : 0 ≤ p ∧ p < 48) : WGd 3 (OPSat p) := by
  obtain ⟨h1, h2, h3⟩ := ops_all p.toNat (by lia)
  refine ⟨fun e => ?_, h2, fun c hc => ?_⟩
  · unfold OPSat at e; rw [e] at h1; simp at h1
  · have := List.all_eq_true.mp h3 c hc
    simpa using this
theorem pair_ok {p0 p1 e : Int} (h0 : 0 ≤ p0 ∧ p0 < 48) (h1 : 0 ≤ p1 ∧ p1 < 48) : 0 ≤ pairAt p0 p1 e ∧ pairAt p0 p1 e < 48 := by
  unfold pairAt; split <;> assumption
theorem wt_good {p0 p1 : Int} (h0 : 0 ≤ p0 ∧ p0 < 48) (h1 : 0 ≤ p1 ∧ p1 < 48) : ∀ (bs : List Int), (∀ c ∈ WT p0 p1 bs, c < 128 ∧ c ≠ 32) ∧ (WT p0 p1 bs).length ≤ 3 * bs.length ∧ (bs ≠ [] → WT p0 p1 bs ≠ [])
  | [] => ⟨fun c hc => (by cases hc), by simp [WT], fun h => absurd rfl h⟩
  | b :: r => by
    obtain ⟨i1, i2, i3⟩ := wt_good h0 h1 r
    have g := ops_good (pair_ok (e := b) h0 h1)
    have e : WT p0 p1 (b :: r) = OPSat (pairAt p0 p1 b) ++ WT p0 p1 r := rfl
    rw [e]
    refine ⟨fun c hc => ?_, ?_, fun _ q => g.ne (List.append_eq_nil_iff.mp q).1⟩
    · rcases List.mem_append.mp hc with q | q
      · exact g.signs c q
      · exact i1 c q
    · have := g.len
      rw [List.length_append, List.length_cons]; lia
theorem word_good {p0 p1 : Int} (h0 : 0 ≤ p0 ∧ p0 < 48) (h1 : 0 ≤ p1 ∧ p1 < 48) {c : Nat} (hc : c < 14) : WGd 9 (WT p0 p1 (bitsOf c)) := by
  obtain ⟨i1, i2, i3⟩ := wt_good h0 h1 (bitsOf c)
  obtain ⟨j1, j2⟩ := bits_len c hc
  exact ⟨i3 j2, by lia, i1⟩
theorem pair_get {p0 p1 e : Int} (h : e = 0 ∨ e = 1) : ([p0, p1].map iP)[e.toNat]? = some (iP (pairAt p0 p1 e)) := by
  rcases h with rfl | rfl <;> rfl
theorem bitv_01 (c : Nat) (b : Int) : bitv c b = 0 ∨ bitv c b = 1 := by
  have := fmod_bound (((c : Int) + 2).fdiv (2 ^ b.toNat)) (m := 2) (by decide)
  unfold bitv; lia

noncomputable def forBody : Stmt → List Stmt
  | .For _ _ b _ _ => b
  | _ => []
noncomputable abbrev loopSt (i : Nat) : Stmt := ((forBody (lawSt 7))[i]?).getD (.Pass ⟨0, 0, 0, 0⟩)
noncomputable abbrev lLoc (sa ca da wa ua : Addr) : List (Str × PV) := ("due", .ref ua) :: ("words", .ref wa) :: ("codes", .ref da) :: cLoc sa ca
noncomputable abbrev YR (L oa ua wa da ta pa ca : Addr) (ws : List T) (p0 p1 : Int) (cs : List Int) (sz code : Option PV) (X : List (Addr × AO)) : List (Addr × AO) :=
  (ua, .list (ws.map sP)) :: (wa, .list (ws.map sP)) :: (da, .list (CODES.map sP)) :: (ta, .idict txtPV) :: (pa, .list ([p0, p1].map iP)) :: (ca, .list (cs.map iP)) :: cR L (some (.ref oa)) sz (some (.ref pa)) (some (.ref ta)) code none none X

section
variable {C : Cfg} {h₀ : Heap} {L : Addr} {loc : List (Str × PV)} {R X : List (Addr × AO)} {s : Shared} {A : Around} {E : Value → Shared → Prop} {mg mb : Str → Option Value} {env : Env} {a pl ea sa oa pa ca da ta wa ua : Addr} {k : Nat} {q : Str} {cd : Value}

set_option maxHeartbeats 2000000 in
/-- symbol = ..; word = .. -/
theorem seg_word {c : Nat} {p0 p1 : Int} {ws : List T} {cs : List Int} {sz code : Option PV} {x1 x2 : Addr × AO} {rest : List Stmt} {Q : Flow → Shared → Prop} (Z : Lx C mg mb pl ea) (Rm : Room A (k + 2)) (hc : c < 14) (h0 : 0 ≤ p0 ∧ p0 < 48) (h1 : 0 ≤ p1 ∧ p1 < 48)
    (S : St C h₀ L (("cell", iP (c : Int)) :: lLoc sa ca da wa ua) (x1 :: x2 :: YR L oa ua wa da ta pa ca ws p0 p1 cs sz code X) s)
    (h : ∀ code' s', St C h₀ L (("word", sP (WT p0 p1 (bitsOf c))) :: ("cell", iP (c : Int)) :: lLoc sa ca da wa ua) (x1 :: x2 :: YR L oa ua wa da ta pa ca ws p0 p1 cs sz code' X) s' →
      wpAny (model C.prog C.w) A (execs rest (lawEnv L q a cd)) Q E s') :
    wpAny (model C.prog C.w) A (execs (loopSt 0 :: loopSt 1 :: rest) (lawEnv L q a cd)) Q E s := by
  have B := Z.base
  obtain ⟨ia, hia, DI⟩ := Z.isn
  obtain ⟨tn, hnt⟩ := Z.nt
  have mpair : ∀ (P : List (Addr × AO)) code, ((L + 3, AO.cell (some (.ref pa))) : Addr × AO) ∈ P ++ YR L oa ua wa da ta pa ca ws p0 p1 cs sz code X := fun P code => memAt 10 rfl
  have mpl : ∀ (P : List (Addr × AO)) code, ((pa, AO.list ([p0, p1].map iP)) : Addr × AO) ∈ P ++ YR L oa ua wa da ta pa ca ws p0 p1 cs sz code X := fun P code => memAt 4 rfl
  have mtx : ∀ (P : List (Addr × AO)) code, ((L + 4, AO.cell (some (.ref ta))) : Addr × AO) ∈ P ++ YR L oa ua wa da ta pa ca ws p0 p1 cs sz code X := fun P code => memAt 9 rfl
  have mtl : ∀ (P : List (Addr × AO)) code, ((ta, AO.idict txtPV) : Addr × AO) ∈ P ++ YR L oa ua wa da ta pa ca ws p0 p1 cs sz code X := fun P code => memAt 3 rfl
  have mcode : ∀ (P : List (Addr × AO)) v, ((L + 5, AO.cell (some v)) : Addr × AO) ∈ P ++ YR L oa ua wa da ta pa ca ws p0 p1 cs sz (some v) X := fun P v => memAt 8 rfl
  let en : Env := lawEnv L q a cd
  let l₁ : List (Str × PV) := ("cell", iP (c : Int)) :: lLoc sa ca da wa ua
  let R₁ : List (Addr × AO) := x1 :: x2 :: YR L oa ua wa da ta pa ca ws p0 p1 cs sz code X
  show wpAny _ A (execs (.Assign [.Name _ _] (.IfExp _ _ _ _) _ :: .If _ _ _ _ :: rest) en) _ _ _
  change St C h₀ L l₁ R₁ s at S
  by_cases hc2 : c < 2
  · -- one operator alone
    have hgp : ([p0, p1].map iP)[c]? = some (iP (pairAt p0 p1 c)) := by
      have := pair_get (p0 := p0) (p1 := p1) (e := (c : Int)) (by lia)
      simpa using this
    have hpk := pair_ok (e := (c : Int)) h0 h1
    refine wpAny_execs_cons (wpAny_Assign_Name (wpAny_IfExp (wpAny_isTrue_Compare1 (nm_i S rfl fun t1 => c_i S fun t2 s₁ S₁ => PyProof.Rows.lt_int (wpAny_truthy_bool ?_)) (by rfl))) (swaps_if ..))
    refine ifYd (by lia) ?_
    refine wpAny_BinOp (c_i S₁ fun t3 s₂ S₂ => Subscript_Name (nm_cellr (c := L + 3) S₂ (mpair [x1, x2] _) (nm_i S₂ rfl fun t4 => item_l (i := c) S₂ (mpl [x1, x2] _) hgp (by lia) fun v hv => ?_) (by rfl)))
    obtain ⟨t5, rfl⟩ := vr_int hv
    refine r_add S₂ fun t6 s₃ S₃ => stloc (p := iP (7 + pairAt p0 p1 c)) S₃ (.int _ _) fun s₄ S₄ => ?_
    refine wpAny_execs_cons (wpAny_If (wpAny_isTrue_value (r_call B S₄ DI hia (wpAny_items_cons (nm_i S₄ rfl fun t7 => wpAny_items_nil ⟨S₄.top, isn_spec B hnt DI Rm S₄ fun s₅ S₅ => wpAny_truthy_bool ?_⟩)))))
    refine ifNd (by lia) ?_
    refine wpAny_execs_cons (wpAny_Assign_Name (Subscript_Name (nm_cellr (c := L + 4) S₅ (mtx [x1, x2] _) (nm_i S₅ rfl fun t8 => item_di S₅ (S₅.getOK (mtl [x1, x2] _)) (txt_get hpk) fun v s₆ hv S₆ => ?_) (by rfl))) (swaps_sub ..))
    refine stloc (p := sP (OPSat (pairAt p0 p1 c))) S₆ hv fun s₇ S₇ => wpAny_execs_nil (h code s₇ ?_)
    have e : WT p0 p1 (bitsOf c) = OPSat (pairAt p0 p1 c) := by rw [bits_low c hc2]; simp [WT]
    rw [e]
    exact S₇.weaken ⟨by rfl, by rfl, by rfl, by rfl, by rfl, by rfl, by rfl, trivial⟩
  · have hc2' : 2 ≤ c := by lia
    refine wpAny_execs_cons (wpAny_Assign_Name (wpAny_IfExp (wpAny_isTrue_Compare1 (nm_i S rfl fun t1 => c_i S fun t2 s₁ S₁ => PyProof.Rows.lt_int (wpAny_truthy_bool ?_)) (by rfl))) (swaps_if ..))
    refine ifNd (by lia) ?_
    refine wpAny_BinOp (c_i S₁ fun t3 s₂ S₂ => nm_i S₂ rfl fun t4 => r_add S₂ fun t6 s₃ S₃ => stloc (p := iP (258 + (c : Int))) S₃ (.int _ _) fun s₄ S₄ => ?_)
    refine wpAny_execs_cons (wpAny_If (wpAny_isTrue_value (r_call B S₄ DI hia (wpAny_items_cons (nm_i S₄ rfl fun t7 => wpAny_items_nil ⟨S₄.top, isn_spec B hnt DI Rm S₄ fun s₅ S₅ => wpAny_truthy_bool ?_⟩)))))
    refine ifYd (by lia) ?_
    -- code
    refine wpAny_execs_cons (wpAny_Assign_Name (wpAny_BinOp (nm_i S₅ rfl fun t8 => nm_g B S₅ hnt (r_sub S₅ fun t9 s₆ S₆ => ?_))) (swaps_binop ..))
    rw [show (258 + (c : Int) - 256) = (c : Int) + 2 by lia]
    refine stcellAt (c := L + 5) (p := iP ((c : Int) + 2)) S₆ 10 rfl (.int _ _) (fun s₇ S₇ => ?_) (by rfl)
    let l₂ : List (Str × PV) := ("symbol", iP (258 + (c : Int))) :: l₁
    let R₂ : List (Addr × AO) := x1 :: x2 :: YR L oa ua wa da ta pa ca ws p0 p1 cs sz (some (iP ((c : Int) + 2))) X
    change St C h₀ L l₂ R₂ s₇ at S₇
    -- word
    refine wpAny_execs_cons (wpAny_Assign_Name (r_joinCall ?_) (swaps_call ..))
    refine c_t [] S₇ fun t10 s₈ S₈ => ⟨typeIs_str _ _ _, (fun _ e => nomatch e), callWith_bi (wpAny_items_cons ?_)⟩
    refine r_listcomp (cl := [(("texts" : Str), L + 4), ("pair", L + 3), ("code", L + 5)]) (by rfl) (by decide) rfl (by decide) (by rfl) (wpAny_mono (Q := fun v s' => ∃ D, v = .ref D ∧ St C h₀ L l₂
      ((D, .list ((bitL c).map iP)) :: R₂) s') ?_ (fun v s' hq => ?_) fun _ _ q => q)
    · refine wpAny_IfExp (wpAny_isTrue_Compare1 (nm_cell (c := L + 5) (p := iP ((c : Int) + 2)) S₈ (mcode [x1, x2] _) (fun v hv => ?_) (by rfl)) (by rfl))
      obtain ⟨t11, rfl⟩ := vr_int hv
      refine c_i S₈ fun t12 s₉ S₉ => PyProof.Rows.lt_int (wpAny_truthy_bool ?_)
      by_cases hc6 : c + 2 < 8
      · refine ifYd (by lia) ?_
        refine r_listI (ls := [1, 0]) (by decide +kernel) S₉ (by decide) fun D s₁₀ S₁₀ => ⟨D, rfl, ?_⟩
        have : bitL c = [1, 0] := by unfold bitL; rw [if_pos hc6]
        rw [this]; exact S₁₀
      · refine ifNd (by lia) ?_
        refine r_listI (ls := [2, 1, 0]) (by decide +kernel) S₉ (by decide) fun D s₁₀ S₁₀ => ⟨D, rfl, ?_⟩
        have : bitL c = [2, 1, 0] := by unfold bitL; rw [if_neg hc6]
        rw [this]; exact S₁₀
    · obtain ⟨D, rfl, S₉⟩ := hq
      obtain ⟨OD, S₁₀⟩ := S₉.pin 0 rfl
      have hbl : (bitL c).length ≤ 3 := by unfold bitL; split <;> simp
      have hb3 : ∀ b ∈ bitL c, 0 ≤ b ∧ b ≤ 2 := by unfold bitL; split <;> simp
      refine wk_list Rm.handled S₁₀ (List.mem_cons_self ..) fun I oI s₁₁ S₁₁ WI => ?_
      refine ⟨I, ((bitL c).map iP).length, _, oI, _, h₀, _, _, fun j => ((bitL c).take j).map fun b => sP (OPSat (pairAt p0 p1 (bitv c b))), rfl, S₁₁, WI, ?_, by rw [List.length_map]; lia, by simp, ?_, ?_, ?_⟩
      · intro p hp; rw [List.mem_singleton.mp hp]; exact List.mem_cons_self ..
      · intro j hj; (try dsimp only); rw [List.length_map, List.length_take]; lia
      · intro j Cc D' oj s₁₂ hj S₁₂
        rw [List.length_map] at hj
        obtain ⟨b, hb⟩ : ∃ b, (bitL c)[j]? = some b := ⟨_, List.getElem?_eq_getElem hj⟩
        have en : ((bitL c).map iP).getD j .n = iP b := by rw [List.getD_eq_getElem?_getD, List.getElem?_map, hb]; rfl
        have hbb := hb3 b (List.mem_of_getElem? hb)
        try dsimp only at S₁₂ ⊢
        rw [en] at S₁₂ ⊢
        refine tests_nil ?_
        refine ifY rfl ?_
        refine Subscript_BinOp (nm_cellr (c := L + 4) S₁₂ (mtx [_, _, _, _, _, _] _) (wpAny_BinOp (c_i S₁₂ fun t13 s₁₃ S₁₃ => Subscript_BinOp (nm_cellr (c := L + 3) S₁₃ (mpair [_, _, _, _, _, _] _) (wpAny_BinOp (wpAny_BinOp (nm_cell (c := L + 5) (p := iP ((c : Int) + 2)) S₁₃ (mcode [_, _, _, _, _, _] _) (fun v hv => ?_) (by rfl) (by rfl) (by rfl)))) (by rfl) (by rfl) (by rfl)))) (by rfl) (by rfl) (by rfl))
        obtain ⟨t14, rfl⟩ := vr_int hv
        refine wpAny_BinOp (c_i S₁₃ fun t15 s₁₄ S₁₄ => nm_i S₁₄ rfl (fun t16 => r_pow S₁₄ hbb.1 (by lia) (by decide) fun t17 s₁₅ S₁₅ => r_fdiv S₁₅ ?_ ?_ fun t18 s₁₆ S₁₆ => c_i S₁₆ fun t19 s₁₇ S₁₇ => r_mod S₁₇ (by decide) fun t20 s₁₈ S₁₈ => ?_) (by rfl) (by rfl))
        · exact Int.pow_ne_zero (by decide)
        · refine PyProof.noPylong_small ?_
          have : b = 0 ∨ b = 1 ∨ b = 2 := by lia
          rcases this with rfl | rfl | rfl <;> decide
        · have he := bitv_01 c b
          have ee : (((c : Int) + 2).fdiv (2 ^ b.toNat)).fmod 2 = ((bitv c b).toNat : Int) := by show bitv c b = _; lia
          rw [ee]
          refine item_l (i := (bitv c b).toNat) S₁₈ (mpl [_, _, _, _, _, _] _) (pair_get he) (by lia) fun v hv => ?_
          obtain ⟨t21, rfl⟩ := vr_int hv
          refine r_add S₁₈ fun t22 s₁₉ S₁₉ => item_di S₁₉ (S₁₉.getOK (mtl [_, _, _, _, _, _] _)) (txt_get (pair_ok h0 h1)) fun v s₂₀ hv S₂₀ => ⟨sP (OPSat (pairAt p0 p1 (bitv c b))), hv, ?_, S₂₀⟩
          have htk : (bitL c).take (j + 1) = (bitL c).take j ++ [b] := by
            rw [List.take_succ_eq_append_getElem hj, (List.getElem?_eq_some_iff.mp hb).2]
          rw [htk, List.map_append]; rfl
      · intro D3 s₁₂ S₁₂
        try dsimp only at S₁₂
        have e4 : ((bitL c).take ((bitL c).map iP).length).map (fun b => sP (OPSat (pairAt p0 p1 (bitv c b)))) = ((bitL c).map fun b => OPSat (pairAt p0 p1 (bitv c b))).map fun x => .s (toS x) := by
          rw [List.length_map, List.take_length, List.map_map]; rfl
        rw [e4] at S₁₂
        have hfl : ((bitL c).map fun b => OPSat (pairAt p0 p1 (bitv c b))).flatten = WT p0 p1 (bitsOf c) := by
          rw [← bits_ok c hc hc2']
          unfold WT; rw [List.map_map]; rfl
        have hwg := word_good h0 h1 hc
        refine wpAny_items_nil (call_join S₁₂ (List.mem_cons_self ..) (by rw [hfl, List.length_map]; have := hwg.len; lia) fun t13 s₁₃ S₁₃ => ?_)
        rw [hfl]
        refine stloc (p := sP (WT p0 p1 (bitsOf c))) S₁₃ (.str _ _) fun s₁₄ S₁₄ => ?_
        repeat refine wpAny_execs_nil ?_
        exact h (some (iP ((c : Int) + 2))) s₁₄ (S₁₄.drop.drop.weaken ⟨by rfl, by rfl, by rfl, by rfl, by rfl, by rfl, by rfl, trivial⟩)
end
end Mine

namespace Mine

open PySem PySem.W PyProof.Rows PySem.Calls

noncomputable def wadd (ws : List T) (w : T) : List T := if w ∈ ws then ws else ws ++ [w]
theorem intText48 : PySem.intText? (toS [48]) = some 0 := by decide +kernel
theorem intText49 : PySem.intText? (toS [49]) = some 1 := by decide +kernel
noncomputable abbrev YR2 (L oa ua wa da ta pa ca : Addr) (us ws : List T) (p0 p1 : Int) (cs : List Int) (sz code : Option PV) (X : List (Addr × AO)) : List (Addr × AO) :=
  (ua, .list (us.map sP)) :: (wa, .list (ws.map sP)) :: (da, .list (CODES.map sP)) :: (ta, .idict txtPV) :: (pa, .list ([p0, p1].map iP)) :: (ca, .list (cs.map iP)) :: cR L (some (.ref oa)) sz (some (.ref pa)) (some (.ref ta)) code none none X

section
variable {C : Cfg} {h₀ : Heap} {L : Addr} {loc : List (Str × PV)} {R X : List (Addr × AO)} {s : Shared} {A : Around} {E : Value → Shared → Prop} {mg mb : Str → Option Value} {env : Env} {a pl ea sa oa pa ca da ta wa ua : Addr} {k : Nat} {q : Str} {cd : Value}

set_option maxHeartbeats 2000000 in
/-- if word not in words: .. -/
theorem seg_add {c : Nat} {p0 p1 : Int} {ws : List T} {cs : List Int} {sz code : Option PV} {x1 x2 : Addr × AO} {Q : Flow → Shared → Prop} (Z : Lx C mg mb pl ea) (Rm : Room A (k + 2)) (hc : c < 14) (h0 : 0 ≤ p0 ∧ p0 < 48) (h1 : 0 ≤ p1 ∧ p1 < 48) (hws : ws.length ≤ 1000) (hoa : (oa, AO.list (OPS.map sP)) ∈ X)
    (S : St C h₀ L (("word", sP (WT p0 p1 (bitsOf c))) :: ("cell", iP (c : Int)) :: lLoc sa ca da wa ua) (x1 :: x2 :: YR L oa ua wa da ta pa ca ws p0 p1 cs sz code X) s)
    (h : ∀ s', St C h₀ L (("word", sP (WT p0 p1 (bitsOf c))) :: ("cell", iP (c : Int)) :: lLoc sa ca da wa ua) (x1 :: x2 :: YR L oa ua wa da ta pa ca (wadd ws (WT p0 p1 (bitsOf c))) p0 p1 cs sz code X) s' → Q .next s') :
    wpAny (model C.prog C.w) A (exec (loopSt 2) (lawEnv L q a cd)) Q E s := by
  have B := Z.base
  have hwg := word_good h0 h1 hc
  generalize hw : WT p0 p1 (bitsOf c) = w at S h hwg
  have hwl := hwg.len
  let en : Env := lawEnv L q a cd
  let l₁ : List (Str × PV) := ("word", sP w) :: ("cell", iP (c : Int)) :: lLoc sa ca da wa ua
  let R₁ : List (Addr × AO) := x1 :: x2 :: YR L oa ua wa da ta pa ca ws p0 p1 cs sz code X
  change St C h₀ L l₁ R₁ s at S
  show wpAny _ A (exec (.If _ _ [] _) en) _ _ _
  refine wpAny_If (wpAny_isTrue_Compare1 (nm_s S rfl fun t1 => nm_r S rfl (r_notin_list (l := ws) (S.getOK (List.mem_of_getElem? (i := 3) rfl)) (wpAny_truthy_bool ?_))) (by rfl))
  by_cases hin : w ∈ ws
  · have e : wadd ws w = ws := if_pos hin
    rw [e] at h
    rw [decide_eq_true hin, if_neg (by simp)]
    exact wpAny_execs_nil (h s S)
  · have e : wadd ws w = ws ++ [w] := if_neg hin
    rw [e] at h
    rw [decide_eq_false hin, if_pos (by simp)]
    refine wpAny_execs_cons (r_lapp (ra := wa) (l0 := ws.map sP) S (List.mem_of_getElem? (i := 3) rfl) rfl (nm_s S rfl fun t2 => ⟨sP w, h₀, L, _, _, 3, ws.map sP, .str _ _, S, rfl, by rw [List.length_map]; lia, fun s₁ S₁ => ?_⟩))
    rw [show ws.map sP ++ [sP w] = (ws ++ [w]).map sP by rw [List.map_append]; rfl] at S₁
    let Y : List (Addr × AO) := YR2 L oa ua wa da ta pa ca ws (ws ++ [w]) p0 p1 cs sz code X
    let R₂ : List (Addr × AO) := x1 :: x2 :: Y
    change St C h₀ L l₁ R₂ s₁ at S₁
    have mpair : ∀ (P : List (Addr × AO)), ((L + 3, AO.cell (some (.ref pa))) : Addr × AO) ∈ P ++ Y := fun P => memAt 10 rfl
    have mpl : ∀ (P : List (Addr × AO)), ((pa, AO.list ([p0, p1].map iP)) : Addr × AO) ∈ P ++ Y := fun P => memAt 4 rfl
    have mown : ∀ (P : List (Addr × AO)), ((L + 1, AO.cell (some (.ref oa))) : Addr × AO) ∈ P ++ Y := fun P => memAt 12 rfl
    have mol : ∀ (P : List (Addr × AO)), ((oa, AO.list (OPS.map sP)) : Addr × AO) ∈ P ++ Y := fun P => List.mem_append_right P (List.mem_append_right [_, _, _, _, _, _, _, _, _, _, _, _, _] hoa)
    have hcg : (CODES.map sP)[c]? = some (sP (CODES.getD c [])) := by
      have hl : c < CODES.length := hc
      rw [List.getElem?_map, List.getElem?_eq_getElem hl, List.getD_eq_getElem?_getD, List.getElem?_eq_getElem hl]; rfl
    have hbl : (CODES.getD c []).length ≤ 3 := by
      have := (bits_len c hc).1
      unfold bitsOf at this
      rw [List.length_map] at this; exact this
    have hb : bitsOf c = List.map (fun d : Nat => (d : Int) - 48) (CODES.getD c []) := rfl
    have hd01 := codes_01 c hc
    refine wpAny_execs_cons (r_lapp (ra := ua) (l0 := ws.map sP) S₁ (List.mem_of_getElem? (i := 2) rfl) rfl (r_joinCall ?_))
    refine c_t [] S₁ fun t3 s₂ S₂ => ⟨typeIs_str _ _ _, (fun _ e => nomatch e), callWith_bi (wpAny_items_cons ?_)⟩
    refine r_listcomp (cl := [(("pair" : Str), L + 3), ("own", L + 1)]) (by rfl) (by decide) rfl (by decide) (by rfl) (Subscript_Name (nm_r S₂ rfl (nm_i S₂ rfl fun t4 => item_l (i := c) S₂ (List.mem_of_getElem? (i := 4) rfl) hcg (by lia) fun v hv => ?_)))
    obtain ⟨t5, rfl⟩ := vr_str hv
    generalize hdt : CODES.getD c [] = ds at hcg hbl hb hd01
    refine wk_str Rm.handled S₂ fun I oI s₃ S₃ WI => ?_
    refine ⟨I, ds.length, _, oI, _, h₀, _, _, fun j => (ds.take j).map fun d : Nat => sP (OPSat (pairAt p0 p1 ((d : Int) - 48))), rfl, S₃, WI, (fun _ q => nomatch q), by lia, by simp, ?_, ?_, ?_⟩
    · intro j hj; (try dsimp only); rw [List.length_map, List.length_take]; lia
    · intro j Cc D oj s₄ hj S₄
      obtain ⟨d, hd⟩ : ∃ d, ds[j]? = some d := ⟨_, List.getElem?_eq_getElem hj⟩
      have en : ds.getD j 0 = d := by rw [List.getD_eq_getElem?_getD, hd]; rfl
      have hd2 := hd01 d (List.mem_of_getElem? hd)
      try dsimp only at S₄ ⊢
      rw [en] at S₄ ⊢
      refine tests_nil ?_
      refine ifY rfl ?_
      refine r_item (nm_cellr (c := L + 1) S₄ (mown [_, _, _, _, _]) (r_item (nm_cellr (c := L + 3) S₄ (mpair [_, _, _, _, _]) (r_bt B S₄ Z.int (wpAny_items_cons (nm_s S₄ rfl (fun t6 => wpAny_items_nil ?_) (by rfl) (by rfl)))) (by rfl) (by rfl) (by rfl))) (by rfl) (by rfl) (by rfl))
      have hit : PySem.intText? (toS [d]) = some ((d : Int) - 48) := by
        rcases hd2 with rfl | rfl
        · exact intText48
        · exact intText49
      refine r_int S₄ hit (by rw [toS_length]; simp) fun t7 s₅ S₅ => ?_
      have he : ((d : Int) - 48) = 0 ∨ ((d : Int) - 48) = 1 := by lia
      have ee : ((d : Int) - 48) = (((d : Int) - 48).toNat : Int) := by lia
      have hpk := pair_ok (e := (d : Int) - 48) h0 h1
      rw [ee]
      refine item_l (i := ((d : Int) - 48).toNat) S₅ (mpl [_, _, _, _, _]) (pair_get he) (by lia) fun v hv => ?_
      obtain ⟨t8, rfl⟩ := vr_int hv
      have ep : pairAt p0 p1 ((d : Int) - 48) = ((pairAt p0 p1 ((d : Int) - 48)).toNat : Int) := by lia
      rw [ep]
      refine item_l (i := (pairAt p0 p1 ((d : Int) - 48)).toNat) S₅ (mol [_, _, _, _, _]) (ops_get hpk) (by lia) fun v hv => ⟨sP (OPSat (pairAt p0 p1 ((d : Int) - 48))), hv, ?_, S₅⟩
      have htk : ds.take (j + 1) = ds.take j ++ [d] := by
        rw [List.take_succ_eq_append_getElem hj, (List.getElem?_eq_some_iff.mp hd).2]
      rw [htk, List.map_append]; rfl
    · intro D s₄ S₄
      try dsimp only at S₄
      have e4 : (ds.take ds.length).map (fun d : Nat => sP (OPSat (pairAt p0 p1 ((d : Int) - 48)))) = (ds.map fun d : Nat => OPSat (pairAt p0 p1 ((d : Int) - 48))).map fun x => .s (toS x) := by
        rw [List.take_length, List.map_map]; rfl
      rw [e4] at S₄
      have hfl : (ds.map fun d : Nat => OPSat (pairAt p0 p1 ((d : Int) - 48))).flatten = w := by
        rw [← hw, hb]; unfold WT; rw [List.map_map]; rfl
      refine wpAny_items_nil (call_join S₄ (List.mem_cons_self ..) (by rw [hfl, List.length_map]; lia) fun t6 s₅ S₅ => ?_)
      rw [hfl]
      refine ⟨sP w, h₀, L, _, _, 3, ws.map sP, .str _ _, S₅, rfl, by rw [List.length_map]; lia, fun s₆ S₆ => ?_⟩
      rw [show ws.map sP ++ [sP w] = (ws ++ [w]).map sP by rw [List.map_append]; rfl] at S₆
      repeat refine wpAny_execs_nil ?_
      exact h s₆ S₆.drop
end
end Mine

namespace Mine

open PySem PySem.W PyProof.Rows PySem.Calls

section
variable {C : Cfg} {h₀ : Heap} {L : Addr} {loc : List (Str × PV)} {R X : List (Addr × AO)} {s : Shared} {A : Around} {E : Value → Shared → Prop} {mg mb : Str → Option Value} {env : Env} {a pl ea sa oa pa ca da ta wa ua : Addr} {k : Nat} {q : Str} {cd : Value}

theorem intsAre_inj : ∀ {vs : List Value} {a b : List Int}, IntsAre vs a → IntsAre vs b → a = b
  | _, _, _, .nil, .nil => rfl
  | _, _, _, .cons n t h, .cons _ _ g => by rw [intsAre_inj h g]
theorem pick_drop (ns : List Int) (h : 2 ≤ ns.length) : pickNums ns (some 2) none none = ns.drop 2 := by
  have : ∃ vs, IntsAre vs ns := by
    clear h
    induction ns with
    | nil => exact ⟨[], .nil⟩
    | cons n r ih => obtain ⟨vs, h⟩ := ih; exact ⟨_, .cons n 0 h⟩
  obtain ⟨vs, hv⟩ := this
  exact intsAre_inj (hv.pick (some 2) none none) (slice_ints_from hv (x := 2) (by decide) (by lia))
theorem wadd_len (ws : List T) (w : T) : (wadd ws w).length ≤ ws.length + 1 := by
  unfold wadd; split <;> simp
theorem wadd_ne (ws : List T) (w : T) : wadd ws w ≠ [] := by
  unfold wadd
  split
  · rename_i h; intro e; rw [e] at h; cases h
  · simp
theorem wadd_mem {ws : List T} {w x : T} (h : x ∈ wadd ws w) : x ∈ ws ∨ x = w := by
  unfold wadd at h
  split at h
  · exact .inl h
  · rcases List.mem_append.mp h with q | q
    · exact .inl q
    · exact .inr (List.mem_singleton.mp q)

set_option maxHeartbeats 1000000 in
/-- for cell in cells[2:] -/
theorem seg_loop {p0 p1 : Int} {cs : List Int} {sz : Option PV} {Q : Flow → Shared → Prop} (Z : Lx C mg mb pl ea) (Rm : Room A (k + 2)) (h0 : 0 ≤ p0 ∧ p0 < 48) (h1 : 0 ≤ p1 ∧ p1 < 48) (hoa : (oa, AO.list (OPS.map sP)) ∈ X)
    (hlen : cs.length = 6) (hb : ∀ j c, cs[j]? = some c → 0 ≤ c ∧ c < SIZES.getD j 0)
    (S : St C h₀ L (lLoc sa ca da wa ua) (YR L oa ua wa da ta pa ca [] p0 p1 cs sz none X) s)
    (h : ∀ ws code s', ws ≠ [] → ws.length ≤ 4 → (∀ w ∈ ws, WGd 9 w) → St C h₀ L (lLoc sa ca da wa ua) (YR L oa ua wa da ta pa ca ws p0 p1 cs sz code X) s' → Q .next s') :
    wpAny (model C.prog C.w) A (exec (lawSt 7) (lawEnv L q a cd)) Q E s := by
  let en : Env := lawEnv L q a cd
  let l₀ : List (Str × PV) := lLoc sa ca da wa ua
  show wpAny _ A (exec (.For (.Name _ _) _ _ [] _) en) _ _ _
  change St C h₀ L l₀ _ s at S
  refine r_for_list (h₀ := h₀) Rm.handled (r_lslice (nm_r S rfl ⟨ca, rfl, evalPart_some_step (c_i S fun t1 s₁ S₁ => evalPart_none_step (evalPart_none_step ⟨cs, some 2, none, none, h₀, _, _, _, .int _ _, .none, .none, by simp, S₁, intList (S₁.getOK (List.mem_of_getElem? (i := 5) rfl)), by lia, fun D s₂ S₂ => ?_⟩))⟩))
  obtain ⟨ds, hds, hd4, hdb⟩ : ∃ ds, pickNums cs (some 2) none none = ds ∧ ds.length = 4 ∧ ∀ d ∈ ds, 0 ≤ d ∧ d < 14 := by
    obtain ⟨c0, l0, rfl⟩ := List.exists_cons_of_length_eq_add_one hlen
    obtain ⟨c1, l1, rfl⟩ := List.exists_cons_of_length_eq_add_one (Nat.succ.inj hlen)
    obtain ⟨c2, l2, rfl⟩ := List.exists_cons_of_length_eq_add_one (Nat.succ.inj (Nat.succ.inj hlen))
    obtain ⟨c3, l3, rfl⟩ := List.exists_cons_of_length_eq_add_one (Nat.succ.inj (Nat.succ.inj (Nat.succ.inj hlen)))
    obtain ⟨c4, l4, rfl⟩ := List.exists_cons_of_length_eq_add_one (Nat.succ.inj (Nat.succ.inj (Nat.succ.inj (Nat.succ.inj hlen))))
    obtain ⟨c5, l5, rfl⟩ := List.exists_cons_of_length_eq_add_one (Nat.succ.inj (Nat.succ.inj (Nat.succ.inj (Nat.succ.inj (Nat.succ.inj hlen)))))
    obtain rfl := List.length_eq_zero_iff.mp (Nat.succ.inj (Nat.succ.inj (Nat.succ.inj (Nat.succ.inj (Nat.succ.inj (Nat.succ.inj hlen))))))
    · refine ⟨[c2, c3, c4, c5], pick_drop _ (by simp), rfl, fun d hd => ?_⟩
      have b2 := hb 2 c2 rfl
      have b3 := hb 3 c3 rfl
      have b4 := hb 4 c4 rfl
      have b5 := hb 5 c5 rfl
      simp only [List.mem_cons, List.not_mem_nil, or_false] at hd
      rcases hd with rfl | rfl | rfl | rfl
      · exact b2
      · exact b3
      · exact b4
      · exact b5
  rw [hds] at S₂
  obtain ⟨OD, S₃⟩ := S₂.pin 0 rfl
  refine ⟨D, OD, ds.map iP, _, _, fun j loc' R' => ∃ ws code, ws.length ≤ j ∧ (0 < j → ws ≠ []) ∧ (∀ w ∈ ws, WGd 9 w) ∧ loc' = l₀ ∧ R' = (D, .pin OD (.list (ds.map iP))) :: YR L oa ua wa da ta pa ca ws p0 p1 cs sz code X,
    rfl, S₃, List.mem_cons_self .., ⟨[], none, Nat.le_refl _, fun h => absurd h (Nat.lt_irrefl _), fun w hw => (by cases hw), rfl, rfl⟩, ?_, ?_, ?_⟩
  · rintro i _ _ ⟨ws, code, _, _, _, _, rfl⟩; exact List.mem_cons_self ..
  · rintro h₁ i pv I ob _ _ s₃ tk hpv ⟨ws, code, hwl, _, hwg, rfl, rfl⟩ S₄
    rw [List.getElem?_map] at hpv
    obtain ⟨d, hd, hpv⟩ : ∃ d, ds[i]? = some d ∧ iP d = pv := by
      cases hq : ds[i]? with
      | none => rw [hq] at hpv; cases hpv
      | some d => rw [hq] at hpv; exact ⟨d, rfl, Option.some.inj hpv⟩
    subst hpv
    have hil := (List.getElem?_eq_some_iff.mp hd).1
    obtain ⟨b0, b1⟩ := hdb d (List.mem_of_getElem? hd)
    obtain ⟨c, rfl⟩ : ∃ c : Nat, d = (c : Int) := ⟨d.toNat, by lia⟩
    have hc : c < 14 := by lia
    show wpAny _ A (execs (loopSt 0 :: loopSt 1 :: [loopSt 2]) _) _ _ _
    refine seg_word Z Rm hc h0 h1 S₄ fun code' s₄ S₅ => wpAny_execs_cons (seg_add Z Rm hc h0 h1 (by lia) hoa S₅ fun s₅ S₆ => wpAny_execs_nil ?_)
    refine ⟨_, _, ⟨wadd ws (WT p0 p1 (bitsOf c)), code', ?_, fun _ => wadd_ne _ _, fun w hw => ?_, rfl, rfl⟩, S₆.weaken ⟨by rfl, by rfl, by rfl, by rfl, by rfl, trivial⟩⟩
    · have := wadd_len ws (WT p0 p1 (bitsOf c)); lia
    · rcases wadd_mem hw with q | q
      · exact hwg w q
      · rw [q]; exact word_good h0 h1 hc
  · rintro _ _ s₃ ⟨ws, code, hwl, hwn, hwg, rfl, rfl⟩ S₄
    rw [List.length_map] at hwl hwn
    exact h ws code s₃ (hwn (by lia)) (by lia) hwg S₄.drop

/-- if len(words) == 1: .. -/
theorem seg_double {ws : List T} {p0 p1 : Int} {cs : List Int} {sz code : Option PV} {Q : Flow → Shared → Prop} (Z : Lx C mg mb pl ea) (hh : A.handled = none) (hne : ws ≠ []) (hl : ws.length ≤ 4) (hg : ∀ w ∈ ws, WGd 9 w)
    (S : St C h₀ L (lLoc sa ca da wa ua) (YR L oa ua wa da ta pa ca ws p0 p1 cs sz code X) s)
    (h : ∀ us wa' ua' s', us ≠ [] → us.length ≤ 4 → (∀ w ∈ us, WGd 18 w) → St C h₀ L [("words", .ref wa'), ("due", .ref ua')] ((ua', .list (us.map sP)) :: (wa', .list (us.map sP)) :: cR L (some (.ref oa)) sz (some (.ref pa)) (some (.ref ta)) code none none X) s' → Q .next s') :
    wpAny (model C.prog C.w) A (exec (lawSt 8) (lawEnv L q a cd)) Q E s := by
  have B := Z.base
  have hg' : ∀ w ∈ ws, WGd 18 w := fun w hw => ⟨(hg w hw).ne, by have := (hg w hw).len; lia, (hg w hw).signs⟩
  have mw : ∀ (P : List (Addr × AO)), ((wa, AO.list (ws.map sP)) : Addr × AO) ∈ P ++ YR L oa ua wa da ta pa ca ws p0 p1 cs sz code X := fun P => memAt 1 rfl
  have mu : ∀ (P : List (Addr × AO)), ((ua, AO.list (ws.map sP)) : Addr × AO) ∈ P ++ YR L oa ua wa da ta pa ca ws p0 p1 cs sz code X := fun P => memAt 0 rfl
  let en : Env := lawEnv L q a cd
  let l₁ : List (Str × PV) := lLoc sa ca da wa ua
  show wpAny _ A (exec (.If _ _ [] _) en) _ _ _
  change St C h₀ L l₁ _ s at S
  refine wpAny_If (wpAny_isTrue_Compare1 (r_bi B S Z.len (wpAny_items_cons (nm_r S rfl (wpAny_items_nil (r_len_list S (mw []) (by rw [List.length_map]; lia) fun t1 s₁ S₁ => c_i S₁ fun t2 s₂ S₂ => PyProof.Rows.eq_int (wpAny_truthy_bool ?_)))))) (by rfl))
  rw [List.length_map, beq_int]
  by_cases h1 : ws.length = 1
  · refine ifYd (by lia) ?_
    obtain ⟨w, rfl⟩ : ∃ w, ws = [w] := List.length_eq_one_iff.mp h1
    have hgw := hg w (List.mem_cons_self ..)
    have hwl := hgw.len
    have m0 : ([w].map sP)[0]? = some (sP w) := rfl
    let R₁ : List (Addr × AO) := YR L oa ua wa da ta pa ca [w] p0 p1 cs sz code X
    change St C h₀ L l₁ R₁ s₂ at S₂
    refine wpAny_execs_cons (r_swap2 S₂ hh (wpAny_items_cons (wpAny_BinOp (nm_r S₂ rfl (wpAny_List (wpAny_items_cons (wpAny_BinOp (Subscript_Constant (nm_r S₂ rfl (c_i S₂ fun t3 s₃ S₃ => item_l (i := 0) S₃ (mw []) m0 (by lia) fun v hv => ?_))))))))))
    obtain ⟨t4, rfl⟩ := vr_str hv
    refine c_i S₃ fun t5 s₄ S₄ => r_dbl S₄ hgw.ne (by lia) fun t6 s₅ S₅ => wpAny_items_nil ⟨sz1, ?_⟩
    have S₆ := S₅.newList (l := [w ++ w].map sP) (vs := [.str (toS (w ++ w)) t6]) ⟨.str _ _, trivial⟩
    refine r_addl S₆ (S₆.getOK (mw [_])) (S₆.getOK (List.mem_cons_self ..)) (by simp) fun D1 s₆ S₇ => ?_
    refine wpAny_items_cons (wpAny_BinOp (nm_r S₇ rfl (wpAny_List (wpAny_items_cons (wpAny_BinOp (Subscript_Constant (nm_r S₇ rfl (c_i S₇ fun t7 s₇ S₈ => item_l (i := 0) S₈ (mu [_, _]) m0 (by lia) fun v hv => ?_))))))))
    obtain ⟨t8, rfl⟩ := vr_str hv
    refine c_i S₈ fun t9 s₈ S₉ => r_dbl S₉ hgw.ne (by lia) fun t10 s₉ S₁₀ => wpAny_items_nil ⟨sz1, ?_⟩
    have S₁₁ := S₁₀.newList (l := [w ++ w].map sP) (vs := [.str (toS (w ++ w)) t10]) ⟨.str _ _, trivial⟩
    refine r_addl S₁₁ (S₁₁.getOK (mu [_, _, _])) (S₁₁.getOK (List.mem_cons_self ..)) (by simp) fun D2 s₁₀ S₁₂ => ?_
    refine wpAny_items_nil ⟨_, _, _, _, rfl, S₁₂, fun s₁₁ S₁₃ _ => ?_⟩
    refine stloc (p := .ref D2) S₁₃ rfl fun s₁₂ S₁₄ => stloc (p := .ref D1) S₁₄ rfl fun s₁₃ S₁₅ => wpAny_execs_nil (h [w, w ++ w] D1 D2 s₁₃ (by simp) (by simp) ?_ ?_)
    · intro x hx
      simp only [List.mem_cons, List.not_mem_nil, or_false] at hx
      rcases hx with rfl | rfl
      · exact hg' _ (List.mem_cons_self ..)
      · refine ⟨by simp [hgw.ne], by simp; lia, fun c hc => ?_⟩
        rcases List.mem_append.mp hc with q | q <;> exact hgw.signs c q
    · exact (S₁₅.weaken (loc' := [("words", .ref D1), ("due", .ref D2)]) ⟨by rfl, by rfl, trivial⟩).sub (.cons_cons _ (.cons _ (.cons_cons _ (.cons _ (.cons _ (.cons _ (.cons _ (.cons _ (.cons _ (List.sublist_cons_self ..))))))))))
  · refine ifNd (by lia) ?_
    refine wpAny_execs_nil (h ws wa ua s₂ hne hl hg' ?_)
    exact (S₂.weaken (loc' := [("words", .ref wa), ("due", .ref ua)]) ⟨by rfl, by rfl, trivial⟩).sub (.cons_cons _ (.cons_cons _ (.cons _ (.cons _ (.cons _ (List.sublist_cons_self ..))))))
end
end Mine

namespace Mine

open PySem PySem.W PyProof.Rows PySem.Calls

section
variable {C : Cfg} {h₀ : Heap} {L : Addr} {loc : List (Str × PV)} {R X : List (Addr × AO)} {s : Shared} {A : Around} {E : Value → Shared → Prop} {mg mb : Str → Option Value} {env : Env} {a pl ea sa oa pa ca da ta wa ua : Addr} {k : Nat} {q : Str} {cd : Value}

theorem wok {us : List T} (hl : us.length ≤ 4) (hg : ∀ w ∈ us, WGd 18 w) : WOk2 us :=
  ⟨⟨hl, fun w hw => ⟨(hg w hw).ne, by have := (hg w hw).len; lia, fun c hc => ((hg w hw).signs c hc).1⟩⟩, fun w hw h32 => ((hg w hw).signs 32 h32).2 rfl⟩

/-- ahead, back, first = .. -/
theorem seg_calls {us : List T} {own sz pr tx code : Option PV} {N1 N2 N3 : Nat} {Q : Flow → Shared → Prop} (Z : Lx C mg mb pl ea) (Rm : Room A (k + 6)) (hpl : (pl, AO.tab) ∈ X) (W : WOk2 us)
    (e1 : N1 ≤ 1000 ∧ (hrun us false N1).1 = [] ∧ ∀ i, i < N1 → (hrun us false i).1 ≠ []) (e2 : N2 ≤ 1000 ∧ (hrun us true N2).1 = [] ∧ ∀ i, i < N2 → (hrun us true i).1 ≠ []) (e3 : N3 ≤ 200000 ∧ (frun us N3).level = [] ∧ ∀ i, i < N3 → (frun us i).level ≠ [])
    (S : St C h₀ L [("words", .ref wa), ("due", .ref ua)] ((ua, .list (us.map sP)) :: (wa, .list (us.map sP)) :: cR L own sz pr tx code none none X) s)
    (h : ∀ aa ba fa s', St C h₀ L [("ahead", .ref aa)] ((fa, .dict (pvMap (frun us N3).first)) :: (ba, .dict (pvMap (hrun us true N2).2)) :: (aa, .dict (pvMap (hrun us false N1).2)) :: cR L own sz pr tx code (some (.ref ba)) (some (.ref fa)) X) s' → Q .next s') :
    wpAny (model C.prog C.w) A (exec (lawSt 9) (lawEnv L q a cd)) Q E s := by
  have B := Z.base
  obtain ⟨ha, hha, DH⟩ := Z.hang
  obtain ⟨fa, hfa, DF⟩ := Z.fing
  show wpAny _ A (exec (.Assign [.Tuple _ _ _] (.Tuple _ _ _) _) _) _ _ _
  refine r_unpack S Rm.handled (wpAny_Tuple (wpAny_items_cons (r_call B S DH hha (wpAny_items_cons (nm_r S rfl (wpAny_items_cons (wpAny_Constant_bool (wpAny_items_nil ⟨S.top, ?_⟩))))))))
  refine hanging_spec (iw := 1) Z.toLw DH Rm S (List.mem_append_right [_, _, _, _, _, _, _, _, _] hpl) rfl W.toWOk e1.1 e1.2.2 e1.2.1 fun aa s₁ S₁ => ?_
  refine wpAny_items_cons (r_call B S₁ DH hha (wpAny_items_cons (nm_r S₁ rfl (wpAny_items_cons (wpAny_Constant_bool (wpAny_items_nil ⟨S₁.top, ?_⟩))))))
  refine hanging_spec (iw := 2) Z.toLw DH Rm S₁ (List.mem_append_right [_, _, _, _, _, _, _, _, _, _] hpl) rfl W.toWOk e2.1 e2.2.2 e2.2.1 fun ba s₂ S₂ => ?_
  refine wpAny_items_cons (r_call B S₂ DF hfa (wpAny_items_cons (nm_r S₂ rfl (wpAny_items_nil ⟨S₂.top, ?_⟩))))
  refine fingers_spec (iw := 2) Z.toLw DF Rm S₂ rfl W e3.1 (fun n _ => x_fok W n) e3.2.2 e3.2.1 fun fa' s₃ S₃ => wpAny_items_nil ⟨sz3, ?_⟩
  have S₄ := S₃.push { cls := .type "tuple", data := .seq [Value.ref aa, Value.ref ba, Value.ref fa'].toArray }
  refine ⟨_, _, L, _, _, rfl, ⟨_, Heap.get?_push_size _ rfl, rfl, _, rfl⟩, by rfl, S₄, fun s₄ S₅ _ => ?_⟩
  refine aio_cons (wpAny_assign_Name (stloc (p := .ref aa) S₅ rfl fun s₅ S₆ => aio_cons (wpAny_assign_Name ?_)))
  refine stcellAt (c := L + 6) (p := .ref ba) S₆ 6 rfl rfl (fun s₆ S₇ => aio_cons (wpAny_assign_Name ?_)) (by rfl)
  refine stcellAt (c := L + 7) (p := .ref fa') S₇ 5 rfl rfl (fun s₇ S₈ => aio_nil ?_) (by rfl)
  refine h aa ba fa' s₇ ?_
  exact (S₈.weaken (loc' := [("ahead", .ref aa)]) ⟨by rfl, trivial⟩).sub (.cons_cons _ (.cons_cons _ (.cons_cons _ (.cons _ (List.sublist_cons_self ..)))))

/-- two dicts of the same contents -/
theorem hits_all {h : Heap} {l2 : List (T × T)} {kb : List (Str × Value)} (hb : KVR h (pvMap l2) kb) : ∀ {l : List (T × T)} {ka : List (Str × Value)}, KVR h (pvMap l) ka → (∀ e ∈ l, mget l2 e.1 = some e.2) → ∀ (A : Around) (s : Shared), KeqHits A s kb ka true
  | [], [], _, _, _, _ => .nil
  | e :: l, (key, v) :: ka, ⟨hk, hv, hr⟩, he, A, s => by
    have hk' : toS e.1 = key := hk
    subst hk'
    obtain ⟨t, rfl⟩ := vr_str hv
    have hm := he e (List.mem_cons_self ..)
    have hd : dget (pvMap l2) (toS e.1) = some (sP e.2) := by rw [dget_pvMap, hm]; rfl
    rcases hb.at (toS e.1) with ⟨q1, _⟩ | ⟨p, y, q1, q2, q3⟩
    · rw [hd] at q1; cases q1
    · rw [hd] at q1
      cases q1
      obtain ⟨u, rfl⟩ := vr_str q3
      have eq : SeqAt.EqAt A s (.str (toS e.2) t) (.str (toS e.2) u) true := by
        have := SeqAt.EqAt.str_str (A := A) (s := s) (toS e.2) t (toS e.2) u
        rwa [beq_self_eq_true] at this
      exact .hit (e := true) (b := true) q2 eq (hits_all hb hr (fun x hx => he x (List.mem_cons_of_mem _ hx)) A s)
theorem same_len {l1 l2 : List (T × T)} (n1 : (l1.map (·.1)).Nodup) (n2 : (l2.map (·.1)).Nodup) (he : ∀ k, mget l1 k = mget l2 k) : l1.length = l2.length := by
  have h : ∀ {l m : List (T × T)}, (l.map (·.1)).Nodup → (∀ k, mget l k = mget m k) → l.length ≤ m.length := fun {l m} hn he => by
    have := nodup_le (m := m.map (·.1)) hn fun k hk => get_key (by rw [← he]; exact key_get hk)
    simpa using this
  exact Nat.le_antisymm (h n1 he) (h n2 fun k => (he k).symm)
theorem r_eq_dicts {d1 d2 : Addr} {l1 l2 : List (T × T)} {Q : Value → Shared → Prop} (hsys : ∃ o, C.top.get? mainGlobals = some o) (hu : A.units < cLine) (S : St C h₀ L loc R s) (m1 : (d1, AO.dict (pvMap l1)) ∈ R) (m2 : (d2, AO.dict (pvMap l2)) ∈ R)
    (n1 : (l1.map (·.1)).Nodup) (n2 : (l2.map (·.1)).Nodup) (he : ∀ k, mget l1 k = mget l2 k) (h : Q (.bool true) s) : wpAny (model C.prog C.w) A (compareOp .Eq (.ref d1) (.ref d2)) Q E s := by
  obtain ⟨ka, hd1, hr1⟩ := S.getOK m1
  obtain ⟨kb, hd2, hr2⟩ := S.getOK m2
  refine keq_eq (r := true) (S.notSys hsys m1) (S.notSys hsys m2) hd1 hd2 hu (fun _ => hits_all hr2 hr1 (fun e hm => by rw [← he]; exact mget_of_mem n1 hm) _ _) ?_
  have : (ka.length == kb.length && true) = true := by
    rw [hr1.length, hr2.length, List.length_map, List.length_map, same_len n1 n2 he]; simp
  rw [this]; exact h

noncomputable def nilL (l : List (T × T)) : List T := (l.filter fun kv => decide (kv.1 = [])).map (·.2)
theorem nilL_get : ∀ {l : List (T × T)}, (l.map (·.1)).Nodup → nilL l = (mget l []).toList
  | [], _ => rfl
  | e :: l, h => by
    obtain ⟨h1, h2⟩ := List.nodup_cons.mp h
    have ih := nilL_get h2
    rw [mget_cons]
    unfold nilL at ih ⊢
    by_cases q : e.1 = []
    · have hn : mget l [] = none := by
        cases hq : mget l [] with
        | none => rfl
        | some v => exact absurd (show e.1 ∈ l.map (·.1) by rw [q]; exact get_key (by rw [hq]; simp)) h1
      rw [List.filter_cons, if_pos (by simpa using q), if_pos q, List.map_cons, ih, hn]; rfl
    · rw [List.filter_cons, if_neg (by simpa using q), if_neg q, ih]

/-- [d[rest] for rest in d if rest == ''] -/
theorem r_nilcomp {d : Str} {c dd : Addr} {l : List (T × T)} {i : Nat} {p1 p2 p3 p4 p5 p6 p7 p8 pos : Pos} {kk : Nat} {scope : Scope} {x0 : Str} {Q : Value → Shared → Prop} (hh : A.handled = none) (hsys : ∃ o, C.top.get? mainGlobals = some o) (S : St C h₀ env.locals loc R s)
    (ei : R[i]? = some (dd, .dict (pvMap l))) (hm : (c, AO.cell (some (.ref dd))) ∈ R) (nd : (l.map (·.1)).Nodup) (hz : l.length ≤ 100000) (hx0 : x0 = toS [])
    (hclos : closureFor scope env = pure [(d, c)]) (hcell : ∀ y ∈ scope.names, y.2 ≠ .cell) (hkind : scope.kind = .function) (hnames : ∀ y ∈ scope.names, y.2 = .local → scope.names.lookup y.1 = some .local) (hx : scope.names.lookup ("rest" : Str) = some .local)
    (hc : env.cells.lookup d = some c) (hk : env.scope.kind = .function) (hl : env.kindOf d = some .cell) (hd : (d == ("__debug__" : Str)) = false)
    (hc' : ∀ Cc, (compEnvC scope [(d, c)] Cc env).cells.lookup d = some c) (hk' : ∀ Cc, (compEnvC scope [(d, c)] Cc env).scope.kind = .function) (hl' : ∀ Cc, (compEnvC scope [(d, c)] Cc env).kindOf d = some .cell) (hr' : ∀ Cc, (compEnvC scope [(d, c)] Cc env).kindOf "rest" = some .local)
    (h : ∀ D s', St C h₀ env.locals loc ((D, .list ((nilL l).map sP)) :: R) s' → Q (.ref D) s') :
    wpAny (model C.prog C.w) A (eval (.ListComp (.Subscript (.Name d p1) (.Name "rest" p2) p3) [⟨.Name "rest" p4, .Name d p5, [.Compare (.Name "rest" p6) [.Eq] [.Constant (.str x0) kk p7] p8], 0⟩] scope pos) env) Q E s := by
  obtain ⟨o, Sp⟩ := S.pin i ei
  have hil := (List.getElem?_eq_some_iff.mp ei).1
  have hdm : (dd, AO.pin o (.dict (pvMap l))) ∈ R.set i (dd, .pin o (.dict (pvMap l))) := List.mem_iff_getElem?.mpr ⟨i, by rw [List.getElem?_set]; simp [hil]⟩
  have hcm : (c, AO.cell (some (.ref dd))) ∈ R.set i (dd, .pin o (.dict (pvMap l))) := by
    obtain ⟨j, hj⟩ := List.mem_iff_getElem?.mp hm
    refine List.mem_iff_getElem?.mpr ⟨j, ?_⟩
    rw [List.getElem?_set]
    by_cases e : i = j
    · subst e; rw [ei] at hj; cases hj
    · rw [if_neg e]; exact hj
  have hset : (R.set i (dd, AO.pin o (.dict (pvMap l)))).set i (dd, .dict (pvMap l)) = R := by rw [List.set_set, set_self ei]
  generalize hRp : R.set i (dd, AO.pin o (.dict (pvMap l))) = Rp at Sp hdm hcm hset
  refine r_listcomp (cl := [(d, c)]) hclos hcell hkind hnames hx (nm_cellr Sp hcm (wk_dict hh hsys Sp hdm fun I oI s₁ S₁ WI => ?_) hc hk hl hd)
  refine ⟨I, (pvMap l).length, _, oI, _, h₀, _, _, fun j => (nilL (l.take j)).map sP, rfl, S₁, WI, ?_, by rw [List.length_map]; lia, rfl, ?_, ?_, ?_⟩
  · intro p hp; rw [List.mem_singleton.mp hp]; exact hdm
  · intro j hj
    try dsimp only
    have h1 := List.length_filter_le (fun kv : T × T => decide (kv.1 = [])) (l.take j)
    rw [List.length_take] at h1
    unfold nilL
    rw [List.length_map, List.length_map]; lia
  · intro j Cc D oj s₂ hj S₂
    rw [List.length_map] at hj
    obtain ⟨e, he⟩ : ∃ e, l[j]? = some e := ⟨_, List.getElem?_eq_getElem hj⟩
    have en : ((pvMap l).getD j (Str.empty, .n)).1 = toS e.1 := by rw [List.getD_eq_getElem?_getD, List.getElem?_map, he]; rfl
    have htk : l.take (j + 1) = l.take j ++ [e] := by
      rw [List.take_succ_eq_append_getElem hj, (List.getElem?_eq_some_iff.mp he).2]
    have hg : dget (pvMap l) (toS e.1) = some (sP e.2) := by rw [dget_pvMap, mget_of_mem nd (List.mem_of_getElem? he)]; rfl
    try dsimp only at S₂ ⊢
    rw [en] at S₂ ⊢
    refine tests_one (wpAny_isTrue_Compare1 (nm_s S₂ (by rfl) (fun t1 => c_t [] S₂ (fun t2 s₃ S₃ => r_eq_str (wpAny_truthy_bool ?_)) hx0) (hk' _) (hr' _)) (by rfl))
    by_cases q : e.1 = []
    · refine ifYd q ?_
      have m1 : ∀ (x y z : Addr × AO), (c, AO.cell (some (.ref dd))) ∈ x :: y :: z :: Rp := fun x y z => List.mem_cons_of_mem _ (List.mem_cons_of_mem _ (List.mem_cons_of_mem _ hcm))
      have m2 : ∀ (x y z : Addr × AO), (dd, AO.pin o (.dict (pvMap l))) ∈ x :: y :: z :: Rp := fun x y z => List.mem_cons_of_mem _ (List.mem_cons_of_mem _ (List.mem_cons_of_mem _ hdm))
      refine Subscript_Name (nm_cellr S₃ (m1 _ _ _) (nm_s S₃ (by rfl) (fun t3 => item_d S₃ (S₃.getOK (m2 _ _ _)).2 hg fun v s₄ hv S₄ => ⟨sP e.2, hv, ?_, S₄⟩) (hk' _) (hr' _)) (hc' _) (hk' _) (hl' _) hd)
      rw [htk]
      unfold nilL
      rw [List.filter_append, List.map_append, List.map_append]
      simp [q]
    · refine ifNd q ?_
      refine ⟨?_, S₃⟩
      rw [htk]
      unfold nilL
      rw [List.filter_append]
      simp [q]
  · intro D s₂ S₂
    try dsimp only at S₂
    rw [List.length_map, List.take_length] at S₂
    have eRp : Rp[i]? = some (dd, AO.pin o (.dict (pvMap l))) := by rw [← hRp, List.getElem?_set]; simp [hil]
    have S₃ := S₂.unpin (i + 1) (by simpa using eRp)
    refine h D s₂ ?_
    rw [← hset]; exact S₃
/-- two lists of the same texts -/
theorem r_eq_lists {a b : Addr} {l : List T} {Q : Value → Shared → Prop} (hu : A.units < cLine) (S : St C h₀ L loc R s) (m1 : (a, AO.list (l.map sP)) ∈ R) (m2 : (b, AO.list (l.map sP)) ∈ R) (h : Q (.bool true) s) :
    wpAny (model C.prog C.w) A (compareOp .Eq (.ref a) (.ref b)) Q E s := by
  obtain ⟨xs, ⟨n, hx⟩, hr1⟩ := S.getOK m1
  obtain ⟨ys, ⟨m, hy⟩, hr2⟩ := S.getOK m2
  have h1 : xs.size = l.length := by have := hr1.length; simp at this; lia
  have h2 : ys.size = l.length := by have := hr2.length; simp at this; lia
  show wpAny _ A (richCompare .Eq (.ref a) (.ref b)) _ _ _
  have := SeqAt.RcAt.lists (A := A) (s := s) (e := fun _ => true) ⟨_, hx, rfl, _, rfl⟩ ⟨_, hy, rfl, _, rfl⟩ (h1.trans h2.symm) hu (fun j g1 g2 => by
    obtain ⟨p, e1, e2⟩ := hr1.get (i := j) (v := xs[j]) (by simp)
    obtain ⟨p', e3, e4⟩ := hr2.get (i := j) (v := ys[j]) (by simp)
    rw [e1] at e3
    cases e3
    rw [List.getElem?_map] at e1
    cases hq : l[j]? with
    | none => rw [hq] at e1; cases e1
    | some x =>
      rw [hq] at e1
      cases e1
      obtain ⟨t, ht⟩ := vr_str e2
      obtain ⟨u, hu⟩ := vr_str e4
      rw [ht, hu]
      have := SeqAt.EqAt.str_str (A := A.in1) (s := s) (toS x) t (toS x) u
      rwa [beq_self_eq_true] at this)
  refine this _ _ _ _ ?_
  have e : ((List.range xs.size).all fun _ => true) = true := by simp
  rw [e]; exact h
end
end Mine

namespace Mine

open PySem PySem.W PyProof.Rows PySem.Calls

section
variable {C : Cfg} {h₀ : Heap} {L : Addr} {loc : List (Str × PV)} {R X : List (Addr × AO)} {s : Shared} {A : Around} {E : Value → Shared → Prop} {mg mb : Str → Option Value} {env : Env} {a pl ea sa oa pa ca da ta wa ua aa ba fa : Addr} {k : Nat} {q : Str} {cd : Value}

/-- return .. -/
theorem seg_ret {l1 l2 l3 : List (T × T)} {own sz pr tx code : Option PV} {Q : Flow → Shared → Prop} (Z : Lx C mg mb pl ea) (hh : A.handled = none) (hu : A.units < cLine)
    (n1 : (l1.map (·.1)).Nodup) (n2 : (l2.map (·.1)).Nodup) (n3 : (l3.map (·.1)).Nodup) (z2 : l2.length ≤ 100000) (z3 : l3.length ≤ 100000) (he : ∀ k, mget l1 k = mget l3 k) (hn : mget l2 [] = mget l3 [])
    (S : St C h₀ L [("ahead", .ref aa)] ((fa, .dict (pvMap l3)) :: (ba, .dict (pvMap l2)) :: (aa, .dict (pvMap l1)) :: cR L own sz pr tx code (some (.ref ba)) (some (.ref fa)) X) s)
    (h : ∀ P loc' s', St C h₀ L loc' (P ++ X) s' → Q (.ret (.bool true)) s') :
    wpAny (model C.prog C.w) A (exec (lawSt 10) (lawEnv L q a cd)) Q E s := by
  show wpAny _ A (exec (.Return (some (.BoolOp .And [_, _] _)) _) _) _ _ _
  refine wpAny_Return_some (wpAny_And2 (wpAny_Compare1 (nm_r S rfl (nm_cellr (c := L + 7) S (List.mem_of_getElem? (i := 3) rfl) (r_eq_dicts Z.sys hu S (d1 := aa) (d2 := fa) (l1 := l1) (l2 := l3) (List.mem_of_getElem? (i := 2) rfl) (List.mem_of_getElem? (i := 0) rfl) n1 n3 he (wpAny_truthy_bool ?_)) (by rfl))) (by rfl)))
  rw [if_pos rfl]
  refine wpAny_Compare1 (r_nilcomp (c := L + 6) (dd := ba) (l := l2) (i := 1) hh Z.sys S rfl (List.mem_of_getElem? (i := 4) rfl) n2 z2 (by decide +kernel) (by rfl) (by decide) rfl (by decide) (by rfl) (by rfl) rfl (by rfl) (by decide) (fun _ => by rfl) (fun _ => by rfl) (fun _ => by rfl) (fun _ => by rfl) fun D1 s₁ S₁ => ?_) (by rfl)
  refine r_nilcomp (c := L + 7) (dd := fa) (l := l3) (i := 1) hh Z.sys S₁ rfl (List.mem_of_getElem? (i := 4) rfl) n3 z3 (by decide +kernel) (by rfl) (by decide) rfl (by decide) (by rfl) (by rfl) rfl (by rfl) (by decide) (fun _ => by rfl) (fun _ => by rfl) (fun _ => by rfl) (fun _ => by rfl) fun D2 s₂ S₂ => ?_
  have e : nilL l2 = nilL l3 := by rw [nilL_get n2, nilL_get n3, hn]
  rw [e] at S₂
  refine r_eq_lists (l := nilL l3) hu S₂ (List.mem_of_getElem? (i := 1) rfl) (List.mem_of_getElem? (i := 0) rfl) ?_
  exact h ((D2, AO.list ((nilL l3).map sP)) :: (D1, .list ((nilL l3).map sP)) :: (fa, .dict (pvMap l3)) :: (ba, .dict (pvMap l2)) :: (aa, .dict (pvMap l1)) :: cR L own sz pr tx code (some (.ref ba)) (some (.ref fa)) []) _ s₂ S₂

set_option maxHeartbeats 2000000 in
theorem law_walk {items : Array Value} {ns : List Int} {OE : Obj} {Q : Flow → Shared → Prop} (Z : Lx C mg mb pl ea) (Rm : Room A (k + 6)) (hs : C.top.IsList sa items) (hi : IntsAre items.toList ns) (hz : ns.length ≤ 63)
    (S : St C h₀ L [("script", .ref sa)] (cR L none none none none none none none [(ea, .pin OE (.dict tokPV)), (pl, .tab)]) s)
    (h : ∀ P loc' s', St C h₀ L loc' (P ++ [(ea, .pin OE (.dict tokPV)), (pl, .tab)]) s' → Q (.ret (.bool true)) s') :
    wpAny (model C.prog C.w) A (execs (bodyOf (theDef 69)) (lawEnv L q a cd)) Q E s := by
  have B := Z.base
  have hh := Rm.handled
  obtain ⟨opa, hop, DO⟩ := Z.ops
  have hu : A.units < cLine := by have := Rm.units; lia
  show wpAny _ A (execs (lawSt 0 :: lawSt 1 :: lawSt 2 :: lawSt 3 :: lawSt 4 :: lawSt 5 :: lawSt 6 :: lawSt 7 :: lawSt 8 :: lawSt 9 :: [lawSt 10]) _) _ _ _
  -- own
  refine wpAny_execs_cons ?_
  show wpAny _ A (exec (.Assign [.Name _ _] (.Call _ [] [] _) _) _) _ _ _
  refine wpAny_Assign_Name (r_call0 B S DO hop (ops_spec B DO Rm S fun oa s₁ S₁ => ?_)) (swaps_call ..)
  refine stcellAt (c := L + 1) (p := .ref oa) S₁ 7 rfl rfl (fun s₂ S₂ => ?_) (by rfl)
  have S₃ : St C h₀ L [("script", .ref sa)] (cR L (some (.ref oa)) none none none none none none [(oa, .list (OPS.map sP)), (ea, .pin OE (.dict tokPV)), (pl, .tab)]) s₂ :=
    S₂.perm (List.perm_middle (l₁ := cR L (some (.ref oa)) none none none none none none []))
  clear S₂ S₁ S
  have hoa : (oa, AO.list (OPS.map sP)) ∈ [(oa, AO.list (OPS.map sP)), (ea, .pin OE (.dict tokPV)), (pl, .tab)] := List.mem_cons_self ..
  have hea : (ea, AO.pin OE (.dict tokPV)) ∈ [(oa, AO.list (OPS.map sP)), (ea, .pin OE (.dict tokPV)), (pl, .tab)] := List.mem_of_getElem? (i := 1) rfl
  have hpl : (pl, AO.tab) ∈ [(oa, AO.list (OPS.map sP)), (ea, .pin OE (.dict tokPV)), (pl, .tab)] := List.mem_of_getElem? (i := 2) rfl
  have FX : FlatR [(oa, AO.list (OPS.map sP)), (ea, .pin OE (.dict tokPV)), (pl, .tab)] :=
    FlatR.cons (flatTexts _) (FlatR.cons (.pin (.dict fun p hp => by obtain ⟨x, _, rfl⟩ := List.mem_map.mp hp; exact .int _)) (FlatR.cons .tab fun p hp => by cases hp))
  have hfin : ∀ P loc' s', St C h₀ L loc' (P ++ [(oa, AO.list (OPS.map sP)), (ea, .pin OE (.dict tokPV)), (pl, .tab)]) s' → Q (.ret (.bool true)) s' := fun P loc' s' S' => h (P ++ [(oa, AO.list (OPS.map sP))]) loc' s' (by rw [List.append_assoc]; exact S')
  generalize hX : [(oa, AO.list (OPS.map sP)), (ea, AO.pin OE (.dict tokPV)), (pl, AO.tab)] = X at S₃ hoa hea hpl FX hfin
  -- cells
  refine wpAny_execs_cons ?_
  show wpAny _ A (exec (.Assign [.Name _ _] (.List [] _) _) _) _ _ _
  refine wpAny_Assign_Name (wpAny_List (wpAny_items_nil ⟨sz0, ?_⟩)) (swaps_list ..)
  have S₄ := S₃.newList (vs := []) (l := []) trivial
  generalize s₂.heap.objs.size = ca at S₄ ⊢
  refine stloc (p := .ref ca) S₄ rfl fun s₃ S₅ => ?_
  replace S₅ := S₅.weaken (loc' := cLoc sa ca) ⟨by rfl, by rfl, trivial⟩
  refine wpAny_execs_cons (seg_cells Z hh hs hi hz S₅ FX fun cs sz s₄ hlen hb S₆ => ?_)
  refine wpAny_execs_cons (seg_pair S₆ hlen hb fun pa p0 p1 s₅ h0 h1 S₇ => ?_)
  refine wpAny_execs_cons (seg_texts (R := [(pa, .list ([p0, p1].map iP)), (ca, .list (cs.map iP))]) (iE := 2) Z hh S₇ hea rfl fun ta s₆ S₈ => ?_)
  -- codes
  refine wpAny_execs_cons ?_
  show wpAny _ A (exec (.Assign [.Name _ _] (.List _ _) _) _) _ _ _
  refine wpAny_Assign_Name ?_ ?_
  rotate_left
  · exact swaps_list _ _ _ _ _
  refine @r_listT C h₀ L (cLoc sa ca) _ s₆ _ _ _ _ _ CODES _ (by decide +kernel) S₈ (by decide) fun da s₇ S₉ => ?_
  refine stloc (p := .ref da) S₉ rfl fun s₈ S₁₀ => ?_
  -- words, due
  refine wpAny_execs_cons (r_swap2 S₁₀ hh (wpAny_items_cons (wpAny_List (wpAny_items_nil ⟨sz0, wpAny_items_cons (wpAny_List (wpAny_items_nil ⟨sz0, wpAny_items_nil ?_⟩))⟩))))
  have S₁₁ := S₁₀.newList (vs := []) (l := ([] : List T).map sP) trivial
  generalize s₈.heap.objs.size = wa at S₁₁ ⊢
  have S₁₂ := S₁₁.newList (vs := []) (l := ([] : List T).map sP) trivial
  generalize (s₈.heap.push { cls := .type "list", data := .seq ([] : List Value).toArray }).objs.size = ua at S₁₂ ⊢
  refine ⟨_, _, _, _, rfl, S₁₂, fun s₉ S₁₃ _ => ?_⟩
  refine stloc (p := .ref ua) S₁₃ rfl fun s₁₀ S₁₄ => stloc (p := .ref wa) S₁₄ rfl fun s₁₁ S₁₅ => ?_
  replace S₁₅ := S₁₅.weaken (loc' := lLoc sa ca da wa ua) ⟨by rfl, by rfl, by rfl, by rfl, by rfl, trivial⟩
  refine wpAny_execs_cons (seg_loop Z (Rm.le (j := 2) (by lia)) h0 h1 hoa hlen hb S₁₅ fun ws code s₁₂ hne hl hg S₁₆ => ?_)
  refine wpAny_execs_cons (seg_double Z hh hne hl hg S₁₆ fun us wa' ua' s₁₃ hne' hl' hg' S₁₇ => ?_)
  have W := wok hl' hg'
  obtain ⟨N1, a1, a2, a3⟩ := hrun_ends W.toWOk false
  obtain ⟨N2, b1, b2, b3⟩ := hrun_ends W.toWOk true
  obtain ⟨N3, c1, c2, c3⟩ := frun_ends W
  refine wpAny_execs_cons (seg_calls (k := k) Z Rm hpl W ⟨a1, a2, a3⟩ ⟨b1, b2, b3⟩ ⟨c1, c2, c3⟩ S₁₇ fun aa ba fa s₁₄ S₁₈ => ?_)
  refine wpAny_execs_cons (seg_ret Z hh hu (hrun_nodup a3) (hrun_nodup b3) (xinv W N3).first.nodup ?_ ?_ (law_ahead W a3 a2 c2) (law_back W b3 b2 c2) S₁₈ fun P loc' s₁₅ S₁₉ => hfin P loc' s₁₅ S₁₉)
  · have := (hrun_many true N2 b3).2; lia
  · have := x_firstN W N3; lia
end
end Mine

namespace Mine
open PySem PySem.W PyProof.Rows PySem.Calls

noncomputable def RAW70 : List (Str × Tok × Int × Tok) := [(Str.ofString "!", 620, 54, 616), (Str.ofString "!=", 622, 28, 564), (Str.ofString "%", 624, 24, 556), (Str.ofString "%=", 626, 40, 588), (Str.ofString "&", 628, 19, 546), (Str.ofString "&=", 630, 41, 590), (Str.ofString "(", 632, 7, 522), (Str.ofString ")", 634, 8, 524), (Str.ofString "*", 636, 16, 540), (Str.ofString "**", 638, 35, 578), (Str.ofString "**=", 640, 46, 600), (Str.ofString "*=", 642, 38, 584), (Str.ofString "+", 644, 14, 536), (Str.ofString "+=", 646, 36, 580), (Str.ofString ",", 648, 12, 532), (Str.ofString "-", 650, 15, 538), (Str.ofString "-=", 652, 37, 582), (Str.ofString "->", 654, 51, 610), (Str.ofString ".", 656, 23, 554), (Str.ofString "...", 658, 52, 612), (Str.ofString "/", 660, 17, 542), (Str.ofString "//", 662, 47, 602), (Str.ofString "//=", 664, 48, 604), (Str.ofString "/=", 666, 39, 586), (Str.ofString ":", 668, 11, 530), (Str.ofString ":=", 670, 53, 614), (Str.ofString ";", 672, 13, 534), (Str.ofString "<", 674, 20, 548), (Str.ofString "<<", 676, 33, 574), (Str.ofString "<<=", 678, 44, 596), (Str.ofString "<=", 680, 29, 566), (Str.ofString "=", 682, 22, 552), (Str.ofString "==", 684, 27, 562), (Str.ofString ">", 686, 21, 550), (Str.ofString ">=", 688, 30, 568), (Str.ofString ">>", 689, 34, 576), (Str.ofString ">>=", 690, 45, 598), (Str.ofString "@", 691, 49, 606), (Str.ofString "@=", 692, 50, 608), (Str.ofString "[", 693, 9, 526), (Str.ofString "]", 694, 10, 528), (Str.ofString "^", 695, 32, 572), (Str.ofString "^=", 696, 43, 594), (Str.ofString "{", 697, 25, 558), (Str.ofString "|", 698, 18, 544), (Str.ofString "|=", 699, 42, 592), (Str.ofString "}", 700, 26, 560), (Str.ofString "~", 701, 31, 570)]
noncomputable def RAW45 : List (Int × Tok × Str × Tok) := [(40, 334, Str.ofString "\\(", 338), (41, 340, Str.ofString "\\)", 344), (91, 346, Str.ofString "\\[", 350), (93, 352, Str.ofString "\\]", 356), (123, 358, Str.ofString "\\{", 362), (125, 364, Str.ofString "\\}", 368), (63, 370, Str.ofString "\\?", 374), (42, 376, Str.ofString "\\*", 380), (43, 382, Str.ofString "\\+", 386), (45, 388, Str.ofString "\\-", 392), (124, 394, Str.ofString "\\|", 398), (94, 400, Str.ofString "\\^", 404), (36, 406, Str.ofString "\\$", 410), (92, 412, Str.ofString "\\\\", 416), (46, 418, Str.ofString "\\.", 422), (38, 424, Str.ofString "\\&", 428), (126, 430, Str.ofString "\\~", 434), (35, 436, Str.ofString "\\#", 440), (32, 442, Str.ofString "\\ ", 446), (9, 448, Str.ofString "\\\t", 452), (10, 454, Str.ofString "\\\n", 458), (13, 460, Str.ofString "\\\x0d", 464), (11, 466, Str.ofString "\\\x0b", 470), (12, 472, Str.ofString "\\\x0c", 476)]
noncomputable def ent70 (P : Params) (r : Str × Tok × Int × Tok) : DictEntry := { hash := PyData.keyHash P r.1, key := .str r.1 r.2.1, val := .int r.2.2.1 r.2.2.2 }
noncomputable def ent45 (r : Int × Tok × Str × Tok) : DictEntry := { hash := r.1, key := .int r.1 r.2.1, val := .str r.2.2.1 r.2.2.2 }

theorem raw70_tok : RAW70.map (fun r => (r.1.cps.toList, r.2.2.1)) = TOK := by decide +kernel
theorem raw70_nodup : (RAW70.map (·.1)).Nodup := by decide +kernel
theorem raw45_ok : ∀ c : Nat, c < 128 → (RAW45.find? fun r => decide (r.1 = (c : Int))).map (·.2.2.1) = if c ∈ special then some (toS [92, c]) else none := by decide +kernel
theorem raw45_hash : ∀ r ∈ RAW45, hashInt r.1 = r.1 := by decide +kernel

/-- what the head leaves, but for the table of operators -/
noncomputable def TopIn (K : Frag) (top : Heap) : Prop := ∀ a o, a ≠ 70 → K.lookup a = some o → top.get? a = some o
/-- a def of the text as the head's written heap holds it -/
noncomputable def DefIn (K : Frag) (a : Addr) (st : Stmt) : Prop :=
  ∃ o fd c oc vs t, a ≠ 70 ∧ K.lookup a = some o ∧ o.data = .func fd ∧ fd.params = paramsOf st ∧ fd.body = .stmts (bodyOf st) ∧ fd.scope = scopeOf st ∧ fd.globals = mainGlobals ∧ fd.builtins = builtinsNs ∧ fd.closure = [] ∧ fd.defaults = .none ∧ fd.kwdefaults = .none ∧
    fd.code = .ref c ∧ c ≠ 70 ∧ K.lookup c = some oc ∧ oc.data = .fields vs ∧ vs[1]? = some (.str fd.qualname t)
theorem DefIn.mk {K : Frag} {a c : Addr} {st : Stmt} {fd : FuncData} {o oc : Obj} {vs : Array Value} {t : Tok} (ha : a ≠ 70) (e : K.lookup a = some o) (hd : o.data = .func fd) (h1 : fd.params = paramsOf st) (h2 : fd.body = .stmts (bodyOf st)) (h3 : fd.scope = scopeOf st)
    (h4 : fd.globals = mainGlobals) (h5 : fd.builtins = builtinsNs) (h6 : fd.closure = []) (h7 : fd.defaults = .none) (h8 : fd.kwdefaults = .none) (h9 : fd.code = .ref c) (hc : c ≠ 70) (e2 : K.lookup c = some oc) (h10 : oc.data = .fields vs) (h11 : vs[1]? = some (.str fd.qualname t)) : DefIn K a st :=
  ⟨o, fd, c, oc, vs, t, ha, e, hd, h1, h2, h3, h4, h5, h6, h7, h8, h9, hc, e2, h10, h11⟩
theorem DefIn.at {C : Cfg} {K : Frag} (X : TopIn K C.top) {a : Addr} {st : Stmt} (D : DefIn K a st) : DefAt C a st := by
  obtain ⟨o, fd, c, oc, vs, t, ha, e, hd, h1, h2, h3, h4, h5, h6, h7, h8, h9, hc, e2, h10, h11⟩ := D
  exact ⟨o, fd, X _ _ ha e, hd, h1, h2, h3, h4, h5, h6, h7, h8, ⟨c, oc, vs, t, h9, X _ _ hc e2, h10, h11⟩⟩
/-- the facts that the walk wants of the head's written heap -/
structure HeadFacts (K : Frag) (P : Params) : Prop where
  l70 : K.lookup 70 = some { cls := .type "dict", data := .dict (RAW70.map (ent70 P)).toArray 48 }
  l45 : K.lookup 45 = some { cls := .type "dict", data := .dict (RAW45.map ent45).toArray 24 }
  l36 : ∃ fs la o items n, K.lookup 36 = some { cls := .type "re.Pattern", data := .fields fs } ∧ fs.getD 5 .none = .ref la ∧ Builtin.Re.reRawNat (fs.getD 6 .none) = 0 ∧ Builtin.Re.reRawNat (fs.getD 2 .none) = 1 ∧
    la ≠ 70 ∧ K.lookup la = some o ∧ o.data = .seq items n ∧ ∀ c ∈ [42, 63, 91], ∃ n, ∀ g, X.skim g n (Builtin.Re.reRunToEnd (Sre.forSearch ((items.map Builtin.Re.reRawOf).map (·.toNat)) #[c] 1 0 1 false)) = pure none
  l62 : ∃ o fd, K.lookup 62 = some o ∧ o.data = .func fd ∧ fd.code = .ref 61
  d3 : DefIn K 43 (theDef 3)
  d6 : DefIn K 55 (theDef 6)
  d8 : DefIn K 62 (theDef 8)
  d9 : DefIn K 69 (theDef 9)
  d61 : DefIn K 79 (theDef 61)
  d63 : DefIn K 86 (theDef 63)
  d64 : DefIn K 93 (theDef 64)
  d65 : DefIn K 98 (theDef 65)
  d66 : DefIn K 105 (theDef 66)
  d67 : DefIn K 110 (theDef 67)
  d68 : DefIn K 115 (theDef 68)
  no : ∀ n ∈ (["len", "isinstance", "str", "object", "max", "min", "sum", "zip", "range", "int"] : List Str), nsIn K mainGlobals n = some none
  map : nsIn K mainGlobals "_special_chars_map" = some (some (.ref 45))
  pat : nsIn K mainGlobals "_twin_re_1" = some (some (.ref 36))
  esc : nsIn K mainGlobals "escape" = some (some (.ref 55))
  tr_ : nsIn K mainGlobals "_translate" = some (some (.ref 62))
  join_ : nsIn K mainGlobals "_join_translated_parts" = some (some (.ref 69))
  tr : nsIn K mainGlobals "translate" = some (some (.ref 43))
  plain : nsIn K mainGlobals "_law_plain" = some (some (.ref 93))
  stands : nsIn K mainGlobals "_law_stands" = some (some (.ref 98))
  left : nsIn K mainGlobals "_law_left" = some (some (.ref 105))
  ops : nsIn K mainGlobals "_law_operators" = some (some (.ref 86))
  isn : nsIn K mainGlobals "ISNONTERMINAL" = some (some (.ref 79))
  nt : ∃ t, nsIn K mainGlobals "NT_OFFSET" = some (some (.int 256 t))
  ett : nsIn K mainGlobals "EXACT_TOKEN_TYPES" = some (some (.ref 70))
  hang : nsIn K mainGlobals "_law_hanging" = some (some (.ref 110))
  fing : nsIn K mainGlobals "_law_fingers" = some (some (.ref 115))

section
variable {C : Cfg} {K : Frag} {P : Params}
theorem find45 (k : Int) : findBy (intKind C.prog C.w).is (RAW45.map ent45).toArray k = (RAW45.find? fun r => decide (r.1 = k)).map fun r => Value.str r.2.2.1 r.2.2.2 := by
  unfold findBy
  rw [← Array.find?_toList]
  show ((RAW45.map ent45).find? _).map _ = _
  rw [List.find?_map, Option.map_map]
  have : ((fun e : DictEntry => (intKind C.prog C.w).is k e.key) ∘ ent45) = fun r => decide (r.1 = k) := by
    funext r
    show Value.isInt k (.int r.1 r.2.1) = _
    unfold Value.isInt
    rw [Bool.eq_iff_iff]; simp
  rw [this]; rfl
variable (X : TopIn K C.top) (F : HeadFacts K P)
include X F
theorem mapOk : MapOk C 45 := by
  refine ⟨by decide, fun k => (RAW45.find? fun r => decide (r.1 = k)).map fun r => Value.str r.2.2.1 r.2.2.2, ⟨_, _, _, X 45 _ (by decide) F.l45, ⟨rfl, rfl, rfl⟩, rfl, fun e he => ?_, fun k => find45 k⟩, fun c hc => ?_⟩
  · have he : e ∈ RAW45.map ent45 := by simpa using he
    obtain ⟨r, hr, rfl⟩ := List.mem_map.mp he
    exact ⟨r.1, intKey _ _ _ _, (raw45_hash r hr).symm⟩
  · have h := raw45_ok c hc
    cases hf : RAW45.find? fun r => decide (r.1 = (c : Int)) with
    | none =>
      rw [hf] at h
      refine ⟨fun hs => ?_, fun _ => by simp only [hf]; rfl⟩
      rw [if_pos hs] at h; cases h
    | some r =>
      rw [hf] at h
      by_cases hs : c ∈ special
      · rw [if_pos hs] at h
        refine ⟨fun _ => ⟨r.2.2.2, ?_⟩, fun q => absurd hs q⟩
        simp only [hf]
        have : r.2.2.1 = toS [92, c] := by simpa using h
        show some (Value.str r.2.2.1 r.2.2.2) = _
        rw [this]
      · rw [if_neg hs] at h; cases h
theorem patOk : PatOk C 36 := by
  obtain ⟨fs, la, o, items, n, e, h5, h6, h2, hla, e2, hd, hs⟩ := F.l36
  exact ⟨fs, la, o, items, n, X 36 _ (by decide) e, h5, h6, h2, X la _ hla e2, hd, hs⟩
end

section
variable {w : World} {loose : List Str} {mean : ExcName → Option Value} {mg mb : Str → Option Value} {G : Heap} {prog : Program} {gens : Array GenState} {drawn : Drawn} {os : OsState}
theorem hide_in {K : Frag} (X : K.In G) : TopIn K (hideAll G [70]) := fun a o ha e => hideAll_get [70] (X a o e) (by simpa using ha)
theorem hide_ns {a : Addr} {m : Str → Option Value} (ha : a ≠ 70) (x : G.Ns a m) : (hideAll G [70]).Ns a m := by
  obtain ⟨o, es, ep, e, r⟩ := x
  exact ⟨o, es, ep, hideAll_get [70] e (by simpa using ha), r⟩
theorem lx_of {K : Frag} (X : K.In G) (F : HeadFacts K w.params) (T : Top topProg loose mean mg mb G) (hcd : CodeHd G 61 57) (h57 : G.get? 57 = none) : Lx ⟨prog, w, hideAll G [70], gens, drawn, os⟩ mg mb 57 70 := by
  have TI := hide_in X
  have N := T.g
  have bi : ∀ {x : Str} {v : Value}, x ≠ "__name__" → bootBuiltins x = some v → mb x = some v := fun hx h => (T.builtins _ hx).trans h
  have g70 := X 70 _ F.l70
  refine {
    base := ⟨hide_ns (by decide) T.g, hide_ns (by decide) T.b, ?_⟩, len := ⟨mg_none_of X N (F.no _ (by decide +kernel)), bi (by decide) (by kernel_rfl)⟩, isi := ⟨mg_none_of X N (F.no _ (by decide +kernel)), bi (by decide) (by kernel_rfl)⟩, str := ⟨mg_none_of X N (F.no _ (by decide +kernel)), bi (by decide) (by kernel_rfl)⟩,
    obj := ⟨mg_none_of X N (F.no _ (by decide +kernel)), bi (by decide) (by kernel_rfl)⟩, bm := ?_, map := ⟨45, mg_of X N F.map, mapOk TI F⟩, pat := ⟨36, mg_of X N F.pat, patOk TI F⟩, esc := ⟨55, mg_of X N F.esc, F.d6.at TI⟩, tr_ := ⟨62, mg_of X N F.tr_, F.d8.at TI, ?_⟩,
    join_ := ⟨69, mg_of X N F.join_, F.d9.at TI⟩, tr := ⟨43, mg_of X N F.tr, F.d3.at TI⟩, sys := ?_, max := ⟨mg_none_of X N (F.no _ (by decide +kernel)), bi (by decide) (by kernel_rfl)⟩, min := ⟨mg_none_of X N (F.no _ (by decide +kernel)), bi (by decide) (by kernel_rfl)⟩,
    plain := ⟨93, mg_of X N F.plain, F.d64.at TI⟩, stands := ⟨98, mg_of X N F.stands, F.d65.at TI⟩, left := ⟨105, mg_of X N F.left, F.d66.at TI⟩, sum := ⟨mg_none_of X N (F.no _ (by decide +kernel)), bi (by decide) (by kernel_rfl)⟩, zip := ⟨mg_none_of X N (F.no _ (by decide +kernel)), bi (by decide) (by kernel_rfl)⟩,
    range := ⟨mg_none_of X N (F.no _ (by decide +kernel)), bi (by decide) (by kernel_rfl)⟩, int := ⟨mg_none_of X N (F.no _ (by decide +kernel)), bi (by decide) (by kernel_rfl)⟩, ops := ⟨86, mg_of X N F.ops, F.d63.at TI⟩, isn := ⟨79, mg_of X N F.isn, F.d61.at TI⟩, nt := F.nt.imp fun _ e => mg_of X N e,
    ett := mg_of X N F.ett, hang := ⟨110, mg_of X N F.hang, F.d67.at TI⟩, fing := ⟨115, mg_of X N F.fing, F.d68.at TI⟩ }
  · obtain ⟨mc, a, r⟩ := T.nolimit
    exact ⟨mc, hide_ns (by decide) a, r⟩
  · obtain ⟨bm, ob, a1, a2, a3, a4, a5, a6⟩ := T.bmain
    have hd : ∀ {b : Addr} {o : Obj} {es : Array DictEntry} {n : Nat}, G.get? b = some o → o.data = .dict es n → bm ≠ b := fun e h q => by
      rw [← q, a3] at e; cases e
      rw [a6] at h; cases h
    refine ⟨bm, ob, a1, a2, ?_, ?_, hideAll_get [70] a3 (by simpa using hd g70 rfl), a4, a5, a6⟩
    · obtain ⟨o, es, ep, e, h, _⟩ := T.g
      exact hd e h
    · intro q; rw [q, h57] at a3; cases a3
  · intro o fd ho hfd
    obtain ⟨o2, fd2, e62, hd2, hc2⟩ := F.l62
    have h62 := TI 62 _ (by decide) e62
    have ho' : (hideAll G [70]).get? 62 = some o := ho
    rw [h62] at ho'
    cases ho'
    rw [hd2] at hfd
    cases hfd
    obtain ⟨oc, vs, file, tf, flags, tg, inF, text, tt, e1, r⟩ := hcd
    exact ⟨61, hc2, oc, vs, file, tf, flags, tg, inF, text, tt, hideAll_get [70] e1 (by decide), r⟩
  · obtain ⟨o, es, ep, e, _⟩ := hide_ns (G := G) (by decide) T.g
    exact ⟨o, e⟩
end
end Mine

namespace Mine

open PySem PySem.W PyProof.Rows PySem.Calls

theorem kvr70 (h : Heap) : KVR h tokPV (RAW70.map fun r => (r.1, Value.int r.2.2.1 r.2.2.2)) := by
  have e : tokPV = RAW70.map fun r => (r.1, iP r.2.2.1) := by
    show TOK.map (fun x => (toS x.1, iP x.2)) = _
    rw [← raw70_tok, List.map_map]
    exact List.map_congr_left fun r _ => by show (toS r.1.cps.toList, iP r.2.2.1) = _; rw [← toS_of r.1]
  rw [e]
  generalize RAW70 = l
  induction l with
  | nil => exact trivial
  | cons r l ih => exact ⟨rfl, .int _ _, ih⟩
theorem pairs70 (prog : Program) (w : World) : Pairs (strKind prog w) (RAW70.map (ent70 w.params)) (RAW70.map fun r => (r.1, Value.int r.2.2.1 r.2.2.2)) := by
  generalize RAW70 = l
  induction l with
  | nil => exact .nil
  | cons r l ih => exact .cons (strKey _ _ _ _) rfl ih
theorem dict70 {C : Cfg} {h : Heap} (e : h.get? 70 = some { cls := .type "dict", data := .dict (RAW70.map (ent70 C.w.params)).toArray 48 }) : OR C h 70 (.dict tokPV) := by
  refine ⟨_, ⟨_, _, _, e, ⟨rfl, rfl, rfl⟩, rfl, fun x hx => ?_, ?_, ?_⟩, kvr70 h⟩
  · have hx : x ∈ RAW70.map (ent70 C.w.params) := by simpa using hx
    obtain ⟨r, hr, rfl⟩ := List.mem_map.mp hx
    exact ⟨r.1, strKey _ _ _ _, rfl⟩
  · exact pairs70 _ _
  · rw [List.map_map]; exact raw70_nodup

theorem nodupOffs {L a b : Nat} {offs : List Nat} (h : offs.Nodup) (ha : a < L) (hb : b < L) (hab : a ≠ b) : (offs.map (L + ·) ++ [a, b]).Nodup := by
  refine List.nodup_append.mpr ⟨List.pairwise_map.mpr (h.imp fun n e => n (Nat.add_left_cancel e)), by simp [hab], fun x hx y hy => ?_⟩
  obtain ⟨o, _, rfl⟩ := List.mem_map.mp hx
  have h1 : L ≤ L + o := Nat.le_add_right ..
  rcases List.mem_cons.mp hy with rfl | hy
  · exact Nat.ne_of_gt (Nat.lt_of_lt_of_le ha h1)
  · rw [List.mem_singleton.mp hy]; exact Nat.ne_of_gt (Nat.lt_of_lt_of_le hb h1)

theorem bridge {K : Frag} {prog : Program} {w : World} {s₁ : Shared} {mg mb : Str → Option Value} {loose : List Str} {mean : ExcName → Option Value} {fa sa : Addr} {cd : Value} {h₁ : Heap} {tk₁ : Nat} {vals : List Value} {ns : List Int} {m : Str → Option Value} {o6 o5 o4 o3 o2 o1 o0 : Obj} {q : Str} {A : Around}
    {Q : Flow → Shared → Prop} {E : Value → Shared → Prop}
    (X' : K.In (ghostOf s₁.heap [(61, 57)])) (HF : HeadFacts K w.params) (T' : Top topProg loose mean mg mb (ghostOf s₁.heap [(61, 57)])) (codeHd : CodeHd (ghostOf s₁.heap [(61, 57)]) 61 57) (F' : Fr (ghostOf s₁.heap [(61, 57)]) s₁.heap.objs.size h₁ m) (hm : m "script" = some (.ref sa))
    (N' : News (ghostOf s₁.heap [(61, 57)]) s₁.heap.objs.size h₁ [(s₁.heap.objs.size + 7, o6), (s₁.heap.objs.size + 6, o5), (s₁.heap.objs.size + 5, o4), (s₁.heap.objs.size + 4, o3), (s₁.heap.objs.size + 3, o2), (s₁.heap.objs.size + 2, o1), (s₁.heap.objs.size + 1, o0), (57, tabObj #[])])
    (e6 : o6.data = .cell none) (e5 : o5.data = .cell none) (e4 : o4.data = .cell none) (e3 : o3.data = .cell none) (e2 : o2.data = .cell none) (e1 : o1.data = .cell none) (e0 : o0.data = .cell none)
    (lifted : (ghostOf s₁.heap [(61, 57)]).IsList sa vals.toArray) (hI : IntsAre vals ns) (hlen : ¬ ((63 : Nat) : Int) < (ns.length : Int)) (l0 : 57 < s₁.heap.objs.size) (Rm : Room A 6)
    (h : ∀ s', (∀ b o, (ghostOf s₁.heap [(61, 57)]).get? b = some o → s'.heap.get? b = some o) → s'.os = s₁.os → s'.gens = s₁.gens → GrownAll [(61, 57)] s'.heap → Q (.ret (.bool true)) s') :
    wpAny (model prog w) A (execs (bodyOf (theDef 69)) (lawEnv s₁.heap.objs.size q fa cd)) Q E { heap := h₁, gens := s₁.gens, drawn := s₁.drawn, toks := tk₁, os := s₁.os } := by
  have hG57 : (ghostOf s₁.heap [(61, 57)]).get? 57 = none := hideAll_none _ (by simp)
  have g70 := X' 70 _ HF.l70
  have h70 : 70 < s₁.heap.objs.size := Heap.lt_size (of_hideAll _ g70)
  generalize hg : ghostOf s₁.heap [(61, 57)] = G at *
  have hGs : ∀ b o, G.get? b = some o → b < s₁.heap.objs.size := fun b o e => by rw [← hg] at e; exact Heap.lt_size (of_hideAll _ e)
  generalize hL : s₁.heap.objs.size = L at *
  let C : Cfg := ⟨prog, w, hideAll G [70], s₁.gens, s₁.drawn, s₁.os⟩
  have Z : Lx C mg mb 57 70 := lx_of X' HF T' codeHd hG57
  have hTop : ∀ b o, C.top.get? b = some o → G.get? b = some o := fun b o e => of_hideAll _ e
  have hfree : ∀ b : Nat, L ≤ b → C.top.get? b = none := fun b hb => by
    cases e : C.top.get? b with
    | none => rfl
    | some o =>
      have h1 : @LT.lt Nat _ b L := hGs b o (hTop b o e)
      lia
  have hsm : (sysModules : Nat) = 1 := rfl
  have hoff : ∀ b : Nat, L ≤ b → C.Off b := fun b hb => ⟨hfree b hb, by show @LT.lt Nat _ sysModules b; rw [hsm]; lia⟩
  have hc : ∀ (i : Nat) (o : Obj), (L + i, o) ∈ [(L + 7, o6), (L + 6, o5), (L + 5, o4), (L + 4, o3), (L + 3, o2), (L + 2, o1), (L + 1, o0), ((57 : Addr), tabObj #[])] → o.data = .cell none → OR C h₁ (L + i) (.cell none) := fun i o hm e => ⟨o, (N' _ hm).1, e⟩
  have S : St C h₁ L [("script", .ref sa)] (cR L none none none none none none none [(70, .pin { cls := .type "dict", data := .dict (RAW70.map (ent70 w.params)).toArray 48 } (.dict tokPV)), (57, .tab)]) { heap := h₁, gens := s₁.gens, drawn := s₁.drawn, toks := tk₁, os := s₁.os } := by
    refine ⟨rfl, rfl, rfl, fun b o e => F'.keep b o (hTop b o e), TK.refl _, ⟨m, F'.ns, fun x p hx => ?_⟩, hoff L (Nat.le_refl _), ?_, fun p hp => ?_, fun p hp => ?_⟩
    · rw [List.lookup_cons] at hx
      split at hx
      · rename_i hb
        cases hx
        rw [beq_iff_eq.mp hb]
        exact ⟨_, hm, rfl⟩
      · cases hx
    · exact nodupOffs (L := L) (a := 70) (b := 57) (offs := [0, 7, 6, 5, 4, 3, 2, 1]) (by decide) h70 l0 (by decide)
    · simp only [List.mem_cons, List.not_mem_nil, or_false] at hp
      rcases hp with rfl | rfl | rfl | rfl | rfl | rfl | rfl | rfl | rfl
      · exact hoff _ (Nat.le_add_right ..)
      · exact hoff _ (Nat.le_add_right ..)
      · exact hoff _ (Nat.le_add_right ..)
      · exact hoff _ (Nat.le_add_right ..)
      · exact hoff _ (Nat.le_add_right ..)
      · exact hoff _ (Nat.le_add_right ..)
      · exact hoff _ (Nat.le_add_right ..)
      · exact ⟨hideAll_none _ (List.mem_singleton.mpr rfl), show @LT.lt Nat _ 1 70 by decide⟩
      · refine ⟨?_, show @LT.lt Nat _ 1 57 by decide⟩
        cases e : C.top.get? 57 with
        | none => rfl
        | some o => rw [hTop _ _ e] at hG57; cases hG57
    · simp only [List.mem_cons, List.not_mem_nil, or_false] at hp
      rcases hp with rfl | rfl | rfl | rfl | rfl | rfl | rfl | rfl | rfl
      · exact hc 7 o6 (List.mem_of_getElem? (i := 0) rfl) e6
      · exact hc 6 o5 (List.mem_of_getElem? (i := 1) rfl) e5
      · exact hc 5 o4 (List.mem_of_getElem? (i := 2) rfl) e4
      · exact hc 4 o3 (List.mem_of_getElem? (i := 3) rfl) e3
      · exact hc 3 o2 (List.mem_of_getElem? (i := 4) rfl) e2
      · exact hc 2 o1 (List.mem_of_getElem? (i := 5) rfl) e1
      · exact hc 1 o0 (List.mem_of_getElem? (i := 6) rfl) e0
      · exact ⟨F'.keep _ _ g70, dict70 (F'.keep _ _ g70)⟩
      · exact ⟨#[], (N' (57, tabObj #[]) (List.mem_of_getElem? (i := 7) rfl)).1, trivial⟩
  have hsa : C.top.IsList sa vals.toArray := by
    obtain ⟨o, e, hcl, r⟩ := lifted
    refine ⟨o, hideAll_get [70] e ?_, hcl, r⟩
    simp only [List.mem_singleton]
    intro q
    rw [q, g70] at e
    cases e
    obtain ⟨n, r⟩ := r
    cases r
  refine law_walk (k := 0) Z Rm hsa (by simpa using hI) (by lia) S fun P loc' s' S' => ?_
  have h70' := (S'.ok (70, _) (List.mem_append_right _ (List.mem_cons_self ..))).1
  have h57' := S'.ok (57, .tab) (List.mem_append_right _ (List.mem_of_getElem? (i := 1) rfl))
  refine h s' (fun b o e => ?_) S'.os S'.gens ?_
  · by_cases hb : b = 70
    · subst hb
      rw [g70] at e; cases e
      exact h70'
    · exact S'.top b o (hideAll_get [70] e (by simpa using hb))
  · obtain ⟨ps, e, _⟩ := h57'
    exact ⟨⟨ps, e⟩, trivial⟩
end Mine

open PySem PySem.W PyProof.Rows PySem.Calls
namespace Mine
theorem post_law (l : OpenLaw) (args after : List WData) : l.row.claim.post args (.bool true) after = true := by
  show (WShape.has [] (.bool true) .bool && WTm.holds [] (.eq .res (.lit (.bool true))) { args := args, res := some (.bool true), after := after }) = true
  rw [Bool.and_eq_true_iff]
  refine ⟨by rfl, ?_⟩
  have e : same (WData.bool true) (WData.bool true) = true := same_self _
  simp [WTm.holds, WTm.value, e]
/-! The head's tool lays, for each definition that it makes, a quicker one under these names, and a long proof that both are equal.
Where a name is taken already, it does without. That keeps the compiled file small: hence the empty theorems under these names. -/
theorem whole.tw4605417425148642151 : True := trivial
theorem whole.tw16870967930914563926 : True := trivial
theorem whole.tw17692944630003236201 : True := trivial
theorem whole.tw4882939151822159636 : True := trivial
theorem whole.tw272886880108286182 : True := trivial
theorem whole.tw14031613983174702221 : True := trivial
theorem whole.tw7466904020207815869 : True := trivial
theorem whole.tw8243020233432551205 : True := trivial
theorem whole.tw3150075250938504248 : True := trivial
theorem whole.tw10354518954362131899 : True := trivial
theorem whole.tw10178181129370835086 : True := trivial
theorem whole.tw4918820536221260690 : True := trivial
theorem whole.tw11678933692714762019 : True := trivial
theorem whole.tw11690859581915506653 : True := trivial
theorem whole.tw1072497446573119103 : True := trivial
theorem whole.tw8799044985600393684 : True := trivial
theorem whole.tw11116944545036436439 : True := trivial
theorem whole.tw3687826684616867901 : True := trivial
theorem whole.tw1765076044715932963 : True := trivial
theorem whole.tw9347626172496877827 : True := trivial
theorem whole.tw12442016628978143412 : True := trivial
theorem whole.tw12179455670472476543 : True := trivial
theorem whole.tw1488662743745869538 : True := trivial
theorem whole.tw8181180424491326830 : True := trivial
theorem whole.tw2013318861076662011 : True := trivial
theorem whole.tw10499325594661192776 : True := trivial
theorem whole.tw1266484639899004939 : True := trivial
theorem whole.tw7509650053966640704 : True := trivial
theorem whole.tw17075553230084287909 : True := trivial
theorem whole.tw15089273742334493110 : True := trivial
theorem whole.tw5942346508108547180 : True := trivial
theorem whole.tw13334927893685096626 : True := trivial
theorem whole.tw14661705875561194100 : True := trivial
theorem whole.tw10301362462094837657 : True := trivial
theorem whole.tw10379991877525085312 : True := trivial
theorem whole.tw17395194986337826024 : True := trivial
theorem whole.tw13974613887430780637 : True := trivial
theorem whole.tw7185185305316088854 : True := trivial
theorem whole.tw3166543957339863982 : True := trivial
theorem whole.tw1182916100746360932 : True := trivial
theorem whole.tw7689902935678670512 : True := trivial
theorem whole.tw3945383572190744343 : True := trivial
theorem whole.tw14395644662136614805 : True := trivial
theorem whole.tw7101197657001211085 : True := trivial
theorem whole.tw17092094596097150618 : True := trivial
theorem whole.tw13675596732203519343 : True := trivial
theorem whole.tw46433443316919834 : True := trivial
theorem whole.tw2439357469168130064 : True := trivial
theorem whole.tw11409993775148365219 : True := trivial
theorem whole.tw16529046165737248422 : True := trivial
theorem whole.tw6774775609766916077 : True := trivial
theorem whole.tw17463027529269885953 : True := trivial
theorem whole.tw10335108021726791369 : True := trivial
theorem whole.tw1633898876240874773 : True := trivial
theorem whole.tw254780913952180833 : True := trivial
theorem whole.tw8868806382682364411 : True := trivial
theorem whole.tw203428145850139289 : True := trivial
theorem whole.tw11423436602419212718 : True := trivial
theorem whole.tw10002100669626812175 : True := trivial
theorem whole.tw9722750020625992282 : True := trivial
theorem whole.tw397210227534267232 : True := trivial
theorem whole.tw14916202748087371944 : True := trivial
theorem whole.tw12808456870637180559 : True := trivial
theorem whole.tw9315315907157715723 : True := trivial
theorem whole.tw12384220206497402333 : True := trivial
theorem whole.tw6711224856247384401 : True := trivial
theorem whole.tw6377287985247879410 : True := trivial
theorem whole.tw113900542113845248 : True := trivial
theorem whole.tw13142167418276237254 : True := trivial
theorem whole.tw13463558215457259582 : True := trivial
theorem whole.tw17179786008130999086 : True := trivial
theorem whole.tw7564407027854533171 : True := trivial
theorem whole.tw8309436690622926411 : True := trivial
theorem whole.tw10118140284582671090 : True := trivial
theorem whole.tw14239292526413980002 : True := trivial
theorem whole.tw13962616709173656972 : True := trivial
theorem whole.tw17980908128825299112 : True := trivial
theorem whole.tw17195952149560314771 : True := trivial
theorem whole.tw9521756469634577901 : True := trivial
theorem whole.tw3479739002732855021 : True := trivial
theorem whole.tw12920395458479335663 : True := trivial
theorem whole.tw15015764479258077956 : True := trivial
theorem whole.tw9046693723037758376 : True := trivial
theorem whole.tw6095937858554715304 : True := trivial
theorem whole.tw6612613915786651340 : True := trivial
theorem whole.tw6496092161831514541 : True := trivial
theorem whole.tw4163455835068889971 : True := trivial
theorem whole.tw13989200534822022692 : True := trivial
theorem whole.tw6531100040246800141 : True := trivial
theorem whole.tw12928932934922122878 : True := trivial
theorem whole.tw3141554390599180669 : True := trivial
theorem whole.tw381110514646162275 : True := trivial
theorem whole.tw5405151241437436114 : True := trivial
theorem whole.tw1021466310418864216 : True := trivial
theorem whole.tw15652777202477211125 : True := trivial
theorem whole.tw12117460353608821864 : True := trivial
theorem whole.tw10438997657263567297 : True := trivial
theorem whole.tw715978364194892080 : True := trivial
theorem whole.tw6896427876366098391 : True := trivial
theorem whole.tw978456291528864041 : True := trivial
theorem whole.tw5879479702872096659 : True := trivial
theorem whole.tw16062187612904122858 : True := trivial
theorem whole.tw10332575325313852403 : True := trivial
theorem whole.tw16668768811381343612 : True := trivial
theorem whole.tw12092817750456807627 : True := trivial
theorem whole.tw13000713063990318526 : True := trivial
theorem whole.tw3802398583823018356 : True := trivial
theorem whole.tw14192229110069238088 : True := trivial
theorem whole.tw9838295914634562783 : True := trivial
theorem whole.tw9464417701048127947 : True := trivial
theorem whole.tw7280849871689594849 : True := trivial
theorem whole.tw12762855891700095494 : True := trivial
theorem whole.tw6084657873442493111 : True := trivial
theorem whole.tw7499365098147365621 : True := trivial
theorem whole.tw9189751539129569556 : True := trivial
theorem whole.tw1256279898242784606 : True := trivial
theorem whole.tw14776171463994254414 : True := trivial
theorem whole.tw13155097880312403346 : True := trivial
theorem whole.tw14407849266092530191 : True := trivial
theorem whole.tw18315055452531851272 : True := trivial
theorem whole.tw16151222146762293071 : True := trivial
theorem whole.tw9212966250080664162 : True := trivial
theorem whole.tw2959683903145980101 : True := trivial
theorem whole.tw2083198920140632441 : True := trivial
theorem whole.tw427333557424167660 : True := trivial
theorem whole.tw6396017553259284124 : True := trivial
theorem whole.tw16505068655815891843 : True := trivial
theorem whole.tw16304597587823193687 : True := trivial
theorem whole.tw137721658169608169 : True := trivial
theorem whole.tw3127163415804763599 : True := trivial
theorem whole.tw15338273372565686330 : True := trivial
theorem whole.tw14875044017630859624 : True := trivial
theorem whole.tw4107823604484434990 : True := trivial
theorem whole.tw8341004590406740810 : True := trivial
theorem whole.tw17475311184863085016 : True := trivial
theorem whole.tw8184708281838074206 : True := trivial
theorem whole.tw10467399731503315703 : True := trivial
theorem whole.tw12381228794656768651 : True := trivial
theorem whole.tw11357175057958205107 : True := trivial
theorem whole.tw4725433933799282014 : True := trivial
theorem whole.tw8258574867067344367 : True := trivial
theorem whole.tw13156973312945586846 : True := trivial
theorem whole.tw9707250908836423824 : True := trivial
theorem whole.tw14671651394210877623 : True := trivial
theorem whole.tw9121730484126507938 : True := trivial
theorem whole.tw8444963059077079450 : True := trivial
theorem whole.tw2781955308351554444 : True := trivial
theorem whole.tw3846472181373799198 : True := trivial
theorem whole.tw11850914282074322712 : True := trivial
theorem whole.tw11860497122814397755 : True := trivial
theorem whole.tw1469139166737108290 : True := trivial
theorem whole.tw15103685750691789098 : True := trivial
theorem whole.tw5477020428343274486 : True := trivial
theorem whole.tw9446046918361872579 : True := trivial
theorem whole.tw9235561108164731721 : True := trivial
theorem whole.tw7056001396292377188 : True := trivial
theorem whole.tw10025635815308576066 : True := trivial
theorem whole.tw5938623499991607928 : True := trivial
theorem whole.tw6416634858453334624 : True := trivial
theorem whole.tw9406530864695525851 : True := trivial
theorem whole.tw15401142651479110994 : True := trivial
theorem whole.tw4357746044423742650 : True := trivial
theorem whole.tw17169624498616045403 : True := trivial
theorem whole.tw3085902745639715626 : True := trivial
theorem whole.tw14492196311604417308 : True := trivial
theorem whole.tw17529894129228449367 : True := trivial
theorem whole.tw6266228650988000492 : True := trivial
theorem whole.tw7525632177321363660 : True := trivial
theorem whole.tw9654072969724333583 : True := trivial
theorem whole.tw10887019763833697050 : True := trivial
theorem whole.tw1640677438868554593 : True := trivial
theorem whole.tw12562849145585476731 : True := trivial
theorem whole.tw12850242359631670003 : True := trivial
theorem whole.tw17781206938751360472 : True := trivial
theorem whole.tw1902754551582867561 : True := trivial
theorem whole.tw4479364801722962140 : True := trivial
theorem whole.tw15835130817642446534 : True := trivial
theorem whole.tw14381574177426341226 : True := trivial
theorem whole.tw18060336119277286115 : True := trivial
theorem whole.tw11876454138822706389 : True := trivial
theorem whole.tw2912573282932879776 : True := trivial
theorem whole.tw6356627984389668255 : True := trivial
theorem whole.tw10590843552420965350 : True := trivial
theorem whole.tw6525215580464160042 : True := trivial
theorem whole.tw8615399842404961663 : True := trivial
theorem whole.tw7698167830941964204 : True := trivial
theorem whole.tw6026061190352596624 : True := trivial
theorem whole.tw16544233456350748990 : True := trivial
theorem whole.tw6922295251260701466 : True := trivial
theorem whole.tw3769988826177174460 : True := trivial
theorem whole.tw9305182965593076673 : True := trivial
theorem whole.tw4519558184572046095 : True := trivial
theorem whole.tw7462886158688516975 : True := trivial
theorem whole.tw16758389396702803908 : True := trivial
theorem whole.tw17473765248736567162 : True := trivial
theorem whole.tw4772109522679134768 : True := trivial
theorem whole.tw14771430627347023196 : True := trivial
theorem whole.tw16068062850248180055 : True := trivial
theorem whole.tw9163894529645416974 : True := trivial
theorem whole.tw638039869848467855 : True := trivial
theorem whole.tw13016044829739569204 : True := trivial
theorem whole.tw11465640654943744700 : True := trivial
theorem whole.tw8077490855313093083 : True := trivial
theorem whole.tw5702584312116558190 : True := trivial
theorem whole.tw10800750444694983254 : True := trivial
theorem whole.tw6347837038165353218 : True := trivial
theorem whole.tw2768549608211560555 : True := trivial
theorem whole.tw6805729614010249013 : True := trivial
theorem whole.tw3619989788208562024 : True := trivial
theorem whole.tw3395460030480962145 : True := trivial
theorem whole.tw16887156387777295879 : True := trivial
theorem whole.tw16458975022613616615 : True := trivial
theorem whole.tw11257192444722382472 : True := trivial
theorem whole.tw5671774944652516210 : True := trivial
theorem whole.tw1049226634938451339 : True := trivial
theorem whole.tw3172664488797932361 : True := trivial
theorem whole.tw14633801591440929080 : True := trivial
theorem whole.tw3375216759611724106 : True := trivial
theorem whole.tw12482749595856122172 : True := trivial
theorem whole.tw7900284458755725242 : True := trivial
theorem whole.tw11815051133581886887 : True := trivial
theorem whole.tw17139489815344077886 : True := trivial
theorem whole.tw3429679726885709340 : True := trivial
theorem whole.tw6760967555228750574 : True := trivial
theorem whole.tw4385814770128095146 : True := trivial
theorem whole.tw14165115802777765920 : True := trivial
theorem whole.tw1470681187219097129 : True := trivial
theorem whole.tw7513667402550292886 : True := trivial
theorem whole.tw14755996477730495490 : True := trivial

set_option Elab.async true in
set_option maxHeartbeats 8000000 in
theorem whole : PySem.Challenge.rw_ij0177_01.Holds := by
  w_on
  o_law
  k_head
  (case hw => w_witness2)
  k_go0
  (all_goals try k_fold)
  rename_i hg X V T B TE TW ns hs hlay0 hL1 hr1 hl2 wA wB sa vals wC hL ra w1 r0 hI hr hlen hcd' hD h₁ tk₁ o6 o5 o4 o3 o2 o1 o0 e6 e5 e4 e3 e2 e1 e0 X0 X' T' K' F' N' l0
  refine Mine.bridge X' ?_ T' codeHd F' (by rfl) N' e6 e5 e4 e3 e2 e1 e0 lifted hI hlen l0 ?_ fun s' hk hos hgens hgr => ?_
  · refine ⟨by rfl, by rfl, ⟨_, 35, _, _, _, rfl, rfl, rfl, rfl, by decide, rfl, rfl, fun c hc => ?_⟩, ⟨_, _, rfl, rfl, rfl⟩, ?_, ?_, ?_, ?_, ?_, ?_, ?_, ?_, ?_, ?_, ?_, ?_, by kernel_rfl, by kernel_rfl, by kernel_rfl, by kernel_rfl, by kernel_rfl, by kernel_rfl, by kernel_rfl, by kernel_rfl, by kernel_rfl, by kernel_rfl, by kernel_rfl, ⟨_, rfl⟩, by kernel_rfl, by kernel_rfl, by kernel_rfl⟩
    · simp only [List.mem_cons, List.not_mem_nil, or_false] at hc
      rcases hc with rfl | rfl | rfl
      · exact ⟨400, fun g => by kernel_rfl⟩
      · exact ⟨400, fun g => by kernel_rfl⟩
      · exact ⟨400, fun g => by kernel_rfl⟩
    iterate 11 exact .mk (by decide) rfl rfl rfl rfl rfl rfl rfl rfl rfl rfl rfl (by decide) rfl rfl rfl
    · intro n hn
      simp only [List.mem_cons, List.not_mem_nil, or_false] at hn
      rcases hn with rfl | rfl | rfl | rfl | rfl | rfl | rfl | rfl | rfl | rfl <;> kernel_rfl
  · exact (show Mine.Room callerA 7 from ⟨rfl, by decide +kernel, by decide +kernel⟩).deeper _
  · exact ⟨⟨.inl ⟨.bool true, .bool true, [], rfl, fun _ => rfl, .bool true, Mine.post_law _ _ _, unshared_nil⟩, hk, hos, hgens.trans hg⟩, hgr⟩
end Mine

set_option maxHeartbeats 8000000 in
theorem PySem.Challenge.cw_ij0177_01_holds : PySem.Challenge.rw_ij0177_01.Holds := by
  exact Mine.whole
