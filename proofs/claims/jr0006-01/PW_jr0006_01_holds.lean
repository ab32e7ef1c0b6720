import PyProof.Rows.All
import Wide.All
import OpenK.AllK
import Wide.FinOn
import PySem.Challenge.RW_jr0006_01
open PySem PySem.W PyProof.Rows
set_option Elab.async false
set_option compiler.extract_closed false
namespace Mine
noncomputable def lo : List PySem.Str := [PySem.Str.ofString "ProtocolError", PySem.Str.ofString "validate", PySem.Str.ofString "normalize_and_validate"]
noncomputable def vw : PySem.Program := view (RowW.prog PySem.Challenge.rw_jr0006_01.row.toRowW) [0,  2,  3,  4,  5,  6,  7,  8,  9,  10,  12,  13,  14,  16,  18,  19,  21,  22,  23,  25,  26,  27,  28,  29,  30,  31,  32,  33,  34,  35]
section
variable {d : DefRec} {kwd : List (PySem.Str × PySem.Expr)}
abbrev rw0 := PySem.Challenge.rw_jr0006_01.row
theorem headL (H : Hook) (left : LeftO (RowW.prog rw0.toRowW) vw lo (fun s => xlAt vw [] s && recOk (RowW.records rw0.toRowW) s) H.obs H.val 3878)
    (hdef : defOf vw (RowW.name rw0.toRowW) = some (d, kwd)) (hp : (RowW.prog rw0.toRowW).theDef (RowW.name rw0.toRowW) = some (d.params, d.body, d.scope)) (hk : kwWritten? d.params.kwonlyargs d.params.kw_defaults = some kwd)
    (k1 : OpenRow.wellSaid rw0 = true) (hw : RowW.promised rw0.toRowW) (hc : WalkO vw lo (XL vw []) H.says rw0.toRowW d kwd fun f vs => PySem.call f vs) : OpenRow.Holds rw0 :=
  holds_open left H.of H.keeps (fun s e => xl_of s (Bool.and_eq_true_iff.mp e).1) XL.keeps hdef hp hk (fun s e => recFacts_of (Bool.and_eq_true_iff.mp e).2) (by rfl) k1 (by decide +kernel) ⟨rfl, rfl, rfl, rfl, rfl, by decide +kernel⟩ hw hc
end
local macro_rules | `(tactic| o_law) => `(tactic| refine holds_law (by decide +kernel) fun said => ?_)
local macro_rules | `(tactic| o_head $H) => `(tactic| refine headL $H (by intro w; kernel_rfl) (by rfl) (by rfl) (by rfl) ‹_› ?hw ?hc)
set_option maxRecDepth 100000 in
set_option maxHeartbeats 8000000 in
open_top hd for PySem.Challenge.rw_jr0006_01
end Mine
open PySem.Spec PySem.Calls
set_option maxRecDepth 100000
set_option maxHeartbeats 4000000
set_option rowWalk.seconds 0
namespace Mine
theorem fill_all : PySem.Challenge.rw_jr0006_01 = PySem.Challenge.rw_jr0006_01 ∧ Mine.hd.heap_1 = Mine.hd.heap_1 := by
  k_fill
  exact ⟨rfl, rfl⟩

-- part MA
theorem start_MA : True := by
  w_top off
  trivial
section




/-- everything that stood stands -/
abbrev Ext (h h' : Heap) : Prop := ∀ b o, h.get? b = some o → h'.get? b = some o
theorem Ext.rfl' {h : Heap} : Ext h h := fun _ _ e => e
theorem Ext.trans {a b c : Heap} (x : Ext a b) (y : Ext b c) : Ext a c := fun _ _ e => y _ _ (x _ _ e)
theorem Ext.push {h : Heap} (o : Obj) : Ext h (h.push o) := fun _ _ e => Heap.get?_push_of_some _ e


/-- a heap cut to some addresses -/
noncomputable def cut (h : Heap) (p : Addr → Bool) : Heap := { objs := h.objs.mapIdx fun i o => if p i then o else { o with data := .freed }, life := h.life }
theorem cut_get (h : Heap) (p : Addr → Bool) (a : Addr) : (cut h p).get? a = if p a = true then h.get? a else none := by
  unfold Heap.get? cut
  simp only [Array.getElem?_mapIdx]
  cases hq : h.objs[a]? with
  | none => simp
  | some o =>
    simp only [Option.map_some]
    by_cases hp : p a = true
    · rw [if_pos hp, if_pos hp]
    · rw [if_neg hp, if_neg hp]
theorem cut_ext (h : Heap) (p : Addr → Bool) : Ext (cut h p) h := fun b o e => by
  rw [cut_get] at e
  split at e
  · exact e
  · cases e
theorem fresh_none {h : Heap} {a : Addr} (ha : h.objs.size ≤ a) : h.get? a = none := by
  cases e : h.get? a with
  | none => rfl
  | some o => exact absurd (Heap.lt_size e) (Nat.not_lt.mpr ha)


/-- all that z holds is new beside h -/
noncomputable def Fresh (h z : Heap) : Prop := ∀ a o, z.get? a = some o → h.get? a = none


/-- the state in a def's block: frozen heaps zs, the locals at L, the block's own objects -/
structure St (zs : List Heap) (L : Addr) (m : Str → Option Value) (own : List (Addr × Obj)) (h : Heap) : Prop where
  ns : h.Ns L m
  mine : ∀ p ∈ own, h.get? p.1 = some p.2
  nd : (L :: own.map (·.1)).Nodup
  fz : ∀ z ∈ zs, Ext z h ∧ ∀ a ∈ L :: own.map (·.1), z.get? a = none

section
variable {zs : List Heap} {L : Addr} {m : Str → Option Value} {own : List (Addr × Obj)} {h h' : Heap} {a : Addr} {o : Obj}

theorem St.ext (S : St zs L m own h) (e : Ext h h') : St zs L m own h' :=
  ⟨S.ns.keeps e, fun p hp => e _ _ (S.mine p hp), S.nd, fun z hz => ⟨(S.fz z hz).1.trans e, (S.fz z hz).2⟩⟩
theorem St.froz (S : St zs L m own h) {z : Heap} (hz : z ∈ zs) : Ext z h := (S.fz z hz).1
theorem St.drop (S : St zs L m ((a, o) :: own) h) : St zs L m own h :=
  ⟨S.ns, fun p hp => S.mine p (.tail _ hp), by
    have := S.nd
    simp only [List.map_cons, List.nodup_cons, List.mem_cons, not_or] at this ⊢
    exact ⟨this.1.2, this.2.2⟩, fun z hz => ⟨(S.fz z hz).1, fun b hb => (S.fz z hz).2 b (by
      rcases List.mem_cons.mp hb with e | e
      · exact e ▸ .head _
      · exact .tail _ (.tail _ e))⟩⟩
theorem St.less {zs' : List Heap} (S : St zs L m own h) (hs : ∀ z ∈ zs', z ∈ zs) : St zs' L m own h := ⟨S.ns, S.mine, S.nd, fun z hz => S.fz z (hs z hz)⟩
theorem St.swap {b : Addr} {p : Obj} (S : St zs L m ((a, o) :: (b, p) :: own) h) : St zs L m ((b, p) :: (a, o) :: own) h := by
  refine ⟨S.ns, fun q hq => S.mine q ?_, ?_, fun z hz => ⟨(S.fz z hz).1, fun c hc => (S.fz z hz).2 c ?_⟩⟩
  · simp only [List.mem_cons] at hq ⊢; rcases hq with e | e | e <;> simp [e]
  · have := S.nd
    simp only [List.map_cons, List.nodup_cons, List.mem_cons, not_or] at this ⊢
    obtain ⟨⟨h1, h2, h3⟩, ⟨h4, h5⟩, h6, h7⟩ := this
    exact ⟨⟨h2, h1, h3⟩, ⟨Ne.symm h4, h6⟩, h5, h7⟩
  · simp only [List.map_cons, List.mem_cons] at hc ⊢; rcases hc with e | e | e | e <;> simp [e]

/-- a new frozen heap: new beside all that stood -/
theorem St.add {z : Heap} (S : St zs L m own h) (e : Ext h h') (hz : Ext z h') (hn : Fresh h z) : St (z :: zs) L m own h' := by
  have S' := S.ext e
  refine ⟨S'.ns, S'.mine, S'.nd, fun y hy => ?_⟩
  rcases List.mem_cons.mp hy with rfl | hy
  · refine ⟨hz, fun b hb => ?_⟩
    cases q : y.get? b with
    | none => rfl
    | some o' =>
      have nb := hn b o' q
      rcases List.mem_cons.mp hb with rfl | hb
      · obtain ⟨oL, _, _, hL, _⟩ := S.ns
        rw [hL] at nb; cases nb
      · obtain ⟨p, hp, rfl⟩ := List.mem_map.mp hb
        rw [S.mine p hp] at nb; cases nb
  · exact S'.fz y hy

/-- a heap's change at the locals alone -/
theorem St.set {m' : Str → Option Value} (S : St zs L m own h) (hn : h'.Ns L m') (hs : Heap.SameBut L h h') : St zs L m' own h' := by
  have nd := List.nodup_cons.mp S.nd
  refine ⟨hn, fun p hp => (hs.2 _ fun e => nd.1 (e ▸ List.mem_map_of_mem hp)).trans (S.mine p hp), S.nd, fun z hz => ⟨fun b ob e => (hs.2 b fun q => ?_).trans ((S.fz z hz).1 b ob e), (S.fz z hz).2⟩⟩
  have := (S.fz z hz).2 L (.head _)
  rw [q, this] at e; cases e

/-- a new object of the block's own -/
theorem St.push (S : St zs L m own h) (o : Obj) (hf : o.isFreed = false := by rfl) : St zs L m ((h.objs.size, o) :: own) (h.push o) := by
  have S' := S.ext (Ext.push o)
  have nd := List.nodup_cons.mp S.nd
  have nL : h.objs.size ≠ L := fun e => absurd (S.ns.lt) (e ▸ Nat.lt_irrefl _)
  have nO : ∀ p ∈ own, p.1 ≠ h.objs.size := fun p hp e => absurd (Heap.lt_size (S.mine p hp)) (e ▸ Nat.lt_irrefl _)
  refine ⟨S'.ns, fun p hp => ?_, ?_, fun z hz => ⟨(S'.fz z hz).1, fun b hb => ?_⟩⟩
  · rcases List.mem_cons.mp hp with rfl | hp
    · exact Heap.get?_push_size _ hf
    · exact S'.mine p hp
  · simp only [List.map_cons, List.nodup_cons, List.mem_cons, not_or]
    refine ⟨⟨Ne.symm nL, nd.1⟩, fun q => ?_, nd.2⟩
    obtain ⟨p, hp, e⟩ := List.mem_map.mp q
    exact nO p hp e
  · have hb' : b = h.objs.size ∨ b ∈ L :: own.map (·.1) := by
      simp only [List.map_cons, List.mem_cons] at hb ⊢
      rcases hb with e | e | e
      · exact .inr (.inl e)
      · exact .inl e
      · exact .inr (.inr e)
    rcases hb' with rfl | hb'
    · cases q : z.get? h.objs.size with
      | none => rfl
      | some o' => exact absurd (Heap.lt_size ((S.fz z hz).1 _ _ q)) (Nat.lt_irrefl _)
    · exact (S.fz z hz).2 b hb'

/-- the first own object turned -/
theorem St.upd {o' : Obj} (S : St zs L m ((a, o) :: own) h) (hs : Heap.SameBut a h h') (e : h'.get? a = some o') : St zs L m ((a, o') :: own) h' := by
  have nd := S.nd
  simp only [List.map_cons, List.nodup_cons, List.mem_cons, not_or] at nd
  refine ⟨S.ns.sameBut hs nd.1.1, fun p hp => ?_, S.nd, fun z hz => ⟨fun b ob q => (hs.2 b fun y => ?_).trans ((S.fz z hz).1 b ob q), (S.fz z hz).2⟩⟩
  · rcases List.mem_cons.mp hp with rfl | hp
    · exact e
    · exact (hs.2 _ fun y => nd.2.1 (y ▸ List.mem_map_of_mem hp)).trans (S.mine p (.tail _ hp))
  · have := (S.fz z hz).2 a (.tail _ (.head _))
    rw [← y, q] at this; cases this

/-- the first own object joins a frozen heap -/
theorem St.freeze (S : St zs L m ((a, o) :: own) h) {z : Heap} (hz : z ∈ zs) :
    ∃ z', Ext z z' ∧ z'.get? a = some o ∧ (∀ b ob, z'.get? b = some ob → b = a ∨ (z.get? b).isSome = true) ∧ St (z' :: zs) L m own h := by
  have nd := S.nd
  simp only [List.map_cons, List.nodup_cons, List.mem_cons, not_or] at nd
  let p : Addr → Bool := fun b => b == a || (z.get? b).isSome
  have pz : Ext z (cut h p) := fun b ob e => by
    rw [cut_get, if_pos (by simp [p, e])]; exact (S.fz z hz).1 b ob e
  have D := S.drop
  refine ⟨cut h p, pz, ?_, fun b ob e => ?_, D.ns, D.mine, D.nd, fun y hy => ?_⟩
  · rw [cut_get, if_pos (by simp [p])]; exact S.mine (a, o) (.head _)
  · rw [cut_get] at e
    split at e
    · rename_i q; simp only [p, Bool.or_eq_true, beq_iff_eq] at q; exact q
    · cases e
  · rcases List.mem_cons.mp hy with rfl | hy
    · refine ⟨cut_ext _ _, fun b hb => ?_⟩
      rw [cut_get, if_neg ?_]
      have hz' := (D.fz z hz).2 b hb
      have hba : b ≠ a := fun e => by
        subst e
        rcases List.mem_cons.mp hb with e | e
        · exact nd.1.1 e.symm
        · exact nd.2.1 e
      simp [p, hz', hba]
    · exact D.fz y hy
theorem St.ownAt (S : St zs L m ((a, o) :: own) h) : h.get? a = some o := S.mine _ (.head _)
theorem St.fr {h₀ : Heap} (S : St zs L m own h) (hz : h₀ ∈ zs) (hL : h₀.objs.size ≤ L) : Fr h₀ L h m := ⟨S.ns, (S.fz h₀ hz).1, hL⟩
end


/-- what a call asks of its surroundings -/
structure Amb (w : World) (A : Around) (d u : Nat) (fr : List Env) (h : Heap) : Prop where
  frames : A.frames = some fr
  ff : h.FunFrames {} fr
  k : (Mine.hd.heap_1 w.params).In h
  t : ∃ p loose mean mg mb, Top p loose mean mg mb h
  hd : A.handled = none
  dep : A.depth + d < recursionLimit
  un : A.units + u < cLine
theorem Amb.ext {w : World} {A : Around} {d u : Nat} {fr : List Env} {h h' : Heap} (x : Amb w A d u fr h) (e : Ext h h') : Amb w A d u fr h' :=
  ⟨x.frames, x.ff.of_keeps fun b o hb _ => ⟨o, e b o hb, rfl⟩, x.k.keeps e, let ⟨p, l, me, mg, mb, T⟩ := x.t; ⟨p, l, me, mg, mb, T.keeps e⟩, x.hd, x.dep, x.un⟩
theorem Amb.less {w : World} {A : Around} {d u d' u' : Nat} {fr : List Env} {h : Heap} (x : Amb w A d u fr h) (hd : d' ≤ d := by omega) (hu : u' ≤ u := by omega) : Amb w A d' u' fr h :=
  ⟨x.frames, x.ff, x.k, x.t, x.hd, Nat.lt_of_le_of_lt (by omega) x.dep, Nat.lt_of_le_of_lt (by omega) x.un⟩
theorem Amb.in1 {w : World} {A : Around} {d u : Nat} {fr : List Env} {h : Heap} (x : Amb w A d (u + 1) fr h) : Amb w A.in1 d u fr h :=
  ⟨x.frames, x.ff, x.k, x.t, x.hd, x.dep, by have := x.un; show A.units + 1 + u < _; omega⟩

/-- of a block's surroundings: those of a call that the block makes -/
theorem Amb.block {w : World} {A : Around} {d u : Nat} {fr : List Env} {h₀ h : Heap} {zs : List Heap} {L : Addr} {m : Str → Option Value} {own : List (Addr × Obj)} {env : Env}
    (x : Amb w A (d + 1) (u + 3) fr h₀) (S : St zs L m own h) (hz : h₀ ∈ zs) (hf : env.frame = some L) (hk : env.scope.kind = .function) : Amb w (A.deeper env) d u (env :: fr) h := by
  have y := x.ext (S.froz hz)
  refine ⟨Around.frames_deeper x.frames, ?_, y.k, y.t, x.hd, by have := x.dep; show A.depth + 1 + d < _; omega, by have := x.un; show A.units + 3 + u < _; omega⟩
  exact .cons (by rw [hk]; decide) hf S.ns (by simp [Heap.get?]) y.ff

section
variable {prog : Program} {w : World} {A : Around} {s : Shared} {fr : List Env} {d u : Nat}
  {R : Result → Shared → Prop} {name qual : Str} {params : Arguments} {body : List Stmt} {scope : Scope} {dV kV doc pm cdv ct oc : Value} {an od : Option Addr} {osl : Array (Option Value)} {f : Addr} {args : Args} {binds : List (Str × Value)}

theorem enter (am : Amb w A (d + 1) u fr s.heap) (ho : (Mine.hd.heap_1 w.params).lookup f = some ⟨oc, od, .func (fnOf name qual params body scope dV kV doc pm an cdv ct), osl⟩) (hcd : codeIn (Mine.hd.heap_1 w.params) cdv qual = true)
    (hbind : BindsTo s (fnOf name qual params body scope dV kV doc pm an cdv ct) args binds) (hloc : ∀ y ∈ binds, scope.names.lookup y.1 = some .local)
    (h : ∀ L h₁, s.heap.objs.size ≤ L → St [s.heap] L (fun y => binds.reverse.lookup y) [] h₁ →
      wpAny (model prog w) (A.deeper (envX qual scope L f cdv [])) (execs body (envX qual scope L f cdv []))
        (fun fl s' => R (.ok (.ret (match fl with | .ret v => v | _ => .none))) s')
        (fun e s' => wpAny (model prog w) (A.deeper (envX qual scope L f cdv [])) (leaving (envX qual scope L f cdv []) e) (fun _ s'' => R (.error e) s'') (fun e' s'' => R (.error e') s'') s')
        { s with heap := h₁, toks := s.toks + binds.length })
    (hcell : ∀ x ∈ scope.names, x.2 ≠ .cell := by decide) (hco : scope.isCoroutine = false := by rfl) (hgen : scope.isGenerator = false := by rfl) (hk : scope.kind = .function := by rfl) :
    codeAny (model prog w) A (.call (.ref f) args) R s := by
  obtain ⟨_, _, _, _, _, T⟩ := am.t
  refine codeAny_call_def (fd := fnOf name qual params body scope dV kV doc pm an cdv ct) (body := body) (binds := binds) (by have := am.dep; omega) (am.k _ _ ho) rfl T.nolimit (codeRec_of am.k hcd) rfl hbind hcell hloc (fun h₁ hns hk₁ => ?_) hco hgen hk
  exact h _ h₁ (Nat.le_refl _) ⟨hns, (fun _ hp => (nomatch hp)), by simp, fun z hz => by
    rw [List.mem_singleton.mp hz]
    exact ⟨hk₁, fun a ha => by rw [List.mem_singleton.mp ha]; exact fresh_none (Nat.le_refl _)⟩⟩
end
end
-- part MC
theorem start_MC : True := by
  w_top off
  trivial
section


/-- a source of items: what pyIter handed on at s₂, seen from s₁ -/
structure Src (prog : Program) (w : World) (A : Around) (s₁ s₂ : Shared) (I : Addr) (n : Nat) (P : Nat → Value → Prop) (Gn : Array GenState → Array GenState → Prop) : Prop where
  ok : ∃ fp wr Stt, WalksS prog w A I fp wr Gn n P Stt ∧ Stt 0 s₂ ∧ (∀ b ∈ fp, ∃ o, s₂.heap.get? b = some o) ∧ (∀ b ∈ wr, s₁.heap.get? b = none) ∧
    (∀ i s target v (Q : Unit → Shared → Prop) E, Stt i s → Q () s → wpAny (model prog w) A (letOwnedTupleGo target (.ref I) v) Q E s) ∧
    (∀ i s, Stt i s → ∀ b ∈ wr, (s.heap.get? b).isSome = true)
  same : s₂ = { s₁ with heap := s₂.heap, gens := s₂.gens, toks := s₂.toks }
  ext : Ext s₁.heap s₂.heap
  gens : Gn s₁.gens s₂.gens
  size : n ≤ sizeLine

theorem lets_of {prog : Program} {w : World} {A : Around} {I : Addr} {s : Shared} {o : Obj} {T : String} (ho : s.heap.get? I = some o) (hT : o.cls = .type T)
    (hn : (["enumerate", "zip", "dict_itemiterator", "dict_reverseitemiterator", "odict_iterator", "itertools.zip_longest", "itertools.pairwise"].contains T) = false)
    (target : Expr) (v : Value) (Q : Unit → Shared → Prop) (E : Value → Shared → Prop) (h : Q () s) : wpAny (model prog w) A (letOwnedTupleGo target (.ref I) v) Q E s := by
  have key : ∀ a : Addr, wpAny (model prog w) A (do
      let o ← load I
      match o.cls, o.data with
      | .type n, .fields vs =>
        if ["enumerate", "zip", "dict_itemiterator", "dict_reverseitemiterator", "odict_iterator", "itertools.zip_longest", "itertools.pairwise"].contains n && vs[0]? == some (rawInt a) then
          rule "for.unpacks-the-owned-tuple"
          updateField I 0 .none
      | _, _ => pure ()) Q E s := by
    intro a
    refine wpAny_bind (wpAny_load ho ?_)
    rw [hT]
    cases o.data with
    | fields vs =>
      dsimp only
      rw [hn]
      exact wpAny_pure h
    | _ => exact wpAny_pure h
  unfold letOwnedTupleGo
  cases target <;> first | exact wpAny_pure h | skip
  all_goals (cases v <;> first | exact wpAny_pure h | exact key _)

section
variable {prog : Program} {w : World} {A : Around} {E : Value → Shared → Prop} {R : Result → Shared → Prop} {s : Shared}

theorem compLoop_any {elt target iter : Expr} {ifs : List Expr} {scope : Scope} {pos : Pos} {it acc : Value} {env : Env} (I : Nat → Shared → Prop)
    (turn : ∀ (J : Nat → Shared → Prop) (E' : Value → Shared → Prop), (∀ n s, I n s → J n s) → ∀ n s, I n s → wpAny (model prog w) A (pyNext it) (fun r s₁ => match r with
      | none => R (.ok .next) s₁
      | some v => wpAny (model prog w) A (letOwnedTupleGo target it v) (fun _ s₁ => wpAny (model prog w) A (assign target env v) (fun _ s₂ =>
          wpAny (model prog w) A (forIn ifs true fun c r => if r = true then do let ok ← isTrue c env (eval c env); pure (ForInStep.yield ok) else pure (ForInStep.yield r)) (fun ok s₃ =>
            if ok = true then wpAny (model prog w) A (eval elt env) (fun x s₄ =>
              wpAny (model prog w) A (call (.builtin "list.append") [acc, x]) (fun _ s₅ => ∃ m, m < n ∧ J m s₅) E' s₄) E' s₃
            else ∃ m, m < n ∧ J m s₃) E' s₂) E' s₁) E' s₁) E' s)
    (n : Nat) (h : I n s) :
    codeAny (model prog w) A (.compLoop (.ListComp elt [⟨target, iter, ifs, 0⟩] scope pos) 0 it acc env) R s := by
  refine codeAny_loop rfl I (fun n s hI => ?_) n h
  show wpAny _ A ((compTurn (.ListComp elt [⟨target, iter, ifs, 0⟩] scope pos) 0 it acc env).onRaise (fun x => do noteFrame x env; theTreesLotGoes x)) _ _ s
  refine wpAny_noted ?_
  rw [compTurn_list]
  refine wpAny_bind (wpAny_standAt (wpAny_bind (wpAny_mono (turn I _ (fun _ _ h => h) n s hI) (fun r s₁ h₁ => ?_) fun _ _ h' => h')))
  cases r with
  | none => exact wpAny_pure h₁
  | some v =>
    refine wpAny_bind (wpAny_mono h₁ (fun _ s₁ h₁ => ?_) fun _ _ h' => h')
    refine wpAny_bind (wpAny_mono h₁ (fun _ s₂ h₂ => wpAny_bind (wpAny_mono h₂ (fun ok s₃ h₃ => ?_) fun _ _ h' => h')) fun _ _ h' => h')
    cases ok with
    | false => exact wpAny_pure ⟨rfl, h₃⟩
    | true =>
      exact wpAny_bind (wpAny_bind (wpAny_mono h₃ (fun x s₄ h₄ => wpAny_bind (wpAny_mono h₄ (fun _ s₅ h₅ => wpAny_pure (wpAny_pure ⟨rfl, h₅⟩)) fun _ _ h' => h')) fun _ _ h' => h'))


/-- a turn's change: the comprehension's own names alone -/
structure CMv (C : Addr) (s s' : Shared) : Prop where
  same : s' = { s with heap := s'.heap, toks := s'.toks }
  ext : ∀ b o, b ≠ C → s.heap.get? b = some o → s'.heap.get? b = some o
  ns : ∃ m, s'.heap.Ns C m
theorem CMv.of {zs : List Heap} {C : Addr} {m : Str → Option Value} {own : List (Addr × Obj)} {s : Shared} {h' z : Heap} {tk : Nat} (S : St zs C m own h') (hz : z ∈ zs) (k : ∀ b o, b ≠ C → s.heap.get? b = some o → z.get? b = some o) :
    CMv C s { s with heap := h', toks := tk } := ⟨rfl, fun b o hb e => S.froz hz b o (k b o hb e), ⟨m, S.ns⟩⟩


/-- the turn of a comprehension: its item i is v -/
noncomputable def Turn (prog : Program) (w : World) (A : Around) (target : Expr) (ifs : List Expr) (elt : Expr) (cenv : Env) (C : Addr) (p : Nat → Bool) (F : Heap → Nat → Value → Prop) (i : Nat) (v : Value) (E : Value → Shared → Prop) (s₃ : Shared) : Prop :=
  wpAny (model prog w) A (assign target cenv v) (fun _ s₄ =>
    wpAny (model prog w) A (forIn ifs true fun c r => if r = true then do let ok ← isTrue c cenv (eval c cenv); pure (ForInStep.yield ok) else pure (ForInStep.yield r)) (fun ok s₅ => ok = p i ∧
      if ok = true then wpAny (model prog w) A (eval elt cenv) (fun y s₆ => CMv C s₃ s₆ ∧ ∃ z, Fresh s₃.heap z ∧ Ext z s₆.heap ∧ F z i y) E s₅ else CMv C s₃ s₅) E s₄) E s₃

theorem comp_loop {elt target iter : Expr} {ifs : List Expr} {scope : Scope} {cenv : Env} {pos : Pos} {I D : Addr} {fp wr : List Addr} {Gn : Array GenState → Array GenState → Prop} {n : Nat} {P : Nat → Value → Prop} {Stt : Nat → Shared → Prop}
    (W : WalksS prog w A I fp wr Gn n P Stt)
    (lets : ∀ i s v (Q : Unit → Shared → Prop) E, Stt i s → Q () s → wpAny (model prog w) A (letOwnedTupleGo target (.ref I) v) Q E s)
    (lives : ∀ i s, Stt i s → ∀ b ∈ wr, (s.heap.get? b).isSome = true)
    (p : Nat → Bool) (F : Heap → Nat → Value → Prop) (hF : ∀ z z' i v, Ext z z' → F z i v → F z' i v)
    {h₂ : Heap} {g₂ : Array GenState} {m : Str → Option Value} (hfp : ∀ b ∈ fp, ∃ o, h₂.get? b = some o) (hC : h₂.get? cenv.locals = none) (hD : h₂.get? D = none) (hDC : D ≠ cenv.locals)
    (hst : Stt 0 s) (hn : s.heap.Ns cenv.locals m) (ho : s.heap.get? D = some (listOf #[] 0)) (old : ∀ b o, b ∉ wr → h₂.get? b = some o → s.heap.get? b = some o) (hg : Gn g₂ s.gens) (hsz : n ≤ sizeLine)
    (turn : ∀ i v s₃ m₃ E', i < n → P i v → s₃.heap.Ns cenv.locals m₃ → (∀ b o, b ∉ wr → h₂.get? b = some o → s₃.heap.get? b = some o) → Gn g₂ s₃.gens → Turn prog w A target ifs elt cenv cenv.locals p F i v E' s₃)
    (done : ∀ h' g' tk m' ys nn z, h'.Ns cenv.locals m' → Fresh h₂ z → Ext z h' → z.get? cenv.locals = none → z.get? D = none → h'.get? D = some (listOf ys nn) → Paired (F z) ((List.range n).filter p) ys.toList →
      (∀ b o, b ∉ wr → h₂.get? b = some o → h'.get? b = some o) → Gn g₂ g' → R (.ok .next) { s with heap := h', gens := g', toks := tk }) :
    codeAny (model prog w) A (.compLoop (.ListComp elt [⟨target, iter, ifs, 0⟩] scope pos) 0 (.ref I) (.ref D) cenv) R s := by
  have hwr : ∀ b ∈ wr, ∃ o, h₂.get? b = some o := fun b hb => hfp b (W.sub b hb)
  have nC : cenv.locals ∉ wr := fun hm => by obtain ⟨o, e⟩ := hwr _ hm; rw [hC] at e; cases e
  have nD : D ∉ wr := fun hm => by obtain ⟨o, e⟩ := hwr _ hm; rw [hD] at e; cases e
  refine compLoop_any (fun k s' => ∃ i z ys nn m', k = n - i ∧ i ≤ n ∧ Stt i s' ∧ s'.heap.Ns cenv.locals m' ∧ s'.heap.get? D = some (listOf ys nn) ∧ (∀ b o, b ∉ wr → h₂.get? b = some o → s'.heap.get? b = some o) ∧
    Fresh h₂ z ∧ Ext z s'.heap ∧ z.get? cenv.locals = none ∧ z.get? D = none ∧ Paired (F z) ((List.range i).filter p) ys.toList ∧ Gn g₂ s'.gens ∧ s' = { s with heap := s'.heap, gens := s'.gens, toks := s'.toks }) ?_ n
    ⟨0, {}, #[], 0, m, rfl, Nat.zero_le _, hst, hn, ho, old, (fun a o e => by simp [Heap.get?] at e), (fun a o e => by simp [Heap.get?] at e), by simp [Heap.get?], by simp [Heap.get?], by simpa using Paired.nil, hg, rfl⟩
  rintro J E' hJ k s' ⟨i, z, ys, nn, m', rfl, hi, hst', hn', ho', old', hz1, hz2, hz3, hz4, hF', hg', hs'⟩
  by_cases hlt : i < n
  · refine W.item i s' _ _ hlt hst' fun v s₃ hPv hst₃ mv => ?_
    refine lets (i + 1) s₃ v _ _ hst₃ ?_
    have old₃ : ∀ b o, b ∉ wr → h₂.get? b = some o → s₃.heap.get? b = some o := fun b o hb e => mv.heap b o hb (old' b o hb e)
    have hn₃ := hn'.at' fun o e => mv.heap _ o nC e
    have ho₃ := mv.heap _ _ nD ho'
    have hg₃ := W.gtrans _ _ _ hg' mv.gens
    have zw : ∀ b o, z.get? b = some o → b ∉ wr := fun b o e hm => by
      obtain ⟨o', e'⟩ := hwr b hm
      rw [hz1 b o e] at e'; cases e'
    have hz₃ : Ext z s₃.heap := fun b o e => mv.heap b o (zw b o e) (hz2 b o e)
    have s₃eq : s₃ = { s with heap := s₃.heap, gens := s₃.gens, toks := s₃.toks } := by
      rw [hs'] at mv
      obtain ⟨_, _, e1, e2, _⟩ := mv
      cases s₃; simp only at e1 e2; subst e1; subst e2; rfl
    have T := turn i v s₃ _ E' hlt hPv hn₃ old₃ hg₃
    have fin : ∀ (h₅ : Heap) (tk₅ : Nat) (z' : Heap) (ys' : Array Value) (nn' : Nat) (m₅ : Str → Option Value), s₃.toks ≤ tk₅ → (∀ b o, b ≠ cenv.locals → b ≠ D → s₃.heap.get? b = some o → h₅.get? b = some o) → h₅.Ns cenv.locals m₅ →
        h₅.get? D = some (listOf ys' nn') → Fresh h₂ z' → Ext z' h₅ → z'.get? cenv.locals = none → z'.get? D = none → Paired (F z') ((List.range (i + 1)).filter p) ys'.toList →
        ∃ m, m < n - i ∧ J m { s₃ with heap := h₅, toks := tk₅ } := by
      intro h₅ tk₅ z' ys' nn' m₅ htk hk hn₅ ho₅ f1 f2 f3 f4 f5
      have ne : ∀ b o, h₂.get? b = some o → b ≠ cenv.locals ∧ b ≠ D := fun b o e => ⟨(fun q => by rw [q, hC] at e; cases e), (fun q => by rw [q, hD] at e; cases e)⟩
      refine ⟨n - (i + 1), Nat.sub_lt_sub_left hlt (Nat.lt_succ_self i), hJ _ _ ⟨i + 1, z', ys', nn', m₅, rfl, hlt, ?_, hn₅, ho₅, fun b o hb e => hk b o (ne b o e).1 (ne b o e).2 (old₃ b o hb e), f1, f2, f3, f4, f5, hg₃, by rw [s₃eq]⟩⟩
      exact W.frame _ s₃ h₅ tk₅ hst₃ htk fun b hb o e => by
        obtain ⟨o', e'⟩ := hfp b hb
        exact hk b o (ne b o' e').1 (ne b o' e').2 e
    refine wpAny_mono (wpAny_toks_of (Nat.le_refl s₃.toks) T) (fun _ s₄ h₄ => wpAny_mono (wpAny_toks_of h₄.1 h₄.2) (fun ok s₅ h₅ => ?_) fun _ _ e => e.2) fun _ _ e => e.2
    obtain ⟨e4, h₅⟩ := h₅
    obtain ⟨rfl, h₅⟩ := h₅
    cases hp : p i with
    | false =>
      rw [hp] at h₅
      simp only [Bool.false_eq_true, if_false] at h₅ ⊢
      obtain ⟨e1, e2, ⟨m₅, e3⟩⟩ := h₅
      have r := fin s₅.heap s₅.toks z ys nn m₅ e4 (fun b o h1 _ e => e2 b o h1 e) e3 (e2 _ _ hDC ho₃) hz1 (fun b o e => e2 b o (fun q => by rw [q, hz3] at e; cases e) (hz₃ b o e)) hz3 hz4 (by
        rw [List.range_succ, List.filter_append]; simpa [hp] using hF')
      rw [e1]; exact r
    | true =>
      rw [hp] at h₅
      simp only [if_true] at h₅ ⊢
      refine wpAny_mono (wpAny_toks_of e4 h₅) (fun y s₆ h₆ => ?_) fun _ _ e => e.2
      obtain ⟨e4, ⟨e1, e2, ⟨m₆, e3⟩⟩, zi, q1, q2, q3⟩ := h₆
      have ho₆ := e2 _ _ hDC ho₃
      have hys : ys.size ≤ sizeLine := by
        have a1 := hF'.length
        have a2 : ((List.range i).filter p).length ≤ (List.range i).length := List.length_filter_le _ _
        rw [List.length_range] at a2
        have a3 : ys.toList.length = ys.size := by simp
        omega
      refine append_at (hsz := hys) ho₆ fun h₇ hs₇ ho₇ => ?_
      let z' : Heap := cut h₇ fun b => (z.get? b).isSome || (zi.get? b).isSome
      have ziC : zi.get? cenv.locals = none := by
        cases q : zi.get? cenv.locals with
        | none => rfl
        | some o => obtain ⟨oC, _, _, x, _⟩ := hn₃; rw [q1 _ _ q] at x; cases x
      have ziD : zi.get? D = none := by
        cases q : zi.get? D with
        | none => rfl
        | some o => rw [q1 _ _ q] at ho₃; cases ho₃
      have zD : ∀ b, (zi.get? b).isSome = true ∨ (z.get? b).isSome = true → b ≠ D ∧ b ≠ cenv.locals := fun b hb => ⟨fun q => by rw [q, ziD, hz4] at hb; simp at hb, fun q => by rw [q, ziC, hz3] at hb; simp at hb⟩
      have x1 : Ext z z' := fun b o e => by
        have nb := zD b (.inr (by rw [e]; rfl))
        rw [cut_get, if_pos (by simp [e]), hs₇.2 b nb.1]; exact e2 b o nb.2 (hz₃ b o e)
      have x2 : Ext zi z' := fun b o e => by
        have nb := zD b (.inl (by rw [e]; rfl))
        rw [cut_get, if_pos (by simp [e]), hs₇.2 b nb.1]; exact q2 b o e
      have zold : ∀ b o, z'.get? b = some o → (zi.get? b).isSome = true ∨ (z.get? b).isSome = true := fun b o e => by
        rw [cut_get] at e
        split at e
        · rename_i q; simp only [Bool.or_eq_true] at q; exact q.symm
        · cases e
      have r := fin h₇ s₆.toks z' (ys.push y) (nn + 1) m₆ e4 (fun b o h1 h2 e => (hs₇.2 b h2).trans (e2 b o h1 e)) (e3.sameBut hs₇ (Ne.symm hDC)) ho₇
        (fun b o e => by
          rcases zold b o e with q | q
          · obtain ⟨o', e'⟩ := Option.isSome_iff_exists.mp q
            have f := q1 b o' e'
            cases x : h₂.get? b with
            | none => rfl
            | some ob =>
              by_cases hb : b ∈ wr
              · have y := lives (i + 1) s₃ hst₃ b hb
                rw [f] at y; cases y
              · rw [old₃ b ob hb x] at f; cases f
          · obtain ⟨o', e'⟩ := Option.isSome_iff_exists.mp q
            exact hz1 b o' e')
        (cut_ext _ _) (by
          cases q : z'.get? cenv.locals with
          | none => rfl
          | some o => exact absurd rfl (zD _ (zold _ _ q)).2) (by
          cases q : z'.get? D with
          | none => rfl
          | some o => exact absurd rfl (zD _ (zold _ _ q)).1) (by
          rw [List.range_succ, List.filter_append]
          simp only [List.filter_cons, hp, if_true, List.filter_nil, Array.toList_push]
          have hmono : ∀ {l₁ : List Nat} {l₂ : List Value}, Paired (F z) l₁ l₂ → Paired (F z') l₁ l₂ := fun h => by
            induction h with
            | nil => exact .nil
            | cons a _ ih => exact .cons (hF _ _ _ _ x1 a) ih
          exact (hmono hF').snoc (hF _ _ _ _ x2 q3))
      rw [e1]; exact r
  · have hin : i = n := Nat.le_antisymm hi (Nat.not_lt.mp hlt)
    subst hin
    refine W.done s' _ _ hst' fun s₃ mv => ?_
    have s₃eq : s₃ = { s with heap := s₃.heap, gens := s₃.gens, toks := s₃.toks } := by
      rw [hs'] at mv
      obtain ⟨_, _, e1, e2, _⟩ := mv
      cases s₃; simp only at e1 e2; subst e1; subst e2; rfl
    rw [s₃eq]
    refine done s₃.heap s₃.gens s₃.toks m' ys nn z (hn'.at' fun o e => mv.heap _ o nC e) hz1 (fun b o e => mv.heap b o (fun hm => ?_) (hz2 b o e)) hz3 hz4 (mv.heap _ _ nD ho') hF' (fun b o hb e => mv.heap b o hb (old' b o hb e)) (W.gtrans _ _ _ hg' mv.gens)
    obtain ⟨o', e'⟩ := hwr b hm
    rw [hz1 b o e] at e'; cases e'
end
end
-- part MD
theorem start_MD : True := by
  w_top off
  trivial
section
section
variable {prog : Program} {w : World} {A : Around} {E : Value → Shared → Prop} {s : Shared} {env : Env}


/-- what is known when a comprehension's block has run -/
noncomputable def CompRes (s₁ : Shared) (n : Nat) (Gn : Array GenState → Array GenState → Prop) (p : Nat → Bool) (F : Heap → Nat → Value → Prop) (D : Addr) (h' : Heap) (g' : Array GenState) : Prop :=
  ∃ ys nn z, Ext s₁.heap h' ∧ Fresh s₁.heap z ∧ Ext z h' ∧ z.get? D = some (listOf ys nn) ∧ Paired (F z) ((List.range n).filter p) ys.toList ∧ Gn s₁.gens g'


/-- what a comprehension asks at its source -/
noncomputable def CompAsk (prog : Program) (w : World) (A : Around) (target : Expr) (ifs : List Expr) (elt : Expr) (scope : Scope) (cl : List (Str × Addr)) (env : Env) (s₁ s₂ : Shared) (it : Value)
    (K : (D : Addr) → Heap → Array GenState → Nat → Prop) : Prop :=
  ∃ I n P Gn p F, it = .ref I ∧ Src prog w A s₁ s₂ I n P Gn ∧ (∀ z z' i v, Ext z z' → F z i v → F z' i v) ∧
    (∀ C i v s₃ m₃ E' z₃, i < n → P i v → Ext s₁.heap z₃ → (∀ b o, b ≠ C → s₃.heap.get? b = some o → z₃.get? b = some o) → St [z₃] C m₃ [] s₃.heap → Gn s₁.gens s₃.gens → Turn prog w A target ifs elt (compEnvC scope cl C env) C p F i v E' s₃) ∧
    (∀ D h' g' tk, CompRes s₁ n Gn p F D h' g' → K D h' g' tk)

theorem comp_block {elt target iter : Expr} {ifs : List Expr} {scope : Scope} {cl : List (Str × Addr)} {pos : Pos} {s₁ s₂ : Shared} {it : Value} {K : (D : Addr) → Heap → Array GenState → Nat → Prop} {RR : Value → Addr → Result → Shared → Prop}
    (hcell : ∀ y ∈ scope.names, y.2 ≠ .cell) (hkind : scope.kind = .function) (ask : CompAsk prog w A target ifs elt scope cl env s₁ s₂ it K)
    (hRR : ∀ D C h' g' tk m', s₁.heap.get? D = none → s₁.heap.get? C = none → D ≠ C → h'.Ns C m' → Ext s₁.heap h' → (∀ h'', (∀ b o, b ≠ C → h'.get? b = some o → h''.get? b = some o) → ∀ tk, K D h'' g' tk) → RR (.ref D) C (.ok .next) { s₁ with heap := h', gens := g', toks := tk }) :
    wpAny (model prog w) A (newList []) (fun acc s₃ => wpAny (model prog w) A (newFunctionEnv scope env.globals cl [] env.qual none .none (some env)) (fun cenv s₄ =>
      codeAny (model prog w) A (.compStart (.ListComp elt [⟨target, iter, ifs, 0⟩] scope pos) 0 it acc { cenv with scope := relabel scope env }) (RR acc cenv.locals) s₄) E s₃) E s₂ := by
  obtain ⟨I, n, P, Gn, p, F, rfl, ⟨⟨fp, wr, Stt, W, hst, hfp, hwr, lets, lives⟩, same, ext, gn, hsz⟩, hF, turn, hK⟩ := ask
  refine wpAny_newObj_type (wpAny_newFunctionEnv hcell (by intro y hy; simp at hy) (fun h₁ hns₁ hsb₁ => ?_) hkind)
  dsimp only at hns₁ hsb₁ ⊢
  generalize hH2 : s₂.heap.push { cls := .type "list", dict := none, data := .seq ([] : List Value).toArray } = H2 at hns₁ hsb₁ ⊢
  have hC : H2.objs.size = s₂.heap.objs.size + 1 := by rw [← hH2, Heap.size_push]
  have hDC : s₂.heap.objs.size ≠ H2.objs.size := by rw [hC]; exact Nat.ne_of_lt (Nat.lt_succ_self _)
  have below : ∀ b, b < s₂.heap.objs.size → b ≠ H2.objs.size ∧ b ≠ s₂.heap.objs.size := fun b hb => ⟨by rw [hC]; exact Nat.ne_of_lt (Nat.lt_succ_of_lt hb), Nat.ne_of_lt hb⟩
  have old : ∀ b o, s₂.heap.get? b = some o → h₁.get? b = some o := fun b o e => hsb₁.extBut b o (below b (Heap.lt_size e)).1 (Heap.get?_push_of_some _ (hH2 ▸ Heap.get?_push_of_some _ e))
  have hacc : h₁.get? s₂.heap.objs.size = some (listOf #[] 0) := hsb₁.extBut _ _ hDC (Heap.get?_push_of_some _ (hH2 ▸ Heap.get?_push_size _ rfl))
  have nD : s₂.heap.get? s₂.heap.objs.size = none := fresh_none (Nat.le_refl _)
  have nC : s₂.heap.get? H2.objs.size = none := fresh_none (by rw [hC]; exact Nat.le_succ _)
  have to1 : ∀ b, s₂.heap.get? b = none → s₁.heap.get? b = none := fun b hb => by
    cases q : s₁.heap.get? b with
    | none => rfl
    | some o => rw [ext b o q] at hb; cases hb
  have hst₁ : Stt 0 { s₂ with heap := h₁, toks := s₂.toks } := W.frame _ s₂ h₁ s₂.toks hst (Nat.le_refl _) fun b _ o e => old b o e
  have loop : codeAny (model prog w) A (.compLoop (.ListComp elt [⟨target, iter, ifs, 0⟩] scope pos) 0 (.ref I) (.ref s₂.heap.objs.size) (compEnvC scope cl H2.objs.size env))
      (RR (.ref s₂.heap.objs.size) H2.objs.size) { s₂ with heap := h₁, toks := s₂.toks + ([] : List (Str × Value)).length } := by
    refine comp_loop (cenv := compEnvC scope cl H2.objs.size env) (h₂ := s₂.heap) (g₂ := s₁.gens) W (fun i s v Q E => lets i s target v Q E) lives p F hF hfp nC nD hDC hst₁ hns₁ hacc (fun b o _ e => old b o e) gn hsz
      (fun i v s₃ m₃ E' hi hv hn hk hg => turn _ i v s₃ m₃ E' (cut s₃.heap fun b => b != H2.objs.size) hi hv (fun b o e => ?_) (fun b o hb e => ?_) ⟨hn, (fun _ hp => (nomatch hp)), by simp, fun z hz => ?_⟩ hg) fun h' g' tk m' ys nn z hn' f1 f2 (f3 : z.get? H2.objs.size = none) f4 f5 f6 f7 f8 => ?_
    · rw [cut_get, if_pos (by simp; intro q; rw [q, to1 _ nC] at e; cases e)]
      exact hk b o (fun hm => by rw [hwr b hm] at e; cases e) (ext b o e)
    · rw [cut_get, if_pos (by simpa using hb)]; exact e
    · rw [List.mem_singleton.mp hz]
      refine ⟨cut_ext _ _, fun a ha => ?_⟩
      rw [List.mem_singleton.mp ha]
      show (cut s₃.heap fun b => b != H2.objs.size).get? H2.objs.size = none
      rw [cut_get, if_neg (by simp)]
    · have e1 : Ext s₁.heap h' := fun b o e => f7 b o (fun hm => by rw [hwr b hm] at e; cases e) (ext b o e)
      have key : ({ s₂ with heap := h', gens := g', toks := tk } : Shared) = { s₁ with heap := h', gens := g', toks := tk } := by rw [same]
      have := hRR s₂.heap.objs.size H2.objs.size h' g' tk m' (to1 _ nD) (to1 _ nC) hDC hn' e1 fun h'' k tk' => hK _ _ _ _ ?_
      · rw [← key] at this; exact this
      · let z' : Heap := cut h'' fun b => (z.get? b).isSome || b == s₂.heap.objs.size
        have zx : Ext z z' := fun b o e => by
          rw [cut_get, if_pos (by simp [e])]; exact k b o (fun q => by rw [q, f3] at e; cases e) (f2 b o e)
        refine ⟨ys, nn, z', fun b o e => k b o (fun q => by rw [q, to1 _ nC] at e; cases e) (e1 b o e), fun b o e => ?_, cut_ext _ _, ?_, ?_, f8⟩
        · rw [cut_get] at e
          split at e
          · rename_i q
            simp only [Bool.or_eq_true, beq_iff_eq] at q
            rcases q with q | q
            · obtain ⟨o', e'⟩ := Option.isSome_iff_exists.mp q
              exact to1 b (f1 b o' e')
            · rw [q]; exact to1 _ nD
          · cases e
        · rw [cut_get, if_pos (by simp)]; exact k _ _ hDC f5
        · have hmono : ∀ {l₁ : List Nat} {l₂ : List Value}, Paired (F z) l₁ l₂ → Paired (F z') l₁ l₂ := fun h => by
            induction h with
            | nil => exact .nil
            | cons a _ ih => exact .cons (hF _ _ _ _ zx a) ih
          exact hmono f6
  exact codeAny_compStart_list loop (W.self 0 _ _ _ hst₁ loop)


/-- a comprehension as an expression -/
theorem lc_eval {elt target iter : Expr} {ifs : List Expr} {scope : Scope} {cl : List (Str × Addr)} {pos : Pos} {Q : Value → Shared → Prop}
    (hclos : closureFor scope env = pure cl) (hcell : ∀ y ∈ scope.names, y.2 ≠ .cell) (hkind : scope.kind = .function)
    (hnames : ∀ y ∈ scope.names, y.2 = .local → scope.names.lookup y.1 = some .local)
    (h : wpAny (model prog w) A (eval iter env) (fun xv s₁ => wpAny (model prog w) A (pyIter xv) (fun it s₂ =>
      CompAsk prog w A target ifs elt scope cl env s₁ s₂ it fun D h' g' tk => Q (.ref D) { s₁ with heap := h', gens := g', toks := tk }) E s₁) E s)
    (hs : ∀ x, foldedSetIterable iter env x = pure x := by intro _; rfl) :
    wpAny (model prog w) A (eval (.ListComp elt [⟨target, iter, ifs, 0⟩] scope pos) env) Q E s := by
  rw [eval_ListComp]
  refine wpAny_comprehension_free (use := none) rfl hs hclos hkind hnames (wpAny_mono h (fun xv s₁ h₁ => wpAny_mono h₁ (fun it s₂ h₂ => ?_) fun _ _ e => e) fun _ _ e => e)
  refine comp_block (RR := fun acc C => compPost (model prog w) A E none Q acc C) hcell hkind h₂ ?_
  intro D C h' g' tk m' _ _ _ hn _ k
  exact ⟨m', hn, fun h'' hs'' => k h'' (fun b o hb e => hs''.extBut b o hb e) tk⟩


/-- a comprehension bound to a local name -/
theorem lc_assign {elt target iter : Expr} {ifs : List Expr} {scope : Scope} {cl : List (Str × Addr)} {pos spos : Pos} {y : Str} {py : Pos} {Q : Flow → Shared → Prop}
    (hsw : swapsWith (.ListComp elt [⟨target, iter, ifs, 0⟩] scope pos) (some (.Name y py)) spos.line env = pure true)
    (hclos : closureFor scope env = pure cl) (hcell : ∀ y ∈ scope.names, y.2 ≠ .cell) (hkind : scope.kind = .function)
    (hnames : ∀ y ∈ scope.names, y.2 = .local → scope.names.lookup y.1 = some .local)
    (hy : env.kindOf y = some .local) (hp : (env.scope.kind == .class || (env.scope.kind == .module && env.locals != env.globals)) = false)
    (h : wpAny (model prog w) A (eval iter env) (fun xv s₁ => wpAny (model prog w) A (pyIter xv) (fun it s₂ => (∃ m, s₁.heap.Ns env.locals m ∧
      CompAsk prog w A target ifs elt scope cl env s₁ s₂ it fun D h' g' tk => ∀ h'' tk', h''.Ns env.locals (fun z => if z = y then some (.ref D) else m z) → (∀ b o, b ≠ env.locals → h'.get? b = some o → h''.get? b = some o) → Q .next { s₁ with heap := h'', gens := g', toks := tk' })) E s₁) E s)
    (hs : ∀ x, foldedSetIterable iter env x = pure x := by intro _; rfl) :
    wpAny (model prog w) A (exec (.Assign [.Name y py] (.ListComp elt [⟨target, iter, ifs, 0⟩] scope pos) spos) env) Q E s := by
  rw [exec_Assign_Name_used _ _ _ _ hsw]
  refine wpAny_bind (wpAny_standAt (wpAny_bind ?_))
  show wpAny _ A (do let _ ← comprehension (.ListComp elt [⟨target, iter, ifs, 0⟩] scope pos) scope env _ (newList []) false (eval iter env) (some (assign (.Name y py) env))) _ _ s
  refine wpAny_bind (wpAny_mono (wpAny_comprehension_free (use := some (assign (.Name y py) env)) (Q := fun _ s' => Q .next s') rfl hs hclos hkind hnames (wpAny_mono h (fun xv s₁ h₁ => wpAny_mono h₁ (fun it s₂ h₂ => ?_) fun _ _ e => e) fun _ _ e => e))
    (fun _ s' hq => wpAny_pure (wpAny_pure hq)) fun _ _ e => e)
  obtain ⟨m, hn₁, h₂⟩ := h₂
  refine comp_block (RR := fun acc C => compPost (model prog w) A E (some (assign (.Name y py) env)) (fun _ s' => Q .next s') acc C) hcell hkind h₂ ?_
  intro D C h' g' tk m' nD nC hDC hn e1 k
  have hLC : env.locals ≠ C := by rintro e; obtain ⟨o, _, _, ho, _⟩ := hn₁; rw [e, nC] at ho; cases ho
  show wpAny _ _ (assign (.Name y py) env (.ref D)) _ _ _
  refine wpAny_assign_Name (wpAny_storeName_local hy (hn₁.keeps e1) (fun h₂ hn₂ hs₂ => ?_) hp)
  refine ⟨m', hn.sameBut hs₂ (Ne.symm hLC), fun h₃ hs₃ => ?_⟩
  have kk := k (cut h' fun b => b != C) (fun b o hb e => by rw [cut_get, if_pos (by simpa using hb)]; exact e) tk
  refine kk h₃ _ (hn₂.sameBut hs₃ hLC) fun b o hb e => ?_
  rw [cut_get] at e
  split at e
  · rename_i q
    have q' : b ≠ C := by simpa using q
    rw [hs₃.2 b q']; exact hs₂.extBut b o hb e
  · cases e
end
end
-- part ME
theorem start_ME : True := by
  w_top off
  trivial
section
section
variable {prog : Program} {w : World} {A : Around} {E : Value → Shared → Prop} {s : Shared}

theorem src_list {l : Addr} {items : Array Value} {Q : Value → Shared → Prop} (hh : A.handled = none) (hl : s.heap.IsList l items) (hsz : items.size ≤ sizeLine)
    (h : ∀ I s₂, Src prog w A s s₂ I items.size (fun i v => items[i]? = some v) (fun a b => b = a) → Q (.ref I) s₂) : wpAny (model prog w) A (pyIter (.ref l)) Q E s := by
  have hlt : l < s.heap.objs.size := by obtain ⟨o, ho, _⟩ := hl; exact Heap.lt_size ho
  refine wpAny_pyIter_list hl (h _ _ ⟨⟨[s.heap.objs.size, l], [s.heap.objs.size], _, (Walks.list hh s.heap.objs.size l (Nat.ne_of_lt hlt) items).toS, ⟨⟨_, Heap.get?_push_size _ rfl, rfl, rfl⟩, hl.push _⟩, ?_, ?_, ?_, ?_⟩, rfl, Ext.push _, rfl, hsz⟩)
  · intro b hb
    simp only [List.mem_cons, List.not_mem_nil, or_false] at hb
    rcases hb with rfl | rfl
    · exact ⟨_, Heap.get?_push_size _ rfl⟩
    · obtain ⟨o, ho, _⟩ := hl; exact ⟨o, Heap.get?_push_of_some _ ho⟩
  · intro b hb; rw [List.mem_singleton.mp hb]; exact fresh_none (Nat.le_refl _)
  · intro i s t v Q E st hq
    obtain ⟨⟨o, ho, hc, _⟩, _⟩ := st
    exact lets_of ho hc (by decide) t v Q E hq
  · intro i s st b hb
    obtain ⟨⟨o, ho, _⟩, _⟩ := st
    rw [List.mem_singleton.mp hb, ho]; rfl

theorem src_tuple {l : Addr} {items : Array Value} {Q : Value → Shared → Prop} (hh : A.handled = none) (hl : s.heap.IsTuple l items) (hsz : items.size ≤ sizeLine)
    (h : ∀ I s₂, Src prog w A s s₂ I items.size (fun i v => items[i]? = some v) (fun a b => b = a) → Q (.ref I) s₂) : wpAny (model prog w) A (pyIter (.ref l)) Q E s := by
  have hlt : l < s.heap.objs.size := by obtain ⟨o, ho, _⟩ := hl; exact Heap.lt_size ho
  refine wpAny_pyIter_tuple hl (h _ _ ⟨⟨[s.heap.objs.size, l], [s.heap.objs.size], _, (Walks.tuple hh s.heap.objs.size l (Nat.ne_of_lt hlt) items).toS, ⟨⟨_, Heap.get?_push_size _ rfl, rfl, rfl⟩, hl.push _⟩, ?_, ?_, ?_, ?_⟩, rfl, Ext.push _, rfl, hsz⟩)
  · intro b hb
    simp only [List.mem_cons, List.not_mem_nil, or_false] at hb
    rcases hb with rfl | rfl
    · exact ⟨_, Heap.get?_push_size _ rfl⟩
    · obtain ⟨o, ho, _⟩ := hl; exact ⟨o, Heap.get?_push_of_some _ ho⟩
  · intro b hb; rw [List.mem_singleton.mp hb]; exact fresh_none (Nat.le_refl _)
  · intro i s t v Q E st hq
    obtain ⟨⟨o, ho, hc, _⟩, _⟩ := st
    exact lets_of ho hc (by decide) t v Q E hq
  · intro i s st b hb
    obtain ⟨⟨o, ho, _⟩, _⟩ := st
    rw [List.mem_singleton.mp hb, ho]; rfl

theorem src_bytes {b : Array UInt8} {t : Tok} {Q : Value → Shared → Prop} (hh : A.handled = none) (hsz : b.size ≤ sizeLine)
    (h : ∀ I s₂, Src prog w A s s₂ I b.size (fun i v => ∃ c u, b[i]? = some c ∧ v = .int (c.toNat : Int) u) (fun a b => b = a) → Q (.ref I) s₂) : wpAny (model prog w) A (pyIter (.bytes b t)) Q E s := by
  refine KBw.pyIter_bytes (h _ _ ⟨⟨[s.heap.objs.size], [s.heap.objs.size], _, (KBw.walks hh s.heap.objs.size b t).toS, ⟨_, Heap.get?_push_size _ rfl, rfl, rfl⟩, ?_, ?_, ?_, ?_⟩, rfl, Ext.push _, rfl, hsz⟩)
  · intro c hb
    rw [List.mem_singleton.mp hb]
    exact ⟨_, Heap.get?_push_size _ rfl⟩
  · intro b hb; rw [List.mem_singleton.mp hb]; exact fresh_none (Nat.le_refl _)
  · intro i s t v Q E st hq
    obtain ⟨o, ho, hc, _⟩ := st
    exact lets_of ho hc (by decide) t v Q E hq
  · intro i s st b hb
    obtain ⟨o, ho, _⟩ := st
    rw [List.mem_singleton.mp hb, ho]; rfl

theorem src_range {r : Addr} {n : Nat} {t u v : Tok} {Q : Value → Shared → Prop} (hh : A.handled = none) (hr : IsRange s.heap r 0 (n : Int) 1 t u v) (hsz : n ≤ 1000)
    (h : ∀ I s₂, Src prog w A s s₂ I n (fun i v => ∃ t, v = .int (i : Int) t) (fun a b => b = a) → Q (.ref I) s₂) : wpAny (model prog w) A (pyIter (.ref r)) Q E s := by
  have hrs : Builtin.Range.rangeSize 0 (n : Int) 1 = (n : Int) := by rw [rangeSize_nat]; omega
  have fl : ∀ i : Int, 0 ≤ i → i ≤ 2000 → Builtin.Range.rangeFitsLong i = true := fun i h0 h1 => by
    unfold Builtin.Range.rangeFitsLong
    rw [Bool.and_eq_true, decide_eq_true_eq, decide_eq_true_eq]
    omega
  have hsm : Builtin.Range.small 0 (n : Int) 1 = true := by
    unfold Builtin.Range.small
    rw [hrs, fl 0 (by omega) (by omega), fl n (by omega) (by omega), fl 1 (by omega) (by omega), if_pos (by decide), fl ((n : Int) + (1 - 1)) (by omega) (by omega)]
    simp
  refine wpAny_pyIter_range hr hsm ?_
  rw [hrs]
  have W := (LCg.range_walks (prog := prog) (w := w) (I := s.heap.objs.size) hh 0 n).toS
  have W' : WalksS prog w A s.heap.objs.size [s.heap.objs.size] [s.heap.objs.size] (fun a b => b = a) n (fun i v => ∃ t, v = .int (i : Int) t) (fun i s' => IsRangeIter s'.heap s.heap.objs.size (0 + (i : Nat) * 1) ((n : Int) - (i : Nat)) 1) :=
    { W with item := fun i s Q E hi st hQ => W.item i s Q E hi st fun v s' hP => hQ v s' (by obtain ⟨t, rfl⟩ := hP; exact ⟨t, by rw [Int.zero_add]⟩) }
  refine h _ _ ⟨⟨[s.heap.objs.size], [s.heap.objs.size], _, W', ?_, ?_, ?_, ?_, ?_⟩, rfl, Ext.push _, rfl, Nat.le_trans hsz (by decide)⟩
  · show (s.heap.push _).get? _ = some _
    rw [Heap.get?_push_size _ rfl]; simp
  · intro c hb
    rw [List.mem_singleton.mp hb]
    exact ⟨_, Heap.get?_push_size _ rfl⟩
  · intro b hb; rw [List.mem_singleton.mp hb]; exact fresh_none (Nat.le_refl _)
  · intro i s t v Q E st hq
    exact lets_of (T := "range_iterator") (show s.heap.get? _ = some _ from st) rfl (by decide) t v Q E hq
  · intro i s st b hb
    rw [List.mem_singleton.mp hb, show s.heap.get? _ = some _ from st]; rfl
end

theorem pair_get {items : List α} {F : Nat → Value → Prop} {G : α → Value → Prop} (hFG : ∀ i a y, items[i]? = some a → F i y → G a y) : ∀ {l : List Nat} {ys : List Value}, Paired F l ys → (∀ i ∈ l, i < items.length) → Paired G (l.filterMap (items[·]?)) ys
  | _, _, .nil, _ => .nil
  | _, _, .cons (a := i) (l₁ := l) h r, hi => by
    have hlt := hi i (.head _)
    have e : items[i]? = some items[i] := List.getElem?_eq_getElem hlt
    rw [List.filterMap_cons, e]
    exact .cons (hFG i _ _ e h) (pair_get hFG r fun j hj => hi j (.tail _ hj))
theorem range_get {items : List α} {p : Nat → Bool} {q : α → Bool} (hp : ∀ i a, items[i]? = some a → p i = q a) : ∀ k, k ≤ items.length → ((List.range k).filter p).filterMap (items[·]?) = (items.take k).filter q
  | 0, _ => by simp
  | k + 1, hk => by
    have e : items[k]? = some items[k] := List.getElem?_eq_getElem hk
    rw [List.range_succ, List.filter_append, List.filterMap_append, range_get hp k (Nat.le_of_succ_le hk), List.take_succ, e, List.filter_append]
    have := hp k _ e
    cases hq : q items[k] <;> rw [hq] at this <;> simp [this, hq, e]

/-- what a comprehension makes, by its source's items -/
theorem pairItems {α : Type} {items : List α} {n : Nat} {p : Nat → Bool} {q : α → Bool} {F : Nat → Value → Prop} {G : α → Value → Prop} {ys : List Value} (h : Paired F ((List.range n).filter p) ys) (hn : items.length = n)
    (hp : ∀ i a, items[i]? = some a → p i = q a) (hFG : ∀ i a y, items[i]? = some a → F i y → G a y) : Paired G (items.filter q) ys := by
  subst hn
  have r := range_get hp items.length (Nat.le_refl _)
  rw [List.take_length] at r
  rw [← r]
  exact pair_get hFG h fun i hi => by simpa using (List.mem_filter.mp hi).1
theorem pairVals {α : Type} {f : α → Value} {G : α → Value → Prop} (hG : ∀ a y, G a y → y = f a) : ∀ {l : List α} {ys : List Value}, Paired G l ys → ys = l.map f
  | _, _, .nil => rfl
  | _, _, .cons h r => by rw [List.map_cons, pairVals hG r, hG _ _ h]

theorem St.nil {zs : List Heap} {L : Addr} {m : Str → Option Value} {own : List (Addr × Obj)} {h : Heap} (S : St zs L m own h) : St ({} :: zs) L m own h :=
  ⟨S.ns, S.mine, S.nd, fun z hz => by
    rcases List.mem_cons.mp hz with rfl | hz
    · exact ⟨fun b o e => by simp [Heap.get?] at e, fun b _ => by simp [Heap.get?]⟩
    · exact S.fz z hz⟩

/-- the last own object, frozen by itself -/
theorem St.freeze1 {zs : List Heap} {L : Addr} {m : Str → Option Value} {own : List (Addr × Obj)} {h : Heap} {a : Addr} {o : Obj} (S : St zs L m ((a, o) :: own) h) :
    ∃ z, z.get? a = some o ∧ (∀ b ob, z.get? b = some ob → b = a) ∧ St (z :: zs) L m own h := by
  obtain ⟨z, _, e2, e3, S'⟩ := S.nil.freeze (.head _)
  refine ⟨z, e2, fun b ob e => ?_, S'.less fun y hy => ?_⟩
  · rcases e3 b ob e with q | q
    · exact q
    · simp [Heap.get?] at q
  · rcases List.mem_cons.mp hy with rfl | hy
    · exact .head _
    · exact .tail _ (.tail _ hy)


/-- a turn's end -/
noncomputable def TEnd (C : Addr) (s₃ : Shared) (G : Heap → Value → Prop) (y : Value) (s₆ : Shared) : Prop := CMv C s₃ s₆ ∧ ∃ z, Fresh s₃.heap z ∧ Ext z s₆.heap ∧ G z y
noncomputable def TSkip (C : Addr) (s₃ s₆ : Shared) : Prop := CMv C s₃ s₆

/-- the turn of a comprehension over items of a kind -/
noncomputable def TurnA (prog : Program) (w : World) (A : Around) (target : Expr) (ifs : List Expr) (elt : Expr) (cenv : Env) (C : Addr) (q : Bool) (G : Heap → Value → Prop) (v : Value) (E : Value → Shared → Prop) (s₃ : Shared) : Prop :=
  wpAny (model prog w) A (assign target cenv v) (fun _ s₄ =>
    wpAny (model prog w) A (forIn ifs true fun c r => if r = true then do let ok ← isTrue c cenv (eval c cenv); pure (ForInStep.yield ok) else pure (ForInStep.yield r)) (fun ok s₅ => ok = q ∧
      if ok = true then wpAny (model prog w) A (eval elt cenv) (fun y s₆ => TEnd C s₃ G y s₆) E s₅ else TSkip C s₃ s₅) E s₄) E s₃
theorem tEnd {zs : List Heap} {C : Addr} {m : Str → Option Value} {own : List (Addr × Obj)} {s : Shared} {h' z₃ : Heap} {tk : Nat} {G : Heap → Value → Prop} {y : Value} (S : St zs C m own h') (hz : z₃ ∈ zs) (k : ∀ b o, b ≠ C → s.heap.get? b = some o → z₃.get? b = some o) (g : G {} y) :
    TEnd C s G y { s with heap := h', toks := tk } := ⟨CMv.of S hz k, {}, (fun b o e => by simp [Heap.get?] at e), (fun b o e => by simp [Heap.get?] at e), g⟩
theorem tSkip {zs : List Heap} {C : Addr} {m : Str → Option Value} {own : List (Addr × Obj)} {s : Shared} {h' z₃ : Heap} {tk : Nat} (S : St zs C m own h') (hz : z₃ ∈ zs) (k : ∀ b o, b ≠ C → s.heap.get? b = some o → z₃.get? b = some o) :
    TSkip C s { s with heap := h', toks := tk } := CMv.of S hz k

/-- a turn that makes an object: the newest of the block's own -/
theorem tEndO {zs : List Heap} {C : Addr} {m : Str → Option Value} {own : List (Addr × Obj)} {s : Shared} {h' z₃ : Heap} {tk : Nat} {G : Heap → Value → Prop} {a : Addr} {o : Obj} (S : St zs C m ((a, o) :: own) h') (hz : z₃ ∈ zs) (k : ∀ b o, b ≠ C → s.heap.get? b = some o → z₃.get? b = some o)
    (g : ∀ z, z.get? a = some o → G z (.ref a)) : TEnd C s G (.ref a) { s with heap := h', toks := tk } := by
  obtain ⟨z, e1, e2, S'⟩ := S.freeze1
  refine ⟨CMv.of S hz k, z, fun b ob e => ?_, S'.froz (.head _), g z e1⟩
  obtain rfl := e2 b ob e
  cases q : s.heap.get? b with
  | none => rfl
  | some o' =>
    have nd := S.nd
    simp only [List.map_cons, List.nodup_cons, List.mem_cons, not_or] at nd
    have := k b o' (Ne.symm nd.1.1) q
    rw [(S.fz z₃ hz).2 b (.tail _ (.head _))] at this; cases this

theorem ask_of {prog : Program} {w : World} {A : Around} {target : Expr} {ifs : List Expr} {elt : Expr} {scope : Scope} {cl : List (Str × Addr)} {env : Env} {s₁ s₂ : Shared} {I : Addr} {n : Nat} {P : Nat → Value → Prop} {Gn : Array GenState → Array GenState → Prop}
    {K : (D : Addr) → Heap → Array GenState → Nat → Prop} {α : Type} (items : List α) (val : α → Value → Prop) (q : α → Bool) (G : Heap → α → Value → Prop) (src : Src prog w A s₁ s₂ I n P Gn) (hn : items.length = n) (hP : ∀ i v a, items[i]? = some a → P i v → val a v)
    (hG : ∀ z z' a y, Ext z z' → G z a y → G z' a y)
    (turn : ∀ C a v s₃ m₃ E' z₃, a ∈ items → val a v → Ext s₁.heap z₃ → (∀ b o, b ≠ C → s₃.heap.get? b = some o → z₃.get? b = some o) → St [z₃] C m₃ [] s₃.heap → Gn s₁.gens s₃.gens →
      TurnA prog w A target ifs elt (compEnvC scope cl C env) C (q a) (fun z y => G z a y) v E' s₃)
    (res : ∀ D h' g' tk ys nn z, Ext s₁.heap h' → Fresh s₁.heap z → Ext z h' → z.get? D = some (listOf ys nn) → Paired (G z) (items.filter q) ys.toList → Gn s₁.gens g' → K D h' g' tk) :
    CompAsk prog w A target ifs elt scope cl env s₁ s₂ (.ref I) K := by
  refine ⟨I, n, P, Gn, fun i => (items[i]?).any q, fun z i y => ∃ a, items[i]? = some a ∧ G z a y, rfl, src, fun z z' i v hz ⟨a, e, g⟩ => ⟨a, e, hG z z' a v hz g⟩, fun C i v s₃ m₃ E' z₃ hi hv e1 e2 S hg => ?_, fun D h' g' tk ⟨ys, nn, z, f1, f2, f3, f4, f5, f6⟩ => ?_⟩
  · have hi' : i < items.length := hn ▸ hi
    have ei : items[i]? = some items[i] := List.getElem?_eq_getElem hi'
    have T := turn C items[i] v s₃ m₃ E' z₃ (List.getElem_mem hi') (hP i v _ ei hv) e1 e2 S hg
    unfold Turn
    unfold TurnA at T
    refine wpAny_mono T (fun _ s₄ h₄ => wpAny_mono h₄ (fun ok s₅ h₅ => ?_) fun _ _ e => e) fun _ _ e => e
    obtain ⟨a1, a2⟩ := h₅
    refine ⟨by show ok = Option.any q items[i]?; rw [ei]; simpa using a1, ?_⟩
    cases ok with
    | false => exact a2
    | true =>
      refine wpAny_mono a2 (fun y s₆ h₆ => ?_) fun _ _ e => e
      obtain ⟨b1, z, b2, b3, b4⟩ := h₆
      exact ⟨b1, z, b2, b3, _, ei, b4⟩
  · refine res D h' g' tk ys nn z f1 f2 f3 f4 (pairItems f5 hn (fun i a e => by show Option.any q items[i]? = _; rw [e]; rfl) fun i a y e g => ?_) f6
    obtain ⟨a', e', g'⟩ := g
    rw [e] at e'; cases e'; exact g'

section
variable {prog : Program} {w : World} {A : Around} {E : Value → Shared → Prop} {s : Shared}
theorem range_all (bs : List Bool) : (List.range bs.length).all (fun i => bs.getD i true) = bs.all id := by
  rw [Bool.eq_iff_iff, List.all_eq_true, List.all_eq_true]
  constructor
  · intro h b hb
    obtain ⟨i, hi, rfl⟩ := List.getElem_of_mem hb
    have := h i (List.mem_range.mpr hi)
    simpa [hi] using this
  · intro h i hi
    have hi := List.mem_range.mp hi
    have := h bs[i] (List.getElem_mem hi)
    simpa [hi] using this
theorem range_any (bs : List Bool) : (List.range bs.length).any (fun i => bs.getD i true) = bs.any id := by
  rw [Bool.eq_iff_iff, List.any_eq_true, List.any_eq_true]
  constructor
  · rintro ⟨i, hi, h⟩
    have hi := List.mem_range.mp hi
    exact ⟨bs[i], List.getElem_mem hi, by simpa [hi] using h⟩
  · rintro ⟨b, hb, h⟩
    obtain ⟨i, hi, rfl⟩ := List.getElem_of_mem hb
    exact ⟨i, List.mem_range.mpr hi, by simpa [hi] using h⟩
theorem truth_bools (bs : List Bool) {A : Around} : TruthOf prog w A (fun i v => (bs.map Value.bool).toArray[i]? = some v) (fun i => bs.getD i true) := by
  intro i v s Q E hv hq
  simp only [List.getElem?_toArray, List.getElem?_map, Option.map_eq_some_iff] at hv
  obtain ⟨b, hb, rfl⟩ := hv
  refine wpAny_truthy_bool ?_
  simpa [List.getD_eq_getElem?_getD, hb] using hq
theorem src_moved {s₂ s' : Shared} {I : Addr} {n : Nat} {P : Nat → Value → Prop} {fp wr : List Addr} {Stt : Nat → Shared → Prop} {Q : Value → Shared → Prop} {v : Value}
    (same : s₂ = { s with heap := s₂.heap, gens := s₂.gens, toks := s₂.toks }) (ext : Ext s.heap s₂.heap) (hg : s₂.gens = s.gens) (hwr : ∀ b ∈ wr, s.heap.get? b = none) (mv : Moved wr (fun a b => b = a) s₂ s')
    (h : ∀ h' tk, Ext s.heap h' → Q v { s with heap := h', toks := tk }) : Q v s' := by
  obtain ⟨m1, m2, m3, m4, _⟩ := mv
  have e : s' = { s with heap := s'.heap, toks := s'.toks } := by
    rw [same] at m3 m4
    cases s'; simp only at m2 m3 m4
    subst m3; subst m4; rw [m2, hg]
  rw [e]
  exact h _ _ fun b o q => m1 b o (fun hm => by rw [hwr b hm] at q; cases q) (ext b o q)
theorem all_list {l : Addr} {bs : List Bool} {Q : Value → Shared → Prop} (hh : A.handled = none) (hl : s.heap.IsList l (bs.map Value.bool).toArray) (hsz : bs.length ≤ sizeLine) (h : ∀ h' tk, Ext s.heap h' → Q (.bool (bs.all id)) { s with heap := h', toks := tk }) :
    wpAny (model prog w) A (call (.builtin "all") [.ref l]) Q E s := by
  refine call_all_walkS (src_list (A := A.in1) hh hl (by simpa using hsz) fun I s₂ src => ?_)
  obtain ⟨⟨fp, wr, Stt, W, hst, hfp, hwr, _, _⟩, same, ext, hg, _⟩ := src
  refine ⟨I, fp, wr, _, _, _, Stt, fun i => bs.getD i true, rfl, W, hst, truth_bools bs, fun s' mv => ?_⟩
  have e : (List.range (bs.map Value.bool).toArray.size) = List.range bs.length := by simp
  rw [e, range_all]
  exact src_moved (I := I) (n := 0) (P := fun _ _ => True) (fp := fp) (Stt := Stt) same ext hg hwr mv h
theorem any_list {l : Addr} {bs : List Bool} {Q : Value → Shared → Prop} (hh : A.handled = none) (hl : s.heap.IsList l (bs.map Value.bool).toArray) (hsz : bs.length ≤ sizeLine) (h : ∀ h' tk, Ext s.heap h' → Q (.bool (bs.any id)) { s with heap := h', toks := tk }) :
    wpAny (model prog w) A (call (.builtin "any") [.ref l]) Q E s := by
  refine call_any_walkS (src_list (A := A.in1) hh hl (by simpa using hsz) fun I s₂ src => ?_)
  obtain ⟨⟨fp, wr, Stt, W, hst, hfp, hwr, _, _⟩, same, ext, hg, _⟩ := src
  refine ⟨I, fp, wr, _, _, _, Stt, fun i => bs.getD i true, rfl, W, hst, truth_bools bs, fun s' mv => ?_⟩
  have e : (List.range (bs.map Value.bool).toArray.size) = List.range bs.length := by simp
  rw [e, range_any]
  exact src_moved (I := I) (n := 0) (P := fun _ _ => True) (fp := fp) (Stt := Stt) same ext hg hwr mv h
theorem listAt {z h : Heap} {D : Addr} {ys : Array Value} {nn : Nat} (e : z.get? D = some (listOf ys nn)) (k : Ext z h) : h.IsList D ys := ⟨_, k _ _ e, rfl, nn, rfl⟩
end
end
-- part NL
theorem start_NL : True := by
  w_top off
  trivial
section


theorem orStandIn_led (t : SetTable) (n : Nat) : (t.orStandIn n).led = t.led := by unfold SetTable.orStandIn SetTable.standIn; split <;> rfl
theorem layNew_led (t : SetTable) (es : Array (Int × Value)) (h : Int) (x : Value) : (layNew t es h x).2.1.led = t.led := by
  unfold layNew
  split
  · exact (orStandIn_led _ _).trans rfl
  · rfl
theorem laid_led {mask finger moves : Nat} {led plain : Bool} {hs : Array Int} {t : SetTable} {o : Array Nat} (h : SetTable.laid mask finger moves led plain hs = some (t, o)) : t.led = led := by
  unfold SetTable.laid at h
  cases q : SetTable.layClean mask hs with
  | none => rw [q] at h; cases h
  | some ow => rw [q] at h; cases h; rfl
theorem relayAll_led (t : SetTable) (es : Array (Int × Value)) (n : Nat) : (relayAll t es n).2.1.led = t.led := by
  unfold relayAll
  split
  · rename_i t' order q
    dsimp only
    split
    · exact laid_led q
    · rfl
  · rfl


section
variable {prog : Program} {w : World} {A : Around} {E : Value → Shared → Prop} {s : Shared}
abbrev BK (prog : Program) (w : World) := bytesKind prog w

/-- a set of bytes, its table led or not -/
noncomputable def LSet (prog : Program) (w : World) (h : Heap) (a : Addr) (S : List UInt8 → Bool) (n : Nat) (led : Bool) : Prop :=
  ∃ o es ep t, h.get? a = some o ∧ o.ExactSet ∧ o.data = .set es ep t ∧ ElemsOf (BK prog w) es.toList ∧ (∀ k, S k = true ↔ ∃ e ∈ es.toList, (BK prog w).is k e.2 = true) ∧ es.size < scanBound ∧ t.fits es.size = true ∧ es.size = n ∧ t.led = led
theorem LSet.of {h : Heap} {a : Addr} {S : List UInt8 → Bool} {n : Nat} {led : Bool} (x : LSet prog w h a S n led) : h.SetOf (BK prog w) a S n := by
  obtain ⟨o, es, ep, t, h1, h2, h3, h4, h5, h6, h7, h8, _⟩ := x
  exact ⟨o, es, ep, t, h1, h2, h3, h4, h5, h6, h7, h8⟩
theorem LSet.keep {h h' : Heap} {a : Addr} {S : List UInt8 → Bool} {n : Nat} {led : Bool} (x : LSet prog w h a S n led) (k : ∀ o, h.get? a = some o → h'.get? a = some o) : LSet prog w h' a S n led := by
  obtain ⟨o, es, ep, t, h1, r⟩ := x
  exact ⟨o, es, ep, t, k _ h1, r⟩
theorem LSet.stored {h : Heap} {a : Addr} {o : Obj} {es es' : Array (Int × Value)} {ep : Nat} {t t' : SetTable} {S' : List UInt8 → Bool} (ho : h.get? a = some o) (hex : o.ExactSet) (hd : o.data = .set es ep t)
    (hel : ElemsOf (BK prog w) es'.toList) (hmem : ∀ k, S' k = true ↔ ∃ e ∈ es'.toList, (BK prog w).is k e.2 = true) (hb : es'.size < scanBound) (hf : t'.fits es'.size = true) :
    (h.update a (Obj.putSet es' t')).get? a = some { o with data := .set es' (ep + 1) t' } ∧ LSet prog w (h.update a (Obj.putSet es' t')) a S' es'.size t'.led := by
  have hg := (SetOf_store (knd := BK prog w) ho hex hd hel hmem hb hf).1
  exact ⟨hg, _, es', ep + 1, t', hg, hex, rfl, hel, hmem, hb, hf, rfl, rfl⟩
theorem LSet.add {a : Addr} {S : List UInt8 → Bool} {n : Nat} {led : Bool} {k : List UInt8} {x : Value} {Q : Bool → Shared → Prop} (hkey : (BK prog w).is k x = true) (hsc : x.scannable = true) (hS : LSet prog w s.heap a S n led) (hroom : n + 1 < scanBound)
    (h : ∀ b h', Heap.SameBut a s.heap h' → LSet prog w h' a (fun k' => S k' || decide (k' = k)) (if S k then n else n + 1) led → Q b { s with heap := h' }) :
    wpAny (model prog w) A (setAddHashed a x ((BK prog w).hash k)) Q E s := by
  obtain ⟨o, es, ep, t, ho, hex, hd, hel, hmem, hb, hf, hn, hl⟩ := hS
  subst hn
  unfold setAddHashed setAddHashedIn
  refine wpAny_holding (wpAny_bind (wpAny_setState_of ho hd hf ?_))
  dsimp only
  rw [byScan_of hsc hb hel]
  simp only [↓reduceIte]
  unfold setAddByScan
  refine wpAny_bind (wpAny_bind (wpAny_rule (wpAny_bind (wpAny_setScan_of hkey ho hd hf hel ?_))))
  cases hr : List.findIdx? (fun e => (BK prog w).is k e.2) es.toList with
  | some j =>
    dsimp only
    obtain ⟨hj, hpj, _⟩ := List.findIdx?_eq_some_iff_getElem.mp hr
    have hSk : S k = true := (hmem k).mpr ⟨es.toList[j], List.getElem_mem hj, hpj⟩
    refine wpAny_pure (wpAny_pure ?_)
    refine h _ s.heap (Heap.SameBut.refl a s.heap) ⟨o, es, ep, t, ho, hex, hd, hel, fun k' => ?_, hb, hf, by rw [hSk]; rfl, hl⟩
    rw [Bool.or_eq_true, decide_eq_true_eq, ← hmem k']
    exact ⟨fun q => q.elim id fun e => e ▸ hSk, .inl⟩
  | none =>
    dsimp only
    have hSk : S k = false := Bool.eq_false_iff.mpr fun q => by
      obtain ⟨e, he, hp⟩ := (hmem k).mp q
      have := List.findIdx?_eq_none_iff.mp hr e he
      rw [hp] at this; exact Bool.noConfusion this
    have hperm := layNew_perm t es ((BK prog w).hash k) x
    have hfits := layNew_fits t es ((BK prog w).hash k) x
    have hled := layNew_led t es ((BK prog w).hash k) x
    generalize hL : layNew t es ((BK prog w).hash k) x = L at hperm hfits hled ⊢
    obtain ⟨es1, t1, wasDummy, gave⟩ := L
    dsimp only at hperm hfits hled ⊢
    rw [Array.toList_push] at hperm
    have hel1 : ElemsOf (BK prog w) es1.toList := (hel.push hkey hsc).perm hperm
    have hmem1 : ∀ k', (S k' || decide (k' = k)) = true ↔ ∃ e ∈ es1.toList, (BK prog w).is k' e.2 = true := mem_push_iff hkey hmem hperm
    have hsz1 : es1.size = es.size + 1 := by rw [← Array.length_toList, hperm.length_eq, List.length_append, Array.length_toList]; rfl
    have hgw : ∀ (b : Bool) {s₁ : Shared} {Q' : Unit → Shared → Prop}, Q' () s₁ → wpAny (model prog w) A (match b with | true => rule "set.scan.the-table-gave-way" | false => pure ()) Q' E s₁ :=
      fun b s₁ Q' hq => by cases b <;> first | exact wpAny_pure hq | exact wpAny_rule hq
    have fin : ∀ (es2 : Array (Int × Value)) (h' : Heap), es2.size = es1.size → Heap.SameBut a s.heap h' → LSet prog w h' a (fun k' => S k' || decide (k' = k)) es2.size led → Q true { s with heap := h' } := by
      intro es2 h' e hsb hS'
      rw [e, hsz1] at hS'
      refine h _ h' hsb ?_
      rw [hSk]; exact hS'
    have tail : ∀ (t2 : SetTable), t2.fits es1.size = true → t2.led = led → ∀ c : Bool, wpAny (model prog w) A (do
        storeSet a es1 t2
        if (c && t2.tooFull) = true then do
            (match (relayAll t2 es1 (SetTable.grown es1.size)).2.2 with | true => rule "set.scan.the-table-gave-way" | false => pure ())
            storeSet a (relayAll t2 es1 (SetTable.grown es1.size)).1 (relayAll t2 es1 (SetTable.grown es1.size)).2.1
            pure (some true)
          else pure (some true)) (fun r s' => r = some true ∧ Q true s') E s := by
      intro t2 hf2 hl2 c
      have hb1 : es1.size < scanBound := by omega
      refine wpAny_bind (wpAny_storeSet_of ho hd ?_ (fits_of_scanBound hb1))
      obtain ⟨ho1, hS1⟩ := LSet.stored (prog := prog) (w := w) ho hex hd hel1 hmem1 hb1 hf2
      have hsb1 := Heap.SameBut.update s.heap a (Obj.putSet es1 t2)
      split
      · have hp := relayAll_perm t2 es1 (SetTable.grown es1.size)
        have hfr := relayAll_fits t2 es1 (SetTable.grown es1.size)
        have hlr := relayAll_led t2 es1 (SetTable.grown es1.size)
        generalize hRl : relayAll t2 es1 (SetTable.grown es1.size) = Rl at hp hfr hlr ⊢
        obtain ⟨es2, t3, gave2⟩ := Rl
        dsimp only at hp hfr hlr ⊢
        have hsz : es2.size = es1.size := by rw [← Array.length_toList, hp.length_eq, Array.length_toList]
        refine wpAny_bind (hgw _ (wpAny_bind (wpAny_storeSet_of ho1 rfl ?_ (fits_of_scanBound (by omega)))))
        obtain ⟨_, hS2⟩ := LSet.stored (prog := prog) (w := w) (es' := es2) (t' := t3) ho1 hex rfl (hel1.perm hp) (fun k' => (hmem1 k').trans ⟨fun ⟨e, he, q⟩ => ⟨e, hp.mem_iff.mpr he, q⟩, fun ⟨e, he, q⟩ => ⟨e, hp.mem_iff.mp he, q⟩⟩) (by omega) hfr
        refine wpAny_pure ⟨rfl, fin es2 _ hsz (hsb1.trans (Heap.SameBut.update _ a _)) ?_⟩
        rw [← hl2, ← hlr]; exact hS2
      · refine wpAny_pure ⟨rfl, fin es1 _ rfl hsb1 ?_⟩
        rw [← hl2]; exact hS1
    refine wpAny_bind (hgw _ ?_)
    split
    · refine wpAny_bind ?_
      rw [hashByValue_scannable 8 hsc]
      refine wpAny_pure ?_
      refine wpAny_mono (tail _ ?_ ?_ _) (fun r s' q => by obtain ⟨rfl, q⟩ := q; exact wpAny_pure q) fun _ _ q => q
      · split
        · exact hfits
        · exact SetTable.fits_plain_off hfits
      · split <;> exact hled.trans hl
    · refine wpAny_bind (wpAny_pure ?_)
      simp only [↓reduceIte]
      exact wpAny_mono (tail _ hfits (hled.trans hl) _) (fun r s' q => by obtain ⟨rfl, q⟩ := q; exact wpAny_pure q) fun _ _ q => q
theorem LSet.typeIs {a : Addr} {S : List UInt8 → Bool} {n : Nat} {led : Bool} (hS : LSet prog w s.heap a S n led) : s.TypeIs (.ref a) "set" := hS.of.typeIs
theorem call_add {a : Addr} {S : List UInt8 → Bool} {n : Nat} {led : Bool} {k : List UInt8} {key : Value} {Q : Value → Shared → Prop} (hkey : (BK prog w).is k key = true) (hsc : key.scannable = true) (hS : LSet prog w s.heap a S n led) (hroom : n + 1 < scanBound)
    (h : ∀ h', Heap.SameBut a s.heap h' → LSet prog w h' a (fun k' => S k' || decide (k' = k)) (if S k then n else n + 1) led → Q .none { s with heap := h', toks := s.toks + 1 }) :
    wpAny (model prog w) A (call (.builtin "set.add") [.ref a, key]) Q E s := by
  refine wpAny_call_entry F.slot_set_add hS.typeIs F.entry_set_add ?_ (F.args_set_add_2 _ _)
  unfold Builtin.«set.add» Builtin.Frozenset.oneOther
  simp only [List.isEmpty_nil, bind_assoc]
  unfold Builtin.Frozenset.addrOf setAdd
  refine wpAny_bind (wpAny_pure ?_)
  try dsimp only
  refine wpAny_bind (wpAny_pure ?_)
  try dsimp only
  refine wpAny_bind (wpAny_holding ((BK prog w).pyHash hkey |> fun X => wpAny_bind (X ?_)))
  refine LSet.add (s := { s with toks := s.toks + 1 }) hkey hsc hS hroom fun b h' hsb hS' => ?_
  show wpAny _ _ (ret Value.none) _ _ _
  exact wpAny_pure ⟨_, rfl, h h' hsb hS'⟩
theorem new_set {Q : Value → Shared → Prop}
    (h : ∀ o, LSet prog w (s.heap.push o) s.heap.objs.size (fun _ => false) 0 (!(w.params.followText "set-order")) → Q (.ref s.heap.objs.size) { s with heap := s.heap.push o }) :
    wpAny (model prog w) A (newSet (.type "set")) Q E s := by
  unfold newSet setsByText
  refine wpAny_bind (wpAny_bind (wpAny_askSetting (wpAny_pure ?_)))
  dsimp only
  simp only [newObj]
  exact wpAny_bind (wpAny_alloc (wpAny_pure (h _ ⟨_, #[], 0, _, Heap.get?_push_size _ rfl, ⟨rfl, rfl, rfl⟩, rfl, fun e he => by simp at he, fun k => by simp, by decide, by rfl, rfl, rfl⟩)))
end

end
-- part NS
theorem start_NS : True := by
  w_top off
  trivial
section
section
variable {prog : Program} {w : World} {A : Around} {E : Value → Shared → Prop} {R : Result → Shared → Prop} {s : Shared}
theorem compTurn_set (elt target iter : Expr) (ifs : List Expr) (scope : Scope) (pos : Pos) (it acc : Value) (env : Env) :
    compTurn (.SetComp elt [⟨target, iter, ifs, 0⟩] scope pos) 0 it acc env = (do
      standAt iter.pos
      match ← pyNext it with
      | none => pure (.done .next)
      | some v =>
        letOwnedTupleGo target it v
        assign target env v
        let mut ok := true
        for c in ifs do
          if ok then ok ← isTrue c env (eval c env)
        if ok then
          (do let v ← eval elt env; standAt elt.pos; let _ ← call (.builtin "set.add") [acc, v])
        again (.compLoop (.SetComp elt [⟨target, iter, ifs, 0⟩] scope pos) 0 it acc env)) := by rfl
theorem setLoop_any {elt target iter : Expr} {ifs : List Expr} {scope : Scope} {pos : Pos} {it acc : Value} {env : Env} (I : Nat → Shared → Prop)
    (turn : ∀ (J : Nat → Shared → Prop) (E' : Value → Shared → Prop), (∀ n s, I n s → J n s) → ∀ n s, I n s → wpAny (model prog w) A (pyNext it) (fun r s₁ => match r with
      | none => R (.ok .next) s₁
      | some v => wpAny (model prog w) A (letOwnedTupleGo target it v) (fun _ s₁ => wpAny (model prog w) A (assign target env v) (fun _ s₂ =>
          wpAny (model prog w) A (forIn ifs true fun c r => if r = true then do let ok ← isTrue c env (eval c env); pure (ForInStep.yield ok) else pure (ForInStep.yield r)) (fun ok s₃ =>
            if ok = true then wpAny (model prog w) A (eval elt env) (fun x s₄ =>
              wpAny (model prog w) A (call (.builtin "set.add") [acc, x]) (fun _ s₅ => ∃ m, m < n ∧ J m s₅) E' s₄) E' s₃
            else ∃ m, m < n ∧ J m s₃) E' s₂) E' s₁) E' s₁) E' s)
    (n : Nat) (h : I n s) :
    codeAny (model prog w) A (.compLoop (.SetComp elt [⟨target, iter, ifs, 0⟩] scope pos) 0 it acc env) R s := by
  refine codeAny_loop rfl I (fun n s hI => ?_) n h
  show wpAny _ A ((compTurn (.SetComp elt [⟨target, iter, ifs, 0⟩] scope pos) 0 it acc env).onRaise (fun x => do noteFrame x env; theTreesLotGoes x)) _ _ s
  refine wpAny_noted ?_
  rw [compTurn_set]
  refine wpAny_bind (wpAny_standAt (wpAny_bind (wpAny_mono (turn I _ (fun _ _ h => h) n s hI) (fun r s₁ h₁ => ?_) fun _ _ h' => h')))
  cases r with
  | none => exact wpAny_pure h₁
  | some v =>
    refine wpAny_bind (wpAny_mono h₁ (fun _ s₁ h₁ => ?_) fun _ _ h' => h')
    refine wpAny_bind (wpAny_mono h₁ (fun _ s₂ h₂ => wpAny_bind (wpAny_mono h₂ (fun ok s₃ h₃ => ?_) fun _ _ h' => h')) fun _ _ h' => h')
    cases ok with
    | false => exact wpAny_pure ⟨rfl, h₃⟩
    | true =>
      exact wpAny_bind (wpAny_bind (wpAny_mono h₃ (fun x s₄ h₄ => wpAny_bind (wpAny_standAt (wpAny_bind (wpAny_mono h₄ (fun _ s₅ h₅ => wpAny_pure (wpAny_pure ⟨rfl, h₅⟩)) fun _ _ h' => h')))) fun _ _ h' => h'))



/-- how many distinct -/
noncomputable def cntR : List (Array UInt8) → Nat
  | [] => 0
  | k :: l => if k ∈ l then cntR l else cntR l + 1
theorem cntR_le : ∀ l, cntR l ≤ l.length
  | [] => Nat.le_refl _
  | k :: l => by
    have := cntR_le l
    unfold cntR
    split <;> simp only [List.length_cons] <;> omega
theorem set_loop {elt target iter : Expr} {scope : Scope} {cenv : Env} {pos : Pos} {I D : Addr} {fp wr : List Addr} {Gn : Array GenState → Array GenState → Prop} {n : Nat} {P : Nat → Value → Prop} {Stt : Nat → Shared → Prop}
    (W : WalksS prog w A I fp wr Gn n P Stt)
    (lets : ∀ i s v (Q : Unit → Shared → Prop) E, Stt i s → Q () s → wpAny (model prog w) A (letOwnedTupleGo target (.ref I) v) Q E s)
    (f : Nat → (Array UInt8))
    {h₂ : Heap} {g₂ : Array GenState} {m : Str → Option Value} (hfp : ∀ b ∈ fp, ∃ o, h₂.get? b = some o) (hC : h₂.get? cenv.locals = none) (hD : h₂.get? D = none) (hDC : D ≠ cenv.locals)
    (hst : Stt 0 s) (hn : s.heap.Ns cenv.locals m) (ho : LSet prog w s.heap D (fun _ => false) 0 (!(w.params.followText "set-order"))) (old : ∀ b o, b ∉ wr → h₂.get? b = some o → s.heap.get? b = some o) (hg : Gn g₂ s.gens) (hsz : n ≤ 4000)
    (turn : ∀ i v s₃ m₃ E', i < n → P i v → s₃.heap.Ns cenv.locals m₃ → (∀ b o, b ∉ wr → h₂.get? b = some o → s₃.heap.get? b = some o) → Gn g₂ s₃.gens → Turn prog w A target [] elt cenv cenv.locals (fun _ => true) (fun _ i y => ∃ tk, y = .bytes (f i) tk) i v E' s₃)
    (done : ∀ h' g' tk m', h'.Ns cenv.locals m' → LSet prog w h' D (fun k => decide (∃ j, j < n ∧ (f j).toList = k)) (cntR ((List.range n).map f).reverse) (!(w.params.followText "set-order")) →
      (∀ b o, b ∉ wr → h₂.get? b = some o → h'.get? b = some o) → Gn g₂ g' → R (.ok .next) { s with heap := h', gens := g', toks := tk }) :
    codeAny (model prog w) A (.compLoop (.SetComp elt [⟨target, iter, [], 0⟩] scope pos) 0 (.ref I) (.ref D) cenv) R s := by
  have hwr : ∀ b ∈ wr, ∃ o, h₂.get? b = some o := fun b hb => hfp b (W.sub b hb)
  have nC : cenv.locals ∉ wr := fun hm => by obtain ⟨o, e⟩ := hwr _ hm; rw [hC] at e; cases e
  have nD : D ∉ wr := fun hm => by obtain ⟨o, e⟩ := hwr _ hm; rw [hD] at e; cases e
  refine setLoop_any (fun k s' => ∃ i m' S, k = n - i ∧ i ≤ n ∧ Stt i s' ∧ s'.heap.Ns cenv.locals m' ∧ LSet prog w s'.heap D S (cntR ((List.range i).map f).reverse) (!(w.params.followText "set-order")) ∧ (∀ k, S k = decide (∃ j, j < i ∧ (f j).toList = k)) ∧ (∀ b o, b ∉ wr → h₂.get? b = some o → s'.heap.get? b = some o) ∧
    Gn g₂ s'.gens ∧ s' = { s with heap := s'.heap, gens := s'.gens, toks := s'.toks }) ?_ n
    ⟨0, m, _, rfl, Nat.zero_le _, hst, hn, ho, fun k => by simp, old, hg, rfl⟩
  rintro J E' hJ k s' ⟨i, m', S, rfl, hi, hst', hn', ho', hS', old', hg', hs'⟩
  by_cases hlt : i < n
  · refine W.item i s' _ _ hlt hst' fun v s₃ hPv hst₃ mv => ?_
    refine lets (i + 1) s₃ v _ _ hst₃ ?_
    have old₃ : ∀ b o, b ∉ wr → h₂.get? b = some o → s₃.heap.get? b = some o := fun b o hb e => mv.heap b o hb (old' b o hb e)
    have hn₃ := hn'.at' fun o e => mv.heap _ o nC e
    have ho₃ := ho'.keep fun o e => mv.heap _ o nD e
    have hg₃ := W.gtrans _ _ _ hg' mv.gens
    have s₃eq : s₃ = { s with heap := s₃.heap, gens := s₃.gens, toks := s₃.toks } := by
      rw [hs'] at mv
      obtain ⟨_, _, e1, e2, _⟩ := mv
      cases s₃; simp only at e1 e2; subst e1; subst e2; rfl
    have T := turn i v s₃ _ E' hlt hPv hn₃ old₃ hg₃
    refine wpAny_mono (wpAny_toks_of (Nat.le_refl s₃.toks) T) (fun _ s₄ h₄ => wpAny_mono (wpAny_toks_of h₄.1 h₄.2) (fun ok s₅ h₅ => ?_) fun _ _ e => e.2) fun _ _ e => e.2
    obtain ⟨e4, h₅⟩ := h₅
    obtain ⟨rfl, h₅⟩ := h₅
    simp only [if_true] at h₅ ⊢
    refine wpAny_mono (wpAny_toks_of e4 h₅) (fun y s₆ h₆ => ?_) fun _ _ e => e.2
    obtain ⟨e4, ⟨e1, e2, ⟨m₆, e3⟩⟩, zi, q1, q2, tq, rfl⟩ := h₆
    have ho₆ := ho₃.keep fun o e => e2 _ o hDC e
    have hcnt : cntR ((List.range i).map f).reverse ≤ i := by
      have := cntR_le ((List.range i).map f).reverse
      simpa using this
    have hfk : (bytesKind prog w).is (f i).toList (.bytes (f i) tq) = true := by simp [bytesKind, isBytes]
    refine call_add (k := (f i).toList) hfk rfl ho₆ (by rw [show scanBound = 4096 from rfl]; omega) fun h₇ hs₇ ho₇ => ?_
    have ne : ∀ b o, h₂.get? b = some o → b ≠ cenv.locals ∧ b ≠ D := fun b o e => ⟨(fun q => by rw [q, hC] at e; cases e), (fun q => by rw [q, hD] at e; cases e)⟩
    have key : ∀ b o, b ≠ cenv.locals → b ≠ D → s₃.heap.get? b = some o → h₇.get? b = some o := fun b o h1 h2 e => (hs₇.2 b h2).trans (e2 b o h1 e)
    have hc : cntR ((List.range (i + 1)).map f).reverse = if S (f i).toList = true then cntR ((List.range i).map f).reverse else cntR ((List.range i).map f).reverse + 1 := by
      rw [List.range_succ, List.map_append, List.reverse_append]
      show cntR (f i :: ((List.range i).map f).reverse) = _
      rw [cntR, hS']
      have : (f i ∈ ((List.range i).map f).reverse) ↔ ∃ j, j < i ∧ (f j).toList = (f i).toList := by
        simp only [List.mem_reverse, List.mem_map, List.mem_range]
        exact ⟨fun ⟨j, a, b⟩ => ⟨j, a, by rw [b]⟩, fun ⟨j, a, b⟩ => ⟨j, a, Array.toList_inj.mp b⟩⟩
      simp only [this, decide_eq_true_eq]
    rw [← hc] at ho₇
    refine ⟨n - (i + 1), Nat.sub_lt_sub_left hlt (Nat.lt_succ_self i), hJ _ _ ⟨i + 1, m₆, _, rfl, hlt, ?_, e3.sameBut hs₇ (Ne.symm hDC), ho₇, fun k => ?_, fun b o hb e => key b o (ne b o e).1 (ne b o e).2 (old₃ b o hb e), ?_, ?_⟩⟩
    · rw [e1]
      exact W.frame _ s₃ h₇ (s₆.toks + 1) hst₃ (Nat.le_succ_of_le e4) fun b hb o e => by
        obtain ⟨o', e'⟩ := hfp b hb
        exact key b o (ne b o' e').1 (ne b o' e').2 e
    · rw [hS', Bool.eq_iff_iff]
      simp only [Bool.or_eq_true, decide_eq_true_eq]
      constructor
      · rintro (⟨j, a, b⟩ | rfl)
        · exact ⟨j, Nat.lt_succ_of_lt a, b⟩
        · exact ⟨i, Nat.lt_succ_self i, rfl⟩
      · rintro ⟨j, a, b⟩
        by_cases hj : j = i
        · subst hj; exact .inr b.symm
        · exact .inl ⟨j, Nat.lt_of_le_of_ne (Nat.le_of_lt_succ a) hj, b⟩
    · rw [e1]; exact hg₃
    · rw [e1, s₃eq]
  · have hin : i = n := Nat.le_antisymm hi (Nat.not_lt.mp hlt)
    subst hin
    refine W.done s' _ _ hst' fun s₃ mv => ?_
    have s₃eq : s₃ = { s with heap := s₃.heap, gens := s₃.gens, toks := s₃.toks } := by
      rw [hs'] at mv
      obtain ⟨_, _, e1, e2, _⟩ := mv
      cases s₃; simp only at e1 e2; subst e1; subst e2; rfl
    rw [s₃eq]
    refine done s₃.heap s₃.gens s₃.toks m' (hn'.at' fun o e => mv.heap _ o nC e) ?_ (fun b o hb e => mv.heap b o hb (old' b o hb e)) (W.gtrans _ _ _ hg' mv.gens)
    rw [← funext hS']
    exact ho'.keep fun o e => mv.heap _ o nD e
theorem codeAny_compStart_set {env : Env} {elt target iter ifs rest scope pos it acc}
    (h0 : codeAny (model prog w) A (.compLoop (.SetComp elt (⟨target, iter, ifs, 0⟩ :: rest) scope pos) 0 it acc env) R s)
    (h : wpAny (model prog w) A (pyIter it) (fun it' s' => codeAny (model prog w) A (.compLoop (.SetComp elt (⟨target, iter, ifs, 0⟩ :: rest) scope pos) 0 it' acc env) R s')
      (notedBy (model prog w) A env fun x s' => R (.error x) s') s) :
    codeAny (model prog w) A (.compStart (.SetComp elt (⟨target, iter, ifs, 0⟩ :: rest) scope pos) 0 it acc env) R s := by
  refine codeAny_of_tree ?_
  show wpAny _ _ ((compStart (.SetComp elt (⟨target, iter, ifs, 0⟩ :: rest) scope pos) 0 it acc env).onRaise (fun x => do noteFrame x env; standAt theWindowsPlace)) _ _ s
  refine wpAny_notedAt ?_
  unfold compStart
  show wpAny _ _ (ask >>= _) _ _ s
  refine wpAny_bind (wpAny_askSetting (wpAny_ite ?_))
  split
  · first
      | exact wpAny_bind (wpAny_pure (wpAny_pure (And.intro rfl h0)))
      | exact wpAny_pure (And.intro rfl h0)
  · first
      | exact wpAny_bind (wpAny_rule (wpAny_bind (wpAny_standAt (wpAny_bind (wpAny_mono h (fun it' s' h' => wpAny_pure (And.intro rfl h')) fun _ _ x => x)))))
      | (refine wpAny_bind (wpAny_rule ?_); show wpAny _ _ (standAt iter.pos >>= _) _ _ s; exact wpAny_bind (wpAny_standAt (wpAny_bind (wpAny_mono h (fun it' s' h' => wpAny_pure (And.intro rfl h')) fun _ _ x => x))))

/-- what a set of bytes is -/
noncomputable def SetOct (prog : Program) (w : World) (h : Heap) (D : Addr) (l : List (Array UInt8)) : Prop := LSet prog w h D (fun k => decide (∃ x ∈ l, x.toList = k)) (cntR l.reverse) (!(w.params.followText "set-order"))
theorem SetOct.keep {h h' : Heap} {D : Addr} {l : List (Array UInt8)} (x : SetOct prog w h D l) (k : ∀ o, h.get? D = some o → h'.get? D = some o) : SetOct prog w h' D l := by
  obtain ⟨o, es, ep, t, h1, r⟩ := x
  exact ⟨o, es, ep, t, k _ h1, r⟩
noncomputable def SetAsk (prog : Program) (w : World) (A : Around) (target : Expr) (elt : Expr) (scope : Scope) (cl : List (Str × Addr)) (env : Env) (s₁ s₂ : Shared) (it : Value)
    (K : (D : Addr) → Heap → Array GenState → Nat → Prop) : Prop :=
  ∃ I n P Gn f, it = .ref I ∧ n ≤ 4000 ∧ Src prog w A s₁ s₂ I n P Gn ∧
    (∀ C i v s₃ m₃ E' z₃, i < n → P i v → Ext s₁.heap z₃ → (∀ b o, b ≠ C → s₃.heap.get? b = some o → z₃.get? b = some o) → St [z₃] C m₃ [] s₃.heap → Gn s₁.gens s₃.gens → Turn prog w A target [] elt (compEnvC scope cl C env) C (fun _ => true) (fun _ i y => ∃ tk, y = .bytes (f i) tk) i v E' s₃) ∧
    (∀ D h' g' tk, Ext s₁.heap h' → s₁.heap.get? D = none → SetOct prog w h' D ((List.range n).map f) → Gn s₁.gens g' → K D h' g' tk)
theorem set_block {env : Env} {elt target iter : Expr} {scope : Scope} {cl : List (Str × Addr)} {pos : Pos} {s₁ s₂ : Shared} {it : Value} {K : (D : Addr) → Heap → Array GenState → Nat → Prop} {RR : Value → Addr → Result → Shared → Prop}
    (hcell : ∀ y ∈ scope.names, y.2 ≠ .cell) (hkind : scope.kind = .function) (ask : SetAsk prog w A target elt scope cl env s₁ s₂ it K)
    (hRR : ∀ D C h' g' tk m', s₁.heap.get? D = none → s₁.heap.get? C = none → D ≠ C → h'.Ns C m' → Ext s₁.heap h' → (∀ h'', (∀ b o, b ≠ C → h'.get? b = some o → h''.get? b = some o) → ∀ tk, K D h'' g' tk) → RR (.ref D) C (.ok .next) { s₁ with heap := h', gens := g', toks := tk }) :
    wpAny (model prog w) A (newSet (.type "set")) (fun acc s₃ => wpAny (model prog w) A (newFunctionEnv scope env.globals cl [] env.qual none .none (some env)) (fun cenv s₄ =>
      codeAny (model prog w) A (.compStart (.SetComp elt [⟨target, iter, [], 0⟩] scope pos) 0 it acc { cenv with scope := relabel scope env }) (RR acc cenv.locals) s₄) E s₃) E s₂ := by
  obtain ⟨I, n, P, Gn, f, rfl, hn4, ⟨⟨fp, wr, Stt, W, hst, hfp, hwr, lets, lives⟩, same, ext, gn, hsz⟩, turn, hK⟩ := ask
  refine new_set fun oS hS0 => (wpAny_newFunctionEnv hcell (by intro y hy; simp at hy) (fun h₁ hns₁ hsb₁ => ?_) hkind)
  dsimp only at hns₁ hsb₁ ⊢
  generalize hH2 : s₂.heap.push oS = H2 at hns₁ hsb₁ hS0 ⊢
  have hC : H2.objs.size = s₂.heap.objs.size + 1 := by rw [← hH2, Heap.size_push]
  have hDC : s₂.heap.objs.size ≠ H2.objs.size := by rw [hC]; exact Nat.ne_of_lt (Nat.lt_succ_self _)
  have below : ∀ b, b < s₂.heap.objs.size → b ≠ H2.objs.size ∧ b ≠ s₂.heap.objs.size := fun b hb => ⟨by rw [hC]; exact Nat.ne_of_lt (Nat.lt_succ_of_lt hb), Nat.ne_of_lt hb⟩
  have old : ∀ b o, s₂.heap.get? b = some o → h₁.get? b = some o := fun b o e => hsb₁.extBut b o (below b (Heap.lt_size e)).1 (Heap.get?_push_of_some _ (hH2 ▸ Heap.get?_push_of_some _ e))
  have hacc : LSet prog w h₁ s₂.heap.objs.size (fun _ => false) 0 (!(w.params.followText "set-order")) := hS0.keep fun o e => hsb₁.extBut _ _ hDC (Heap.get?_push_of_some _ e)
  have nD : s₂.heap.get? s₂.heap.objs.size = none := fresh_none (Nat.le_refl _)
  have nC : s₂.heap.get? H2.objs.size = none := fresh_none (by rw [hC]; exact Nat.le_succ _)
  have to1 : ∀ b, s₂.heap.get? b = none → s₁.heap.get? b = none := fun b hb => by
    cases q : s₁.heap.get? b with
    | none => rfl
    | some o => rw [ext b o q] at hb; cases hb
  have hst₁ : Stt 0 { s₂ with heap := h₁, toks := s₂.toks } := W.frame _ s₂ h₁ s₂.toks hst (Nat.le_refl _) fun b _ o e => old b o e
  have loop : codeAny (model prog w) A (.compLoop (.SetComp elt [⟨target, iter, [], 0⟩] scope pos) 0 (.ref I) (.ref s₂.heap.objs.size) (compEnvC scope cl H2.objs.size env))
      (RR (.ref s₂.heap.objs.size) H2.objs.size) { s₂ with heap := h₁, toks := s₂.toks + ([] : List (Str × Value)).length } := by
    refine set_loop (cenv := compEnvC scope cl H2.objs.size env) (h₂ := s₂.heap) (g₂ := s₁.gens) W (fun i s v Q E => lets i s target v Q E) f hfp nC nD hDC hst₁ hns₁ hacc (fun b o _ e => old b o e) gn hn4
      (fun i v s₃ m₃ E' hi hv hn hk hg => turn _ i v s₃ m₃ E' (cut s₃.heap fun b => b != H2.objs.size) hi hv (fun b o e => ?_) (fun b o hb e => ?_) ⟨hn, (fun _ hp => (nomatch hp)), by simp, fun z hz => ?_⟩ hg) fun h' g' tk m' hn' f5 f7 f8 => ?_
    · rw [cut_get, if_pos (by simp; intro q; rw [q, to1 _ nC] at e; cases e)]
      exact hk b o (fun hm => by rw [hwr b hm] at e; cases e) (ext b o e)
    · rw [cut_get, if_pos (by simpa using hb)]; exact e
    · rw [List.mem_singleton.mp hz]
      refine ⟨cut_ext _ _, fun a ha => ?_⟩
      rw [List.mem_singleton.mp ha]
      show (cut s₃.heap fun b => b != H2.objs.size).get? H2.objs.size = none
      rw [cut_get, if_neg (by simp)]
    · have e1 : Ext s₁.heap h' := fun b o e => f7 b o (fun hm => by rw [hwr b hm] at e; cases e) (ext b o e)
      have key : ({ s₂ with heap := h', gens := g', toks := tk } : Shared) = { s₁ with heap := h', gens := g', toks := tk } := by rw [same]
      have := hRR s₂.heap.objs.size H2.objs.size h' g' tk m' (to1 _ nD) (to1 _ nC) hDC hn' e1 fun h'' k tk' => hK _ _ _ _ (fun b o e => k b o (fun q => by rw [q, to1 _ nC] at e; cases e) (e1 b o e)) (to1 _ nD) (SetOct.keep ?_ fun o e => k _ o hDC e) f8
      · rw [← key] at this; exact this
      · unfold SetOct
        refine cast ?_ f5
        congr 1
        funext k
        rw [Bool.eq_iff_iff]
        simp only [decide_eq_true_eq, List.mem_map, List.mem_range]
        constructor
        · rintro ⟨j, a, b⟩; exact ⟨_, ⟨j, a, rfl⟩, b⟩
        · rintro ⟨_, ⟨j, a, rfl⟩, b⟩; exact ⟨j, a, b⟩
  exact codeAny_compStart_set loop (W.self 0 _ _ _ hst₁ loop)

/-- a set comprehension as an expression -/
theorem sc_eval {env : Env} {elt target iter : Expr} {scope : Scope} {cl : List (Str × Addr)} {pos : Pos} {Q : Value → Shared → Prop}
    (hclos : closureFor scope env = pure cl) (hcell : ∀ y ∈ scope.names, y.2 ≠ .cell) (hkind : scope.kind = .function)
    (hnames : ∀ y ∈ scope.names, y.2 = .local → scope.names.lookup y.1 = some .local)
    (h : wpAny (model prog w) A (eval iter env) (fun xv s₁ => wpAny (model prog w) A (pyIter xv) (fun it s₂ =>
      SetAsk prog w A target elt scope cl env s₁ s₂ it fun D h' g' tk => Q (.ref D) { s₁ with heap := h', gens := g', toks := tk }) E s₁) E s)
    (hs : ∀ x, foldedSetIterable iter env x = pure x := by intro _; rfl) :
    wpAny (model prog w) A (eval (.SetComp elt [⟨target, iter, [], 0⟩] scope pos) env) Q E s := by
  rw [arm_eval_SetComp]
  refine wpAny_comprehension_free (use := none) rfl hs hclos hkind hnames (wpAny_mono h (fun xv s₁ h₁ => wpAny_mono h₁ (fun it s₂ h₂ => ?_) fun _ _ e => e) fun _ _ e => e)
  refine set_block (RR := fun acc C => compPost (model prog w) A E none Q acc C) hcell hkind h₂ ?_
  intro D C h' g' tk m' _ _ _ hn _ k
  exact ⟨m', hn, fun h'' hs'' => k h'' (fun b o hb e => hs''.extBut b o hb e) tk⟩
theorem sc_assign {env : Env} {elt target iter : Expr} {scope : Scope} {cl : List (Str × Addr)} {pos spos : Pos} {y : Str} {py : Pos} {Q : Flow → Shared → Prop}
    (hsw : swapsWith (.SetComp elt [⟨target, iter, [], 0⟩] scope pos) (some (.Name y py)) spos.line env = pure true)
    (hclos : closureFor scope env = pure cl) (hcell : ∀ y ∈ scope.names, y.2 ≠ .cell) (hkind : scope.kind = .function)
    (hnames : ∀ y ∈ scope.names, y.2 = .local → scope.names.lookup y.1 = some .local)
    (hy : env.kindOf y = some .local) (hp : (env.scope.kind == .class || (env.scope.kind == .module && env.locals != env.globals)) = false)
    (h : wpAny (model prog w) A (eval iter env) (fun xv s₁ => wpAny (model prog w) A (pyIter xv) (fun it s₂ => (∃ m, s₁.heap.Ns env.locals m ∧
      SetAsk prog w A target elt scope cl env s₁ s₂ it fun D h' g' tk => ∀ h'' tk', h''.Ns env.locals (fun z => if z = y then some (.ref D) else m z) → (∀ b o, b ≠ env.locals → h'.get? b = some o → h''.get? b = some o) → Q .next { s₁ with heap := h'', gens := g', toks := tk' })) E s₁) E s)
    (hs : ∀ x, foldedSetIterable iter env x = pure x := by intro _; rfl) :
    wpAny (model prog w) A (exec (.Assign [.Name y py] (.SetComp elt [⟨target, iter, [], 0⟩] scope pos) spos) env) Q E s := by
  rw [exec_Assign_Name_used _ _ _ _ hsw]
  refine wpAny_bind (wpAny_standAt (wpAny_bind ?_))
  show wpAny _ A (do let _ ← comprehension (.SetComp elt [⟨target, iter, [], 0⟩] scope pos) scope env _ (newSet (.type "set")) false (eval iter env) (some (assign (.Name y py) env))) _ _ s
  refine wpAny_bind (wpAny_mono (wpAny_comprehension_free (use := some (assign (.Name y py) env)) (Q := fun _ s' => Q .next s') rfl hs hclos hkind hnames (wpAny_mono h (fun xv s₁ h₁ => wpAny_mono h₁ (fun it s₂ h₂ => ?_) fun _ _ e => e) fun _ _ e => e))
    (fun _ s' hq => wpAny_pure (wpAny_pure hq)) fun _ _ e => e)
  obtain ⟨m, hn₁, h₂⟩ := h₂
  refine set_block (RR := fun acc C => compPost (model prog w) A E (some (assign (.Name y py) env)) (fun _ s' => Q .next s') acc C) hcell hkind h₂ ?_
  intro D C h' g' tk m' nD nC hDC hn e1 k
  have hLC : env.locals ≠ C := by rintro e; obtain ⟨o, _, _, ho, _⟩ := hn₁; rw [e, nC] at ho; cases ho
  show wpAny _ _ (assign (.Name y py) env (.ref D)) _ _ _
  refine wpAny_assign_Name (wpAny_storeName_local hy (hn₁.keeps e1) (fun h₂ hn₂ hs₂ => ?_) hp)
  refine ⟨m', hn.sameBut hs₂ (Ne.symm hLC), fun h₃ hs₃ => ?_⟩
  have kk := k (cut h' fun b => b != C) (fun b o hb e => by rw [cut_get, if_pos (by simpa using hb)]; exact e) tk
  refine kk h₃ _ (hn₂.sameBut hs₃ hLC) fun b o hb e => ?_
  rw [cut_get] at e
  split at e
  · rename_i q
    have q' : b ≠ C := by simpa using q
    rw [hs₃.2 b q']; exact hs₂.extBut b o hb e
  · cases e
end
end
-- part NI
theorem start_NI : True := by
  w_top off
  trivial
section
theorem slot_setit_next : Slot "set_iterator" "__next__" "set_iterator.__next__" :=
  .of (owner := "set_iterator") (n := "__next__") (by rw [typeLookup_type, builtinLookup_eq_fast]; kernel_rfl) (by decide +kernel) (by decide +kernel) (by decide +kernel)
    (by first | exact .inl (by decide +kernel) | exact .inr (by decide +kernel)) (by rw [isSubtype_type]; kernel_rfl)
theorem slot_setit_iter : Slot "set_iterator" "__iter__" "set_iterator.__iter__" :=
  .of (owner := "set_iterator") (n := "__iter__") (by rw [typeLookup_type, builtinLookup_eq_fast]; kernel_rfl) (by decide +kernel) (by decide +kernel) (by decide +kernel)
    (by first | exact .inl (by decide +kernel) | exact .inr (by decide +kernel)) (by rw [isSubtype_type]; kernel_rfl)
theorem entry_setit_next : entryFor table "set_iterator.__next__" = some Builtin.«set_iterator.__next__» := entryFor_of_tree (by kernel_rfl)
theorem entry_set_iter : entryFor table "set.__iter__" = some Builtin.«frozenset.__iter__» :=
  entryFor_alias (id' := "frozenset.__iter__") (by kernel_rfl) rfl (by decide +kernel) (by kernel_rfl)

theorem owner_setit : Manifest.owners.lookup (String.ofList ['r', 'o', 't', 'a', 'r', 'e', 't', 'i', '_', 't', 'e', 's'].reverse) = some Manifest.sig_set_iterator := by kernel_rfl
theorem args_setit_next (a : Value) : argsOk "set_iterator.__next__" ⟨[a], []⟩ := by
  unfold argsOk; rw [signature?_of (id := "set_iterator.__next__") (n := ['_', '_', 't', 'x', 'e', 'n', '_', '_']) (o := ['r', 'o', 't', 'a', 'r', 'e', 't', 'i', '_', 't', 'e', 's']) (by kernel_rfl) owner_setit]; kernel_rfl

/-- a set of one element -/
noncomputable def OneSet (w : World) (h : Heap) (a : Addr) (x : Value) (ep : Nat) (t : SetTable) : Prop :=
  ∃ o k, h.get? a = some o ∧ o.ExactSet ∧ o.data = .set #[(k, x)] ep t ∧ t.fits 1 = true ∧ t.led = !(w.params.followText "set-order")
theorem OneSet.keep {w : World} {h h' : Heap} {a : Addr} {x : Value} {ep : Nat} {t : SetTable} (q : OneSet w h a x ep t) (k : ∀ o, h.get? a = some o → h'.get? a = some o) : OneSet w h' a x ep t := by
  obtain ⟨o, key, h1, r⟩ := q
  exact ⟨o, key, k _ h1, r⟩
noncomputable def slotThen (w : World) (t : SetTable) : Nat := if w.params.followText "set-order" then 0 else t.place.getD 0 0 + 1
theorem fits_one {t : SetTable} (h : t.fits 1 = true) : ∃ p, t.place = #[p] := by
  simp only [SetTable.fits, Bool.and_eq_true, beq_iff_eq, decide_eq_true_eq] at h
  have h1 : t.place.size = 1 := by first | exact h.1 | omega
  rcases q : t.place with ⟨l⟩
  rw [q] at h1
  match l, h1 with
  | [p], _ => exact ⟨p, rfl⟩
section
variable {prog : Program} {w : World} {A : Around} {E : Value → Shared → Prop} {s : Shared}
theorem setWalk_one {a : Addr} {x : Value} {ep : Nat} {t : SetTable} {Q : Array (Int × Value) → Shared → Prop} (hbt : w.params.followText "set-order" = true) (hS : OneSet w s.heap a x ep t) (h : ∀ k, Q #[(k, x)] s) :
    wpAny (model prog w) A (setWalk a) Q E s := by
  obtain ⟨o, k, ho, _, hd, hf, hl⟩ := hS
  unfold setWalk setsByText
  refine wpAny_bind (wpAny_setState_of ho hd hf ?_)
  dsimp only
  refine wpAny_bind (wpAny_bind (wpAny_askSetting (wpAny_pure ?_)))
  refine wpAny_ite_true (show decide (w.params.followText "set-order" = true) = true from decide_eq_true hbt) ?_
  refine wpAny_bind (wpAny_askSetting (wpAny_pure ?_))
  have e : ∀ f : Nat → Nat, pickOrder f #[(k, x)] = #[(k, x)] := fun f => by
    show pickOrder.go f 1 0 [(k, x)] #[] = _
    unfold pickOrder.go
    simp [Nat.mod_one]
    unfold pickOrder.go
    rfl
  rw [e]; exact h k
theorem setNext_item {a : Addr} {x : Value} {ep : Nat} {t : SetTable} {Q : Option (Value × Nat) → Shared → Prop} (hS : OneSet w s.heap a x ep t) (h : Q (some (x, slotThen w t)) s) :
    wpAny (model prog w) A (setNext a 0 0 ep) Q E s := by
  have hS0 := hS
  obtain ⟨o, k, ho, _, hd, hf, hl⟩ := hS
  unfold setNext setsByText
  refine wpAny_bind (wpAny_setState_of ho hd hf ?_)
  dsimp only
  refine wpAny_bind (wpAny_bind (wpAny_askSetting (wpAny_pure ?_)))
  by_cases hbt : w.params.followText "set-order" = true
  · refine wpAny_ite_true (show decide (w.params.followText "set-order" = true) = true from decide_eq_true hbt) ?_
    rw [if_neg (by simp)]
    refine wpAny_bind (setWalk_one hbt hS0 fun k => wpAny_pure ?_)
    unfold slotThen at h
    rw [if_pos hbt] at h
    exact h
  · refine wpAny_ite_false (show decide (w.params.followText "set-order" = true) = false from decide_eq_false hbt) ?_
    have hbf : w.params.followText "set-order" = false := by simpa using hbt
    rw [hbf] at hl
    obtain ⟨p, hp⟩ := fits_one hf
    unfold slotThen at h
    rw [if_neg hbt, hp] at h
    have hdr : (!t.plain && decide ((#[(k, x)] : Array (Int × Value)).size > 1)) = false := by simp
    refine wpAny_ite_false (by show decide ((!t.plain && decide ((#[(k, x)] : Array (Int × Value)).size > 1)) = true) = false; rw [hdr]; rfl) ?_
    have hm : (!t.led && !(#[(k, x)] : Array (Int × Value)).isEmpty) = false := by rw [hl]; rfl
    refine wpAny_bind (m := if (!t.led && !(#[(k, x)] : Array (Int × Value)).isEmpty) = true then unsupported "set:maker-not-led" else pure ()) ?_
    rw [hm]
    refine wpAny_pure (wpAny_pure ?_)
    rw [hp]
    exact h
theorem setNext_end {a : Addr} {x : Value} {ep : Nat} {t : SetTable} {Q : Option (Value × Nat) → Shared → Prop} (hS : OneSet w s.heap a x ep t) (h : Q none s) :
    wpAny (model prog w) A (setNext a (slotThen w t) 1 ep) Q E s := by
  have hS0 := hS
  obtain ⟨o, k, ho, _, hd, hf, hl⟩ := hS
  unfold setNext setsByText
  refine wpAny_bind (wpAny_setState_of ho hd hf ?_)
  dsimp only
  refine wpAny_bind (wpAny_bind (wpAny_askSetting (wpAny_pure ?_)))
  by_cases hbt : w.params.followText "set-order" = true
  · refine wpAny_ite_true (show decide (w.params.followText "set-order" = true) = true from decide_eq_true hbt) ?_
    rw [if_neg (by simp)]
    refine wpAny_bind (setWalk_one hbt hS0 fun k => wpAny_pure ?_)
    exact h
  · refine wpAny_ite_false (show decide (w.params.followText "set-order" = true) = false from decide_eq_false hbt) ?_
    have hbf : w.params.followText "set-order" = false := by simpa using hbt
    rw [hbf] at hl
    obtain ⟨p, hp⟩ := fits_one hf
    have hdr : (!t.plain && decide ((#[(k, x)] : Array (Int × Value)).size > 1)) = false := by simp
    refine wpAny_ite_false (by show decide ((!t.plain && decide ((#[(k, x)] : Array (Int × Value)).size > 1)) = true) = false; rw [hdr]; rfl) ?_
    have hm : (!t.led && !(#[(k, x)] : Array (Int × Value)).isEmpty) = false := by rw [hl]; rfl
    refine wpAny_bind (m := if (!t.led && !(#[(k, x)] : Array (Int × Value)).isEmpty) = true then unsupported "set:maker-not-led" else pure ()) ?_
    rw [hm]
    refine wpAny_pure (wpAny_pure ?_)
    have e : SetTable.below t.place (slotThen w t) = 1 := by
      unfold slotThen
      rw [if_neg hbt, hp]
      show SetTable.below.go #[p] (p + 1) 1 0 1 = 1
      unfold SetTable.below.go
      simp
      unfold SetTable.below.go
      rfl
    rw [e]
    exact h
end
end
-- part NJ
theorem start_NJ : True := by
  w_top off
  trivial
section
abbrev setItObj (slot i : Nat) (a : Addr) (ep : Nat) : Obj := { cls := .type "set_iterator", data := .fields #[.int slot 0, .int i 0, .ref a, .int 1 0, .int ep 0] }
section
variable {prog : Program} {w : World} {A : Around} {E : Value → Shared → Prop} {s : Shared}
theorem pyIter_one {a : Addr} {x : Value} {ep : Nat} {t : SetTable} {Q : Value → Shared → Prop} (hS : OneSet w s.heap a x ep t)
    (hQ : Q (.ref s.heap.objs.size) { s with heap := s.heap.push (setItObj 0 0 a ep) }) : wpAny (model prog w) A (pyIter (.ref a)) Q E s := by
  obtain ⟨o, k, ho, hex, hd, hf, hl⟩ := hS
  have hT : s.TypeIs (.ref a) "set" := ⟨o, ho, hex.1⟩
  refine wpAny_pyIter_slot hT F.slot_set_iter (wpAny_call_entry F.slot_set_iter hT entry_set_iter ?_ (F.args_set_iter_1 _))
  unfold Builtin.«frozenset.__iter__»
  refine wpAny_bind (m := Builtin.Frozenset.slot0 _ _) (wpAny_pure ?_)
  unfold Builtin.Frozenset.sizeOf
  refine wpAny_bind (wpAny_bind (wpAny_setEntries_of ho hd hf (wpAny_pure ?_)))
  refine wpAny_bind ?_
  unfold setDrawn setsByText
  refine wpAny_bind (wpAny_setState_of ho hd hf ?_)
  dsimp only
  refine wpAny_bind (wpAny_bind (wpAny_askSetting (wpAny_pure (wpAny_pure ?_))))
  refine wpAny_ite_false ?_ (wpAny_bind (wpAny_pure ?_))
  · show decide ((!w.params.followText "set-order" && (!t.plain && decide (1 > 1))) = true) = false
    simp
  refine wpAny_bind (wpAny_setEpoch_of ho hd hf ?_)
  refine wpAny_bind (wpAny_newObj_type (wpAny_pure ⟨_, rfl, "set_iterator", _, ⟨_, Heap.get?_push_size _ rfl, rfl⟩, slot_setit_next.lookup, ?_⟩))
  exact hQ
theorem pyNext_one {a it : Addr} {x : Value} {ep : Nat} {t : SetTable} {Q : Option Value → Shared → Prop} (hS : OneSet w s.heap a x ep t) (hit : s.heap.get? it = some (setItObj 0 0 a ep))
    (hQ : ∀ h', h'.get? it = some (setItObj (slotThen w t) 1 a ep) → Heap.SameBut it s.heap h' → Q (some x) { s with heap := h' }) : wpAny (model prog w) A (pyNext (.ref it)) Q E s := by
  have hS0 := hS
  obtain ⟨o, k, ho, hex, hd, hf, hl⟩ := hS
  have hT : s.TypeIs (.ref it) "set_iterator" := ⟨_, hit, rfl⟩
  unfold pyNext
  refine wpAny_bind (wpAny_attempt (wpAny_callSpecial?_slot (name := Str.ofString "__next__") hT slot_setit_next
    (wpAny_call_entry slot_setit_next hT entry_setit_next ?_ (args_setit_next _))))
  unfold Builtin.«set_iterator.__next__»
  refine wpAny_bind (wpAny_pure ?_)
  refine wpAny_bind (wpAny_fieldsOf hit rfl ?_)
  dsimp only
  refine wpAny_bind (wpAny_setEntries_of ho hd hf ?_)
  rw [if_neg (by simp)]
  refine wpAny_bind (setNext_item hS0 ?_)
  dsimp only
  refine wpAny_bind (wpAny_setField_rec hit (by simp) fun h₁ hi₁ hs₁ => ?_)
  refine wpAny_bind (wpAny_setField_rec (s := { s with heap := h₁ }) hi₁ (by simp) fun h₂ hi₂ hs₂ => ?_)
  exact wpAny_pure ⟨_, rfl, wpAny_pure (hQ h₂ hi₂ (hs₁.trans hs₂))⟩
theorem pyNext_one_end {a it : Addr} {x : Value} {ep : Nat} {t : SetTable} {Q : Option Value → Shared → Prop} (hh : A.handled = none) (hS : OneSet w s.heap a x ep t) (hit : s.heap.get? it = some (setItObj (slotThen w t) 1 a ep))
    (hQ : ∀ h', Heap.ExtBut it s.heap h' → Q none { s with heap := h' }) : wpAny (model prog w) A (pyNext (.ref it)) Q E s := by
  have hS0 := hS
  obtain ⟨o, k, ho, hex, hd, hf, hl⟩ := hS
  have hT : s.TypeIs (.ref it) "set_iterator" := ⟨_, hit, rfl⟩
  unfold pyNext
  refine wpAny_bind (wpAny_attempt (wpAny_callSpecial?_slot (name := Str.ofString "__next__") hT slot_setit_next
    (wpAny_call_entry slot_setit_next hT entry_setit_next ?_ (args_setit_next _))))
  unfold Builtin.«set_iterator.__next__»
  refine wpAny_bind (wpAny_pure ?_)
  refine wpAny_bind (wpAny_fieldsOf hit rfl ?_)
  dsimp only
  refine wpAny_bind (wpAny_setEntries_of ho hd hf ?_)
  rw [if_neg (by simp)]
  refine wpAny_bind (setNext_end hS0 ?_)
  dsimp only
  refine wpAny_bind (wpAny_setField_rec hit (by simp) fun h₁ hi₁ hs₁ => ?_)
  show wpAny _ _ (newExc (.type "StopIteration") [] >>= _) _ _ _
  refine wpAny_bind ?_
  simp only [newExc, newTuple]
  refine wpAny_bind (wpAny_newObj_type ?_ (by size_fits))
  refine wpAny_bind (m := firstArgMember _ _) (wpAny_of_eq (a := Value.none) (by first | rfl | (simp only [firstArgMember]; rfl)) ?_)
  refine wpAny_newObj_type ?_ (by size_fits)
  simp only [raiseNew]
  refine wpAny_bind (wpAny_handled ?_)
  rw [show A.in1.handled = none from hh]
  refine wpAny_bind (wpAny_pure (wpAny_throw ?_))
  refine wpAny_bind (wpAny_isInstance (T := "StopIteration") (b := true) ⟨_, Heap.get?_push_size _ rfl, rfl⟩ isSubtype_stop ?_)
  exact wpAny_pure (hQ _ ((hs₁.extBut.push _).push _))
end
end
-- part NK
theorem start_NK : True := by
  w_top off
  trivial
section
section
variable {prog : Program} {w : World} {A : Around} {E : Value → Shared → Prop} {R : Result → Shared → Prop} {s : Shared}
theorem loop_one {S it a : Addr} {x res : Value} {ep c : Nat} {t : SetTable} (hh : A.handled = none) (hO : OneSet w s.heap a x ep t) (hit : s.heap.get? it = some (setItObj 0 0 a ep)) (hS : s.heap.get? S = some { cls := .type "list", dict := none, data := .seq #[] c, slots := #[] })
    (h1 : S ≠ it) (h2 : S ≠ a) (h3 : it ≠ a)
    (hR : ∀ h' c', (∀ b o, b ≠ S → b ≠ it → s.heap.get? b = some o → h'.get? b = some o) → h'.get? S = some { cls := .type "list", dict := none, data := .seq #[x] c', slots := #[] } → R (.ok (.ret res)) { s with heap := h' }) :
    codeAny (model prog w) A (.builtin "list.extend.loop" ⟨[.ref S, .ref it, res], []⟩) R s := by
  refine codeAny_builtin F.entry_extend_loop ?_
  rw [Around.under_plainId F.plain_extend_loop _]
  show wpAny _ A.in1 (pyNext (.ref it) >>= _) _ _ s
  refine wpAny_bind (pyNext_one hO hit fun h₁ hi₁ hs₁ => ?_)
  have hS₁ := (hs₁.2 S h1).trans hS
  have hO₁ : OneSet w h₁ a x ep t := hO.keep fun o e => (hs₁.2 a (Ne.symm h3)).trans e
  show wpAny _ A.in1 (updateSeq S (·.push x) >>= _) _ _ _
  refine wpAny_bind ?_
  refine wpAny_updateSeq hS₁ rfl (wpAny_pure ⟨plainId_quiet F.plain_extend_loop _, ?_⟩) (by simp) (by show (#[].push x).size ≤ sizeLine + 1; simp)
  have hS₂ := Heap.get?_update_self (Obj.mapSeq (·.push x)) hS₁ rfl
  have oth : ∀ b, b ≠ S → (h₁.update S (Obj.mapSeq (·.push x))).get? b = h₁.get? b := fun b hb => Heap.get?_update_other _ _ (Ne.symm hb)
  refine codeAny_builtin F.entry_extend_loop ?_
  rw [Around.under_plainId F.plain_extend_loop _]
  show wpAny _ A.in1 (pyNext (.ref it) >>= _) _ _ _
  refine wpAny_bind (pyNext_one_end (s := { s with heap := h₁.update S (Obj.mapSeq (·.push x)) }) hh (hO₁.keep fun o e => (oth a (Ne.symm h2)).trans e) ((oth it (Ne.symm h1)).trans hi₁) fun h₂ hs₂ => ?_)
  refine wpAny_pure (hR h₂ _ (fun b o b1 b2 e => hs₂ b o b2 ((oth b b1).trans ((hs₁.2 b b2).trans e))) (hs₂ _ _ h1 hS₂))

theorem collect_one {a : Addr} {x : Value} {ep : Nat} {t : SetTable} {Q : List Value → Shared → Prop} (hh : A.handled = none) (hO : OneSet w s.heap a x ep t)
    (hQ : ∀ h' tk, Ext s.heap h' → Q [x] { s with heap := h', toks := tk }) : wpAny (model prog w) A (collect (.ref a)) Q E s := by
  have ha : a < s.heap.objs.size := by obtain ⟨o, k, ho, _⟩ := hO; exact Heap.lt_size ho
  have hSa : s.heap.objs.size ≠ a := Ne.symm (Nat.ne_of_lt ha)
  unfold collect
  refine wpAny_bind (wpAny_runValue (codeAny_builtin F.entry_proto_collect ?_))
  rw [Around.under_plainId F.plain_proto_collect _]
  show wpAny _ A.in1 (newList [] >>= fun l => again (.builtin "list.__iadd__" ⟨[l, .ref a], []⟩)) _ _ s
  refine wpAny_bind (wpAny_newObj_type ?_)
  refine wpAny_pure ⟨plainId_quiet F.plain_list_iadd _, codeAny_builtin F.entry_list_iadd ?_⟩
  rw [Around.under_plainId F.plain_list_iadd _]
  generalize hH1 : s.heap.push { cls := .type "list", data := .seq ([] : List Value).toArray } = H1
  have hO₁ : OneSet w H1 a x ep t := hO.keep fun o e => hH1 ▸ Heap.get?_push_of_some _ e
  have hS₁ : H1.get? s.heap.objs.size = some { cls := .type "list", data := .seq ([] : List Value).toArray } := hH1 ▸ Heap.get?_push_size _ rfl
  have hT₁ : ({ s with heap := H1 } : Shared).TypeIs (.ref a) "set" := by obtain ⟨o, k, ho, hex, _⟩ := hO₁; exact ⟨o, ho, hex.1⟩
  have hsz : H1.objs.size = s.heap.objs.size + 1 := by rw [← hH1, Heap.size_push]
  show wpAny _ A.in1 (Builtin.List.listExtendWith (.ref s.heap.objs.size) (.ref a) (.ref s.heap.objs.size)) _ _ { s with heap := H1 }
  unfold Builtin.List.listExtendWith
  refine wpAny_bind (wpAny_typeOf hT₁ ?_)
  have h1 : Builtin.List.listSameRef (.ref s.heap.objs.size) (.ref a) = false := by simp [Builtin.List.listSameRef, hSa]
  rw [if_neg (by rw [h1]; decide)]
  refine wpAny_bind (pyIter_one (s := { s with heap := H1 }) hO₁ ?_)
  refine wpAny_bind (wpAny_holding ?_)
  generalize hH2 : H1.push (setItObj 0 0 a ep) = H2
  have k2 : ∀ b o, H1.get? b = some o → H2.get? b = some o := fun b o e => hH2 ▸ Heap.get?_push_of_some _ e
  have hT₂ : ({ s with heap := H2 } : Shared).TypeIs (.ref a) "set" := by obtain ⟨o, k, ho, hex, _⟩ := hO₁; exact ⟨o, k2 _ _ ho, hex.1⟩
  unfold Builtin.List.listLengthHint
  refine wpAny_bind (wpAny_specialOf hT₂ F.slot_set_len.lookup ?_)
  generalize hid : ("set.__len__" : String) = id0
  wp_delta
  rw [show splitId id0 = some ("set", "__len__") from by subst hid; decide +kernel]
  subst hid
  refine wpAny_bind (wpAny_isInstance (b := true) hT₂ (by rw [isSubtype_type]; kernel_rfl) ?_)
  rw [if_neg (by decide)]
  refine wpAny_ite_true (by decide +kernel) ?_
  refine wpAny_bind (wpAny_typeOf hT₂ (wpAny_pure ?_))
  refine wpAny_ite_true (by decide +kernel) ?_
  refine wpAny_bind (wpAny_rule ?_)
  refine wpAny_bind ?_
  have hS₂ : H2.get? s.heap.objs.size = some { cls := .type "list", data := .seq ([] : List Value).toArray } := k2 _ _ hS₁
  show wpAny _ A.in1 (updateSeq s.heap.objs.size (·.push .none) >>= fun _ => updateSeq s.heap.objs.size (·.pop)) _ _ _
  refine wpAny_bind (wpAny_updateSeq hS₂ rfl ?_)
  have hS₃ := Heap.get?_update_self (Obj.mapSeq (·.push Value.none)) hS₂ rfl
  refine wpAny_updateSeq hS₃ rfl ?_
  have hS₄ := Heap.get?_update_self (Obj.mapSeq (·.pop)) hS₃ rfl
  have oth : ∀ b o, b ≠ s.heap.objs.size → H2.get? b = some o → ((H2.update s.heap.objs.size (Obj.mapSeq (·.push Value.none))).update s.heap.objs.size (Obj.mapSeq (·.pop))).get? b = some o :=
    fun b o hb e => (Heap.get?_update_other _ _ (Ne.symm hb)).trans ((Heap.get?_update_other _ _ (Ne.symm hb)).trans e)
  have e1 : H1.objs.size ≠ s.heap.objs.size := by rw [hsz]; exact Nat.succ_ne_self _
  have e2 : H1.objs.size ≠ a := by rw [hsz]; exact Ne.symm (Nat.ne_of_lt (Nat.lt_succ_of_lt ha))
  have hI : H2.get? H1.objs.size = some (setItObj 0 0 a ep) := hH2 ▸ Heap.get?_push_size _ rfl
  refine wpAny_pure ⟨plainId_quiet F.plain_extend_loop _, loop_one (s := { s with heap := _ }) hh (hO₁.keep fun o e => oth a o (Ne.symm hSa) (k2 _ _ e)) (oth _ _ e1 hI) hS₄ (Ne.symm e1) hSa e2 fun h' c' hk hS' => ?_⟩
  show wpAny _ A (load s.heap.objs.size >>= _) _ _ _
  refine wpAny_bind (wpAny_load hS' ?_)
  refine wpAny_pure (hQ h' _ fun b o e => ?_)
  have hb : b < s.heap.objs.size := Heap.lt_size e
  have b2 : b ≠ H1.objs.size := by rw [hsz]; exact Nat.ne_of_lt (Nat.lt_succ_of_lt hb)
  exact hk b o (Nat.ne_of_lt hb) b2 (oth b o (Nat.ne_of_lt hb) (k2 _ _ (hH1 ▸ Heap.get?_push_of_some _ e)))
end
end
-- part NM
theorem start_NM : True := by
  w_top off
  trivial
section
section
variable {prog : Program} {w : World} {A : Around} {E : Value → Shared → Prop} {s : Shared}
theorem sort_one {a : Addr} {x : Value} {n : Nat} {P : PySem.Fin → Shared → Prop} (ho : s.heap.get? a = some (seqObj "list" #[x] n))
    (h : ∀ h' c', h'.get? a = some (seqObj "list" #[x] c') → (∀ b o, b ≠ a → s.heap.get? b = some o → h'.get? b = some o) → P (.done (.ret .none)) { s with heap := h' }) :
    wpAny (model prog w) A (Builtin.«list.sort» ⟨[.ref a], []⟩) P E s := by
  rw [list_sort_plain]
  have ha : a < s.heap.objs.size := Heap.lt_size ho
  refine wpAny_bind (listItems_at ho rfl ?_)
  refine wpAny_bind (listUpdate_at ho rfl ?_)
  obtain ⟨e1, ho1⟩ : ∃ e1, (s.heap.update a (Obj.mapSeq fun _ => #[])).get? a = some (seqObj "list" #[] e1) := ⟨_, get?_update_seq ho (fun _ => #[])⟩
  refine wpAny_bind (seqEpoch_at ho1 rfl ?_)
  refine wpAny_bind (wpAny_newTuple ?_)
  refine wpAny_bind (wpAny_newList ?_)
  refine wpAny_holding ?_
  have k6 : ∀ b o, (s.heap.update a (Obj.mapSeq fun _ => #[])).get? b = some o → (((s.heap.update a (Obj.mapSeq fun _ => #[])).push (seqObj "tuple" #[x] 0)).push (seqObj "list" #[] 0)).get? b = some o := fun b o e =>
    Heap.get?_push_of_some _ (Heap.get?_push_of_some _ e)
  have ho6 := k6 _ _ ho1
  show wpAny (model prog w) A _ P E { s with heap := ((s.heap.update a (Obj.mapSeq fun _ => #[])).push (seqObj "tuple" #[x] 0)).push (seqObj "list" #[] 0) }
  dsimp only
  have h2 : (#[x] : Array Value).size < 2 := by show 1 < 2; decide
  rw [if_pos h2, if_pos h2]
  refine wpAny_bind (wpAny_pure ?_)
  rw [StateT.run_pure]
  refine wpAny_bind (wpAny_pure ?_)
  dsimp only
  have ea : (arrOf (SortSt.mk' general' ((#[x] : Array Value).zip #[x]) #[] 7 none)).map (·.2) = #[x] := by
    show ((#[x] : Array Value).zip #[x]).map (·.2) = #[x]
    apply Array.toList_inj.mp
    simp
  rw [ea]
  refine wpAny_bind (seqEpoch_at ho6 rfl ?_)
  refine wpAny_bind (listUpdate_at ho6 rfl ?_ (hsz2 := by show 1 ≤ _; rw [sizeLine_eq]; omega))
  simp only [bne_self_eq_false, Bool.false_eq_true, if_false]
  refine wpAny_pure (h _ _ (get?_update_seq ho6 _) fun b o hb e => ?_)
  exact (Heap.get?_update_other _ _ (Ne.symm hb)).trans (k6 _ _ ((Heap.get?_update_other _ _ (Ne.symm hb)).trans e))

theorem sorted_one {a : Addr} {x : Value} {ep : Nat} {t : SetTable} {Q : Value → Shared → Prop} (hh : A.handled = none) (hO : OneSet w s.heap a x ep t)
    (hQ : ∀ h' tk D c, Ext s.heap h' → s.heap.get? D = none → h'.get? D = some (seqObj "list" #[x] c) → Q (.ref D) { s with heap := h', toks := tk }) :
    wpAny (model prog w) A (call (.builtin "sorted") [.ref a]) Q E s := by
  refine Calls.call_function_entry kind_sorted plain_sorted entry_sorted (args_sorted1 _) ?_
  unfold Builtin.«sorted»
  refine wpAny_bind (m := checkCount "sorted" 1 1 _) (wpAny_pure ?_)
  refine wpAny_bind (collect_one hh hO fun h₁ tk₁ e₁ => ?_)
  refine wpAny_bind (wpAny_newList ?_ (by show 1 ≤ _; rw [sizeLine_eq]; omega))
  have hoL : (h₁.push (seqObj "list" #[x] 0)).get? h₁.objs.size = some (seqObj "list" #[x] 0) := Heap.get?_push_size _ rfl
  have hfresh : s.heap.get? h₁.objs.size = none := by
    cases q : s.heap.get? h₁.objs.size with
    | none => rfl
    | some o => exact absurd (Heap.lt_size (e₁ _ _ q)) (Nat.lt_irrefl _)
  refine wpAny_bind (wpAny_holding (wpAny_call_entry slot_list_sort ⟨_, hoL, rfl⟩ entry_list_sort ?body (args_list_sort _)))
  case body =>
    refine sort_one (s := { s with heap := h₁.push (seqObj "list" #[x] 0), toks := tk₁ }) hoL fun h' c' hD hk => ?_
    refine ⟨_, rfl, wpAny_pure ⟨_, rfl, hQ h' _ _ c' (fun b o e => ?_) hfresh hD⟩⟩
    exact hk b o (fun q => by rw [q, hfresh] at e; cases e) (Heap.get?_push_of_some _ (e₁ _ _ e))
end
end
-- part NP
theorem start_NP : True := by
  w_top off
  trivial
section
theorem cntR_one : ∀ {l : List (Array UInt8)}, cntR l = 1 → ∃ k, k ∈ l ∧ ∀ x ∈ l, x = k
  | [], h => by simp [cntR] at h
  | k :: l, h => by
    unfold cntR at h
    split at h
    · rename_i hm
      obtain ⟨j, h1, h2⟩ := cntR_one h
      refine ⟨j, .tail _ h1, fun x hx => ?_⟩
      rcases List.mem_cons.mp hx with rfl | hx
      · exact h2 _ hm
      · exact h2 _ hx
    · have h0 : cntR l = 0 := by omega
      have : l = [] := by
        cases l with
        | nil => rfl
        | cons y m =>
          exfalso
          unfold cntR at h0
          split at h0
          · rename_i hy
            have : ∀ m : List (Array UInt8), cntR m = 0 → m = [] := fun m => by
              induction m with
              | nil => intro _; rfl
              | cons a b ih =>
                intro q
                unfold cntR at q
                split at q
                · rename_i hq; rw [ih q] at hq; cases hq
                · omega
            rw [this m h0] at hy; cases hy
          · omega
      subst this
      exact ⟨k, .head _, fun x hx => by simpa using hx⟩
theorem cntR_same {k : Array UInt8} : ∀ {l : List (Array UInt8)}, l ≠ [] → (∀ x ∈ l, x = k) → cntR l = 1
  | [], h, _ => absurd rfl h
  | y :: l, _, h => by
    have hy := h y (.head _)
    cases l with
    | nil => simp [cntR]
    | cons z m =>
      have ih := cntR_same (l := z :: m) (by simp) fun x hx => h x (.tail _ hx)
      unfold cntR
      rw [if_pos (by rw [hy, h z (.tail _ (.head _))]; exact .head _)]
      exact ih
section
variable {prog : Program} {w : World} {A : Around} {E : Value → Shared → Prop} {s : Shared}
theorem SetOct.one {h : Heap} {D : Addr} {l : List (Array UInt8)} {k : Array UInt8} (x : SetOct prog w h D l) (hne : l ≠ []) (hk : ∀ y ∈ l, y = k) : ∃ tk ep t, OneSet w h D (.bytes k tk) ep t := by
  obtain ⟨o, es, ep, t, h1, h2, h3, h4, h5, h6, h7, h8, h9⟩ := x
  have hc : cntR l.reverse = 1 := cntR_same (by simpa using hne) fun y hy => hk y (by simpa using hy)
  rw [hc] at h8
  have : ∃ e, es = #[e] := Array.size_eq_one_iff.mp h8
  obtain ⟨⟨hs, v⟩, rfl⟩ := this
  obtain ⟨⟨kk, q1, q2⟩, _⟩ := h4 (hs, v) (by simp)
  have q3 := (h5 kk).mpr ⟨(hs, v), by simp, q1⟩
  obtain ⟨tk, e⟩ := isBytes_shape (k := kk) (v := v) q1
  have e : v = .bytes kk.toArray tk := e
  simp only [decide_eq_true_eq] at q3
  obtain ⟨y, hy, ey⟩ := q3
  have := hk y hy
  subst this
  subst ey
  subst e
  exact ⟨tk, ep, t, o, hs, h1, h2, h3, h7, h9⟩
theorem len_set {D : Addr} {l : List (Array UInt8)} {Q : Value → Shared → Prop} (x : SetOct prog w s.heap D l) (h : ∀ t tk, Q (.int (cntR l.reverse : Nat) t) { s with toks := tk }) :
    wpAny (model prog w) A (call (.builtin "len") [.ref D]) Q E s := by
  obtain ⟨o, es, ep, t, h1, h2, h3, h4, h5, h6, h7, h8, h9⟩ := x
  refine call_len_set h1 h2 h3 h7 ?_ ?_
  · have : scanBound = 4096 := rfl
    omega
  · rw [h8]; exact h _ _
end
end
-- part MF
theorem start_MF : True := by
  w_top off
  trivial
section
section
variable {prog : Program} {w : World} {M : Model} {A A₀ : Around} {E : Value → Shared → Prop} {s : Shared} {env : Env} {zs : List Heap} {L : Addr} {m : Str → Option Value} {own : List (Addr × Obj)} {h₀ : Heap} {d u : Nat} {fr : List Env}

noncomputable def nk (env : Env) (x : Str) (k : NameKind) : Bool := env.scope.kind == .function && env.kindOf x == some k && !(x == ("__debug__" : Str))
theorem nk_1 {x : Str} {k : NameKind} (h : nk env x k = true) : env.scope.kind = .function ∧ env.kindOf x = some k ∧ (x == ("__debug__" : Str)) = false := by
  simp only [nk, Bool.and_eq_true, beq_iff_eq, Bool.not_eq_true'] at h
  exact ⟨h.1.1, h.1.2, h.2⟩
theorem nk_of {x : Str} {k : NameKind} (h1 : env.scope.kind = .function) (h2 : env.kindOf x = some k) (h3 : (x == ("__debug__" : Str)) = false) : nk env x k = true := by simp [nk, h1, h2, h3]
theorem nmL {x : Str} {pos : Pos} {v : Value} {Q : Value → Shared → Prop} (S : St zs L m own s.heap) (he : env.locals = L) (hk : nk env x .local = true) (hv : m x = some v) (h : Q v s) : wpAny M A (eval (.Name x pos) env) Q E s := by
  subst he
  exact wpAny_Name (wpAny_loadName_local (nk_1 hk).1 (nk_1 hk).2.1 S.ns hv h) (nk_1 hk).2.2
theorem nmG {x : Str} {pos : Pos} {v : Value} {Q : Value → Shared → Prop} (am : Amb w A₀ d u fr h₀) (S : St zs L m own s.heap) (hz : h₀ ∈ zs) (hg : (env.globals == mainGlobals && nk env x .globalImplicit) = true) (e : nsIn (Mine.hd.heap_1 w.params) mainGlobals x = some (some v)) (h : Q v s) :
    wpAny M A (eval (.Name x pos) env) Q E s := by
  obtain ⟨_, _, _, _, _, T⟩ := am.t
  rw [Bool.and_eq_true, beq_iff_eq] at hg
  exact Name_function_global (nk_1 hg.2).1 (nk_1 hg.2).2.1 (loadGlobal_global (hg.1 ▸ T.g.keeps (S.froz hz)) (mg_of am.k T.g e) h) (nk_1 hg.2).2.2
theorem nmB {x : Str} {pos : Pos} {v : Value} {Q : Value → Shared → Prop} (am : Amb w A₀ d u fr h₀) (S : St zs L m own s.heap) (hz : h₀ ∈ zs) (hg : (env.globals == mainGlobals && env.builtins == builtinsNs && nk env x .globalImplicit) = true) (e : nsIn (Mine.hd.heap_1 w.params) mainGlobals x = some none) (hv : bootBuiltins x = some v) (hn : x ≠ "__name__") (h : Q v s) :
    wpAny M A (eval (.Name x pos) env) Q E s := by
  obtain ⟨_, _, _, _, _, T⟩ := am.t
  rw [Bool.and_eq_true, Bool.and_eq_true, beq_iff_eq, beq_iff_eq] at hg
  exact Name_function_global (nk_1 hg.2).1 (nk_1 hg.2).2.1 (loadGlobal_builtin (hg.1.1 ▸ T.g.keeps (S.froz hz)) (mg_none_of am.k T.g e) (hg.1.2 ▸ T.b.keeps (S.froz hz)) ((T.builtins x hn).trans hv) h) (nk_1 hg.2).2.2

/-- a cell's value, of a block's own objects or of a frozen heap -/
theorem nmC {x : Str} {pos : Pos} {v : Value} {c : Addr} {o : Obj} {Q : Value → Shared → Prop} (hc : env.cells.lookup x = some c) (hk : nk env x .cell = true) (ho : s.heap.get? c = some o) (hd' : o.data = .cell (some v)) (h : Q v s) : wpAny M A (eval (.Name x pos) env) Q E s :=
  wpAny_Name (wpAny_loadName_cell (nk_1 hk).1 (nk_1 hk).2.1 hc ⟨o, ho, hd'⟩ h) (nk_1 hk).2.2

theorem stStore {x : Str} {v : Value} {Q : Unit → Shared → Prop} (S : St zs L m own s.heap) (he : env.locals = L) (hx : (env.kindOf x == some .local && !(env.scope.kind == .class || (env.scope.kind == .module && env.locals != env.globals))) = true) (h : ∀ h', St zs L (fun y => if y = x then some v else m y) own h' → Q () { s with heap := h', toks := s.toks + 1 }) :
    wpAny M A (storeName env x v) Q E s := by
  subst he
  rw [Bool.and_eq_true, beq_iff_eq, Bool.not_eq_true'] at hx
  exact wpAny_storeName_local hx.1 S.ns (fun h' hn hs => h h' (S.set hn hs)) hx.2
abbrev tupOf (its : Array Value) : Obj := { cls := .type "tuple", data := .seq its }
theorem stList {vs : List Value} {Q : Value → Shared → Prop} (S : St zs L m own s.heap) (h : ∀ a h', s.heap.get? a = none → Ext s.heap h' → St zs L m ((a, listOf vs.toArray 0) :: own) h' → Q (.ref a) { s with heap := h' }) (hsz : vs.length ≤ sizeLine := by size_fits) :
    wpAny M A (newList vs) Q E s := wpAny_newObj_type (h _ _ (fresh_none (Nat.le_refl _)) (Ext.push _) (S.push _)) (by show vs.toArray.size ≤ sizeLine; rw [List.size_toArray]; exact hsz)
theorem stTuple {vs : List Value} {Q : Value → Shared → Prop} (S : St zs L m own s.heap) (h : ∀ a h', s.heap.get? a = none → Ext s.heap h' → St zs L m ((a, tupOf vs.toArray) :: own) h' → Q (.ref a) { s with heap := h' }) (hsz : vs.length ≤ sizeLine := by size_fits) :
    wpAny M A (newTuple vs) Q E s := wpAny_newObj_type (h _ _ (fresh_none (Nat.le_refl _)) (Ext.push _) (S.push _)) (by show vs.toArray.size ≤ sizeLine; rw [List.size_toArray]; exact hsz)
theorem stDict {pos : Pos} {Q : Value → Shared → Prop} (S : St zs L m own s.heap) (h : ∀ a h', s.heap.get? a = none → Ext s.heap h' → St zs L m ((a, dictOf [] 0) :: own) h' → Q (.ref a) { s with heap := h' }) :
    wpAny M A (eval (.Dict [] [] pos) env) Q E s := by
  show wpAny M A (do standAt pos; dictDisplay []) Q E s
  refine wpAny_bind (wpAny_standAt ?_)
  show wpAny M A newDict Q E s
  exact wpAny_newObj_type (h _ _ (fresh_none (Nat.le_refl _)) (Ext.push _) (S.push _))

/-- an own object turned, at any place -/
theorem St.updAt {pre post : List (Addr × Obj)} {a : Addr} {o o' : Obj} {h h' : Heap} (S : St zs L m (pre ++ (a, o) :: post) h) (hs : Heap.SameBut a h h') (e : h'.get? a = some o') : St zs L m (pre ++ (a, o') :: post) h' := by
  have nd := S.nd
  rw [List.map_append, List.map_cons, List.nodup_cons] at nd
  have nd2 := nd.2
  rw [List.nodup_append] at nd2
  obtain ⟨_, n2, n3⟩ := nd2
  rw [List.nodup_cons] at n2
  have aL : L ≠ a := fun q => nd.1 (by rw [q]; exact List.mem_append_right _ (.head _))
  have hm : ∀ b, b ∈ L :: (pre ++ (a, o') :: post).map (·.1) → b ∈ L :: (pre ++ (a, o) :: post).map (·.1) := fun b hb => by simpa using hb
  refine ⟨S.ns.sameBut hs aL, fun p hp => ?_, ?_, fun z hz => ⟨fun b ob q => (hs.2 b fun y => ?_).trans ((S.fz z hz).1 b ob q), fun b hb => (S.fz z hz).2 b (hm b hb)⟩⟩
  · rcases List.mem_append.mp hp with q | q
    · refine (hs.2 _ fun y => ?_).trans (S.mine p (List.mem_append_left _ q))
      exact n3 p.1 (List.mem_map_of_mem q) a (.head _) y
    · rcases List.mem_cons.mp q with rfl | q
      · exact e
      · refine (hs.2 _ fun y => n2.1 ?_).trans (S.mine p (List.mem_append_right _ (.tail _ q)))
        have := List.mem_map_of_mem (f := (·.1)) q
        rw [y] at this; exact this
  · have := S.nd
    simpa using this
  · have := (S.fz z hz).2 a (by simp)
    rw [← y, q] at this; cases this
theorem stAppend {pre post : List (Addr × Obj)} {D : Addr} {its : Array Value} {n : Nat} {x : Value} {Q : Value → Shared → Prop} (S : St zs L m (pre ++ (D, listOf its n) :: post) s.heap)
    (h : ∀ h', St zs L m (pre ++ (D, listOf (its.push x) (n + 1)) :: post) h' → Q .none { s with heap := h' }) (hsz : its.size ≤ sizeLine := by size_fits) :
    wpAny (model prog w) A (call (.builtin "list.append") [.ref D, x]) Q E s :=
  append_at (hsz := hsz) (S.mine (D, listOf its n) (List.mem_append_right _ (.head _))) fun h' hs ho' => h h' (S.updAt hs ho')
theorem stAppend0 {post : List (Addr × Obj)} {D : Addr} {its : Array Value} {n : Nat} {x : Value} {Q : Value → Shared → Prop} (S : St zs L m ((D, listOf its n) :: post) s.heap)
    (h : ∀ h', St zs L m ((D, listOf (its.push x) (n + 1)) :: post) h' → Q .none { s with heap := h' }) (hsz : its.size ≤ sizeLine := by size_fits) :
    wpAny (model prog w) A (call (.builtin "list.append") [.ref D, x]) Q E s := stAppend (pre := []) S h hsz
theorem stAppend1 {post : List (Addr × Obj)} {p : Addr × Obj} {D : Addr} {its : Array Value} {n : Nat} {x : Value} {Q : Value → Shared → Prop} (S : St zs L m (p :: (D, listOf its n) :: post) s.heap)
    (h : ∀ h', St zs L m (p :: (D, listOf (its.push x) (n + 1)) :: post) h' → Q .none { s with heap := h' }) (hsz : its.size ≤ sizeLine := by size_fits) :
    wpAny (model prog w) A (call (.builtin "list.append") [.ref D, x]) Q E s := stAppend (pre := [p]) S h hsz
theorem stAppend2 {post : List (Addr × Obj)} {p q : Addr × Obj} {D : Addr} {its : Array Value} {n : Nat} {x : Value} {Q : Value → Shared → Prop} (S : St zs L m (p :: q :: (D, listOf its n) :: post) s.heap)
    (h : ∀ h', St zs L m (p :: q :: (D, listOf (its.push x) (n + 1)) :: post) h' → Q .none { s with heap := h' }) (hsz : its.size ≤ sizeLine := by size_fits) :
    wpAny (model prog w) A (call (.builtin "list.append") [.ref D, x]) Q E s := stAppend (pre := [p, q]) S h hsz

theorem cwRef {f : Addr} {e : Expr} {rest : List Expr} {pos : Pos} {Q : Value → Shared → Prop} (he : starEach (e :: rest) env = (false, eval e env) :: starEach rest env) (hplain : (backTo pos (starEach rest env)).any (·.1) = false) (K : (Mine.hd.heap_1 w.params).In s.heap) (hk : keepIn (Mine.hd.heap_1 w.params) (.ref f) = true)
    (h : wpAny M A (spliced (backTo pos (starEach (e :: rest) env))) (fun vs s₁ => (Mine.hd.heap_1 w.params).In s₁.heap ∧ wpAny M A (call (.ref f) vs) Q E s₁) E s) :
    wpAny M A (callWith pos (.ref f) [] (backTo pos (starEach (e :: rest) env)) []) Q E s := callWith_K (first := []) K hk h he hplain
theorem cwRef0 {f : Addr} {pos : Pos} {Q : Value → Shared → Prop} (K : (Mine.hd.heap_1 w.params).In s.heap) (hk : keepIn (Mine.hd.heap_1 w.params) (.ref f) = true)
    (h : wpAny M A (call (.ref f) []) Q E s) : wpAny M A (callWith pos (.ref f) [] (backTo pos (starEach [] env)) []) Q E s := callWith_K0 (first := []) K hk h
theorem kAt {h : Heap} (am : Amb w A₀ d u fr h₀) (S : St zs L m own h) (hz : h₀ ∈ zs) : (Mine.hd.heap_1 w.params).In h := am.k.keeps (S.froz hz)
end
theorem and_K {P : Prop} {X : Prop} (x : X) (p : P) : X ∧ P := ⟨x, p⟩

end
local macro_rules | `(tactic| walk_at "m_me") => `(tactic| first | exact List.Mem.head _ | (refine List.Mem.tail _ ?_; walk_at "m_me"))
local macro_rules | `(tactic| walk_at "m_mem") => `(tactic| first | walk_at "m_me" | simp)
local macro_rules | `(tactic| walk_at "m_cell") => `(tactic| first
  | exact St.mine (by with_reducible assumption) (_, _) (by walk_at "m_me")
  | with_reducible exact St.froz ‹_› (List.Mem.head _) _ _ ‹_›)
local macro_rules | `(tactic| walk_at "m_k") => `(tactic| exact kAt ‹_› ‹_› (by walk_at "m_mem"))
local macro_rules | `(tactic| walk_at "m_v") => `(tactic| first | exact rfl | ((conv => lhs; whnf); with_reducible assumption))
local macro_rules | `(tactic| walk_at "m_o") => `(tactic| (k_whole; (with_reducible rename St _ _ _ _ _ => S9); intros; clear S9; (try dsimp only)))
local macro_rules | `(tactic| walk_at "eval Name") => `(tactic| k_dflt (first
  | (refine nmL ‹_› (by rfl) rfl (by walk_at "m_v") ?_; k_whole)
  | (refine nmG ‹_› ‹_› (by walk_at "m_mem") rfl (by k_is) ?_; k_whole)
  | (refine nmB ‹_› ‹_› (by walk_at "m_mem") rfl (by k_is) (by boot_by_name) (by decide) ?_; k_whole)))
local macro_rules | `(tactic| walk_at "storeName") => `(tactic| k_dflt (refine stStore ‹_› (by rfl) rfl ?_; walk_at "m_o"))
local macro_rules | `(tactic| walk_at "newList") => `(tactic| k_dflt (refine stList ‹_› ?_; walk_at "m_o"))
local macro_rules | `(tactic| walk_at "newTuple") => `(tactic| k_dflt (refine stTuple ‹_› ?_; walk_at "m_o"))
local macro_rules | `(tactic| walk_at "eval Dict nil nil") => `(tactic| k_dflt (refine stDict ‹_› ?_; walk_at "m_o"))
local macro_rules | `(tactic| walk_at "call builtin:list.append") => `(tactic| k_dflt (first
  | (refine stAppend0 ‹_› ?_; walk_at "m_o")
  | (refine stAppend1 ‹_› ?_; walk_at "m_o")
  | (refine stAppend2 ‹_› ?_; walk_at "m_o")))
local macro_rules | `(tactic| walk_at "callWith ref") => `(tactic| k_dflt (first
  | (refine cwRef rfl rfl (by walk_at "m_k") (by first | k_is | assumption) ?_; k_whole)
  | (refine cwRef0 (by walk_at "m_k") (by k_is) ?_; k_whole)))
local macro_rules | `(tactic| walk_at "And") => `(tactic| k_dflt ((show Frag.In _ _ ∧ _); refine and_K (by walk_at "m_k") ?_; try dsimp only [List.nil_append, List.cons_append]))
-- part MG
theorem start_MG : True := by
  w_top off
  trivial
section
open Builtin

theorem slot_bytes_lower : Slot "bytes" "lower" "bytes.lower" :=
  .of (owner := "bytes") (n := "lower") (by rw [typeLookup_type, builtinLookup_eq_fast]; kernel_rfl) (by decide +kernel) (by decide +kernel) (by decide +kernel)
    (by first | exact .inl (by decide +kernel) | exact .inr (by decide +kernel)) (by rw [isSubtype_type]; kernel_rfl)
theorem type_bytes_lower : typeOf (.builtin "bytes.lower") = pure (.type "method_descriptor") := by show builtinType _ = _; rw [builtinType_eq_fast]; kernel_rfl
theorem entry_bytes_lower : entryFor table "bytes.lower" = some Builtin.«bytes.lower» := entryFor_of_tree (by kernel_rfl)
theorem args_bytes_lower (a : Value) : argsOk "bytes.lower" ⟨[a], []⟩ := by
  unfold argsOk; rw [signature?_of (id := "bytes.lower") (n := ['r', 'e', 'w', 'o', 'l']) (o := ['s', 'e', 't', 'y', 'b']) (by kernel_rfl) FB.owner_bytes]; kernel_rfl
theorem slot_bytes_strip : Slot "bytes" "strip" "bytes.strip" :=
  .of (owner := "bytes") (n := "strip") (by rw [typeLookup_type, builtinLookup_eq_fast]; kernel_rfl) (by decide +kernel) (by decide +kernel) (by decide +kernel)
    (by first | exact .inl (by decide +kernel) | exact .inr (by decide +kernel)) (by rw [isSubtype_type]; kernel_rfl)
theorem type_bytes_strip : typeOf (.builtin "bytes.strip") = pure (.type "method_descriptor") := by show builtinType _ = _; rw [builtinType_eq_fast]; kernel_rfl
theorem entry_bytes_strip : entryFor table "bytes.strip" = some Builtin.«bytes.strip» := entryFor_of_tree (by kernel_rfl)
theorem args_bytes_strip (a : Value) : argsOk "bytes.strip" ⟨[a], []⟩ := by
  unfold argsOk; rw [signature?_of (id := "bytes.strip") (n := ['p', 'i', 'r', 't', 's']) (o := ['s', 'e', 't', 'y', 'b']) (by kernel_rfl) FB.owner_bytes]; kernel_rfl
theorem slot_bytes_split : Slot "bytes" "split" "bytes.split" :=
  .of (owner := "bytes") (n := "split") (by rw [typeLookup_type, builtinLookup_eq_fast]; kernel_rfl) (by decide +kernel) (by decide +kernel) (by decide +kernel)
    (by first | exact .inl (by decide +kernel) | exact .inr (by decide +kernel)) (by rw [isSubtype_type]; kernel_rfl)
theorem type_bytes_split : typeOf (.builtin "bytes.split") = pure (.type "method_descriptor") := by show builtinType _ = _; rw [builtinType_eq_fast]; kernel_rfl
theorem entry_bytes_split : entryFor table "bytes.split" = some Builtin.«bytes.split» := entryFor_of_tree (by kernel_rfl)
theorem args_bytes_split (a b : Value) : argsOk "bytes.split" ⟨[a, b], []⟩ := by
  unfold argsOk; rw [signature?_of (id := "bytes.split") (n := ['t', 'i', 'l', 'p', 's']) (o := ['s', 'e', 't', 'y', 'b']) (by kernel_rfl) FB.owner_bytes]; kernel_rfl


/-- octets made small -/
noncomputable def lowB (b : Array UInt8) : Array UInt8 := (b.toList.map Bytes.toLower).toArray

/-- octets without blanks at the ends -/
noncomputable def stripB (b : Array UInt8) : Array UInt8 := ((b.toList.dropWhile Bytes.isSpace).reverse.dropWhile Bytes.isSpace).reverse.toArray

/-- the parts between the commas, as the model makes them -/
noncomputable def splitB (b : Array UInt8) : List (Array UInt8) :=
  let places := (Bytes.occurrences b #[44] 0 b.size).take (b.size + 1)
  if places.isEmpty then [b] else Bytes.between b 1 places

section
variable {b c : Array UInt8} {t u : Tok}
theorem gives_contains {k : Int} (h0 : 0 ≤ k) (h1 : k < 256) : Gives («bytes.__contains__» ⟨[.bytes b t, .int k u], []⟩) (.val (.bool (b.contains k.toNat.toUInt8))) := by
  refine .of_wp fun M A E s Q hq => ?_
  show wpAny M A (Bytes.containsIn "bytes.__contains__" (.bytes b t) (.int k u) >>= fun r => ret (.bool r)) _ E s
  refine wpAny_bind ?_
  unfold Bytes.containsIn
  refine wpAny_bind (wpAny_of_eq (a := .ok k) rfl ?_)
  refine wpAny_bind (wpAny_of_eq KBy.buffer_eq ?_)
  show wpAny M A (if (decide (k < 0) || decide (k ≥ 256)) = true then _ else _) _ E s
  rw [if_neg (by simp only [Bool.or_eq_true, decide_eq_true_eq]; omega)]
  exact wpAny_pure (wpAny_pure ⟨_, rfl, hq⟩)
theorem gives_lower : Gives («bytes.lower» ⟨[.bytes b t], []⟩) (.bytes (lowB b)) := .of_eq rfl
theorem dropWhile_rev_len {p : UInt8 → Bool} (l : List UInt8) (h : ((l.dropWhile p).reverse.dropWhile p).reverse.length = l.length) : ((l.dropWhile p).reverse.dropWhile p).reverse = l := by
  have h1 : (l.dropWhile p).length ≤ l.length := (List.dropWhile_suffix p).length_le
  have h2 : ((l.dropWhile p).reverse.dropWhile p).length ≤ (l.dropWhile p).reverse.length := (List.dropWhile_suffix p).length_le
  rw [List.length_reverse] at h h2
  have e1 : l.dropWhile p = l := (List.dropWhile_suffix p).eq_of_length (by omega)
  have e2 : (l.dropWhile p).reverse.dropWhile p = (l.dropWhile p).reverse := (List.dropWhile_suffix p).eq_of_length (by rw [List.length_reverse]; omega)
  rw [e2, List.reverse_reverse, e1]
theorem gives_strip (hb : b.size ≤ sizeLine) : Gives («bytes.strip» ⟨[.bytes b t], []⟩) (.either (.val (.bytes (stripB b) t)) (.bytes (stripB b))) := by
  refine .of_wp fun M A E s Q hq => ?_
  show wpAny M A (if ((((b.toList.dropWhile Bytes.isSpace).reverse.dropWhile Bytes.isSpace).reverse.length == b.size) = true) then (do rule _; ret (← Bytes.Kind.same .bytes (.bytes b t))) else (do ret (← mkBytes (stripB b)))) _ E s
  split
  · rename_i h
    have h' := dropWhile_rev_len b.toList (by rw [beq_iff_eq] at h; rw [h]; simp)
    have e : stripB b = b := by unfold stripB; rw [h']
    refine wpAny_bind (wpAny_rule (wpAny_bind ?_))
    show wpAny M A (typeOf (.bytes b t) >>= _) _ E s
    refine wpAny_bind (wpAny_of_eq (a := .type "bytes") rfl ?_)
    refine wpAny_pure (wpAny_pure ⟨_, rfl, ?_⟩)
    have := hq.1
    rw [e] at this; exact this
  · exact wpAny_bind (wpAny_mkBytes (wpAny_pure ⟨_, rfl, hq.2.2⟩) hq.2.1)

section
variable {prog : Program} {w : World} {M : Model} {A : Around} {E : Value → Shared → Prop} {s : Shared}
theorem in_bytes {k : Int} {Q : Value → Shared → Prop} (h0 : 0 ≤ k) (h1 : k < 256) (h : Q (.bool (b.contains k.toNat.toUInt8)) s) : wpAny (model prog w) A (compareOp .In (.int k u) (.bytes b t)) Q E s :=
  in_gives (typeIs_bytes s b t) FB.slot_bytes_contains FB.entry_bytes_contains (FB.args_bytes_contains_2 _ _) (gives_contains h0 h1) h
theorem notin_bytes {k : Int} {Q : Value → Shared → Prop} (h0 : 0 ≤ k) (h1 : k < 256) (h : Q (.bool (!(b.contains k.toNat.toUInt8))) s) : wpAny (model prog w) A (compareOp .NotIn (.int k u) (.bytes b t)) Q E s :=
  notIn_gives (typeIs_bytes s b t) FB.slot_bytes_contains FB.entry_bytes_contains (FB.args_bytes_contains_2 _ _) (gives_contains h0 h1) h
theorem gm_lower {pl : Sem Bool} {Q : Value × List Value → Shared → Prop} (h : Q (.builtin "bytes.lower", [.bytes b t]) s) : wpAny M A (getMethod (.bytes b t) "lower" pl) Q E s := by
  with_reducible exact KBd.method_of (.bytes b t) (typeIs_bytes _ _ _) slot_bytes_lower type_bytes_lower KBd.noRef h
theorem gm_strip {pl : Sem Bool} {Q : Value × List Value → Shared → Prop} (h : Q (.builtin "bytes.strip", [.bytes b t]) s) : wpAny M A (getMethod (.bytes b t) "strip" pl) Q E s := by
  with_reducible exact KBd.method_of (.bytes b t) (typeIs_bytes _ _ _) slot_bytes_strip type_bytes_strip KBd.noRef h
theorem gm_split {pl : Sem Bool} {Q : Value × List Value → Shared → Prop} (h : Q (.builtin "bytes.split", [.bytes b t]) s) : wpAny M A (getMethod (.bytes b t) "split" pl) Q E s := by
  with_reducible exact KBd.method_of (.bytes b t) (typeIs_bytes _ _ _) slot_bytes_split type_bytes_split KBd.noRef h
theorem call_lower {Q : Value → Shared → Prop} (hz : b.size ≤ 1000) (h : Q (.bytes (lowB b) s.toks) { s with toks := s.toks + 1 }) : wpAny (model prog w) A (call (.builtin "bytes.lower") [.bytes b t]) Q E s :=
  call_gives slot_bytes_lower (typeIs_bytes s b t) entry_bytes_lower (args_bytes_lower _) gives_lower ⟨by rw [sizeLine_eq]; simp [lowB]; omega, h⟩
theorem stripB_size : (stripB b).size ≤ b.size := by
  have h1 : (b.toList.dropWhile Bytes.isSpace).length ≤ b.toList.length := (List.dropWhile_suffix _).length_le
  have h2 : ((b.toList.dropWhile Bytes.isSpace).reverse.dropWhile Bytes.isSpace).length ≤ (b.toList.dropWhile Bytes.isSpace).reverse.length := (List.dropWhile_suffix _).length_le
  simp only [stripB, List.size_toArray, List.length_reverse, Array.length_toList] at *
  omega
theorem call_strip {Q : Value → Shared → Prop} (hz : b.size ≤ 1000) (h : ∀ t' k, Q (.bytes (stripB b) t') { s with toks := k }) : wpAny (model prog w) A (call (.builtin "bytes.strip") [.bytes b t]) Q E s :=
  call_gives slot_bytes_strip (typeIs_bytes s b t) entry_bytes_strip (args_bytes_strip _) (gives_strip (by rw [sizeLine_eq]; omega)) ⟨h _ _, by have := stripB_size (b := b); rw [sizeLine_eq]; omega, h _ _⟩

theorem mapM_bytes : ∀ {l : List (Array UInt8)} {Q : List Value → Shared → Prop} {s : Shared}, (∀ x ∈ l, x.size ≤ 1000) →
    (∀ (vs : List Value) (k : Nat), Paired (fun x v => ∃ t, v = Value.bytes x t) l vs → Q vs { s with toks := k }) → wpAny M A (l.mapM fun x => Bytes.Kind.new .bytes x) Q E s
  | [], Q, s, _, h => by rw [List.mapM_nil]; exact wpAny_pure (h [] s.toks .nil)
  | x :: l, Q, s, hz, h => by
    rw [List.mapM_cons]
    refine wpAny_bind ?_
    show wpAny M A (mkBytes x) _ E s
    refine wpAny_mkBytes (wpAny_bind (mapM_bytes (fun y hy => hz y (.tail _ hy)) fun vs k hp => ?_)) (by have := hz x (.head _); rw [sizeLine_eq]; omega)
    exact wpAny_pure (h _ k (.cons ⟨_, rfl⟩ hp))
end
end
end
-- part MH
theorem start_MH : True := by
  w_top off
  trivial
section
open Builtin

noncomputable def btw (b : Array UInt8) (w : Nat) : Nat → List Nat → List (Array UInt8)
  | last, [] => [b.extract last b.size]
  | last, p :: ps => b.extract last p :: btw b w (p + w) ps
theorem btw_fold (b : Array UInt8) (w : Nat) : ∀ (ps : List Nat) (acc : Array (Array UInt8)) (last : Nat),
    ((ps.foldl (fun (x : Array (Array UInt8) × Nat) p => (x.1.push (b.extract x.2 p), p + w)) (acc, last)).1.push (b.extract (ps.foldl (fun (x : Array (Array UInt8) × Nat) p => (x.1.push (b.extract x.2 p), p + w)) (acc, last)).2 b.size)).toList = acc.toList ++ btw b w last ps
  | [], acc, last => by simp [btw]
  | p :: ps, acc, last => by
    rw [List.foldl_cons, btw_fold b w ps]
    simp [btw]
theorem between_btw (b : Array UInt8) (w : Nat) (ps : List Nat) : Bytes.between b w ps = btw b w 0 ps := by
  have := btw_fold b w ps #[] 0
  rw [show (#[] : Array (Array UInt8)).toList = [] from rfl, List.nil_append] at this
  exact this
theorem btw_length (b : Array UInt8) (w : Nat) : ∀ (last : Nat) (ps : List Nat), (btw b w last ps).length = ps.length + 1
  | _, [] => rfl
  | last, p :: ps => by rw [btw, List.length_cons, btw_length b w _ ps]; rfl
theorem btw_ext (b : Array UInt8) (w : Nat) : ∀ (last : Nat) (ps : List Nat) (x : Array UInt8), x ∈ btw b w last ps → ∃ i j, x = b.extract i j
  | last, [], x, h => ⟨_, _, List.mem_singleton.mp h⟩
  | last, p :: ps, x, h => by
    rcases List.mem_cons.mp h with h | h
    · exact ⟨_, _, h⟩
    · exact btw_ext b w _ ps x h
theorem btw_map (b : Array UInt8) (w : Nat) (f : UInt8 → UInt8) : ∀ (last : Nat) (ps : List Nat), btw (b.map f) w last ps = (btw b w last ps).map fun x => x.map f
  | last, [] => by simp [btw, Array.map_extract]
  | last, p :: ps => by simp [btw, Array.map_extract, btw_map b w f _ ps]

theorem splitB_eq (b : Array UInt8) : splitB b = btw b 1 0 ((Bytes.occurrences b #[44] 0 b.size).take (b.size + 1)) := by
  unfold splitB
  dsimp only
  split
  · rename_i h
    rw [List.isEmpty_iff.mp h, btw]
    simp
  · rw [between_btw]
theorem splitB_ne (b : Array UInt8) : splitB b ≠ [] := fun h => by
  have := btw_length b 1 0 ((Bytes.occurrences b #[44] 0 b.size).take (b.size + 1))
  rw [← splitB_eq, h] at this; cases this
theorem splitB_length (b : Array UInt8) : (splitB b).length ≤ b.size + 2 := by
  rw [splitB_eq, btw_length]
  have := List.length_take_le (b.size + 1) (Bytes.occurrences b #[44] 0 b.size)
  omega
theorem splitB_part {b x : Array UInt8} (h : x ∈ splitB b) : ∃ i j, x = b.extract i j := by rw [splitB_eq] at h; exact btw_ext _ _ _ _ _ h
theorem splitB_size {b x : Array UInt8} (h : x ∈ splitB b) : x.size ≤ b.size := by
  obtain ⟨i, j, rfl⟩ := splitB_part h
  simp; omega
theorem splitB_mem {b x : Array UInt8} (h : x ∈ splitB b) {c : UInt8} (hc : c ∈ x.toList) : c ∈ b.toList := by
  obtain ⟨i, j, rfl⟩ := splitB_part h
  rw [Array.toList_extract, List.extract_eq_take_drop] at hc
  exact List.mem_of_mem_drop (List.mem_of_mem_take hc)
theorem lowB_map (b : Array UInt8) : lowB b = b.map Bytes.toLower := by unfold lowB; rw [← Array.toList_map]
theorem low_comma (c : UInt8) : (Bytes.toLower c == 44) = (c == 44) := by
  rw [Bool.eq_iff_iff, beq_iff_eq, beq_iff_eq]
  unfold Bytes.toLower
  split
  · rename_i h
    simp only [Bytes.isUpper, Bool.and_eq_true, decide_eq_true_eq] at h
    have h1 := UInt8.le_iff_toNat_le.mp h.1
    have h2 := UInt8.le_iff_toNat_le.mp h.2
    constructor
    · intro e
      have := congrArg UInt8.toNat e
      rw [UInt8.toNat_add] at this
      simp at this h1 h2
      omega
    · intro e
      subst e
      exact absurd h1 (by decide)
  · rfl
theorem comma_at (b : Array UInt8) (i : Nat) : (b.extract i (i + (#[44] : Array UInt8).size) == #[44]) = (b[i]? == some 44) := by
  rw [Bool.eq_iff_iff, beq_iff_eq, beq_iff_eq]
  constructor
  · intro h
    have := congrArg (fun a : Array UInt8 => a[0]?) h
    simp [Array.getElem?_extract] at this
    obtain ⟨_, h2⟩ := this
    simpa using h2
  · intro h
    obtain ⟨hi, he⟩ := Array.getElem?_eq_some_iff.mp h
    apply Array.ext
    · simp; omega
    · intro k h1 h2
      have : k = 0 := by simp at h2; omega
      subst this
      simp [he]
theorem occ_map (b : Array UInt8) : Bytes.occurrences (b.map Bytes.toLower) #[44] 0 (b.map Bytes.toLower).size = Bytes.occurrences b #[44] 0 b.size := by
  unfold Bytes.occurrences
  dsimp only
  have : ∀ i, ((b.map Bytes.toLower).extract i (i + (#[44] : Array UInt8).size) == #[44]) = (b.extract i (i + (#[44] : Array UInt8).size) == #[44]) := fun i => by
    rw [comma_at, comma_at, Array.getElem?_map]
    cases b[i]? with
    | none => rfl
    | some c =>
      have := low_comma c
      simpa using this
  simp only [this, Array.size_map]
theorem splitB_lower (b : Array UInt8) : splitB (lowB b) = (splitB b).map lowB := by
  rw [splitB_eq, splitB_eq, lowB_map, occ_map, Array.size_map, btw_map]
  exact congrArg (fun f => List.map f _) (funext fun x => (lowB_map x).symm)

section
variable {prog : Program} {w : World} {M : Model} {A : Around} {E : Value → Shared → Prop} {s : Shared} {b : Array UInt8} {t u : Tok} {zs : List Heap} {L : Addr} {m : Str → Option Value} {own : List (Addr × Obj)}
abbrev BytesAre (l : List (Array UInt8)) (vs : List Value) : Prop := Paired (fun x v => ∃ t, v = Value.bytes x t) l vs
theorem split_bind (v : Value) : Bytes.bindOptional "bytes.split" "split" ["sep", "maxsplit"] [v] [] = pure [some v, none] := by kernel_rfl
theorem call_split {Q : Value → Shared → Prop} (hz : b.size ≤ 1000) (S : St zs L m own s.heap)
    (h : ∀ a h' tk vs, s.heap.get? a = none → Ext s.heap h' → BytesAre (splitB b) vs → St zs L m ((a, listOf vs.toArray 0) :: own) h' → Q (.ref a) { s with heap := h', toks := tk }) :
    wpAny (model prog w) A (call (.builtin "bytes.split") [.bytes b t, .bytes #[44] u]) Q E s := by
  refine wpAny_call_entry slot_bytes_split (typeIs_bytes s b t) entry_bytes_split ?_ (args_bytes_split _ _)
  show wpAny (model prog w) A.in1 (Bytes.bindOptional "bytes.split" "split" ["sep", "maxsplit"] [.bytes #[44] u] [] >>= fun l => _) _ E s
  refine wpAny_bind (wpAny_of_eq (split_bind _) ?_)
  refine wpAny_bind (wpAny_of_eq (a := (-1 : Int)) rfl ?_)
  refine wpAny_bind (wpAny_of_eq (a := b) rfl ?_)
  refine wpAny_bind (wpAny_of_eq KBd.like_eq ?_)
  show wpAny (model prog w) A.in1 (if ((Bytes.occurrences b #[44] 0 b.size).take (b.size + 1)).isEmpty = true then _ else _) _ E s
  split
  · rename_i he
    refine wpAny_bind (wpAny_rule (wpAny_bind (wpAny_bind ?_)))
    show wpAny (model prog w) A.in1 (typeOf (.bytes b t) >>= _) _ E s
    refine wpAny_bind (wpAny_of_eq (a := .type "bytes") rfl ?_)
    refine wpAny_pure ?_
    show wpAny _ _ (if (Value.type "bytes" == Value.type "bytes") = true then _ else _) _ _ _
    rw [if_pos (by rfl)]
    refine wpAny_pure (wpAny_bind ?_)
    refine stList (vs := [.bytes b t]) S (fun a h' n e S' => ?_) (by rw [sizeLine_eq]; simp)
    refine wpAny_pure ⟨_, rfl, ?_⟩
    refine h a h' s.toks _ n e ?_ S'
    have : splitB b = [b] := by unfold splitB; dsimp only; rw [if_pos he]
    rw [this]
    exact .cons ⟨_, rfl⟩ .nil
  · rename_i he
    have e : splitB b = Bytes.between b 1 ((Bytes.occurrences b #[44] 0 b.size).take (b.size + 1)) := by unfold splitB; dsimp only; rw [if_neg he]
    refine wpAny_bind (mapM_bytes (fun x hx => ?_) fun vs k hp => wpAny_bind ?_)
    · have := splitB_size (b := b) (x := x) (by rw [e]; exact hx)
      omega
    · have hl := hp.length
      refine stList S (fun a h' n e' S' => wpAny_pure ⟨_, rfl, h a h' k vs n e' ?_ S'⟩) ?_
      · rw [e]; exact hp
      · have := splitB_length b
        rw [e] at this
        have h3 : vs.length ≤ b.size + 2 := by rw [← hl]; exact this
        rw [sizeLine_eq]; omega
end
end
-- part MI
theorem start_MI : True := by
  w_top off
  trivial
section
open Builtin
theorem u8_lo (c : UInt8) : (0 : Int) ≤ (c.toNat : Int) := Int.natCast_nonneg _
theorem u8_hi (c : UInt8) : (c.toNat : Int) < 256 := by have := c.toNat_lt; omega
theorem u8_back (c : UInt8) : ((c.toNat : Int).toNat).toUInt8 = c := by rw [Int.toNat_natCast]; simp
end
local macro_rules | `(tactic| walk_at "m_lo") => `(tactic| first | assumption | exact u8_lo _ | exact u8_hi _ | decide | omega)
local macro_rules | `(tactic| walk_at "m_sz") => `(tactic| first | assumption | (simp only [sizeLine_eq] at *; omega) | omega)
local macro_rules | `(tactic| walk_at "compareOp In int bytes") => `(tactic| k_dflt (refine in_bytes (by walk_at "m_lo") (by walk_at "m_lo") ?_; (try simp only [u8_back])))
local macro_rules | `(tactic| walk_at "compareOp NotIn int bytes") => `(tactic| k_dflt (refine notin_bytes (by walk_at "m_lo") (by walk_at "m_lo") ?_; (try simp only [u8_back])))
local macro_rules | `(tactic| walk_at "getMethod bytes") => `(tactic| with_reducible first | refine gm_lower ?_ | refine gm_strip ?_ | refine gm_split ?_)
local macro_rules | `(tactic| walk_at "call builtin:bytes.lower") => `(tactic| k_dflt (refine call_lower (by walk_at "m_sz") ?_))
local macro_rules | `(tactic| walk_at "call builtin:bytes.strip") => `(tactic| k_dflt (refine call_strip (by walk_at "m_sz") ?_; intro t' k'))
local macro_rules | `(tactic| walk_at "call builtin:bytes.split") => `(tactic| k_dflt (refine call_split (by walk_at "m_sz") ‹_› ?_; (with_reducible rename St _ _ _ _ _ => S9); intro a' h' tk' vs' n' e' B' S'; clear S9; (try dsimp only)))
section
open Builtin
theorem closNone {scope : PySem.Scope} {env : Env} (h : scope.names.all (fun x => x.2 != .free) = true) : closureFor scope env = pure [] := closureFor_none fun x hx e => by
  have := List.all_eq_true.mp h x hx
  rw [e] at this; exact absurd this (by decide)
theorem lookAll {scope : PySem.Scope} (h : scope.names.all (fun y => y.2 != .local || scope.names.lookup y.1 == some .local) = true) : ∀ y ∈ scope.names, y.2 = .local → scope.names.lookup y.1 = some .local := fun y hy e => by
  have := List.all_eq_true.mp h y hy
  rw [e] at this
  simpa using this
theorem noCell {scope : PySem.Scope} (h : scope.names.all (fun y => y.2 != .cell) = true) : ∀ y ∈ scope.names, y.2 ≠ .cell := fun y hy e => by
  have := List.all_eq_true.mp h y hy
  rw [e] at this; exact absurd this (by decide)
@[reducible] noncomputable def lcOk (scope : PySem.Scope) : Bool := scope.kind == .function && scope.names.all (fun y => y.2 != .cell) && scope.names.all (fun y => y.2 != .local || scope.names.lookup y.1 == some .local)
theorem lcOk_1 {scope : PySem.Scope} (h : lcOk scope = true) : scope.kind = .function ∧ (∀ y ∈ scope.names, y.2 ≠ .cell) ∧ (∀ y ∈ scope.names, y.2 = .local → scope.names.lookup y.1 = some .local) := by
  unfold lcOk at h
  rw [Bool.and_eq_true, Bool.and_eq_true, beq_iff_eq] at h
  exact ⟨h.1.1, noCell h.1.2, lookAll h.2⟩
section
variable {prog : Program} {w : World} {A : Around} {E : Value → Shared → Prop} {s : Shared} {env : Env}
theorem lc_evalB {elt target iter : Expr} {ifs : List Expr} {scope : PySem.Scope} {cl : List (PySem.Str × Addr)} {pos : Pos} {Q : Value → Shared → Prop} (hk : lcOk scope = true)
    (hclos : closureFor scope env = pure cl)
    (h : wpAny (model prog w) A (eval iter env) (fun xv s₁ => wpAny (model prog w) A (pyIter xv) (fun it s₂ =>
      CompAsk prog w A target ifs elt scope cl env s₁ s₂ it fun D h' g' tk => Q (.ref D) { s₁ with heap := h', gens := g', toks := tk }) E s₁) E s)
    (hs : ∀ x, foldedSetIterable iter env x = pure x) :
    wpAny (model prog w) A (eval (.ListComp elt [⟨target, iter, ifs, 0⟩] scope pos) env) Q E s := lc_eval hclos (lcOk_1 hk).2.1 (lcOk_1 hk).1 (lcOk_1 hk).2.2 h hs
theorem lc_assignB {elt target iter : Expr} {ifs : List Expr} {scope : PySem.Scope} {cl : List (PySem.Str × Addr)} {pos spos : Pos} {y : PySem.Str} {py : Pos} {Q : Flow → Shared → Prop} (hk : (lcOk scope && env.kindOf y == some .local && !(env.scope.kind == .class || (env.scope.kind == .module && env.locals != env.globals))) = true)
    (hsw : swapsWith (.ListComp elt [⟨target, iter, ifs, 0⟩] scope pos) (some (.Name y py)) spos.line env = pure true)
    (hclos : closureFor scope env = pure cl)
    (h : wpAny (model prog w) A (eval iter env) (fun xv s₁ => wpAny (model prog w) A (pyIter xv) (fun it s₂ => (∃ m, s₁.heap.Ns env.locals m ∧
      CompAsk prog w A target ifs elt scope cl env s₁ s₂ it fun D h' g' tk => ∀ h'' tk', h''.Ns env.locals (fun z => if z = y then some (.ref D) else m z) → (∀ b o, b ≠ env.locals → h'.get? b = some o → h''.get? b = some o) → Q .next { s₁ with heap := h'', gens := g', toks := tk' })) E s₁) E s)
    (hs : ∀ x, foldedSetIterable iter env x = pure x) :
    wpAny (model prog w) A (exec (.Assign [.Name y py] (.ListComp elt [⟨target, iter, ifs, 0⟩] scope pos) spos) env) Q E s := by
  rw [Bool.and_eq_true, Bool.and_eq_true, beq_iff_eq, Bool.not_eq_true'] at hk
  exact lc_assign hsw hclos (lcOk_1 hk.1.1).2.1 (lcOk_1 hk.1.1).1 (lcOk_1 hk.1.1).2.2 hk.1.2 hk.2 h hs
end
end
local macro_rules | `(tactic| walk_at "m_clos") => `(tactic| first | exact closNone (by rfl) | with_unfolding_all rfl)
local macro_rules | `(tactic| walk_at "eval ListComp") => `(tactic| k_dflt (refine lc_evalB rfl (by walk_at "m_clos") ?_ fun _ => rfl; k_whole))
local macro_rules | `(tactic| walk_at "exec Assign cons ListComp") => `(tactic| k_dflt (refine lc_assignB rfl (by with_unfolding_all rfl) (by walk_at "m_clos") ?_ fun _ => rfl; k_whole))
local macro_rules | `(tactic| walk_at "exec For") => `(tactic| k_dflt (refine wpAny_For ?_ (by intro _; exact rfl)))
local macro_rules | `(tactic| walk_at "pyIter") => `(tactic| fail "a source")
-- part MJ
theorem start_MJ : True := by
  w_top off
  trivial
section
open Builtin


/-- an iterator at I, its object told by ip -/
structure It (prog : Program) (w : World) (A : Around) (I : Addr) (n : Nat) (P : Nat → Value → Prop) (ip : Obj → Nat → Prop) (z : Heap) : Prop where
  item : ∀ i (s : Shared) (Q : Option Value → Shared → Prop) (E : Value → Shared → Prop) oI, i < n → s.heap.get? I = some oI → ip oI i → Ext z s.heap →
    (∀ v h' tk oI', P i v → h'.get? I = some oI' → ip oI' (i + 1) → (∀ b o, b ≠ I → s.heap.get? b = some o → h'.get? b = some o) → Q (some v) { s with heap := h', toks := tk }) → wpAny (model prog w) A (pyNext (.ref I)) Q E s
  done : ∀ (s : Shared) (Q : Option Value → Shared → Prop) (E : Value → Shared → Prop) oI, s.heap.get? I = some oI → ip oI n → Ext z s.heap →
    (∀ h' tk, (∀ b o, b ≠ I → s.heap.get? b = some o → h'.get? b = some o) → Q none { s with heap := h', toks := tk }) → wpAny (model prog w) A (pyNext (.ref I)) Q E s
  lets : ∀ i oI (s : Shared) target v (Q : Unit → Shared → Prop) (E : Value → Shared → Prop), s.heap.get? I = some oI → ip oI i → Q () s → wpAny (model prog w) A (letOwnedTupleGo target (.ref I) v) Q E s

section
variable {prog : Program} {w : World} {A : Around} {E : Value → Shared → Prop} {s : Shared} {zs : List Heap} {L : Addr} {m : Str → Option Value} {own : List (Addr × Obj)}

theorem It.list (hh : A.handled = none) {I l : Addr} {items : Array Value} {z : Heap} (hl : z.IsList l items) :
    It prog w A I items.size (fun i v => items[i]? = some v) (fun o i => o.cls = .type "list_iterator" ∧ o.data = .fields #[.ref l, .int i 0]) z where
  item := fun i s Q E oI hi ho hp e hQ => by
    obtain ⟨ol, hol, r⟩ := hl
    refine wpAny_pyNext_list_item (l := l) ⟨oI, ho, hp⟩ ⟨ol, e _ _ hol, r⟩ (x := items[i]) (by simp [hi]) fun h' hit' hs' => ?_
    obtain ⟨o', ho', hp'⟩ := hit'
    exact hQ _ h' s.toks o' (by simp [hi]) ho' hp' fun b o hb q => hs'.extBut b o hb q
  done := fun s Q E oI ho hp e hQ => by
    obtain ⟨ol, hol, r⟩ := hl
    exact wpAny_pyNext_list_end hh (l := l) (items := items) ⟨oI, ho, hp⟩ ⟨ol, e _ _ hol, r⟩ (by simp) fun h' he' => hQ h' s.toks fun b o hb q => he' b o hb q
  lets := fun i oI s target v Q E ho hp h => lets_of ho hp.1 (by decide) target v Q E h
theorem It.bytes (hh : A.handled = none) {I : Addr} {b : Array UInt8} {t : Tok} {z : Heap} :
    It prog w A I b.size (fun i v => ∃ c u, b[i]? = some c ∧ v = .int (c.toNat : Int) u) (fun o i => o.cls = .type "bytes_iterator" ∧ o.data = .fields #[.bytes b t, .int i 0]) z where
  item := fun i s Q E oI hi ho hp e hQ => by
    refine KBw.next_item (b := b) (t := t) ⟨oI, ho, hp⟩ (c := b[i]) (by simp [hi]) fun h' hit' hs' => ?_
    obtain ⟨o', ho', hp'⟩ := hit'
    exact hQ _ h' _ o' ⟨_, _, by simp [hi], rfl⟩ ho' hp' fun b o hb q => hs'.extBut b o hb q
  done := fun s Q E oI ho hp e hQ => by
    exact KBw.next_end hh (b := b) (t := t) ⟨oI, ho, hp⟩ (by simp) fun h' he' => hQ h' s.toks fun b o hb q => he' b o hb q
  lets := fun i oI s target v Q E ho hp h => lets_of ho hp.1 (by decide) target v Q E h
theorem It.range (hh : A.handled = none) {I : Addr} {n : Nat} {z : Heap} :
    It prog w A I n (fun i v => ∃ t, v = .int (i : Int) t) (fun o i => o = { cls := .type "range_iterator", dict := none, data := .fields #[rawInt (i : Int), rawInt ((n : Int) - (i : Nat)), rawInt 1], slots := #[] }) z where
  item := fun i s Q E oI hi ho hp e hQ => by
    subst hp
    refine wpAny_pyNext_range_item (x := (i : Int)) (left := (n : Int) - (i : Nat)) (step := 1) ho (by omega) fun h' hit' hs' => ?_
    exact hQ _ h' _ _ ⟨_, rfl⟩ hit' (by
      have e1 : ((i + 1 : Nat) : Int) = (i : Int) + 1 := by push_cast; rfl
      have e2 : (n : Int) - ((i + 1 : Nat) : Int) = (n : Int) - (i : Int) - 1 := by push_cast; omega
      rw [e1] at e2 ⊢
      rw [e2]) fun b o hb q => hs'.extBut b o hb q
  done := fun s Q E oI ho hp e hQ => by
    subst hp
    exact wpAny_pyNext_range_end hh (x := (n : Int)) (left := (n : Int) - (n : Nat)) (step := 1) ho (by omega) fun h' he' => hQ h' s.toks fun b o hb q => he' b o hb q
  lets := fun i oI s target v Q E ho hp h => by subst hp; exact lets_of ho rfl (by decide) target v Q E h


/-- an own object turned, all else kept or new -/
theorem St.updE {a : Addr} {o o' : Obj} {h h' : Heap} (S : St zs L m ((a, o) :: own) h) (hs : ∀ b ob, b ≠ a → h.get? b = some ob → h'.get? b = some ob) (e : h'.get? a = some o') : St zs L m ((a, o') :: own) h' := by
  have nd := S.nd
  simp only [List.map_cons, List.nodup_cons, List.mem_cons, not_or] at nd
  obtain ⟨oL, es, ep, hL, r⟩ := S.ns
  refine ⟨⟨oL, es, ep, hs L _ nd.1.1 hL, r⟩, fun p hp => ?_, S.nd, fun z hz => ⟨fun b ob q => hs b ob (fun y => ?_) ((S.fz z hz).1 b ob q), (S.fz z hz).2⟩⟩
  · rcases List.mem_cons.mp hp with rfl | hp
    · exact e
    · exact hs _ _ (fun y => nd.2.1 (y ▸ List.mem_map_of_mem hp)) (S.mine p (.tail _ hp))
  · have := (S.fz z hz).2 a (.tail _ (.head _))
    rw [← y, q] at this; cases this
theorem St.dropE {a : Addr} {o : Obj} {h h' : Heap} (S : St zs L m ((a, o) :: own) h) (hs : ∀ b ob, b ≠ a → h.get? b = some ob → h'.get? b = some ob) : St zs L m own h' := by
  have nd := S.nd
  simp only [List.map_cons, List.nodup_cons, List.mem_cons, not_or] at nd
  obtain ⟨oL, es, ep, hL, r⟩ := S.ns
  have D := S.drop
  refine ⟨⟨oL, es, ep, hs L _ nd.1.1 hL, r⟩, fun p hp => ?_, D.nd, fun z hz => ⟨fun b ob q => hs b ob (fun y => ?_) ((S.fz z hz).1 b ob q), (D.fz z hz).2⟩⟩
  · exact hs _ _ (fun y => nd.2.1 (y ▸ List.mem_map_of_mem hp)) (S.mine p (.tail _ hp))
  · have := (S.fz z hz).2 a (.tail _ (.head _))
    rw [← y, q] at this; cases this

theorem forLoop_any {R : Result → Shared → Prop} {target : Expr} {it : Value} {body orelse : List Stmt} {env : Env} (I : Nat → Shared → Prop)
    (turn : ∀ n s, I n s → wpAny (model prog w) A (pyNext it) (fun r s₁ => match r with
      | none => wpAny (model prog w) A (execs orelse env) (fun f s₃ => R (.ok f) s₃) (notedBy (model prog w) A env fun e s' => R (.error e) s') s₁
      | some v => wpAny (model prog w) A (letOwnedTupleGo target it v) (fun _ s₁ => wpAny (model prog w) A (assign target env v) (fun _ s₂ => wpAny (model prog w) A (execs body env) (fun f s₃ => match f with
          | .next | .cont => ∃ m, m < n ∧ I m s₃
          | .brk => R (.ok .next) s₃
          | .ret v => R (.ok (.ret v)) s₃) (notedBy (model prog w) A env fun e s' => R (.error e) s') s₂) (notedBy (model prog w) A env fun e s' => R (.error e) s') s₁) (notedBy (model prog w) A env fun e s' => R (.error e) s') s₁) (notedBy (model prog w) A env fun e s' => R (.error e) s') s)
    (n : Nat) (h : I n s) : codeAny (model prog w) A (.forLoop target it body orelse env) R s := by
  refine codeAny_loop' rfl I (fun n s hI => ?_) n h
  show wpAny _ _ ((forTurn target it body orelse env).onRaise (fun x => do noteFrame x env; theTreesLotGoes x)) _ _ s
  refine wpAny_noted ?_
  simp only [forTurn]
  refine wpAny_bind (wpAny_standAt (wpAny_bind (wpAny_onRaise (wpAny_mono (turn n s hI) (fun r s₁ h₁ => ?_) fun _ _ h' => wpAny_standAt h'))))
  cases r with
  | none => exact wpAny_pure (.inr ⟨rfl, codeAny_block h₁⟩)
  | some v =>
    refine wpAny_bind (wpAny_mono h₁ (fun _ s₁ h₁ => ?_) fun _ _ h' => h')
    refine wpAny_bind (wpAny_mono h₁ (fun _ s₂ h₂ => wpAny_bind (wpAny_mono h₂ (fun f s₃ h₃ => ?_) fun _ _ h' => h')) fun _ _ h' => h')
    cases f with
    | next => exact wpAny_pure (.inl ⟨rfl, h₃⟩)
    | cont => exact wpAny_pure (.inl ⟨rfl, h₃⟩)
    | brk => exact wpAny_pure h₃
    | ret v => exact wpAny_pure h₃


/-- where a loop's body raises -/
abbrev loopE (prog : Program) (w : World) (A : Around) (env : Env) (E : Value → Shared → Prop) : Value → Shared → Prop := notedBy (model prog w) A env fun e s' => cameBackBy (model prog w) A env E e s'


/-- what stands behind a loop's turn -/
noncomputable def TurnEnd (L : Addr) (I : Addr) (oI : Obj) (U : List Heap → (Str → Option Value) → List (Addr × Obj) → Prop) (s : Shared) (Q : Flow → Shared → Prop) (f : Flow) (s₅ : Shared) : Prop :=
  match f with
  | .brk => Q .next s₅
  | .ret v => Q (.ret v) s₅
  | _ => ∃ zs' m' own', St zs' L m' ((I, oI) :: own') s₅.heap ∧ U zs' m' own' ∧ s₅ = { s with heap := s₅.heap, toks := s₅.toks }

theorem for_it {target : Expr} {body : List Stmt} {env : Env} {Q : Flow → Shared → Prop} {I : Addr} {n : Nat} {P : Nat → Value → Prop} {ip : Obj → Nat → Prop} {z : Heap} {oI : Obj} (W : It prog w A I n P ip z) (he : env.locals = L)
    (S : St zs L m ((I, oI) :: own) s.heap) (hp : ip oI 0) (U : Nat → List Heap → (Str → Option Value) → List (Addr × Obj) → Prop) (h0 : U 0 zs m own) (hz : ∀ i zs m own, U i zs m own → z ∈ zs)
    (turn : ∀ i v zs m own s' oI, i < n → P i v → U i zs m own → St zs L m ((I, oI) :: own) s'.heap → s' = { s with heap := s'.heap, toks := s'.toks } →
      wpAny (model prog w) A (assign target env v) (fun _ s₄ => wpAny (model prog w) A (execs body env) (TurnEnd L I oI (U (i + 1)) s Q) (loopE prog w A env E) s₄) (loopE prog w A env E) s')
    (done : ∀ zs m own h' tk, U n zs m own → St zs L m own h' → Q .next { s with heap := h', toks := tk }) :
    codeAny (model prog w) A (.forLoop target (.ref I) body [] env) (fun r s' => match r with | .ok f => Q f s' | .error e => cameBackBy (model prog w) A env E e s') s := by
  subst he
  refine forLoop_any (fun k s' => ∃ i zs m own oI, k = n - i ∧ i ≤ n ∧ ip oI i ∧ U i zs m own ∧ St zs env.locals m ((I, oI) :: own) s'.heap ∧ s' = { s with heap := s'.heap, toks := s'.toks }) ?_ n ⟨0, zs, m, own, oI, rfl, Nat.zero_le _, hp, h0, S, rfl⟩
  rintro k s' ⟨i, zs, m, own, oI, rfl, hi, hp, hU, S, hs⟩
  have ez := S.froz (hz _ _ _ _ hU)
  by_cases hlt : i < n
  · refine W.item i s' _ _ oI hlt S.ownAt hp ez fun v h' tk oI' hv ho' hp' hk => ?_
    have S' := S.updE hk ho'
    refine W.lets (i + 1) oI' _ target v _ _ ho' hp' ?_
    have e' : ({ s' with heap := h', toks := tk } : Shared) = { s with heap := h', toks := tk } := by rw [hs]
    refine wpAny_mono (turn i v zs m own _ oI' hlt hv hU S' e') (fun _ s₄ h₄ => wpAny_mono h₄ (fun f s₅ h₅ => ?_) fun _ _ e => e) fun _ _ e => e
    cases f with
    | brk => exact h₅
    | ret v => exact h₅
    | next =>
      obtain ⟨zs', m', own', S₅, U₅, e₅⟩ := h₅
      exact ⟨n - (i + 1), Nat.sub_lt_sub_left hlt (Nat.lt_succ_self i), i + 1, zs', m', own', oI', rfl, hlt, hp', U₅, S₅, e₅⟩
    | cont =>
      obtain ⟨zs', m', own', S₅, U₅, e₅⟩ := h₅
      exact ⟨n - (i + 1), Nat.sub_lt_sub_left hlt (Nat.lt_succ_self i), i + 1, zs', m', own', oI', rfl, hlt, hp', U₅, S₅, e₅⟩
  · have hin : i = n := Nat.le_antisymm hi (Nat.not_lt.mp hlt)
    subst hin
    refine W.done s' _ _ oI S.ownAt hp ez fun h' tk hk => ?_
    refine wpAny_execs_nil ?_
    have e' : ({ s' with heap := h', toks := tk } : Shared) = { s with heap := h', toks := tk } := by rw [hs]
    show Q .next { s' with heap := h', toks := tk }
    rw [e']
    exact done zs m own h' tk hU (S.dropE hk)

theorem for_list {target : Expr} {body : List Stmt} {env : Env} {Q : Flow → Shared → Prop} {items : List Value} {l : Addr} (hh : A.handled = none) (he : env.locals = L) (S : St zs L m own s.heap) {z : Heap} (hz0 : z ∈ zs) (hl : z.IsList l items.toArray)
    (U : Nat → List Heap → (Str → Option Value) → List (Addr × Obj) → Prop) (h0 : U 0 zs m own) (hz : ∀ i zs m own, U i zs m own → z ∈ zs)
    (turn : ∀ i v zs m own s' I oI, items[i]? = some v → U i zs m own → St zs L m ((I, oI) :: own) s'.heap → s' = { s with heap := s'.heap, toks := s'.toks } →
      wpAny (model prog w) A (assign target env v) (fun _ s₄ => wpAny (model prog w) A (execs body env) (TurnEnd L I oI (U (i + 1)) s Q) (loopE prog w A env E) s₄) (loopE prog w A env E) s')
    (done : ∀ zs m own h' tk, U items.length zs m own → St zs L m own h' → Q .next { s with heap := h', toks := tk }) :
    wpAny (model prog w) A (pyIter (.ref l)) (fun it s₂ => codeAny (model prog w) A (.forLoop target it body [] env) (fun r s' => match r with | .ok f => Q f s' | .error e => cameBackBy (model prog w) A env E e s') s₂) E s := by
  obtain ⟨ol, hol, r⟩ := id hl
  refine wpAny_pyIter_list (items := items.toArray) ⟨ol, S.froz hz0 _ _ hol, r⟩ ?_
  have W := It.list (prog := prog) (w := w) hh (I := s.heap.objs.size) hl
  rw [List.size_toArray] at W
  refine for_it W he (S.push _) ⟨rfl, rfl⟩ U h0 hz (fun i v zs m own s' oI hi hv hU S' e' => ?_) fun zs m own h' tk hU S' => done zs m own h' tk hU S'
  exact turn i v zs m own s' _ oI (by simpa using hv) hU S' (by rw [e'])
theorem for_bytes {target : Expr} {body : List Stmt} {env : Env} {Q : Flow → Shared → Prop} {b : Array UInt8} {t : Tok} (hh : A.handled = none) (he : env.locals = L) (S : St zs L m own s.heap) {z : Heap} (_hz0 : z ∈ zs)
    (U : Nat → List Heap → (Str → Option Value) → List (Addr × Obj) → Prop) (h0 : U 0 zs m own) (hz : ∀ i zs m own, U i zs m own → z ∈ zs)
    (turn : ∀ i v zs m own s' I oI, (∃ c u, b[i]? = some c ∧ v = Value.int (c.toNat : Int) u) → U i zs m own → St zs L m ((I, oI) :: own) s'.heap → s' = { s with heap := s'.heap, toks := s'.toks } →
      wpAny (model prog w) A (assign target env v) (fun _ s₄ => wpAny (model prog w) A (execs body env) (TurnEnd L I oI (U (i + 1)) s Q) (loopE prog w A env E) s₄) (loopE prog w A env E) s')
    (done : ∀ zs m own h' tk, U b.size zs m own → St zs L m own h' → Q .next { s with heap := h', toks := tk }) :
    wpAny (model prog w) A (pyIter (.bytes b t)) (fun it s₂ => codeAny (model prog w) A (.forLoop target it body [] env) (fun r s' => match r with | .ok f => Q f s' | .error e => cameBackBy (model prog w) A env E e s') s₂) E s := by
  refine KBw.pyIter_bytes ?_
  have W := It.bytes (prog := prog) (w := w) hh (I := s.heap.objs.size) (b := b) (t := t) (z := z)
  refine for_it W he (S.push _) ⟨rfl, rfl⟩ U h0 hz (fun i v zs m own s' oI hi hv hU S' e' => ?_) fun zs m own h' tk hU S' => done zs m own h' tk hU S'
  exact turn i v zs m own s' _ oI hv hU S' (by rw [e'])
theorem for_range {target : Expr} {body : List Stmt} {env : Env} {Q : Flow → Shared → Prop} {r : Addr} {n : Nat} {t u v : Tok} (hh : A.handled = none) (he : env.locals = L) (S : St zs L m own s.heap) {z : Heap} (_hz0 : z ∈ zs)
    (hr : IsRange s.heap r 0 (n : Int) 1 t u v) (hsz : n ≤ 1000)
    (U : Nat → List Heap → (Str → Option Value) → List (Addr × Obj) → Prop) (h0 : U 0 zs m own) (hz : ∀ i zs m own, U i zs m own → z ∈ zs)
    (turn : ∀ i v zs m own s' I oI, i < n → (∃ t, v = Value.int (i : Int) t) → U i zs m own → St zs L m ((I, oI) :: own) s'.heap → s' = { s with heap := s'.heap, toks := s'.toks } →
      wpAny (model prog w) A (assign target env v) (fun _ s₄ => wpAny (model prog w) A (execs body env) (TurnEnd L I oI (U (i + 1)) s Q) (loopE prog w A env E) s₄) (loopE prog w A env E) s')
    (done : ∀ zs m own h' tk, U n zs m own → St zs L m own h' → Q .next { s with heap := h', toks := tk }) :
    wpAny (model prog w) A (pyIter (.ref r)) (fun it s₂ => codeAny (model prog w) A (.forLoop target it body [] env) (fun r s' => match r with | .ok f => Q f s' | .error e => cameBackBy (model prog w) A env E e s') s₂) E s := by
  have hrs : Builtin.Range.rangeSize 0 (n : Int) 1 = (n : Int) := by rw [rangeSize_nat]; omega
  have fl : ∀ i : Int, 0 ≤ i → i ≤ 2000 → Builtin.Range.rangeFitsLong i = true := fun i h0 h1 => by
    unfold Builtin.Range.rangeFitsLong
    rw [Bool.and_eq_true, decide_eq_true_eq, decide_eq_true_eq]
    omega
  have hsm : Builtin.Range.small 0 (n : Int) 1 = true := by
    unfold Builtin.Range.small
    rw [hrs, fl 0 (by omega) (by omega), fl n (by omega) (by omega), fl 1 (by omega) (by omega), if_pos (by decide), fl ((n : Int) + (1 - 1)) (by omega) (by omega)]
    simp
  refine wpAny_pyIter_range hr hsm ?_
  rw [hrs]
  have W := It.range (prog := prog) (w := w) hh (I := s.heap.objs.size) (n := n) (z := z)
  refine for_it W he (S.push _) (by simp) U h0 hz (fun i v zs m own s' oI hi hv hU S' e' => ?_) fun zs m own h' tk hU S' => done zs m own h' tk hU S'
  exact turn i v zs m own s' _ oI hi hv hU S' (by rw [e'])
end

section
variable {prog : Program} {w : World} {A : Around} {s₁ s₂ : Shared} {I : Addr} {target : Expr} {ifs : List Expr} {elt : Expr} {scope : PySem.Scope} {cl : List (PySem.Str × Addr)} {env : Env} {K : (D : Addr) → Heap → Array GenState → Nat → Prop}
theorem ask_bytes {b : Array UInt8} (src : Src prog w A s₁ s₂ I b.size (fun i v => ∃ c u, b[i]? = some c ∧ v = .int (c.toNat : Int) u) (fun a b => b = a)) (q : UInt8 → Bool) (G : UInt8 → Value → Prop)
    (turn : ∀ C c u s₃ m₃ E' z₃, c ∈ b.toList → Ext s₁.heap z₃ → (∀ b o, b ≠ C → s₃.heap.get? b = some o → z₃.get? b = some o) → St [z₃] C m₃ [] s₃.heap →
      TurnA prog w A target ifs elt (compEnvC scope cl C env) C (q c) (fun _ y => G c y) (.int (c.toNat : Int) u) E' s₃)
    (res : ∀ D h' tk ys nn z, Ext s₁.heap h' → Fresh s₁.heap z → Ext z h' → z.get? D = some (listOf ys nn) → Paired G (b.toList.filter q) ys.toList → K D h' s₁.gens tk) :
    CompAsk prog w A target ifs elt scope cl env s₁ s₂ (.ref I) K :=
  ask_of b.toList (fun c v => ∃ u, v = .int (c.toNat : Int) u) q (fun _ c y => G c y) src (by simp)
    (fun i v a ha ⟨c, u, hc, hv⟩ => by
      rw [Array.getElem?_toList, hc] at ha
      cases ha
      exact ⟨u, hv⟩) (fun _ _ _ _ _ h => h) (fun C c v s₃ m₃ E' z₃ hc ⟨u, hv⟩ e1 e2 S₃ _ => hv ▸ turn C c u s₃ m₃ E' z₃ hc e1 e2 S₃)
    (fun D h' g' tk ys nn z f1 f2 f3 f4 f5 hg => by
      subst hg
      exact res D h' tk ys nn z f1 f2 f3 f4 f5)

/-- items of a list or a tuple, each the value of a datum -/
theorem ask_items {items : Array Value} {α : Type} (l : List α) (val : α → Value → Prop) (hl : Paired val l items.toList) (src : Src prog w A s₁ s₂ I items.size (fun i v => items[i]? = some v) (fun a b => b = a)) (q : α → Bool) (G : Heap → α → Value → Prop)
    (hG : ∀ z z' a y, Ext z z' → G z a y → G z' a y)
    (turn : ∀ C a v s₃ m₃ E' z₃, a ∈ l → val a v → Ext s₁.heap z₃ → (∀ b o, b ≠ C → s₃.heap.get? b = some o → z₃.get? b = some o) → St [z₃] C m₃ [] s₃.heap →
      TurnA prog w A target ifs elt (compEnvC scope cl C env) C (q a) (fun z y => G z a y) v E' s₃)
    (res : ∀ D h' tk ys nn z, Ext s₁.heap h' → Fresh s₁.heap z → Ext z h' → z.get? D = some (listOf ys nn) → Paired (G z) (l.filter q) ys.toList → K D h' s₁.gens tk) :
    CompAsk prog w A target ifs elt scope cl env s₁ s₂ (.ref I) K := by
  have pg : ∀ {l : List α} {ys : List Value}, Paired val l ys → ∀ (i : Nat) (a : α) (v : Value), l[i]? = some a → ys[i]? = some v → val a v := fun h => by
    induction h with
    | nil => intro i a v h; simp at h
    | cons h _ ih =>
      intro i a v e1 e2
      cases i with
      | zero => simp at e1 e2; subst e1; subst e2; exact h
      | succ i => exact ih i a v (by simpa using e1) (by simpa using e2)
  refine ask_of l val q G src (by rw [hl.length]; simp) (fun i v a ha hv => pg hl i a v ha (by simpa using hv)) hG (fun C a v s₃ m₃ E' z₃ ha hv e1 e2 S₃ _ => turn C a v s₃ m₃ E' z₃ ha hv e1 e2 S₃) fun D h' g' tk ys nn z f1 f2 f3 f4 f5 hg => ?_
  subst hg
  exact res D h' tk ys nn z f1 f2 f3 f4 f5
end
end
-- part MK
theorem start_MK : True := by
  w_top off
  trivial
section
open Builtin

theorem cellsFrom_nd : ∀ (names : List (PySem.Str × NameKind)) (n : Nat) (acc : List (PySem.Str × Addr)), (∀ p ∈ acc, p.2 < n) → (acc.map (·.2)).Nodup → ((cellsFrom n names acc).map (·.2)).Nodup
  | [], _, _, _, h => h
  | (x, k) :: r, n, acc, h1, h2 => by
    unfold cellsFrom
    split
    · refine cellsFrom_nd r (n + 1) _ (fun p hp => ?_) ?_
      · rcases List.mem_cons.mp hp with rfl | hp
        · exact Nat.lt_succ_self _
        · exact Nat.lt_succ_of_lt (h1 p hp)
      · rw [List.map_cons, List.nodup_cons]
        refine ⟨fun hm => ?_, h2⟩
        obtain ⟨p, hp, e⟩ := List.mem_map.mp hm
        exact absurd (h1 p hp) (by rw [e]; exact Nat.lt_irrefl _)
    · exact cellsFrom_nd r n acc h1 h2
theorem cellsAre_map {cm : PySem.Str → Option Value} {cs : List (PySem.Str × Addr)} {cells : List (Addr × Obj)} (h : CellsAre cm cs cells) : cells.map (·.1) = cs.map (·.2) := by
  induction h with
  | nil => rfl
  | cons _ _ ih => simp [ih]

section
variable {prog : Program} {w : World} {A : Around} {s : Shared} {fr : List Env} {d u : Nat}
  {R : Result → Shared → Prop} {name qual : PySem.Str} {params : Arguments} {body : List Stmt} {scope : PySem.Scope} {dV kV doc pm cdv ct oc : Value} {an od : Option Addr} {osl : Array (Option Value)} {f : Addr} {args : Args} {binds : List (PySem.Str × Value)}

theorem enterC (am : Amb w A (d + 1) u fr s.heap) (ho : (Mine.hd.heap_1 w.params).lookup f = some ⟨oc, od, .func (fnOf name qual params body scope dV kV doc pm an cdv ct), osl⟩) (hcd : codeIn (Mine.hd.heap_1 w.params) cdv qual = true)
    (hbind : BindsTo s (fnOf name qual params body scope dV kV doc pm an cdv ct) args binds)
    (hkind : (binds.all fun y => scope.names.lookup y.1 == some .local || scope.names.lookup y.1 == some .cell) = true)
    (hnd : ((cellsFrom 0 scope.names []).map (·.1)).Nodup)
    (h : ∀ L h₁ tk cells, s.heap.objs.size ≤ L → CellsAre (bindC (envX qual scope L f cdv (cellsFrom (L + 1) scope.names [])).kindOf binds fun _ => none) (cellsFrom (L + 1) scope.names []) cells →
      St [s.heap] L (bindL (envX qual scope L f cdv (cellsFrom (L + 1) scope.names [])).kindOf binds fun _ => none) cells h₁ →
      wpAny (model prog w) (A.deeper (envX qual scope L f cdv (cellsFrom (L + 1) scope.names []))) (execs body (envX qual scope L f cdv (cellsFrom (L + 1) scope.names [])))
        (fun fl s' => R (.ok (.ret (match fl with | .ret v => v | _ => .none))) s')
        (fun e s' => wpAny (model prog w) (A.deeper (envX qual scope L f cdv (cellsFrom (L + 1) scope.names []))) (leaving (envX qual scope L f cdv (cellsFrom (L + 1) scope.names [])) e) (fun _ s'' => R (.error e) s'') (fun e' s'' => R (.error e') s'') s')
        { s with heap := h₁, toks := tk })
    (hco : scope.isCoroutine = false := by rfl) (hgen : scope.isGenerator = false := by rfl) (hk : scope.kind = .function := by rfl) :
    codeAny (model prog w) A (.call (.ref f) args) R s := by
  obtain ⟨_, _, _, _, _, T⟩ := am.t
  refine codeAny_call_function (by have := am.dep; omega) (am.k _ _ ho) rfl hco hgen rfl (codeRec_of am.k hcd) (hbind _ _ _ _ ?_)
  refine wpAny_newFunctionEnv_cells hk (kindsX hkind _) fun env' he s' x => ?_
  subst he
  refine ⟨T.nolimit.keeps x.toInCall.keep, codeAny_func ?_⟩
  obtain ⟨h₁, tk, rfl, _⟩ := x.done
  have hk₁ := x.toInCall.keep
  obtain ⟨cells, NC, Y⟩ := Cl.news (h₀ := s.heap) (Nat.le_refl _) fun n c hm => ⟨x.cell n c (lookup_of_mem_nodup (cellsFrom_names scope.names 0 (s.heap.objs.size + 1) [] [] rfl ▸ hnd) hm), x.above n c hm⟩
  refine h s.heap.objs.size h₁ tk cells (Nat.le_refl _) Y ⟨x.toInCall.ns, fun p hp => (NC p hp).1, ?_, fun z hz => ?_⟩
  · rw [List.nodup_cons]
    refine ⟨fun hm => ?_, ?_⟩
    · obtain ⟨p, hp, e⟩ := List.mem_map.mp hm
      exact (NC p hp).2.1 e
    · rw [cellsAre_map Y]
      exact cellsFrom_nd _ _ [] (fun _ h => (nomatch h)) (by simp)
  · rw [List.mem_singleton.mp hz]
    refine ⟨hk₁, fun a ha => ?_⟩
    rcases List.mem_cons.mp ha with rfl | ha
    · exact fresh_none (Nat.le_refl _)
    · obtain ⟨p, hp, rfl⟩ := List.mem_map.mp ha
      exact (NC p hp).2.2
end
theorem Amb.sub {w : World} {A : Around} {d u d' u' : Nat} {fr : List Env} {h₀ h : Heap} {zs : List Heap} {L : Addr} {m : PySem.Str → Option Value} {own : List (Addr × Obj)} {env : Env}
    (x : Amb w A d u fr h₀) (S : St zs L m own h) (hz : h₀ ∈ zs) (hf : env.frame = some L := by exact rfl) (hk : env.scope.kind = .function := by exact rfl) (hd : d' + 1 ≤ d := by first | decide | omega) (hu : u' + 3 ≤ u := by first | decide | omega) : Amb w (A.deeper env) d' u' (env :: fr) h :=
  (x.less (d' := d' + 1) (u' := u' + 3) hd hu).block S hz hf hk
theorem nmFr {M : Model} {A : Around} {E : Value → Shared → Prop} {s : Shared} {env : Env} {x : PySem.Str} {pos : Pos} {v : Value} {c : Addr} {o : Obj} {Q : Value → Shared → Prop} (hc : env.cells.lookup x = some c) (hk : (nk env x .free && !(x == ("__classdict__" : PySem.Str))) = true) (ho : s.heap.get? c = some o) (hd' : o.data = .cell (some v)) (h : Q v s) : wpAny M A (eval (.Name x pos) env) Q E s := by
  rw [Bool.and_eq_true, Bool.not_eq_true'] at hk
  exact wpAny_Name (wpAny_loadName_free (nk_1 hk.1).1 (nk_1 hk.1).2.1 hc ⟨o, ho, hd'⟩ h hk.2) (nk_1 hk.1).2.2
end
local macro_rules | `(tactic| walk_at "eval Name") => `(tactic| k_dflt (first
  | (refine nmC rfl rfl (by walk_at "m_cell") (by with_reducible assumption) ?_; k_whole)
  | (refine nmFr rfl rfl (by walk_at "m_cell") (by with_reducible assumption) ?_; k_whole)))
-- part MN
theorem start_MN : True := by
  w_top off
  trivial
section
open Builtin
section
variable {prog : Program} {w : World} {M : Model} {A : Around} {E : Value → Shared → Prop} {s : Shared} {value slice : PySem.Expr} {b c : Array UInt8} {t u : Tok} {zs : List Heap} {L : Addr} {m : PySem.Str → Option Value} {own : List (Addr × Obj)} {l r : Value} {lo hi : Option Int} {Q : Value → Shared → Prop} {i : Int}
theorem bItem {ui : Tok} (h0 : 0 ≤ i) (h1 : i < (b.size : Int)) (hz : b.size ≤ 1000)
    (h : ∀ t' k, Q (.int ((b.getD i.toNat 0).toNat : Int) t') { s with toks := k })
    (hs : subscripted slice false (.bytes b t) (.int i ui) = operate [.bytes b t, .int i ui] (getItem (.bytes b t) (.int i ui)) := by with_unfolding_all rfl)
    (ht : ∀ r, letTemporaryGo value (.bytes b t) r = pure () := by intro _; with_unfolding_all rfl) : wpAny (model prog w) A (subscriptTail value slice (.bytes b t) (.int i ui)) Q E s := by
  have hl : i.toNat < b.size := by omega
  have g : wpAny (model prog w) A (getItem (.bytes b t) (.int i ui)) Q E s := by
    refine getItem_gives (typeIs_bytes s _ t) (by decide) FB.slot_bytes_getitem FB.entry_bytes_getitem (FB.args_bytes_getitem_2 _ _) (gives_bytes_getitem _ i t ui (b.getD i.toNat 0) ?_ ?_) ?_
    · simp only [Bytes.fitsIndex, Bool.and_eq_true, decide_eq_true_eq]; omega
    · have e : seqIndex? i b.size = some i.toNat := by simp [seqIndex?, h1, h0, show ¬ i < 0 from by omega]
      rw [e]; simp [Array.getD, hl]
    · exact h _ _
  exact tail_of_ItemOn ⟨"bytes", _, FB.slot_bytes_getitem.lookup, typeIs_bytes _ _ _, g⟩ hs ht
theorem bItemR {ui : Tok} (h0 : -(b.size : Int) ≤ i) (h1 : i < 0) (hz : b.size ≤ 1000)
    (h : ∀ t' k, Q (.int ((b.getD (i + b.size).toNat 0).toNat : Int) t') { s with toks := k })
    (hs : subscripted slice false (.bytes b t) (.int i ui) = operate [.bytes b t, .int i ui] (getItem (.bytes b t) (.int i ui)) := by with_unfolding_all rfl)
    (ht : ∀ r, letTemporaryGo value (.bytes b t) r = pure () := by intro _; with_unfolding_all rfl) : wpAny (model prog w) A (subscriptTail value slice (.bytes b t) (.int i ui)) Q E s := by
  have hl : (i + b.size).toNat < b.size := by omega
  have g : wpAny (model prog w) A (getItem (.bytes b t) (.int i ui)) Q E s := by
    refine getItem_gives (typeIs_bytes s _ t) (by decide) FB.slot_bytes_getitem FB.entry_bytes_getitem (FB.args_bytes_getitem_2 _ _) (gives_bytes_getitem _ i t ui (b.getD (i + b.size).toNat 0) ?_ ?_) ?_
    · simp only [Bytes.fitsIndex, Bool.and_eq_true, decide_eq_true_eq]; omega
    · have e : seqIndex? i b.size = some (i + b.size).toNat := by
        have h2 : 0 ≤ i + (b.size : Int) := by omega
        have h3 : i + (b.size : Int) < b.size := by omega
        simp [seqIndex?, h1, h2, h3]
      rw [e]; simp [Array.getD, hl]
    · exact h _ _
  exact tail_of_ItemOn ⟨"bytes", _, FB.slot_bytes_getitem.lookup, typeIs_bytes _ _ _, g⟩ hs ht

/-- octets cut from a place to a place -/
noncomputable def cutB (b : Array UInt8) (lo hi : Option Int) : Array UInt8 := ((b.toList.drop (lo.elim 0 (clipAt b.size))).take (hi.elim b.size (clipAt b.size) - lo.elim 0 (clipAt b.size))).toArray
theorem cutB_size : (cutB b lo hi).size ≤ b.size := by
  unfold cutB
  rw [List.size_toArray, List.length_take, List.length_drop, Array.length_toList]
  exact Nat.le_trans (Nat.min_le_right _ _) (Nat.sub_le _ _)
theorem toNat_pred {n : Nat} (h : 0 < n) : (-1 + (n : Int)).toNat = n - 1 := by
  cases n with
  | zero => cases h
  | succ m => exact congrArg Int.toNat (show (-1 + ((m : Int) + 1)) = (m : Int) from (Int.add_comm _ _).trans ((Int.add_assoc _ _ _).trans (Int.add_zero _)))
theorem bSlice (S : St zs L m own s.heap) (hl : IsPart l lo) (hr : IsPart r hi) (hz : b.size ≤ 1000)
    (h : ∀ h' t' k, Ext s.heap h' → St zs L m own h' → Q (.bytes (cutB b lo hi) t') { s with heap := h', toks := k })
    (hs : subscripted slice false (.bytes b t) (.ref s.heap.objs.size) = operate [.ref s.heap.objs.size, .bytes b t] (getItem (.bytes b t) (.ref s.heap.objs.size)) := by with_unfolding_all rfl)
    (ht : ∀ r, letTemporaryGo value (.bytes b t) r = pure () := by intro _; with_unfolding_all rfl) :
    wpAny (model prog w) A (subscriptTail value slice (.bytes b t) (.ref s.heap.objs.size)) Q E { s with heap := s.heap.push { cls := .type "slice", data := .fields #[l, r, .none] } } := by
  have e : KBy.picked b lo hi = cutB b lo hi := KBc.picked_eq b lo hi
  refine tail_of_ItemOn ⟨"bytes", _, FB.slot_bytes_getitem.lookup, typeIs_bytes _ _ _, getItem_meets (typeIs_bytes _ _ _) (by decide) FB.slot_bytes_getitem FB.entry_bytes_getitem (FB.args_bytes_getitem_2 _ _) (KBc.meets_slice2 b t _ hl hr)
    ⟨Heap.IsSliceOf.new _ _ _ _, Nat.le_trans (KBc.size_picked_le b lo hi) (by rw [sizeLine_eq]; omega), fun t' k => ?_⟩⟩ hs ht
  rw [e]
  exact h _ _ _ (Ext.push _) (S.ext (Ext.push _))
end
end
local macro_rules | `(tactic| walk_at "subscriptTail") => `(tactic| k_dflt ((with_reducible show wpAny _ _ (subscriptTail _ _ (Value.bytes _ _) (Value.int _ _)) _ _ _); first
  | (refine bItem (by walk_at "m_lo") (by walk_at "m_lo") (by walk_at "m_sz") ?_; intros)
  | (refine bItemR (by walk_at "m_lo") (by walk_at "m_lo") (by walk_at "m_sz") ?_; intros)))
local macro_rules | `(tactic| walk_at "subscriptTail") => `(tactic| k_dflt ((with_reducible show wpAny _ _ (subscriptTail _ (Expr.Slice _ _ none _) (Value.bytes _ _) (Value.ref _)) _ _ _); (with_reducible rename St _ _ _ _ _ => S9); (refine bSlice (s := ⟨_, _, _, _, _⟩) ‹_› (by constructor) (by constructor) (by walk_at "m_sz") ?_); intros; clear S9; (try dsimp only)))
local macro_rules | `(tactic| walk_at "binaryOp Add bytes bytes") => `(tactic| k_dflt (refine KBy.add_bytes (by walk_at "m_sz") ?_; intros))
-- part MT
theorem start_MT : True := by
  w_top off
  trivial
section
theorem fill : PySem.Challenge.rw_jr0006_01 = PySem.Challenge.rw_jr0006_01 ∧ Mine.hd.heap_1 = Mine.hd.heap_1 := by
  k_fill
  exact ⟨rfl, rfl⟩
noncomputable def TCH : Array UInt8 := #[45, 33, 35, 36, 37, 38, 39, 42, 43, 46, 94, 95, 96, 124, 126, 48, 49, 50, 51, 52, 53, 54, 55, 56, 57, 97, 98, 99,
     100, 101, 102, 103, 104, 105, 106, 107, 108, 109, 110, 111, 112, 113, 114, 115, 116, 117, 118, 119, 120, 121, 122,
     65, 66, 67, 68, 69, 70, 71, 72, 73, 74, 75, 76, 77, 78, 79, 80, 81, 82, 83, 84, 85, 86, 87, 88, 89, 90]
noncomputable def tokB (b : Array UInt8) : Bool := decide (0 < b.size) && b.toList.all (TCH.contains ·)
theorem token_ok {prog : Program} {w : World} {A : Around} {fr : List Env} {s : Shared} {b : Array UInt8} {tk : Tok} {Q E : Value → Shared → Prop} (am : Amb w A 2 20 fr s.heap) (hb : b.size ≤ 1000)
  (hQ : ∀ h' tk' v, Ext s.heap h' → (v = .none ∧ tokB b = false ∨ (∃ d, v = .ref d) ∧ tokB b = true) → Q v {s with heap := h', toks := tk'}) : wpAny (model prog w) A (call (.ref 26) [.bytes b tk]) Q E s := by
  refine wpAny_call ?_
  refine enter (binds := [(Str.ofString "data", .bytes b tk)]) am (by k_is) (by k_is) (BindsTo.of_eq rfl) (locs rfl) fun L h₁ hL S => ?_
  dsimp only
  repeat' walk1
  · rename_i hpos
    dsimp only
    refine src_bytes (by exact am.hd) (by rw [sizeLine_eq]; omega) fun I s₂ src => ?_
    refine ask_bytes src (fun _ => true) (fun c y => y = .bool (TCH.contains c)) ?_ ?_
    · rintro C c u s₃ m₃ E' z₃ - e1 e2 S₃
      have am₃ := am.ext ((S.froz (.head _)).trans e1)
      unfold TurnA
      repeat' walk1
      exact tEnd (by assumption) (.head _) e2 rfl
    · intro D h' tk' ys nn z f1 f2 f3 f4 f5
      have hy := pairVals (f := fun c => Value.bool (TCH.contains c)) (fun a y h => h) f5
      rw [List.filter_eq_self.mpr (fun _ _ => rfl)] at hy
      have S' := S.add f1 f3 f2
      clear S src
      repeat' walk1
      have hl := listAt f4 (S'.froz (.head _))
      obtain ⟨ys⟩ := ys
      dsimp only at hy
      rw [hy, show (b.toList.map fun c => Value.bool (TCH.contains c)) = (b.toList.map (TCH.contains ·)).map Value.bool from by rw [List.map_map]; rfl] at hl
      refine all_list (by exact am.hd) hl (by rw [sizeLine_eq]; simp; omega) fun h₂ tk₂ e₂ => ?_
      replace S' := S'.ext e₂
      dsimp only
      repeat' walk1
      · rename_i hall _ _ _ _ S'
        refine hQ _ _ _ (S'.froz (.tail _ (.head _))) (.inr ⟨⟨_, rfl⟩, ?_⟩)
        unfold tokB; rw [List.all_map] at hall; simp only [Bool.and_eq_true, decide_eq_true_eq]; exact ⟨by omega, hall⟩
      · rename_i hall
        refine hQ _ _ _ (S'.froz (.tail _ (.head _))) (.inl ⟨rfl, ?_⟩)
        unfold tokB; rw [List.all_map] at hall; simp only [Bool.and_eq_false_iff]; exact .inr hall
  · rename_i hneg
    dsimp only
    repeat' walk1
    refine hQ _ _ _ (S.froz (.head _)) (.inl ⟨rfl, ?_⟩)
    unfold tokB; simp only [Bool.and_eq_false_iff, decide_eq_false_iff_not]; exact .inl (by omega)

noncomputable def DIG : Array UInt8 := #[48, 49, 50, 51, 52, 53, 54, 55, 56, 57]
noncomputable def digB (b : Array UInt8) : Bool := decide (0 < b.size) && b.toList.all (DIG.contains ·)
theorem digits_ok {prog : Program} {w : World} {A : Around} {fr : List Env} {s : Shared} {b : Array UInt8} {tk : Tok} {Q E : Value → Shared → Prop} (am : Amb w A 2 20 fr s.heap) (hb : b.size ≤ 1000)
  (hQ : ∀ h' tk' v, Ext s.heap h' → (v = .none ∧ digB b = false ∨ (∃ d, v = .ref d) ∧ digB b = true) → Q v {s with heap := h', toks := tk'}) : wpAny (model prog w) A (call (.ref 51) [.bytes b tk]) Q E s := by
  refine wpAny_call ?_
  refine enter (binds := [(Str.ofString "data", .bytes b tk)]) am (by k_is) (by k_is) (BindsTo.of_eq rfl) (locs rfl) fun L h₁ hL S => ?_
  dsimp only
  repeat' walk1
  · rename_i hpos
    dsimp only
    refine src_bytes (by exact am.hd) (by rw [sizeLine_eq]; omega) fun I s₂ src => ?_
    refine ask_bytes src (fun _ => true) (fun c y => y = .bool (DIG.contains c)) ?_ ?_
    · rintro C c u s₃ m₃ E' z₃ - e1 e2 S₃
      have am₃ := am.ext ((S.froz (.head _)).trans e1)
      unfold TurnA
      repeat' walk1
      exact tEnd (by assumption) (.head _) e2 rfl
    · intro D h' tk' ys nn z f1 f2 f3 f4 f5
      have hy := pairVals (f := fun c => Value.bool (DIG.contains c)) (fun a y h => h) f5
      rw [List.filter_eq_self.mpr (fun _ _ => rfl)] at hy
      have S' := S.add f1 f3 f2
      clear S src
      repeat' walk1
      have hl := listAt f4 (S'.froz (.head _))
      obtain ⟨ys⟩ := ys
      dsimp only at hy
      rw [hy, show (b.toList.map fun c => Value.bool (DIG.contains c)) = (b.toList.map (DIG.contains ·)).map Value.bool from by rw [List.map_map]; rfl] at hl
      refine all_list (by exact am.hd) hl (by rw [sizeLine_eq]; simp; omega) fun h₂ tk₂ e₂ => ?_
      replace S' := S'.ext e₂
      dsimp only
      repeat' walk1
      · rename_i hall _ _ _ _ S'
        refine hQ _ _ _ (S'.froz (.tail _ (.head _))) (.inr ⟨⟨_, rfl⟩, ?_⟩)
        unfold digB; rw [List.all_map] at hall; simp only [Bool.and_eq_true, decide_eq_true_eq]; exact ⟨by omega, hall⟩
      · rename_i hall
        refine hQ _ _ _ (S'.froz (.tail _ (.head _))) (.inl ⟨rfl, ?_⟩)
        unfold digB; rw [List.all_map] at hall; simp only [Bool.and_eq_false_iff]; exact .inr hall
  · rename_i hneg
    dsimp only
    repeat' walk1
    refine hQ _ _ _ (S.froz (.head _)) (.inl ⟨rfl, ?_⟩)
    unfold digB; simp only [Bool.and_eq_false_iff, decide_eq_false_iff_not]; exact .inl (by omega)

theorem field_name_ok {prog : Program} {w : World} {A : Around} {fr : List Env} {s : Shared} {b : Array UInt8} {tk : Tok} {Q E : Value → Shared → Prop} (am : Amb w A 3 30 fr s.heap) (hb : b.size ≤ 1000)
  (hQ : ∀ h' tk' v, Ext s.heap h' → (v = .none ∧ tokB b = false ∨ (∃ d, v = .ref d) ∧ tokB b = true) → Q v {s with heap := h', toks := tk'}) : wpAny (model prog w) A (call (.ref 33) [.bytes b tk]) Q E s := by
  refine wpAny_call ?_
  refine enter (binds := [(Str.ofString "data", .bytes b tk)]) am (by k_is) (by k_is) (BindsTo.of_eq rfl) (locs rfl) fun L h₁ hL S => ?_
  dsimp only
  repeat' walk1
  refine token_ok (by exact am.sub S (.head _)) hb fun h' tk' v e hv => ?_
  dsimp only
  repeat' walk1
  exact hQ _ _ _ ((S.froz (.head _)).trans e) hv
end
-- part U1
theorem start_U1 : True := by
  w_top off
  trivial
section
noncomputable def NT : List UInt8 := [0, 10, 11, 12, 13]
noncomputable def OW : Array UInt8 := #[32, 9]
noncomputable def fcB (b : Array UInt8) : Bool := decide (0 < b.size) && (!(NT.any fun c => b.contains c)) && (!(OW.contains (b.getD 0 0))) && (!(OW.contains (b.getD (b.size - 1) 0)))
theorem fc_ok {prog : Program} {w : World} {A : Around} {fr : List Env} {s : Shared} {b : Array UInt8} {tk : Tok} {Q E : Value → Shared → Prop} (am : Amb w A 2 30 fr s.heap) (hb : b.size ≤ 1000)
  (hQ : ∀ h' tk', Ext s.heap h' → Q (.bool (fcB b)) {s with heap := h', toks := tk'}) : wpAny (model prog w) A (call (.ref 39) [.bytes b tk]) Q E s := by
  refine wpAny_call ?_
  refine enterC (binds := [(Str.ofString "data", .bytes b tk)]) am (by k_is) (by k_is) (BindsTo.of_eq rfl) rfl (by decide) fun L h₁ tk₁ cells hL hC S => ?_
  obtain ⟨o1, rfl, hc1⟩ := CellsAre.one hC
  replace hc1 : o1.data = .cell (some (.bytes b tk)) := hc1
  replace S : St [s.heap] L (fun _ => none) [(L+1, o1)] h₁ := S
  clear hC
  dsimp only
  repeat' walk1
  · rename_i hpos
    dsimp only
    have T34 := kAt am S (.head _) 34 _ (by k_is)
    have hP : Paired (fun c v => ∃ t, v = Value.int (c.toNat : Int) t) NT [.int 0 215, .int 10 216, .int 11 217, .int 12 218, .int 13 219] := .cons ⟨_, rfl⟩ (.cons ⟨_, rfl⟩ (.cons ⟨_, rfl⟩ (.cons ⟨_, rfl⟩ (.cons ⟨_, rfl⟩ .nil))))
    refine src_tuple (by exact am.hd) ⟨_, T34, rfl, 0, rfl⟩ (by size_fits) fun I s₂ src => ?_
    refine ask_items NT (fun c v => ∃ t, v = .int (c.toNat : Int) t) hP src (fun _ => true) (fun _ c y => y = .bool (b.contains c)) (fun _ _ _ _ _ h => h) ?_ ?_
    · rintro C c v s₃ m₃ E' z₃ - ⟨t, rfl⟩ e1 e2 S₃
      have am₃ := am.ext ((S.froz (.head _)).trans e1)
      have hcl : z₃.get? (L + 1) = some o1 := e1 _ _ (S.mine _ (.head _))
      unfold TurnA
      repeat' walk1
      exact tEnd (by assumption) (.head _) e2 rfl
    · intro D h' tk' ys nn z f1 f2 f3 f4 f5
      have hy := pairVals (f := fun c => Value.bool (b.contains c)) (fun a y h => h) f5
      rw [List.filter_eq_self.mpr (fun _ _ => rfl)] at hy
      have S' := S.add f1 f3 f2
      clear S src
      repeat' walk1
      have hl := listAt f4 (S'.froz (.head _))
      obtain ⟨ys⟩ := ys
      dsimp only at hy
      rw [hy, show (NT.map fun c => Value.bool (b.contains c)) = (NT.map (b.contains ·)).map Value.bool from by rw [List.map_map]; rfl] at hl
      refine any_list (by exact am.hd) hl (by rw [sizeLine_eq, List.length_map]; decide) fun h₂ tk₂ e₂ => ?_
      replace S' := S'.ext e₂
      dsimp only
      repeat' walk1
      all_goals have hp : 0 < b.size := by omega
      all_goals have hA : (NT.map fun x => b.contains x).any id = NT.any fun c => b.contains c := by rw [List.any_map]; rfl
      · rename_i ha
        have e : (!(NT.map fun x => b.contains x).any id) = fcB b := by
          rw [hA] at ha ⊢; simp only [fcB, hp, decide_true, ha, Bool.not_true, Bool.and_false, Bool.false_and, Bool.and_self]
        rw [e]
        exact hQ _ _ (S'.froz (.tail _ (.head _)))
      · rename_i ha _ _ hb0
        have e : (!#[32, 9].contains (b.getD (Int.toNat 0) 0)) = fcB b := by
          rw [hA] at ha
          show (!OW.contains (b.getD 0 0)) = fcB b
          replace hb0 : OW.contains (b.getD 0 0) = true := hb0
          simp only [fcB, hp, decide_true, ha, hb0, Bool.not_true, Bool.not_false, Bool.and_false, Bool.false_and, Bool.true_and, Bool.and_true]
        rw [e]
        exact hQ _ _ (S'.froz (.tail _ (.head _)))
      · rename_i ha _ _ hb0 _ _
        have e : (!#[32, 9].contains (b.getD (-1 + (b.size : Int)).toNat 0)) = fcB b := by
          rw [hA] at ha
          rw [toNat_pred hp]
          replace hb0 : OW.contains (b.getD 0 0) = false := hb0
          show (!OW.contains (b.getD (b.size - 1) 0)) = fcB b
          simp only [fcB, hp, decide_true, ha, hb0, Bool.not_true, Bool.not_false, Bool.and_false, Bool.false_and, Bool.true_and, Bool.and_true]
        rw [e]
        exact hQ _ _ (S'.froz (.tail _ (.head _)))
  · rename_i hneg
    have e : decide (0 < (b.size : Int)) = fcB b := by simp only [fcB, Bool.and_assoc]; rw [decide_eq_false (by omega), decide_eq_false (by omega)]; rfl
    rw [e]
    exact hQ _ _ (S.froz (.head _))
noncomputable def fvB (b : Array UInt8) : Bool := decide (b.size = 0) || fcB b
theorem field_value_ok {prog : Program} {w : World} {A : Around} {fr : List Env} {s : Shared} {b : Array UInt8} {tk : Tok} {Q E : Value → Shared → Prop} (am : Amb w A 3 40 fr s.heap) (hb : b.size ≤ 1000)
  (hQ : ∀ h' tk' v, Ext s.heap h' → (v = .none ∧ fvB b = false ∨ (∃ d, v = .ref d) ∧ fvB b = true) → Q v {s with heap := h', toks := tk'}) : wpAny (model prog w) A (call (.ref 46) [.bytes b tk]) Q E s := by
  refine wpAny_call ?_
  refine enter (binds := [(Str.ofString "data", .bytes b tk)]) am (by k_is) (by k_is) (BindsTo.of_eq rfl) (locs rfl) fun L h₁ hL S => ?_
  dsimp only
  repeat' walk1
  · rename_i h0 _ _ _ _ S'
    refine hQ _ _ _ (S'.froz (.head _)) (.inr ⟨⟨_, rfl⟩, ?_⟩)
    simp only [fvB, decide_eq_true (show b.size = 0 by omega), Bool.true_or]
  · rename_i hn
    have hn' : ¬ b.size = 0 := by omega
    refine fc_ok (by exact am.sub S (.head _)) hb fun h' tk' e => ?_
    replace S := S.ext e
    dsimp only
    repeat' walk1
    · rename_i h0 _ _ _ _ S'
      refine hQ _ _ _ (S'.froz (.head _)) (.inr ⟨⟨_, rfl⟩, ?_⟩)
      simp only [fvB, h0, Bool.or_true]
    · rename_i h0
      refine hQ _ _ _ (S.froz (.head _)) (.inl ⟨rfl, ?_⟩)
      simp only [fvB, h0, hn', decide_false, Bool.false_or]
end
-- part X1
theorem start_X1 : True := by
  w_top off
  trivial
section
open Builtin
open Sem (wp)
abbrev excO (C t : Addr) (dd : Option Addr) : Obj := { cls := .ref C, dict := dd, data := .fields #[.ref t, .none, .none, .none, .bool false, .none] }
abbrev lpeBm : List Value := [.ref 71, .type "Exception", .type "BaseException", .type "object"]
section
variable {prog : Program} {w : World} {A : Around} {E : Value → Shared → Prop} {h : Heap} {g : Array GenState} {d : Drawn} {t : Nat} {os : OsState} {R : Result → Shared → Prop}
theorem lpeObj (X : (Mine.hd.heap_1 w.params).In h) : ∃ k0 k1 k2 k3 k5, h.get? 91 = some (excClassObj "LocalProtocolError" "LocalProtocolError" 91 90 [.ref 71] lpeBm true [] [] false none none k0 k1 k2 k3 k5 "Exception.__new__") := ⟨_, _, _, _, _, X 91 _ (by k_is)⟩
theorem excNew {rest : List Value} {kw : List (PySem.Str × Value)} (X : (Mine.hd.heap_1 w.params).In h) (hrest : rest.length ≤ sizeLine)
    (hq : R (.ok (.ret (.ref (h.objs.size + 1)))) ⟨(h.push { cls := .type "tuple", data := .seq rest.toArray }).push (excO 91 h.objs.size none), g, d, t, os⟩) :
    codeAny (model prog w) A (.call (.builtin "Exception.__new__") ⟨.ref 91 :: rest, kw⟩) R ⟨h, g, d, t, os⟩ := by
  obtain ⟨k0, k1, k2, k3, k5, hC⟩ := lpeObj X
  have Fn := PySem.F.excBase_Exception
  have hends := Fn.ends
  have hcB : (Value.ref 91 :: lpeBm).contains (.type "Exception") = true := by decide
  have hcA : (Value.ref 91 :: lpeBm).contains (.type "AttributeError") = false := by decide
  have hcN : (Value.ref 91 :: lpeBm).contains (.type "NameError") = false := by decide
  refine codeAny_call_builtin_code (Code.quiet_builtin _ Fn.quiet) ?_
  · have hstar := Fn.noStar
    simp only [checkBuiltinCall, Fn.newKind, Fn.newSplit, Fn.newRow]
    repeat (first | refine wpAny_loadPart_at hC ?_ | (refine wpAny_isSubtype_exc hC ?_; rw [hcB]) | refine wpAny_staticBase_exc hC ?_ | refine wpAny_madeBy_exc hC ?_ | simp only [bne_self_eq_false, Bool.false_eq_true, if_false] | wp_step)
    refine codeAny_builtinAt Fn.entry ?_
    unfold Builtin.«BaseException.__new__»
    refine _root_.PySem.wpAt_bind ?_
    show _root_.PySem.wpAt _ _ _ (stack >>= _) _ _ _
    refine _root_.PySem.wpAt_bind (_root_.PySem.wpAt_stack fun p below => _root_.PySem.wpAt_of_wpAny ?_)
    wp_walk
    refine _root_.PySem.wpAt_of_wpAny ?_
    rw [Fn.owner]
    repeat (first | with_reducible refine wpAny_madeHere_exc Fn.canon hC ?_ | with_reducible refine wpAny_loadPart_at hC ?_ | (with_reducible refine wpAny_isSubtype_exc hC ?_; first | rw [hcB] | rw [hcA] | rw [hcN]) | wp_step)
    show R _ _
    rw [Heap.size_push]
    exact hq

/-- the class's own call: a new object, its __init__, the object -/
theorem lpeCall {rest : List Value} {kw : List (PySem.Str × Value)} (X : (Mine.hd.heap_1 w.params).In h) (hrest : rest.length ≤ sizeLine)
    (hq : codeAny (model prog w) (A.under (.builtin "type.__call__" ⟨.ref 91 :: rest, kw⟩)) (.call (.ref 68) ⟨.ref (h.objs.size + 1) :: rest, kw⟩) (InitBack (h.objs.size + 1) R)
      ⟨(h.push { cls := .type "tuple", data := .seq rest.toArray }).push (excO 91 h.objs.size none), g, d, t, os⟩) :
    codeAny (model prog w) A (.call (.ref 91) ⟨rest, kw⟩) R ⟨h, g, d, t, os⟩ := by
  have hC := X 91 _ (by k_is)
  have call : Looks (model prog w) h (specialOf (.ref 91) "__call__") (some (.builtin "type.__call__")) := looks_specialIn X (by k_is)
  have typ : Looks (model prog w) h (isInstance (.ref 91) (.type "type")) true := looks_instIn X (by k_is)
  have made : Looks (model prog w) h (Bind.madeBy (.ref 91)) (some "Exception.__new__") := by
    intro A Q E s k q
    obtain ⟨h2, g2, d2, t2, os2⟩ := s
    obtain ⟨k0, k1, k2, k3, k5, hC⟩ := lpeObj (X.keeps k)
    exact wpAny_madeBy_exc hC q
  have self : Looks (model prog w) h (isSubtype (.ref 91) (.ref 91)) true := looks_mroIn X (by k_is)
  have hi : Looks (model prog w) h (typeLookup (.ref 91) "__init__") (some (.ref 68)) := looks_findIn X (by k_is)
  have hb : ∀ self, Looks (model prog w) h (bindSpecial (.ref 68) self) (.ref 68, [self]) := fun self => bind_fn X (f := 68) self (by k_is)
  refine codeAny_of_tree ?_
  show wpAny _ _ (callAny (.ref 91) _) _ _ _
  refine nd_load hC ?_
  show wpAny _ _ (callAny.viaDunder (.ref 91) _) _ _ _
  unfold callAny.viaDunder
  refine wpAny_bind (call.at ?_)
  dsimp only
  rw [tc_bind]
  refine wpAny_bind (wpAny_pure (wpAny_bind (wpAny_pure ?_)))
  refine wpAny_pure (a := PySem.Fin.again (.call (.builtin "type.__call__") ⟨.ref 91 :: rest, kw⟩)) (And.intro rfl ?_)
  refine codeAny_call_builtin_at (Code.quiet_builtin _ (by decide +kernel)) entry_typeCall (check_slot tc_kind tc_split typ (tc_args _ _ _) ?_)
  unfold Builtin.«type.__call__»
  have hm : Looks (model prog w) h (mroOf (.ref 91)) (.ref 91 :: lpeBm) := ((Looks.ld (part := none) hC).andThen .now).andThen .now
  repeat (first | simp only [List.isEmpty_cons, Bool.false_eq_true, if_false] | with_reducible refine wpAny_call ?_ | lk)
  refine excNew X hrest ?_
  have k : ∀ b o, h.get? b = some o → ((h.push { cls := .type "tuple", data := .seq rest.toArray }).push (excO 91 h.objs.size none)).get? b = some o := fun b o e => Heap.get?_push_of_some _ (Heap.get?_push_of_some _ e)
  have hx : ((h.push { cls := .type "tuple", data := .seq rest.toArray }).push (excO 91 h.objs.size none)).get? (h.objs.size + 1) = some (excO 91 h.objs.size none) := by heap_get
  have t1 : Looks (model prog w) ((h.push { cls := .type "tuple", data := .seq rest.toArray }).push (excO 91 h.objs.size none)) (typeOf (.ref (h.objs.size + 1))) (.ref 91) := (Looks.ld hx).andThen .now
  have s1 := self.keeps k
  have i1 := hi.keeps k
  have b1 := (hb (.ref (h.objs.size + 1))).keeps k
  unfold isInstance callSpecial? specialOf
  repeat (first | with_reducible refine wpAny_call ?_ | lk)
  refine codeAny_mono hq fun r s' z => ?_
  rcases r with e | (v | _ | _ | _) <;> first | exact z | exact z.elim | skip
  obtain ⟨rfl, z⟩ := z
  exact wpAny_pure (wpAny_pure z)
end
end
-- part X2
theorem start_X2 : True := by
  w_top off
  trivial
section
open Builtin
open Sem (wp)
theorem slot_wd_get : Slot "wrapper_descriptor" "__get__" "wrapper_descriptor.__get__" := .of (owner := "wrapper_descriptor") (n := "__get__") (by rw [typeLookup_type, builtinLookup_eq_fast]; kernel_rfl) (by decide +kernel) (by decide +kernel) (by decide +kernel)
    (by first | exact .inl (by decide +kernel) | exact .inr (by decide +kernel)) (by rw [isSubtype_type]; kernel_rfl)
theorem entry_wd_get : entryFor table "wrapper_descriptor.__get__" = some Builtin.«wrapper_descriptor.__get__» := entryFor_of_tree (by kernel_rfl)
theorem wd_args (a b c : Value) : argsOk "wrapper_descriptor.__get__" ⟨[a, b, c], []⟩ := by unfold argsOk; kernel_rfl
theorem type_exc_init : typeOf (.builtin "Exception.__init__") = pure (.type "wrapper_descriptor") := by show builtinType _ = _; rw [builtinType_eq_fast]; kernel_rfl
abbrev wrapO (e : Addr) : Obj := { cls := .type "method-wrapper", data := .fields #[.builtin "Exception.__init__", .ref e] }
section
variable {prog : Program} {w : World} {A : Around} {E : Value → Shared → Prop} {h : Heap} {g : Array GenState} {d : Drawn} {t : Nat} {os : OsState} {R : Result → Shared → Prop}
theorem sgaInit {so e : Addr} {tk : Tok} {Q : PySem.Fin → Shared → Prop} (X : (Mine.hd.heap_1 w.params).In h) (hso : h.get? so = some (ks_superObj 71 e 91)) {ox : Obj} (hx : h.get? e = some ox) (hcl : ox.cls = .ref 91) (hne : e ≠ 91)
    (hq : Q (.done (.ret (.ref h.objs.size))) ⟨h.push (wrapO e), g, d, t, os⟩) :
    wpAny (model prog w) A (Builtin.«super.__getattribute__» ⟨[.ref so, .str "__init__" tk], []⟩) Q E ⟨h, g, d, t, os⟩ := by
  have hlk := slot_wd_get.lookup
  have hty := type_exc_init
  have hno : Looks (model prog w) h (opaqueClassAbove (.ref 91)) none := looks_opaque X (by k_is)
  have hC := X 91 _ (by k_is)
  have hm : Looks (model prog w) h (mroOf (.ref 91)) (.ref 91 :: lpeBm) := ((Looks.ld (part := none) hC).andThen .now).andThen .now
  have hne' : (Value.ref e == Value.ref 91) = false := by simp [hne]
  have hdt : (ks_superObj 71 e 91).data = .fields #[.ref 71, .ref e, .ref 91] := rfl
  have f0 : (#[.ref 71, .ref e, .ref 91] : Array Value)[0]? = some (.ref 71) := rfl
  have f1 : (#[.ref 71, .ref e, .ref 91] : Array Value)[1]? = some (.ref e) := rfl
  have f2 : (#[.ref 71, .ref e, .ref 91] : Array Value)[2]? = some (.ref 91) := rfl
  have hl : ((Value.ref 91 :: lpeBm).dropWhile (· != .ref 71)).drop 1 = [.type "Exception", .type "BaseException", .type "object"] := by decide
  have hn : ((PySem.Str.ofString "__init__") == ("__class__" : PySem.Str)) = false := by decide
  have own : classOwn (.type "Exception") "__init__" = pure (some (.builtin "Exception.__init__")) := by kernel_rfl
  have hwT : (⟨h, g, d, t, os⟩ : Shared).TypeIs (.builtin "Exception.__init__") "wrapper_descriptor" := type_exc_init
  have ec : ".".intercalate ("Exception.__init__".cutAt '.').dropLast = "Exception" := by decide +kernel
  have sub : Looks (model prog w) h (isSubtype (.ref 91) (.type "Exception")) true := looks_mroIn X (by k_is)
  unfold Builtin.«super.__getattribute__»
  repeat (first
    | (with_reducible refine wpAny_field hso hdt f0 ?_) | (with_reducible refine wpAny_field hso hdt f1 ?_) | (with_reducible refine wpAny_field hso hdt f2 ?_)
    | (with_reducible refine ks_wpAny_notOpaque hno ?_)
    | (with_reducible refine Looks.at hm ?_; rw [hl])
    | (rw [List.forIn_cons, own])
    | (with_reducible refine wpAny_of_eq hty ?_) | (with_reducible refine wpAny_of_eq hlk ?_)
    | (with_reducible refine wpAny_call_entry slot_wd_get hwT entry_wd_get ?_ (wd_args _ _ _))
    | (with_reducible refine ⟨_, rfl, ?_⟩)
    | (simp only [hn, hne', Bool.or_false, Bool.false_eq_true, if_false])
    | wp_step
    | dsimp only)
  rw [ec, hcl]
  refine sub.here ?_
  repeat (first | with_reducible refine ⟨_, rfl, ?_⟩ | (refine wpAny_newObj_type ?_ (by size_fits)) | wp_step)
  all_goals exact hq
theorem gmInit {so e : Addr} {pl : Sem Bool} {Q : Value × List Value → Shared → Prop} (X : (Mine.hd.heap_1 w.params).In h) (hso : h.get? so = some (ks_superObj 71 e 91)) {ox : Obj} (hx : h.get? e = some ox) (hcl : ox.cls = .ref 91) (hne : e ≠ 91)
    (hq : Q (.ref h.objs.size, []) ⟨h.push (wrapO e), g, d, t + 1, os⟩) :
    wpAny (model prog w) A (getMethod (.ref so) "__init__" pl) Q E ⟨h, g, d, t, os⟩ := by
  have hlk := PySem.F.ks_slot_super_ga.lookup
  have hcan := PySem.F.ks_canon_super_ga
  have hT : ∀ t', (⟨h, g, d, t', os⟩ : Shared).TypeIs (.ref so) "super" := fun _ => ⟨_, hso, rfl⟩
  unfold getMethod
  refine wpAny_bind (wpAny_specialOf (hT _) hlk ?_)
  show wpAny _ _ (if (Manifest.canonical "super.__getattribute__" != "object.__getattribute__") = true then _ else _) _ _ _
  rw [if_pos hcan]
  unfold getAttr getAttrBy
  refine wpAny_bind (wpAny_bind (wpAny_mkText (wpAny_holding (wpAny_bind (wpAny_typeOf (hT _) (wpAny_bind (wpAny_of_eq hlk ?_)))))))
  show wpAny _ _ (getAttrByItsOwn (.ref so) (.str "__init__" t) (.type "super") (.builtin "super.__getattribute__") true false) _ _ _
  unfold getAttrByItsOwn hookBefore callGetattribute boundAndCalled
  refine wpAny_bind (wpAny_of_eq (show (if onTheHeap (.type "super") then typeLookup (.type "super") "__getattr__" else pure none) = pure none from rfl) ?_)
  refine wpAny_bind (wpAny_attempt (wpAny_holding ?_))
  show wpAny _ _ (bindSpecial (.builtin "super.__getattribute__") (.ref so) >>= _) _ _ _
  refine wpAny_bind (wpAny_of_eq (PySem.F.ks_slot_super_ga.bind _) ?_)
  refine wpAny_mono (Q := fun v s' => v = .ref h.objs.size ∧ s' = ⟨h.push (wrapO e), g, d, t + 1, os⟩) (E := fun _ _ => False)
    (wpAny_call_entry PySem.F.ks_slot_super_ga (hT _) PySem.F.ks_entry_super_ga (sgaInit X hso hx hcl hne ⟨_, rfl, rfl, rfl⟩) (PySem.F.ks_gaArgs_super _ _)) (fun v s' hv => ?_) fun _ _ z => z.elim
  obtain ⟨rfl, rfl⟩ := hv
  exact wpAny_pure (wpAny_pure hq)
theorem cwWrap {M : Model} {q e : Addr} {pos : Pos} {ex : Expr} {rest : List Expr} {env : Env} {s : Shared} {Q : Value → Shared → Prop}
    (hq : wpAny M A (spliced (backTo pos (starEach (ex :: rest) env))) (fun vs s₁ => s₁.heap.get? q = some (wrapO e) ∧ wpAny M A (call (.ref q) vs) Q E s₁) E s)
    (he : starEach (ex :: rest) env = (false, eval ex env) :: starEach rest env := by rfl) (hplain : (backTo pos (starEach rest env)).any (·.1) = false := by rfl) : wpAny M A (callWith pos (.ref q) [] (backTo pos (starEach (ex :: rest) env)) []) Q E s := by
  rw [he] at hq ⊢
  unfold callWith
  have hp : (backTo pos ((false, eval ex env) :: starEach rest env)).any (·.1) = false := by show (false || (backTo pos (starEach rest env)).any (·.1)) = false; rw [hplain]; rfl
  have h2 : wpAny M A (evalArgs (.ref q) true (backTo pos ((false, eval ex env) :: starEach rest env)) []) (fun x s₁ => s₁.heap.get? q = some (wrapO e) ∧ wpAny M A (call (.ref q) ([] ++ x.pos) x.kw) Q E s₁) E s := evalArgs_plain hq
  refine wpAny_bind (wpAny_holding (wpAny_mono h2 (fun x s₁ h₁ => wpAny_bind (wpAny_standAt ?_)) fun _ _ x => x))
  obtain ⟨ho, hcall⟩ := h₁
  simp only [hp, List.any_nil, Bool.or_false]
  refine wpAny_bind (m := keeperOf (.ref q)) ?_
  unfold keeperOf
  refine wpAny_bind (wpAny_load ho ?_)
  exact wpAny_pure (wpAny_bind (wpAny_mono hcall (fun r s₂ hr => wpAny_bind (wpAny_holding (wpAny_point (wpAny_pure hr)))) fun _ _ x => x))
theorem entry_exc_init : entryFor table "Exception.__init__" = some Builtin.«BaseException.__init__» := PySem.F.excBase_Exception.initEntry
theorem check_exc_init {M : Model} {Q : Unit → Shared → Prop} {e : Addr} {oe : Obj} {v : Value} (X : (Mine.hd.heap_1 w.params).In h) (he : h.get? e = some oe) (hcls : oe.cls = .ref 91) (hq : Q () ⟨h, g, d, t, os⟩) : wpAny M A (checkBoundCall "Exception.__init__" ⟨[.ref e, v], []⟩) Q E ⟨h, g, d, t, os⟩ := by
  have F := PySem.F.excBase_Exception
  have hshort := F.noStar
  obtain ⟨k0, k1, k2, k3, k5, hC⟩ := lpeObj X
  simp only [checkBoundCall, F.initKind, F.initRow]
  refine KFB.if_so (by decide) ?_
  unfold Bind.checkArgs
  repeat (first | (with_reducible refine wpAny_loadPart_at he ?_; rw [hcls]) | with_reducible refine wpAny_loadPart_at hC ?_ | wp_step)
  exact hq
theorem quiet_exc_init (args : Args) : (Code.builtin "Exception.__init__" args).quiet = true := plainId_quiet (by decide +kernel) args
theorem callWrap {q e t₀ : Addr} {v : Value} {s : Shared} {Q : Value → Shared → Prop} (X : (Mine.hd.heap_1 w.params).In s.heap) (ho : s.heap.get? q = some (wrapO e)) (he : s.heap.get? e = some (excO 91 t₀ none))
    (hq : ∀ h' t', (∀ b o, b ≠ e → s.heap.get? b = some o → h'.get? b = some o) → s.heap.get? t' = none → h'.get? e = some (excO 91 t' none) → Q .none { s with heap := h' }) :
    wpAny (model prog w) A (call (.ref q) [v]) Q E s := by
  refine wpAny_call (codeAny_of_tree ?_)
  show wpAny _ A.in1 (callAny (.ref q) ⟨[v], []⟩) _ _ s
  simp only [callAny]
  refine wpAny_bind (wpAny_load ho ?_)
  simp only [show (Value.type "method-wrapper" == Value.type "method" || Value.type "method-wrapper" == Value.type "builtin_function_or_method" || Value.type "method-wrapper" == Value.type "method-wrapper") = true by decide, if_true]
  refine KFB.if_so (by decide) ?_
  obtain ⟨h, g, d, t, os⟩ := s
  refine wpAny_bind (check_exc_init X he rfl ?_)
  refine wpAny_bind (wpAny_pure (wpAny_pure ?_))
  refine ⟨quiet_exc_init _, codeAny_builtin entry_exc_init ?_⟩
  rw [Around.under_plainId (by decide +kernel)]
  show wpAny _ _ ((newTuple [v] >>= fun tv => BaseException.bexcPut (.ref e) 0 tv) >>= fun _ => ret .none) _ _ _
  unfold newTuple BaseException.bexcPut
  refine wpAny_bind (wpAny_bind (wpAny_newObj_type ?_ (by size_fits)))
  have he' := Heap.get?_push_of_some ({ cls := .type "tuple", data := .seq [v].toArray } : Obj) he
  refine wpAny_bind (wpAny_field he' rfl (x := .ref t₀) rfl ?_)
  refine wpAny_bind (wpAny_setField_rec he' (by simp) fun h1 e1 s1 => ?_)
  refine wpAny_letGo (wpAny_pure ?_)
  refine hq h1 h.objs.size (fun b o hb eb => (s1.2 b hb).trans (Heap.get?_push_of_some _ eb)) (fresh_none (Nat.le_refl _)) ?_
  rw [e1]; rfl
end
end
-- part X3
theorem start_X3 : True := by
  w_top off
  trivial
section
open Builtin Builtin.ObjectAttr Builtin.Getset_descriptor
open Sem (wp)
theorem refuse_lpe (self : Value) : refuseLoop self "__setattr__" (.ref 91 :: lpeBm) = pure () := by
  rw [refuseLoop_ref, refuseLoop_ref]
  kernel_rfl
theorem lpeInst {h : Heap} {e t : Addr} (he : h.get? e = some (excO 91 t none)) : InstAt h e (excO 91 t none) 91 none := ⟨he, rfl, rfl, trivial⟩
theorem lpeInstD {h : Heap} {e t dx : Addr} {od : Obj} (he : h.get? e = some (excO 91 t (some dx))) (hd : h.get? dx = some od) : InstAt h e (excO 91 t (some dx)) 91 (some od) := ⟨he, rfl, rfl, hd⟩
section
variable {prog : Program} {w : World} {A : Around} {E : Value → Shared → Prop} {s : Shared} {R : Result → Shared → Prop}
theorem osaExc {e : Addr} {ox : Obj} {od : Option Obj} {name : PySem.Str} {tk : Tok} {v : Value} (X : (Mine.hd.heap_1 w.params).In s.heap) (I : InstAt s.heap e ox 91 od) (ht : takerIn (Mine.hd.heap_1 w.params) 91 name = some none)
    (h : ∀ b, wpAny (model prog w) A.in1 (storeInOwnDict (.ref e) (.ref 91) (.str name tk) name v b)
      (fun fin s' => match fin with | .done f => R (.ok f) s' | .again c' => c'.quiet = true ∧ codeAny (model prog w) A c' R s') (fun e s' => R (.error e) s') s) :
    codeAny (model prog w) A (.call (.builtin "object.__setattr__") ⟨[.ref e, .str name tk, v], []⟩) R s := by
  have SF := PySem.F.store_object
  have hC := X 91 _ (by k_is)
  have sub : Looks (model prog w) s.heap (isInstance (.ref e) (.type "object")) true := I.type.andThen (looks_mroIn X (by k_is))
  refine codeAny_call_builtin SF.slot.plain SF.entry (@check_slot (model prog w) _ _ s "object.__setattr__" "object" "__setattr__" (.ref e) [.str name tk, v] [] _ SF.kind SF.split sub (SF.args (.ref e) (.str name tk) v) ?_)
  obtain ⟨attr, ha, hr⟩ := Option.bind_eq_some_iff.mp ht
  have hm : Looks (model prog w) s.heap (mroOf (.ref 91)) (.ref 91 :: lpeBm) := ((Looks.ld (part := none) hC).andThen .now).andThen .now
  have L3 : Looks (model prog w) s.heap (storeTaker? attr) none := by
    cases attr with
    | none => cases hr; exact .now
    | some a =>
      obtain ⟨b, hb, hbb⟩ := Option.map_eq_some_iff.mp hr
      refine (looks_takesIn X hb).andThen ?_
      cases b with
      | true => cases hbb
      | false => exact .now
  rw [osa_eq, refuse_eq]
  refine wpAny_bind (wpAny_bind (I.type.here (wpAny_bind (hm.here ?_))))
  rw [refuse_lpe]
  refine wpAny_pure (wpAny_bind (I.type.here (wpAny_bind ((looks_findIn X ha).here (wpAny_bind (L3.here ?_))))))
  exact h _
theorem storeD {h : Heap} {g : Array GenState} {d : Drawn} {tt : Nat} {os : OsState} {dx : Addr} {od od' : Obj} {name : PySem.Str} {v : Value} {tk : Tok} {es : List DictEntry} {n : Nat} {Q : PySem.Fin → Shared → Prop} (D : h.get? dx = some od) (hl : (lookIn name od).isSome = true)
    (e : Obj.putName name (PyData.keyHash w.params name) (.str name tt) v od = od') (e' : od'.data = .dict es.toArray n) (hz : es.length ≤ 1000)
    (hq : ∀ h', Heap.SameBut dx h h' → h'.get? dx = some od' → Q (.done (.ret .none)) ⟨h', g, d, tt + 1, os⟩) : wpAny (model prog w) A (storeInDict dx (.str name tk) name v) Q E ⟨h, g, d, tt, os⟩ := by
  have hf : od'.isFreed = false := by obtain ⟨_, _, dd, _⟩ := od'; cases e'; rfl
  have D' : (h.update dx (Obj.putName name (PyData.keyHash w.params name) (.str name tt) v)).get? dx = some od' := by
    rw [← e]; exact Heap.get?_update_self _ D (by rw [e]; exact hf)
  unfold storeInDict newKeyGuard
  refine wpAny_bind (wpAny_pure (wpAny_bind ?_))
  unfold nsSet
  refine wpAny_bind (wpAny_bind (wpAny_askSetting (wpAny_pure (wpAny_bind (wpAny_mkText (wpAny_bind (wpAny_loadPart D ?_)))))))
  unfold lookIn at hl
  split at hl
  · rename_i es₀ n₀ q
    rw [q]
    dsimp only
    have c : (!es₀.any (·.key.isStr name) && es₀.any (·.refKey)) = false := by
      rw [← Array.any_toList, ← Array.any_toList]
      split at hl
      · rename_i en he
        rw [List.any_eq_true.mpr ⟨en, List.mem_of_find?_eq_some he, List.find?_some he⟩]; rfl
      · split at hl
        · cases hl
        · rename_i z; rw [Bool.not_eq_true] at z; rw [z, Bool.and_false]
    rw [aRefKeyMayBeTheName_at, c]
    refine wpAny_updatePart D ?_
    refine wpAny_bind (wpAny_lookBehind D' (by rw [e']; exact pastItsLine_dict (by rw [List.size_toArray, sizeLine_eq]; omega)) ?_)
    exact wpAny_pure (hq _ (Heap.SameBut.update ..) D')
  · cases hl
theorem setExc1 {e t : Addr} {name : PySem.Str} {v : Value} {od' : Obj} {es : List DictEntry} {n : Nat} {Q : Unit → Shared → Prop} (X : (Mine.hd.heap_1 w.params).In s.heap) (he : s.heap.get? e = some (excO 91 t none))
    (ht : takerIn (Mine.hd.heap_1 w.params) 91 name = some none) (ep : Obj.putName name (PyData.keyHash w.params name) (.str name (s.toks + 1)) v emptyDict = od') (e' : od'.data = .dict es.toArray n) (hz : es.length ≤ 1000)
    (h : ∀ h' dx k, (∀ b o, b ≠ e → s.heap.get? b = some o → h'.get? b = some o) → s.heap.get? dx = none → dx ≠ e → h'.get? dx = some od' → h'.get? e = some (excO 91 t (some dx)) → Q () { s with heap := h', toks := k }) :
    wpAny (model prog w) A (setAttr (.ref e) name v) Q E s := by
  refine set_plain X (lpeInst he) (by k_is) ?_
  refine osaExc (s := { s with toks := s.toks + 1 }) X (lpeInst he) ht fun b => ?_
  have hC := X 91 _ (by k_is)
  obtain ⟨hh, g, d, tt, os⟩ := s
  dsimp only at X he hC ⊢
  have up := fun b o (eb : hh.get? b = some o) => Heap.get?_push_of_some (h := hh) emptyDict eb
  have ne0 : hh.objs.size ≠ e := Nat.ne_of_gt (Heap.lt_size he)
  have he2 := Heap.get?_update_self (fun o : Obj => { o with dict := some hh.objs.size }) (up _ _ he) rfl
  have D : ((hh.push emptyDict).update e (fun o : Obj => { o with dict := some hh.objs.size })).get? hh.objs.size = some emptyDict := (Heap.get?_update_other _ _ (Ne.symm ne0)).trans (Heap.get?_push_size hh rfl)
  unfold storeInOwnDict ownDictForStores instanceDict dictMade
  refine wpAny_bind (wpAny_pure (wpAny_bind (wpAny_bind (wpAny_loadPart_at he (wpAny_bind ?_)))))
  unfold classData
  refine wpAny_bind (wpAny_load hC (wpAny_pure ?_))
  refine wpAny_bind (wpAny_alloc (wpAny_bind (wpAny_update (up _ _ he) (wpAny_pure ?_))))
  refine storeD D rfl ep e' hz fun h' sb eo => ?_
  refine h h' hh.objs.size _ (fun b o hb eb => (sb.2 b (Nat.ne_of_lt (Heap.lt_size eb))).trans ((Heap.get?_update_other _ _ (Ne.symm hb)).trans (up b o eb))) (fresh_none (Nat.le_refl _)) ne0 eo ((sb.2 e (Ne.symm ne0)).trans he2)
theorem setExc2 {e t dx : Addr} {name : PySem.Str} {v : Value} {od od' : Obj} {es : List DictEntry} {n : Nat} {Q : Unit → Shared → Prop} (X : (Mine.hd.heap_1 w.params).In s.heap) (he : s.heap.get? e = some (excO 91 t (some dx))) (hdx : s.heap.get? dx = some od)
    (ht : takerIn (Mine.hd.heap_1 w.params) 91 name = some none) (hl : (lookIn name od).isSome = true) (ep : Obj.putName name (PyData.keyHash w.params name) (.str name (s.toks + 1)) v od = od') (e' : od'.data = .dict es.toArray n) (hz : es.length ≤ 1000)
    (h : ∀ h' k, Heap.SameBut dx s.heap h' → h'.get? dx = some od' → Q () { s with heap := h', toks := k }) :
    wpAny (model prog w) A (setAttr (.ref e) name v) Q E s := by
  refine set_plain X (lpeInstD he hdx) (by k_is) ?_
  refine osaExc (s := { s with toks := s.toks + 1 }) X (lpeInstD he hdx) ht fun b => ?_
  have hC := X 91 _ (by k_is)
  obtain ⟨hh, g, d, tt, os⟩ := s
  dsimp only at X he hC hdx ⊢
  unfold storeInOwnDict ownDictForStores instanceDict
  refine wpAny_bind (wpAny_pure (wpAny_bind (wpAny_bind (wpAny_loadPart_at he (wpAny_bind ?_)))))
  unfold classData
  refine wpAny_bind (wpAny_load hC (wpAny_pure ?_))
  refine wpAny_pure ?_
  exact storeD hdx hl ep e' hz fun h' sb eo => h h' _ sb eo
end
end
-- part X4
theorem start_X4 : True := by
  w_top off
  trivial
section
open Builtin Builtin.ObjectAttr Builtin.Getset_descriptor
open Sem (wp)
theorem Amb.underMake {w : World} {A : Around} {d u : Nat} {fr : List Env} {h : Heap} {C : Addr} {vals : List Value} {kw : List (PySem.Str × Value)} (x : Amb w A (d + 1) (u + 1) fr h) : Amb w (A.under (.builtin "type.__call__" ⟨.ref C :: vals, kw⟩)) d u fr h :=
  ⟨x.frames ▸ rfl, x.ff, x.k, x.t, x.hd, by have := x.dep; show A.depth + 1 + d < _; omega, by have := x.un; show A.units + 1 + u < _; omega⟩
theorem St.first {z h h₁ : Heap} {m : PySem.Str → Option Value} {e : Addr} {o : Obj} (hns : h₁.Ns h.objs.size m) (hk : Ext h h₁) (hz : Ext z h) (he : h.get? e = some o) (hn : z.get? e = none) : St [z] h.objs.size m [(e, o)] h₁ := by
  refine ⟨hns, fun p hp => by rw [List.mem_singleton.mp hp]; exact hk _ _ he, ?_, fun y hy => ?_⟩
  · simp only [List.map_cons, List.map_nil, List.nodup_cons, List.mem_cons, List.not_mem_nil, or_false, not_false_eq_true, List.nodup_nil, and_self, and_true]
    exact Ne.symm (Nat.ne_of_lt (Heap.lt_size he))
  · rw [List.mem_singleton.mp hy]
    refine ⟨hz.trans hk, fun a ha => ?_⟩
    simp only [List.map_cons, List.map_nil, List.mem_cons, List.not_mem_nil, or_false] at ha
    rcases ha with rfl | rfl
    · cases q : z.get? h.objs.size with
      | none => rfl
      | some o => exact absurd (Heap.lt_size (hz _ _ q)) (Nat.lt_irrefl _)
    · exact hn
section
variable {prog : Program} {w : World} {A : Around} {s : Shared} {fr : List Env} {R : Result → Shared → Prop}
theorem enterS {name qual : PySem.Str} {params : Arguments} {body : List Stmt} {scope : PySem.Scope} {dV kV doc pm cdv ct oc : Value} {an od : Option Addr} {osl : Array (Option Value)} {f cc : Addr} {args : Args} {binds : List (PySem.Str × Value)} {z : Heap} {e : Addr} {o : Obj} {d u : Nat}
    (am : Amb w A (d + 1) u fr z) (hz : Ext z s.heap) (he : s.heap.get? e = some o) (hn : z.get? e = none)
    (ho : (Mine.hd.heap_1 w.params).lookup f = some ⟨oc, od, .func (ksFn name qual params body scope dV kV doc pm an cdv ct cc), osl⟩) (hcd : codeIn (Mine.hd.heap_1 w.params) cdv qual = true)
    (hbind : BindsTo s (ksFn name qual params body scope dV kV doc pm an cdv ct cc) args binds) (hloc : ∀ y ∈ binds, scope.names.lookup y.1 = some .local)
    (h : ∀ L h₁, St [z] L (fun y => binds.reverse.lookup y) [(e, o)] h₁ →
      _root_.PySem.wpAt (model prog w) (A.deeper (ksEnv qual scope L f cdv cc)) (.func body (ksEnv qual scope L f cdv cc)) (execs body (ksEnv qual scope L f cdv cc))
        (fun fl s' => R (.ok (.ret (match fl with | .ret v => v | _ => .none))) s')
        (fun e s' => wpAny (model prog w) (A.deeper (ksEnv qual scope L f cdv cc)) (leaving (ksEnv qual scope L f cdv cc) e) (fun _ s'' => R (.error e) s'') (fun e' s'' => R (.error e') s'') s')
        { s with heap := h₁, toks := s.toks + binds.length })
    (hcell : ∀ x ∈ scope.names, x.2 ≠ .cell := by decide) (hco : scope.isCoroutine = false := by rfl) (hgen : scope.isGenerator = false := by rfl) (hk : scope.kind = .function := by rfl) : codeAny (model prog w) A (.call (.ref f) args) R s := by
  obtain ⟨_, _, _, _, _, T⟩ := am.t
  have X := am.k.keeps hz
  exact ks_codeAny_call_defAt (fd := ksFn name qual params body scope dV kV doc pm an cdv ct cc) (body := body) (binds := binds) (by have := am.dep; omega) (X _ _ ho) rfl (T.nolimit.keeps hz) (codeRec_of X hcd) rfl hbind hcell hloc (fun h₁ hns hk₁ => h _ h₁ (St.first hns hk₁ hz he hn)) hco hgen hk
structure ProgOk (prog : Program) : Prop where
  file : ((prog.main.file : PySem.Str) == PySem.Str.ofString "/claim/cut.py") = true
  top : (prog.main.scope.names.lookup ("super" : PySem.Str)).isSome = false
abbrev hintBinds (e : Addr) (msg : Value) (hint : Int) (th : Tok) : List (PySem.Str × Value) := [(PySem.Str.ofString "self", .ref e), (PySem.Str.ofString "msg", msg), (PySem.Str.ofString "error_status_hint", .int hint th)]
abbrev excEnts (w : World) (k1 k2 : Tok) (msg hint : Value) : List DictEntry := [⟨PyData.keyHash w.params "msg", .str "msg" k1, msg⟩, ⟨PyData.keyHash w.params "error_status_hint", .str "error_status_hint" k2, hint⟩]
abbrev excDict (w : World) (k1 k2 : Tok) (msg hint : Value) : Obj := { cls := .type "dict", data := .dict (excEnts w k1 k2 msg hint).toArray 2 }
theorem lpeInit {e t₀ : Addr} {msg : Value} {hint : Int} {th : Tok} {args : Args} {z : Heap} (am : Amb w A 3 30 fr z) (hz : Ext z s.heap) (he : s.heap.get? e = some (excO 91 t₀ none)) (hn : z.get? e = none) (po : ProgOk prog)
    (hbind : ∀ {fd : FuncData}, (Mine.hd.heap_1 w.params).lookup 68 = some { cls := .type "function", data := .func fd } → BindsTo s fd args (hintBinds e msg hint th))
    (hR : ∀ h' k t' dx k1 k2, Ext z h' → h'.get? e = some (excO 91 t' (some dx)) → z.get? dx = none → dx ≠ e → h'.get? dx = some (excDict w k1 k2 msg (.int hint th)) → R (.ok (.ret .none)) { s with heap := h', toks := k }) :
    codeAny (model prog w) A (.call (.ref 68) args) R s := by
  refine enterS am hz he hn (by k_is) (by k_is) (hbind (by k_is)) (by exact locs rfl) fun L h₁ S => ?_
  have he1 := S.mine _ (.head _)
  have X := kAt am S (.head _)
  refine ks_wpAt_execs_cons (_root_.PySem.wpAt_of_wpAny ?_)
  repeat' walk1
  refine isi_call (t := .ref 91) X (fun M => (lpeInst he1).type) (by k_is) (by intro e; cases e) ?_
  walk1
  walk1
  walk1
  walk1
  walk1
  have X68 := X 68 _ (by k_is)
  have X67 := X 67 _ (by k_is)
  have X71 := X 71 _ (by k_is)
  have hne : e ≠ 91 := fun q => by
    have := hz _ _ (am.k 91 _ (by k_is)); rw [← q, he] at this; cases this
  refine ks_wpAt_execs_cons ?_
  refine ks_wpAt_Expr_any ?_
  refine ks_wpAt_MethodCall ?_
  refine ks_wpAt_super_base (fd := _) rfl rfl (by decide) rfl X68 rfl rfl rfl X67 rfl rfl po.file po.top ?_
  obtain ⟨_, _, _, mg, mb, T⟩ := (am.ext (S.froz (.head _))).t
  refine ks_loadName_global rfl rfl (loadGlobal_builtin T.g (mg_none_of X T.g (by k_is)) T.b ((T.builtins _ (by decide +kernel)).trans (by first | boot_by_name | rfl | kernel_rfl)) ⟨rfl, ?_⟩)
  refine wpAny_loadName_free rfl rfl rfl ⟨_, X 55 _ (by k_is), rfl⟩ ?_
  refine wpAny_loadName_local rfl rfl S.ns rfl ?_
  refine ks_wpAny_isType_cls X71 rfl ⟨rfl, ?_⟩
  refine ks_wpAny_call_super X71 rfl he1 rfl (by intro c q; cases q) (looks_mroIn X (by k_is)) (fun h2 eso k => ?_)
  have S2 := S.ext k
  refine gmInit (kAt am S2 (.head _)) eso (S2.mine _ (.head _)) rfl hne ?_
  have S3 := S2.ext (Ext.push (wrapO e))
  clear S S2
  refine cwWrap (e := e) ?_
  repeat' walk1
  · exact Heap.get?_push_size _ rfl
  · refine callWrap (kAt am S3 (.head _)) (Heap.get?_push_size _ rfl) (S3.mine _ (.head _)) fun h4 t' k4 _ e4 => ?_
    have S4 := S3.updE k4 e4
    clear S3
    refine _root_.PySem.wpAt_of_wpAny ?_
    dsimp only
    repeat' walk1
    refine setExc1 (es := [⟨PyData.keyHash w.params "msg", .str "msg" _, msg⟩]) (kAt am S4 (.head _)) e4 (by k_is) rfl rfl (by simp) fun h5 dx k5 x1 x2 x3 x4 x5 => ?_
    have S5 := S4.updE x1 x5
    have zdx : z.get? dx = none := by
      cases q : z.get? dx with
      | none => rfl
      | some o => have := S4.froz (.head _) _ _ q; rw [x2] at this; cases this
    dsimp only
    repeat' walk1
    refine setExc2 (es := excEnts w _ _ msg (.int hint th)) (kAt am S5 (.head _)) x5 x4 (by k_is) rfl rfl rfl (by simp) fun h6 k6 y1 y2 => ?_
    have y3 : ∀ b o, b ≠ e → h4.get? b = some o → h6.get? b = some o := fun b o hb eb => (y1.2 b (fun q => by rw [q, x2] at eb; cases eb)).trans (x1 b o hb eb)
    have S6 := S4.updE y3 ((y1.2 e (Ne.symm x3)).trans x5)
    dsimp only
    repeat' walk1
    exact hR h6 k6 t' dx _ _ (S6.froz (.head _)) (S6.mine _ (.head _)) zdx x3 y2

theorem lpeMake {msg : Value} {hint : Int} {th : Tok} {kw : List (PySem.Str × Value)} (am : Amb w A 4 31 fr s.heap) (po : ProgOk prog) (hkw : (kw = [] ∧ hint = 400 ∧ th = 254) ∨ kw = [(PySem.Str.ofString "error_status_hint", .int hint th)])
    (hR : ∀ h' k e t' dx k1 k2, Ext s.heap h' → s.heap.get? e = none → h'.get? e = some (excO 91 t' (some dx)) → s.heap.get? dx = none → dx ≠ e → h'.get? dx = some (excDict w k1 k2 msg (.int hint th)) → R (.ok (.ret (.ref e))) { s with heap := h', toks := k }) :
    codeAny (model prog w) A (.call (.ref 91) ⟨[msg], kw⟩) R s := by
  obtain ⟨h, g, d, t, os⟩ := s
  refine lpeCall am.k (by size_fits) ?_
  have up : Ext h ((h.push { cls := .type "tuple", data := .seq [msg].toArray }).push (excO 91 h.objs.size none)) := fun b o e => Heap.get?_push_of_some _ (Heap.get?_push_of_some _ e)
  refine lpeInit (hint := hint) (th := th) (msg := msg) (e := h.objs.size + 1) am.underMake up (by heap_get) (fresh_none (Nat.le_succ _)) po (fun {fd} hfd => ?_) fun h' k t' dx k1 k2 x1 x2 x3 x4 x5 => ?_
  · have q : ∃ fd', (Mine.hd.heap_1 w.params).lookup 68 = some { cls := .type "function", data := .func fd' } ∧ ∀ s' : Shared, (Mine.hd.heap_1 w.params).In s'.heap → BindsTo s' fd' ⟨.ref (h.objs.size + 1) :: [msg], kw⟩ (hintBinds (h.objs.size + 1) msg hint th) := by
      refine ⟨_, by k_is, fun s' X' => ?_⟩
      rcases hkw with ⟨rfl, rfl, rfl⟩ | rfl
      · exact binds_K X' rfl (T := 60) (by k_is) rfl rfl rfl
      · first | exact BindsTo.of_eq rfl | exact binds_K X' rfl (T := 60) (by k_is) rfl rfl rfl
    obtain ⟨fd', q1, q2⟩ := q
    rw [q1] at hfd
    cases hfd
    exact q2 _ (am.k.keeps up)
  · exact ⟨rfl, hR h' k _ t' dx k1 k2 x1 (fresh_none (Nat.le_succ _)) x2 x3 x4 x5⟩
end
end
-- part X5
theorem start_X5 : True := by
  w_top off
  trivial
section
open Builtin Builtin.ObjectAttr Builtin.Getset_descriptor
open Sem (wp)

/-- the addresses of the frames' locals -/
abbrev fsOf (fr : List Env) : List Addr := fr.filterMap (·.frame)

/-- all stands, but the frames' slots -/
structure ExtF (fr : List Env) (h h' : Heap) : Prop where
  same : ∀ b o, h.get? b = some o → b ∉ fsOf fr → h'.get? b = some o
  slots : ∀ b o, h.get? b = some o → ∃ sl, h'.get? b = some { o with slots := sl }
theorem ExtF.of {fr : List Env} {h h' : Heap} (e : Ext h h') : ExtF fr h h' := ⟨fun b o q _ => e b o q, fun b o q => ⟨o.slots, e b o q⟩⟩
theorem ExtF.trans {fr : List Env} {a b c : Heap} (x : ExtF fr a b) (y : ExtF fr b c) : ExtF fr a c :=
  ⟨fun d o e n => y.same d o (x.same d o e n) n, fun d o e => by obtain ⟨s1, e1⟩ := x.slots d o e; obtain ⟨s2, e2⟩ := y.slots d _ e1; exact ⟨s2, e2⟩⟩
theorem ExtF.ns {fr : List Env} {h h' : Heap} {L : Addr} {m : PySem.Str → Option Value} (x : ExtF fr h h') (n : h.Ns L m) : h'.Ns L m := by
  obtain ⟨o, es, ep, ho, hd, r⟩ := n
  obtain ⟨sl, hs⟩ := x.slots _ _ ho
  exact ⟨_, es, ep, hs, hd, r⟩
theorem ExtF.ff {fr l : List Env} {h h' : Heap} (x : ExtF fr h h') (n : h.FunFrames {} l) : h'.FunFrames {} l := n.of_keeps fun b o hb _ => by
  obtain ⟨sl, q⟩ := x.slots b o hb; exact ⟨_, q, rfl⟩

/-- the exception's objects -/
noncomputable def ExcO (w : World) (hint : Int) (e : Addr) (hd : Option Value) (h0 h : Heap) : Prop := ∃ t dx vs k1 k2 msg th, h.get? e = some { cls := .ref 91, dict := some dx, data := .fields vs } ∧ vs[0]? = some (.ref t) ∧ h0.get? dx = none ∧ dx ≠ e ∧
  h.get? dx = some (excDict w k1 k2 msg (.int hint th)) ∧ (match hd with | none => vs[1]? = some .none | some fl => ∃ T oT ts, vs[1]? = some (.ref T) ∧ h0.get? T = none ∧ T ≠ e ∧ T ≠ dx ∧ h.get? T = some oT ∧ oT.data = .fields ts ∧ ts[3]? = some fl)
structure Exc (w : World) (fr : List Env) (hint : Int) (h : Heap) (e : Addr) (hd : Option Value) (h' : Heap) : Prop extends ExtF fr h h' where
  new : h.get? e = none
  ex : ExcO w hint e hd h h'
section
variable {M : Model} {A : Around} {E : Value → Shared → Prop} {s : Shared} {w : World}
theorem ff_some {base h : Heap} {l : List Env} (n : h.FunFrames base l) {b : Addr} (hb : b ∈ fsOf l) : ∃ o, h.get? b = some o := let ⟨_, o, ho, _⟩ := n.mem hb; ⟨o, ho⟩
theorem exc_entry {env : Env} {outer : List Env} {L e : Addr} {hint : Int} {h : Heap} {hd : Option Value} {head : Value} {had : Bool} {Q : Unit → Shared → Prop}
    (hfr : A.frames = some (env :: outer)) (ff : h.FunFrames {} (env :: outer)) (hf : env.frame = some L) (x : Exc w (env :: outer) hint h e hd s.heap)
    (hq : ∀ h', Exc w (env :: outer) hint h e (some (rawInt L)) h' → Q () { s with heap := h' }) :
    wpAny M A (do let a ← frameOf env; let pl ← entryPlaceOf L had; let b ← EntryCells.newEntry head a .none (rawInt L) .none pl; setField (.ref e) 1 b) Q E s := by
  obtain ⟨xf, hen, t, dx, vs, k1, k2, msg, th, he, h0, hdx, hde, hdd, r⟩ := x
  have hsz : 1 < vs.size := by
    cases hd with
    | none => exact (Array.getElem?_eq_some_iff.mp r).1
    | some fl => obtain ⟨T, oT, ts, r1, _⟩ := r; exact (Array.getElem?_eq_some_iff.mp r1).1
  have nin : ∀ b, h.get? b = none → b ∉ fsOf (env :: outer) := fun b hb hm => by
    obtain ⟨o, ho⟩ := ff_some ff hm
    rw [ho] at hb; cases hb
  refine wpAny_bind (wpAny_frameOf_fun hfr (xf.ff ff) hf fun h₁ hs₁ => ?_)
  refine wpAny_bind (wpAny_entryPlaceOf fun pl hpl => ?_)
  unfold EntryCells.newEntry newFields
  refine wpAny_bind (wpAny_newObj_type ?_ (hpl.sizeOk5 _ _ _ _ _))
  have he₁ : h₁.get? e = some _ := (hs₁.2.1 e (nin e hen)).trans he
  have hdd₁ : h₁.get? dx = some _ := (hs₁.2.1 dx (nin dx hdx)).trans hdd
  let oT : Obj := { cls := .type "traceback", dict := none, data := .fields ([head, .ref L, .none, rawInt L, .none] ++ (if pl.isEmpty then List.replicate 6 Value.none else pl)).toArray }
  have he₂ := Heap.get?_push_of_some (h := h₁) oT he₁
  have hTe : h₁.objs.size ≠ e := Nat.ne_of_gt (Heap.lt_size he₁)
  have hTd : h₁.objs.size ≠ dx := Nat.ne_of_gt (Heap.lt_size hdd₁)
  refine wpAny_setField he₂ rfl hsz (hq _ ⟨⟨fun b o hb hn => ?_, fun b o hb => ?_⟩, hen, t, dx, vs.setIfInBounds 1 (.ref h₁.objs.size), k1, k2, msg, th, ?_, ?_, hdx, hde, ?_, h₁.objs.size, oT, _, ?_, ?_, hTe, hTd, ?_, rfl, ?_⟩)
  · have hbe : b ≠ e := fun q => by rw [q, hen] at hb; cases hb
    rw [Heap.get?_update_other _ _ (Ne.symm hbe)]
    exact Heap.get?_push_of_some _ ((hs₁.2.1 b hn).trans (xf.same b o hb hn))
  · have hbe : b ≠ e := fun q => by rw [q, hen] at hb; cases hb
    obtain ⟨s1, e1⟩ := xf.slots b o hb
    obtain ⟨s2, e2⟩ := hs₁.2.2 b _ e1
    exact ⟨s2, by rw [Heap.get?_update_other _ _ (Ne.symm hbe)]; exact Heap.get?_push_of_some _ e2⟩
  · exact Heap.get?_update_self _ he₂ rfl
  · rw [Array.getElem?_setIfInBounds_ne (by decide)]; exact h0
  · rw [Heap.get?_update_other _ _ (Ne.symm hde)]; exact Heap.get?_push_of_some _ hdd₁
  · simp [hsz]
  · cases q : h.get? h₁.objs.size with
    | none => rfl
    | some o =>
      obtain ⟨s1, e1⟩ := xf.slots _ _ q
      obtain ⟨s2, e2⟩ := hs₁.2.2 _ _ e1
      exact absurd (Heap.lt_size e2) (Nat.lt_irrefl _)
  · rw [Heap.get?_update_other _ _ (Ne.symm hTe)]; exact Heap.get?_push_size _ rfl
  · first | (simp; done) | (rcases hpl with rfl | ⟨_, _, _, _, _, _, _, rfl⟩ <;> simp)
theorem exc_flight {fr : List Env} {e : Addr} {f : Option Addr} {hint : Int} {h : Heap} {fl : Value} {Q : Unit → Shared → Prop} (x : Exc w fr hint h e (some fl) s.heap)
    (hq : ∀ h', Exc w fr hint h e (some (f.elim .none fun f => rawInt f)) h' → Q () { s with heap := h' }) : wpAny M A (setFlight (.ref e) f) Q E s := by
  obtain ⟨xf, hen, t, dx, vs, k1, k2, msg, th, he, h0, hdx, hde, hdd, T, oT, ts, h1, hT, hTe, hTd, hTo, hts, h3⟩ := x
  have hsz3 : 3 < ts.size := (Array.getElem?_eq_some_iff.mp h3).1
  have other : ∀ b, b ≠ T → (s.heap.update T (Obj.mapFields (·.setIfInBounds 3 (f.elim Value.none fun f => rawInt f)))).get? b = s.heap.get? b := fun b hb => Heap.get?_update_other _ _ (Ne.symm hb)
  have nT : ∀ b o, h.get? b = some o → b ≠ T := fun b o hb q => by rw [q, hT] at hb; cases hb
  unfold setFlight
  refine wpAny_bind (wpAny_field he rfl h1 ?_)
  rw [if_pos (show (Value.ref T != Value.none) = true from by simp)]
  refine wpAny_setField hTo hts hsz3 (hq _ ⟨⟨fun b o hb hn => (other b (nT b o hb)).trans (xf.same b o hb hn), fun b o hb => ?_⟩, hen, t, dx, vs, k1, k2, msg, th, (other e (Ne.symm hTe)).trans he, h0, hdx, hde, (other dx (Ne.symm hTd)).trans hdd, T, _, _, h1, hT, hTe, hTd,
    Heap.get?_update_self _ hTo (Obj.isFreed_of_fields (Obj.data_mapFields hts _)), Obj.data_mapFields hts _, by simp [hsz3]⟩)
  obtain ⟨sl, q⟩ := xf.slots b o hb
  exact ⟨sl, (other b (nT b o hb)).trans q⟩
theorem exc_note {env : Env} {outer : List Env} {L e : Addr} {hint : Int} {h : Heap} {hd : Option Value} {Q : Unit → Shared → Prop}
    (hfr : A.frames = some (env :: outer)) (ff : h.FunFrames {} (env :: outer)) (hf : env.frame = some L) (x : Exc w (env :: outer) hint h e hd s.heap) (hhd : hd = none ∨ hd = some .none ∨ hd = some (rawInt L))
    (hq : ∀ h', Exc w (env :: outer) hint h e (some (rawInt L)) h' → Q () { s with heap := h' }) : wpAny M A (noteFrame (.ref e) env) Q E s := by
  have x' := x
  obtain ⟨xf, hen, t, dx, vs, k1, k2, msg, th, he, h0, hdx, hde, hdd, r⟩ := x'
  unfold noteFrame
  simp only [hf]
  rcases hhd with rfl | rfl | rfl
  · refine wpAny_bind (wpAny_field he rfl r ?_)
    rw [if_neg (by decide)]
    exact exc_entry hfr ff hf x hq
  · obtain ⟨T, oT, ts, h1, hT, hTe, hTd, hTo, hts, h3⟩ := r
    have hsz3 : 3 < ts.size := (Array.getElem?_eq_some_iff.mp h3).1
    refine wpAny_bind (wpAny_field he rfl h1 ?_)
    rw [if_pos (show (Value.ref T != Value.none) = true from by simp)]
    refine wpAny_bind (wpAny_field hTo hts h3 ?_)
    rw [if_neg (show ¬ ((Value.none == rawInt L) = true) from by simp [rawInt])]
    have other : ∀ b, b ≠ T → (s.heap.update T (Obj.mapFields (·.setIfInBounds 3 Value.none))).get? b = s.heap.get? b := fun b hb => Heap.get?_update_other _ _ (Ne.symm hb)
    have nT : ∀ b o, h.get? b = some o → b ≠ T := fun b o hb q => by rw [q, hT] at hb; cases hb
    refine wpAny_bind (wpAny_setField hTo hts hsz3 ?_)
    refine exc_entry (hd := some .none) hfr ff hf ⟨⟨fun b o hb hn => (other b (nT b o hb)).trans (xf.same b o hb hn), fun b o hb => ?_⟩, hen, t, dx, vs, k1, k2, msg, th, (other e (Ne.symm hTe)).trans he, h0, hdx, hde, (other dx (Ne.symm hTd)).trans hdd, T, _, _, h1, hT, hTe, hTd,
      Heap.get?_update_self _ hTo (Obj.isFreed_of_fields (Obj.data_mapFields hts _)), Obj.data_mapFields hts _, by simp [hsz3]⟩ fun h' x => hq h' x
    obtain ⟨sl, q⟩ := xf.slots b o hb
    exact ⟨sl, (other b (nT b o hb)).trans q⟩
  · obtain ⟨T, oT, ts, h1, hT, hTe, hTd, hTo, hts, h3⟩ := r
    refine wpAny_bind (wpAny_field he rfl h1 ?_)
    rw [if_pos (show (Value.ref T != Value.none) = true from by simp)]
    refine wpAny_bind (wpAny_field hTo hts h3 ?_)
    rw [if_pos (show (rawInt L == rawInt L) = true from by simp)]
    exact wpAny_pure (hq s.heap x)

/-- a frame left by the exception -/
theorem exc_leave {env : Env} {outer : List Env} {L e : Addr} {hint : Int} {h₀ h : Heap} {hd : Option Value} {Q : Unit → Shared → Prop}
    (hfr : A.frames = some (env :: outer)) (ff : h.FunFrames {} (env :: outer)) (hf : env.frame = some L) (x : Exc w (env :: outer) hint h e hd s.heap) (hhd : hd = none ∨ hd = some .none ∨ hd = some (rawInt L)) (hk : Ext h₀ h) (hL : h₀.get? L = none)
    (hq : ∀ h', Exc w outer hint h₀ e (some .none) h' → Q () { s with heap := h' }) : wpAny M A (leaving env (.ref e)) Q E s := by
  unfold leaving
  refine wpAny_bind (exc_note hfr ff hf x hhd fun h1 x1 => ?_)
  refine exc_flight (f := none) (s := { s with heap := h1 }) x1 fun h2 x2 => hq h2 ?_
  have low : ∀ b, h.get? b = none → h₀.get? b = none := fun b hb => by
    cases q : h₀.get? b with
    | none => rfl
    | some o => rw [hk b o q] at hb; cases hb
  obtain ⟨xf, hen, t, dx, vs, k1, k2, msg, th, he, h0, hdx, hde, hdd, T, oT, ts, h1, hT, r⟩ := x2
  refine ⟨⟨fun b o hb hn => xf.same b o (hk b o hb) ?_, fun b o hb => xf.slots b o (hk b o hb)⟩, low e hen, t, dx, vs, k1, k2, msg, th, he, h0, low dx hdx, hde, hdd, T, oT, ts, h1, low T hT, r⟩
  intro hm
  simp only [fsOf, List.filterMap_cons, hf, List.mem_cons] at hm
  rcases hm with rfl | hm
  · rw [hL] at hb; cases hb
  · exact hn hm
end
end
-- part T3
theorem start_T3 : True := by
  w_top off
  trivial
local macro_rules | `(tactic| walk_at "a") => `(tactic| refine foo (by k_is) ?_)
-- part X6
theorem start_X6 : True := by
  w_top off
  trivial
section
open Builtin Builtin.ObjectAttr Builtin.Getset_descriptor
open Sem (wp)
section
variable {prog : Program} {w : World} {M : Model} {A : Around} {E : Value → Shared → Prop} {s : Shared} {fr : List Env} {env : Env}

/-- what a call that raises owes -/
noncomputable def Raises (w : World) (fr : List Env) (s : Shared) (hint : Int) (E : Value → Shared → Prop) : Prop := ∀ e h' tk, Exc w fr hint s.heap e (some .none) h' → E (.ref e) { s with heap := h', toks := tk }
theorem Raises.via {w : World} {fr : List Env} {s : Shared} {hint : Int} {E E' : Value → Shared → Prop} (he : ∀ v s', E v s' → E' v s') (h : Raises w fr s hint E) : Raises w fr s hint E' := fun e h' tk x => he _ _ (h e h' tk x)
theorem raise_stmt {x : Sem Value} {Q : Flow → Shared → Prop} (hh : A.handled = none)
    (h : wpAny M A x (fun v s₁ => ∃ e t dd, v = .ref e ∧ (Mine.hd.heap_1 w.params).In s₁.heap ∧ s₁.heap.get? e = some (excO 91 t dd) ∧ E (.ref e) s₁) E s) : wpAny M A (raiseStmt env (some x) none) Q E s := by
  have hcB : (Value.ref 91 :: lpeBm).contains (.type "BaseException") = true := by decide
  unfold raiseStmt
  refine wpAny_bind (wpAny_mono h (fun v s₁ h₁ => ?_) fun _ _ x => x)
  obtain ⟨e, t, dd, rfl, X, he, hE⟩ := h₁
  obtain ⟨hp, g, d, tk, os⟩ := s₁
  obtain ⟨k0, k1, k2, k3, k5, hC⟩ := lpeObj X
  repeat (first | with_reducible refine wpAny_loadPart_at he ?_ | with_reducible refine wpAny_loadPart_at hC ?_ | (with_reducible refine wpAny_isSubtype_exc hC ?_; rw [hcB]) | wp_step)
  exact wpAny_raiseNew_none hh hE
theorem raise_lpe {ex : PySem.Expr} {pos : Pos} {Q : Flow → Shared → Prop} (hh : A.handled = none)
    (h : wpAny M A (eval ex env) (fun v s₁ => ∃ e t dd, v = .ref e ∧ (Mine.hd.heap_1 w.params).In s₁.heap ∧ s₁.heap.get? e = some (excO 91 t dd) ∧ E (.ref e) s₁) E s) : wpAny M A (exec (.Raise (some ex) none pos) env) Q E s := by
  rw [arm_exec_Raise]
  first
    | exact wpAny_bind (wpAny_standAt (raise_stmt hh (wpAny_bind (wpAny_mono h (fun v s₁ h₁ => wpAny_bind (wpAny_standAt (wpAny_pure h₁))) fun _ _ x => x))))
    | (simp only [evalOpt, Option.map]; exact wpAny_bind (wpAny_standAt (raise_stmt hh (wpAny_bind (wpAny_mono h (fun v s₁ h₁ => wpAny_bind (wpAny_standAt (wpAny_pure h₁))) fun _ _ x => x)))))
theorem raise_at {A₀ : Around} {d u : Nat} {h₀ : Heap} {ex : PySem.Expr} {pos : Pos} {Q : Flow → Shared → Prop} (am : Amb w A₀ d u fr h₀) (hh : A.handled = A₀.handled)
    (h : wpAny M A (eval ex env) (fun v s₁ => ∃ e t dd, v = .ref e ∧ (Mine.hd.heap_1 w.params).In s₁.heap ∧ s₁.heap.get? e = some (excO 91 t dd) ∧ E (.ref e) s₁) E s) : wpAny M A (exec (.Raise (some ex) none pos) env) Q E s := raise_lpe (hh.trans am.hd) h
theorem lpe_call {msg : Value} {hint : Int} {th : Tok} {kw : List (PySem.Str × Value)} {Q : Value → Shared → Prop} (am : Amb w A 4 31 fr s.heap) (po : ProgOk prog) (hkw : (kw = [] ∧ hint = 400 ∧ th = 254) ∨ kw = [(PySem.Str.ofString "error_status_hint", .int hint th)])
    (h : ∀ h' k e t' dx, Ext s.heap h' → h'.get? e = some (excO 91 t' (some dx)) → (∀ l, Exc w l hint s.heap e none h') → Q (.ref e) { s with heap := h', toks := k }) : wpAny (model prog w) A (call (.ref 91) [msg] kw) Q E s := by
  refine wpAny_call (lpeMake am po hkw fun h' k e t' dx k1 k2 x1 x2 x3 x4 x5 x6 => ?_)
  exact h h' k e t' dx x1 x3 fun l => ⟨ExtF.of x1, x2, t', dx, _, k1, k2, msg, th, x3, rfl, x4, x5, x6, rfl⟩
theorem exc_loop {outer : List Env} {L e : Addr} {hint : Int} {h : Heap} {hd : Option Value}
    (hfr : A.frames = some (env :: outer)) (ff : h.FunFrames {} (env :: outer)) (hf : env.frame = some L) (x : Exc w (env :: outer) hint h e hd s.heap) (hhd : hd = none ∨ hd = some .none ∨ hd = some (rawInt L))
    (hq : ∀ h', Exc w (env :: outer) hint h e (some (rawInt L)) h' → E (.ref e) { s with heap := h' }) : loopE prog w A env E (.ref e) s := by
  show wpAny _ A (noteFrame (.ref e) env) _ _ s
  refine exc_note hfr ff hf x hhd fun h1 x1 => ?_
  show wpAny _ A _ _ _ _
  have x1' := x1
  obtain ⟨xf, hen, t, dx, vs, k1, k2, msg, th, he, h0, hdx, hde, hdd, T, oT, ts, r1, r⟩ := x1'
  refine wpAny_bind (wpAny_field he rfl r1 ?_)
  rw [if_neg (show ¬ ((Value.ref T == Value.none) = true) from by simp)]
  rw [hf]
  exact exc_flight (f := some L) (s := { s with heap := h1 }) x1 fun h2 x2 => hq h2 x2
theorem St.ffr {zs : List Heap} {L : Addr} {m : PySem.Str → Option Value} {own : List (Addr × Obj)} {h h₀ : Heap} {d u : Nat} {A₀ : Around} (am : Amb w A₀ d u fr h₀) (S : St zs L m own h) (hz : h₀ ∈ zs) (hf : env.frame = some L) (hk : env.scope.kind = .function) : h.FunFrames {} (env :: fr) :=
  .cons (by rw [hk]; decide) hf S.ns (by simp [Heap.get?]) (am.ff.of_keeps fun b o hb _ => ⟨o, S.froz hz _ _ hb, rfl⟩)

/-- the callee's exception leaves the def -/
theorem exc_out {zs : List Heap} {L e : Addr} {m : PySem.Str → Option Value} {own : List (Addr × Obj)} {h : Heap} {s₀ : Shared} {d u : Nat} {hint : Int} {hd : Option Value} {E₀ : Value → Shared → Prop} {Q : Unit → Shared → Prop} (am : Amb w A d u fr s₀.heap) (S : St zs L m own h) (hz : s₀.heap ∈ zs) (hL : s₀.heap.objs.size ≤ L)
    (x : Exc w (env :: fr) hint h e hd s.heap) (hE : Raises w fr s₀ hint E₀) (hs : s = { s₀ with heap := s.heap, toks := s.toks }) (hQ : ∀ s', E₀ (.ref e) s' → Q () s') (hhd : hd = none ∨ hd = some .none ∨ hd = some (rawInt L)) (hf : env.frame = some L := by rfl) (hk : env.scope.kind = .function := by rfl) :
    wpAny M (A.deeper env) (leaving env (.ref e)) Q E s := by
  refine exc_leave (Around.frames_deeper am.frames) (St.ffr am S hz hf hk) hf x hhd (S.froz hz) (fresh_none hL) fun h' x' => hQ _ ?_
  rw [hs]
  exact hE e h' s.toks x'
structure Rx (prog : Program) (w : World) (rx : Addr) (good : Array UInt8 → Bool) : Prop where
  keep : keepIn (Mine.hd.heap_1 w.params) (.ref rx) = true
  run : ∀ {A fr s b tk Q E}, Amb w A 3 40 fr s.heap → b.size ≤ 1000 → (∀ h' tk' v, Ext s.heap h' → (v = .none ∧ good b = false ∨ (∃ d, v = .ref d) ∧ good b = true) → Q v { s with heap := h', toks := tk' }) → wpAny (model prog w) A (call (.ref rx) [.bytes b tk]) Q E s
theorem rx_name : Rx prog w 33 tokB := ⟨by k_is, fun am hb h => field_name_ok (am.less) hb h⟩
theorem rx_value : Rx prog w 46 fvB := ⟨by k_is, fun am hb h => field_value_ok (am.less) hb h⟩
theorem rx_digits : Rx prog w 51 digB := ⟨by k_is, fun am hb h => digits_ok (am.less) hb h⟩
end
end
local macro_rules | `(tactic| walk_at "exec Raise some none") => `(tactic| k_dflt (refine raise_at ‹_› (by rfl) ?_))
section
open Builtin Builtin.ObjectAttr Builtin.Getset_descriptor
open Sem (wp)
section
variable {prog : Program} {w : World} {M : Model} {A : Around} {E : Value → Shared → Prop} {s : Shared} {fr : List Env} {env : Env}
theorem validate_ok {rx : Addr} {good : Array UInt8 → Bool} {b : Array UInt8} {tk mt : Tok} {m : PySem.Str} {rest : List Value} {Q : Value → Shared → Prop} (R : Rx prog w rx good) (po : ProgOk prog) (am : Amb w A 6 60 fr s.heap) (hb : b.size ≤ 1000) (hrest : rest = [] ∨ ∃ v, rest = [v])
    (hQ : good b = true → ∀ h' tk' v, Ext s.heap h' → Q v { s with heap := h', toks := tk' }) (hE : good b = false → Raises w fr s 400 E) :
    wpAny (model prog w) A (call (.ref 113) (.ref rx :: .bytes b tk :: .str m mt :: rest)) Q E s := by
  have X := am.k
  rcases hrest with rfl | ⟨v, rfl⟩
  · refine wpAny_call ?_
    refine enter (binds := [(PySem.Str.ofString "regex", .ref rx), (PySem.Str.ofString "data", .bytes b tk), (PySem.Str.ofString "msg", .str m mt), (PySem.Str.ofString "format_arg", .none)]) am (by k_is) (by k_is) (binds_K X rfl (by k_is) rfl rfl rfl) (locs rfl) fun L h₁ hL S => ?_
    dsimp only
    have hk := R.keep
    repeat' walk1
    refine R.run (by exact am.sub S (.head _)) hb fun h' tk' v e hv => ?_
    replace S := S.ext e
    dsimp only
    rcases hv with ⟨rfl, hg⟩ | ⟨⟨d, rfl⟩, hg⟩
    · repeat' walk1
      have S' := ‹St _ _ _ _ _›
      refine lpe_call (by exact am.sub S' (.head _)) po (.inl ⟨rfl, rfl, rfl⟩) fun h2 k2 e t' dx e2 he x => ⟨e, t', some dx, rfl, (kAt am S' (.head _)).keeps e2, he, ?_⟩
      exact exc_out am S' (.head _) hL (x _) (hE hg) rfl (fun _ h => h) (.inl rfl)
    · repeat' walk1
      have S' := ‹St _ _ _ _ _›
      exact hQ hg _ _ _ (S'.froz (.head _))
  · refine wpAny_call ?_
    refine enter (binds := [(PySem.Str.ofString "regex", .ref rx), (PySem.Str.ofString "data", .bytes b tk), (PySem.Str.ofString "msg", .str m mt), (PySem.Str.ofString "format_arg", v)]) am (by k_is) (by k_is) (binds_K X rfl (by k_is) rfl rfl rfl) (locs rfl) fun L h₁ hL S => ?_
    dsimp only
    have hk := R.keep
    repeat' walk1
    refine R.run (by exact am.sub S (.head _)) hb fun h' tk' v2 e hv => ?_
    replace S := S.ext e
    dsimp only
    rcases hv with ⟨rfl, hg⟩ | ⟨⟨d, rfl⟩, hg⟩
    · repeat' walk1
      have S' := ‹St _ _ _ _ _›
      refine lpe_call (by exact am.sub S' (.head _)) po (.inl ⟨rfl, rfl, rfl⟩) fun h2 k2 e t' dx e2 he x => ⟨e, t', some dx, rfl, (kAt am S' (.head _)).keeps e2, he, ?_⟩
      exact exc_out am S' (.head _) hL (x _) (hE hg) rfl (fun _ h => h) (.inl rfl)
    · repeat' walk1
      have S' := ‹St _ _ _ _ _›
      exact hQ hg _ _ _ (S'.froz (.head _))
end
end
-- part U3
theorem start_U3 : True := by
  w_top off
  trivial
section
open Builtin Builtin.ObjectAttr Builtin.Getset_descriptor
open Sem (wp)
theorem foldl_sing (l : List Nat) (acc : Array UInt8) : l.foldl (fun acc y => acc ++ ([Nat.toUInt8 y] : List UInt8).toArray) acc = acc ++ (l.map Nat.toUInt8).toArray := by
  induction l generalizing acc with
  | nil => simp
  | cons a l ih => rw [List.foldl_cons, ih]; simp
theorem enc_loop {σ β : Type} {B : Nat → σ → Sem (ForInStep σ)} {i0 s1 : σ} {k : σ → Sem β} {n : Nat} (h1 : B 0 i0 = pure (.yield s1)) (h2 : ∀ j, B j s1 = pure (.done s1)) : (forIn ([:n + 1] : Std.Legacy.Range) i0 B >>= k) = k s1 := by
  rw [Std.Legacy.Range.forIn_eq_forIn_range', show ([:n + 1] : Std.Legacy.Range).size = n + 1 by simp [Std.Legacy.Range.size]]
  show (forIn (List.range' 0 (n + 1) 1) i0 B >>= k) = k s1
  rw [List.range'_succ, List.forIn_cons, h1, pure_bind]
  cases n with
  | zero => simp
  | succ n => simp only []; rw [List.range'_succ, List.forIn_cons, h2, pure_bind]; simp
theorem enc_none {σ β : Type} {B : Nat → σ → Sem (ForInStep σ)} {i0 : σ} {k : σ → Sem β} : (forIn ([:0] : Std.Legacy.Range) i0 B >>= k) = k i0 := by
  rw [Std.Legacy.Range.forIn_eq_forIn_range', show ([:0] : Std.Legacy.Range).size = 0 by simp [Std.Legacy.Range.size]]
  show (forIn (List.range' 0 0 1) i0 B >>= k) = k i0
  simp
theorem enc_yield {σ : Type} {a b : σ} (h : a = b) : (pure (.yield a) : Sem (ForInStep σ)) = pure (.yield b) := by rw [h]
theorem enc_ascii {x : PySem.Str} {id : String} {self : Value} (hx : ∀ c ∈ x.cps.toList, c < 128) (hz : x.cps.size ≤ 1000) : _codecs.encodeNarrow id _codecs.asciiCodec none self x = pure (x.cps.map fun c => c.toUInt8) := by
  obtain ⟨⟨l⟩⟩ := x
  simp only [List.size_toArray] at hx hz
  unfold _codecs.encodeNarrow
  cases l with
  | nil =>
    refine enc_none.trans (congrArg (pure (f := Sem)) (?_ : (#[] : Array UInt8) = _))
    simp
  | cons c l =>
    have hl : ∀ y ∈ c :: l, y < 128 := hx
    have hfi : Array.findIdx? _codecs.asciiCodec.bad (c :: l).toArray = none := by
      rw [Array.findIdx?_eq_none_iff]
      intro y hy
      rw [List.mem_toArray] at hy
      exact decide_eq_false (Nat.not_le.mpr (hl y hy))
    have hbad : (!_codecs.asciiCodec.bad c) = true := congrArg Bool.not (decide_eq_false (Nat.not_le.mpr (hl c (.head _))))
    have hext : (c :: l).toArray.extract 0 (l.length + 1) = (c :: l).toArray := Array.extract_size (xs := (c :: l).toArray)
    have hsz : ¬ (((c :: l).map Nat.toUInt8).toArray.size > sizeLine) := by
      rw [sizeLine_eq, List.size_toArray, List.length_map]; exact Nat.not_lt.mpr (Nat.le_trans hz (by decide))
    have hend : (c :: l).toArray[l.length + 1]? = none := by simp
    have hfold : Array.foldl (fun acc y => acc ++ (_codecs.asciiCodec.bytesOf y).toArray) #[] (c :: l).toArray = ((c :: l).map Nat.toUInt8).toArray := by
      rw [← Array.foldl_toList]
      exact (foldl_sing (c :: l) #[]).trans (by simp)
    clear hx hz hl
    refine (enc_loop (n := l.length) (s1 := (l.length + 1, ((c :: l).map Nat.toUInt8).toArray, {})) ?_ fun j => ?_).trans ?_
    · refine (if_neg (by rw [sizeLine_eq]; exact (by decide : ¬ ((0 : Nat) > 16777216)))).trans ?_
      refine (if_pos hbad).trans ?_
      refine enc_yield (Prod.ext ?_ (Prod.ext ?_ rfl))
      · show 0 + (Array.findIdx? _codecs.asciiCodec.bad ((c :: l).toArray.extract 0 (l.length + 1))).getD ((c :: l).toArray.extract 0 (l.length + 1)).size = l.length + 1
        rw [hext, hfi, Nat.zero_add]; rfl
      · show Array.foldl _ #[] (((c :: l).toArray.extract 0 (l.length + 1)).extract 0 ((Array.findIdx? _codecs.asciiCodec.bad ((c :: l).toArray.extract 0 (l.length + 1))).getD ((c :: l).toArray.extract 0 (l.length + 1)).size)) = _
        rw [hext, hfi]
        show Array.foldl _ #[] ((c :: l).toArray.extract 0 (l.length + 1)) = _
        rw [hext]
        exact hfold
    · refine (if_neg hsz).trans ?_
      dsimp only
      rw [hend]
    · show pure (((c :: l).map Nat.toUInt8).toArray) = _
      simp
theorem gives_encode {x : PySem.Str} {t u : Tok} (hx : ∀ c ∈ x.cps.toList, c < 128) (hz : x.cps.size ≤ 1000) : Gives («str.encode» ⟨[.str x t, .str (PySem.Str.ofString "ascii") u], []⟩) (.bytes (x.cps.map fun c => c.toUInt8)) := by
  have e : «str.encode» ⟨[.str x t, .str (PySem.Str.ofString "ascii") u], []⟩ = (do ret (← mkBytes (← _codecs.encodeNarrow "str.encode" _codecs.asciiCodec none (.str x t) x))) := by
    have e1 : «str.encode» ⟨[.str x t, .str (PySem.Str.ofString "ascii") u], []⟩ = (do ret (← _codecs.encodeRoad "str.encode" (.str x t) x (PySem.Str.ofString "ascii") none)) := by first | rfl | kernel_rfl
    have e2 : _codecs.encodeRoad "str.encode" (.str x t) x (PySem.Str.ofString "ascii") none = (do mkBytes (← _codecs.encodeNarrow "str.encode" _codecs.asciiCodec none (.str x t) x)) := by
      first | rfl | (unfold _codecs.encodeRoad; rfl) | (unfold _codecs.encodeRoad; simp only []; rfl) | kernel_rfl
    rw [e1, e2, bind_assoc]
  rw [e, enc_ascii hx hz]
  exact .of_eq rfl
section
variable {prog : Program} {w : World} {M : Model} {A : Around} {E : Value → Shared → Prop} {s : Shared} {x : PySem.Str} {t u : Tok} {b : Array UInt8}
theorem gm_encode {pl : Sem Bool} {Q : Value × List Value → Shared → Prop} (h : Q (.builtin "str.encode", [.str x t]) s) : wpAny M A (getMethod (.str x t) "encode" pl) Q E s := by
  with_reducible exact GM.of (.str x t) (typeIs_str _ _ _) PySem.F.slot_str_encode PySem.F.type_str_encode GM.noRef h
theorem call_encode {Q : Value → Shared → Prop} (hx : ∀ c ∈ x.cps.toList, c < 128) (hz : x.cps.size ≤ 1000) (h : ∀ t' k, Q (.bytes (x.cps.map fun c => c.toUInt8) t') { s with toks := k }) : wpAny (model prog w) A (call (.builtin "str.encode") [.str x t, .str (PySem.Str.ofString "ascii") u]) Q E s :=
  call_gives PySem.F.slot_str_encode (typeIs_str s x t) PySem.F.entry_str_encode (PySem.F.args_str_encode_2 _ _) (gives_encode hx hz) ⟨by rw [sizeLine_eq]; simp; omega, h _ _⟩
end
theorem bn_eq (b : Array UInt8) (t : Tok) : «bytes.__new__» ⟨[.type "bytes", .bytes b t], []⟩ = (do rule "bytes.__new__.of-bytes"; ret (.bytes b t)) := by first | rfl | kernel_rfl
theorem bb_typeCall (b : Array UInt8) (t : Tok) : checkTypeCall "bytes" ⟨[.bytes b t], []⟩ = pure () := by first | kernel_rfl | exact PySem.F.bm_typeCall _
section
variable {prog : Program} {w : World} {A : Around} {E : Value → Shared → Prop} {s : Shared} {b : Array UInt8} {t : Tok}
theorem call_bytes_bytes {Q : Value → Shared → Prop} (hQ : Q (.bytes b t) s) : wpAny (model prog w) A (call (.type "bytes") [.bytes b t]) Q E s := by
  refine callType_codes (Q₁ := fun obj s₁ => s₁.TypeIs obj "bytes" ∧ Q obj s₁) PySem.F.bm_called (bb_typeCall b t) PySem.F.entry_object_init ?_ fun obj s₁ h₁ => ?_
  · refine codeAny_of_tree ?_
    show wpAny _ _ (do checkBuiltinCall "bytes.__new__" ⟨[.type "bytes", .bytes b t], []⟩; again (.builtin "bytes.__new__" ⟨[.type "bytes", .bytes b t], []⟩)) _ _ s
    refine wpAny_bind (wpAny_of_eq (PySem.F.bm_newCall _) (wpAny_pure ⟨plainId_quiet PySem.F.bm_plain _, codeAny_builtin PySem.F.bm_entry ?_⟩))
    rw [Around.under_plainId PySem.F.bm_plain _, bn_eq]
    exact wpAny_bind (wpAny_rule (wpAny_pure ⟨typeIs_bytes _ _ _, hQ⟩))
  · exact ⟨h₁.1, PySem.F.args_object_init_2 obj _, object_init_meets PySem.F.bm_called.init.lookup PySem.F.bm_called.made (by decide) prog w A.in1 _ s₁ ⟨h₁.1, rfl, h₁.2⟩⟩
end
end
local macro_rules | `(tactic| walk_at "call type:bytes") => `(tactic| (with_reducible refine call_bytes_bytes ?_))
local macro_rules | `(tactic| walk_at "call builtin:isinstance") => `(tactic| k_dflt ((with_reducible show wpAny _ _ (call _ [Value.bytes _ _, Value.type _]) _ _ _); refine' kia_one kitx_bytes ?X trivial ?ee ?nb ?_; (case X => walk_at "m_k"); (case ee => kit_is); (case nb => kit_nb); k_whole; intro _))
local macro_rules | `(tactic| walk_at "getMethod str") => `(tactic| with_reducible refine gm_encode ?_)
local macro_rules | `(tactic| walk_at "call type:type") => `(tactic| ((with_reducible show wpAny _ _ (call _ [Value.bytes _ _]) _ _ _); refine call_type_of (Tx := "bytes") rfl (by decide +kernel) ?_))
section
open Builtin Builtin.ObjectAttr Builtin.Getset_descriptor
open Sem (wp)
section
variable {prog : Program} {w : World} {A : Around} {E : Value → Shared → Prop} {s : Shared} {fr : List Env} {b : Array UInt8} {tk : Tok} {x : PySem.Str} {Q : Value → Shared → Prop}
theorem bytesify_b (am : Amb w A 2 30 fr s.heap) (hQ : ∀ h' tk' t', Ext s.heap h' → Q (.bytes b t') {s with heap := h', toks := tk'}) : wpAny (model prog w) A (call (.ref 120) [.bytes b tk]) Q E s := by
  refine wpAny_call ?_
  refine enter (binds := [(PySem.Str.ofString "s", .bytes b tk)]) am (by k_is) (by k_is) (BindsTo.of_eq rfl) (locs rfl) fun L h₁ hL S => ?_
  dsimp only
  repeat' walk1
  exact hQ _ _ _ (S.froz (.head _))
theorem bytesify_s (am : Amb w A 2 30 fr s.heap) (hx : ∀ c ∈ x.cps.toList, c < 128) (hz : x.cps.size ≤ 1000) (hQ : ∀ h' tk' t', Ext s.heap h' → Q (.bytes (x.cps.map fun c => c.toUInt8) t') {s with heap := h', toks := tk'}) : wpAny (model prog w) A (call (.ref 120) [.str x tk]) Q E s := by
  refine wpAny_call ?_
  refine enter (binds := [(PySem.Str.ofString "s", .str x tk)]) am (by k_is) (by k_is) (BindsTo.of_eq rfl) (locs rfl) fun L h₁ hL S => ?_
  dsimp only
  repeat' walk1
  refine call_encode hx hz fun t' k => ?_
  repeat' walk1
  have S' := ‹St _ _ _ _ _›
  exact hQ _ _ _ (S'.froz (.head _))
end
end
-- part U4b
theorem start_U4b : True := by
  w_top off
  trivial
section
noncomputable def WTurn (J : Nat → Shared → Prop) (n : Nat) (Q : Flow → Shared → Prop) (f : Flow) (s : Shared) : Prop := match f with
  | .brk => Q .next s
  | .ret v => Q (.ret v) s
  | _ => ∃ m, m < n ∧ J m s
theorem while_loop {prog : Program} {w : World} {A : Around} {E : Value → Shared → Prop} {s : Shared} {env : Env} {test : PySem.Expr} {body : List Stmt} {pos : Pos} {Q : Flow → Shared → Prop} (J : Nat → Shared → Prop)
    (turn : ∀ n s, J n s → wpAny (model prog w) A (isTrue test env (eval test env)) (fun b s₂ => if b then wpAny (model prog w) A (execs body env) (WTurn J n Q) (loopE prog w A env E) s₂ else Q .next s₂) (loopE prog w A env E) s)
    (n : Nat) (h : J n s) : wpAny (model prog w) A (exec (.While test body [] pos) env) Q E s := by
  refine wpAny_While (codeAny_whileLoop J (fun n s hJ => wpAny_mono (turn n s hJ) (fun b s₂ h₂ => ?_) fun _ _ e => e) n h)
  cases b with
  | false => exact wpAny_execs_nil h₂
  | true =>
    simp only [if_true] at h₂ ⊢
    refine wpAny_mono h₂ (fun f s₃ h₃ => ?_) fun _ _ e => e
    cases f <;> exact h₃

/-- what a walk leaves to the hand -/
noncomputable def Held (P : Prop) : Prop := P
theorem cut_stmt {M : Model} {A : Around} {E : Value → Shared → Prop} {s : Shared} {m : Sem Flow} {Q : Flow → Shared → Prop} (P : Shared → Prop) (h : wpAny M A m (fun f s' => Held (f = .next ∧ P s')) E s) (k : ∀ s', P s' → Q .next s') : wpAny M A m Q E s :=
  wpAny_mono h (fun _ s' ⟨e, p⟩ => e ▸ k s' p) fun _ _ e => e
theorem cut_stmtQ {M : Model} {A : Around} {E : Value → Shared → Prop} {s : Shared} {m : Sem Flow} {Q : Flow → Shared → Prop} (P : Shared → Prop) (h : ∀ (Q' : Flow → Shared → Prop) (E' : Value → Shared → Prop), (∀ s', P s' → Q' .next s') → (∀ v s', E v s' → E' v s') → wpAny M A m Q' E' s) (k : ∀ s', P s' → Q .next s') : wpAny M A m Q E s :=
  h Q E k fun _ _ e => e

/-- a call's goal with its continuation unnamed -/
theorem genQ {α : Type} {M : Model} {A : Around} {E : Value → Shared → Prop} {s : Shared} {m : Sem α} {Q : α → Shared → Prop} (h : ∀ (Q' : α → Shared → Prop) (E' : Value → Shared → Prop), (∀ v s', Q v s' → Q' v s') → (∀ v s', E v s' → E' v s') → wpAny M A m Q' E' s) : wpAny M A m Q E s :=
  h Q E (fun _ _ q => q) fun _ _ e => e

/-- a loop's turn with its continuation unnamed -/
theorem genT {α : Type} {M : Model} {A : Around} {E : Value → Shared → Prop} {s : Shared} {m : Sem α} {c : Sem Flow} {Q : Flow → Shared → Prop} (h : ∀ (Q' : Flow → Shared → Prop) (E' : Value → Shared → Prop), (∀ f s', Q f s' → Q' f s') → (∀ v s', E v s' → E' v s') → wpAny M A m (fun _ s₄ => wpAny M A c Q' E' s₄) E' s) : wpAny M A m (fun _ s₄ => wpAny M A c Q E s₄) E s :=
  h Q E (fun _ _ q => q) fun _ _ e => e
noncomputable def wsB (c : UInt8) : Bool := c == 32 || c == 9

/-- octets without the two blanks at the ends -/
noncomputable def trimB (b : Array UInt8) : Array UInt8 := ((b.toList.dropWhile wsB).reverse.dropWhile wsB).reverse.toArray
theorem cut_tail {c : Array UInt8} : (cutB c (some 1) none).toList = c.toList.drop 1 := by
  unfold cutB
  show ((c.toList.drop (clipAt c.size ((1 : Nat) : Int))).take (c.size - clipAt c.size ((1 : Nat) : Int))) = _
  rw [clipAt_nat]
  by_cases h : c.size = 0
  · have : c.toList = [] := by apply List.eq_nil_of_length_eq_zero; simpa using h
    rw [this]; simp
  · rw [show min 1 c.size = 1 from Nat.min_eq_left (Nat.pos_of_ne_zero h)]
    exact List.take_of_length_le (by simp)
theorem cut_init {c : Array UInt8} : (cutB c none (some (-1))).toList = c.toList.dropLast := by
  unfold cutB
  show ((c.toList.drop 0).take (clipAt c.size (-((1 : Nat) : Int)) - 0)) = _
  rw [clipAt_neg _ _ (Nat.le_refl _), List.dropLast_eq_take]
  simp
theorem drop_ws {c : Array UInt8} (hp : 0 < c.size) (hw : wsB (c.getD 0 0) = true) : (c.toList.drop 1).dropWhile wsB = c.toList.dropWhile wsB := by
  obtain ⟨l⟩ := c
  cases l with
  | nil => simp at hp
  | cons x l =>
    have : wsB x = true := hw
    simp [this]
theorem keep_ws {c : Array UInt8} (hw : c.size = 0 ∨ wsB (c.getD 0 0) = false) : c.toList.dropWhile wsB = c.toList := by
  obtain ⟨l⟩ := c
  cases l with
  | nil => rfl
  | cons x l =>
    rcases hw with h | hw
    · simp at h
    · have : wsB x = false := hw
      simp [this]
theorem last_rev {c : Array UInt8} (hp : 0 < c.size) : c.toList.reverse = c.getD (c.size - 1) 0 :: c.toList.dropLast.reverse := by
  obtain ⟨l⟩ := c
  have hl : l ≠ [] := by intro q; subst q; simp at hp
  have e : (Array.mk l).getD (l.length - 1) 0 = l.getLast hl := by
    have hlt : l.length - 1 < l.length := by have := List.length_pos_iff.mpr hl; omega
    simp [Array.getD, hlt, List.getLast_eq_getElem]
  show l.reverse = (Array.mk l).getD (l.length - 1) 0 :: l.dropLast.reverse
  rw [e]
  conv => lhs; rw [← List.dropLast_concat_getLast hl]
  simp
theorem trimB_size {b : Array UInt8} : (trimB b).size ≤ b.size := by
  have h1 : (b.toList.dropWhile wsB).length ≤ b.toList.length := (List.dropWhile_suffix _).length_le
  have h2 : ((b.toList.dropWhile wsB).reverse.dropWhile wsB).length ≤ (b.toList.dropWhile wsB).reverse.length := (List.dropWhile_suffix _).length_le
  simp only [trimB, List.size_toArray, List.length_reverse, Array.length_toList] at *
  omega
section
variable {prog : Program} {w : World} {A : Around} {E : Value → Shared → Prop} {s : Shared} {fr : List Env} {b : Array UInt8} {tk : Tok} {x : Str} {Q : Value → Shared → Prop}
theorem ws_of {k : UInt8} (h : (k.toNat : Int) = 32 ∨ (k.toNat : Int) = 9) : wsB k = true := by
  rcases h with h | h
  · have : k = 32 := by apply UInt8.toNat_inj.mp; show k.toNat = 32; omega
    subst this; rfl
  · have : k = 9 := by apply UInt8.toNat_inj.mp; show k.toNat = 9; omega
    subst this; rfl
theorem ws_no {k : UInt8} (h1 : (k.toNat : Int) ≠ 32) (h2 : (k.toNat : Int) ≠ 9) : wsB k = false := by
  cases q : wsB k with
  | false => rfl
  | true =>
    simp only [wsB, Bool.or_eq_true, beq_iff_eq] at q
    rcases q with rfl | rfl
    · exact absurd rfl h1
    · exact absurd rfl h2
theorem trim_ok (am : Amb w A 2 30 fr s.heap) (hb : b.size ≤ 1000) (hQ : ∀ h' tk' t', Ext s.heap h' → Q (.bytes (trimB b) t') { s with heap := h', toks := tk' }) : wpAny (model prog w) A (call (.ref 241) [.bytes b tk]) Q E s := by
  refine wpAny_call ?_
  refine enter (binds := [(Str.ofString "octets", .bytes b tk)]) am (by k_is) (by k_is) (BindsTo.of_eq rfl) (locs rfl) fun L h₁ hL S => ?_
  dsimp only
  walk1
  refine cut_stmtQ (fun s' => ∃ c tc m h2 k2, s' = { s with heap := h2, toks := k2 } ∧ c.size ≤ b.size ∧ c.toList = b.toList.dropWhile wsB ∧ m (Str.ofString "octets") = some (Value.bytes c tc) ∧ St [s.heap] L m [] h2) (fun Q9 E9 hq9 he9 => ?_) ?_
  · refine while_loop (fun n s' => ∃ c tc m h2 k2, s' = { s with heap := h2, toks := k2 } ∧ n = c.size ∧ c.size ≤ b.size ∧ c.toList.dropWhile wsB = b.toList.dropWhile wsB ∧ m (Str.ofString "octets") = some (Value.bytes c tc) ∧ St [s.heap] L m [] h2) ?_ b.size ⟨b, tk, _, _, _, rfl, rfl, Nat.le_refl _, rfl, rfl, S⟩
    rintro n s' ⟨c, tc, m, h2, k2, rfl, rfl, hc, hd, hm, S'⟩
    have hc' : c.size ≤ 1000 := Nat.le_trans hc hb
    have fin : ∀ {h3 : Heap} {k3 : Nat}, St [s.heap] L m [] h3 → (c.size = 0 ∨ wsB (c.getD 0 0) = false) → (∃ c tc m h2 k2, ({ s with heap := h3, toks := k3 } : Shared) = { s with heap := h2, toks := k2 } ∧ c.size ≤ b.size ∧ c.toList = b.toList.dropWhile wsB ∧ m (Str.ofString "octets") = some (Value.bytes c tc) ∧ St [s.heap] L m [] h2) :=
      fun {h3 k3} S3 hw => ⟨c, tc, m, h3, k3, rfl, hc, (keep_ws hw).symm.trans hd, hm, S3⟩
    have go : ∀ {h3 : Heap} {k3 : Nat} {t' : Tok}, 0 < c.size → wsB (c.getD 0 0) = true → St [s.heap] L (fun y => if y = Str.ofString "octets" then some (Value.bytes (cutB c (some 1) none) t') else m y) [] h3 →
        ∃ n, n < c.size ∧ ∃ c tc m h2 k2, ({ s with heap := h3, toks := k3 } : Shared) = { s with heap := h2, toks := k2 } ∧ n = c.size ∧ c.size ≤ b.size ∧ c.toList.dropWhile wsB = b.toList.dropWhile wsB ∧ m (Str.ofString "octets") = some (Value.bytes c tc) ∧ St [s.heap] L m [] h2 := by
      intro h3 k3 t' hp hw S3
      have hs : (cutB c (some 1) none).size = c.size - 1 := by rw [← Array.length_toList, cut_tail]; simp
      exact ⟨_, by rw [hs]; exact Nat.sub_lt hp Nat.one_pos, cutB c (some 1) none, t', _, h3, k3, rfl, rfl, by rw [hs]; exact Nat.le_trans (Nat.sub_le _ _) hc, by rw [cut_tail, drop_ws hp hw]; exact hd, rfl, S3⟩
    walk1
    walk1
    walk1
    walk1
    walk1
    walk1
    walk1
    · rename_i hne
      have hp : (0 : Int) < c.size := by
        have : c.toList ≠ [] := by simpa using hne
        have := List.length_pos_iff.mpr this
        rw [Array.length_toList] at this; omega
      repeat' walk1
      · exact go (Int.ofNat_lt.mp hp) (ws_of (.inl (by assumption))) ‹St _ _ _ _ _›
      · exact go (Int.ofNat_lt.mp hp) (ws_of (.inr (by assumption))) ‹St _ _ _ _ _›
      · exact hq9 _ (fin S' (.inr (ws_no (by assumption) (by assumption))))
    · rename_i hne
      refine hq9 _ (fin S' (.inl ?_))
      have : c.toList = [] := by simpa using hne
      simpa using congrArg List.length this
  · rintro s' ⟨c, tc, m, h2, k2, rfl, hc, hd, hm, S'⟩
    dsimp only
    walk1
    have hcr : c.toList.reverse.length ≤ b.size := by simpa using hc
    refine cut_stmtQ (fun s' => ∃ c tc m h2 k2, s' = { s with heap := h2, toks := k2 } ∧ c = trimB b ∧ m (Str.ofString "octets") = some (Value.bytes c tc) ∧ St [s.heap] L m [] h2) (fun Q9 E9 hq9 he9 => ?_) ?_
    · refine while_loop (fun n s' => ∃ c tc m h2 k2, s' = { s with heap := h2, toks := k2 } ∧ n = c.size ∧ c.size ≤ b.size ∧ c.toList.reverse.dropWhile wsB = (b.toList.dropWhile wsB).reverse.dropWhile wsB ∧ m (Str.ofString "octets") = some (Value.bytes c tc) ∧ St [s.heap] L m [] h2) ?_ c.size ⟨c, tc, _, _, _, rfl, rfl, hc, by rw [hd], hm, S'⟩
      clear hm S' hd hc hcr
      rintro n s' ⟨c, tc, m, h2, k2, rfl, rfl, hc, hd, hm, S'⟩
      have hc' : c.size ≤ 1000 := Nat.le_trans hc hb
      have fin : ∀ {h3 : Heap} {k3 : Nat}, St [s.heap] L m [] h3 → (c.size = 0 ∨ wsB (c.getD (c.size - 1) 0) = false) → (∃ c tc m h2 k2, ({ s with heap := h3, toks := k3 } : Shared) = { s with heap := h2, toks := k2 } ∧ c = trimB b ∧ m (Str.ofString "octets") = some (Value.bytes c tc) ∧ St [s.heap] L m [] h2) := by
        intro h3 k3 S3 hw
        refine ⟨c, tc, m, h3, k3, rfl, ?_, hm, S3⟩
        have e : c.toList.reverse.dropWhile wsB = c.toList.reverse := by
          by_cases h0 : c.size = 0
          · have : c.toList = [] := by apply List.eq_nil_of_length_eq_zero; simpa using h0
            rw [this]; rfl
          · have hw := hw.resolve_left h0
            rw [last_rev (by omega), List.dropWhile_cons, if_neg (by rw [hw]; simp)]
        unfold trimB
        rw [← hd, e, List.reverse_reverse, Array.toArray_toList]
      have go : ∀ {h3 : Heap} {k3 : Nat} {t' : Tok}, 0 < c.size → wsB (c.getD (c.size - 1) 0) = true → St [s.heap] L (fun y => if y = Str.ofString "octets" then some (Value.bytes (cutB c none (some (-1))) t') else m y) [] h3 →
          ∃ n, n < c.size ∧ ∃ c tc m h2 k2, ({ s with heap := h3, toks := k3 } : Shared) = { s with heap := h2, toks := k2 } ∧ n = c.size ∧ c.size ≤ b.size ∧ c.toList.reverse.dropWhile wsB = (b.toList.dropWhile wsB).reverse.dropWhile wsB ∧ m (Str.ofString "octets") = some (Value.bytes c tc) ∧ St [s.heap] L m [] h2 := by
        intro h3 k3 t' hp hw S3
        have hs : (cutB c none (some (-1))).size = c.size - 1 := by rw [← Array.length_toList, cut_init]; simp
        refine ⟨_, by rw [hs]; exact Nat.sub_lt hp Nat.one_pos, cutB c none (some (-1)), t', _, h3, k3, rfl, rfl, by rw [hs]; exact Nat.le_trans (Nat.sub_le _ _) hc, ?_, rfl, S3⟩
        rw [← hd, cut_init, last_rev hp, List.dropWhile_cons, if_pos hw]
      walk1
      walk1
      walk1
      walk1
      walk1
      walk1
      walk1
      · rename_i hne
        have hp : (0 : Int) < c.size := by
          have : c.toList ≠ [] := by simpa using hne
          have := List.length_pos_iff.mpr this
          rw [Array.length_toList] at this; omega
        have ei : (-1 + (c.size : Int)).toNat = c.size - 1 := toNat_pred (Int.ofNat_lt.mp hp)
        repeat' walk1
        all_goals (try rw [ei] at *)
        · exact go (Int.ofNat_lt.mp hp) (ws_of (.inl (by assumption))) ‹St _ _ _ _ _›
        · exact go (Int.ofNat_lt.mp hp) (ws_of (.inr (by assumption))) ‹St _ _ _ _ _›
        · exact hq9 _ (fin S' (.inr (ws_no (by assumption) (by assumption))))
      · rename_i hne
        refine hq9 _ (fin S' (.inl ?_))
        have : c.toList = [] := by simpa using hne
        simpa using congrArg List.length this
    · rintro s' ⟨c, tc, m, h2, k2, rfl, rfl, hm, S'⟩
      dsimp only
      repeat' walk1
      exact hQ _ _ _ (S'.froz (.head _))
end
end
-- part U4
theorem start_U4 : True := by
  w_top off
  trivial
section
theorem St.give {zs : List Heap} {L : Addr} {m : Str → Option Value} {own : List (Addr × Obj)} {h h₀ : Heap} {a : Addr} {o : Obj} (S : St zs L m ((a, o) :: own) h) (hz : h₀ ∈ zs) : ∃ z, Ext z h ∧ Fresh h₀ z ∧ z.get? a = some o := by
  obtain ⟨z, e1, e2, S'⟩ := S.freeze1
  refine ⟨z, S'.froz (.head _), fun b ob q => ?_, e1⟩
  obtain rfl := e2 b ob q
  exact (S.fz h₀ hz).2 b (.tail _ (.head _))
abbrev BV (b : Array UInt8) (v : Value) : Prop := ∃ t, v = .bytes b t

/-- a list object of octets -/
noncomputable def BList (l : List (Array UInt8)) (z : Heap) (v : Value) : Prop := ∃ a vs n, v = .ref a ∧ z.get? a = some (listOf vs n) ∧ Paired BV l vs.toList
noncomputable def SMALL : List (Array UInt8) := [#[99, 111, 110, 110, 101, 99, 116, 105, 111, 110], #[120, 45, 97, 49], #[116, 114, 97, 110, 115, 102, 101, 114, 45, 101, 110, 99, 111, 100, 105, 110, 103], #[99, 111, 110, 116, 101, 110, 116, 45, 108, 101, 110, 103, 116, 104], #[115, 101, 116, 45, 99, 111, 111, 107, 105, 101]]
section
variable {prog : Program} {w : World} {A : Around} {E : Value → Shared → Prop} {s : Shared} {fr : List Env} {b : Array UInt8} {tk : Tok} {x : Str} {Q : Value → Shared → Prop}
theorem small_ok (am : Amb w A 2 30 fr s.heap) (hQ : ∀ h' tk' v z, Ext s.heap h' → Ext z h' → Fresh s.heap z → BList SMALL z v → Q v { s with heap := h', toks := tk' }) : wpAny (model prog w) A (call (.ref 229) []) Q E s := by
  refine wpAny_call ?_
  refine enter (binds := []) am (by k_is) (by k_is) (BindsTo.of_eq rfl) (locs rfl) fun L h₁ hL S => ?_
  dsimp only
  repeat' walk1
  have S' := ‹St _ _ _ _ _›
  obtain ⟨z, z1, z2, z3⟩ := S'.give (.head _)
  exact hQ _ _ _ z (S'.froz (.head _)) z1 z2 ⟨_, _, _, rfl, z3, by repeat (first | exact .nil | refine .cons ⟨_, rfl⟩ ?_)⟩
theorem gmAppend {M : Model} {zs : List Heap} {L : Addr} {m : Str → Option Value} {own : List (Addr × Obj)} {a : Addr} {its : Array Value} {n : Nat} {pl : Sem Bool} {Q : Value × List Value → Shared → Prop} (S : St zs L m own s.heap) (hm : (a, listOf its n) ∈ own) (h : Q (.builtin "list.append", [.ref a]) s) : wpAny M A (getMethod (.ref a) "append" pl) Q E s :=
  getMethod_list_append (S.mine _ hm) rfl rfl h
end
end
local macro_rules | `(tactic| walk_at "getMethod ref") => `(tactic| k_dflt (refine gmAppend ‹_› (by walk_at "m_mem") ?_))
section
section
variable {prog : Program} {w : World} {A : Around} {E : Value → Shared → Prop} {s : Shared} {fr : List Env} {b : Array UInt8} {tk : Tok} {x : Str} {Q : Value → Shared → Prop}
noncomputable def titStep (st : Bool × List Int) (c : UInt8) : Bool × List Int :=
  let small : Int := if (65 : Int) ≤ (c.toNat : Int) ∧ (c.toNat : Int) ≤ 90 then (c.toNat : Int) + 32 else (c.toNat : Int)
  let letter : Bool := decide ((97 : Int) ≤ small ∧ small ≤ 122)
  (!letter, st.2 ++ [if letter && st.1 then small - 32 else small])
noncomputable def titI (b : Array UInt8) : List Int := (b.toList.foldl titStep (true, [])).2
abbrev TitU (h₀ : Heap) (b : Array UInt8) (i : Nat) (zs : List Heap) (m : Str → Option Value) (own : List (Addr × Obj)) : Prop :=
  zs = [h₀] ∧ ∃ a vs k ns, own = [(a, listOf vs.toArray k)] ∧ m (Str.ofString "out") = some (.ref a) ∧ m (Str.ofString "first") = some (.bool (((b.toList.take i).foldl titStep (true, [])).1)) ∧ ns = ((b.toList.take i).foldl titStep (true, [])).2 ∧ IntsAre vs ns
theorem tit_close {h₀ : Heap} {L I a : Addr} {oI : Obj} {m : Str → Option Value} {vs : List Value} {n small : Int} {t3 tn : Tok} {k i : Nat} {h : Heap} {X : Bool} {c : UInt8} {tk : Nat} {s₀ : Shared} {Q : Flow → Shared → Prop} (S : St [h₀] L m [(I, oI), (a, listOf (vs.toArray.push (.int n tn)) (k + 1))] h)
    (hi : IntsAre vs ((b.toList.take i).foldl titStep (true, [])).2) (hc : b[i]? = some c) (hm1 : m (Str.ofString "out") = some (.ref a)) (hm2 : m (Str.ofString "first") = some (.bool (!X))) (hm3 : m (Str.ofString "small") = some (.int small t3)) (hm4 : m (Str.ofString "letter") = some (.bool X))
    (hs : small = if (65 : Int) ≤ (c.toNat : Int) ∧ (c.toNat : Int) ≤ 90 then (c.toNat : Int) + 32 else (c.toNat : Int)) (hX : X = decide ((97 : Int) ≤ small ∧ small ≤ 122)) (hn : n = if (X && ((b.toList.take i).foldl titStep (true, [])).1) = true then small - 32 else small) :
    TurnEnd L I oI (TitU h₀ b (i + 1)) s₀ Q .next { s₀ with heap := h, toks := tk } := by
  have e : (b.toList.take (i + 1)).foldl titStep (true, []) = (!X, ((b.toList.take i).foldl titStep (true, [])).2 ++ [n]) := by
    rw [List.take_add_one, List.foldl_append, Array.getElem?_toList, hc]
    show titStep _ c = _
    generalize (b.toList.take i).foldl titStep (true, []) = st at hn ⊢
    subst hn hX hs
    rfl
  refine ⟨_, _, _, S, ⟨rfl, a, vs ++ [.int n tn], k + 1, _, by simp, hm1, by rw [e]; exact hm2, rfl, ?_⟩, rfl⟩
  rw [e]
  exact hi.append (.cons _ _ .nil)
theorem tit_len (l : List UInt8) : ∀ st, (l.foldl titStep st).2.length = st.2.length + l.length := by
  induction l with
  | nil => intro st; rfl
  | cons c l ih => intro st; rw [List.foldl_cons, ih, List.length_cons, Nat.add_comm l.length 1, ← Nat.add_assoc]; exact congrArg (· + l.length) (by simp [titStep])
theorem title_ok (am : Amb w A 2 30 fr s.heap) (hb : b.size ≤ 1000) (hQ : ∀ h' tk' t', Ext s.heap h' → Q (.bytes (byteArr (titI b)) t') { s with heap := h', toks := tk' }) : wpAny (model prog w) A (call (.ref 201) [.bytes b tk]) Q E s := by
  refine wpAny_call ?_
  refine enter (binds := [(Str.ofString "name", .bytes b tk)]) am (by k_is) (by k_is) (BindsTo.of_eq rfl) (locs rfl) fun L h₁ hL S => ?_
  dsimp only
  repeat' walk1
  have S' := ‹St _ _ _ _ _›
  refine for_bytes (by exact am.hd) rfl ‹St _ _ _ _ _› (.head _) (TitU s.heap b) ⟨rfl, _, [], 0, [], rfl, rfl, rfl, rfl, .nil⟩ (fun i zs m own h => h.1 ▸ .head _) ?_ ?_
  · rintro i v zs m own s' I oI ⟨c, u, hc, rfl⟩ ⟨rfl, a, vs, k, ns, rfl, hm1, hm2, rfl, hi⟩ S₃ es
    rw [es]
    dsimp only
    have hk : vs.length ≤ 1000 := by
      rw [hi.length, tit_len]; exact Nat.le_trans (Nat.add_le_add (Nat.le_refl 0) (List.take_sublist _ _).length_le) (by rw [Nat.zero_add, Array.length_toList]; exact hb)
    refine genT fun Q8 E8 hq8 he8 => ?_
    repeat' walk1
    all_goals refine hq8 _ _ (tit_close ‹St _ _ _ _ _› hi hc ?_ (by exact rfl) (by exact rfl) (by exact rfl) ?_ ?_ ?_)
    all_goals first | exact hm1 | (rw [if_pos ⟨by assumption, by assumption⟩]; done) | (rw [if_neg (by omega)]; done) | (exact decide_eq_decide.mpr (by constructor <;> omega)) | (exfalso; omega) | (refine (if_pos ?_).symm; simp [*]; done) | (refine (if_neg ?_).symm; simp [*]; done)
  · rintro zs m own h' tk' ⟨rfl, a, vs, k, ns, rfl, hm1, hm2, rfl, hi⟩ S₃
    dsimp only
    repeat' walk1
    have hk : vs.length ≤ 1000 := by
      rw [hi.length, tit_len]; exact Nat.le_trans (Nat.add_le_add (Nat.le_refl 0) (List.take_sublist _ _).length_le) (by rw [Nat.zero_add, Array.length_toList]; exact hb)
    have h3 : ∀ (l : List UInt8) st, (∀ n ∈ st.2, (0 : Int) ≤ n ∧ n < 256) → ∀ n ∈ (l.foldl titStep st).2, (0 : Int) ≤ n ∧ n < 256 := by
      intro l; induction l with
      | nil => intro st h; simpa using h
      | cons c l ih =>
        intro st h
        rw [List.foldl_cons]
        refine ih _ fun n hn => ?_
        simp only [titStep, List.mem_append, List.mem_singleton] at hn
        rcases hn with hn | rfl
        · exact h n hn
        · have := c.toNat_lt
          repeat' split
          all_goals (try simp only [Bool.and_eq_true, decide_eq_true_eq] at *)
          all_goals omega
    refine call_bytes_ints (listAt (S₃.mine _ (.head _)) (fun _ _ h => h)) hi (h3 _ _ (by simp)) (by rw [sizeLine_eq]; omega) (by exact am.hd) fun h4 t k2 e2 => ?_
    repeat' walk1
    have hT : (b.toList.take b.size) = b.toList := List.take_of_length_le (by simp)
    rw [hT]
    exact hQ _ _ _ ((S₃.froz (.head _)).trans e2)
end
end
-- part U5
theorem start_U5 : True := by
  w_top off
  trivial
section
noncomputable def NAMES : List (Array UInt8) := [#[72, 111, 115, 116], #[67, 111, 110, 116, 101, 110, 116, 45, 76, 101, 110, 103, 116, 104], #[99, 111, 110, 116, 101, 110, 116, 45, 108, 101, 110, 103, 116, 104], #[84, 114, 97, 110, 115, 102, 101, 114, 45, 69, 110, 99, 111, 100, 105, 110, 103], #[84, 82, 65, 78, 83, 70, 69, 82, 45, 69, 78, 67, 79, 68, 73, 78, 71], #[67, 111, 110, 110, 101, 99, 116, 105, 111, 110], #[99, 111, 110, 110, 101, 99, 116, 105, 111, 110], #[69, 120, 112, 101, 99, 116], #[85, 112, 103, 114, 97, 100, 101], #[88, 45, 97, 49], #[33, 35, 36, 37, 38, 39, 42, 43, 45, 46, 94, 95, 96, 124, 126], #[], #[97, 32, 98], #[97, 58], #[40], #[127], #[97, 233], #[67, 79, 78, 78, 69, 67, 84, 73, 79, 78], #[120, 45, 65, 49], #[83, 101, 116, 45, 67, 111, 111, 107, 105, 101]]
noncomputable def VALUES : List (Array UInt8) := [#[51], #[51, 44, 32, 51], #[51, 44, 52], #[48, 51], #[], #[44], #[51, 32, 44, 9, 51], #[49, 50, 51, 52, 53, 54, 55, 56, 57, 48, 49, 50, 51, 52, 53, 54, 55, 56, 57, 48], #[49, 50, 51, 52, 53, 54, 55, 56, 57, 48, 49, 50, 51, 52, 53, 54, 55, 56, 57, 48, 49], #[43, 51], #[99, 104, 117, 110, 107, 101, 100], #[67, 104, 117, 110, 107, 101, 100], #[103, 122, 105, 112, 44, 32, 99, 104, 117, 110, 107, 101, 100], #[99, 104, 117, 110, 107, 101, 100, 44], #[99, 108, 111, 115, 101], #[75, 101, 101, 112, 45, 65, 108, 105, 118, 101, 44, 32, 67, 76, 79, 83, 69, 44, 44, 120], #[32, 97], #[97, 9], #[97, 9, 98], #[97, 11, 98], #[97, 0], #[1, 127, 128, 255], #[97, 13, 10, 98], #[97, 44, 98, 59, 99, 61, 34, 100, 44, 101, 34], #[49, 48, 48, 45, 67, 111, 110, 116, 105, 110, 117, 101], #[120, 12], #[97, 133], #[126], #[97, 32, 32, 98], #[104, 50, 99, 44, 32, 119]]
section
variable {prog : Program} {w : World} {A : Around} {E : Value → Shared → Prop} {s : Shared} {fr : List Env} {b : Array UInt8} {tk : Tok} {x : Str} {Q : Value → Shared → Prop}
theorem names_ok (am : Amb w A 2 30 fr s.heap) (hQ : ∀ h' tk' v z, Ext s.heap h' → Ext z h' → Fresh s.heap z → BList NAMES z v → Q v { s with heap := h', toks := tk' }) : wpAny (model prog w) A (call (.ref 215) []) Q E s := by
  refine wpAny_call ?_
  refine enter (binds := []) am (by k_is) (by k_is) (BindsTo.of_eq rfl) (locs rfl) fun L h₁ hL S => ?_
  dsimp only
  repeat' walk1
  have S' := ‹St _ _ _ _ _›
  obtain ⟨z, z1, z2, z3⟩ := S'.give (.head _)
  exact hQ _ _ _ z (S'.froz (.head _)) z1 z2 ⟨_, _, _, rfl, z3, by repeat (first | exact .nil | refine .cons ⟨_, rfl⟩ ?_)⟩
theorem values_ok (am : Amb w A 2 30 fr s.heap) (hQ : ∀ h' tk' v z, Ext s.heap h' → Ext z h' → Fresh s.heap z → BList VALUES z v → Q v { s with heap := h', toks := tk' }) : wpAny (model prog w) A (call (.ref 222) []) Q E s := by
  refine wpAny_call ?_
  refine enter (binds := []) am (by k_is) (by k_is) (BindsTo.of_eq rfl) (locs rfl) fun L h₁ hL S => ?_
  dsimp only
  repeat' walk1
  have S' := ‹St _ _ _ _ _›
  obtain ⟨z, z1, z2, z3⟩ := S'.give (.head _)
  exact hQ _ _ _ z (S'.froz (.head _)) z1 z2 ⟨_, _, _, rfl, z3, by repeat (first | exact .nil | refine .cons ⟨_, rfl⟩ ?_)⟩

/-- octets as a text -/
noncomputable def asText (b : Array UInt8) : Str := ⟨b.map (·.toNat)⟩
theorem strs_of : ∀ {l : List UInt8} {ys : List Value}, Paired (fun c y => ∃ t, y = Value.str ⟨#[c.toNat]⟩ t) l ys → StrsAre ys (l.map fun c => (⟨#[c.toNat]⟩ : Str))
  | _, _, .nil => .nil
  | _, _, .cons ⟨_, h⟩ r => by subst h; exact .cons _ _ (strs_of r)
theorem join_text : Txt.join (Str.ofString "") (b.toList.map fun c => (⟨#[c.toNat]⟩ : Str)) = asText b := by
  unfold Txt.join
  rw [StrLaws.glued_eq_join]
  have h : ∀ l : List UInt8, Str.join (Str.ofString "") (l.map fun c => (⟨#[c.toNat]⟩ : Str)) = ⟨(l.map (·.toNat)).toArray⟩ := by
    intro l
    induction l with
    | nil => rfl
    | cons c l ih =>
      rw [List.map_cons]
      refine (join_nil_cons _ _).trans ?_
      refine (congrArg _ ih).trans ?_
      show Str.mk (#[c.toNat] ++ (l.map (·.toNat)).toArray) = _
      simp
  rw [h]
  unfold asText
  congr 1
  obtain ⟨l⟩ := b
  simp
theorem len_text : ∀ l : List UInt8, ((l.map fun c => (⟨#[c.toNat]⟩ : Str)).map (·.length)).sum = l.length
  | [] => rfl
  | c :: l => by rw [List.map_cons, List.map_cons, List.sum_cons, len_text l, List.length_cons]; show 1 + _ = _; omega
theorem text_ok (am : Amb w A 2 30 fr s.heap) (hb : b.size ≤ 1000) (hx : ∀ c ∈ b.toList, c.toNat ≤ 127) (hQ : ∀ h' tk' t', Ext s.heap h' → Q (.str (asText b) t') { s with heap := h', toks := tk' }) : wpAny (model prog w) A (call (.ref 234) [.bytes b tk]) Q E s := by
  refine wpAny_call ?_
  refine enter (binds := [(Str.ofString "octets", .bytes b tk)]) am (by k_is) (by k_is) (BindsTo.of_eq rfl) (locs rfl) fun L h₁ hL S => ?_
  dsimp only
  repeat' walk1
  dsimp only
  refine src_bytes (by exact am.hd) (by rw [sizeLine_eq]; omega) fun I s₂ src => ?_
  refine ask_bytes src (fun _ => true) (fun c y => ∃ t, y = .str ⟨#[c.toNat]⟩ t) ?_ ?_
  · rintro C c u s₃ m₃ E' z₃ hc e1 e2 S₃
    have am₃ := am.ext ((S.froz (.head _)).trans e1)
    have hc' := hx c hc
    unfold TurnA
    repeat' walk1
    exact tEnd (by assumption) (.head _) e2 ⟨_, rfl⟩
  · intro D h' tk' ys nn z f1 f2 f3 f4 f5
    have S' := S.add f1 f3 f2
    clear S src
    repeat' walk1
    rw [List.filter_eq_self.mpr (fun _ _ => rfl)] at f5
    refine join_list (listAt f4 (S'.froz (.head _))) (strs_of f5) (by rw [len_text, List.length_map, show (Str.ofString "").length = 0 from rfl, Array.length_toList]; omega) fun t' k => ?_
    rw [join_text]
    exact hQ _ _ _ (S'.froz (.tail _ (.head _)))
end
end
-- part U6
theorem start_U6 : True := by
  w_top off
  trivial
section
open PySem.SeqAt

/-- one tuple of two -/
noncomputable def PairV (p : Array UInt8 × Array UInt8) (h : Heap) (v : Value) : Prop := ∃ a v1 v2, v = .ref a ∧ h.IsTuple a #[v1, v2] ∧ BV p.1 v1 ∧ BV p.2 v2
theorem PairV.ext {p : Array UInt8 × Array UInt8} {h h' : Heap} {v : Value} (x : PairV p h v) (e : Ext h h') : PairV p h' v := by
  obtain ⟨a, v1, v2, rfl, ⟨o, ho, r⟩, x1, x2⟩ := x
  exact ⟨a, v1, v2, rfl, ⟨o, e _ _ ho, r⟩, x1, x2⟩
section
variable {prog : Program} {w : World} {A : Around} {E : Value → Shared → Prop} {s : Shared} {Q : Value → Shared → Prop}
theorem eqAt_bytes (b c : Array UInt8) (t u : Tok) : EqAt A s (.bytes b t) (.bytes c u) (decide (b = c)) := fun prog w E Q h => by
  have e : (b.toList == c.toList) = decide (b = c) := by
    rw [Bool.eq_iff_iff, beq_iff_eq, decide_eq_true_eq]
    exact ⟨fun h => Array.toList_inj.mp h, fun h => by rw [h]⟩
  unfold eqBool
  refine wpAny_holding ?_
  refine wpAny_ite_split (fun hab => ?_) (fun _ => ?_)
  · have hb : b = c := by have := eq_of_beq hab; injection this
    rw [decide_eq_true hb] at h
    exact wpAny_bind (wpAny_rule (wpAny_pure h))
  · refine wpAny_bind ?_
    show wpAny _ _ (compareOp .Eq (.bytes b t) (.bytes c u)) _ _ _
    refine eq_bytes (wpAny_truthy_bool ?_)
    rw [e]; exact h
theorem eqAt_bv {b c : Array UInt8} {v v' : Value} (h : BV b v) (h' : BV c v') : EqAt A s v v' (decide (b = c)) := by
  obtain ⟨t, rfl⟩ := h
  obtain ⟨u, rfl⟩ := h'
  exact eqAt_bytes b c t u
theorem eqAt_pair {p q : Array UInt8 × Array UInt8} {v v' : Value} (hu : A.units < cLine) (h : PairV p s.heap v) (h' : PairV q s.heap v') : EqAt A s v v' (decide (p = q)) := by
  obtain ⟨a, v1, v2, rfl, ht, x1, x2⟩ := h
  obtain ⟨a', v1', v2', rfl, ht', x1', x2'⟩ := h'
  by_cases haa : a = a'
  · subst haa
    obtain ⟨o, ho, hc, n, hd⟩ := ht
    obtain ⟨o', ho', hc', n', hd'⟩ := ht'
    rw [ho] at ho'; cases ho'
    rw [hd] at hd'
    have hv : v1 = v1' ∧ v2 = v2' := by injection hd' with h1 h2; simpa using h1
    obtain ⟨rfl, rfl⟩ := hv
    have hpq : p = q := by
      obtain ⟨t1, rfl⟩ := x1; obtain ⟨t2, rfl⟩ := x2
      obtain ⟨t3, e1⟩ := x1'; obtain ⟨t4, e2⟩ := x2'
      injection e1 with e1 _; injection e2 with e2 _
      exact Prod.ext e1 e2
    rw [decide_eq_true hpq]
    exact EqAt.same _
  · have hr := RcAt.tuples (A := A) (s := s) (e := fun j => if j = 0 then decide (p.1 = q.1) else decide (p.2 = q.2)) ht ht' hu (fun j h1 h2 => by
      match j, h1, h2 with
      | 0, _, _ => exact eqAt_bv x1 x1'
      | 1, _, _ => exact eqAt_bv x2 x2')
    have e : ((List.range (min (#[v1, v2] : Array Value).size (#[v1', v2'] : Array Value).size)).all (fun j => if j = 0 then decide (p.1 = q.1) else decide (p.2 = q.2)) && (#[v1, v2] : Array Value).size == (#[v1', v2'] : Array Value).size) = decide (p = q) := by
      show ((List.range 2).all _ && true) = _
      rw [Bool.and_true, Bool.eq_iff_iff, decide_eq_true_eq]
      simp [List.range, List.range.loop, Prod.ext_iff]
    rw [e] at hr
    exact EqAt.of_refs haa hr
theorem all_eq {α : Type} [DecidableEq α] : ∀ (as bs : List α), as.length = bs.length → (List.range as.length).all (fun j => decide (as[j]? = bs[j]?)) = decide (as = bs) := fun as bs hl => by
  rw [Bool.eq_iff_iff, List.all_eq_true, decide_eq_true_eq]
  constructor
  · intro h
    refine List.ext_getElem? fun i => ?_
    by_cases hi : i < as.length
    · have := h i (List.mem_range.mpr hi); simpa using this
    · rw [List.getElem?_eq_none (by omega), List.getElem?_eq_none (by omega)]
  · rintro rfl i _; simp
theorem pair_at {α β : Type} {R : α → β → Prop} : ∀ {as : List α} {xs : List β}, Paired R as xs → ∀ j (h1 : j < as.length) (h2 : j < xs.length), R as[j] xs[j]
  | _, _, .cons h _, 0, _, _ => h
  | _, _, .cons _ r, j + 1, h1, h2 => pair_at r j (by simpa using h1) (by simpa using h2)
theorem list_eqs {α : Type} [DecidableEq α] {R : α → Value → Prop} {l l' : Addr} {as bs : List α} {xs ys : List Value} (hu : A.units < cLine) (hl : s.heap.IsList l xs.toArray) (hl' : s.heap.IsList l' ys.toArray) (pa : Paired R as xs) (pb : Paired R bs ys)
    (hR : ∀ a v a' v', R a v → R a' v' → EqAt A.in1 s v v' (decide (a = a'))) (hq : Q (.bool (decide (as = bs))) s) : wpAny (model prog w) A (compareOp .Eq (.ref l) (.ref l')) Q E s := by
  have la := pa.length
  have lb := pb.length
  by_cases hsz : as.length = bs.length
  · refine RcAt.lists (e := fun j => decide (as[j]? = bs[j]?)) hl hl' (by simp; omega) hu (fun j h1 h2 => ?_) prog w E Q ?_
    · have j1 : j < as.length := by simp at h1; omega
      have j2 : j < bs.length := by omega
      rw [List.getElem?_eq_getElem j1, List.getElem?_eq_getElem j2]
      have r1 := pair_at pa j j1 (by omega)
      have r2 := pair_at pb j j2 (by omega)
      simp only [List.getElem_toArray]
      have := hR _ _ _ _ r1 r2
      simpa using this
    · rw [List.size_toArray, ← la, all_eq as bs hsz]; exact hq
  · refine RcAt.lists_lengths hl hl' (by simp; omega) hu prog w E Q ?_
    rw [decide_eq_false (fun h => hsz (by rw [h]))] at hq; exact hq
theorem list_nes {α : Type} [DecidableEq α] {R : α → Value → Prop} {l l' : Addr} {as bs : List α} {xs ys : List Value} (hu : A.units < cLine) (hl : s.heap.IsList l xs.toArray) (hl' : s.heap.IsList l' ys.toArray) (pa : Paired R as xs) (pb : Paired R bs ys)
    (hR : ∀ a v a' v', R a v → R a' v' → EqAt A.in1 s v v' (decide (a = a'))) (hq : Q (.bool (!decide (as = bs))) s) : wpAny (model prog w) A (compareOp .NotEq (.ref l) (.ref l')) Q E s := by
  have la := pa.length
  have lb := pb.length
  by_cases hsz : as.length = bs.length
  · refine RcNeAt.lists (e := fun j => decide (as[j]? = bs[j]?)) hl hl' (by simp; omega) hu (fun j h1 h2 => ?_) prog w E Q ?_
    · have j1 : j < as.length := by simp at h1; omega
      have j2 : j < bs.length := by omega
      rw [List.getElem?_eq_getElem j1, List.getElem?_eq_getElem j2]
      have r1 := pair_at pa j j1 (by omega)
      have r2 := pair_at pb j j2 (by omega)
      simp only [List.getElem_toArray]
      have := hR _ _ _ _ r1 r2
      simpa using this
    · rw [List.size_toArray, ← la, all_eq as bs hsz]; exact hq
  · refine RcNeAt.lists_lengths hl hl' (by simp; omega) hu prog w E Q ?_
    rw [decide_eq_false (fun h => hsz (by rw [h]))] at hq; exact hq
theorem Amb.cl {d u : Nat} {fr : List Env} {h : Heap} {env : Env} (am : Amb w A d u fr h) (hu : 4 ≤ u := by decide) : (A.deeper env).units < cLine := by
  have := am.un
  show A.units + 3 < cLine
  omega
theorem ne_empty {l l' : Addr} {xs : Array Value} (hu : A.units < cLine) (hl : s.heap.IsList l xs) (hl' : s.heap.IsList l' #[]) (hq : Q (.bool (!decide (xs.size = 0))) s) : wpAny (model prog w) A (compareOp .NotEq (.ref l) (.ref l')) Q E s := by
  by_cases h : xs.size = 0
  · refine RcNeAt.lists (e := fun _ => true) hl hl' h hu (fun j h1 h2 => absurd h2 (Nat.not_lt_zero _)) prog w E Q ?_
    rw [h]
    rw [decide_eq_true h] at hq; exact hq
  · refine RcNeAt.lists_lengths hl hl' (by simpa using h) hu prog w E Q ?_
    rw [decide_eq_false h] at hq; exact hq
theorem eq_empty {l l' : Addr} {xs : Array Value} (hu : A.units < cLine) (hl : s.heap.IsList l xs) (hl' : s.heap.IsList l' #[]) (hq : Q (.bool (decide (xs.size = 0))) s) : wpAny (model prog w) A (compareOp .Eq (.ref l) (.ref l')) Q E s := by
  by_cases h : xs.size = 0
  · refine RcAt.lists (e := fun _ => true) hl hl' h hu (fun j h1 h2 => absurd h2 (Nat.not_lt_zero _)) prog w E Q ?_
    rw [h]
    rw [decide_eq_true h] at hq; exact hq
  · refine RcAt.lists_lengths hl hl' (by simpa using h) hu prog w E Q ?_
    rw [decide_eq_false h] at hq; exact hq
end
end
-- part U7
theorem start_U7 : True := by
  w_top off
  trivial
section
noncomputable def SPEC : Array UInt8 := #[33, 35, 36, 37, 38, 39, 42, 43, 45, 46, 94, 95, 96, 124, 126]
noncomputable def okc (c : UInt8) : Bool := decide ((48 : Int) ≤ (c.toNat : Int) ∧ (c.toNat : Int) ≤ 57) || decide ((65 : Int) ≤ (c.toNat : Int) ∧ (c.toNat : Int) ≤ 90) || decide ((97 : Int) ≤ (c.toNat : Int) ∧ (c.toNat : Int) ≤ 122) || SPEC.contains c
noncomputable def goodB (n v : Array UInt8) : Bool := !(n.toList.isEmpty) && n.toList.all okc && decide (trimB v = v) && NT.all fun c => !v.contains c
theorem okc_yes {x : UInt8} (h : ((48 : Int) ≤ (x.toNat : Int) ∧ (x.toNat : Int) ≤ 57) ∨ ((65 : Int) ≤ (x.toNat : Int) ∧ (x.toNat : Int) ≤ 90) ∨ ((97 : Int) ≤ (x.toNat : Int) ∧ (x.toNat : Int) ≤ 122)) : okc x = true := by
  unfold okc
  simp only [Bool.or_eq_true, decide_eq_true_eq]
  rcases h with h | h | h
  · exact .inl (.inl (.inl h))
  · exact .inl (.inl (.inr h))
  · exact .inl (.inr h)
theorem okc_no {x : UInt8} {r : Bool} (h1 : ¬ ((48 : Int) ≤ (x.toNat : Int) ∧ (x.toNat : Int) ≤ 57)) (h2 : ¬ ((65 : Int) ≤ (x.toNat : Int) ∧ (x.toNat : Int) ≤ 90)) (h3 : ¬ ((97 : Int) ≤ (x.toNat : Int) ∧ (x.toNat : Int) ≤ 122)) (h4 : SPEC.contains x = r) : okc x = r := by
  unfold okc
  rw [decide_eq_false h1, decide_eq_false h2, decide_eq_false h3, h4]
  rfl
theorem filter_len {α : Type} {p : α → Bool} {l : List α} : ((l.filter fun x => !p x).length = 0) ↔ l.all p = true := by
  rw [List.length_eq_zero_iff, List.filter_eq_nil_iff, List.all_eq_true]
  exact ⟨fun h a ha => by simpa using h a ha, fun h a ha => by simpa using h a ha⟩
theorem filter_any {α : Type} {p : α → Bool} {l : List α} : ((l.filter p).length = 0) ↔ (l.all fun x => !p x) = true := by
  rw [List.length_eq_zero_iff, List.filter_eq_nil_iff, List.all_eq_true]
  exact ⟨fun h a ha => by simpa using h a ha, fun h a ha => by simpa using h a ha⟩
section
variable {prog : Program} {w : World} {A : Around} {E : Value → Shared → Prop} {s : Shared} {fr : List Env} {b c : Array UInt8} {tk tv : Tok} {Q : Value → Shared → Prop}
theorem good_ok (am : Amb w A 4 40 fr s.heap) (hb : b.size ≤ 1000) (hc : c.size ≤ 1000) (hQ : ∀ h' tk', Ext s.heap h' → Q (.bool (goodB b c)) { s with heap := h', toks := tk' }) : wpAny (model prog w) A (call (.ref 246) [.bytes b tk, .bytes c tv]) Q E s := by
  refine wpAny_call ?_
  refine enterC (binds := [(Str.ofString "name", .bytes b tk), (Str.ofString "value", .bytes c tv)]) am (by k_is) (by k_is) (BindsTo.of_eq rfl) rfl (by decide) fun L h₁ tk₁ cells hL hC S => ?_
  obtain ⟨o1, rfl, hc1⟩ := CellsAre.one hC
  replace hc1 : o1.data = .cell (some (.bytes c tv)) := hc1
  replace S : St [s.heap] L (fun y => if y = Str.ofString "name" then some (.bytes b tk) else none) [(L+1, o1)] h₁ := S
  clear hC
  dsimp only
  repeat' walk1
  · rename_i h0
    refine (congrArg (fun x => Q (.bool x) _) ?_).mp (hQ _ _ (S.froz (.head _)))
    have : b.toList = [] := by simpa using h0
    unfold goodB
    rw [this]; rfl
  · rename_i h0
    refine src_bytes (by exact am.hd) (by rw [sizeLine_eq]; omega) fun I s₂ src => ?_
    refine ask_bytes src (fun x => !okc x) (fun c y => ∃ t, y = .int (c.toNat : Int) t) ?_ ?_
    · rintro C x u s₃ m₃ E' z₃ - e1 e2 S₃
      have am₃ := am.ext ((S.froz (.head _)).trans e1)
      unfold TurnA
      repeat' walk1
      all_goals first
        | exact tSkip (by assumption) (.head _) e2
        | exact tEnd (by assumption) (.head _) e2 ⟨_, rfl⟩
        | exact congrArg not (okc_yes (by omega)).symm
        | exact congrArg not (okc_no (by omega) (by omega) (by omega) (by assumption)).symm
    · intro D h' tk' ys nn z f1 f2 f3 f4 f5
      have S' := S.add f1 f3 f2
      clear src
      clear S
      repeat' walk1
      rename_i S₂
      refine ne_empty (by exact am.cl) (listAt f4 (S₂.froz (.head _))) (listAt (S₂.mine _ (.head _)) (fun _ _ h => h)) ?_
      replace S₂ := S₂.drop
      walk1
      walk1
      walk1
      walk1
      · rename_i hy0
        repeat' walk1
        refine trim_ok (by exact am.sub S₂ (.tail _ (.head _))) hc fun h3 k3 t3 e3 => ?_
        replace S₂ := S₂.ext e3
        dsimp only
        have hn : b.toList.isEmpty = false := by
          cases q : b.toList with
          | nil => rw [q] at h0; cases h0
          | cons x l => rfl
        have hall : b.toList.all okc = true := filter_len.mp (by have hl := f5.length; rw [Array.length_toList] at hl; exact hl.trans hy0)
        repeat' walk1
        · rename_i htr _ _ _ _ S₃
          have htr : trimB c = c := Array.toList_inj.mp (by simpa using htr)
          have hP : Paired (fun c v => ∃ t, v = Value.int (c.toNat : Int) t) NT [.int 0 k3, .int 10 (k3 + 1), .int 11 (k3 + 1 + 1), .int 12 (k3 + 1 + 1 + 1), .int 13 (k3 + 1 + 1 + 1 + 1)] := .cons ⟨_, rfl⟩ (.cons ⟨_, rfl⟩ (.cons ⟨_, rfl⟩ (.cons ⟨_, rfl⟩ (.cons ⟨_, rfl⟩ .nil))))
          refine src_tuple (by exact am.hd) ⟨_, S₃.mine _ (.head _), rfl, 0, rfl⟩ (by size_fits) fun I' s₂' src' => ?_
          refine ask_items NT (fun c v => ∃ t, v = .int (c.toNat : Int) t) hP src' (fun x => c.contains x) (fun _ c y => ∃ t, y = .int (c.toNat : Int) t) (fun _ _ _ _ _ h => h) ?_ ?_
          · rintro C x v s₃ m₃ E' z₃ - ⟨t, rfl⟩ e1 e2 S₄
            have am₃ := am.ext ((S₃.froz (.tail _ (.head _))).trans e1)
            have hcl : z₃.get? (L + 1) = some o1 := e1 _ _ (S₃.mine _ (.tail _ (.head _)))
            unfold TurnA
            repeat' walk1
            all_goals first
              | exact tSkip (by assumption) (.head _) e2
              | exact tEnd (by assumption) (.head _) e2 ⟨_, rfl⟩
              | exact Eq.symm (by assumption)
          · intro D' h5 tk5 ys' nn' z' g1 g2 g3 g4 g5
            have S₅ := S₃.add g1 g3 g2
            clear S₃
            repeat' walk1
            rename_i S₆
            refine eq_empty (by exact am.cl) (listAt g4 (S₆.froz (.head _))) (listAt (S₆.mine _ (.head _)) (fun _ _ h => h)) ?_
            refine (congrArg (fun x => Q (.bool x) _) ?_).mp (hQ _ _ (S₆.froz (.tail _ (.tail _ (.head _)))))
            unfold goodB
            have hl := g5.length
            have hsz : ys'.size = (NT.filter fun x => c.contains x).length := by rw [Array.length_toList] at hl; exact hl.symm
            rw [hn, hall, decide_eq_true htr, Bool.not_false, Bool.true_and, Bool.true_and, Bool.true_and, hsz, Bool.eq_iff_iff, decide_eq_true_eq]
            exact filter_any.symm
        · rename_i htr
          refine (congrArg (fun x => Q (.bool x) _) ?_).mp (hQ _ _ (S₂.froz (.tail _ (.head _))))
          have hne : ¬ trimB c = c := fun q => by rw [q] at htr; simp at htr
          rw [htr]
          unfold goodB
          rw [decide_eq_false hne, Bool.and_false, Bool.false_and]
      · rename_i hy0
        repeat' walk1
        refine (congrArg (fun x => Q (.bool x) _) ?_).mp (hQ _ _ (S₂.froz (.tail _ (.head _))))
        have hall : b.toList.all okc = false := by
          cases q : b.toList.all okc with
          | false => rfl
          | true =>
            have := filter_len.mpr q
            have hl := f5.length
            rw [Array.length_toList] at hl
            exact absurd (hl.symm.trans this) hy0
        unfold goodB
        rw [hall, Bool.and_false, Bool.false_and, Bool.false_and]
end
end
-- part MP
theorem start_MP : True := by
  w_top off
  trivial
section
section
variable {zs zs' : List Heap} {L : Addr} {m : Str → Option Value} {own own' : List (Addr × Obj)} {h : Heap}
theorem St.part (S : St zs L m own h) (ho : own'.Sublist own) (hs : ∀ z ∈ zs', z ∈ zs) : St zs' L m own' h := by
  have hm : (own'.map (·.1)).Sublist (own.map (·.1)) := ho.map _
  refine ⟨S.ns, fun p hp => S.mine p (ho.subset hp), S.nd.sublist (hm.cons₂ L), fun z hz => ⟨(S.fz z (hs z hz)).1, fun a ha => (S.fz z (hs z hz)).2 a ?_⟩⟩
  exact (hm.cons₂ L).subset ha
end
section
variable {prog : Program} {w : World} {M : Model} {A : Around} {E : Value → Shared → Prop} {s : Shared} {env : Env} {zs : List Heap} {L : Addr} {m : Str → Option Value} {own : List (Addr × Obj)}
theorem unpackSt {elts : List Expr} {k} {pos : Pos} {t : Addr} {items : Array Value} {Q : Unit → Shared → Prop} (hh : A.handled = none) (S : St zs L m own s.heap) (ht : s.heap.IsTuple t items) (hn : (assignEach elts env).length = items.size) (hstar : (assignEach elts env).findIdx? (·.1) = none)
    (h : ∀ h', Ext s.heap h' → St zs L m own h' → wpAny (model prog w) A (assignInOrder ((assignEach elts env).map (·.2)) items.toList) Q E { s with heap := h' }) :
    wpAny (model prog w) A (assign (.Tuple elts k pos) env (.ref t)) Q E s :=
  wpAny_assign_Tuple hh ht hn hstar fun h' he =>
    have e : Ext s.heap h' := fun b o q => he b o (Nat.ne_of_lt (Heap.lt_size q)) q
    h h' e (S.ext e)
theorem stCellAt {pre post : List (Addr × Obj)} {x : Str} {v : Value} {v₀ : Option Value} {c : Addr} {o : Obj} {Q : Unit → Shared → Prop} (S : St zs L m (pre ++ (c, o) :: post) s.heap) (hd : o.data = .cell v₀) (hc : env.cells.lookup x = some c)
    (h : ∀ h' o', o'.data = .cell (some v) → St zs L m (pre ++ (c, o') :: post) h' → Q () { s with heap := h' })
    (hk : env.scope.kind = .function := by rfl) (hx : env.kindOf x = some .cell := by rfl) : wpAny M A (storeName env x v) Q E s := by
  refine wpAny_storeName_cell hk hx hc ⟨o, S.mine _ (List.mem_append_right _ (.head _)), hd⟩ fun h' hv hs => ?_
  obtain ⟨o', ho', hd'⟩ := hv
  exact h h' o' hd' (S.updAt hs ho')
theorem stCell0 {post : List (Addr × Obj)} {x : Str} {v : Value} {v₀ : Option Value} {c : Addr} {o : Obj} {Q : Unit → Shared → Prop} (hc : env.cells.lookup x = some c) (hk : (env.scope.kind == .function && env.kindOf x == some .cell) = true) (S : St zs L m ((c, o) :: post) s.heap) (hd : o.data = .cell v₀)
    (h : ∀ h' o', o'.data = .cell (some v) → St zs L m ((c, o') :: post) h' → Q () { s with heap := h' }) : wpAny M A (storeName env x v) Q E s := by
  rw [Bool.and_eq_true, beq_iff_eq, beq_iff_eq] at hk
  exact stCellAt (pre := []) S hd hc h hk.1 hk.2
theorem stCell1 {post : List (Addr × Obj)} {p : Addr × Obj} {x : Str} {v : Value} {v₀ : Option Value} {c : Addr} {o : Obj} {Q : Unit → Shared → Prop} (hc : env.cells.lookup x = some c) (hk : (env.scope.kind == .function && env.kindOf x == some .cell) = true) (S : St zs L m (p :: (c, o) :: post) s.heap) (hd : o.data = .cell v₀)
    (h : ∀ h' o', o'.data = .cell (some v) → St zs L m (p :: (c, o') :: post) h' → Q () { s with heap := h' }) : wpAny M A (storeName env x v) Q E s := by
  rw [Bool.and_eq_true, beq_iff_eq, beq_iff_eq] at hk
  exact stCellAt (pre := [p]) S hd hc h hk.1 hk.2
theorem stCell2 {post : List (Addr × Obj)} {p q : Addr × Obj} {x : Str} {v : Value} {v₀ : Option Value} {c : Addr} {o : Obj} {Q : Unit → Shared → Prop} (hc : env.cells.lookup x = some c) (hk : (env.scope.kind == .function && env.kindOf x == some .cell) = true) (S : St zs L m (p :: q :: (c, o) :: post) s.heap) (hd : o.data = .cell v₀)
    (h : ∀ h' o', o'.data = .cell (some v) → St zs L m (p :: q :: (c, o') :: post) h' → Q () { s with heap := h' }) : wpAny M A (storeName env x v) Q E s := by
  rw [Bool.and_eq_true, beq_iff_eq, beq_iff_eq] at hk
  exact stCellAt (pre := [p, q]) S hd hc h hk.1 hk.2
theorem stCell3 {post : List (Addr × Obj)} {p q r : Addr × Obj} {x : Str} {v : Value} {v₀ : Option Value} {c : Addr} {o : Obj} {Q : Unit → Shared → Prop} (hc : env.cells.lookup x = some c) (hk : (env.scope.kind == .function && env.kindOf x == some .cell) = true) (S : St zs L m (p :: q :: r :: (c, o) :: post) s.heap) (hd : o.data = .cell v₀)
    (h : ∀ h' o', o'.data = .cell (some v) → St zs L m (p :: q :: r :: (c, o') :: post) h' → Q () { s with heap := h' }) : wpAny M A (storeName env x v) Q E s := by
  rw [Bool.and_eq_true, beq_iff_eq, beq_iff_eq] at hk
  exact stCellAt (pre := [p, q, r]) S hd hc h hk.1 hk.2
end
end
local macro_rules | `(tactic| walk_at "storeName") => `(tactic| k_dflt (first
  | (refine stCell0 rfl rfl ‹_› ‹_› ?_; walk_at "m_o")
  | (refine stCell1 rfl rfl ‹_› ‹_› ?_; walk_at "m_o")
  | (refine stCell2 rfl rfl ‹_› ‹_› ?_; walk_at "m_o")
  | (refine stCell3 rfl rfl ‹_› ‹_› ?_; walk_at "m_o")))
section

/-- a list object of pairs -/
noncomputable def PList (l : List (Array UInt8 × Array UInt8)) (z : Heap) (v : Value) : Prop := ∃ a vs n, v = .ref a ∧ z.get? a = some (listOf vs n) ∧ Paired (fun p v => PairV p z v) l vs.toList
theorem PList.ext {l : List (Array UInt8 × Array UInt8)} {z z' : Heap} {v : Value} (x : PList l z v) (e : Ext z z') : PList l z' v := by
  obtain ⟨a, vs, n, rfl, ho, hp⟩ := x
  exact ⟨a, vs, n, rfl, e _ _ ho, hp.mono fun _ _ h => h.ext e⟩

/-- a tuple of the block's own joins a frozen heap -/
theorem St.freezePair {z₀ z : Heap} {zs : List Heap} {L : Addr} {m : Str → Option Value} {own : List (Addr × Obj)} {h : Heap} {t : Addr} {v1 v2 : Value} {p : Array UInt8 × Array UInt8} (S : St zs L m ((t, tupOf #[v1, v2]) :: own) h) (hz : z ∈ zs) (h0 : z₀ ∈ zs) (hf : Fresh z₀ z) (b1 : BV p.1 v1) (b2 : BV p.2 v2) :
    ∃ z', Ext z z' ∧ Fresh z₀ z' ∧ PairV p z' (.ref t) ∧ St (z' :: zs) L m own h := by
  obtain ⟨z', e1, e2, e3, S'⟩ := S.freeze hz
  refine ⟨z', e1, fun b ob q => ?_, ⟨t, v1, v2, rfl, ⟨_, e2, rfl, 0, rfl⟩, b1, b2⟩, S'⟩
  rcases e3 b ob q with rfl | hq
  · exact (S.fz z₀ h0).2 b (.tail _ (.head _))
  · obtain ⟨o, ho⟩ := Option.isSome_iff_exists.mp hq
    exact hf b o ho
end
-- part U8
theorem start_U8 : True := by
  w_top off
  trivial
section
abbrev Oct := Array UInt8
abbrev Pair := Oct × Oct
noncomputable def CL : Oct := #[99, 111, 110, 116, 101, 110, 116, 45, 108, 101, 110, 103, 116, 104]
noncomputable def TE : Oct := #[116, 114, 97, 110, 115, 102, 101, 114, 45, 101, 110, 99, 111, 100, 105, 110, 103]
noncomputable def CHK : Oct := #[99, 104, 117, 110, 107, 101, 100]
structure Due where
  told : List Pair
  length : Oct
  coded : Bool
noncomputable def badLen (parts : List Oct) : Bool :=
  parts.any (fun p => decide (p ≠ parts.headD #[])) || decide (parts.headD #[] = #[]) || decide ((parts.headD #[]).size > 20) || (parts.headD #[]).toList.any fun c => decide ((c.toNat : Int) < 48 ∨ (c.toNat : Int) > 57)
noncomputable def dueStep (st : Due) (p : Pair) : Except Int Due :=
  if goodB p.1 p.2 = false then .error 400
  else if lowB p.1 = CL then
    if badLen ((splitB p.2).map trimB) = true then .error 400
    else if st.length ≠ #[] ∧ st.length ≠ ((splitB p.2).map trimB).headD #[] then .error 400
    else .ok { st with told := if st.length = #[] then st.told ++ [(p.1, ((splitB p.2).map trimB).headD #[])] else st.told, length := ((splitB p.2).map trimB).headD #[] }
  else if lowB p.1 = TE then
    if st.coded = true ∨ lowB p.2 ≠ CHK then .error 501
    else .ok { st with told := st.told ++ [(p.1, CHK)], coded := true }
  else .ok { st with told := st.told ++ [p] }
noncomputable def duePs (ps : List Pair) : Except Int Due := ps.foldlM dueStep ⟨[], #[], false⟩
noncomputable def SmallP (ps : List Pair) : Prop := ps.length ≤ 100 ∧ ∀ p ∈ ps, p.1.size ≤ 1000 ∧ p.2.size ≤ 1000
abbrev DueU (h₀ : Heap) (L : Addr) (ps : List Pair) (i : Nat) (zs : List Heap) (m : Str → Option Value) (own : List (Addr × Obj)) : Prop :=
  ∃ zacc a vs k d o v0 tl, zs = [zacc, h₀] ∧ Fresh h₀ zacc ∧ own = [(a, listOf (List.toArray vs) k), (L + 1, o)] ∧ o.data = .cell v0 ∧ m (Str.ofString "told") = some (.ref a) ∧ m (Str.ofString "length") = some (.bytes d.length tl) ∧ m (Str.ofString "coded") = some (.bool d.coded) ∧
    (ps.take i).foldlM dueStep ⟨[], #[], false⟩ = .ok d ∧ Paired (fun p v => PairV p zacc v) d.told vs
theorem due_snoc {ps : List Pair} {i : Nat} {p : Pair} {d : Due} (hp : ps[i]? = some p) (hd : (ps.take i).foldlM dueStep ⟨[], #[], false⟩ = .ok d) : (ps.take (i + 1)).foldlM dueStep ⟨[], #[], false⟩ = dueStep d p := by
  rw [List.take_add_one, hp, List.foldlM_append, hd]
  simp only [Option.toList, List.foldlM_cons, List.foldlM_nil, bind, Except.bind, pure, Except.pure]
  cases dueStep d p <;> rfl
theorem due_stop {ps : List Pair} {i : Nat} {p : Pair} {d : Due} {k : Int} (hp : ps[i]? = some p) (hd : (ps.take i).foldlM dueStep ⟨[], #[], false⟩ = .ok d) (hk : dueStep d p = .error k) : duePs ps = .error k := by
  unfold duePs
  conv => lhs; arg 3; rw [← List.take_append_drop (i + 1) ps]
  rw [List.foldlM_append, due_snoc hp hd, hk]
  rfl
theorem arr_eq {a b : Oct} (h : (a.toList == b.toList) = true) : a = b := Array.toList_inj.mp (eq_of_beq h)
theorem arr_ne {a b : Oct} (h : (a.toList == b.toList) = false) : a ≠ b := fun q => by rw [q] at h; simp at h
theorem arr_nne {a b : Oct} (h : (a.toList != b.toList) = false) : a = b := Array.toList_inj.mp (by simpa using h)
theorem arr_nee {a b : Oct} (h : (a.toList != b.toList) = true) : a ≠ b := fun q => by rw [q] at h; simp at h
theorem st_bad {d : Due} {n x : Oct} (h : goodB n x = false) : dueStep d (n, x) = .error 400 := if_pos h
theorem st_te {d : Due} {n x : Oct} (h : goodB n x = true) (h1 : lowB n ≠ CL) (h2 : lowB n = TE) (h3 : d.coded = true ∨ lowB x ≠ CHK) : dueStep d (n, x) = .error 501 := by
  unfold dueStep
  rw [if_neg (by rw [h]; simp), if_neg h1, if_pos h2, if_pos h3]
theorem st_teo {d : Due} {n x : Oct} (h : goodB n x = true) (h1 : lowB n ≠ CL) (h2 : lowB n = TE) (h3 : d.coded = false) (h4 : lowB x = CHK) : dueStep d (n, x) = .ok { d with told := d.told ++ [(n, CHK)], coded := true } := by
  unfold dueStep
  rw [if_neg (by rw [h]; simp), if_neg h1, if_pos h2, if_neg (by rw [h3]; simp [h4])]
theorem st_plain {d : Due} {n x : Oct} (h : goodB n x = true) (h1 : lowB n ≠ CL) (h2 : lowB n ≠ TE) : dueStep d (n, x) = .ok { d with told := d.told ++ [(n, x)] } := by
  unfold dueStep
  rw [if_neg (by rw [h]; simp), if_neg h1, if_neg h2]
theorem step_len {d d' : Due} {p : Pair} (h : dueStep d p = .ok d') : d'.told.length ≤ d.told.length + 1 := by
  unfold dueStep at h
  repeat' (split at h)
  all_goals first | (cases h; done) | (cases h; (try split) <;> simp)
theorem fold_len : ∀ (ps : List Pair) (d d' : Due), ps.foldlM dueStep d = .ok d' → d'.told.length ≤ d.told.length + ps.length
  | [], d, d', h => by cases h; simp
  | p :: ps, d, d', h => by
    rw [List.foldlM_cons] at h
    cases q : dueStep d p with
    | error k => rw [q] at h; cases h
    | ok d1 =>
      rw [q] at h
      have h1 := step_len q
      have h2 := fold_len ps d1 d' h
      simp only [List.length_cons]; omega
theorem pair_map {α β γ : Type} {R : β → γ → Prop} {f : α → β} : ∀ {l : List α} {ys : List γ}, Paired (fun a y => R (f a) y) l ys → Paired R (l.map f) ys
  | _, _, .nil => .nil
  | _, _, .cons h r => .cons h (pair_map r)
theorem st_clbad {d : Due} {n x p0 : Oct} {parts : List Oct} (h : goodB n x = true) (h1 : lowB n = CL) (hps : (splitB x).map trimB = parts) (hp : parts.headD #[] = p0)
    (hb : (parts.any (fun p => decide (p ≠ p0)) || decide (p0 = #[]) || decide (p0.size > 20) || p0.toList.any fun c => decide ((c.toNat : Int) < 48 ∨ (c.toNat : Int) > 57)) = true) : dueStep d (n, x) = .error 400 := by
  unfold dueStep
  dsimp only
  rw [if_neg (by rw [h]; simp), if_pos h1, hps, if_pos (by unfold badLen; rw [hp]; exact hb)]
theorem st_cllen {d : Due} {n x p0 : Oct} {parts : List Oct} (h : goodB n x = true) (h1 : lowB n = CL) (hps : (splitB x).map trimB = parts) (hp : parts.headD #[] = p0)
    (hb : (parts.any (fun p => decide (p ≠ p0)) || decide (p0 = #[]) || decide (p0.size > 20) || p0.toList.any fun c => decide ((c.toNat : Int) < 48 ∨ (c.toNat : Int) > 57)) = false) (hl1 : d.length ≠ #[]) (hl2 : d.length ≠ p0) : dueStep d (n, x) = .error 400 := by
  unfold dueStep
  dsimp only
  rw [if_neg (by rw [h]; simp), if_pos h1, hps, if_neg (by unfold badLen; rw [hp, hb]; simp), hp, if_pos ⟨hl1, hl2⟩]
theorem st_clok {d : Due} {n x p0 : Oct} {parts : List Oct} (h : goodB n x = true) (h1 : lowB n = CL) (hps : (splitB x).map trimB = parts) (hp : parts.headD #[] = p0)
    (hb : (parts.any (fun p => decide (p ≠ p0)) || decide (p0 = #[]) || decide (p0.size > 20) || p0.toList.any fun c => decide ((c.toNat : Int) < 48 ∨ (c.toNat : Int) > 57)) = false) (hl : d.length = #[] ∨ d.length = p0) :
    dueStep d (n, x) = .ok { d with told := if d.length = #[] then d.told ++ [(n, p0)] else d.told, length := p0 } := by
  unfold dueStep
  dsimp only
  rw [if_neg (by rw [h]; simp), if_pos h1, hps, if_neg (by unfold badLen; rw [hp, hb]; simp), hp, if_neg (by rintro ⟨q1, q2⟩; rcases hl with q | q; exact q1 q; exact q2 q)]
theorem any_len {α : Type} {p : α → Bool} {l : List α} {k : Nat} (h : (l.filter p).length = k) : l.any p = decide (k ≠ 0) := by
  rw [Bool.eq_iff_iff, decide_eq_true_eq, List.any_eq_true, ← h, Ne, List.length_eq_zero_iff, List.filter_eq_nil_iff]
  constructor
  · rintro ⟨a, ha, hp⟩ hn; exact hn a ha hp
  · intro hn
    apply Classical.byContradiction
    intro hc
    exact hn fun a ha hp => hc ⟨a, ha, hp⟩
theorem due_close2 {h₀ zacc : Heap} {L I a : Addr} {oI o : Obj} {m : Str → Option Value} {vs : List Value} {tl : Tok} {k i : Nat} {h : Heap} {tk : Nat} {s₀ : Shared} {Q : Flow → Shared → Prop} {ps : List Pair} {d : Due} {v0 : Option Value}
    (S : St [zacc, h₀] L m [(I, oI), (a, listOf vs.toArray k), (L + 1, o)] h) (hfr : Fresh h₀ zacc) (hod : o.data = .cell v0)
    (hm1 : m (Str.ofString "told") = some (.ref a)) (hm2 : m (Str.ofString "length") = some (.bytes d.length tl)) (hm3 : m (Str.ofString "coded") = some (.bool d.coded)) (hs : (ps.take (i + 1)).foldlM dueStep ⟨[], #[], false⟩ = .ok d)
    (hT : Paired (fun p v => PairV p zacc v) d.told vs) : TurnEnd L I oI (DueU h₀ L ps (i + 1)) s₀ Q .next { s₀ with heap := h, toks := tk } :=
  ⟨[zacc, h₀], m, _, S, ⟨zacc, a, vs, k, d, o, v0, tl, rfl, hfr, rfl, hod, hm1, hm2, hm3, hs, hT⟩, rfl⟩
theorem due_close {h₀ zacc : Heap} {L I a t : Addr} {oI o : Obj} {m : Str → Option Value} {vs : List Value} {t1 t2 tl : Tok} {k i : Nat} {h : Heap} {tk : Nat} {s₀ : Shared} {Q : Flow → Shared → Prop} {ps : List Pair} {d d' : Due} {n x : Oct} {v0 : Option Value}
    (S : St [zacc, h₀] L m [(t, tupOf #[.bytes n t1, .bytes x t2]), (I, oI), (a, listOf (vs.toArray.push (.ref t)) (k + 1)), (L + 1, o)] h) (hfr : Fresh h₀ zacc) (hod : o.data = .cell v0)
    (hm1 : m (Str.ofString "told") = some (.ref a)) (hm2 : m (Str.ofString "length") = some (.bytes d'.length tl)) (hm3 : m (Str.ofString "coded") = some (.bool d'.coded)) (hs : (ps.take (i + 1)).foldlM dueStep ⟨[], #[], false⟩ = .ok d') (hd : d'.told = d.told ++ [(n, x)])
    (hT : Paired (fun p v => PairV p zacc v) d.told vs) : TurnEnd L I oI (DueU h₀ L ps (i + 1)) s₀ Q .next { s₀ with heap := h, toks := tk } := by
  obtain ⟨z', e1, e2, e3, S'⟩ := S.freezePair (p := (n, x)) (.head _) (.tail _ (.head _)) hfr ⟨_, rfl⟩ ⟨_, rfl⟩
  refine ⟨[z', h₀], m, _, S'.part (List.Sublist.refl _) (by simp), ⟨z', a, vs ++ [.ref t], k + 1, d', o, v0, tl, rfl, e2, by simp, hod, hm1, hm2, hm3, hs, ?_⟩, rfl⟩
  rw [hd]
  exact (hT.mono fun _ _ h => h.ext e1).snoc e3
end
local macro_rules | `(tactic| walk_at "subscriptTail") => `(tactic| k_dflt ((with_reducible show wpAny _ _ (subscriptTail _ _ (Value.ref _) (Value.int _ _)) _ _ _); refine item_list (listAt (by with_reducible assumption) (St.froz (by with_reducible assumption) (by walk_at "m_mem"))) (by decide) (by decide) (by first | with_reducible assumption | (simp only [Int.toNat_zero]; with_reducible assumption)) ?_))
section
section
variable {prog : Program} {w : World} {A : Around} {E : Value → Shared → Prop} {s : Shared} {fr : List Env} {ps : List Pair} {l : Value} {Q : Value → Shared → Prop}
theorem due_ok (am : Amb w A 8 80 fr s.heap) (hl : PList ps s.heap l) (hb : SmallP ps)
    (hQ1 : ∀ h' tk' k t, duePs ps = .error k → Ext s.heap h' → Q (.int k t) { s with heap := h', toks := tk' })
    (hQ2 : ∀ h' tk' v z d, duePs ps = .ok d → Ext s.heap h' → Ext z h' → Fresh s.heap z → PList d.told z v → Q v { s with heap := h', toks := tk' }) :
    wpAny (model prog w) A (call (.ref 251) [l]) Q E s := by
  obtain ⟨la, lvs, ln, rfl, hlo, hlp⟩ := hl
  refine wpAny_call ?_
  refine enterC (binds := [(Str.ofString "pairs", .ref la)]) am (by k_is) (by k_is) (BindsTo.of_eq rfl) rfl (by decide) fun L h₁ tk₁ cells hL hC S => ?_
  obtain ⟨o1, rfl, hc1⟩ := CellsAre.one hC
  replace hc1 : o1.data = .cell none := hc1
  replace S : St [s.heap] L (fun y => if y = Str.ofString "pairs" then some (.ref la) else none) [(L+1, o1)] h₁ := S
  clear hC
  dsimp only
  repeat' walk1
  have S0 := ‹St _ _ _ [_, _] _›.nil
  refine for_list (items := lvs.toList) (by exact am.hd) rfl ‹St _ _ _ [_, _] _›.nil (.tail _ (.head _)) ⟨_, hlo, rfl, ln, by simp⟩ (DueU s.heap L ps) ⟨{}, _, [], 0, ⟨[], #[], false⟩, o1, none, _, rfl, (fun a o q => by simp [Heap.get?] at q), rfl, hc1, rfl, rfl, rfl, rfl, .nil⟩ (fun i zs m own h => by obtain ⟨_, _, _, _, _, _, _, _, rfl, _⟩ := h; exact .tail _ (.head _)) ?_ ?_
  · rintro i v zs m own s' I oI hv ⟨zacc, a, vs, k, d, o, v0, tl, rfl, hfr, rfl, hod, hm1, hm2, hm3, hd, hT⟩ S₁ es
    have hi : i < ps.length := by
      have h1 := List.getElem?_eq_some_iff.mp hv
      obtain ⟨h1, _⟩ := h1
      have := hlp.length; omega
    have hp : ps[i]? = some ps[i] := List.getElem?_eq_getElem hi
    have hpv : PairV ps[i] s.heap v := by
      obtain ⟨h1, h2⟩ := List.getElem?_eq_some_iff.mp hv
      rw [← h2]; exact pair_at hlp i hi h1
    generalize ps[i] = p at hp hpv
    obtain ⟨n, x⟩ := p
    obtain ⟨ta, v1, v2, rfl, ht, ⟨t1, e1⟩, ⟨t2, e2⟩⟩ := hpv
    dsimp only at e1 e2
    subst e1 e2
    obtain ⟨hn, hx⟩ := hb.2 _ (List.mem_of_getElem? hp)
    dsimp only at hn hx
    have hk : vs.length ≤ 1000 := by
      have h1 := fold_len _ _ _ hd
      have h2 := hT.length
      have h4 : (ps.take i).length ≤ 100 := Nat.le_trans (List.take_sublist _ _).length_le hb.1
      rw [← h2]; exact Nat.le_trans h1 (Nat.le_trans (Nat.add_le_add (Nat.le_refl 0) h4) (by decide))
    rw [es]
    dsimp only
    clear S0
    refine genT fun Q8 E8 hq8 he8 => ?_
    refine unpackSt (by exact am.hd) S₁ (by obtain ⟨o9, h9, r9⟩ := ht; exact ⟨o9, S₁.froz (.tail _ (.head _)) _ _ h9, r9⟩) rfl rfl fun h₂ e2 S₂ => ?_
    clear S₁
    dsimp only
    repeat' walk1
    rename_i S₃
    refine good_ok (by exact am.sub S₃ (.tail _ (.head _))) hn hx fun h₃ k₃ e₃ => ?_
    replace S₃ := S₃.ext e₃
    dsimp only
    repeat' walk1
    · rename_i S₃
      have hcl : lowB n = CL := arr_eq (by assumption)
      have hB := ‹BytesAre (splitB x) _›
      have hg : goodB n x = true := by assumption
      refine src_list (by exact am.hd) (listAt (S₃.mine _ (.head _)) (fun _ _ h => h)) (by rw [List.size_toArray, ← hB.length, sizeLine_eq]; have := splitB_length x; omega) fun I₁ s₂ src => ?_
      refine ask_items (splitB x) BV hB src (fun _ => true) (fun _ p y => BV (trimB p) y) (fun _ _ _ _ _ h => h) ?_ ?_
      · rintro C q u s₃ m₃ E' z₃ hq ⟨tq, rfl⟩ e1 e2 S₄
        have am₃ := am.ext ((S₃.froz (.tail _ (.head _))).trans e1)
        unfold TurnA
        repeat' walk1
        have S₅ := ‹St [z₃] C _ _ _›
        have hqs := splitB_size hq
        refine trim_ok (by exact ((am.sub S₃ (.tail _ (.head _))).ext e1).ext (S₅.froz (.head _))) (by omega) fun h5 k5 t5 e5 => ?_
        exact tEnd (S₅.ext e5) (.head _) e2 ⟨_, rfl⟩
      · intro D h' tk' ys nn z f1 f2 f3 f4 f5
        have S₄ := S₃.add f1 f3 f2
        clear S₃ src
        replace S₄ := S₄.part (own' := [(I, oI), (a, listOf vs.toArray k), (L + 1, o)]) (List.sublist_cons_self _ _) (fun _ h => h)
        rw [List.filter_eq_self.mpr (fun _ _ => rfl)] at f5
        have f5 := pair_map f5
        generalize hps : (splitB x).map trimB = parts at f5
        have hpne : parts ≠ [] := by rw [← hps]; simpa using splitB_ne x
        have hpsz : ∀ q ∈ parts, q.size ≤ 1000 := fun q hq => by
          rw [← hps] at hq
          obtain ⟨r, hr, rfl⟩ := List.mem_map.mp hq
          have := splitB_size hr
          have := trimB_size (b := r); omega
        have hplen : parts.length ≤ 1002 := by rw [← hps, List.length_map]; have h9 := splitB_length x; have h8 : x.size ≤ 1000 := hx; exact Nat.le_trans h9 (Nat.add_le_add_right h8 2)
        have hyl : ys.size ≤ 1002 := by have h9 := f5.length; rw [Array.length_toList] at h9; exact Nat.le_trans (Nat.le_of_eq h9.symm) hplen
        obtain ⟨p0, hp0⟩ : ∃ p0, parts[0]? = some p0 := by cases parts with | nil => exact absurd rfl hpne | cons a l => exact ⟨a, rfl⟩
        have hp0d : parts.headD #[] = p0 := by cases parts with | nil => cases hp0 | cons a l => cases hp0; rfl
        obtain ⟨tp0, hy0⟩ : ∃ t, ys[0]? = some (.bytes p0 t) := by
          cases parts with
          | nil => cases hp0
          | cons a l =>
            cases hp0
            obtain ⟨ys⟩ := ys
            cases f5 with
            | cons h _ => obtain ⟨t, rfl⟩ := h; exact ⟨t, rfl⟩
        have hp0s : p0.size ≤ 1000 := hpsz p0 (List.mem_of_getElem? hp0)
        walk1
        walk1
        walk1
        walk1
        walk1
        rename_i o₅ hd₅ S₅
        walk1
        walk1
        refine src_list (by exact am.hd) (listAt f4 (S₅.froz (.head _))) (by rw [sizeLine_eq]; omega) fun I₂ s₃ src => ?_
        refine ask_items parts BV f5 src (fun q => decide (q ≠ p0)) (fun _ q y => BV q y) (fun _ _ _ _ _ h => h) ?_ ?_
        · rintro C q u s₃ m₃ E' z₃ hq ⟨tq, rfl⟩ e1 e2 S₆
          have am₃ := am.ext ((S₅.froz (.tail _ (.tail _ (.head _)))).trans e1)
          have hcl₃ : z₃.get? (L + 1) = some o₅ := e1 _ _ (S₅.mine _ (.tail _ (.tail _ (.head _))))
          unfold TurnA
          repeat' walk1
          have S₇ := ‹St [z₃] C _ _ _›
          refine item_list (listAt f4 (((S₅.froz (.head _)).trans e1).trans (S₇.froz (.head _)))) (by decide) (by decide) hy0 ?_
          repeat' walk1
          all_goals first
            | exact tSkip (by assumption) (.head _) e2
            | exact tEnd (by assumption) (.head _) e2 ⟨_, rfl⟩
            | skip
          rw [Bool.eq_iff_iff, decide_eq_true_eq]
          simp
        · intro D₂ h₆ tk₆ ys₂ nn₂ z₂ g1 g2 g3 g4 g5
          have S₆ := S₅.add g1 g3 g2
          clear S₅ src
          repeat' walk1
          rename_i S₇
          refine ne_empty (by exact am.cl) (listAt g4 (S₇.froz (.head _))) (listAt (S₇.mine _ (.head _)) (fun _ _ h => h)) ?_
          replace S₇ := S₇.drop
          have hA := any_len (l := parts) (p := fun q => decide (q ≠ p0)) (k := ys₂.size) (by have h9 := g5.length; rw [Array.length_toList] at h9; exact h9)
          repeat' walk1
          · exact hq8 _ _ (hQ1 _ _ _ _ (due_stop hp hd (st_clbad hg hcl hps hp0d (by rw [decide_eq_true (arr_eq (by assumption) : p0 = #[])]; simp))) (S₇.froz (.tail _ (.tail _ (.tail _ (.head _))))))
          · exact hq8 _ _ (hQ1 _ _ _ _ (due_stop hp hd (st_clbad hg hcl hps hp0d (by rw [decide_eq_true (show p0.size > 20 by omega)]; simp))) (S₇.froz (.tail _ (.tail _ (.tail _ (.head _))))))
          · rename_i hy2 hpe hpl
            have hpe := arr_ne hpe
            have hB3 : (parts.any (fun p => decide (p ≠ p0)) || decide (p0 = #[]) || decide (p0.size > 20)) = false := by
              rw [hA, hy2, decide_eq_false hpe, decide_eq_false (show ¬ p0.size > 20 by omega)]; rfl
            refine src_bytes (by exact am.hd) (by rw [sizeLine_eq]; omega) fun I₃ s₄ src => ?_
            refine ask_bytes src (fun c => decide ((c.toNat : Int) < 48 ∨ (c.toNat : Int) > 57)) (fun c y => ∃ t, y = .int (c.toNat : Int) t) ?_ ?_
            · rintro C c u s₃ m₃ E' z₃ hq e1 e2 S₈
              have am₃ := am.ext ((S₇.froz (.tail _ (.tail _ (.tail _ (.head _))))).trans e1)
              unfold TurnA
              repeat' walk1
              all_goals first
                | exact tSkip (by assumption) (.head _) e2
                | exact tEnd (by assumption) (.head _) e2 ⟨_, rfl⟩
                | exact (decide_eq_true (by omega)).symm
                | exact (decide_eq_false (by omega)).symm
                | exact decide_eq_decide.mpr (by constructor <;> omega)
            · intro D₃ h₈ tk₈ ys₃ nn₃ z₅ k1 k2 k3 k4 k5
              have S₈ := S₇.add k1 k3 k2
              clear S₇ src
              repeat' walk1
              rename_i S₉
              refine ne_empty (by exact am.cl) (listAt k4 (S₉.froz (.head _))) (listAt (S₉.mine _ (.head _)) (fun _ _ h => h)) ?_
              replace S₉ := S₉.drop
              have hD := any_len (l := p0.toList) (p := fun c => decide ((c.toNat : Int) < 48 ∨ (c.toNat : Int) > 57)) (k := ys₃.size) (by have h9 := k5.length; rw [Array.length_toList] at h9; exact h9)
              repeat' walk1
              · exact hq8 _ _ (hQ1 _ _ _ _ (due_stop hp hd (st_cllen hg hcl hps hp0d (by rw [hB3, hD, decide_eq_false (by omega)]; rfl) (arr_nee (by assumption)) (arr_nee (by assumption)))) (S₉.froz (.tail _ (.tail _ (.tail _ (.tail _ (.head _)))))))
              · exact absurd (arr_eq (by assumption) : d.length = #[]) (arr_nee (by assumption))
              · rename_i S10
                have hne : d.length ≠ #[] := arr_nee (by assumption)
                have h10 := S10.part (zs' := [zacc, s.heap]) (List.Sublist.refl _) (by simp)
                exact hq8 _ _ (due_close2 (d := { d with length := p0 }) h10 hfr (by assumption) hm1 rfl hm3 (by rw [due_snoc hp hd, st_clok hg hcl hps hp0d (by rw [hB3, hD, decide_eq_false (by omega)]; rfl) (.inr (arr_nne (by assumption))), if_neg hne]) hT)
              · rename_i S10
                have he : d.length = #[] := arr_eq (by assumption)
                have h10 := S10.part (zs' := [zacc, s.heap]) (List.Sublist.refl _) (by simp)
                exact hq8 _ _ (due_close (d' := { d with told := d.told ++ [(n, p0)], length := p0 }) h10 hfr (by assumption) hm1 rfl hm3 (by rw [due_snoc hp hd, st_clok hg hcl hps hp0d (by rw [hB3, hD, decide_eq_false (by omega)]; rfl) (.inl he), if_pos he]) rfl hT)
              · exact absurd (arr_nne (by assumption) : d.length = #[]) (arr_ne (by assumption))
              · exact hq8 _ _ (hQ1 _ _ _ _ (due_stop hp hd (st_clbad hg hcl hps hp0d (by rw [hB3, hD, decide_eq_true (by assumption)]; rfl))) (S₉.froz (.tail _ (.tail _ (.tail _ (.tail _ (.head _)))))))
          · exact hq8 _ _ (hQ1 _ _ _ _ (due_stop hp hd (st_clbad hg hcl hps hp0d (by rw [hA, decide_eq_true (by assumption)]; simp))) (S₇.froz (.tail _ (.tail _ (.tail _ (.head _))))))
    · exact hq8 _ _ (hQ1 _ _ _ _ (due_stop hp hd (st_te (by assumption) (arr_ne (by assumption)) (arr_eq (by assumption)) (.inl (by assumption)))) (St.froz ‹_› (.tail _ (.head _))))
    · exact hq8 _ _ (hQ1 _ _ _ _ (due_stop hp hd (st_te (by assumption) (arr_ne (by assumption)) (arr_eq (by assumption)) (.inr (arr_nee (by assumption))))) (St.froz ‹_› (.tail _ (.head _))))
    · rename_i S9
      exact hq8 _ _ (due_close (d' := { d with told := d.told ++ [(n, CHK)], coded := true }) S9 hfr hod hm1 hm2 rfl ((due_snoc hp hd).trans (st_teo (by assumption) (arr_ne (by assumption)) (arr_eq (by assumption)) (by assumption) (arr_nne (by assumption)))) rfl hT)
    · rename_i S9
      exact hq8 _ _ (due_close (d' := { d with told := d.told ++ [(n, x)] }) S9 hfr hod hm1 hm2 hm3 ((due_snoc hp hd).trans (st_plain (by assumption) (arr_ne (by assumption)) (arr_ne (by assumption)))) rfl hT)
    · exact hq8 _ _ (hQ1 _ _ _ _ (due_stop hp hd (st_bad (by assumption))) (St.froz ‹_› (.tail _ (.head _))))
  · rintro zs m own h' tk' ⟨zacc, a, vs, k, d, o, v0, tl, rfl, hfr, rfl, hod, hm1, hm2, hm3, hd, hT⟩ S₁
    dsimp only
    repeat' walk1
    obtain ⟨z', x1, x2, x3, S₂⟩ := S₁.freeze (z := zacc) (.head _)
    refine hQ2 _ _ _ z' d (by rw [List.take_of_length_le (by rw [hlp.length]; exact Nat.le_refl _)] at hd; exact hd) (S₁.froz (.tail _ (.head _))) (S₂.froz (.head _)) (fun b ob q => ?_) ⟨a, _, k, rfl, x2, by simpa using hT.mono fun _ _ h => PairV.ext h x1⟩
    rcases x3 b ob q with rfl | hq
    · exact (S₁.fz s.heap (.tail _ (.head _))).2 b (.tail _ (.head _))
    · obtain ⟨o9, h9⟩ := Option.isSome_iff_exists.mp hq
      exact hfr b o9 h9
end
end
-- part U9
theorem start_U9 : True := by
  w_top off
  trivial
section
open Builtin Builtin.ObjectAttr Builtin.Getset_descriptor
open Sem (wp)
abbrev Trip := Oct × Oct × Oct

/-- one tuple of three -/
noncomputable def TripV (p : Trip) (h : Heap) (v : Value) : Prop := ∃ a v1 v2 v3, v = .ref a ∧ h.IsTuple a #[v1, v2, v3] ∧ BV p.1 v1 ∧ BV p.2.1 v2 ∧ BV p.2.2 v3
theorem TripV.ext {p : Trip} {h h' : Heap} {v : Value} (x : TripV p h v) (e : Ext h h') : TripV p h' v := by
  obtain ⟨a, v1, v2, v3, rfl, ⟨o, ho, r⟩, x1, x2, x3⟩ := x
  exact ⟨a, v1, v2, v3, rfl, ⟨o, e _ _ ho, r⟩, x1, x2, x3⟩
abbrev hdrEnts (w : World) (k1 : Tok) (l : Addr) : List DictEntry := [⟨PyData.keyHash w.params "_full_items", .str "_full_items" k1, .ref l⟩]
abbrev hdrDict (w : World) (k1 : Tok) (l : Addr) : Obj := { cls := .type "dict", data := .dict (hdrEnts w k1 l).toArray 1 }

/-- a Headers object of given triples -/
noncomputable def HdrV (w : World) (ts : List Trip) (z : Heap) (x : Addr) : Prop := ∃ dx l vs n k1, z.get? x = some (instObj 177 dx) ∧ z.get? dx = some (hdrDict w k1 l) ∧ z.get? l = some (listOf vs n) ∧ Paired (fun p v => TripV p z v) ts vs.toList
end
local macro_rules | `(tactic| walk_at "truthy bytes") => `(tactic| k_dflt (refine truthy_bytes (by omega) ?_))
section
open Builtin Builtin.ObjectAttr Builtin.Getset_descriptor
open Sem (wp)
section
variable {prog : Program} {w : World} {A : Around} {E : Value → Shared → Prop} {s : Shared} {expr : Bool} {Q : Value → Shared → Prop}
theorem hdrFull {x dx l : Addr} {k1 : Tok} (X : (Mine.hd.heap_1 w.params).In s.heap) (hx : s.heap.get? x = some (instObj 177 dx)) (hd : s.heap.get? dx = some (hdrDict w k1 l)) (h : Q (.ref l) { s with toks := s.toks + 1 }) : wpAny (model prog w) A (getAttr (.ref x) "_full_items" expr) Q E s := by
  have I : InstAt s.heap x (instObj 177 dx) 177 (some (hdrDict w k1 l)) := ⟨hx, rfl, rfl, hd⟩
  have hg : plainGet (Mine.hd.heap_1 w.params) 177 "_full_items" = true := by k_is
  have ha : findIn (Mine.hd.heap_1 w.params) (.ref 177) "_full_items" = some none := by k_is
  have I' : InstAt s.heap x (instObj 177 dx) 177 (some (dictOf (hdrEnts w k1 l) 1)) := I
  exact get_value X I' (plainGet_of hg).1 (findObj_own (v := .ref l) (by k_is) ha rfl rfl) rfl h

/-- a name's members -/
noncomputable def commaOf (b : Oct) (t : Trip) : List Oct := if t.2.1 = b then ((splitB (lowB t.2.2)).map stripB).filter (fun q => decide (q ≠ #[])) else []
noncomputable def commaP (ts : List Trip) (b : Oct) : List Oct := ts.flatMap (commaOf b)
theorem commaOf_len {b : Oct} {t : Trip} (h : t.2.2.size ≤ 1000) : (commaOf b t).length ≤ 1002 := by
  unfold commaOf
  split
  · refine Nat.le_trans (List.length_filter_le _ _) ?_
    rw [List.length_map]
    have h1 := splitB_length (lowB t.2.2)
    have h2 : (lowB t.2.2).size = t.2.2.size := by simp [lowB]
    omega
  · simp
theorem commaP_len {b : Oct} : ∀ {ts : List Trip}, (∀ t ∈ ts, t.2.2.size ≤ 1000) → (commaP ts b).length ≤ ts.length * 1002
  | [], _ => by simp [commaP]
  | t :: ts, h => by
    have h1 := commaOf_len (b := b) (h t (.head _))
    have h2 := commaP_len (b := b) (ts := ts) fun q hq => h q (.tail _ hq)
    simp only [commaP, List.flatMap_cons, List.length_append, List.length_cons] at *
    omega
abbrev ComU (h₀ : Heap) (ts : List Trip) (b : Oct) (tk : Tok) (i : Nat) (zs : List Heap) (m : PySem.Str → Option Value) (own : List (Addr × Obj)) : Prop :=
  ∃ a vs k, zs = [h₀] ∧ own = [(a, listOf (List.toArray vs) k)] ∧ m (PySem.Str.ofString "out") = some (.ref a) ∧ m (PySem.Str.ofString "name") = some (.bytes b tk) ∧ Paired BV (commaP (ts.take i) b) vs
abbrev ComV (h₀ zp : Heap) (I : Addr) (oI : Obj) (acc parts : List Oct) (b : Oct) (tk : Tok) (j : Nat) (zs : List Heap) (m : PySem.Str → Option Value) (own : List (Addr × Obj)) : Prop :=
  ∃ a vs k, zs = [zp, h₀] ∧ own = [(I, oI), (a, listOf (List.toArray vs) k)] ∧ m (PySem.Str.ofString "out") = some (.ref a) ∧ m (PySem.Str.ofString "name") = some (.bytes b tk) ∧ Paired BV (acc ++ ((parts.take j).map stripB).filter (fun q => decide (q ≠ #[]))) vs
theorem get_comma_ok {fr : List Env} {ts : List Trip} {x : Addr} {b : Oct} {tk : Tok} (am : Amb w A 4 40 fr s.heap) (hH : HdrV w ts s.heap x) (hb : b.size ≤ 1000) (hts : ts.length ≤ 1000) (hsz : ∀ t ∈ ts, t.2.1.size ≤ 1000 ∧ t.2.2.size ≤ 1000)
    (hQ : ∀ h' tk' v z, Ext s.heap h' → Ext z h' → Fresh s.heap z → BList (commaP ts b) z v → Q v { s with heap := h', toks := tk' }) :
    wpAny (model prog w) A (call (.ref 194) [.ref x, .bytes b tk]) Q E s := by
  obtain ⟨dx, l, lvs, ln, k1, hx, hd, hl, hP⟩ := hH
  refine wpAny_call ?_
  refine enter (binds := [(PySem.Str.ofString "headers", .ref x), (PySem.Str.ofString "name", .bytes b tk)]) am (by k_is) (by k_is) (BindsTo.of_eq rfl) (locs rfl) fun L h₁ hL S => ?_
  dsimp only
  repeat' walk1
  rename_i S₀
  refine hdrFull (kAt am S₀ (.head _)) (S₀.froz (.head _) _ _ hx) (S₀.froz (.head _) _ _ hd) ?_
  dsimp only
  refine for_list (items := lvs.toList) (by exact am.hd) rfl S₀ (.head _) ⟨_, hl, rfl, ln, by simp⟩ (ComU s.heap ts b tk) ⟨_, [], 0, rfl, rfl, rfl, rfl, .nil⟩ (fun i zs m own h => by obtain ⟨_, _, _, rfl, _⟩ := h; exact .head _) ?_ ?_
  · rintro i v zs m own s' I oI hv ⟨a, vs, k, rfl, rfl, hm1, hm2, hT⟩ S₁ es
    have hi : i < ts.length := by
      obtain ⟨h1, _⟩ := List.getElem?_eq_some_iff.mp hv
      have := hP.length; omega
    have hp : ts[i]? = some ts[i] := List.getElem?_eq_getElem hi
    have hpv : TripV ts[i] s.heap v := by
      obtain ⟨h1, h2⟩ := List.getElem?_eq_some_iff.mp hv
      rw [← h2]; exact pair_at hP i hi h1
    generalize ts[i] = p at hp hpv
    obtain ⟨n0, n, y⟩ := p
    obtain ⟨ta, v1, v2, v3, rfl, ht, ⟨t1, e1⟩, ⟨t2, e2⟩, ⟨t3, e3⟩⟩ := hpv
    dsimp only at e1 e2 e3
    subst e1 e2 e3
    obtain ⟨hn, hy⟩ := hsz _ (List.mem_of_getElem? hp)
    dsimp only at hn hy
    have hstep : commaP (ts.take (i + 1)) b = commaP (ts.take i) b ++ commaOf b (n0, n, y) := by
      unfold commaP
      rw [List.take_add_one, hp, List.flatMap_append]
      simp
    have hk : vs.length ≤ 1100000 := by
      have h1 := hT.length
      have h2 := commaP_len (b := b) (ts := ts.take i) fun q hq => (hsz q (List.mem_of_mem_take hq)).2
      have h3 : (ts.take i).length ≤ 1000 := Nat.le_trans (List.take_sublist _ _).length_le hts
      have h4 : (ts.take i).length * 1002 ≤ 1000 * 1002 := Nat.mul_le_mul_right _ h3
      rw [← h1]; exact Nat.le_trans h2 (Nat.le_trans h4 (by decide))
    rw [es]
    dsimp only
    refine genT fun Q8 E8 hq8 he8 => ?_
    refine unpackSt (by exact am.hd) S₁ (by obtain ⟨o9, h9, r9⟩ := ht; exact ⟨o9, S₁.froz (.head _) _ _ h9, r9⟩) rfl rfl fun h₂ e2 S₂ => ?_
    clear S₁ S₀
    dsimp only
    have hly : (lowB y).size ≤ 1000 := by simp [lowB]; omega
    repeat' walk1
    · rename_i S₃
      have heq : n = b := arr_eq (by assumption)
      have hB := ‹BytesAre (splitB (lowB y)) _›
      have hof : commaOf b (n0, n, y) = ((splitB (lowB y)).map stripB).filter (fun q => decide (q ≠ #[])) := if_pos heq
      obtain ⟨zp, p1, p2, S₄⟩ := S₃.freeze1
      clear S₃
      refine for_list (by exact am.hd) rfl S₄ (.head _) ⟨_, p1, rfl, 0, rfl⟩ (ComV s.heap zp I oI (commaP (ts.take i) b) (splitB (lowB y)) b tk) ⟨a, vs, k, rfl, rfl, hm1, hm2, by simpa using hT⟩ (fun i zs m own h => by obtain ⟨_, _, _, rfl, _⟩ := h; exact .head _) ?_ ?_
      · clear hm1 hm2 hT hstep hk S₄
        rintro j v zs m own s'' J oJ hv ⟨a, vs, k, rfl, rfl, hm1, hm2, hT⟩ S₅ es2
        have hj : j < (splitB (lowB y)).length := by
          obtain ⟨h1, _⟩ := List.getElem?_eq_some_iff.mp hv
          have := hB.length; omega
        have hq : (splitB (lowB y))[j]? = some (splitB (lowB y))[j] := List.getElem?_eq_getElem hj
        have hqv : BV (splitB (lowB y))[j] v := by
          obtain ⟨h1, h2⟩ := List.getElem?_eq_some_iff.mp hv
          rw [← h2]; exact pair_at hB j hj h1
        generalize (splitB (lowB y))[j] = q at hq hqv
        obtain ⟨tq, rfl⟩ := hqv
        have hqs : q.size ≤ 1000 := by have := splitB_size (List.mem_of_getElem? hq); omega
        have hstep : ∀ acc : List Oct, acc ++ (((splitB (lowB y)).take (j + 1)).map stripB).filter (fun q => decide (q ≠ #[])) = (acc ++ (((splitB (lowB y)).take j).map stripB).filter (fun q => decide (q ≠ #[]))) ++ (if stripB q ≠ #[] then [stripB q] else []) := by
          intro acc
          rw [List.take_add_one, hq, List.map_append, List.filter_append, List.append_assoc]
          congr 1
          simp only [Option.toList, List.map_cons, List.map_nil, List.filter_cons, List.filter_nil, decide_eq_true_eq]
        have hk : vs.length ≤ 1100000 := by
          have h1 := hT.length
          have h2 := commaP_len (b := b) (ts := ts.take i) fun q hq => (hsz q (List.mem_of_mem_take hq)).2
          have h3 : (ts.take i).length ≤ 1000 := Nat.le_trans (List.take_sublist _ _).length_le hts
          have h4 : (ts.take i).length * 1002 ≤ 1000 * 1002 := Nat.mul_le_mul_right _ h3
          have h5 : ((((splitB (lowB y)).take j).map stripB).filter (fun q => decide (q ≠ #[]))).length ≤ 1002 := by
            refine Nat.le_trans (List.length_filter_le _ _) ?_
            rw [List.length_map]
            exact Nat.le_trans (List.take_sublist _ _).length_le (Nat.le_trans (splitB_length (lowB y)) (Nat.add_le_add_right hly 2))
          rw [List.length_append] at h1
          rw [← h1]; exact Nat.le_trans (Nat.add_le_add (Nat.le_trans h2 h4) h5) (by decide)
        have hss : (stripB q).size ≤ 1000 := Nat.le_trans stripB_size hqs
        rw [es2]
        dsimp only
        refine genT fun Q7 E7 hq7 he7 => ?_
        repeat' walk1
        · rename_i t9 k9 h8 h9 h10 S₆
          have hne : stripB q ≠ #[] := fun e => by
            rw [e] at h9; exact h9 rfl
          refine hq7 _ _ ⟨[zp, s.heap], _, _, S₆, ⟨a, vs ++ [.bytes (stripB q) t9], k + 1, rfl, by simp, hm1, hm2, ?_⟩, rfl⟩
          rw [hstep, if_pos hne]
          exact hT.snoc ⟨_, rfl⟩
        · rename_i S₆ h9
          have he : ¬ (stripB q ≠ #[]) := fun hne => hne (Array.eq_empty_of_size_eq_zero (by omega))
          refine hq7 _ _ ⟨[zp, s.heap], _, _, S₆, ⟨a, vs, k, rfl, rfl, hm1, hm2, ?_⟩, rfl⟩
          rw [hstep, if_neg he, List.append_nil]
          exact hT
      · rintro zs m own h' tk' ⟨a', vs', k', rfl, rfl, hm1, hm2, hT⟩ S₅
        dsimp only
        repeat' walk1
        refine hq8 _ _ ⟨[s.heap], m, _, S₅.part (List.Sublist.refl _) (by simp), ⟨a', vs', k', rfl, rfl, hm1, hm2, ?_⟩, rfl⟩
        rw [hstep, hof]
        rw [List.take_of_length_le (l := splitB (lowB y)) (Nat.le_of_eq hB.length)] at hT
        exact hT
    · have S₃ := ‹St _ _ _ _ _›
      have hne : n ≠ b := arr_ne (by assumption)
      refine hq8 _ _ ⟨[s.heap], _, _, S₃, ⟨a, vs, k, rfl, rfl, hm1, hm2, ?_⟩, rfl⟩
      rw [hstep, show commaOf b (n0, n, y) = [] from if_neg hne, List.append_nil]
      exact hT
  · rintro zs m own h' tk' ⟨a, vs, k, rfl, rfl, hm1, hm2, hT⟩ S₁
    dsimp only
    repeat' walk1
    obtain ⟨z, z1, z2, z3⟩ := S₁.give (.head _)
    refine hQ _ _ _ z (S₁.froz (.head _)) z1 z2 ⟨a, _, k, rfl, z3, ?_⟩
    rw [List.take_of_length_le (by rw [← hP.length]; exact Nat.le_refl _)] at hT
    exact hT
end
end
-- part U10
theorem start_U10 : True := by
  w_top off
  trivial
section
open Builtin Builtin.ObjectAttr Builtin.Getset_descriptor
open Sem (wp)
section
variable {prog : Program} {w : World} {A : Around} {E : Value → Shared → Prop} {s : Shared} {fr : List Env} {R : Result → Shared → Prop} {Q : Value → Shared → Prop}
theorem enterD {name qual : PySem.Str} {params : Arguments} {body : List Stmt} {scope : PySem.Scope} {dV kV doc pm cdv ct oc : Value} {an od : Option Addr} {osl : Array (Option Value)} {f : Addr} {args : Args} {binds : List (PySem.Str × Value)} {z : Heap} {e : Addr} {o : Obj} {d u : Nat}
    (am : Amb w A (d + 1) u fr z) (hz : Ext z s.heap) (he : s.heap.get? e = some o) (hn : z.get? e = none)
    (ho : (Mine.hd.heap_1 w.params).lookup f = some ⟨oc, od, .func (fnOf name qual params body scope dV kV doc pm an cdv ct), osl⟩) (hcd : codeIn (Mine.hd.heap_1 w.params) cdv qual = true)
    (hbind : BindsTo s (fnOf name qual params body scope dV kV doc pm an cdv ct) args binds) (hloc : ∀ y ∈ binds, scope.names.lookup y.1 = some .local)
    (h : ∀ L h₁, St [z] L (fun y => binds.reverse.lookup y) [(e, o)] h₁ →
      wpAny (model prog w) (A.deeper (envX qual scope L f cdv [])) (execs body (envX qual scope L f cdv []))
        (fun fl s' => R (.ok (.ret (match fl with | .ret v => v | _ => .none))) s')
        (fun e s' => wpAny (model prog w) (A.deeper (envX qual scope L f cdv [])) (leaving (envX qual scope L f cdv []) e) (fun _ s'' => R (.error e) s'') (fun e' s'' => R (.error e') s'') s')
        { s with heap := h₁, toks := s.toks + binds.length })
    (hcell : ∀ x ∈ scope.names, x.2 ≠ .cell := by decide) (hco : scope.isCoroutine = false := by rfl) (hgen : scope.isGenerator = false := by rfl) (hk : scope.kind = .function := by rfl) : codeAny (model prog w) A (.call (.ref f) args) R s := by
  obtain ⟨_, _, _, _, _, T⟩ := am.t
  have X := am.k.keeps hz
  exact codeAny_call_def (fd := fnOf name qual params body scope dV kV doc pm an cdv ct) (body := body) (binds := binds) (by have := am.dep; omega) (X _ _ ho) rfl (T.nolimit.keeps hz) (codeRec_of X hcd) rfl hbind hcell hloc (fun h₁ hns hk₁ => h _ h₁ (St.first hns hk₁ hz he hn)) hco hgen hk
theorem setHdr {x dx : Addr} {Q : Unit → Shared → Prop} {l : Addr} (X : (Mine.hd.heap_1 w.params).In s.heap) (hx : s.heap.get? x = some (instObj 177 dx)) (hd : s.heap.get? dx = some emptyDict)
    (h : ∀ h' k k1, Heap.SameBut dx s.heap h' → h'.get? dx = some (hdrDict w k1 l) → Q () { s with heap := h', toks := k }) :
    wpAny (model prog w) A (setAttr (.ref x) "_full_items" (.ref l)) Q E s := by
  have I : InstAt s.heap x (instObj 177 dx) 177 (some emptyDict) := ⟨hx, rfl, rfl, hd⟩
  refine set_plain X I (by k_is) ?_
  refine osa_open (s := { s with toks := s.toks + 1 }) X I (by k_is) (by k_is) fun b => ?_
  have hC := X 177 _ (by k_is)
  obtain ⟨hh, g, d, tt, os⟩ := s
  dsimp only at X hx hC hd ⊢
  unfold storeInOwnDict ownDictForStores instanceDict
  refine wpAny_bind (wpAny_pure (wpAny_bind (wpAny_bind (wpAny_loadPart_at hx (wpAny_bind ?_)))))
  unfold classData
  refine wpAny_bind (wpAny_load hC (wpAny_pure ?_))
  refine wpAny_pure ?_
  exact storeD (od' := hdrDict w (tt + 1) l) (es := hdrEnts w (tt + 1) l) hd rfl rfl rfl (by simp) fun h' sb eo => h h' _ _ sb eo
theorem headers_make {l : Addr} (am : Amb w A 5 40 fr s.heap)
    (hQ : ∀ h' k x dx k1, Ext s.heap h' → s.heap.get? x = none → s.heap.get? dx = none → x ≠ dx → h'.get? x = some (instObj 177 dx) → h'.get? dx = some (hdrDict w k1 l) → Q (.ref x) { s with heap := h', toks := k }) :
    wpAny (model prog w) A (call (.ref 177) [.ref l]) Q E s := by
  refine wpAny_call ?_
  obtain ⟨h, g, d, t, os⟩ := s
  refine make_core (makes_of am.k (by k_is)) (looks_findIn am.k (by k_is)) (fun self => bind_fn am.k (f := 134) self (by k_is)) (.inl rfl) ?_
  have up : Ext h ((h.push emptyDict).push (instObj 177 h.objs.size)) := fun b o e => Heap.get?_push_of_some _ (Heap.get?_push_of_some _ e)
  have hx : ((h.push emptyDict).push (instObj 177 h.objs.size)).get? (h.objs.size + 1) = some (instObj 177 h.objs.size) := by heap_get
  have hdx : ((h.push emptyDict).push (instObj 177 h.objs.size)).get? h.objs.size = some emptyDict := by heap_get
  let z : Heap := cut ((h.push emptyDict).push (instObj 177 h.objs.size)) (fun b => b != h.objs.size)
  have hz : Ext z ((h.push emptyDict).push (instObj 177 h.objs.size)) := cut_ext _ _
  have hn : z.get? h.objs.size = none := by rw [cut_get, if_neg (by simp)]
  have hzx : z.get? (h.objs.size + 1) = some (instObj 177 h.objs.size) := by rw [cut_get, if_pos (by simp)]; exact hx
  have hzh : Ext h z := fun b o e => by
    rw [cut_get, if_pos (by simp only [bne_iff_ne, ne_eq]; exact Nat.ne_of_lt (Heap.lt_size e))]; exact up b o e
  refine enterD (binds := [(PySem.Str.ofString "self", .ref (h.objs.size + 1)), (PySem.Str.ofString "full_items", .ref l)]) (d := 3) (u := 39) (am.ext hzh).underMake hz hdx hn (by k_is) (by k_is) (BindsTo.of_eq rfl) (by exact locs rfl) fun L h₁ S => ?_
  have am2 := am.ext hzh
  have X2 := kAt am2 S (.head _)
  dsimp only
  repeat' walk1
  refine setHdr X2 (S.froz (.head _) _ _ hzx) (S.mine _ (.head _)) fun h₂ k₂ k1 sb eo => ?_
  have S₂ := S.upd sb eo
  dsimp only
  repeat' walk1
  exact ⟨rfl, hQ h₂ k₂ _ h.objs.size k1 (fun b o e => S₂.froz (.head _) _ _ (hzh _ _ e)) (fresh_none (Nat.le_succ _)) (fresh_none (Nat.le_refl _)) (Nat.succ_ne_self _) (S₂.froz (.head _) _ _ hzx) eo⟩
end
end
-- part U11
theorem start_U11 : True := by
  w_top off
  trivial
section
theorem meets_bool_list (l : Addr) (items : Array Value) (hfit : (items.size : Int) < 2 ^ 63) :
    Meets (Builtin.«bool.__new__» ⟨[.type "bool", .ref l], []⟩) (fun _ R s => s.heap.IsList l items ∧ R (.ok (.ret (.bool (!items.isEmpty)))) { s with toks := s.toks + 1 + 1 }) :=
  Meets.of_wp fun prog w A R s hs => by
    obtain ⟨hp, g, d, tk, os⟩ := s
    obtain ⟨hl, hs⟩ := hs
    have f1 := PySem.F.conv_sub_bool
    repeat (any_goals (first | assumption | (with_reducible refine wpAny_truthy_list (s := ⟨_, _, _, _, _⟩) hl hfit ?_) | wp_step))
    all_goals first | exact ⟨_, rfl, hs⟩ | exact hs | skip
theorem call_bool_list {prog : Program} {w : World} {A : Around} {E : Value → Shared → Prop} {s : Shared} {l : Addr} {items : Array Value} {Q : Value → Shared → Prop} (hl : s.heap.IsList l items) (hfit : (items.size : Int) < 2 ^ 63) (h : Q (.bool (!items.isEmpty)) { s with toks := s.toks + 1 + 1 }) :
    wpAny (model prog w) A (call (.type "bool") [.ref l]) Q E s :=
  call_bool_1 (meets_bool_list l items hfit) (show _ ∧ wants (fun obj s₁ => s₁.TypeIs obj "bool" ∧ Q obj s₁) E _ _ from ⟨hl, rfl, h⟩)
section
variable {prog : Program} {w : World} {A : Around} {E : Value → Shared → Prop} {s : Shared} {fr : List Env} {Q : Value → Shared → Prop} {ts : List Trip} {x : Addr}
theorem raw_items_ok (am : Amb w A 4 40 fr s.heap) (hH : HdrV w ts s.heap x) (hts : ts.length ≤ 1000)
    (hQ : ∀ h' tk' v z, Ext s.heap h' → Ext z h' → Fresh s.heap z → PList (ts.map fun t => (t.1, t.2.2)) z v → Q v { s with heap := h', toks := tk' }) :
    wpAny (model prog w) A (call (.ref 174) [.ref x]) Q E s := by
  obtain ⟨dx, l, lvs, ln, k1, hx, hd, hl, hP⟩ := hH
  refine wpAny_call ?_
  refine enter (binds := [(Str.ofString "self", .ref x)]) am (by k_is) (by k_is) (BindsTo.of_eq rfl) (locs rfl) fun L h₁ hL S => ?_
  dsimp only
  repeat' walk1
  refine hdrFull (kAt am S (.head _)) (S.froz (.head _) _ _ hx) (S.froz (.head _) _ _ hd) ?_
  dsimp only
  refine src_list (by exact am.hd) ⟨_, S.froz (.head _) _ _ hl, rfl, ln, rfl⟩ (Nat.le_trans (show lvs.size ≤ 1000 by rw [← Array.length_toList, ← hP.length]; exact hts) (by rw [sizeLine_eq]; decide)) fun I s₂ src => ?_
  refine ask_items ts (fun t v => TripV t s.heap v) hP src (fun _ => true) (fun z t y => PairV (t.1, t.2.2) z y) (fun _ _ _ _ e h => h.ext e) ?_ ?_
  · rintro C t v s₃ m₃ E' z₃ - ht e1 e2 S₃
    have am₃ := am.ext ((S.froz (.head _)).trans e1)
    have ht' := ht.ext (((S.froz (.head _)).trans e1).trans (S₃.froz (.head _)))
    obtain ⟨ta, v1, v2, v3, rfl, htu, ⟨t1, rfl⟩, ⟨t2, rfl⟩, ⟨t3, rfl⟩⟩ := ht'
    unfold TurnA
    refine unpackSt (by exact am.hd) S₃ htu rfl rfl fun h₂ e3 S₂ => ?_
    dsimp only
    repeat' walk1
    exact tEndO ‹St [z₃] C _ [_] _› (.head _) e2 fun z hz => ⟨_, _, _, rfl, ⟨_, hz, rfl, 0, rfl⟩, ⟨_, rfl⟩, ⟨_, rfl⟩⟩
  · intro D h' tk' ys nn z f1 f2 f3 f4 f5
    rw [List.filter_eq_self.mpr (fun _ _ => rfl)] at f5
    have S' := S.add f1 f3 f2
    dsimp only
    repeat' walk1
    refine hQ _ _ _ z (S'.froz (.tail _ (.head _))) (S'.froz (.head _)) (fun b ob q => ?_) ⟨D, ys, nn, rfl, f4, pair_map f5⟩
    cases q9 : s.heap.get? b with
    | none => rfl
    | some o9 => have := S.froz (.head _) _ _ q9; rw [f2 b ob q] at this; cases this
theorem len_hdr_ok (am : Amb w A 4 40 fr s.heap) (hH : HdrV w ts s.heap x) (hts : ts.length ≤ 1000)
    (hQ : ∀ h' tk' t', Ext s.heap h' → Q (.int ts.length t') { s with heap := h', toks := tk' }) :
    wpAny (model prog w) A (call (.ref 162) [.ref x]) Q E s := by
  obtain ⟨dx, l, lvs, ln, k1, hx, hd, hl, hP⟩ := hH
  refine wpAny_call ?_
  refine enter (binds := [(Str.ofString "self", .ref x)]) am (by k_is) (by k_is) (BindsTo.of_eq rfl) (locs rfl) fun L h₁ hL S => ?_
  dsimp only
  repeat' walk1
  refine hdrFull (kAt am S (.head _)) (S.froz (.head _) _ _ hx) (S.froz (.head _) _ _ hd) ?_
  dsimp only
  repeat' walk1
  have hsz : lvs.size = ts.length := by rw [← Array.length_toList]; exact hP.length.symm
  refine len_list ⟨_, S.froz (.head _) _ _ hl, rfl, ln, rfl⟩ (by rw [hsz]; omega) ?_
  rw [hsz]
  exact hQ _ _ _ (S.froz (.head _))
theorem getitem_ok {k : Nat} {kt : Tok} {t : Trip} (am : Amb w A 4 40 fr s.heap) (hH : HdrV w ts s.heap x) (hk : ts[k]? = some t) (hts : ts.length ≤ 1000)
    (hQ : ∀ h' tk' v z, Ext s.heap h' → Ext z h' → Fresh s.heap z → PairV (t.2.1, t.2.2) z v → Q v { s with heap := h', toks := tk' }) :
    wpAny (model prog w) A (call (.ref 169) [.ref x, .int k kt]) Q E s := by
  obtain ⟨dx, l, lvs, ln, k1, hx, hd, hl, hP⟩ := hH
  refine wpAny_call ?_
  refine enter (binds := [(Str.ofString "self", .ref x), (Str.ofString "idx", .int k kt)]) am (by k_is) (by k_is) (BindsTo.of_eq rfl) (locs rfl) fun L h₁ hL S => ?_
  dsimp only
  repeat' walk1
  refine hdrFull (kAt am S (.head _)) (S.froz (.head _) _ _ hx) (S.froz (.head _) _ _ hd) ?_
  dsimp only
  repeat' walk1
  have hk1 : k < ts.length := (List.getElem?_eq_some_iff.mp hk).1
  have hk2 : k < lvs.toList.length := by rw [← hP.length]; exact hk1
  have hv := pair_at hP k hk1 hk2
  rw [(List.getElem?_eq_some_iff.mp hk).2] at hv
  have hv' := hv.ext (S.froz (.head _))
  have hi : lvs[((k : Int)).toNat]? = some lvs.toList[k] := by
    rw [Int.toNat_natCast, ← Array.getElem?_toList]; exact List.getElem?_eq_getElem hk2
  refine item_listR ⟨_, S.froz (.head _) _ _ hl, rfl, ln, rfl⟩ (by omega) (by omega) hi ?_
  generalize lvs.toList[k] = v at hv hv' hi
  obtain ⟨ta, v1, v2, v3, rfl, htu, ⟨t1, e1⟩, ⟨t2, e2⟩, ⟨t3, e3⟩⟩ := hv'
  subst e1 e2 e3
  refine unpackSt (by exact am.hd) S htu rfl rfl fun h₂ e3 S₂ => ?_
  dsimp only
  repeat' walk1
  have S₃ := ‹St _ _ _ [_] _›
  obtain ⟨z, z1, z2, z3⟩ := S₃.give (.head _)
  exact hQ _ _ _ z (S₃.froz (.head _)) z1 z2 ⟨_, _, _, rfl, ⟨_, z3, rfl, 0, rfl⟩, ⟨_, rfl⟩, ⟨_, rfl⟩⟩
theorem bool_hdr_ok (am : Amb w A 4 40 fr s.heap) (hH : HdrV w ts s.heap x) (hts : ts.length ≤ 1000)
    (hQ : ∀ h' tk', Ext s.heap h' → Q (.bool (!ts.isEmpty)) { s with heap := h', toks := tk' }) :
    wpAny (model prog w) A (call (.ref 141) [.ref x]) Q E s := by
  obtain ⟨dx, l, lvs, ln, k1, hx, hd, hl, hP⟩ := hH
  refine wpAny_call ?_
  refine enter (binds := [(Str.ofString "self", .ref x)]) am (by k_is) (by k_is) (BindsTo.of_eq rfl) (locs rfl) fun L h₁ hL S => ?_
  dsimp only
  repeat' walk1
  refine hdrFull (kAt am S (.head _)) (S.froz (.head _) _ _ hx) (S.froz (.head _) _ _ hd) ?_
  dsimp only
  repeat' walk1
  have hsz : lvs.size = ts.length := by rw [← Array.length_toList]; exact hP.length.symm
  refine call_bool_list ⟨_, S.froz (.head _) _ _ hl, rfl, ln, rfl⟩ (by rw [hsz]; omega) ?_
  have e : lvs.isEmpty = ts.isEmpty := by
    rw [Bool.eq_iff_iff, Array.isEmpty_iff_size_eq_zero, hsz, List.length_eq_zero_iff, List.isEmpty_iff]
  rw [e]
  exact hQ _ _ (S.froz (.head _))
end
end
-- part V0
theorem start_V0 : True := by
  w_top off
  trivial
section
open Builtin Builtin.ObjectAttr Builtin.Getset_descriptor
open Sem (wp)

/-- a text or octets -/
noncomputable def TB (b : Oct) (v : Value) : Prop := BV b v ∨ ∃ x t, v = .str x t ∧ (∀ c ∈ x.cps.toList, c < 128) ∧ b = x.cps.map fun c => c.toUInt8
noncomputable def PairT (p : Pair) (h : Heap) (v : Value) : Prop := ∃ a v1 v2, v = .ref a ∧ h.IsTuple a #[v1, v2] ∧ TB p.1 v1 ∧ TB p.2 v2
theorem PairV.toT {p : Pair} {h : Heap} {v : Value} (x : PairV p h v) : PairT p h v := by
  obtain ⟨a, v1, v2, e, ht, x1, x2⟩ := x
  exact ⟨a, v1, v2, e, ht, .inl x1, .inl x2⟩
structure Nav where
  told : List Trip
  seen : Option Oct
  coded : Bool
noncomputable def navStep (st : Nav) (p : Pair) : Except Int Nav :=
  if tokB p.1 = false then .error 400
  else if fvB p.2 = false then .error 400
  else if lowB p.1 = CL then
    if cntR ((splitB p.2).map stripB).reverse ≠ 1 then .error 400
    else if digB (((splitB p.2).map stripB).headD #[]) = false then .error 400
    else if (((splitB p.2).map stripB).headD #[]).size > 20 then .error 400
    else match st.seen with
      | none => .ok { st with told := st.told ++ [(p.1, lowB p.1, ((splitB p.2).map stripB).headD #[])], seen := some (((splitB p.2).map stripB).headD #[]) }
      | some l => if l ≠ ((splitB p.2).map stripB).headD #[] then .error 400 else .ok st
  else if lowB p.1 = TE then
    if st.coded = true then .error 501
    else if lowB p.2 ≠ CHK then .error 501
    else .ok { st with told := st.told ++ [(p.1, lowB p.1, lowB p.2)], coded := true }
  else .ok { st with told := st.told ++ [(p.1, lowB p.1, p.2)] }
noncomputable def navPs (ps : List Pair) : Except Int Nav := ps.foldlM navStep ⟨[], none, false⟩
theorem nav_snoc {ps : List Pair} {i : Nat} {p : Pair} {d : Nav} (hp : ps[i]? = some p) (hd : (ps.take i).foldlM navStep ⟨[], none, false⟩ = .ok d) : (ps.take (i + 1)).foldlM navStep ⟨[], none, false⟩ = navStep d p := by
  rw [List.take_add_one, hp, List.foldlM_append, hd]
  simp only [Option.toList, List.foldlM_cons, List.foldlM_nil, bind, Except.bind, pure, Except.pure]
  cases navStep d p <;> rfl
theorem nav_stop {ps : List Pair} {i : Nat} {p : Pair} {d : Nav} {k : Int} (hp : ps[i]? = some p) (hd : (ps.take i).foldlM navStep ⟨[], none, false⟩ = .ok d) (hk : navStep d p = .error k) : navPs ps = .error k := by
  unfold navPs
  conv => lhs; arg 3; rw [← List.take_append_drop (i + 1) ps]
  rw [List.foldlM_append, nav_snoc hp hd, hk]
  rfl
section
variable {d : Nav} {n x p0 : Oct}
theorem nv_tok (h : tokB n = false) : navStep d (n, x) = .error 400 := if_pos h
theorem nv_val (h : tokB n = true) (h2 : fvB x = false) : navStep d (n, x) = .error 400 := by
  unfold navStep; rw [if_neg (by rw [h]; simp), if_pos h2]
theorem nv_cnt (h : tokB n = true) (h2 : fvB x = true) (h3 : lowB n = CL) (h4 : cntR ((splitB x).map stripB).reverse ≠ 1) : navStep d (n, x) = .error 400 := by
  unfold navStep; rw [if_neg (by rw [h]; simp), if_neg (by rw [h2]; simp), if_pos h3, if_pos h4]
theorem nv_dig (h : tokB n = true) (h2 : fvB x = true) (h3 : lowB n = CL) (h4 : cntR ((splitB x).map stripB).reverse = 1) (hp : ((splitB x).map stripB).headD #[] = p0) (h5 : digB p0 = false) : navStep d (n, x) = .error 400 := by
  unfold navStep; rw [if_neg (by rw [h]; simp), if_neg (by rw [h2]; simp), if_pos h3, if_neg (by rw [h4]; simp), hp, if_pos h5]
theorem nv_long (h : tokB n = true) (h2 : fvB x = true) (h3 : lowB n = CL) (h4 : cntR ((splitB x).map stripB).reverse = 1) (hp : ((splitB x).map stripB).headD #[] = p0) (h5 : digB p0 = true) (h6 : p0.size > 20) : navStep d (n, x) = .error 400 := by
  unfold navStep; rw [if_neg (by rw [h]; simp), if_neg (by rw [h2]; simp), if_pos h3, if_neg (by rw [h4]; simp), hp, if_neg (by rw [h5]; simp), if_pos h6]
theorem nv_first (h : tokB n = true) (h2 : fvB x = true) (h3 : lowB n = CL) (h4 : cntR ((splitB x).map stripB).reverse = 1) (hp : ((splitB x).map stripB).headD #[] = p0) (h5 : digB p0 = true) (h6 : ¬ p0.size > 20) (hs : d.seen = none) :
    navStep d (n, x) = .ok { d with told := d.told ++ [(n, lowB n, p0)], seen := some p0 } := by
  unfold navStep; rw [if_neg (by rw [h]; simp), if_neg (by rw [h2]; simp), if_pos h3, if_neg (by rw [h4]; simp), hp, if_neg (by rw [h5]; simp), if_neg h6, hs]
theorem nv_other {l : Oct} (h : tokB n = true) (h2 : fvB x = true) (h3 : lowB n = CL) (h4 : cntR ((splitB x).map stripB).reverse = 1) (hp : ((splitB x).map stripB).headD #[] = p0) (h5 : digB p0 = true) (h6 : ¬ p0.size > 20) (hs : d.seen = some l) (h7 : l ≠ p0) :
    navStep d (n, x) = .error 400 := by
  unfold navStep; rw [if_neg (by rw [h]; simp), if_neg (by rw [h2]; simp), if_pos h3, if_neg (by rw [h4]; simp), hp, if_neg (by rw [h5]; simp), if_neg h6, hs]
  exact if_pos h7
theorem nv_again {l : Oct} (h : tokB n = true) (h2 : fvB x = true) (h3 : lowB n = CL) (h4 : cntR ((splitB x).map stripB).reverse = 1) (hp : ((splitB x).map stripB).headD #[] = p0) (h5 : digB p0 = true) (h6 : ¬ p0.size > 20) (hs : d.seen = some l) (h7 : l = p0) :
    navStep d (n, x) = .ok d := by
  unfold navStep; rw [if_neg (by rw [h]; simp), if_neg (by rw [h2]; simp), if_pos h3, if_neg (by rw [h4]; simp), hp, if_neg (by rw [h5]; simp), if_neg h6, hs]
  exact if_neg (by simp [h7])
theorem nv_te1 (h : tokB n = true) (h2 : fvB x = true) (h3 : lowB n ≠ CL) (h4 : lowB n = TE) (h5 : d.coded = true) : navStep d (n, x) = .error 501 := by
  unfold navStep; rw [if_neg (by rw [h]; simp), if_neg (by rw [h2]; simp), if_neg h3, if_pos h4, if_pos h5]
theorem nv_te2 (h : tokB n = true) (h2 : fvB x = true) (h3 : lowB n ≠ CL) (h4 : lowB n = TE) (h5 : d.coded = false) (h6 : lowB x ≠ CHK) : navStep d (n, x) = .error 501 := by
  unfold navStep; rw [if_neg (by rw [h]; simp), if_neg (by rw [h2]; simp), if_neg h3, if_pos h4, if_neg (by rw [h5]; simp), if_pos h6]
theorem nv_te3 (h : tokB n = true) (h2 : fvB x = true) (h3 : lowB n ≠ CL) (h4 : lowB n = TE) (h5 : d.coded = false) (h6 : lowB x = CHK) : navStep d (n, x) = .ok { d with told := d.told ++ [(n, lowB n, lowB x)], coded := true } := by
  unfold navStep; rw [if_neg (by rw [h]; simp), if_neg (by rw [h2]; simp), if_neg h3, if_pos h4, if_neg (by rw [h5]; simp), if_neg (by simp [h6])]
theorem nv_plain (h : tokB n = true) (h2 : fvB x = true) (h3 : lowB n ≠ CL) (h4 : lowB n ≠ TE) : navStep d (n, x) = .ok { d with told := d.told ++ [(n, lowB n, x)] } := by
  unfold navStep; rw [if_neg (by rw [h]; simp), if_neg (by rw [h2]; simp), if_neg h3, if_neg h4]
theorem nstep_len {d d' : Nav} {p : Pair} (h : navStep d p = .ok d') : d'.told.length ≤ d.told.length + 1 := by
  unfold navStep at h
  repeat' (split at h)
  all_goals first | (cases h; done) | (cases h; (try split) <;> simp)
theorem nfold_len : ∀ (ps : List Pair) (d d' : Nav), ps.foldlM navStep d = .ok d' → d'.told.length ≤ d.told.length + ps.length
  | [], d, d', h => by cases h; simp
  | p :: ps, d, d', h => by
    rw [List.foldlM_cons] at h
    cases q : navStep d p with
    | error k => rw [q] at h; cases h
    | ok d1 =>
      rw [q] at h
      have h1 := nstep_len q
      have h2 := nfold_len ps d1 d' h
      simp only [List.length_cons]; omega
end
noncomputable def seenV (o : Option Oct) (v : Value) : Prop := match o with | none => v = .none | some b => BV b v
abbrev NavU (h₀ : Heap) (ps : List Pair) (i : Nat) (zs : List Heap) (m : PySem.Str → Option Value) (own : List (Addr × Obj)) : Prop :=
  ∃ zacc a vs k d sv, zs = [zacc, h₀] ∧ Fresh h₀ zacc ∧ own = [(a, listOf (List.toArray vs) k)] ∧ m (PySem.Str.ofString "new_headers") = some (.ref a) ∧ m (PySem.Str.ofString "_parsed") = some (.bool false) ∧ m (PySem.Str.ofString "seen_content_length") = some sv ∧ seenV d.seen sv ∧ m (PySem.Str.ofString "saw_transfer_encoding") = some (.bool d.coded) ∧
    (ps.take i).foldlM navStep ⟨[], none, false⟩ = .ok d ∧ Paired (fun p v => TripV p zacc v) d.told vs

/-- a tuple of three of the block's own joins a frozen heap -/
theorem St.freezeTrip {z₀ z : Heap} {zs : List Heap} {L : Addr} {m : PySem.Str → Option Value} {own : List (Addr × Obj)} {h : Heap} {t : Addr} {v1 v2 v3 : Value} {p : Trip} (S : St zs L m ((t, tupOf #[v1, v2, v3]) :: own) h) (hz : z ∈ zs) (h0 : z₀ ∈ zs) (hf : Fresh z₀ z) (b1 : BV p.1 v1) (b2 : BV p.2.1 v2) (b3 : BV p.2.2 v3) :
    ∃ z', Ext z z' ∧ Fresh z₀ z' ∧ TripV p z' (.ref t) ∧ St (z' :: zs) L m own h := by
  obtain ⟨z', e1, e2, e3, S'⟩ := S.freeze hz
  refine ⟨z', e1, fun b ob q => ?_, ⟨t, v1, v2, v3, rfl, ⟨_, e2, rfl, 0, rfl⟩, b1, b2, b3⟩, S'⟩
  rcases e3 b ob q with rfl | hq
  · exact (S.fz z₀ h0).2 b (.tail _ (.head _))
  · obtain ⟨o, ho⟩ := Option.isSome_iff_exists.mp hq
    exact hf b o ho
theorem nav_close {h₀ zacc : Heap} {L I a t : Addr} {oI : Obj} {m : PySem.Str → Option Value} {vs : List Value} {t1 t2 t3 : Tok} {k i : Nat} {h : Heap} {tk : Nat} {s₀ : Shared} {Q : Flow → Shared → Prop} {ps : List Pair} {d d' : Nav} {n y x : Oct} {sv : Value}
    (S : St [zacc, h₀] L m [(t, tupOf #[.bytes n t1, .bytes y t2, .bytes x t3]), (I, oI), (a, listOf (vs.toArray.push (.ref t)) (k + 1))] h) (hfr : Fresh h₀ zacc)
    (hm1 : m (PySem.Str.ofString "new_headers") = some (.ref a)) (hm0 : m (PySem.Str.ofString "_parsed") = some (.bool false)) (hm2 : m (PySem.Str.ofString "seen_content_length") = some sv) (hsv : seenV d'.seen sv) (hm3 : m (PySem.Str.ofString "saw_transfer_encoding") = some (.bool d'.coded)) (hs : (ps.take (i + 1)).foldlM navStep ⟨[], none, false⟩ = .ok d') (hd : d'.told = d.told ++ [(n, y, x)])
    (hT : Paired (fun p v => TripV p zacc v) d.told vs) : TurnEnd L I oI (NavU h₀ ps (i + 1)) s₀ Q .next { s₀ with heap := h, toks := tk } := by
  obtain ⟨z', e1, e2, e3, S'⟩ := S.freezeTrip (p := (n, y, x)) (.head _) (.tail _ (.head _)) hfr ⟨_, rfl⟩ ⟨_, rfl⟩ ⟨_, rfl⟩
  refine ⟨[z', h₀], m, _, S'.part (List.Sublist.refl _) (by simp), ⟨z', a, vs ++ [.ref t], k + 1, d', sv, rfl, e2, by simp, hm1, hm0, hm2, hsv, hm3, hs, ?_⟩, rfl⟩
  rw [hd]
  exact (hT.mono fun _ _ h => h.ext e1).snoc e3
theorem nav_close2 {h₀ zacc : Heap} {L I a : Addr} {oI : Obj} {m : PySem.Str → Option Value} {vs : List Value} {k i : Nat} {h : Heap} {tk : Nat} {s₀ : Shared} {Q : Flow → Shared → Prop} {ps : List Pair} {d : Nav} {sv : Value}
    (S : St [zacc, h₀] L m [(I, oI), (a, listOf vs.toArray k)] h) (hfr : Fresh h₀ zacc)
    (hm1 : m (PySem.Str.ofString "new_headers") = some (.ref a)) (hm0 : m (PySem.Str.ofString "_parsed") = some (.bool false)) (hm2 : m (PySem.Str.ofString "seen_content_length") = some sv) (hsv : seenV d.seen sv) (hm3 : m (PySem.Str.ofString "saw_transfer_encoding") = some (.bool d.coded)) (hs : (ps.take (i + 1)).foldlM navStep ⟨[], none, false⟩ = .ok d)
    (hT : Paired (fun p v => TripV p zacc v) d.told vs) : TurnEnd L I oI (NavU h₀ ps (i + 1)) s₀ Q .next { s₀ with heap := h, toks := tk } :=
  ⟨[zacc, h₀], m, _, S, ⟨zacc, a, vs, k, d, sv, rfl, hfr, rfl, hm1, hm0, hm2, hsv, hm3, hs, hT⟩, rfl⟩
section
variable {prog : Program} {w : World} {M : Model} {A : Around} {E : Value → Shared → Prop} {s : Shared} {fr : List Env} {env : Env}
theorem loop_out {zs : List Heap} {L e : Addr} {m : PySem.Str → Option Value} {own : List (Addr × Obj)} {h : Heap} {s₀ : Shared} {d u : Nat} {hint : Int} {hd : Option Value} {E₀ : Value → Shared → Prop} {Q : Value → Shared → Prop} {E1 : Value → Value → Shared → Prop} (am : Amb w A d u fr s₀.heap) (S : St zs L m own h) (hz : s₀.heap ∈ zs) (hL : s₀.heap.objs.size ≤ L)
    (hE : Raises w fr s₀ hint E₀) (hs : s = { s₀ with heap := s.heap, toks := s.toks }) (x : Exc w (env :: fr) hint h e hd s.heap) (hQ : ∀ s', E₀ (.ref e) s' → Q (.ref e) s') (hhd : hd = none ∨ hd = some .none ∨ hd = some (rawInt L)) (hf : env.frame = some L := by rfl) (hk : env.scope.kind = .function := by rfl) :
    loopE prog w (A.deeper env) env (fun e s' => wpAny (model prog w) (A.deeper env) (leaving env e) (fun _ s'' => Q e s'') (E1 e) s') (.ref e) s := by
  refine exc_loop (Around.frames_deeper am.frames) (St.ffr am S hz hf hk) hf x hhd fun h' x' => ?_
  exact exc_out am S hz hL x' hE (by rw [hs]) hQ (.inr (.inr rfl)) hf hk
theorem loop_raise {zs : List Heap} {L : Addr} {m : PySem.Str → Option Value} {own : List (Addr × Obj)} {s₀ : Shared} {d u : Nat} {hint : Int} {E₀ : Value → Shared → Prop} {Q : Value → Shared → Prop} {E1 : Value → Value → Shared → Prop} (am : Amb w A d u fr s₀.heap) (S : St zs L m own s.heap) (hz : s₀.heap ∈ zs) (hL : s₀.heap.objs.size ≤ L)
    (hE : Raises w fr s₀ hint E₀) (hs : s = { s₀ with heap := s.heap, toks := s.toks }) (hQ : ∀ e s', E₀ e s' → Q e s') (hf : env.frame = some L := by rfl) (hk : env.scope.kind = .function := by rfl) :
    Raises w (env :: fr) s hint (loopE prog w (A.deeper env) env (fun e s' => wpAny (model prog w) (A.deeper env) (leaving env e) (fun _ s'' => Q e s'') (E1 e) s')) := by
  intro e h' tk x
  exact loop_out (s := { s with heap := h', toks := tk }) am S hz hL hE (by rw [hs]) x (hQ _) (.inr (.inl rfl)) hf hk
end
section
variable {prog : Program} {w : World} {A : Around} {E : Value → Shared → Prop} {s : Shared} {fr : List Env} {b : Oct} {v : Value} {Q : Value → Shared → Prop}
theorem bytesify_ok (am : Amb w A 2 30 fr s.heap) (hv : TB b v) (hz : b.size ≤ 1000) (hQ : ∀ h' tk' t', Ext s.heap h' → Q (.bytes b t') {s with heap := h', toks := tk'}) : wpAny (model prog w) A (call (.ref 120) [v]) Q E s := by
  rcases hv with ⟨t, rfl⟩ | ⟨x, t, rfl, hx, rfl⟩
  · exact bytesify_b am hQ
  · exact bytesify_s am hx (by simpa using hz) hQ
end
theorem St.setE {zs : List Heap} {L : Addr} {m m' : PySem.Str → Option Value} {own : List (Addr × Obj)} {h h' : Heap} (S : St zs L m own h) (hn : h'.Ns L m') (hs : ∀ b o, b ≠ L → h.get? b = some o → h'.get? b = some o) : St zs L m' own h' := by
  have nd := List.nodup_cons.mp S.nd
  refine ⟨hn, fun p hp => hs _ _ (fun e => nd.1 (e ▸ List.mem_map_of_mem hp)) (S.mine p hp), S.nd, fun z hz => ⟨fun b ob e => hs b ob (fun q => ?_) ((S.fz z hz).1 b ob e), (S.fz z hz).2⟩⟩
  have := (S.fz z hz).2 L (.head _)
  rw [← q, e] at this; cases this

/-- one object of a heap, frozen by itself -/
noncomputable def only (h : Heap) (a : Addr) : Heap := cut h fun b => b == a
theorem only_get {h : Heap} {a : Addr} : (only h a).get? a = h.get? a := by unfold only; rw [cut_get, if_pos (by simp)]
theorem only_ext {h : Heap} {a : Addr} : Ext (only h a) h := cut_ext _ _
theorem only_fresh {h₀ h : Heap} {a : Addr} (hn : h₀.get? a = none) : Fresh h₀ (only h a) := fun b o e => by
  unfold only at e
  rw [cut_get] at e
  split at e
  · rename_i q; rw [show b = a by simpa using q]; exact hn
  · cases e
section
variable {prog : Program} {w : World} {A : Around} {s₁ s₂ : Shared} {I : Addr} {target : Expr} {elt : Expr} {scope : PySem.Scope} {cl : List (PySem.Str × Addr)} {env : Env} {K : (D : Addr) → Heap → Array GenState → Nat → Prop}
theorem ask_set {items : Array Value} (l : List Oct) (hl : Paired BV l items.toList) (g : Oct → Oct) (src : Src prog w A s₁ s₂ I items.size (fun i v => items[i]? = some v) (fun a b => b = a)) (hn : l.length ≤ 4000)
    (turn : ∀ C a t s₃ m₃ E' z₃, a ∈ l → Ext s₁.heap z₃ → (∀ b o, b ≠ C → s₃.heap.get? b = some o → z₃.get? b = some o) → St [z₃] C m₃ [] s₃.heap →
      TurnA prog w A target [] elt (compEnvC scope cl C env) C true (fun _ y => BV (g a) y) (.bytes a t) E' s₃)
    (res : ∀ D h' tk, Ext s₁.heap h' → s₁.heap.get? D = none → SetOct prog w h' D (l.map g) → K D h' s₁.gens tk) : SetAsk prog w A target elt scope cl env s₁ s₂ (.ref I) K := by
  have hsz : items.size = l.length := by rw [← Array.length_toList]; exact hl.length.symm
  refine ⟨I, items.size, _, _, fun i => g (l.getD i #[]), rfl, by omega, src, fun C i v s₃ m₃ E' z₃ hi hv e1 e2 S₃ _ => ?_, fun D h' g' tk e1 hD hS hg => ?_⟩
  · have hi' : i < l.length := by omega
    have hi2 : i < items.toList.length := by rw [Array.length_toList]; exact hi
    have hb := pair_at hl i hi' hi2
    have ev : items.toList[i] = v := by
      have := hv
      rw [← Array.getElem?_toList, List.getElem?_eq_getElem hi2] at this
      exact Option.some.inj this
    rw [ev] at hb
    obtain ⟨t, rfl⟩ := hb
    have e : l.getD i #[] = l[i] := by simp [hi']
    have T := turn C l[i] t s₃ m₃ E' z₃ (List.getElem_mem hi') e1 e2 S₃
    unfold Turn
    unfold TurnA at T
    dsimp only
    rw [e]
    exact T
  · subst hg
    have e : (List.range items.size).map (fun i => g (l.getD i #[])) = l.map g := by
      rw [hsz]
      refine List.ext_getElem (by simp) fun i h1 h2 => ?_
      simp only [List.length_map] at h2
      simp [h2]
    rw [e] at hS
    exact res D h' tk e1 hD hS
end
end
-- part V1
theorem start_V1 : True := by
  w_top off
  trivial
section
open Builtin Builtin.ObjectAttr Builtin.Getset_descriptor
open Sem (wp)
section
variable {prog : Program} {w : World} {A : Around} {E : Value → Shared → Prop} {s : Shared} {fr : List Env} {ps : List Pair} {l : Value} {Q : Value → Shared → Prop}
theorem nav_ok (po : ProgOk prog) (am : Amb w A 8 100 fr s.heap) (hl : ∃ a vs n, l = .ref a ∧ s.heap.get? a = some (listOf vs n) ∧ Paired (fun p v => PairT p s.heap v) ps vs.toList) (hb : SmallP ps)
    (hQ1 : ∀ k, navPs ps = .error k → Raises w fr s k E)
    (hQ2 : ∀ h' tk' x z d, navPs ps = .ok d → Ext s.heap h' → Ext z h' → Fresh s.heap z → HdrV w d.told z x → Q (.ref x) { s with heap := h', toks := tk' }) :
    wpAny (model prog w) A (call (.ref 187) [l]) Q E s := by
  obtain ⟨la, lvs, ln, rfl, hlo, hlp⟩ := hl
  have X := am.k
  refine wpAny_call ?_
  refine enter (binds := [(PySem.Str.ofString "headers", .ref la), (PySem.Str.ofString "_parsed", .bool false)]) am (by k_is) (by k_is) (binds_K X rfl (by k_is) rfl rfl rfl) (locs rfl) fun L h₁ hL S => ?_
  dsimp only
  repeat' walk1
  have S0 := ‹St _ _ _ [_] _›.nil
  refine for_list (items := lvs.toList) (by exact am.hd) rfl ‹St _ _ _ [_] _›.nil (.tail _ (.head _)) ⟨_, hlo, rfl, ln, by simp⟩ (NavU s.heap ps) ⟨{}, _, [], 0, ⟨[], none, false⟩, .none, rfl, (fun a o q => by simp [Heap.get?] at q), rfl, rfl, rfl, rfl, rfl, rfl, rfl, .nil⟩ (fun i zs m own h => by obtain ⟨_, _, _, _, _, _, rfl, _⟩ := h; exact .tail _ (.head _)) ?_ ?_
  · rintro i v zs m own s' I oI hv ⟨zacc, a, vs, k, d, sv, rfl, hfr, rfl, hm1, hm0, hm2, hsv, hm3, hd, hT⟩ S₁ es
    have hi : i < ps.length := by
      have h1 := List.getElem?_eq_some_iff.mp hv
      obtain ⟨h1, _⟩ := h1
      have := hlp.length; omega
    have hp : ps[i]? = some ps[i] := List.getElem?_eq_getElem hi
    have hpv : PairT ps[i] s.heap v := by
      obtain ⟨h1, h2⟩ := List.getElem?_eq_some_iff.mp hv
      rw [← h2]; exact pair_at hlp i hi h1
    generalize ps[i] = p at hp hpv
    obtain ⟨n, x⟩ := p
    obtain ⟨ta, v1, v2, rfl, ht, hb1, hb2⟩ := hpv
    dsimp only at hb1 hb2
    obtain ⟨hn, hx⟩ := hb.2 _ (List.mem_of_getElem? hp)
    dsimp only at hn hx
    have hk : vs.length ≤ 1000 := by
      have h1 := nfold_len _ _ _ hd
      have h2 := hT.length
      have h4 : (ps.take i).length ≤ 100 := Nat.le_trans (List.take_sublist _ _).length_le hb.1
      rw [← h2]; exact Nat.le_trans h1 (Nat.le_trans (Nat.add_le_add (Nat.le_refl 0) h4) (by decide))
    rw [es]
    dsimp only
    clear S0
    refine genT fun Q8 E8 hq8 he8 => ?_
    refine unpackSt (by exact am.hd) S₁ (by obtain ⟨o9, h9, r9⟩ := ht; exact ⟨o9, S₁.froz (.tail _ (.head _)) _ _ h9, r9⟩) rfl rfl fun h₂ e2 S₂ => ?_
    clear S₁
    dsimp only
    repeat' walk1
    rename_i S₃
    refine bytesify_ok (by exact am.sub S₃ (.tail _ (.head _))) hb1 hn fun h₃ k₃ t₃ e₃ => ?_
    replace S₃ := S₃.ext e₃
    dsimp only
    repeat' walk1
    rename_i S₃
    refine bytesify_ok (by exact am.sub S₃ (.tail _ (.head _))) hb2 hx fun h₃ k₃ t₃ e₃ => ?_
    replace S₃ := S₃.ext e₃
    dsimp only
    repeat' walk1
    rename_i S₃
    refine validate_ok rx_name po (by exact am.sub S₃ (.tail _ (.head _))) hn (.inr ⟨_, rfl⟩) (fun hg h₄ k₄ v₄ e₄ => ?_) (fun hg => Raises.via he8 (loop_raise am S₃ (.tail _ (.head _)) hL (hQ1 _ (nav_stop hp hd (nv_tok hg))) rfl fun _ _ h => h))
    replace S₃ := S₃.ext e₄
    dsimp only
    repeat' walk1
    rename_i S₃
    refine validate_ok rx_value po (by exact am.sub S₃ (.tail _ (.head _))) hx (.inr ⟨_, rfl⟩) (fun hg2 h₄ k₄ v₄ e₄ => ?_) (fun hg2 => Raises.via he8 (loop_raise am S₃ (.tail _ (.head _)) hL (hQ1 _ (nav_stop hp hd (nv_val hg hg2))) rfl fun _ _ h => h))
    replace S₃ := S₃.ext e₄
    dsimp only
    repeat' walk1
    · rename_i S₄
      have hcl : lowB n = CL := arr_eq (by assumption)
      refine' sc_assign ?k0 ?k1 ?k2 ?k3 ?k4 ?k6 ?k7 ?_ ?k5
      case k0 => with_unfolding_all rfl
      case k1 => walk_at "m_clos"
      case k2 => exact noCell (by rfl)
      case k3 => exact rfl
      case k4 => exact lookAll (by rfl)
      case k5 => intro _; exact rfl
      case k6 => exact rfl
      case k7 => exact rfl
      repeat' walk1
      rename_i S₄
      have hB := ‹BytesAre (splitB x) _›
      have hlen : (splitB x).length ≤ 1002 := by have h9 := splitB_length x; omega
      refine src_list (by exact am.hd) (listAt (S₄.mine _ (.head _)) (fun _ _ h => h)) (by rw [List.size_toArray, ← hB.length, sizeLine_eq]; omega) fun I₁ s₂ src => ?_
      refine ⟨_, S₄.ns, ask_set (splitB x) hB stripB src (by omega) ?_ ?_⟩
      · rintro C q u s₃ m₃ E' z₃ hq e1 e2 S₅
        have am₃ := am.ext ((S₄.froz (.tail _ (.head _))).trans e1)
        have hqs := splitB_size hq
        unfold TurnA
        repeat' walk1
        exact tEnd (by assumption) (.head _) e2 ⟨_, rfl⟩
      · intro D h' tk' f1 f2 f3 h'' tk'' hn9 hk9
        have S₅ := S₄.add f1 only_ext (only_fresh (h := h') (a := D) f2)
        have S₆ := S₅.setE hn9 hk9
        have hset : SetOct prog w (only h' D) D ((splitB x).map stripB) := f3.keep fun o e => by rw [only_get]; exact e
        clear S₄ S₅ src f3
        replace S₆ := S₆.part (own' := [(I, oI), (a, listOf vs.toArray k)]) (List.sublist_cons_self _ _) (fun _ h => h)
        generalize hps : (splitB x).map stripB = parts at hset
        have hpne : parts ≠ [] := by rw [← hps]; simpa using splitB_ne x
        have hpsz : ∀ q ∈ parts, q.size ≤ 1000 := fun q hq => by
          rw [← hps] at hq
          obtain ⟨r, hr, rfl⟩ := List.mem_map.mp hq
          have := splitB_size hr
          have := stripB_size (b := r); omega
        dsimp only
        repeat' walk1
        refine len_set (hset.keep fun o e => S₆.froz (.head _) _ _ e) fun t9 tk9 => ?_
        dsimp only
        repeat' walk1
        · rename_i hne
          have hne' : cntR parts.reverse ≠ 1 := fun q => hne (by rw [q]; rfl)
          refine lpe_call (by exact am.sub S₆ (.tail _ (.tail _ (.head _)))) po (.inl ⟨rfl, rfl, rfl⟩) fun h2 k2 e t' dx e2 he xx => ⟨e, t', some dx, rfl, (kAt am S₆ (.tail _ (.tail _ (.head _)))).keeps e2, he, ?_⟩
          exact he8 _ _ (loop_out (s := ⟨_, _, _, _, _⟩) am S₆ (.tail _ (.tail _ (.head _))) hL (hQ1 _ (nav_stop hp hd (nv_cnt hg hg2 hcl (by rw [hps]; exact hne')))) rfl (xx _) (fun _ h => h) (.inl rfl))
        · rename_i hone
          have hone' : cntR parts.reverse = 1 := by omega
          obtain ⟨p0, hp0, hall⟩ := cntR_one hone'
          have hall' : ∀ y ∈ parts, y = p0 := fun y hy => hall y (by simpa using hy)
          have hp0m : p0 ∈ parts := by simpa using hp0
          have hp0d : parts.headD #[] = p0 := by
            cases parts with
            | nil => exact absurd rfl hpne
            | cons a l => exact hall' a (.head _)
          have hp0s : p0.size ≤ 1000 := hpsz p0 hp0m
          obtain ⟨tk1, ep1, t1, hO⟩ := (hset.keep fun o e => S₆.froz (.head _) _ _ e).one hpne hall'
          refine sorted_one (by exact am.hd) hO fun h9 k9 D9 c9 e9 n9 d9 => ?_
          have S₇ := S₆.add e9 only_ext (only_fresh (h := h9) (a := D9) n9)
          have hz9 : (only h9 D9).get? D9 = some (listOf #[.bytes p0 tk1] c9) := by rw [only_get]; exact d9
          have hi9 : (#[Value.bytes p0 tk1] : Array Value)[0]? = some (.bytes p0 tk1) := rfl
          clear S₆
          dsimp only
          repeat' walk1
          rename_i S₈
          replace S₈ := S₈.part (zs' := [zacc, s.heap]) (List.Sublist.refl _) (by simp)
          refine validate_ok rx_digits po (by exact am.sub S₈ (.tail _ (.head _))) hp0s (.inl rfl) (fun hg3 h₄ k₄ v₄ e₄ => ?_) (fun hg3 => Raises.via he8 (loop_raise am S₈ (.tail _ (.head _)) hL (hQ1 _ (nav_stop hp hd (nv_dig hg hg2 hcl (by rw [hps]; exact hone') (by rw [hps]; exact hp0d) hg3))) rfl fun _ _ h => h))
          replace S₈ := S₈.ext e₄
          dsimp only
          cases hseen : d.seen with
          | none =>
            obtain rfl : sv = .none := by rw [hseen] at hsv; exact hsv
            repeat' walk1
            · refine lpe_call (by exact am.sub S₈ (.tail _ (.head _))) po (.inl ⟨rfl, rfl, rfl⟩) fun h2 k2 e t' dx e2 he xx => ⟨e, t', some dx, rfl, (kAt am S₈ (.tail _ (.head _))).keeps e2, he, ?_⟩
              exact he8 _ _ (loop_out (s := ⟨_, _, _, _, _⟩) am S₈ (.tail _ (.head _)) hL (hQ1 _ (nav_stop hp hd (nv_long hg hg2 hcl (by rw [hps]; exact hone') (by rw [hps]; exact hp0d) hg3 (by omega)))) rfl (xx _) (fun _ h => h) (.inl rfl))
            · have S₉ := ‹St _ _ _ _ _›
              exact hq8 _ _ (nav_close (d' := { d with told := d.told ++ [(n, lowB n, p0)], seen := some p0 }) S₉ hfr hm1 hm0 rfl ⟨_, rfl⟩ hm3 ((nav_snoc hp hd).trans (nv_first hg hg2 hcl (by rw [hps]; exact hone') (by rw [hps]; exact hp0d) hg3 (by omega) hseen)) rfl hT)
          | some l =>
            obtain ⟨tl, rfl⟩ : ∃ t, sv = .bytes l t := by rw [hseen] at hsv; exact hsv
            repeat' walk1
            · refine lpe_call (by exact am.sub S₈ (.tail _ (.head _))) po (.inl ⟨rfl, rfl, rfl⟩) fun h2 k2 e t' dx e2 he xx => ⟨e, t', some dx, rfl, (kAt am S₈ (.tail _ (.head _))).keeps e2, he, ?_⟩
              exact he8 _ _ (loop_out (s := ⟨_, _, _, _, _⟩) am S₈ (.tail _ (.head _)) hL (hQ1 _ (nav_stop hp hd (nv_long hg hg2 hcl (by rw [hps]; exact hone') (by rw [hps]; exact hp0d) hg3 (by omega)))) rfl (xx _) (fun _ h => h) (.inl rfl))
            · refine lpe_call (by exact am.sub S₈ (.tail _ (.head _))) po (.inl ⟨rfl, rfl, rfl⟩) fun h2 k2 e t' dx e2 he xx => ⟨e, t', some dx, rfl, (kAt am S₈ (.tail _ (.head _))).keeps e2, he, ?_⟩
              exact he8 _ _ (loop_out (s := ⟨_, _, _, _, _⟩) am S₈ (.tail _ (.head _)) hL (hQ1 _ (nav_stop hp hd (nv_other hg hg2 hcl (by rw [hps]; exact hone') (by rw [hps]; exact hp0d) hg3 (by omega) hseen (arr_nee (by assumption))))) rfl (xx _) (fun _ h => h) (.inl rfl))
            · have S₉ := ‹St _ _ _ _ _›
              exact hq8 _ _ (nav_close2 S₉ hfr hm1 hm0 hm2 (by rw [hseen]; exact ⟨_, rfl⟩) hm3 ((nav_snoc hp hd).trans (nv_again hg hg2 hcl (by rw [hps]; exact hone') (by rw [hps]; exact hp0d) hg3 (by omega) hseen (arr_nne (by assumption)))) hT)
    · have S₄ := ‹St _ _ _ _ _›
      refine lpe_call (kw := [(PySem.Str.ofString "error_status_hint", .int 501 _)]) (hint := 501) (by exact am.sub S₄ (.tail _ (.head _))) po (.inr rfl) fun h2 k2 e t' dx e2 he xx => ⟨e, t', some dx, rfl, (kAt am S₄ (.tail _ (.head _))).keeps e2, he, ?_⟩
      exact he8 _ _ (loop_out (s := ⟨_, _, _, _, _⟩) am S₄ (.tail _ (.head _)) hL (hQ1 _ (nav_stop hp hd (nv_te1 hg hg2 (arr_ne (by assumption)) (arr_eq (by assumption)) (by assumption)))) rfl (xx _) (fun _ h => h) (.inl rfl))
    · have S₄ := ‹St _ _ _ _ _›
      refine lpe_call (kw := [(PySem.Str.ofString "error_status_hint", .int 501 _)]) (hint := 501) (by exact am.sub S₄ (.tail _ (.head _))) po (.inr rfl) fun h2 k2 e t' dx e2 he xx => ⟨e, t', some dx, rfl, (kAt am S₄ (.tail _ (.head _))).keeps e2, he, ?_⟩
      exact he8 _ _ (loop_out (s := ⟨_, _, _, _, _⟩) am S₄ (.tail _ (.head _)) hL (hQ1 _ (nav_stop hp hd (nv_te2 hg hg2 (arr_ne (by assumption)) (arr_eq (by assumption)) (by assumption) (arr_nee (by assumption))))) rfl (xx _) (fun _ h => h) (.inl rfl))
    · rename_i S₄
      exact hq8 _ _ (nav_close (d' := { d with told := d.told ++ [(n, lowB n, lowB x)], coded := true }) S₄ hfr hm1 hm0 hm2 hsv rfl ((nav_snoc hp hd).trans (nv_te3 hg hg2 (arr_ne (by assumption)) (arr_eq (by assumption)) (by assumption) (arr_nne (by assumption)))) rfl hT)
    · rename_i S₄
      exact hq8 _ _ (nav_close (d' := { d with told := d.told ++ [(n, lowB n, x)] }) S₄ hfr hm1 hm0 hm2 hsv hm3 ((nav_snoc hp hd).trans (nv_plain hg hg2 (arr_ne (by assumption)) (arr_ne (by assumption)))) rfl hT)
  · rintro zs m own h' tk' ⟨zacc, a, vs, k, d, sv, rfl, hfr, rfl, hm1, hm0, hm2, hsv, hm3, hd, hT⟩ S₁
    dsimp only
    repeat' walk1
    obtain ⟨z', x1, x2, x3, S₂⟩ := S₁.freeze (z := zacc) (.head _)
    have hz' : Fresh s.heap z' := fun b ob q => by
      rcases x3 b ob q with rfl | hq
      · exact (S₁.fz s.heap (.tail _ (.head _))).2 b (.tail _ (.head _))
      · obtain ⟨o9, h9⟩ := Option.isSome_iff_exists.mp hq
        exact hfr b o9 h9
    refine headers_make (by exact am.sub S₁ (.tail _ (.head _))) fun h₉ k₉ xx dx k1 e₉ nx nd nxd gx gd => ?_
    have S₃ := S₂.ext e₉
    have low : ∀ b, h'.get? b = none → s.heap.get? b = none := fun b hb => by
      cases q : s.heap.get? b with
      | none => rfl
      | some o => rw [S₁.froz (.tail _ (.head _)) b o q] at hb; cases hb
    let z : Heap := cut h₉ fun b => (z'.get? b).isSome || b == xx || b == dx
    have zx : Ext z' z := fun b o q => by
      rw [cut_get, if_pos (by simp [q])]; exact S₃.froz (.head _) b o q
    refine hQ2 _ _ _ z d (by rw [List.take_of_length_le (by rw [hlp.length]; exact Nat.le_refl _)] at hd; exact hd) (S₃.froz (.tail _ (.tail _ (.head _)))) (cut_ext _ _) (fun b ob q => ?_) ⟨dx, a, vs.toArray, k, k1, ?_, ?_, zx _ _ x2, ?_⟩
    · rw [cut_get] at q
      split at q
      · rename_i q9
        simp only [Bool.or_eq_true, beq_iff_eq] at q9
        rcases q9 with (q9 | rfl) | rfl
        · obtain ⟨o9, h9⟩ := Option.isSome_iff_exists.mp q9
          exact hz' b o9 h9
        · exact low _ nx
        · exact low _ nd
      · cases q
    · rw [cut_get, if_pos (by simp)]; exact gx
    · rw [cut_get, if_pos (by simp)]; exact gd
    · simpa using hT.mono fun _ _ h => TripV.ext h fun b o q => zx b o (x1 b o q)
end
end
-- part G1
theorem start_G1 : True := by
  w_top off
  trivial
section
open Builtin Builtin.ObjectAttr Builtin.Getset_descriptor
open Sem (wp)
section
variable {prog : Program} {w : World} {A : Around} {s : Shared} {fr : List Env} {d u : Nat}
  {R : Result → Shared → Prop} {name qual : PySem.Str} {params : Arguments} {body : List Stmt} {scope : PySem.Scope} {dV kV doc pm cdv ct oc : Value} {an od : Option Addr} {osl : Array (Option Value)} {f : Addr} {args : Args} {binds : List (PySem.Str × Value)}
theorem enterGen (am : Amb w A (d + 1) u fr s.heap) (ho : (Mine.hd.heap_1 w.params).lookup f = some ⟨oc, od, .func (fnOf name qual params body scope dV kV doc pm an cdv ct), osl⟩) (hcd : codeIn (Mine.hd.heap_1 w.params) cdv qual = true)
    (hbind : BindsTo s (fnOf name qual params body scope dV kV doc pm an cdv ct) args binds) (hloc : ∀ y ∈ binds, scope.names.lookup y.1 = some .local)
    (h : ∀ L a h₁ tk o, s.heap.objs.size ≤ L → s.heap.get? a = none → St [s.heap] L (fun y => binds.reverse.lookup y) [(a, o)] h₁ → h₁.IsGen a s.gens.size →
      R (.ok (.ret (.ref a))) { s with gens := s.gens.push (.fresh (.func body (envX qual scope L f cdv []))), toks := tk, heap := h₁ })
    (hgen : scope.isGenerator = true) (hcell : ∀ x ∈ scope.names, x.2 ≠ .cell := by decide) (hco : scope.isCoroutine = false := by rfl) (hk : scope.kind = .function := by rfl) :
    codeAny (model prog w) A (.call (.ref f) args) R s := by
  obtain ⟨_, _, _, _, _, T⟩ := am.t
  refine codeAny_call_generator (fd := fnOf name qual params body scope dV kV doc pm an cdv ct) (body := body) (by have := am.dep; omega) (am.k _ _ ho) rfl hco hgen rfl (codeRec_of am.k hcd) (hbind _ _ _ _ ?_)
  refine wpAny_newFunctionEnv hcell hloc (fun h₁ hns hsb => ⟨T.nolimit.fresh _ hsb, ?_⟩) hk
  have hk₁ : Ext s.heap h₁ := fun b o e => hsb.extBut b o (Nat.ne_of_lt (Heap.lt_size e)) (Heap.get?_push_of_some _ e)
  have S : St [s.heap] s.heap.objs.size (fun y => binds.reverse.lookup y) [] h₁ := ⟨hns, (fun _ hp => (nomatch hp)), by simp, fun z hz => by
    rw [List.mem_singleton.mp hz]
    exact ⟨hk₁, fun a ha => by rw [List.mem_singleton.mp ha]; exact fresh_none (Nat.le_refl _)⟩⟩
  have hsz : h₁.objs.size = s.heap.objs.size + 1 := by rw [hsb.1, Heap.size_push]
  exact h s.heap.objs.size _ _ _ _ (Nat.le_refl _) (fresh_none (by rw [hsz]; exact Nat.le_succ _)) (S.push _) ⟨_, _, _, Heap.get?_push_size _ rfl, rfl, rfl, rfl⟩
end
section
variable {M : Model} {A : Around} {R : GenEnd} {Y : Protocol} {n : Nat} {s₀ : Shared} {c : Code} {fs : List Frame} {s : Shared} {env : Env}
  {K : Flow → Sem PySem.Fin} {H : Value → Sem PySem.Fin} {gd : Bool → Bool} {lv : List Value → List Value}

/-- a for statement of a generator's body -/
theorem seg_For {target iter : PySem.Expr} {body orelse : List Stmt} {pos : Pos} (hs : ∀ x, foldedSetIterable iter env x = pure x)
    (h : wpAny M (A.over c fs) (eval iter env) (fun x s₁ => wpAny M (A.over c fs) (pyIter x) (fun it s₂ => ∀ p, Seg M A R Y n s₀ (.forLoop target it body orelse env) (M.den (.forLoop target it body orelse env))
      (.ret (fun r => ((match r with | .ok f => (.pure f : Sem Flow) | .error e => .raise e).onRaise fun (x : Value) => do
        if (← field x 1) == Value.none then unsupported "frame.own-activation:exception-without-traceback"
        setFlight x env.frame).wrap K H gd lv) none (gd false) (lv []) c p [] :: fs) s₂) (fun x s' => Seg M A R Y n s₀ c (H x) fs s') s₁) (fun x s' => Seg M A R Y n s₀ c (H x) fs s') s) :
    Seg M A R Y n s₀ c ((exec (.For target iter body orelse pos) env).wrap K H gd lv) fs s := by
  rw [exec_For]
  refine seg_bind_wrap (wpAny_standAt ?_)
  refine seg_bind_wrap (wpAny_mono h (fun x s₁ h₁ => ?_) fun _ _ e => e)
  refine seg_bind_wrap (wpAny_of_eq (hs x) ?_)
  refine seg_bind_wrap (wpAny_standAt ?_)
  refine seg_bind_wrap (wpAny_holding (wpAny_mono h₁ (fun it s₂ h₂ => ?_) fun _ _ e => e))
  exact seg_call h₂
end
section
variable {prog : Program} {w : World} {A : Around} {R : GenEnd} {Y : Protocol} {n : Nat} {s₀ : Shared} {fs : List Frame} {s : Shared} {env : Env}

/-- a turn of a for loop of a generator's body -/
theorem seg_forLoop {target : PySem.Expr} {it : Value} {body orelse : List Stmt}
    (h : wpAny (model prog w) (A.over (.forLoop target it body orelse env) fs) (pyNext it) (fun r s₁ => match r with
      | none => Seg (model prog w) A R Y n s₀ (.block orelse env) ((model prog w).den (.block orelse env)) fs s₁
      | some v => wpAny (model prog w) (A.over (.forLoop target it body orelse env) fs) (letOwnedTupleGo target it v) (fun _ s₂ => wpAny (model prog w) (A.over (.forLoop target it body orelse env) fs) (assign target env v) (fun _ s₃ =>
          Seg (model prog w) A R Y n s₀ (.forLoop target it body orelse env) ((execs body env).wrap (fun f => match f with
            | .next | .cont => .pure (.again (.forLoop target it body orelse env))
            | .brk => .pure (.done .next)
            | .ret v => .pure (.done (.ret v))) (fun e => (do noteFrame e env; theTreesLotGoes e : Sem Unit).wrap (fun _ => .raise e) .raise id id) id id) fs s₃)
          (fun _ _ => False) s₂) (fun _ _ => False) s₁) (fun _ _ => False) s) :
    Seg (model prog w) A R Y n s₀ (.forLoop target it body orelse env) ((model prog w).den (.forLoop target it body orelse env)) fs s := by
  show Seg _ A R Y n s₀ _ ((forTurn target it body orelse env).onRaise (fun x => do noteFrame x env; theTreesLotGoes x)) fs s
  unfold forTurn
  rw [Sem.onRaise_eq_wrap]
  refine seg_bind_wrap (wpAny_standAt ?_)
  refine seg_bind_wrap (wpAny_onRaise (wpAny_mono h (fun r s₁ h₁ => ?_) fun _ _ e => e.elim))
  cases r with
  | none => exact seg_again rfl h₁
  | some v =>
    refine seg_bind_wrap (wpAny_mono h₁ (fun _ s₂ h₂ => ?_) fun _ _ e => e.elim)
    refine seg_bind_wrap (wpAny_mono h₂ (fun _ s₃ h₃ => ?_) fun _ _ e => e.elim)
    rw [Sem.bind_eq_wrap', Sem.wrap_wrap]
    rw [Sem.wrap_congr (execs body env) _ _ (K' := fun f => match f with
            | .next | .cont => .pure (.again (.forLoop target it body orelse env))
            | .brk => .pure (.done .next)
            | .ret v => .pure (.done (.ret v))) (H' := (fun e => (do noteFrame e env; theTreesLotGoes e : Sem Unit).wrap (fun _ => .raise e) .raise id id))
        (fun f => by cases f <;> rfl)
        (fun e => by first | exact Sem.bind_eq_wrap _ _ | (show (do noteFrame e env; theTreesLotGoes e : Sem Unit).bind (fun _ => .raise e) = _; rw [Sem.bind_eq_wrap]))]
    exact h₃
end
end
-- part G2
theorem start_G2 : True := by
  w_top off
  trivial
section
open Builtin Builtin.ObjectAttr Builtin.Getset_descriptor
open Sem (wp)

/-- what changed since: the generator's own names and its iterator -/
noncomputable def Since (L I : Addr) (s₀ s : Shared) : Prop := s = { s₀ with heap := s.heap, toks := s.toks } ∧ ∀ b o, b ≠ L → b ≠ I → s₀.heap.get? b = some o → s.heap.get? b = some o
theorem Since.refl (L I : Addr) (s : Shared) : Since L I s s := ⟨rfl, fun _ _ _ _ e => e⟩

/-- what a generator of pairs hands on -/
noncomputable def GPro (z : Heap) (L I : Addr) (ts : List Trip) : Protocol := fun m s₀ v s kap =>
  (∃ t va v1 v2, ts[ts.length - 1 - m]? = some t ∧ v = .ref va ∧ s₀.heap.get? va = none ∧ va ≠ L ∧ va ≠ I ∧ s.heap.get? va = some (tupOf #[v1, v2]) ∧ BV t.2.1 v1 ∧ BV t.2.2 v2) ∧ Since L I s₀ s ∧
    ∃ oL oI, s.heap.get? L = some oL ∧ s.heap.get? I = some oI ∧ ∀ s'' : Shared, Ext z s''.heap → s''.heap.get? L = some oL → s''.heap.get? I = some oI → kap (.send .none) s''
abbrev GFin (L I : Addr) : GenEnd := fun n s₀ r s₁ => r = .ok (.ret .none) ∧ (n = 0 ∧ Since L I s₀ s₁)
abbrev gScope : PySem.Scope := { kind := .function, names := [(Str.ofString "self", .local), (Str.ofString "_", .local), (Str.ofString "name", .local), (Str.ofString "value", .local)], isGenerator := true, isCoroutine := false }
abbrev gEnv (L : Addr) : Env := envX (Str.ofString "Headers.__iter__") gScope L 155 (.ref 154) []

/-- all but the block's own, frozen -/
theorem St.rest {zs : List Heap} {L : Addr} {m : Str → Option Value} {own : List (Addr × Obj)} {h : Heap} (S : St zs L m own h) :
    ∃ z, (∀ b o, b ∉ L :: own.map (·.1) → h.get? b = some o → z.get? b = some o) ∧ St (z :: zs) L m own h := by
  refine ⟨cut h fun b => !((L :: own.map (·.1)).contains b), fun b o hb e => ?_, S.ns, S.mine, S.nd, fun y hy => ?_⟩
  · rw [cut_get, if_pos (by simpa using hb)]; exact e
  · rcases List.mem_cons.mp hy with rfl | hy
    · refine ⟨cut_ext _ _, fun a ha => ?_⟩
      rw [cut_get, if_neg (by rw [List.contains_iff_mem.mpr ha]; decide)]
    · exact S.fz y hy
theorem St.move {z : Heap} {L : Addr} {m : Str → Option Value} {own : List (Addr × Obj)} {h h' : Heap} (S : St [z] L m own h) (z1 : Ext z h') (z2 : ∀ o, h.get? L = some o → h'.get? L = some o) (z3 : ∀ p ∈ own, h'.get? p.1 = some p.2) : St [z] L m own h' :=
  ⟨S.ns.at' z2, z3, S.nd, fun y hy => by rw [List.mem_singleton.mp hy]; exact ⟨z1, (S.fz z (.head _)).2⟩⟩
section
variable {prog : Program} {w : World} {A : Around} {E : Value → Shared → Prop} {s : Shared} {fr : List Env} {Q : Value → Shared → Prop} {ts : List Trip} {x : Addr}
theorem g_loop {p1 p2 p3 p4 q1 q2 q3 q4 q5 : Pos} {k1 k2} {z : Heap} {l : Addr} {vs : Array Value} {n : Nat} {L I : Addr} {fs : List Frame} (hl : z.get? l = some (listOf vs n)) (hP : Paired (fun p v => TripV p z v) ts vs.toList)
    (hfs : splitAtGen fs = none) (hfg : fs.any Frame.guarded = false) (hhf : ∀ c, (A.over c fs).handled = none)
    (fin : ∀ s₀ s, Since L I s₀ s → Seg (model prog w) A (GFin L I) (GPro z L I ts) 0 s₀ (.block [] (gEnv L)) ((model prog w).den (.block [] (gEnv L))) fs s) :
    ∀ (k i : Nat) (s₀ s : Shared) (m : Str → Option Value) (oI : Obj), ts.length - i = k → i ≤ ts.length → St [z] L m [(I, oI)] s.heap → (oI.cls = .type "list_iterator" ∧ oI.data = .fields #[.ref l, .int i 0]) → Since L I s₀ s →
      Seg (model prog w) A (GFin L I) (GPro z L I ts) (ts.length - i) s₀
        (.forLoop (.Tuple [.Name (Str.ofString "_") p1, .Name (Str.ofString "name") p2, .Name (Str.ofString "value") p3] k1 p4) (.ref I) [.Expr (.Yield (some (.Tuple [.Name (Str.ofString "name") q1, .Name (Str.ofString "value") q2] k2 q3)) q4) q5] [] (gEnv L))
        ((model prog w).den (.forLoop (.Tuple [.Name (Str.ofString "_") p1, .Name (Str.ofString "name") p2, .Name (Str.ofString "value") p3] k1 p4) (.ref I) [.Expr (.Yield (some (.Tuple [.Name (Str.ofString "name") q1, .Name (Str.ofString "value") q2] k2 q3)) q4) q5] [] (gEnv L))) fs s := by
  have hts : ts.length = vs.size := by rw [← Array.length_toList]; exact hP.length
  intro k
  induction k with
  | zero =>
    intro i s₀ s m oI hk hi S hp hsi
    have hin : i = ts.length := Nat.le_antisymm hi (Nat.le_of_sub_eq_zero hk)
    subst hin
    refine seg_forLoop ?_
    refine (It.list (prog := prog) (w := w) (hhf _) (I := I) (z := z) ⟨_, hl, rfl, n, rfl⟩).done s _ _ oI S.ownAt (by rw [← hts]; exact hp) (S.froz (.head _)) fun h' tk hk' => ?_
    dsimp only
    rw [Nat.sub_self]
    refine fin _ _ ⟨by rw [hsi.1], fun b o h1 h2 e => hk' b o h2 (hsi.2 b o h1 h2 e)⟩
  | succ k ih =>
    intro i s₀ s m oI hk hi S hp hsi
    have hlt : i < ts.length := Nat.lt_of_sub_eq_succ hk
    refine seg_forLoop ?_
    refine (It.list (prog := prog) (w := w) (hhf _) (I := I) (z := z) ⟨_, hl, rfl, n, rfl⟩).item i s _ _ oI (hts ▸ hlt) S.ownAt hp (S.froz (.head _)) fun v h' tk oI' hv ho' hp' hk' => ?_
    obtain ⟨zr, hzr, Sr⟩ := S.rest
    have S' := Sr.updE hk' ho'
    have ht : ts[i]? = some ts[i] := List.getElem?_eq_getElem hlt
    have hi2 : i < vs.toList.length := by rw [Array.length_toList, ← hts]; exact hlt
    have htv : TripV ts[i] z v := by
      have h1 := pair_at hP i hlt hi2
      have h2 : vs.toList[i] = v := by
        have := hv
        rw [← Array.getElem?_toList, List.getElem?_eq_getElem hi2] at this
        exact Option.some.inj this
      rw [h2] at h1; exact h1
    generalize ts[i] = t at ht htv
    obtain ⟨ta, v1, v2, v3, rfl, htu, ⟨t1, rfl⟩, ⟨t2, rfl⟩, ⟨t3, rfl⟩⟩ := htv
    dsimp only
    refine (It.list (prog := prog) (w := w) (hhf _) (I := I) (z := z) ⟨_, hl, rfl, n, rfl⟩).lets (i + 1) oI' _ _ _ _ _ ho' hp' ?_
    have htu' : h'.IsTuple ta #[.bytes t.1 t1, .bytes t.2.1 t2, .bytes t.2.2 t3] := by obtain ⟨o9, h9, r9⟩ := htu; exact ⟨o9, S'.froz (.tail _ (.head _)) _ _ h9, r9⟩
    refine unpackSt (hhf _) S' htu' rfl rfl fun h₂ e2 S₂ => ?_
    clear S S' Sr
    dsimp only
    repeat' walk1
    rename_i S₃
    rw [hk]
    refine seg_execs_cons (seg_Expr_Yield hfs rfl hfg ?_)
    repeat' walk1
    rename_i a4 h4 n4 e4 S₄ kap hkap
    have nd := S₄.nd
    simp only [List.map_cons, List.nodup_cons, List.mem_cons, not_or, List.map_nil] at nd
    obtain ⟨⟨q1, q2, _⟩, ⟨q3, _⟩, _⟩ := nd
    have kept : ∀ b o, b ≠ L → b ≠ I → s₀.heap.get? b = some o → h4.get? b = some o := fun b o h1 h2 e => S₄.froz (.head _) b o (hzr b o (by simp [h1, h2]) (hsi.2 b o h1 h2 e))
    have fresh : s₀.heap.get? a4 = none := by
      cases q : s₀.heap.get? a4 with
      | none => rfl
      | some o =>
        have := hzr a4 o (by simp [Ne.symm q1, q3]) (hsi.2 a4 o (Ne.symm q1) q3 q)
        rw [(S₄.fz zr (.head _)).2 a4 (.tail _ (.head _))] at this; cases this
    obtain ⟨oL, _, _, hoL, _⟩ := id S₄.ns
    refine ⟨⟨t, a4, _, _, by rw [show ts.length - 1 - k = i by rw [Nat.sub_sub, Nat.add_comm 1 k, ← hk, Nat.sub_sub_self (Nat.le_of_lt hlt)]]; exact ht, rfl, fresh, Ne.symm q1, q3, S₄.mine _ (.head _), ⟨_, rfl⟩, ⟨_, rfl⟩⟩, ⟨by rw [hsi.1], kept⟩, oL, oI', hoL, S₄.mine _ (.tail _ (.head _)), fun s'' z1 z2 z3 => ?_⟩
    refine hkap _ _ ?_
    dsimp only
    refine seg_execs_nil ?_
    refine seg_again rfl ?_
    rw [show k = ts.length - (i + 1) by rw [← Nat.sub_sub, hk]; rfl]
    have SS := (S₄.drop.less (zs' := [z]) (fun y hy => by rw [List.mem_singleton.mp hy]; exact .tail _ (.head _)))
    refine ih (i + 1) s'' s'' _ oI' (by rw [← Nat.sub_sub, hk]; rfl) hlt (SS.move z1 (fun o e => by rw [hoL] at e; cases e; exact z2) fun p hp => ?_) hp' (Since.refl _ _ _)
    rw [List.mem_singleton.mp hp]; exact z3
end
end
-- part G3
theorem start_G3 : True := by
  w_top off
  trivial
section
open Builtin Builtin.ObjectAttr Builtin.Getset_descriptor
open Sem (wp)
section
variable {prog : Program} {w : World} {A : Around} {E : Value → Shared → Prop} {s : Shared} {fr : List Env} {Q : Value → Shared → Prop} {ts : List Trip} {x : Addr}
theorem g_start {p1 p2 p3 p4 q1 q2 q3 q4 q5 r1 r2 r3 : Pos} {k1 k2} {z : Heap} {l dx : Addr} {vs : Array Value} {n : Nat} {kt : Tok} {L : Addr} {m : Str → Option Value} (hh : A.handled = none) (X : (Mine.hd.heap_1 w.params).In z) (hx : z.get? x = some (instObj 177 dx)) (hdx : z.get? dx = some (hdrDict w kt l)) (hl : z.get? l = some (listOf vs n)) (hP : Paired (fun p v => TripV p z v) ts vs.toList)
    (S : St [z] L m [] s.heap) (hm : m (Str.ofString "self") = some (.ref x)) :
    Seg (model prog w) A (GFin L s.heap.objs.size) (GPro z L s.heap.objs.size ts) ts.length s
      (.func [.For (.Tuple [.Name (Str.ofString "_") p1, .Name (Str.ofString "name") p2, .Name (Str.ofString "value") p3] k1 p4) (.Attribute (.Name (Str.ofString "self") r1) (Str.ofString "_full_items") r2) [.Expr (.Yield (some (.Tuple [.Name (Str.ofString "name") q1, .Name (Str.ofString "value") q2] k2 q3)) q4) q5] [] r3] (gEnv L))
      ((model prog w).den (.func [.For (.Tuple [.Name (Str.ofString "_") p1, .Name (Str.ofString "name") p2, .Name (Str.ofString "value") p3] k1 p4) (.Attribute (.Name (Str.ofString "self") r1) (Str.ofString "_full_items") r2) [.Expr (.Yield (some (.Tuple [.Name (Str.ofString "name") q1, .Name (Str.ofString "value") q2] k2 q3)) q4) q5] [] r3] (gEnv L))) [] s := by
  refine seg_func (seg_execs_cons (seg_For (fun _ => rfl) ?_))
  repeat' walk1
  refine hdrFull (X.keeps (S.froz (.head _))) (S.froz (.head _) _ _ hx) (S.froz (.head _) _ _ hdx) ?_
  refine wpAny_pyIter_list (items := vs) ⟨_, S.froz (.head _) _ _ hl, rfl, n, rfl⟩ ?_
  intro p
  have S' := S.push { cls := .type "list_iterator", data := .fields #[.ref l, .int 0 0] }
  refine g_loop hl hP ?_ ?_ ?_ (fun s₀ s hs => ?_) ts.length 0 s _ _ _ rfl (Nat.zero_le _) S' ⟨rfl, rfl⟩ ⟨rfl, fun b o _ _ e => Heap.get?_push_of_some _ e⟩
  · rfl
  · rfl
  · intro c; exact hh
  · refine seg_leaf (.ok .next) ?_
    show Seg _ _ _ _ _ _ _ ((execs [] (gEnv L)).wrap _ _ _ _) _ _
    refine seg_execs_nil ?_
    exact seg_end (.ok (.ret .none)) ⟨rfl, rfl, hs⟩
end
end
-- part G4
theorem start_G4 : True := by
  w_top off
  trivial
section
open Builtin Builtin.ObjectAttr Builtin.Getset_descriptor
open Sem (wp)

/-- a generator of pairs that stands before the pairs rest -/
noncomputable def GRdy (prog : Program) (w : World) (A : Around) (z : Heap) (a : Addr) (g : Nat) : List Trip → List (Addr × Obj) → GenState → Prop
  | [] => fun W gs => ∀ (s : Shared) (Q : Option Value → Shared → Prop) (E : Value → Shared → Prop), s.gens[g]? = some gs → Ext z s.heap → (∀ p ∈ W, s.heap.get? p.1 = some p.2) → s.heap.IsGen a g →
      (∀ h' tk G', GenOnly g s.gens G' → G'[g]? = some .finished → (∀ b o, b ∉ W.map (·.1) → s.heap.get? b = some o → h'.get? b = some o) → Q none { s with heap := h', toks := tk, gens := G' }) →
      wpAny (model prog w) A (pyNext (.ref a)) Q E s
  | t :: rest => fun W gs => ∀ (s : Shared) (Q : Option Value → Shared → Prop) (E : Value → Shared → Prop), s.gens[g]? = some gs → Ext z s.heap → (∀ p ∈ W, s.heap.get? p.1 = some p.2) → s.heap.IsGen a g →
      (∀ va v1 v2 h' tk G' gs' W', GRdy prog w A z a g rest W' gs' → GenOnly g s.gens G' → G'[g]? = some gs' → (∀ b o, b ∉ W.map (·.1) → s.heap.get? b = some o → h'.get? b = some o) →
        (∀ p ∈ W', h'.get? p.1 = some p.2) → (∀ p ∈ W', p.1 ∈ W.map (·.1) ∨ s.heap.get? p.1 = none) → (∀ b ∈ W.map (·.1), b ∈ W'.map (·.1)) → s.heap.get? va = none → va ∉ W'.map (·.1) → h'.get? va = some (tupOf #[v1, v2]) → BV t.2.1 v1 → BV t.2.2 v2 →
        Q (some (.ref va)) { s with heap := h', toks := tk, gens := G' }) →
      wpAny (model prog w) A (pyNext (.ref a)) Q E s
section
variable {prog : Program} {w : World} {A : Around} {E : Value → Shared → Prop} {s : Shared} {fr : List Env} {Q : Value → Shared → Prop} {ts : List Trip} {x : Addr}
theorem setG (s : Shared) (g : Nat) (gs x y : GenState) (h : s.gens[g]? = some gs) : GenOnly g s.gens ((s.setGen g x).setGen g y).gens ∧ ((s.setGen g x).setGen g y).gens[g]? = some y :=
  ⟨(GenOnly.setGen s g x).trans (GenOnly.setGen _ g y), setGen_self (gs := x) (setGen_self h)⟩
theorem g_susp {z : Heap} {a : Addr} {g : Nat} {L I : Addr} (hh : A.handled = none) (hroom : A.depth < recursionLimit) (nl : z.NoLimit) (hzL : z.get? L = none) (hzI : z.get? I = none) : ∀ (k i : Nat) (oL oI : Obj) (gs : GenState), ts.length - i = k → i ≤ ts.length →
    (∀ s'' : Shared, Ext z s''.heap → s''.heap.get? L = some oL → s''.heap.get? I = some oI → gs.Goes (model prog w) A.in1 (GFin L I) (GPro z L I ts) (ts.length - i) (.send .none) s'') →
    GRdy prog w A z a g (ts.drop i) [(L, oL), (I, oI)] gs := by
  intro k
  induction k with
  | zero =>
    intro i oL oI gs hk hi hgo
    have hin : i = ts.length := Nat.le_antisymm hi (Nat.le_of_sub_eq_zero hk)
    subst hin
    rw [List.drop_length]
    intro s Q E hgs hz hW hg hQ
    have hW1 := hW (L, oL) (.head _)
    have hW2 := hW (I, oI) (.tail _ (.head _))
    have go := hgo (s.setGen g .running) hz hW1 hW2
    rw [Nat.sub_self] at go
    refine wpAny_pyNext_gen (P := fun n s₀ s₁ => n = 0 ∧ Since L I s₀ s₁) hh (nl.keeps hz) hroom hg hgs go (fun v s₁ gs' hv => ?_) (fun s₁ hp h' hk => ?_)
    · obtain ⟨_, ⟨_, e2⟩, oL', oI', hL', hI', hkap⟩ := hv
      exact (hkap s₁ (fun b o e => e2 b o (fun q => by rw [q, hzL] at e; cases e) (fun q => by rw [q, hzI] at e; cases e) (hz b o e)) hL' hI').elim
    · obtain ⟨_, e1, e2⟩ := hp
      have := hQ h' s₁.toks _ (setG s g gs .running .finished hgs).1 (setG s g gs .running .finished hgs).2 fun b o hb e => hk b o (e2 b o (by rintro rfl; simp at hb) (by rintro rfl; simp at hb) e)
      rw [e1]; exact this
  | succ k ih =>
    intro i oL oI gs hk hi hgo
    have hlt : i < ts.length := Nat.lt_of_sub_eq_succ hk
    rw [List.drop_eq_getElem_cons hlt]
    intro s Q E hgs hz hW hg hQ
    have hW1 := hW (L, oL) (.head _)
    have hW2 := hW (I, oI) (.tail _ (.head _))
    have go := hgo (s.setGen g .running) hz hW1 hW2
    rw [hk] at go
    refine wpAny_pyNext_gen (P := fun n s₀ s₁ => n = 0 ∧ Since L I s₀ s₁) hh (nl.keeps hz) hroom hg hgs go (fun v s₁ gs' hv => ?_) (fun s₁ hp h' hk => ?_)
    · obtain ⟨⟨t, va, v1, v2, ht, rfl, hva, hvL, hvI, hvt, b1, b2⟩, ⟨e1, e2⟩, oL', oI', hL', hI', hkap⟩ := hv
      rw [show ts.length - 1 - (k + 1 - 1) = i by rw [Nat.add_sub_cancel, Nat.sub_sub, Nat.add_comm 1 k, ← hk, Nat.sub_sub_self (Nat.le_of_lt hlt)]] at ht
      have ht' : ts[i] = t := by rw [List.getElem?_eq_getElem hlt] at ht; exact Option.some.inj ht
      have rd := ih (i + 1) oL' oI' gs' (by rw [← Nat.sub_sub, hk]; rfl) hlt fun s'' z1 z2 z3 => by
        have := hkap s'' z1 z2 z3
        rw [show ts.length - (i + 1) = k by rw [← Nat.sub_sub, hk]; rfl]; exact this
      have := hQ va v1 v2 s₁.heap s₁.toks _ gs' _ rd (setG s g gs .running gs' hgs).1 (setG s g gs .running gs' hgs).2 (fun b o hb e => e2 b o (by rintro rfl; simp at hb) (by rintro rfl; simp at hb) e)
        (fun p hp => by
          simp only [List.mem_cons, List.not_mem_nil, or_false] at hp
          rcases hp with rfl | rfl
          · exact hL'
          · exact hI') (fun p hp => .inl (by
          simp only [List.mem_cons, List.not_mem_nil, or_false] at hp
          rcases hp with rfl | rfl <;> simp)) (fun _ h => h) hva (by simp [hvL, hvI]) hvt (by rw [ht']; exact b1) (by rw [ht']; exact b2)
      rw [e1]; exact this
    · exact absurd hp.1 (Nat.succ_ne_zero k)
theorem g_fresh {p1 p2 p3 p4 q1 q2 q3 q4 q5 r1 r2 r3 : Pos} {k1 k2} {z h : Heap} {l dx : Addr} {vs : Array Value} {n : Nat} {kt : Tok} {L a : Addr} {g : Nat} {m : Str → Option Value} {oL : Obj} (hh : A.handled = none) (hroom : A.depth < recursionLimit) (nl : z.NoLimit) (X : (Mine.hd.heap_1 w.params).In z) (hx : z.get? x = some (instObj 177 dx)) (hdx : z.get? dx = some (hdrDict w kt l)) (hl : z.get? l = some (listOf vs n)) (hP : Paired (fun p v => TripV p z v) ts vs.toList)
    (S : St [z] L m [] h) (hm : m (Str.ofString "self") = some (.ref x)) (hL : h.get? L = some oL) :
    GRdy prog w A z a g ts [(L, oL)] (.fresh (.func [.For (.Tuple [.Name (Str.ofString "_") p1, .Name (Str.ofString "name") p2, .Name (Str.ofString "value") p3] k1 p4) (.Attribute (.Name (Str.ofString "self") r1) (Str.ofString "_full_items") r2) [.Expr (.Yield (some (.Tuple [.Name (Str.ofString "name") q1, .Name (Str.ofString "value") q2] k2 q3)) q4) q5] [] r3] (gEnv L))) := by
  have hzL := (S.fz z (.head _)).2 L (.head _)
  have key : ∀ (s : Shared), Ext z s.heap → s.heap.get? L = some oL → Seg (model prog w) A.in1 (GFin L s.heap.objs.size) (GPro z L s.heap.objs.size ts) ts.length s
      (.func [.For (.Tuple [.Name (Str.ofString "_") p1, .Name (Str.ofString "name") p2, .Name (Str.ofString "value") p3] k1 p4) (.Attribute (.Name (Str.ofString "self") r1) (Str.ofString "_full_items") r2) [.Expr (.Yield (some (.Tuple [.Name (Str.ofString "name") q1, .Name (Str.ofString "value") q2] k2 q3)) q4) q5] [] r3] (gEnv L))
      ((model prog w).den (.func [.For (.Tuple [.Name (Str.ofString "_") p1, .Name (Str.ofString "name") p2, .Name (Str.ofString "value") p3] k1 p4) (.Attribute (.Name (Str.ofString "self") r1) (Str.ofString "_full_items") r2) [.Expr (.Yield (some (.Tuple [.Name (Str.ofString "name") q1, .Name (Str.ofString "value") q2] k2 q3)) q4) q5] [] r3] (gEnv L))) [] s := fun s hz h1 =>
    g_start (A := A.in1) hh X hx hdx hl hP (S.move hz (fun o e => by rw [hL] at e; cases e; exact h1) (fun p hp => nomatch hp)) hm
  cases ts with
  | nil =>
    intro s Q E hgs hz hW hg hQ
    refine wpAny_pyNext_gen (P := fun n s₀ s₁ => n = 0 ∧ Since L s.heap.objs.size s₀ s₁) hh (nl.keeps hz) hroom hg hgs (show GenState.Goes _ _ _ (GPro z L s.heap.objs.size []) _ _ _ _ from ⟨rfl, key (s.setGen g .running) hz (hW (L, oL) (.head _))⟩) (fun v s₁ gs' hv => ?_) (fun s₁ hp h' hk => ?_)
    · obtain ⟨⟨t, _, _, _, ht, _⟩, _⟩ := hv
      simp at ht
    · obtain ⟨_, e1, e2⟩ := hp
      have := hQ h' s₁.toks _ (setG s g _ .running .finished hgs).1 (setG s g _ .running .finished hgs).2 fun b o hb e => hk b o (e2 b o (by rintro rfl; simp at hb) (fun q => absurd (Heap.lt_size e) (by rw [q]; exact Nat.lt_irrefl _)) e)
      rw [e1]; exact this
  | cons t0 rest =>
    intro s Q E hgs hz hW hg hQ
    refine wpAny_pyNext_gen (P := fun n s₀ s₁ => n = 0 ∧ Since L s.heap.objs.size s₀ s₁) hh (nl.keeps hz) hroom hg hgs (show GenState.Goes _ _ _ (GPro z L s.heap.objs.size (t0 :: rest)) _ _ _ _ from ⟨rfl, key (s.setGen g .running) hz (hW (L, oL) (.head _))⟩) (fun v s₁ gs' hv => ?_) (fun s₁ hp h' hk => ?_)
    · obtain ⟨⟨t, va, v1, v2, ht, rfl, hva, hvL, hvI, hvt, b1, b2⟩, ⟨e1, e2⟩, oL', oI', hL', hI', hkap⟩ := hv
      have ht' : t0 = t := by simp at ht; exact ht
      subst ht'
      have hzI : z.get? s.heap.objs.size = none := by
        cases q : z.get? s.heap.objs.size with
        | none => rfl
        | some o => exact absurd (Heap.lt_size (hz _ _ q)) (Nat.lt_irrefl _)
      have rd := g_susp (prog := prog) (w := w) (ts := t0 :: rest) (a := a) (g := g) hh hroom nl hzL hzI rest.length 1 oL' oI' gs' (by simp) (by simp) fun s'' z1 z2 z3 => hkap s'' z1 z2 z3
      have := hQ va v1 v2 s₁.heap s₁.toks _ gs' _ rd (setG s g _ .running gs' hgs).1 (setG s g _ .running gs' hgs).2 (fun b o hb e => e2 b o (by rintro rfl; simp at hb) (fun q => absurd (Heap.lt_size e) (by rw [q]; exact Nat.lt_irrefl _)) e)
        (fun p hp => by
          simp only [List.mem_cons, List.not_mem_nil, or_false] at hp
          rcases hp with rfl | rfl
          · exact hL'
          · exact hI') (fun p hp => by
          simp only [List.mem_cons, List.not_mem_nil, or_false] at hp
          rcases hp with rfl | rfl
          · exact .inl (by simp)
          · exact .inr (fresh_none (Nat.le_refl _))) (fun b hb => by simp at hb ⊢; exact .inl hb) hva (by simp [hvL, hvI]) hvt b1 b2
      rw [e1]; exact this
    · exact absurd hp.1 (Nat.succ_ne_zero _)

/-- the call of __iter__ -/
theorem iter_ok (am : Amb w A 4 40 fr s.heap) {z : Heap} (hz : Ext z s.heap) (X : (Mine.hd.heap_1 w.params).In z) (hH : HdrV w ts z x) (nl : z.NoLimit)
    (hQ : ∀ a h' tk gs W, Ext s.heap h' → s.heap.get? a = none → (∀ p ∈ W, h'.get? p.1 = some p.2) → (∀ p ∈ W, s.heap.get? p.1 = none) → a ∉ W.map (·.1) → h'.IsGen a s.gens.size → (∀ A' : Around, A'.handled = none → A'.depth < recursionLimit → GRdy prog w A' z a s.gens.size ts W gs) →
      Q (.ref a) { s with heap := h', toks := tk, gens := s.gens.push gs }) : wpAny (model prog w) A (call (.ref 155) [.ref x]) Q E s := by
  obtain ⟨dx, l, lvs, ln, k1, hx, hd, hl, hP⟩ := hH
  refine wpAny_call ?_
  refine enterGen (binds := [(Str.ofString "self", .ref x)]) am (by k_is) (by k_is) (BindsTo.of_eq rfl) (locs rfl) (fun L a h₁ tk o hL hn S hg => ?_) rfl
  dsimp only
  have S' := S.drop
  obtain ⟨oL, _, _, hoL, _⟩ := id S'.ns
  have hnL := (S.fz s.heap (.head _)).2 L (.head _)
  have nd := S.nd
  simp only [List.map_cons, List.nodup_cons, List.mem_cons, not_or, List.map_nil] at nd
  refine hQ a h₁ tk _ [(L, oL)] (S.froz (.head _)) hn (fun p hp => by rw [List.mem_singleton.mp hp]; exact hoL) (fun p hp => by rw [List.mem_singleton.mp hp]; exact hnL) (by simp; exact Ne.symm nd.1.1) hg fun A' hh hroom => ?_
  have SZ : St [z] L (fun y => [(Str.ofString "self", Value.ref x)].reverse.lookup y) [] h₁ := ⟨S'.ns, S'.mine, S'.nd, fun y hy => by
    rw [List.mem_singleton.mp hy]
    refine ⟨fun b o e => S'.froz (.head _) b o (hz b o e), fun b hb => ?_⟩
    cases q : z.get? b with
    | none => rfl
    | some o9 => have := hz b o9 q; rw [(S'.fz s.heap (.head _)).2 b hb] at this; cases this⟩
  exact g_fresh hh hroom nl X hx hd hl hP SZ rfl hoL
end
end
-- part G5
theorem start_G5 : True := by
  w_top off
  trivial
section
open Builtin Builtin.ObjectAttr Builtin.Getset_descriptor
open Sem (wp)
section
variable {prog : Program} {w : World} {A : Around} {E : Value → Shared → Prop} {R : Result → Shared → Prop} {s : Shared}

/-- a list comprehension over a generator of pairs -/
theorem gcomp_loop {elt target iter : PySem.Expr} {scope : PySem.Scope} {cenv : Env} {pos : Pos} {a D : Addr} {g : Nat} {z h₂ : Heap} {g₂ : Array GenState} {W₀ : List (Addr × Obj)} {gs₀ : GenState} {ts : List Trip} {m : PySem.Str → Option Value}
    (G : Heap → Trip → Value → Prop) (hG : ∀ z z' t v, Ext z z' → G z t v → G z' t v)
    (rdy : GRdy prog w A z a g ts W₀ gs₀) (hz : Ext z h₂) (hgen : h₂.IsGen a g) (haW : a ∉ W₀.map (·.1)) (hzW : ∀ p ∈ W₀, z.get? p.1 = none) (hW2 : ∀ p ∈ W₀, (h₂.get? p.1).isSome = true)
    (hC : h₂.get? cenv.locals = none) (hD : h₂.get? D = none) (hDC : D ≠ cenv.locals) (hgs : s.gens[g]? = some gs₀) (hg2 : GenOnly g g₂ s.gens)
    (hn : s.heap.Ns cenv.locals m) (ho : s.heap.get? D = some (listOf #[] 0)) (old : ∀ b o, h₂.get? b = some o → s.heap.get? b = some o) (hWs : ∀ p ∈ W₀, s.heap.get? p.1 = some p.2) (hsz : ts.length ≤ 1000)
    (turn : ∀ t va v1 v2 s₃ m₃ E' z₃, t ∈ ts → z₃.get? va = some (tupOf #[v1, v2]) → BV t.2.1 v1 → BV t.2.2 v2 → (∀ b o, b ∉ W₀.map (·.1) → h₂.get? b = some o → z₃.get? b = some o) → (∀ b o, b ≠ cenv.locals → s₃.heap.get? b = some o → z₃.get? b = some o) → St [z₃] cenv.locals m₃ [] s₃.heap →
      TurnA prog w A target [] elt cenv cenv.locals true (fun z y => G z t y) (.ref va) E' s₃)
    (done : ∀ h' g' tk m' ys nn z', h'.Ns cenv.locals m' → Fresh h₂ z' → Ext z' h' → z'.get? cenv.locals = none → z'.get? D = none → h'.get? D = some (listOf ys nn) → Paired (G z') ts ys.toList →
      (∀ b o, b ∉ W₀.map (·.1) → h₂.get? b = some o → h'.get? b = some o) → GenOnly g g₂ g' → g'[g]? = some .finished → R (.ok .next) { s with heap := h', gens := g', toks := tk }) :
    codeAny (model prog w) A (.compLoop (.ListComp elt [⟨target, iter, [], 0⟩] scope pos) 0 (.ref a) (.ref D) cenv) R s := by
  refine compLoop_any (fun k s' => ∃ dn rest W gs zc ys nn m', k = rest.length ∧ dn ++ rest = ts ∧ GRdy prog w A z a g rest W gs ∧ s'.gens[g]? = some gs ∧ GenOnly g g₂ s'.gens ∧ s'.heap.Ns cenv.locals m' ∧ s'.heap.get? D = some (listOf ys nn) ∧
    (∀ b o, b ∉ W₀.map (·.1) → h₂.get? b = some o → s'.heap.get? b = some o) ∧ (∀ p ∈ W, s'.heap.get? p.1 = some p.2) ∧ (∀ p ∈ W, p.1 ∈ W₀.map (·.1) ∨ h₂.get? p.1 = none) ∧ (∀ p ∈ W, p.1 ≠ cenv.locals ∧ p.1 ≠ D ∧ zc.get? p.1 = none) ∧ (∀ b ∈ W₀.map (·.1), b ∈ W.map (·.1)) ∧
    Fresh h₂ zc ∧ Ext zc s'.heap ∧ zc.get? cenv.locals = none ∧ zc.get? D = none ∧ Paired (G zc) dn ys.toList ∧ s' = { s with heap := s'.heap, gens := s'.gens, toks := s'.toks }) ?_ ts.length
    ⟨[], ts, W₀, gs₀, {}, #[], 0, m, rfl, rfl, rdy, hgs, hg2, hn, ho, fun b o _ e => old b o e, hWs, fun p hp => .inl (List.mem_map_of_mem hp), fun p hp => ⟨fun q => ?_, fun q => ?_, by simp [Heap.get?]⟩, fun _ h => h, (fun a o e => by simp [Heap.get?] at e), (fun a o e => by simp [Heap.get?] at e), by simp [Heap.get?], by simp [Heap.get?], .nil, rfl⟩
  case refine_2 => have := hW2 p hp; rw [q, hC] at this; cases this
  case refine_3 => have := hW2 p hp; rw [q, hD] at this; cases this
  rintro J E' hJ k s' ⟨dn, rest, W, gs, zc, ys, nn, m', rfl, hts, hrd, hgs', hgo', hn', ho', old', hW', hWo, hWd, hWs', hf1, hf2, hf3, hf4, hP, hs'⟩
  have nW : ∀ b, b ∉ W₀.map (·.1) → (h₂.get? b).isSome = true → b ∉ W.map (·.1) := fun b h1 h2 hm => by
    obtain ⟨p, hp, rfl⟩ := List.mem_map.mp hm
    rcases hWo p hp with h3 | h3
    · exact h1 h3
    · rw [h3] at h2; cases h2
  have zW0 : ∀ b o, z.get? b = some o → b ∉ W₀.map (·.1) := fun b o e hm => by
    obtain ⟨p, hp, rfl⟩ := List.mem_map.mp hm
    rw [hzW p hp] at e; cases e
  have hz' : Ext z s'.heap := fun b o e => old' b o (zW0 b o e) (hz b o e)
  obtain ⟨oa, nm, qn, hoa, ra⟩ := id hgen
  have hga : s'.heap.IsGen a g := ⟨oa, nm, qn, old' a oa haW hoa, ra⟩
  cases rest with
  | nil =>
    refine hrd s' _ _ hgs' hz' hW' hga fun h' tk G' q1 q2 q3 => ?_
    dsimp only
    have nCW : cenv.locals ∉ W.map (·.1) := fun hm => by obtain ⟨p, hp, e⟩ := List.mem_map.mp hm; exact (hWd p hp).1 e
    have nDW : D ∉ W.map (·.1) := fun hm => by obtain ⟨p, hp, e⟩ := List.mem_map.mp hm; exact (hWd p hp).2.1 e
    have nzW : ∀ b o, zc.get? b = some o → b ∉ W.map (·.1) := fun b o e hm => by
      obtain ⟨p, hp, rfl⟩ := List.mem_map.mp hm
      rw [(hWd p hp).2.2] at e; cases e
    have := done h' G' tk m' ys nn zc (hn'.at' fun o e => q3 _ o nCW e) hf1 (fun b o e => q3 b o (nzW b o e) (hf2 b o e)) hf3 hf4 (q3 _ _ nDW ho') (by rw [← hts, List.append_nil]; exact hP) (fun b o h1 e => q3 b o (nW b h1 (by rw [e]; rfl)) (old' b o h1 e)) (hgo'.trans q1) q2
    rw [hs']; exact this
  | cons t rest =>
    refine hrd s' _ _ hgs' hz' hW' hga fun va v1 v2 h' tk G' gs' W' hrd' q1 q2 q3 q4 q5 q55 q6 q7 q8 b1 b2 => ?_
    dsimp only
    have nCW : cenv.locals ∉ W.map (·.1) := fun hm => by obtain ⟨p, hp, e⟩ := List.mem_map.mp hm; exact (hWd p hp).1 e
    have nDW : D ∉ W.map (·.1) := fun hm => by obtain ⟨p, hp, e⟩ := List.mem_map.mp hm; exact (hWd p hp).2.1 e
    have nzW : ∀ b o, zc.get? b = some o → b ∉ W.map (·.1) := fun b o e hm => by
      obtain ⟨p, hp, rfl⟩ := List.mem_map.mp hm
      rw [(hWd p hp).2.2] at e; cases e
    have hn₃ : h'.Ns cenv.locals m' := hn'.at' fun o e => q3 _ o nCW e
    have ho₃ : h'.get? D = some (listOf ys nn) := q3 _ _ nDW ho'
    have old₃ : ∀ b o, b ∉ W₀.map (·.1) → h₂.get? b = some o → h'.get? b = some o := fun b o h1 e => q3 b o (nW b h1 (by rw [e]; rfl)) (old' b o h1 e)
    have hf2₃ : Ext zc h' := fun b o e => q3 b o (nzW b o e) (hf2 b o e)
    have hC' : (s'.heap.get? cenv.locals).isSome = true := by obtain ⟨o, _, _, e, _⟩ := hn'; rw [e]; rfl
    have hWd' : ∀ p ∈ W', p.1 ≠ cenv.locals ∧ p.1 ≠ D ∧ zc.get? p.1 = none := fun p hp => by
      rcases q5 p hp with h3 | h3
      · obtain ⟨p', hp', e⟩ := List.mem_map.mp h3
        have := hWd p' hp'
        rw [← e]; exact this
      · refine ⟨fun q => ?_, fun q => ?_, ?_⟩
        · rw [q] at h3; rw [h3] at hC'; cases hC'
        · rw [q, ho'] at h3; cases h3
        · cases q : zc.get? p.1 with
          | none => rfl
          | some o => rw [hf2 _ _ q] at h3; cases h3
    have hWo' : ∀ p ∈ W', p.1 ∈ W₀.map (·.1) ∨ h₂.get? p.1 = none := fun p hp => by
      rcases q5 p hp with h3 | h3
      · obtain ⟨p', hp', e⟩ := List.mem_map.mp h3
        rw [← e]; exact hWo p' hp'
      · by_cases h4 : p.1 ∈ W₀.map (·.1)
        · exact .inl h4
        · refine .inr ?_
          cases q : h₂.get? p.1 with
          | none => rfl
          | some o => rw [old' _ _ h4 q] at h3; cases h3
    have vaC : va ≠ cenv.locals := fun q => by rw [q] at q6; rw [q6] at hC'; cases hC'
    have vaD : va ≠ D := fun q => by rw [q, ho'] at q6; cases q6
    have hga' : h'.IsGen a g := ⟨oa, nm, qn, old₃ a oa haW hoa, ra⟩
    refine lets_of (o := oa) (T := "generator") (old₃ a oa haW hoa) ra.1 (by decide) _ _ _ _ ?_
    have tin : t ∈ ts := by rw [← hts]; simp
    have T := turn t va v1 v2 { s' with heap := h', toks := tk, gens := G' } m' E' (cut h' fun b => b != cenv.locals) tin (by rw [cut_get, if_pos (by simpa using vaC)]; exact q8) b1 b2
      (fun b o h1 e => by rw [cut_get, if_pos (by simp; intro q; rw [q, hC] at e; cases e)]; exact old₃ b o h1 e) (fun b o hb e => by rw [cut_get, if_pos (by simpa using hb)]; exact e) ⟨hn₃, (fun _ hp => (nomatch hp)), by simp, fun y hy => by
        rw [List.mem_singleton.mp hy]
        refine ⟨cut_ext _ _, fun c hc => ?_⟩
        rw [List.mem_singleton.mp hc, cut_get, if_neg (by simp)]⟩
    unfold TurnA at T
    refine wpAny_mono T (fun _ s₄ h₄ => wpAny_mono h₄ (fun ok s₅ h₅ => ?_) fun _ _ e => e) fun _ _ e => e
    obtain ⟨rfl, h₅⟩ := h₅
    simp only [if_true] at h₅ ⊢
    refine wpAny_mono h₅ (fun y s₆ h₆ => ?_) fun _ _ e => e
    obtain ⟨⟨e1, e2, ⟨m₆, e3⟩⟩, zi, r1, r2, r3⟩ := h₆
    dsimp only at e2 r1
    have ho₆ := e2 _ _ hDC ho₃
    have hys : ys.size ≤ sizeLine := by
      have a1 := hP.length
      have a3 : ys.toList.length = ys.size := by simp
      have a4 : dn.length ≤ ts.length := by rw [← hts]; simp
      rw [sizeLine_eq]; omega
    refine append_at (hsz := hys) ho₆ fun h₇ hs₇ ho₇ => ?_
    let zc' : Heap := cut h₇ fun b => (zc.get? b).isSome || (zi.get? b).isSome
    have ziC : zi.get? cenv.locals = none := by
      cases q : zi.get? cenv.locals with
      | none => rfl
      | some o => obtain ⟨oC, _, _, x, _⟩ := hn₃; rw [r1 _ _ q] at x; cases x
    have ziD : zi.get? D = none := by
      cases q : zi.get? D with
      | none => rfl
      | some o => rw [r1 _ _ q] at ho₃; cases ho₃
    have zD : ∀ b, (zi.get? b).isSome = true ∨ (zc.get? b).isSome = true → b ≠ D ∧ b ≠ cenv.locals := fun b hb => ⟨fun q => by rw [q, ziD, hf4] at hb; simp at hb, fun q => by rw [q, ziC, hf3] at hb; simp at hb⟩
    have x1 : Ext zc zc' := fun b o e => by
      have nb := zD b (.inr (by rw [e]; rfl))
      rw [cut_get, if_pos (by simp [e]), hs₇.2 b nb.1]; exact e2 b o nb.2 (hf2₃ b o e)
    have x2 : Ext zi zc' := fun b o e => by
      have nb := zD b (.inl (by rw [e]; rfl))
      rw [cut_get, if_pos (by simp [e]), hs₇.2 b nb.1]; exact r2 b o e
    have zold : ∀ b o, zc'.get? b = some o → (zi.get? b).isSome = true ∨ (zc.get? b).isSome = true := fun b o e => by
      rw [cut_get] at e
      split at e
      · rename_i q; simp only [Bool.or_eq_true] at q; exact q.symm
      · cases e
    have nzc' : ∀ b, zc.get? b = none → zi.get? b = none → zc'.get? b = none := fun b h1 h2 => by
      cases q : zc'.get? b with
      | none => rfl
      | some o => have := zold b o q; rw [h1, h2] at this; simp at this
    refine ⟨rest.length, by simp, hJ _ _ ⟨dn ++ [t], rest, W', gs', zc', ys.push y, nn + 1, m₆, rfl, by rw [← hts]; simp, hrd', ?_, ?_, e3.sameBut hs₇ (Ne.symm hDC), ho₇, fun b o h1 e => ?_, fun p hp => ?_, hWo', fun p hp => ?_, fun b hb => q55 b (hWs' b hb), fun b o e => ?_, cut_ext _ _, nzc' _ hf3 ziC, nzc' _ hf4 ziD, ?_, ?_⟩⟩
    · rw [e1]; exact q2
    · rw [e1]; exact hgo'.trans q1
    · have nb : b ≠ D := fun q => by rw [q, hD] at e; cases e
      have nc : b ≠ cenv.locals := fun q => by rw [q, hC] at e; cases e
      exact (hs₇.2 b nb).trans (e2 b o nc (old₃ b o h1 e))
    · have h3 := hWd' p hp
      exact (hs₇.2 p.1 h3.2.1).trans (e2 p.1 p.2 h3.1 (q4 p hp))
    · have h3 := hWd' p hp
      refine ⟨h3.1, h3.2.1, nzc' _ h3.2.2 ?_⟩
      cases q : zi.get? p.1 with
      | none => rfl
      | some o => have := r1 _ _ q; rw [q4 p hp] at this; cases this
    · rcases zold b o e with q | q
      · obtain ⟨o', e'⟩ := Option.isSome_iff_exists.mp q
        have f := r1 b o' e'
        cases x : h₂.get? b with
        | none => rfl
        | some ob =>
          by_cases hb : b ∈ W₀.map (·.1)
          · exfalso
            have : (h'.get? b).isSome = true := by
              obtain ⟨p, hp, e⟩ := List.mem_map.mp (q55 b (hWs' b hb))
              rw [← e, q4 p hp]; rfl
            rw [f] at this; cases this
          · rw [old₃ b ob hb x] at f; cases f
      · obtain ⟨o', e'⟩ := Option.isSome_iff_exists.mp q
        exact hf1 b o' e'
    · rw [Array.toList_push]
      have hmono : ∀ {l₁ : List Trip} {l₂ : List Value}, Paired (G zc) l₁ l₂ → Paired (G zc') l₁ l₂ := fun h => h.mono fun _ _ h => hG _ _ _ _ x1 h
      exact (hmono hP).snoc (hG _ _ _ _ x2 r3)
    · rw [e1, hs']

/-- what a comprehension asks at a generator of pairs -/
noncomputable def GAsk (prog : Program) (w : World) (A : Around) (target elt : PySem.Expr) (scope : PySem.Scope) (cl : List (PySem.Str × Addr)) (env : Env) (s₁ s₂ : Shared) (it : Value) (K : (D : Addr) → Heap → Array GenState → Nat → Prop) : Prop :=
  ∃ (a : Addr) (z : Heap) (W₀ : List (Addr × Obj)) (gs₀ : GenState) (ts : List Trip) (g : Nat) (G : Heap → Trip → Value → Prop), it = .ref a ∧ s₂ = { s₁ with heap := s₂.heap, gens := s₂.gens, toks := s₂.toks } ∧ Ext s₁.heap s₂.heap ∧ GRdy prog w A z a g ts W₀ gs₀ ∧ Ext z s₁.heap ∧ s₂.heap.IsGen a g ∧ a ∉ W₀.map (·.1) ∧
    (∀ p ∈ W₀, s₂.heap.get? p.1 = some p.2) ∧ (∀ p ∈ W₀, s₁.heap.get? p.1 = none) ∧ s₂.gens[g]? = some gs₀ ∧ ts.length ≤ 1000 ∧ (∀ z z' t v, Ext z z' → G z t v → G z' t v) ∧
    (∀ C t va v1 v2 s₃ m₃ E' z₃, t ∈ ts → z₃.get? va = some (tupOf #[v1, v2]) → BV t.2.1 v1 → BV t.2.2 v2 → Ext s₁.heap z₃ → (∀ b o, b ≠ C → s₃.heap.get? b = some o → z₃.get? b = some o) → St [z₃] C m₃ [] s₃.heap →
      TurnA prog w A target [] elt (compEnvC scope cl C env) C true (fun z y => G z t y) (.ref va) E' s₃) ∧
    (∀ D h' g' tk ys nn z', Ext s₁.heap h' → Fresh s₁.heap z' → Ext z' h' → z'.get? D = some (listOf ys nn) → Paired (G z') ts ys.toList → GenOnly g s₂.gens g' → g'[g]? = some .finished → K D h' g' tk)
theorem lcg_eval {env : Env} {elt target iter : PySem.Expr} {scope : PySem.Scope} {cl : List (PySem.Str × Addr)} {pos : Pos} {Q : Value → Shared → Prop}
    (hclos : closureFor scope env = pure cl) (hcell : ∀ y ∈ scope.names, y.2 ≠ .cell) (hkind : scope.kind = .function)
    (hnames : ∀ y ∈ scope.names, y.2 = .local → scope.names.lookup y.1 = some .local)
    (h : wpAny (model prog w) A (eval iter env) (fun xv s₁ => wpAny (model prog w) A (pyIter xv) (fun it s₂ =>
      GAsk prog w A target elt scope cl env s₁ s₂ it fun D h' g' tk => Q (.ref D) { s₁ with heap := h', gens := g', toks := tk }) E s₁) E s)
    (hs : ∀ x, foldedSetIterable iter env x = pure x := by intro _; rfl) :
    wpAny (model prog w) A (eval (.ListComp elt [⟨target, iter, [], 0⟩] scope pos) env) Q E s := by
  rw [eval_ListComp]
  refine wpAny_comprehension_free (use := none) rfl hs hclos hkind hnames (wpAny_mono h (fun xv s₁ h₁ => wpAny_mono h₁ (fun it s₂ h₂ => ?_) fun _ _ e => e) fun _ _ e => e)
  obtain ⟨a, z, W₀, gs₀, ts, g, G, rfl, same, ext, rdy, hz, hgen, haW, hW1, hW2, hgs, hts, hG, turn, res⟩ := h₂
  refine wpAny_newObj_type (wpAny_newFunctionEnv hcell (by intro y hy; simp at hy) (fun h₁ hns₁ hsb₁ => ?_) hkind)
  dsimp only at hns₁ hsb₁ ⊢
  generalize hH2 : s₂.heap.push { cls := .type "list", dict := none, data := .seq ([] : List Value).toArray } = H2 at hns₁ hsb₁ ⊢
  have hC : H2.objs.size = s₂.heap.objs.size + 1 := by rw [← hH2, Heap.size_push]
  have hDC : s₂.heap.objs.size ≠ H2.objs.size := by rw [hC]; exact Nat.ne_of_lt (Nat.lt_succ_self _)
  have below : ∀ b, b < s₂.heap.objs.size → b ≠ H2.objs.size ∧ b ≠ s₂.heap.objs.size := fun b hb => ⟨by rw [hC]; exact Nat.ne_of_lt (Nat.lt_succ_of_lt hb), Nat.ne_of_lt hb⟩
  have old : ∀ b o, s₂.heap.get? b = some o → h₁.get? b = some o := fun b o e => hsb₁.extBut b o (below b (Heap.lt_size e)).1 (Heap.get?_push_of_some _ (hH2 ▸ Heap.get?_push_of_some _ e))
  have hacc : h₁.get? s₂.heap.objs.size = some (listOf #[] 0) := hsb₁.extBut _ _ hDC (Heap.get?_push_of_some _ (hH2 ▸ Heap.get?_push_size _ rfl))
  have nD : s₂.heap.get? s₂.heap.objs.size = none := fresh_none (Nat.le_refl _)
  have nC : s₂.heap.get? H2.objs.size = none := fresh_none (by rw [hC]; exact Nat.le_succ _)
  have to1 : ∀ b, s₂.heap.get? b = none → s₁.heap.get? b = none := fun b hb => by
    cases q : s₁.heap.get? b with
    | none => rfl
    | some o => rw [ext b o q] at hb; cases hb
  have nW : ∀ b o, s₁.heap.get? b = some o → b ∉ W₀.map (·.1) := fun b o e hm => by
    obtain ⟨p, hp, rfl⟩ := List.mem_map.mp hm
    rw [hW2 p hp] at e; cases e
  have loop : codeAny (model prog w) A (.compLoop (.ListComp elt [⟨target, iter, [], 0⟩] scope pos) 0 (.ref a) (.ref s₂.heap.objs.size) (compEnvC scope cl H2.objs.size env))
      (compPost (model prog w) A E none Q (.ref s₂.heap.objs.size) H2.objs.size) { s₂ with heap := h₁, toks := s₂.toks + ([] : List (PySem.Str × Value)).length } := by
    refine gcomp_loop (cenv := compEnvC scope cl H2.objs.size env) (h₂ := s₂.heap) (g₂ := s₂.gens) G hG rdy (fun b o e => ext b o (hz b o e)) hgen haW (fun p hp => ?_) (fun p hp => by rw [hW1 p hp]; rfl) nC nD hDC hgs ⟨rfl, fun _ _ => rfl⟩ hns₁ hacc old (fun p hp => old _ _ (hW1 p hp)) hts
      (fun t va v1 v2 s₃ m₃ E' z₃ ht hv b1 b2 hk hz₃ S₃ => turn _ t va v1 v2 s₃ m₃ E' z₃ ht hv b1 b2 (fun b o e => hk b o (nW b o e) (ext b o e)) hz₃ S₃) fun h' g' tk m' ys nn z' hn' f1 f2 (f3 : z'.get? H2.objs.size = none) f4 f5 f6 f7 f8 f9 => ?_
    · cases q : z.get? p.1 with
      | none => rfl
      | some o => have := hz _ _ q; rw [hW2 p hp] at this; cases this
    · have e1 : Ext s₁.heap h' := fun b o e => f7 b o (nW b o e) (ext b o e)
      refine ⟨m', hn', fun h'' hs'' => ?_⟩
      have k : ∀ b o, b ≠ H2.objs.size → h'.get? b = some o → h''.get? b = some o := fun b o hb e => hs''.extBut b o hb e
      let z9 : Heap := cut h'' fun b => (z'.get? b).isSome || b == s₂.heap.objs.size
      have zx : Ext z' z9 := fun b o e => by
        rw [cut_get, if_pos (by simp [e])]; exact k b o (fun q => by rw [q, f3] at e; cases e) (f2 b o e)
      have := res s₂.heap.objs.size h'' g' tk ys nn z9 (fun b o e => k b o (fun q => by rw [q, to1 _ nC] at e; cases e) (e1 b o e)) (fun b o e => ?_) (cut_ext _ _) ?_ (f6.mono fun _ _ h => hG _ _ _ _ zx h) f8 f9
      · rw [same]; exact this
      · rw [cut_get] at e
        split at e
        · rename_i q
          simp only [Bool.or_eq_true, beq_iff_eq] at q
          rcases q with q | q
          · obtain ⟨o', e'⟩ := Option.isSome_iff_exists.mp q
            exact to1 b (f1 b o' e')
          · rw [q]; exact to1 _ nD
        · cases e
      · rw [cut_get, if_pos (by simp)]; exact k _ _ hDC f5
  exact codeAny_compStart_list loop (wpAny_pyIter_gen (hgen.keeps old) loop)
end
end
-- part G6
theorem start_G6 : True := by
  w_top off
  trivial
section
open Builtin Builtin.ObjectAttr Builtin.Getset_descriptor
open Sem (wp)
section
variable {prog : Program} {w : World} {A : Around} {E : Value → Shared → Prop} {R : Result → Shared → Prop} {s : Shared}

/-- a list filled from a generator of pairs -/
theorem glist_loop {S a : Addr} {g : Nat} {z h₂ : Heap} {g₂ : Array GenState} {WA : List Addr} {res : Value} (hz : Ext z h₂) (hgen : h₂.IsGen a g) (haW : a ∉ WA) (hzW : ∀ b ∈ WA, z.get? b = none) (hzS : z.get? S = none) (haS : a ≠ S) : ∀ (rest dn : List Trip) (s : Shared) (W : List (Addr × Obj)) (gs : GenState) (zc : Heap) (ys : Array Value) (c : Nat),
    GRdy prog w A.in1 z a g rest W gs → s.gens[g]? = some gs → GenOnly g g₂ s.gens → s.heap.get? S = some { cls := .type "list", dict := none, data := .seq ys c, slots := #[] } → (∀ b o, b ∉ WA → b ≠ S → h₂.get? b = some o → s.heap.get? b = some o) →
    (∀ p ∈ W, s.heap.get? p.1 = some p.2) → (∀ p ∈ W, p.1 ∈ WA ∨ h₂.get? p.1 = none) → (∀ p ∈ W, p.1 ≠ S ∧ zc.get? p.1 = none) → (∀ b ∈ WA, b ∈ W.map (·.1)) → (∀ b ∈ WA, (h₂.get? b).isSome = true) → (h₂.get? S).isSome = true →
    Fresh h₂ zc → Ext zc s.heap → zc.get? S = none → Paired (fun t v => PairV (t.2.1, t.2.2) zc v) dn ys.toList → dn.length + rest.length ≤ 1000 →
    (∀ h' g' tk ys' c' zc', Fresh h₂ zc' → Ext zc' h' → zc'.get? S = none → h'.get? S = some { cls := .type "list", dict := none, data := .seq ys' c', slots := #[] } → Paired (fun t v => PairV (t.2.1, t.2.2) zc' v) (dn ++ rest) ys'.toList →
      (∀ b o, b ∉ WA → b ≠ S → h₂.get? b = some o → h'.get? b = some o) → GenOnly g g₂ g' → g'[g]? = some .finished → R (.ok (.ret res)) { s with heap := h', gens := g', toks := tk }) →
    codeAny (model prog w) A (.builtin "list.extend.loop" ⟨[.ref S, .ref a, res], []⟩) R s := by
  have zW0 : ∀ b o, z.get? b = some o → b ∉ WA := fun b o e hm => by rw [hzW b hm] at e; cases e
  have zS0 : ∀ b o, z.get? b = some o → b ≠ S := fun b o e q => by rw [q, hzS] at e; cases e
  intro rest
  induction rest with
  | nil =>
    intro dn s W gs zc ys c hrd hgs hgo hS old hW hWo hWd hWA hWS hSS f1 f2 f3 hP hlen hR
    have hz' : Ext z s.heap := fun b o e => old b o (zW0 b o e) (zS0 b o e) (hz b o e)
    obtain ⟨oa, nm, qn, hoa, ra⟩ := id hgen
    refine codeAny_builtin F.entry_extend_loop ?_
    rw [Around.under_plainId F.plain_extend_loop _]
    show wpAny _ A.in1 (pyNext (.ref a) >>= _) _ _ s
    refine wpAny_bind (hrd s _ _ hgs hz' hW ⟨oa, nm, qn, old a oa haW haS hoa, ra⟩ fun h' tk G' q1 q2 q3 => ?_)
    have nW : ∀ b, b ∉ WA → (h₂.get? b).isSome = true → b ∉ W.map (·.1) := fun b h1 h2 hm => by
      obtain ⟨p, hp, rfl⟩ := List.mem_map.mp hm
      rcases hWo p hp with h3 | h3
      · exact h1 h3
      · rw [h3] at h2; cases h2
    have nSW : S ∉ W.map (·.1) := fun hm => by obtain ⟨p, hp, e⟩ := List.mem_map.mp hm; exact (hWd p hp).1 e
    have nzW : ∀ b o, zc.get? b = some o → b ∉ W.map (·.1) := fun b o e hm => by
      obtain ⟨p, hp, rfl⟩ := List.mem_map.mp hm
      rw [(hWd p hp).2] at e; cases e
    exact wpAny_pure (hR h' G' tk ys c zc f1 (fun b o e => q3 b o (nzW b o e) (f2 b o e)) f3 (q3 _ _ nSW hS) (by rw [List.append_nil]; exact hP) (fun b o h1 h2 e => q3 b o (nW b h1 (by rw [e]; rfl)) (old b o h1 h2 e)) (hgo.trans q1) q2)
  | cons t rest ih =>
    intro dn s W gs zc ys c hrd hgs hgo hS old hW hWo hWd hWA hWS hSS f1 f2 f3 hP hlen hR
    have hz' : Ext z s.heap := fun b o e => old b o (zW0 b o e) (zS0 b o e) (hz b o e)
    obtain ⟨oa, nm, qn, hoa, ra⟩ := id hgen
    refine codeAny_builtin F.entry_extend_loop ?_
    rw [Around.under_plainId F.plain_extend_loop _]
    show wpAny _ A.in1 (pyNext (.ref a) >>= _) _ _ s
    refine wpAny_bind (hrd s _ _ hgs hz' hW ⟨oa, nm, qn, old a oa haW haS hoa, ra⟩ fun va v1 v2 h' tk G' gs' W' hrd' q1 q2 q3 q4 q5 q55 q6 q7 q8 b1 b2 => ?_)
    have nW : ∀ b, b ∉ WA → (h₂.get? b).isSome = true → b ∉ W.map (·.1) := fun b h1 h2 hm => by
      obtain ⟨p, hp, rfl⟩ := List.mem_map.mp hm
      rcases hWo p hp with h3 | h3
      · exact h1 h3
      · rw [h3] at h2; cases h2
    have nSW : S ∉ W.map (·.1) := fun hm => by obtain ⟨p, hp, e⟩ := List.mem_map.mp hm; exact (hWd p hp).1 e
    have nzW : ∀ b o, zc.get? b = some o → b ∉ W.map (·.1) := fun b o e hm => by
      obtain ⟨p, hp, rfl⟩ := List.mem_map.mp hm
      rw [(hWd p hp).2] at e; cases e
    have hS' := q3 _ _ nSW hS
    have hys : ys.size ≤ 1000 := by
      have a1 := hP.length
      have a2 : ys.toList.length = ys.size := by simp
      simp at hlen; omega
    have vaS : va ≠ S := fun q => by rw [q, hS] at q6; cases q6
    have f2' : Ext zc h' := fun b o e => q3 b o (nzW b o e) (f2 b o e)
    show wpAny _ A.in1 (updateSeq S (·.push (.ref va)) >>= _) _ _ _
    refine wpAny_bind ?_
    refine wpAny_updateSeq hS' rfl (wpAny_pure ⟨plainId_quiet F.plain_extend_loop _, ?_⟩) (by rw [sizeLine_eq]; omega) (by show (ys.push (.ref va)).size ≤ sizeLine + 1; rw [Array.size_push, sizeLine_eq]; omega)
    have hS₂ := Heap.get?_update_self (Obj.mapSeq (·.push (Value.ref va))) hS' rfl
    have oth : ∀ b, b ≠ S → (h'.update S (Obj.mapSeq (·.push (Value.ref va)))).get? b = h'.get? b := fun b hb => Heap.get?_update_other _ _ (Ne.symm hb)
    let zc' : Heap := cut h' fun b => (zc.get? b).isSome || b == va
    have x1 : Ext zc zc' := fun b o e => by rw [cut_get, if_pos (by simp [e])]; exact f2' b o e
    have zold : ∀ b o, zc'.get? b = some o → b = va ∨ (zc.get? b).isSome = true := fun b o e => by
      rw [cut_get] at e
      split at e
      · rename_i q; simp only [Bool.or_eq_true, beq_iff_eq] at q; exact q.symm
      · cases e
    have nzc' : ∀ b, zc.get? b = none → b ≠ va → zc'.get? b = none := fun b h1 h2 => by
      cases q : zc'.get? b with
      | none => rfl
      | some o =>
        rcases zold b o q with e | e
        · exact absurd e h2
        · rw [h1] at e; cases e
    have x2 : Ext zc' (h'.update S (Obj.mapSeq (·.push (Value.ref va)))) := fun b o e => by
      have hb : b ≠ S := fun q => by
        subst q
        rw [nzc' _ f3 (Ne.symm vaS)] at e; cases e
      rw [oth b hb]; exact cut_ext _ _ b o e
    have hWd' : ∀ p ∈ W', p.1 ≠ S ∧ zc'.get? p.1 = none := fun p hp => by
      have nva : p.1 ≠ va := fun q => q7 (q ▸ List.mem_map_of_mem hp)
      rcases q5 p hp with h3 | h3
      · obtain ⟨p', hp', e⟩ := List.mem_map.mp h3
        have := hWd p' hp'
        rw [e] at this
        exact ⟨this.1, nzc' _ this.2 nva⟩
      · refine ⟨fun q => ?_, nzc' _ ?_ nva⟩
        · rw [q, hS] at h3; cases h3
        · cases q : zc.get? p.1 with
          | none => rfl
          | some o => rw [f2 _ _ q] at h3; cases h3
    refine ih (dn ++ [t]) _ W' gs' zc' (ys.push (.ref va)) _ hrd' q2 (hgo.trans q1) hS₂ (fun b o h1 h2 e => (oth b h2).trans (q3 b o (nW b h1 (by rw [e]; rfl)) (old b o h1 h2 e))) (fun p hp => (oth _ (hWd' p hp).1).trans (q4 p hp)) (fun p hp => ?_) hWd' (fun b hb => q55 b (hWA b hb)) hWS hSS (fun b o e => ?_) x2 (nzc' _ f3 (Ne.symm vaS)) ?_ (by simp at hlen ⊢; omega) fun h9 g9 tk9 ys9 c9 zc9 r1 r2 r3 r4 r5 r6 r7 r8 => ?_
    · rcases q5 p hp with h3 | h3
      · obtain ⟨p', hp', e⟩ := List.mem_map.mp h3
        rw [← e]; exact hWo p' hp'
      · by_cases h4 : p.1 ∈ WA
        · exact .inl h4
        · refine .inr ?_
          cases q : h₂.get? p.1 with
          | none => rfl
          | some o => rw [old _ _ h4 (hWd' p hp).1 q] at h3; cases h3
    · rcases zold b o e with rfl | q
      · cases q : h₂.get? b with
        | none => rfl
        | some o9 =>
          by_cases hb : b ∈ WA
          · have := hWA b hb
            obtain ⟨p, hp, e9⟩ := List.mem_map.mp this
            have := hW p hp
            rw [e9, q6] at this; cases this
          · rw [old b o9 hb vaS q] at q6; cases q6
      · obtain ⟨o', e'⟩ := Option.isSome_iff_exists.mp q
        exact f1 b o' e'
    · rw [Array.toList_push]
      refine (hP.mono fun _ _ h => h.ext x1).snoc ⟨va, v1, v2, rfl, ⟨tupOf #[v1, v2], ?_, rfl, 0, rfl⟩, b1, b2⟩
      rw [cut_get, if_pos (by simp)]; exact q8
    · rw [List.append_assoc] at r5
      exact hR h9 g9 tk9 ys9 c9 zc9 r1 r2 r3 r4 r5 r6 r7 r8
end
end
-- part G7
theorem start_G7 : True := by
  w_top off
  trivial
section
open Builtin Builtin.ObjectAttr Builtin.Getset_descriptor
open Sem (wp)

/-- the generators that came since have ended -/
noncomputable def GMore (a b : Array GenState) : Prop := ∀ (k : Nat) (x : GenState), b[k]? = some x → a[k]? = some x ∨ x = .finished
theorem GMore.refl (a : Array GenState) : GMore a a := fun _ _ e => .inl e
theorem GMore.trans {a b c : Array GenState} (x : GMore a b) (y : GMore b c) : GMore a c := fun k v e => (y k v e).elim (x k v) .inr
theorem GMore.of {a b : Array GenState} {gs : GenState} (h : GenOnly a.size (a.push gs) b) (hf : b[a.size]? = some .finished) : GMore a b := fun k x e => by
  by_cases hk : k = a.size
  · subst hk; rw [hf] at e; cases e; exact .inr rfl
  · rw [h.2 k hk, Array.getElem?_push, if_neg hk] at e; exact .inl e
section
variable {prog : Program} {w : World} {A : Around} {E : Value → Shared → Prop} {s : Shared} {fr : List Env} {Q : Value → Shared → Prop} {ts : List Trip} {x : Addr}
theorem hdrInst {h : Heap} (hH : HdrV w ts h x) : ∃ ox od, InstAt h x ox 177 od := by
  obtain ⟨dx, l, vs, n, k1, h1, h2, _⟩ := hH
  exact ⟨instObj 177 dx, some (hdrDict w k1 l), h1, rfl, rfl, h2⟩
theorem HdrV.ext {h h' : Heap} (hH : HdrV w ts h x) (e : Ext h h') : HdrV w ts h' x := by
  obtain ⟨dx, l, vs, n, k1, h1, h2, h3, h4⟩ := hH
  exact ⟨dx, l, vs, n, k1, e _ _ h1, e _ _ h2, e _ _ h3, h4.mono fun _ _ t => t.ext e⟩

/-- iter of a Headers object -/
theorem iter_hdr {h₀ z : Heap} {Lf : Addr} {mf : Str → Option Value} (am : Amb w A 4 40 fr s.heap) (Fa : Fr h₀ Lf s.heap mf) (X₀ : (Mine.hd.heap_1 w.params).In h₀) (hz : Ext z s.heap) (X : (Mine.hd.heap_1 w.params).In z) (hH : HdrV w ts z x) (nl : z.NoLimit)
    (hQ : ∀ a h' tk gs W, Ext s.heap h' → s.heap.get? a = none → (∀ p ∈ W, h'.get? p.1 = some p.2) → (∀ p ∈ W, s.heap.get? p.1 = none) → a ∉ W.map (·.1) → h'.IsGen a s.gens.size → (∀ A' : Around, A'.handled = none → A'.depth < recursionLimit → GRdy prog w A' z a s.gens.size ts W gs) →
      Q (.ref a) { s with heap := h', toks := tk, gens := s.gens.push gs }) : wpAny (model prog w) A (pyIter (.ref x)) Q E s := by
  obtain ⟨ox, od, I⟩ := hdrInst (hH.ext hz)
  refine owit_iter (f := 155) Fa X₀ I (by k_is) (by k_is) (iter_ok am hz X hH nl fun a h' tk gs W e1 n1 w1 w2 w3 hg rd => ?_)
  unfold OwitIt
  exact wpAny_specialOf hg.typeIs slot_gen_next.lookup (hQ a h' tk gs W e1 n1 w1 w2 w3 hg rd)

/-- len of a Headers object -/
theorem len_hdr {h₀ : Heap} {Lf : Addr} {mf : Str → Option Value} (am : Amb w A 4 41 fr s.heap) (Fa : Fr h₀ Lf s.heap mf) (X₀ : (Mine.hd.heap_1 w.params).In h₀) (hH : HdrV w ts s.heap x) (hts : ts.length ≤ 1000)
    (hQ : ∀ h' tk t, Ext s.heap h' → Q (.int ts.length t) { s with heap := h', toks := tk }) : wpAny (model prog w) A (call (.builtin "len") [.ref x]) Q E s := by
  obtain ⟨ox, od, I⟩ := hdrInst hH
  refine len_K (f := 162) Fa X₀ I (by k_is) (by k_is) (len_hdr_ok am.in1 hH hts fun h' tk t e => ?_)
  refine ⟨⟨by omega, by omega⟩, hQ h' _ _ e⟩
theorem list_hdr {h₀ z : Heap} {Lf : Addr} {mf : Str → Option Value} (am : Amb w A 6 60 fr s.heap) (Fa : Fr h₀ Lf s.heap mf) (X₀ : (Mine.hd.heap_1 w.params).In h₀) (hz : Ext z s.heap) (X : (Mine.hd.heap_1 w.params).In z) (hH : HdrV w ts z x) (nl : z.NoLimit) (hts : ts.length ≤ 1000)
    (hQ : ∀ S h' g' tk ys c z', Ext s.heap h' → Fresh s.heap z' → Ext z' h' → z'.get? S = some (listOf ys c) → Paired (fun t v => PairV (t.2.1, t.2.2) z' v) ts ys.toList → GMore s.gens g' → Q (.ref S) { s with heap := h', gens := g', toks := tk }) :
    wpAny (model prog w) A (call (.type "list") [.ref x]) Q E s := by
  have hxlt : x < s.heap.objs.size := by obtain ⟨dx, l, vs, n, k1, h1, _⟩ := hH.ext hz; exact Heap.lt_size h1
  have hSx : s.heap.objs.size ≠ x := Nat.ne_of_gt hxlt
  refine callType_codes (Q₁ := fun obj s₁ => obj = .ref s.heap.objs.size ∧ s₁ = { s with heap := s.heap.push { cls := .type "list", data := .seq #[] } }) F.called_list (F.typeCall_list_1 _) F.entry_list_init
    (code_list_new _ ⟨rfl, rfl⟩) fun obj s₁ h₁ => ?_
  obtain ⟨rfl, rfl⟩ := h₁
  generalize hH1 : s.heap.push { cls := .type "list", data := .seq #[] } = H1
  have hS : H1.get? s.heap.objs.size = some { cls := .type "list", data := .seq #[] } := hH1 ▸ Heap.get?_push_size _ rfl
  have e1 : Ext s.heap H1 := hH1 ▸ Ext.push _
  refine ⟨⟨_, hS, rfl⟩, F.args_list_init_2 _ _, ?_⟩
  show wpAny _ A.in1.in1 (do let old ← Builtin.List.listItems (.ref s.heap.objs.size); Builtin.List.listUpdate (.ref s.heap.objs.size) (fun _ => #[]); letGo old.toList.reverse; Builtin.List.listExtendWith (.ref s.heap.objs.size) (.ref x) .none) _ _ { s with heap := H1 }
  refine wpAny_bind ?_
  unfold Builtin.List.listItems
  refine wpAny_bind (wpAny_seqItems hS rfl (wpAny_pure ?_))
  show wpAny _ A.in1.in1 (updateSeq s.heap.objs.size (fun _ => #[]) >>= fun _ => letGo (#[] : Array Value).toList.reverse >>= fun _ => Builtin.List.listExtendWith (.ref s.heap.objs.size) (.ref x) .none) _ _ { s with heap := H1 }
  refine wpAny_bind (wpAny_updateSeq hS rfl ?_)
  have hS₂ := Heap.get?_update_self (Obj.mapSeq (fun _ => (#[] : Array Value))) hS rfl
  have oth : ∀ b o, b ≠ s.heap.objs.size → H1.get? b = some o → (H1.update s.heap.objs.size (Obj.mapSeq (fun _ => (#[] : Array Value)))).get? b = some o :=
    fun b o hb e => (Heap.get?_update_other _ _ (Ne.symm hb)).trans e
  refine wpAny_bind (wpAny_letGo ?_)
  generalize hH2 : H1.update s.heap.objs.size (Obj.mapSeq (fun _ => (#[] : Array Value))) = H2 at hS₂ oth ⊢
  have e2 : Ext s.heap H2 := fun b o e => oth b o (Nat.ne_of_lt (Heap.lt_size e)) (e1 b o e)
  have F2 : Fr h₀ Lf H2 mf := Fa.keeps e2
  have hz2 : Ext z H2 := hz.trans e2
  obtain ⟨ox, od, I2⟩ := hdrInst (hH.ext hz2)
  unfold Builtin.List.listExtendWith
  refine wpAny_bind (I2.type.here ?_)
  have h1 : Builtin.List.listSameRef (.ref s.heap.objs.size) (.ref x) = false := by simp [Builtin.List.listSameRef, hSx]
  rw [if_neg (by rw [h1]; simp)]
  refine wpAny_bind (iter_hdr (s := { s with heap := H2 }) (am.ext e2).in1.in1.less F2 X₀ hz2 X hH nl fun a H3 tk3 gs W q1 q2 q3 q4 q5 q6 rd => ?_)
  have e3 : Ext s.heap H3 := e2.trans q1
  refine wpAny_bind (wpAny_holding ?_)
  unfold Builtin.List.listLengthHint
  have X3 := X₀.keeps (Fa.keeps e3).keep
  obtain ⟨ox3, od3, I3⟩ := hdrInst (hH.ext (hz.trans e3))
  refine wpAny_bind (wpAny_bind (I3.type.here ((looks_findIn X3 (show findIn (Mine.hd.heap_1 w.params) (.ref 177) "__len__" = some (some (.ref 162)) by k_is)).here ?_)))
  refine wpAny_ite_false (by decide +kernel) ?_
  refine wpAny_ite_true (by decide +kernel) ?_
  refine wpAny_bind (wpAny_rule ?_)
  refine wpAny_bind (wpAny_attempt (len_hdr (s := { s with heap := H3, toks := tk3, gens := s.gens.push gs }) (am.ext e3).in1.in1.less (Fa.keeps e3) X₀ (hH.ext (hz.trans e3)) hts fun H4 tk4 t4 q7 => ?_))
  dsimp only
  refine wpAny_bind (wpAny_of_eq (a := some (ts.length : Int)) rfl ?_)
  dsimp only
  refine wpAny_ite_false (by
    show decide (Builtin.List.listTooLong (ts.length : Int).toNat = true) = false
    unfold Builtin.List.listTooLong
    rw [sizeLine_eq, Int.toNat_natCast]
    simp; omega) ?_
  refine wpAny_pure ?_
  have nS2 : (H2.get? s.heap.objs.size).isSome = true := by rw [hS₂]; rfl
  have haS : a ≠ s.heap.objs.size := fun q => by rw [q, hS₂] at q2; cases q2
  have hWS : ∀ p ∈ W, p.1 ≠ s.heap.objs.size := fun p hp q => by have := q4 p hp; rw [q] at this; rw [show H2.get? s.heap.objs.size = _ from hS₂] at this; cases this
  have hWs : ∀ p ∈ W, s.heap.get? p.1 = none := fun p hp => by
    cases q : s.heap.get? p.1 with
    | none => rfl
    | some o => have := q4 p hp; rw [show H2.get? p.1 = _ from e2 _ _ q] at this; cases this
  have e4 : Ext s.heap H4 := e3.trans q7
  have hzS : z.get? s.heap.objs.size = none := by
    cases q : z.get? s.heap.objs.size with
    | none => rfl
    | some o => exact absurd (Heap.lt_size (hz _ _ q)) (Nat.lt_irrefl _)
  have key : ∀ (H5 : Heap) (c5 : Nat), H5.get? s.heap.objs.size = some { cls := .type "list", dict := none, data := .seq #[] c5, slots := #[] } → (∀ b o, b ≠ s.heap.objs.size → H4.get? b = some o → H5.get? b = some o) →
      codeAny (model prog w) A.in1 (.builtin "list.extend.loop" ⟨[.ref s.heap.objs.size, .ref a, .none], []⟩) (wants (fun r s₂ => r = .none ∧ Q (.ref s.heap.objs.size) s₂) E) { s with heap := H5, toks := tk4, gens := s.gens.push gs } := by
    intro H5 c5 hS5 hk5
    refine glist_loop (A := A.in1) (h₂ := H4) (g₂ := s.gens.push gs) (WA := W.map (·.1)) (hz.trans e4) (q6.keeps q7) q5 (fun b hb => ?_) hzS haS ts [] _ W gs {} #[] c5 (rd _ am.hd (Nat.lt_of_le_of_lt (Nat.le_add_right A.depth 6) am.dep)) (Array.getElem?_push_size ..) ⟨rfl, fun _ _ => rfl⟩ hS5 (fun b o _ hb e => hk5 b o hb e)
      (fun p hp => hk5 _ _ (hWS p hp) (q7 _ _ (q3 p hp))) (fun p hp => .inl (List.mem_map_of_mem hp)) (fun p hp => ⟨hWS p hp, by simp [Heap.get?]⟩) (fun _ h => h) (fun b hb => ?_) (by rw [q7 _ _ (q1 _ _ hS₂)]; rfl) (fun a o e => by simp [Heap.get?] at e) (fun a o e => by simp [Heap.get?] at e) (by simp [Heap.get?]) .nil (by simpa using hts)
      fun h' g' tk ys' c' zc' r1 r2 r3 r4 r5 r6 r7 r8 => ?_
    · obtain ⟨p, hp, rfl⟩ := List.mem_map.mp hb
      cases q : z.get? p.1 with
      | none => rfl
      | some o => have := hWs p hp; rw [hz _ _ q] at this; cases this
    · obtain ⟨p, hp, rfl⟩ := List.mem_map.mp hb
      rw [q7 _ _ (q3 p hp)]; rfl
    · have es : Ext s.heap h' := fun b o e => r6 b o (fun hm => by obtain ⟨p, hp, rfl⟩ := List.mem_map.mp hm; rw [hWs p hp] at e; cases e) (Nat.ne_of_lt (Heap.lt_size e)) (e4 b o e)
      have low : ∀ b, H4.get? b = none → s.heap.get? b = none := fun b hb => by
        cases q : s.heap.get? b with
        | none => rfl
        | some o => rw [e4 b o q] at hb; cases hb
      let z9 : Heap := cut h' fun b => (zc'.get? b).isSome || b == s.heap.objs.size
      have zx : Ext zc' z9 := fun b o e => by rw [cut_get, if_pos (by simp [e])]; exact r2 b o e
      refine ⟨rfl, hQ s.heap.objs.size h' g' tk ys' c' z9 es (fun b o e => ?_) (cut_ext _ _) ?_ (r5.mono fun _ _ t => t.ext zx) (GMore.of r7 r8)⟩
      · rw [cut_get] at e
        split at e
        · rename_i q
          simp only [Bool.or_eq_true, beq_iff_eq] at q
          rcases q with q | q
          · obtain ⟨o', e'⟩ := Option.isSome_iff_exists.mp q
            exact low b (r1 b o' e')
          · rw [q]; exact fresh_none (Nat.le_refl _)
        · cases e
      · rw [cut_get, if_pos (by simp)]; exact r4
  have hS4 := q7 _ _ (q1 _ _ hS₂)
  split
  · refine wpAny_bind (wpAny_rule ?_)
    refine wpAny_bind ?_
    show wpAny _ A.in1.in1 (updateSeq s.heap.objs.size (·.push .none) >>= fun _ => updateSeq s.heap.objs.size (·.pop)) _ _ _
    refine wpAny_bind (wpAny_updateSeq hS4 rfl ?_)
    have hS5 := Heap.get?_update_self (Obj.mapSeq (·.push Value.none)) hS4 rfl
    refine wpAny_updateSeq hS5 rfl ?_
    have hS6 := Heap.get?_update_self (Obj.mapSeq (·.pop)) hS5 rfl
    refine wpAny_pure ⟨plainId_quiet F.plain_extend_loop _, key _ _ hS6 fun b o hb e => ?_⟩
    exact (Heap.get?_update_other _ _ (Ne.symm hb)).trans ((Heap.get?_update_other _ _ (Ne.symm hb)).trans e)
  · exact wpAny_pure ⟨plainId_quiet F.plain_extend_loop _, key _ _ hS4 fun b o hb e => e⟩
end
end
-- part G8
theorem start_G8 : True := by
  w_top off
  trivial
section
open Builtin Builtin.ObjectAttr Builtin.Getset_descriptor
open Sem (wp)
section
variable {prog : Program} {w : World} {A : Around} {E : Value → Shared → Prop} {s : Shared} {fr : List Env} {Q : Value → Shared → Prop} {ts : List Trip} {qs : List Pair} {x : Addr} {l : Value}
abbrev pairsOf (ts : List Trip) : List Pair := ts.map fun t => (t.2.1, t.2.2)
theorem eq_hdr_ok (am : Amb w A 8 80 fr s.heap) (hH : HdrV w ts s.heap x) (hl : PList qs s.heap l) (hts : ts.length ≤ 1000) (hqs : qs.length ≤ 1000)
    (hQ : ∀ h' g' tk, Ext s.heap h' → GMore s.gens g' → Q (.bool (decide (pairsOf ts = qs))) { s with heap := h', gens := g', toks := tk }) :
    wpAny (model prog w) A (call (.ref 148) [.ref x, l]) Q E s := by
  obtain ⟨la, lvs, ln, rfl, hlo, hlp⟩ := hl
  refine wpAny_call ?_
  refine enter (binds := [(Str.ofString "self", .ref x), (Str.ofString "other", .ref la)]) am (by k_is) (by k_is) (BindsTo.of_eq rfl) (locs rfl) fun L h₁ hL S => ?_
  dsimp only
  repeat' walk1
  obtain ⟨_, _, _, _, _, T⟩ := am.t
  refine list_hdr (by exact am.sub S (.head _)) (S.fr (.head _) hL) am.k (S.froz (.head _)) am.k hH T.nolimit hts fun Sl h₂ g₂ k₂ ys c z' e1 f1 f2 f3 f4 g1 => ?_
  have S₂ := S.add e1 f2 f1
  clear S
  dsimp only
  repeat' walk1
  have hlz : lvs.size ≤ sizeLine := by
    have h9 := hlp.length
    have h8 : lvs.toList.length = lvs.size := by simp
    rw [sizeLine_eq]; omega
  refine call_list_seq la (.inl rfl) (S₂.froz (.tail _ (.head _)) _ _ hlo) rfl rfl (fun h₃ n₃ hk hn => ?_) hlz
  have S₃ := S₂.ext hk
  obtain ⟨ys⟩ := ys
  obtain ⟨lvs⟩ := lvs
  have pa : Paired (fun p v => PairV p h₃ v) (pairsOf ts) ys := pair_map (f := fun t : Trip => (t.2.1, t.2.2)) (f4.mono fun _ _ t => t.ext (S₃.froz (.head _)))
  have pb : Paired (fun p v => PairV p h₃ v) qs lvs := hlp.mono fun _ _ t => t.ext (S₃.froz (.tail _ (.head _)))
  refine list_eqs (s := ⟨h₃, _, _, _, _⟩) (by exact am.cl) (listAt f3 (S₃.froz (.head _))) ⟨_, hn, rfl, n₃, rfl⟩ pa pb (fun a v a' v' r r' => eqAt_pair (by have := am.un; show A.units + 3 + 1 < cLine; omega) r r') ?_
  exact hQ h₃ g₂ k₂ (S₃.froz (.tail _ (.head _))) g1
end
end
-- part V2
theorem start_V2 : True := by
  w_top off
  trivial
section
open Builtin Builtin.ObjectAttr Builtin.Getset_descriptor
open Sem (wp)
noncomputable def setPs (ts : List Trip) (b : Oct) (ms : List Oct) : List Pair := ((ts.filter fun t => decide (t.2.1 ≠ b)).map fun t => (t.1, t.2.2)) ++ ms.map fun v => (byteArr (titI b), v)
abbrev SetU (h₀ : Heap) (ts : List Trip) (b : Oct) (tk : Tok) (nv : Value) (i : Nat) (zs : List Heap) (m : PySem.Str → Option Value) (own : List (Addr × Obj)) : Prop :=
  ∃ zacc a vs k, zs = [zacc, h₀] ∧ Fresh h₀ zacc ∧ own = [(a, listOf (List.toArray vs) k)] ∧ m (PySem.Str.ofString "new_headers") = some (.ref a) ∧ m (PySem.Str.ofString "name") = some (.bytes b tk) ∧ m (PySem.Str.ofString "new_values") = some nv ∧
    Paired (fun p v => PairV p zacc v) (((ts.take i).filter fun t => decide (t.2.1 ≠ b)).map fun t => (t.1, t.2.2)) vs
abbrev SetV (h₀ : Heap) (ps : List Pair) (ms : List Oct) (b : Oct) (tk : Tok) (i : Nat) (zs : List Heap) (m : PySem.Str → Option Value) (own : List (Addr × Obj)) : Prop :=
  ∃ zacc a vs k, zs = [zacc, h₀] ∧ Fresh h₀ zacc ∧ own = [(a, listOf (List.toArray vs) k)] ∧ m (PySem.Str.ofString "new_headers") = some (.ref a) ∧ m (PySem.Str.ofString "name") = some (.bytes b tk) ∧
    Paired (fun p v => PairV p zacc v) (ps ++ (ms.take i).map fun v => (byteArr (titI b), v)) vs
section
variable {prog : Program} {w : World} {A : Around} {E : Value → Shared → Prop} {s : Shared} {fr : List Env} {Q : Value → Shared → Prop} {ts : List Trip} {ms : List Oct} {x : Addr} {b : Oct} {tk : Tok} {l : Value}
theorem set_comma_ok (po : ProgOk prog) (am : Amb w A 9 110 fr s.heap) (hH : HdrV w ts s.heap x) (hl : BList ms s.heap l) (hb : b.size ≤ 1000) (hts : ts.length ≤ 50) (hms : ms.length ≤ 50) (hsz : ∀ t ∈ ts, t.1.size ≤ 1000 ∧ t.2.1.size ≤ 1000 ∧ t.2.2.size ≤ 1000) (hmz : ∀ v ∈ ms, v.size ≤ 1000) (htz : (byteArr (titI b)).size ≤ 1000)
    (hQ1 : ∀ k, navPs (setPs ts b ms) = .error k → Raises w fr s k E)
    (hQ2 : ∀ h' tk' x' z d, navPs (setPs ts b ms) = .ok d → Ext s.heap h' → Ext z h' → Fresh s.heap z → HdrV w d.told z x' → Q (.ref x') { s with heap := h', toks := tk' }) :
    wpAny (model prog w) A (call (.ref 208) [.ref x, .bytes b tk, l]) Q E s := by
  obtain ⟨dx, lf, fvs, fn, k1, hx, hd, hlf, hP⟩ := hH
  obtain ⟨la, lvs, ln, rfl, hlo, hlp⟩ := hl
  refine wpAny_call ?_
  refine enter (binds := [(PySem.Str.ofString "headers", .ref x), (PySem.Str.ofString "name", .bytes b tk), (PySem.Str.ofString "new_values", .ref la)]) am (by k_is) (by k_is) (BindsTo.of_eq rfl) (locs rfl) fun L h₁ hL S => ?_
  dsimp only
  repeat' walk1
  have S0 := ‹St _ _ _ [_] _›
  refine hdrFull (kAt am S0 (.head _)) (S0.froz (.head _) _ _ hx) (S0.froz (.head _) _ _ hd) ?_
  dsimp only
  refine for_list (items := fvs.toList) (by exact am.hd) rfl S0.nil (.tail _ (.head _)) ⟨_, hlf, rfl, fn, by simp⟩ (SetU s.heap ts b tk (.ref la)) ⟨{}, _, [], 0, rfl, (fun a o q => by simp [Heap.get?] at q), rfl, rfl, rfl, rfl, .nil⟩ (fun i zs m own h => by obtain ⟨_, _, _, _, rfl, _⟩ := h; exact .tail _ (.head _)) ?_ ?_
  · rintro i v zs m own s' I oI hv ⟨zacc, a, vs, k, rfl, hfr, rfl, hm1, hm2, hm3, hT⟩ S₁ es
    have hi : i < ts.length := by
      obtain ⟨h1, _⟩ := List.getElem?_eq_some_iff.mp hv
      have := hP.length; omega
    have hp : ts[i]? = some ts[i] := List.getElem?_eq_getElem hi
    have hpv : TripV ts[i] s.heap v := by
      obtain ⟨h1, h2⟩ := List.getElem?_eq_some_iff.mp hv
      rw [← h2]; exact pair_at hP i hi h1
    generalize ts[i] = p at hp hpv
    obtain ⟨n0, n, y⟩ := p
    obtain ⟨ta, v1, v2, v3, rfl, ht, ⟨t1, e1⟩, ⟨t2, e2⟩, ⟨t3, e3⟩⟩ := hpv
    dsimp only at e1 e2 e3
    subst e1 e2 e3
    have hstep : ((ts.take (i + 1)).filter fun t => decide (t.2.1 ≠ b)).map (fun t => (t.1, t.2.2)) = ((ts.take i).filter fun t => decide (t.2.1 ≠ b)).map (fun t => (t.1, t.2.2)) ++ (if n ≠ b then [(n0, y)] else []) := by
      rw [List.take_add_one, hp, List.filter_append, List.map_append]
      congr 1
      simp only [Option.toList, List.filter_cons, List.filter_nil, decide_eq_true_eq]
      split <;> rfl
    have hk : vs.length ≤ 1000 := by
      have h1 := hT.length
      rw [List.length_map] at h1
      have h2 := List.length_filter_le (fun t : Trip => decide (t.2.1 ≠ b)) (ts.take i)
      have h3 : (ts.take i).length ≤ 50 := Nat.le_trans (List.take_sublist _ _).length_le hts
      rw [← h1]; exact Nat.le_trans h2 (Nat.le_trans h3 (by decide))
    rw [es]
    dsimp only
    refine genT fun Q8 E8 hq8 he8 => ?_
    refine unpackSt (by exact am.hd) S₁ (by obtain ⟨o9, h9, r9⟩ := ht; exact ⟨o9, S₁.froz (.tail _ (.head _)) _ _ h9, r9⟩) rfl rfl fun h₂ e2 S₂ => ?_
    clear S₁ S0
    dsimp only
    repeat' walk1
    · have S₃ := ‹St _ _ _ _ _›
      have hne : n ≠ b := arr_nee (by assumption)
      obtain ⟨z', x1, x2, x3, S₄⟩ := S₃.freezePair (p := (n0, y)) (.head _) (.tail _ (.head _)) hfr ⟨_, rfl⟩ ⟨_, rfl⟩
      refine hq8 _ _ ⟨[z', s.heap], _, _, S₄.part (List.Sublist.refl _) (by simp), ⟨z', a, vs ++ [.ref _], k + 1, rfl, x2, by simp; rfl, hm1, hm2, hm3, ?_⟩, rfl⟩
      rw [hstep, if_pos hne]
      exact (hT.mono fun _ _ h => h.ext x1).snoc x3
    · have S₃ := ‹St _ _ _ _ _›
      have he : ¬ n ≠ b := fun q => q (arr_nne (by assumption))
      refine hq8 _ _ ⟨[zacc, s.heap], _, _, S₃, ⟨zacc, a, vs, k, rfl, hfr, rfl, hm1, hm2, hm3, ?_⟩, rfl⟩
      rw [hstep, if_neg he, List.append_nil]
      exact hT
  · rintro zs m own h' tk' ⟨zacc, a, vs, k, rfl, hfr, rfl, hm1, hm2, hm3, hT⟩ S₁
    dsimp only
    repeat' walk1
    rw [List.take_of_length_le (by rw [← hP.length]; exact Nat.le_refl _)] at hT
    have hln : lvs.toList.length = ms.length := hlp.length.symm
    generalize hps : (ts.filter fun t => decide (t.2.1 ≠ b)).map (fun t => (t.1, t.2.2)) = ps at hT
    have hpl : ps.length ≤ 50 := by
      rw [← hps, List.length_map]
      have := List.length_filter_le (fun t : Trip => decide (t.2.1 ≠ b)) ts
      omega
    have hset : setPs ts b ms = ps ++ ms.map fun v => (byteArr (titI b), v) := by unfold setPs; rw [hps]
    refine for_list (items := lvs.toList) (by exact am.hd) rfl S₁ (.tail _ (.head _)) ⟨_, hlo, rfl, ln, by simp⟩ (SetV s.heap ps ms b tk) ⟨zacc, a, vs, k, rfl, hfr, rfl, hm1, hm2, by simpa using hT⟩ (fun i zs m own h => by obtain ⟨_, _, _, _, rfl, _⟩ := h; exact .tail _ (.head _)) ?_ ?_
    · clear hm1 hm2 hm3 hT S₁
      rintro i v zs m own s' I oI hv ⟨zacc, a, vs, k, rfl, hfr, rfl, hm1, hm2, hT⟩ S₁ es
      have hi : i < ms.length := by
        obtain ⟨h1, _⟩ := List.getElem?_eq_some_iff.mp hv
        omega
      have hp : ms[i]? = some ms[i] := List.getElem?_eq_getElem hi
      have hpv : BV ms[i] v := by
        obtain ⟨h1, h2⟩ := List.getElem?_eq_some_iff.mp hv
        rw [← h2]; exact pair_at hlp i hi h1
      generalize ms[i] = q at hp hpv
      obtain ⟨tq, rfl⟩ := hpv
      have hstep : (ms.take (i + 1)).map (fun v => (byteArr (titI b), v)) = (ms.take i).map (fun v => (byteArr (titI b), v)) ++ [(byteArr (titI b), q)] := by
        rw [List.take_add_one, hp, List.map_append]; rfl
      have hk : vs.length ≤ 1000 := by
        have h1 := hT.length
        rw [List.length_append, List.length_map] at h1
        have h3 : (ms.take i).length ≤ 50 := Nat.le_trans (List.take_sublist _ _).length_le hms
        rw [← h1]; exact Nat.le_trans (Nat.add_le_add hpl h3) (by decide)
      rw [es]
      dsimp only
      refine genT fun Q8 E8 hq8 he8 => ?_
      repeat' walk1
      rename_i S₃
      refine title_ok (by exact am.sub S₃ (.tail _ (.head _))) hb fun h₃ k₃ t₃ e₃ => ?_
      replace S₃ := S₃.ext e₃
      dsimp only
      repeat' walk1
      have S₄ := ‹St _ _ _ _ _›
      obtain ⟨z', x1, x2, x3, S₅⟩ := S₄.freezePair (p := (byteArr (titI b), q)) (.head _) (.tail _ (.head _)) hfr ⟨_, rfl⟩ ⟨_, rfl⟩
      refine hq8 _ _ ⟨[z', s.heap], _, _, S₅.part (List.Sublist.refl _) (by simp), ⟨z', a, vs ++ [.ref _], k + 1, rfl, x2, by simp; rfl, hm1, hm2, ?_⟩, rfl⟩
      rw [hstep, ← List.append_assoc]
      exact (hT.mono fun _ _ h => h.ext x1).snoc x3
    · clear hm1 hm2 hm3 hT S₁
      rintro zs m own h' tk' ⟨zacc, a, vs, k, rfl, hfr, rfl, hm1, hm2, hT⟩ S₁
      rw [List.take_of_length_le (by rw [hln]; exact Nat.le_refl _), ← hset] at hT
      dsimp only
      repeat' walk1
      have hlen : (setPs ts b ms).length ≤ 100 := by rw [hset, List.length_append, List.length_map]; omega
      refine nav_ok (ps := setPs ts b ms) po (by exact am.sub S₁ (.tail _ (.head _))) ⟨a, _, _, rfl, S₁.mine _ (.head _), ?_⟩ ⟨hlen, ?_⟩ (fun kk hkk => ?_) fun h₉ k₉ x₉ z₉ d₉ hd₉ e₉ f₉ g₉ H₉ => ?_
      · simpa using hT.mono fun _ _ h => (h.ext (S₁.froz (.head _))).toT
      · intro p hp
        unfold setPs at hp
        rcases List.mem_append.mp hp with hp | hp
        · obtain ⟨t, ht, rfl⟩ := List.mem_map.mp hp
          have := hsz t (List.mem_filter.mp ht).1
          exact ⟨this.1, this.2.2⟩
        · obtain ⟨v, hv, rfl⟩ := List.mem_map.mp hp
          exact ⟨htz, hmz v hv⟩
      · intro e9 h9 k9 x9
        exact exc_out (s := ⟨_, _, _, _, _⟩) am S₁ (.tail _ (.head _)) hL x9 (hQ1 _ hkk) rfl (fun _ h => h) (.inr (.inl rfl))
      · refine hQ2 h₉ k₉ x₉ z₉ d₉ hd₉ ((S₁.froz (.tail _ (.head _))).trans e₉) f₉ (fun b9 o9 q9 => ?_) H₉
        cases q8 : s.heap.get? b9 with
        | none => rfl
        | some o8 => have := g₉ b9 o9 q9; rw [S₁.froz (.tail _ (.head _)) _ _ q8] at this; cases this
end
end
-- part V3
theorem start_V3 : True := by
  w_top off
  trivial
section
open Builtin Builtin.ObjectAttr Builtin.Getset_descriptor
open Sem (wp)
theorem slot_exc_ga : Slot "BaseException" "__getattribute__" "BaseException.__getattribute__" :=
  .of (owner := "BaseException") (n := "__getattribute__") (by rw [typeLookup_type, builtinLookup_eq_fast]; kernel_rfl) (by decide +kernel) (by decide +kernel) (by decide +kernel)
    (by first | exact .inl (by decide +kernel) | exact .inr (by decide +kernel)) (by rw [isSubtype_type]; kernel_rfl)
theorem entry_exc_ga : entryFor table "BaseException.__getattribute__" = some Builtin.«object.__getattribute__» :=
  entryFor_alias (id' := "object.__getattribute__") (by kernel_rfl) (by first | rfl | decide +kernel) (by decide +kernel) (by kernel_rfl)
theorem args_exc_ga (a b : Value) : argsOk "BaseException.__getattribute__" ⟨[a, b], []⟩ := by unfold argsOk; kernel_rfl
theorem kind_exc_ga : builtinKind "BaseException.__getattribute__" = some .slot := by decide +kernel
theorem split_exc_ga : splitId "BaseException.__getattribute__" = some ("BaseException", "__getattribute__") := by decide +kernel
section
variable {prog : Program} {w : World} {A : Around} {E : Value → Shared → Prop} {s : Shared} {Q : Value → Shared → Prop}
theorem getExc {e : Addr} {ox od : Obj} {name : PySem.Str} {v : Value} {expr : Bool} (X : (Mine.hd.heap_1 w.params).In s.heap) (I : InstAt s.heap e ox 91 (some od)) (ha : findIn (Mine.hd.heap_1 w.params) (.ref 91) name = some none) (hl : lookIn name od = some (some v)) (hv : handedIn v = true)
    (h : Q v { s with toks := s.toks + 1 }) : wpAny (model prog w) A (getAttr (.ref e) name expr) Q E s := by
  have hf : findObj (Mine.hd.heap_1 w.params) 91 (some od) name = some (.value v) := findObj_own (by k_is) ha rfl hl
  obtain ⟨hh, g, d, t, os⟩ := s
  have L0 := I.type (M := model prog w)
  have L1 : Looks (model prog w) hh (typeLookup (.ref 91) "__getattribute__") (some (.builtin "BaseException.__getattribute__")) := looks_findIn X (by k_is)
  have L2 : Looks (model prog w) hh (typeLookup (.ref 91) "__getattr__") none := looks_findIn X (by k_is)
  have L3 := looks_find (M := model prog w) X I hf
  have sub : Looks (model prog w) hh (isInstance (.ref e) (.type "BaseException")) true := I.type.andThen (looks_mroIn X (by k_is))
  unfold getAttr getAttrBy
  refine wpAny_bind (wpAny_mkText (wpAny_holding (wpAny_bind (L0.at (wpAny_bind (L1.at ?_))))))
  show wpAny _ _ (getAttrByItsOwn (.ref e) (.str name t) (.ref 91) (.builtin "BaseException.__getattribute__") true expr) _ _ _
  unfold getAttrByItsOwn hookBefore
  refine wpAny_bind (L2.at ?_)
  refine wpAny_bind (wpAny_attempt (wpAny_holding ?_))
  unfold callGetattribute boundAndCalled
  rw [if_neg (show ¬ ((expr && onTheHeap (Value.builtin "BaseException.__getattribute__")) = true) from by simp [onTheHeap])]
  refine wpAny_bind (wpAny_of_eq (slot_exc_ga.bind (.ref e)) ?_)
  refine wpAny_call ?_
  refine codeAny_call_builtin slot_exc_ga.plain entry_exc_ga (@check_slot (model prog w) _ _ ⟨hh, g, d, t + 1, os⟩ "BaseException.__getattribute__" "BaseException" "__getattribute__" (.ref e) [.str name t] [] _ kind_exc_ga split_exc_ga sub (args_exc_ga _ _) ?_)
  unfold Builtin.«object.__getattribute__»
  refine wpAny_bind (wpAny_pure ?_)
  dsimp only
  refine wpAny_bind (wpAny_pure (wpAny_bind (L0.at (wpAny_bind (L3.at ?_)))))
  refine wpAny_pure ?_
  show wpAny _ _ (handedOut v) _ _ _
  rw [handedOut_of hv]; exact wpAny_pure h

/-- the exception caught by its class's name, its hint handed back -/
theorem caught_lpe {hb h : Heap} {Ab : Around} {db ub : Nat} {L e : Addr} {m : PySem.Str → Option Value} {env : Env} {fr : List Env} {n : PySem.Str} {hint : Int} {np pos p1 p2 p3 : Pos} {rest : List ExceptHandler} {Q : Flow → Shared → Prop}
    (amb : Amb w Ab db ub [] hb) (hfr : A.frames = some (env :: fr)) (ff : h.FunFrames {} (env :: fr)) (hf : env.frame = some L) (S : St [hb] L m [] h) (hbf : ∀ b ∈ fsOf (env :: fr), hb.get? b = none) (x : Exc w (env :: fr) hint h e (some .none) s.heap)
    (hloc : env.locals = L) (hg : env.globals = mainGlobals) (hk : env.scope.kind = .function) (hx : env.kindOf (PySem.Str.ofString "LocalProtocolError") = some .globalImplicit) (hn : env.kindOf n = some .local) (hnd : (n == ("__debug__" : PySem.Str)) = false) (hp : (env.scope.kind == .class || (env.scope.kind == .module && env.locals != env.globals)) = false)
    (hQ : ∀ h' tk t, (∀ b o, b ≠ L → b ∉ fsOf fr → h.get? b = some o → h'.get? b = some o) → (∀ b o, b ≠ L → h.get? b = some o → ∃ sl, h'.get? b = some { o with slots := sl }) → Q (.ret (.int hint t)) { s with heap := h', toks := tk }) :
    wpAny (model prog w) A (noteFrame (.ref e) env) (fun _ s₂ => wpAny (model prog w) A (setFlight (.ref e) none) (fun _ s₃ => wpAny (model prog w) A (handleBy (.ref e) env (.ExceptHandler (some (.Name (PySem.Str.ofString "LocalProtocolError") np)) (some n) [.Return (some (.Attribute (.Name n p1) (PySem.Str.ofString "error_status_hint") p2)) p3] pos :: rest)) Q E s₃) E s₂) E s := by
  have move : ∀ {hd : Option Value} {h' : Heap}, Exc w (env :: fr) hint h e hd h' → St [hb] L m [] h' := fun {hd h'} x => ⟨x.ns S.ns, (fun _ hp => nomatch hp), by simp, fun z hz => by
    rw [List.mem_singleton.mp hz]
    exact ⟨fun b o q => x.same b o (S.froz (.head _) b o q) fun hm => (by rw [hbf b hm] at q; cases q), (S.fz hb (.head _)).2⟩⟩
  refine exc_note hfr ff hf x (.inr (.inl rfl)) fun h1 x1 => ?_
  refine exc_flight (f := none) (s := { s with heap := h1 }) x1 fun h2 x2 => ?_
  have S2 := move x2
  obtain ⟨t0, dx, vs, k1, k2, msg, th, he, h0, hdx, hde, hdd, _⟩ := id x2.ex
  refine wpAny_handleBy_cons (codeAny_handlers_test ?_) (by intro q; cases q)
  refine nmG (s := { s with heap := h2 }) amb S2 (.head _) (by rw [hg, nk_of hk hx (by decide)]; rfl) (show nsIn (Mine.hd.heap_1 w.params) mainGlobals (PySem.Str.ofString "LocalProtocolError") = some (some (.ref 91)) by k_is) ?_
  obtain ⟨q0, q1, q2, q3, q5, hC⟩ := lpeObj (kAt amb S2 (.head _))
  refine wpAny_excMatches_sub_self hC he rfl (by decide) ?_
  refine codeAny_handlers_suite_as ?_
  refine exc_flight (f := none) (s := { s with heap := h2 }) x2 fun h3 x3 => ?_
  have S3 := move x3
  refine wpAny_storeName_local hn (by rw [hloc]; exact S3.ns) (fun h4 hn4 hs4 => ?_) hp
  have hsb : Heap.SameBut L h3 h4 := by rw [← hloc]; exact hs4
  rw [hloc] at hn4
  have S4 := S3.set hn4 hsb
  obtain ⟨t0', dx', vs', k1', k2', msg', th', he', h0', hdx', hde', hdd', _⟩ := id x3.ex
  have neL : e ≠ L := fun q => by
    obtain ⟨o, _, _, ho, _⟩ := S.ns
    have := x3.new; rw [q, ho] at this; cases this
  have ndL : dx' ≠ L := fun q => by
    obtain ⟨o, _, _, ho, _⟩ := S.ns
    rw [q, ho] at hdx'; cases hdx'
  have he4 := (hsb.2 e neL).trans he'
  have hd4 := (hsb.2 dx' ndL).trans hdd'
  refine wpAny_execs_cons (wpAny_Return_some (Attribute_name (wpAny_Name (wpAny_loadName_local hk hn (v := .ref e) (by rw [hloc]; exact hn4) (by simp) ?_) hnd)))
  refine getExc (ox := { cls := .ref 91, dict := some dx', data := .fields vs' }) (od := excDict w k1' k2' msg' (.int hint th')) (kAt amb S4 (.head _)) ⟨he4, rfl, rfl, hd4⟩ (by k_is) rfl rfl ?_
  dsimp only
  refine wpAny_nameGoes hn (by rw [hloc]; exact hn4) hp fun h5 m5 hn5 hs5 => ?_
  have hs5' : Heap.SameBut L h4 h5 := by rw [← hloc]; exact hs5
  refine hQ h5 _ th' (fun b o nL nb q => ?_) (fun b o nL q => ?_)
  · exact (hs5'.2 b nL).trans ((hsb.2 b nL).trans (x3.same b o q (by simp only [fsOf, List.filterMap_cons, hf, List.mem_cons, not_or]; exact ⟨nL, nb⟩)))
  · obtain ⟨sl, q'⟩ := x3.slots b o q
    exact ⟨sl, (hs5'.2 b nL).trans ((hsb.2 b nL).trans q')⟩
end
end
-- part V4
theorem start_V4 : True := by
  w_top off
  trivial
section
open Builtin Builtin.ObjectAttr Builtin.Getset_descriptor
open Sem (wp)

/-- a heap without frames, below all -/
structure BaseAt (w : World) (fr : List Env) (hb h : Heap) : Prop where
  amb : ∃ Ab db ub, Amb w Ab db ub [] hb
  ext : Ext hb h
  none : ∀ a ∈ fsOf fr, hb.get? a = .none
section
variable {prog : Program} {w : World} {A : Around} {E : Value → Shared → Prop} {s : Shared} {fr : List Env} {Q : Value → Shared → Prop} {ps : List Pair} {l : Value} {hb : Heap} {ts : List Trip} {ms : List Oct} {x : Addr} {b : Oct} {tk : Tok}
theorem law_list_ok (po : ProgOk prog) (am : Amb w A 9 110 fr s.heap) (hba : BaseAt w fr hb s.heap) (hl : ∃ a vs n, l = .ref a ∧ s.heap.get? a = some (listOf vs n) ∧ Paired (fun p v => PairT p s.heap v) ps vs.toList) (hps : SmallP ps)
    (hQ1 : ∀ h' tk' k t, navPs ps = .error k → ExtF fr s.heap h' → Q (.int k t) { s with heap := h', toks := tk' })
    (hQ2 : ∀ h' tk' x z d, navPs ps = .ok d → Ext s.heap h' → Ext z h' → Fresh s.heap z → HdrV w d.told z x → Q (.ref x) { s with heap := h', toks := tk' }) :
    wpAny (model prog w) A (call (.ref 258) [l]) Q E s := by
  obtain ⟨la, lvs, ln, rfl, hlo, hlp⟩ := hl
  refine wpAny_call ?_
  refine enter (binds := [(PySem.Str.ofString "pairs", .ref la)]) am (by k_is) (by k_is) (BindsTo.of_eq rfl) (locs rfl) fun L h₁ hL S => ?_
  dsimp only
  walk1
  refine wpAny_Try_except ?_
  repeat' walk1
  refine nav_ok (ps := ps) po (by exact am.sub S (.head _)) ⟨la, lvs, ln, rfl, S.froz (.head _) _ _ hlo, hlp.mono fun _ _ t => ?_⟩ hps (fun k hk => ?_) fun h' tk' x z d hd e1 f1 f2 H1 => ?_
  · obtain ⟨a9, v9, u9, rfl, ⟨o9, h9, r9⟩, t1, t2⟩ := t
    exact ⟨a9, v9, u9, rfl, ⟨o9, S.froz (.head _) _ _ h9, r9⟩, t1, t2⟩
  · intro e h' tk' x
    obtain ⟨Ab, db, ub, amb⟩ := hba.amb
    have nL := (S.fz s.heap (.head _)).2 L (.head _)
    have hbL : hb.get? L = none := by
      cases q : hb.get? L with
      | none => rfl
      | some o => rw [hba.ext _ _ q] at nL; cases nL
    have SB : St [hb] L (fun y => List.lookup y [(PySem.Str.ofString "pairs", Value.ref la)].reverse) [] h₁ := ⟨S.ns, S.mine, S.nd, fun y hy => by
      rw [List.mem_singleton.mp hy]
      exact ⟨fun b o q => S.froz (.head _) b o (hba.ext b o q), fun c hc => by rw [List.mem_singleton.mp hc]; exact hbL⟩⟩
    refine caught_lpe (s := ⟨h', _, _, _, _⟩) amb (Around.frames_deeper am.frames) (St.ffr am S (.head _) rfl rfl) rfl SB (fun a ha => ?_) x rfl rfl rfl rfl rfl (by decide) rfl fun h9 k9 t9 g1 g2 => ?_
    · simp only [fsOf, List.filterMap_cons, List.mem_cons] at ha
      rcases ha with rfl | ha
      · exact hbL
      · exact hba.none a ha
    · exact hQ1 h9 k9 k t9 hk ⟨fun b o q nb => g1 b o (fun r => by rw [r, nL] at q; cases q) nb (S.froz (.head _) b o q), fun b o q => g2 b o (fun r => by rw [r, nL] at q; cases q) (S.froz (.head _) b o q)⟩
  · dsimp only
    refine hQ2 h' tk' x z d hd ((S.froz (.head _)).trans e1) f1 (fun b o q => ?_) H1
    cases q8 : s.heap.get? b with
    | none => rfl
    | some o8 => have := f2 b o q; rw [S.froz (.head _) _ _ q8] at this; cases this
theorem law_set_ok (po : ProgOk prog) (am : Amb w A 10 120 fr s.heap) (hba : BaseAt w fr hb s.heap) (hH : HdrV w ts s.heap x) (hl : BList ms s.heap l) (hbz : b.size ≤ 1000) (hts : ts.length ≤ 50) (hms : ms.length ≤ 50) (hsz : ∀ t ∈ ts, t.1.size ≤ 1000 ∧ t.2.1.size ≤ 1000 ∧ t.2.2.size ≤ 1000) (hmz : ∀ v ∈ ms, v.size ≤ 1000) (htz : (byteArr (titI b)).size ≤ 1000)
    (hQ1 : ∀ h' tk' k t, navPs (setPs ts b ms) = .error k → ExtF fr s.heap h' → Q (.int k t) { s with heap := h', toks := tk' })
    (hQ2 : ∀ h' tk' x z d, navPs (setPs ts b ms) = .ok d → Ext s.heap h' → Ext z h' → Fresh s.heap z → HdrV w d.told z x → Q (.ref x) { s with heap := h', toks := tk' }) :
    wpAny (model prog w) A (call (.ref 265) [.ref x, .bytes b tk, l]) Q E s := by
  refine wpAny_call ?_
  refine enter (binds := [(PySem.Str.ofString "fields", .ref x), (PySem.Str.ofString "small", .bytes b tk), (PySem.Str.ofString "members", l)]) am (by k_is) (by k_is) (BindsTo.of_eq rfl) (locs rfl) fun L h₁ hL S => ?_
  dsimp only
  walk1
  refine wpAny_Try_except ?_
  repeat' walk1
  have hl' : BList ms h₁ l := by
    obtain ⟨a, vs, n, e, h, p⟩ := hl
    exact ⟨a, vs, n, e, S.froz (.head _) _ _ h, p⟩
  refine set_comma_ok (ts := ts) (ms := ms) po (by exact am.sub S (.head _)) (hH.ext (S.froz (.head _))) hl' hbz hts hms hsz hmz htz (fun k hk => ?_) fun h' tk' x z d hd e1 f1 f2 H1 => ?_
  · intro e h' tk' x
    obtain ⟨Ab, db, ub, amb⟩ := hba.amb
    have nL := (S.fz s.heap (.head _)).2 L (.head _)
    have hbL : hb.get? L = none := by
      cases q : hb.get? L with
      | none => rfl
      | some o => rw [hba.ext _ _ q] at nL; cases nL
    have SB : St [hb] L _ [] h₁ := ⟨S.ns, S.mine, S.nd, fun y hy => by
      rw [List.mem_singleton.mp hy]
      exact ⟨fun b o q => S.froz (.head _) b o (hba.ext b o q), fun c hc => by rw [List.mem_singleton.mp hc]; exact hbL⟩⟩
    refine caught_lpe (s := ⟨h', _, _, _, _⟩) amb (Around.frames_deeper am.frames) (St.ffr am S (.head _) rfl rfl) rfl SB (fun a ha => ?_) x rfl rfl rfl rfl rfl (by decide) rfl fun h9 k9 t9 g1 g2 => ?_
    · simp only [fsOf, List.filterMap_cons, List.mem_cons] at ha
      rcases ha with rfl | ha
      · exact hbL
      · exact hba.none a ha
    · exact hQ1 h9 k9 k t9 hk ⟨fun b o q nb => g1 b o (fun r => by rw [r, nL] at q; cases q) nb (S.froz (.head _) b o q), fun b o q => g2 b o (fun r => by rw [r, nL] at q; cases q) (S.froz (.head _) b o q)⟩
  · dsimp only
    refine hQ2 h' tk' x z d hd ((S.froz (.head _)).trans e1) f1 (fun b o q => ?_) H1
    cases q8 : s.heap.get? b with
    | none => rfl
    | some o8 => have := f2 b o q; rw [S.froz (.head _) _ _ q8] at this; cases this
end
end
-- part V4b
theorem start_V4b : True := by
  w_top off
  trivial
section
open Builtin Builtin.ObjectAttr Builtin.Getset_descriptor
open Sem (wp)
section
variable {prog : Program} {w : World} {A : Around} {E : Value → Shared → Prop} {s : Shared} {zs : List Heap} {L : Addr} {m : PySem.Str → Option Value} {own : List (Addr × Obj)} {Q : Value → Shared → Prop}
theorem lSlice {value slice : PySem.Expr} {l : Addr} {items : Array Value} {vl vu : Value} {lo hi : Option Int} (S : St zs L m own s.heap) (hl : s.heap.IsList l items) (pl : IsPart vl lo) (pu : IsPart vu hi) (hsz : items.size ≤ 100000)
    (h : ∀ a h', s.heap.get? a = none → Ext s.heap h' → St zs L m ((a, listOf (slicePick items lo hi none) 0) :: own) h' → Q (.ref a) { s with heap := h' })
    (hs : subscripted slice false (.ref l) (.ref s.heap.objs.size) = operate [.ref s.heap.objs.size, .ref l] (getItem (.ref l) (.ref s.heap.objs.size)) := by with_unfolding_all rfl)
    (ht : ∀ r, letTemporaryGo value (.ref l) r = pure () := by intro _; with_unfolding_all rfl) :
    wpAny (model prog w) A (subscriptTail value slice (.ref l) (.ref s.heap.objs.size)) Q E { s with heap := s.heap.push { cls := .type "slice", data := .fields #[vl, vu, .none] } } := by
  refine subscriptTail_ops (Heap.IsList.typeIs (s := { s with heap := s.heap.push { cls := .type "slice", data := .fields #[vl, vu, .none] } }) (hl.push _)) list_getitem_lookup
    (wpAny_getItem_list_slice (hl.push _) (Heap.IsSliceOf.new ..) pl pu .none (by simp) ?_ (by rw [sizeLine_eq]; omega)) hs ht
  have S' := (S.ext (Ext.push { cls := .type "slice", data := .fields #[vl, vu, .none] })).push { cls := .type "list", data := .seq (slicePick items lo hi none) }
  exact h _ _ (fresh_none (by rw [Heap.size_push]; exact Nat.le_succ _)) ((Ext.push _).trans (Ext.push _)) S'
theorem lAdd {l b : Addr} {vs ws : List Value} (S : St zs L m own s.heap) (hl : s.heap.IsList l vs.toArray) (hb : s.heap.IsList b ws.toArray) (hsz : vs.length + ws.length ≤ 100000)
    (h : ∀ a h', s.heap.get? a = none → Ext s.heap h' → St zs L m ((a, listOf (vs ++ ws).toArray 0) :: own) h' → Q (.ref a) { s with heap := h' }) :
    wpAny (model prog w) A (binaryOp .Add (.ref l) (.ref b)) Q E s := by
  obtain ⟨⟨cls, dd, data, sl⟩, ho, hc, n, hd⟩ := id hl
  obtain ⟨⟨cls2, dd2, data2, sl2⟩, ho2, hc2, n2, hd2⟩ := id hb
  simp only at hc hd hc2 hd2
  subst hc hd hc2 hd2
  have e : vs.toArray ++ ws.toArray = (vs ++ ws).toArray := by simp
  refine concat_meets ⟨_, ho, rfl⟩ ⟨_, ho2, rfl⟩ noFill_list_add seq_list_add PySem.F.slot_list_add PySem.F.entry_list_add (PySem.F.args_list_add_2 _ _) (list_addW l b vs.toArray ws.toArray n n2 dd dd2 sl sl2 (by rw [sizeLine_eq]; simp; omega)) ⟨ho, ho2, ?_⟩
  rw [e]
  exact h _ _ (fresh_none (Nat.le_refl _)) (Ext.push _) (S.push _)
end
section
variable {prog : Program} {w : World} {A : Around} {E : Value → Shared → Prop} {s : Shared} {fr : List Env} {Q : Value → Shared → Prop} {ts : List Trip} {qs : List Pair} {x : Addr}
theorem cmp_hdr {h₀ : Heap} {L : Addr} {m : PySem.Str → Option Value} {l : Value} (am : Amb w A 8 80 fr s.heap) (Fa : Fr h₀ L s.heap m) (X₀ : (Mine.hd.heap_1 w.params).In h₀) (hH : HdrV w ts s.heap x) (hl : PList qs s.heap l) (hts : ts.length ≤ 1000) (hqs : qs.length ≤ 1000)
    (hQ : ∀ h' g' tk, Ext s.heap h' → GMore s.gens g' → Q (.bool (decide (pairsOf ts = qs))) { s with heap := h', gens := g', toks := tk }) :
    wpAny (model prog w) A (compareOp .Eq (.ref x) l) Q E s := by
  obtain ⟨ox, od, I⟩ := hdrInst hH
  have hl' := hl
  obtain ⟨la, lvs, ln, rfl, hlo, hlp⟩ := hl'
  refine cmp_ofEq ?_
  refine cmp_K (f := 148) (tb := .type "list") (Nat.lt_of_le_of_lt (Nat.le_add_right A.units 80) am.un) Fa X₀ I ((Looks.ld hlo).andThen .now) (by k_is) (by k_is) (by k_is) ?_
  exact eq_hdr_ok am hH hl hts hqs fun h' g' tk e g => hQ h' g' tk e g
end
end
-- part V5
theorem start_V5 : True := by
  w_top off
  trivial
section
open Builtin Builtin.ObjectAttr Builtin.Getset_descriptor
open Sem (wp)
section
variable {prog : Program} {w : World} {A : Around} {E : Value → Shared → Prop} {s : Shared} {fr : List Env} {Q : Value → Shared → Prop} {ts : List Trip} {ds : List Pair} {l : Value} {x : Addr}
theorem same_int_ok {k : Int} {t1 t2 : Tok} (am : Amb w A 9 110 fr s.heap) (hQ : ∀ h' tk', Ext s.heap h' → Q (.bool true) { s with heap := h', toks := tk' }) :
    wpAny (model prog w) A (call (.ref 270) [.int k t1, .int k t2]) Q E s := by
  refine wpAny_call ?_
  refine enterC (binds := [(PySem.Str.ofString "told", .int k t1), (PySem.Str.ofString "due", .int k t2)]) am (by k_is) (by k_is) (BindsTo.of_eq rfl) rfl (by decide) fun L h₁ tk₁ cells hL hC S => ?_
  obtain ⟨o1, rfl, hc1⟩ := CellsAre.one hC
  replace hc1 : o1.data = .cell (some (.int k t1)) := hc1
  replace S : St [s.heap] L (fun y => if y = PySem.Str.ofString "due" then some (.int k t2) else none) [(L+1, o1)] h₁ := S
  clear hC
  dsimp only
  repeat' walk1
  rw [show (k == k) = true from beq_self_eq_true k]
  exact hQ _ _ (S.froz (.head _))
theorem isinst_hdr (X : (Mine.hd.heap_1 w.params).In s.heap) (hH : HdrV w ts s.heap x) (h : ∀ tk, Q (.bool false) { s with toks := tk }) : wpAny (model prog w) A (call (.builtin "isinstance") [.ref x, .type "int"]) Q E s := by
  obtain ⟨dx, lf, vs, n, k1, h1, h2, _⟩ := hH
  exact kia_one (kitx_own (D := 177) (ox := instObj 177 dx) (od := hdrDict w k1 lf) (by k_is) (by k_is) (by k_is) (by k_is) (by k_is) (by k_is)) X ⟨h1, rfl, rfl, h2⟩ (by kit_is) (by kit_nb) h
theorem isinst_list {a : Addr} {vs : Array Value} {n : Nat} (X : (Mine.hd.heap_1 w.params).In s.heap) (hl : s.heap.get? a = some (listOf vs n)) (h : ∀ tk, Q (.bool false) { s with toks := tk }) : wpAny (model prog w) A (call (.builtin "isinstance") [.ref a, .type "int"]) Q E s :=
  kia_one (K := Mine.hd.heap_1 w.params) kitx_list X ⟨_, hl, rfl⟩ (by kit_is) (by kit_nb) h
theorem hdr_raw {pl : Sem Bool} {Q : Value × List Value → Shared → Prop} (X : (Mine.hd.heap_1 w.params).In s.heap) (hH : HdrV w ts s.heap x) (h : Q (.ref 174, [.ref x]) s) : wpAny (model prog w) A (getMethod (.ref x) "raw_items" pl) Q E s := by
  obtain ⟨dx, lf, vs, n, k1, h1, h2, _⟩ := hH
  have I : InstAt s.heap x (instObj 177 dx) 177 (some (hdrDict w k1 lf)) := ⟨h1, rfl, rfl, h2⟩
  exact method_fn X I (by k_is) (by k_is) (by k_is) (by k_is) rfl h
theorem tEndZ {zs : List Heap} {C : Addr} {m : PySem.Str → Option Value} {own : List (Addr × Obj)} {s : Shared} {h h' z₃ z : Heap} {tk : Nat} {G : Heap → Value → Prop} {y : Value} (S : St zs C m own h) (hz : z₃ ∈ zs) (k : ∀ b o, b ≠ C → s.heap.get? b = some o → z₃.get? b = some o)
    (e : Ext h h') (f : Fresh h z) (x : Ext z h') (g : G z y) : TEnd C s G y { s with heap := h', toks := tk } := by
  refine ⟨CMv.of (S.ext e) hz k, z, fun b o q => ?_, x, g⟩
  have hn := f b o q
  cases q8 : s.heap.get? b with
  | none => rfl
  | some o8 =>
    by_cases hb : b = C
    · subst hb
      obtain ⟨oC, _, _, hC, _⟩ := S.ns
      rw [hn] at hC; cases hC
    · have := S.froz hz b o8 (k b o8 hb q8)
      rw [hn] at this; cases this
theorem pair_drop {α β : Type} {R : α → β → Prop} : ∀ {as : List α} {xs : List β}, Paired R as xs → ∀ k, Paired R (as.drop k) (xs.drop k)
  | _, _, h, 0 => h
  | _, _, .nil, _ + 1 => .nil
  | _, _, .cons _ r, k + 1 => pair_drop r k
noncomputable abbrev lowPs (ds : List Pair) : List Pair := ds.map fun p => (lowB p.1, p.2)
theorem same_ok (am : Amb w A 10 130 fr s.heap) (hH : HdrV w ts s.heap x) (hl : PList ds s.heap l) (hts : ts.length ≤ 50) (hraw : (ts.map fun t => (t.1, t.2.2)) = ds) (hlow : pairsOf ts = lowPs ds) (hna : ∀ p ∈ ds, lowB p.1 ≠ #[97]) (hsz : ∀ p ∈ ds, p.1.size ≤ 1000 ∧ p.2.size ≤ 1000)
    (hQ : ∀ h' g' tk', Ext s.heap h' → GMore s.gens g' → Q (.bool true) { s with heap := h', gens := g', toks := tk' }) :
    wpAny (model prog w) A (call (.ref 270) [.ref x, l]) Q E s := by
  obtain ⟨la, lvs, ln, rfl, hlo, hlp⟩ := hl
  have hdl : ds.length ≤ 50 := by rw [← hraw, List.length_map]; exact hts
  have hvl : lvs.size = ds.length := by
    rw [← Array.length_toList]; exact hlp.length.symm
  refine wpAny_call ?_
  refine enterC (binds := [(PySem.Str.ofString "told", .ref x), (PySem.Str.ofString "due", .ref la)]) am (by k_is) (by k_is) (BindsTo.of_eq rfl) rfl (by decide) fun L h₁ tk₁ cells hL hC S => ?_
  obtain ⟨o1, rfl, hc1⟩ := CellsAre.one hC
  replace hc1 : o1.data = .cell (some (.ref x)) := hc1
  replace S : St [s.heap] L (fun y => if y = PySem.Str.ofString "due" then some (.ref la) else none) [(L+1, o1)] h₁ := S
  clear hC
  dsimp only
  refine genQ fun Q7 E7 hq7 he7 => ?_
  repeat' walk1
  refine isinst_hdr (ts := ts) (kAt am S (.head _)) (hH.ext (S.froz (.head _))) fun tk => ?_
  dsimp only
  repeat' walk1
  refine isinst_list (kAt am S (.head _)) (S.froz (.head _) _ _ hlo) fun tk => ?_
  dsimp only
  repeat' walk1
  refine src_list (by exact am.hd) ⟨_, S.froz (.head _) _ _ hlo, rfl, ln, rfl⟩ (by rw [sizeLine_eq]; omega) fun I₁ s₂ src => ?_
  refine ⟨_, S.ns, ask_items ds (fun p v => PairV p s.heap v) hlp src (fun _ => true) (fun z p y => PairV (lowB p.1, p.2) z y) (fun _ _ _ _ e h => h.ext e) ?_ ?_⟩
  · rintro C p v s₃ m₃ E' z₃ hp hpv e1 e2 S₃
    have am₃ := am.ext ((S.froz (.head _)).trans e1)
    obtain ⟨hz1, hz2⟩ := hsz p hp
    have hpv' := hpv.ext (((S.froz (.head _)).trans e1).trans (S₃.froz (.head _)))
    obtain ⟨ta, v1, v2, rfl, htu, ⟨t1, rfl⟩, ⟨t2, rfl⟩⟩ := hpv'
    unfold TurnA
    refine unpackSt (by exact am.hd) S₃ htu rfl rfl fun h₂ e3 S₂ => ?_
    dsimp only
    repeat' walk1
    exact tEndO ‹St [z₃] C _ [_] _› (.head _) e2 fun z hz => ⟨_, _, _, rfl, ⟨_, hz, rfl, 0, rfl⟩, ⟨_, rfl⟩, ⟨_, rfl⟩⟩
  intro D h' tk' ys nn z f1 f2 f3 f4 f5 h'' tk'' hn9 hk9
  rw [List.filter_eq_self.mpr (fun _ _ => rfl)] at f5
  have S₁ := (S.add f1 f3 f2).setE hn9 hk9
  have f6 : Paired (fun p v => PairV p z v) (lowPs ds) ys.toList := pair_map (f := fun p : Pair => (lowB p.1, p.2)) f5
  clear f5 src
  clear S
  dsimp only
  repeat' walk1
  rename_i S₁
  refine hdr_raw (ts := ts) (kAt am S₁ (.tail _ (.head _))) (hH.ext (S₁.froz (.tail _ (.head _)))) ?_
  refine callWith_K0 (first := [.ref x]) (kAt am S₁ (.tail _ (.head _))) (by k_is) ?_
  refine raw_items_ok (ts := ts) (by exact am.sub S₁ (.tail _ (.head _))) (hH.ext (S₁.froz (.tail _ (.head _)))) (by omega) fun h₃ k₃ v₃ z₃ g1 g2 g3 g4 => ?_
  have S₂ := S₁.add g1 g2 g3
  clear S₁
  obtain ⟨ra, rvs, rn, rfl, hro, hrp⟩ := g4
  dsimp only
  repeat' walk1
  obtain ⟨lvs⟩ := lvs
  obtain ⟨rvs⟩ := rvs
  obtain ⟨ys⟩ := ys
  have pdue : Paired (fun p v => PairV p s.heap v) ds lvs := hlp
  refine list_nes (s := ⟨_, _, _, _, _⟩) (by exact am.cl) (listAt hro (S₂.froz (.head _))) (listAt hlo (S₂.froz (.tail _ (.tail _ (.head _))))) (hrp.mono fun _ _ t => t.ext (S₂.froz (.head _))) (pdue.mono fun _ _ t => t.ext (S₂.froz (.tail _ (.tail _ (.head _))))) (fun a v a' v' r r' => eqAt_pair (by have := am.un; show A.units + 3 + 1 < cLine; omega) r r') ?_
  rw [hraw, decide_eq_true (rfl : ds = ds), Bool.not_true]
  walk1
  walk1
  walk1
  walk1
  obtain ⟨_, _, _, _, _, T⟩ := am.t
  refine' lcg_eval ?c1 ?c2 ?c3 ?c4 ?_ ?c5
  case c1 => walk_at "m_clos"
  case c2 => exact noCell (by rfl)
  case c3 => exact rfl
  case c4 => exact lookAll (by rfl)
  case c5 => intro _; exact rfl
  repeat' walk1
  refine iter_hdr (ts := ts) (z := s.heap) (by exact am.sub S₂ (.tail _ (.tail _ (.head _)))) (S₂.fr (.tail _ (.tail _ (.head _))) hL) am.k (S₂.froz (.tail _ (.tail _ (.head _)))) am.k hH T.nolimit fun a h₄ k₄ gs W e1 n1 w1 w2 w3 hg rd => ?_
  refine ⟨a, s.heap, W, gs, ts, _, fun z t y => PairV (t.2.1, t.2.2) z y, rfl, rfl, e1, rd _ am.hd (Nat.lt_of_le_of_lt (show A.depth + 1 ≤ A.depth + 10 by omega) am.dep), S₂.froz (.tail _ (.tail _ (.head _))), hg, w3, w1, w2, Array.getElem?_push_size .., by omega, fun _ _ _ _ e h => h.ext e, ?_, ?_⟩
  · rintro C t va v1 v2 s₃ m₃ E' z₃ ht hv ⟨u1, rfl⟩ ⟨u2, rfl⟩ e1 e2 S₃
    have am₃ := am.ext ((S₂.froz (.tail _ (.tail _ (.head _)))).trans e1)
    unfold TurnA
    refine unpackSt (by exact am.hd) S₃ ⟨_, S₃.froz (.head _) _ _ hv, rfl, 0, rfl⟩ rfl rfl fun h₂ e3 S₂ => ?_
    dsimp only
    repeat' walk1
    exact tEndO ‹St [z₃] C _ [_] _› (.head _) e2 fun z hz => ⟨_, _, _, rfl, ⟨_, hz, rfl, 0, rfl⟩, ⟨_, rfl⟩, ⟨_, rfl⟩⟩
  intro D2 h₅ g₅ k₅ ys2 nn2 z2 f1' f2' f3' f4' f5' g6 g7
  have hgm : GMore s.gens g₅ := GMore.of g6 g7
  have S₃ := S₂.add f1' f3' f2'
  clear S₂ rd w1 w2 w3 hg
  obtain ⟨ys2⟩ := ys2
  have f6' : Paired (fun p v => PairV p z2 v) (pairsOf ts) ys2 := pair_map (f := fun t : Trip => (t.2.1, t.2.2)) f5'
  dsimp only
  repeat' walk1
  have pdu3 : Paired (fun p v => PairV p h₅ v) ds lvs := pdue.mono fun _ _ t => t.ext (S₃.froz (.tail _ (.tail _ (.tail _ (.head _)))))
  have plo3 : Paired (fun p v => PairV p h₅ v) (lowPs ds) ys := f6.mono fun _ _ t => t.ext (S₃.froz (.tail _ (.tail _ (.head _))))
  refine list_nes (s := ⟨h₅, _, _, _, _⟩) (by exact am.cl) (listAt f4' (S₃.froz (.head _))) (listAt f4 (S₃.froz (.tail _ (.tail _ (.head _))))) (f6'.mono fun _ _ t => t.ext (S₃.froz (.head _))) plo3 (fun a v a' v' r r' => eqAt_pair (by have := am.un; show A.units + 3 + 1 < cLine; omega) r r') ?_
  rw [hlow, decide_eq_true (rfl : lowPs ds = lowPs ds), Bool.not_true]
  repeat' walk1
  have hvl' : lvs.length = ds.length := hvl
  have htl : ts.length = ds.length := by rw [← hraw, List.length_map]
  refine len_hdr (ts := ts) (by exact am.sub S₃ (.tail _ (.tail _ (.tail _ (.head _))))) (S₃.fr (.tail _ (.tail _ (.tail _ (.head _)))) hL) am.k (hH.ext (S₃.froz (.tail _ (.tail _ (.tail _ (.head _)))))) (by omega) fun h₆ k₆ t₆ e₆ => ?_
  replace S₃ := S₃.ext e₆
  dsimp only
  repeat' walk1
  refine len_list ⟨_, S₃.froz (.tail _ (.tail _ (.tail _ (.head _)))) _ _ hlo, rfl, ln, rfl⟩ (by show ((lvs.length : Nat) : Int) < _; rw [hvl']; omega) ?_
  rw [show ((⟨lvs⟩ : Array Value).size) = ts.length from by show lvs.length = _; omega]
  dsimp only
  walk1
  walk1
  walk1
  · repeat' walk1
    exact absurd rfl (by assumption)
  · walk1
    walk1
    walk1
    walk1
    refine cut_stmtQ (fun s' => ∃ h7 k7, s' = { s with heap := h7, gens := g₅, toks := k7 } ∧ St [z2, z₃, z, s.heap] L (fun y => if y = PySem.Str.ofString "pairs" then some (.ref D) else if y = PySem.Str.ofString "due" then some (.ref la) else none) [(L + 1, o1)] h7) (fun Q9 E9 hq9 he9 => ?_) ?_
    · repeat' walk1
      refine len_list ⟨_, S₃.froz (.tail _ (.tail _ (.tail _ (.head _)))) _ _ hlo, rfl, ln, rfl⟩ (by show ((lvs.length : Nat) : Int) < _; rw [hvl']; omega) ?_
      rw [show ((⟨lvs⟩ : Array Value).size) = ts.length from by show lvs.length = _; omega]
      dsimp only
      repeat' walk1
      refine call_range_1 ?_
      have S₄ := S₃.push { cls := .type "range", data := .fields #[.int 0 (k₆ + 1 + 1 + 1 + 1), .int (ts.length : Int) (k₆ + 1 + 1 + 1), .int 1 (k₆ + 1 + 1 + 1 + 1 + 1)] }
      refine src_range (by exact am.hd) (S₄.mine _ (.head _)) (by omega) fun I₂ s₃ src => ?_
      refine ask_of (List.range ts.length) (fun k v => ∃ t, v = .int (k : Int) t) (fun _ => true) (fun z k y => ∃ p, (pairsOf ts)[k]? = some p ∧ PairV p z y) src (by simp) (fun i v a ha hv => ?_) (fun z z' a y e ⟨p, q1, q2⟩ => ⟨p, q1, q2.ext e⟩) ?_ ?_
      · rw [List.getElem?_range (by have := (List.getElem?_eq_some_iff.mp ha).1; simpa using this)] at ha
        cases ha; exact hv
      · rintro C k v s₃ m₃ E' z₃ hk ⟨tk, rfl⟩ e1 e2 S₅ -
        have hk' : k < ts.length := List.mem_range.mp hk
        have hcl₃ : z₃.get? (L + 1) = some o1 := e1 _ _ (S₄.mine _ (.tail _ (.head _)))
        have am₃ := am.ext ((S₄.froz (.tail _ (.tail _ (.tail _ (.head _))))).trans e1)
        unfold TurnA
        repeat' walk1
        have S₆ := ‹St [z₃] C _ _ _›
        have es := ((S₄.froz (.tail _ (.tail _ (.tail _ (.head _))))).trans e1).trans (S₆.froz (.head _))
        obtain ⟨ox, od, I⟩ := hdrInst (hH.ext es)
        have ht : ts[k]? = some ts[k] := List.getElem?_eq_getElem hk'
        refine sub_K (f := 169) (h₀ := s.heap) (L := L) ⟨S₄.ns.keeps (e1.trans (S₆.froz (.head _))), es, hL⟩ am.k I (by k_is) (by k_is) (by k_is) ?_
        refine getitem_ok (ts := ts) (((am.sub S₄ (.tail _ (.tail _ (.tail _ (.head _))))).ext e1).ext (S₆.froz (.head _))).in1 (hH.ext es) ht (by omega) fun h₈ k₈ v₈ z₈ q1 q2 q3 q4 => ?_
        exact tEndZ (s := s₃) S₆ (.head _) e2 q1 q3 q2 ⟨_, by simp [hk'], q4⟩
      · intro D3 h₇ g₇ k₇ ys3 nn3 z3 r1 r2 r3 r4 r5 r6
        subst r6
        obtain ⟨ys3⟩ := ys3
        have r7 : Paired (fun p v => PairV p z3 v) (pairsOf ts) ys3 := by
          have := pairItems (items := pairsOf ts) (q := fun _ => true) (G := fun p v => PairV p z3 v) r5 (by simp) (fun _ _ _ => rfl) (fun i a y e ⟨p, q1, q2⟩ => by rw [e] at q1; cases q1; exact q2)
          rw [List.filter_eq_self.mpr (fun _ _ => rfl)] at this; exact this
        have S₅ := S₄.add r1 r3 r2
        clear S₄ S₃ src r5
        dsimp only
        repeat' walk1
        have plo5 : Paired (fun p v => PairV p h₇ v) (lowPs ds) ys := f6.mono fun _ _ t => t.ext (S₅.froz (.tail _ (.tail _ (.tail _ (.head _)))))
        refine list_nes (s := ⟨h₇, _, _, _, _⟩) (by exact am.cl) (listAt r4 (S₅.froz (.head _))) (listAt f4 (S₅.froz (.tail _ (.tail _ (.tail _ (.head _)))))) (r7.mono fun _ _ t => t.ext (S₅.froz (.head _))) plo5 (fun a v a' v' r r' => eqAt_pair (by have := am.un; show A.units + 3 + 1 < cLine; omega) r r') ?_
        rw [hlow, decide_eq_true (rfl : lowPs ds = lowPs ds), Bool.not_true]
        repeat' walk1
        have hsm : s.heap ∈ [z3, z2, z₃, z, s.heap] := by simp
        have es5 := S₅.froz hsm
        obtain ⟨ox, od, I⟩ := hdrInst (hH.ext es5)
        refine truthy_K (f := 141) (S₅.fr hsm hL) am.k I (by k_is) (by k_is) (bool_hdr_ok (ts := ts) (by exact am.sub S₅ hsm) (hH.ext es5) (by omega) fun h₈ k₈ q1 => ?_)
        replace S₅ := S₅.ext q1
        have hends : ∀ {h8 : Heap} {k8 : Nat}, St [z3, z2, z₃, z, s.heap] L (fun y => if y = PySem.Str.ofString "pairs" then some (.ref D) else if y = PySem.Str.ofString "due" then some (.ref la) else none) [(L + 1, o1)] h8 →
            (∃ h7 k7, ({ s with heap := h8, gens := g₇, toks := k8 } : Shared) = { s with heap := h7, gens := g₇, toks := k7 } ∧ St [z2, z₃, z, s.heap] L (fun y => if y = PySem.Str.ofString "pairs" then some (.ref D) else if y = PySem.Str.ofString "due" then some (.ref la) else none) [(L + 1, o1)] h7) :=
          fun S8 => ⟨_, _, rfl, S8.part (List.Sublist.refl _) (by simp)⟩
        have hvd : lvs.length = 0 ↔ ts.isEmpty = true := by rw [hvl', ← htl, List.isEmpty_iff, List.length_eq_zero_iff]
        dsimp only [PyProof.Rows.BoolBack, PySem.W.BoolBack]
        repeat' walk1
        · rename_i hem _ _ _ _ S₆
          refine ne_empty (by exact am.cl) (listAt hlo (S₆.froz (.tail _ (.tail _ (.tail _ (.tail _ (.head _))))))) (listAt (S₆.mine _ (.head _)) (fun _ _ h => h)) ?_
          have hz0 : lvs.length = 0 := hvd.mpr (by simpa using hem)
          rw [show (⟨lvs⟩ : Array Value).size = 0 from hz0, decide_eq_true (rfl : 0 = 0), Bool.not_true]
          replace S₆ := S₆.part (zs' := [z3, z2, z₃, z, s.heap]) (own' := [(L + 1, o1)]) (by simp) (fun _ h => h)
          repeat' walk1
          exact hq9 _ (hends S₆)
        · rename_i hem _ _ _ _ S₆
          refine ne_empty (by exact am.cl) (listAt hlo (S₆.froz (.tail _ (.tail _ (.tail _ (.tail _ (.head _))))))) (listAt (S₆.mine _ (.head _)) (fun _ _ h => h)) ?_
          have hz0 : ¬ lvs.length = 0 := fun q => by have := hvd.mp q; rw [this] at hem; cases hem
          rw [show (⟨lvs⟩ : Array Value).size = lvs.length from rfl, decide_eq_false hz0, Bool.not_false]
          replace S₆ := S₆.part (zs' := [z3, z2, z₃, z, s.heap]) (own' := [(L + 1, o1)]) (by simp) (fun _ h => h)
          repeat' walk1
          exact hq9 _ (hends S₆)
    · rintro s' ⟨h7, k7, rfl, S₆⟩
      dsimp only
      have hyl : ys.length = ds.length := by have := f6.length; simpa using this.symm
      walk1
      refine cut_stmtQ (fun s' => ∃ h8 g8 k8, GMore s.gens g8 ∧ s' = { s with heap := h8, gens := g8, toks := k8 } ∧ St [z, s.heap] L (fun y => if y = PySem.Str.ofString "pairs" then some (.ref D) else if y = PySem.Str.ofString "due" then some (.ref la) else none) [(L + 1, o1)] h8) (fun Q9 E9 hq9 he9 => ?_) ?_
      · repeat' walk1
        rename_i S₇
        refine ne_empty (by exact am.cl) (listAt f4 (S₇.froz (.tail _ (.tail _ (.head _))))) (listAt (S₇.mine _ (.head _)) (fun _ _ h => h)) ?_
        replace S₇ := S₇.part (zs' := [z, s.heap]) (own' := [(L + 1, o1)]) (by simp) (by simp)
        repeat' walk1
        · exact hq9 _ ⟨_, g₅, _, hgm, rfl, S₇⟩
        · refine lSlice (s := ⟨_, _, _, _, _⟩) S₇ (listAt f4 (S₇.froz (.head _))) (.int 1 _) .none (by show ys.length ≤ 100000; omega) fun a1 h9 n9 e9 S₈ => ?_
          rw [show ((1 : Int)) = ((1 : Nat) : Int) from rfl, slicePick_from'] at S₈
          clear S₇
          dsimp only at S₈ ⊢
          repeat' walk1
          rename_i t9 _ _ _ l9 _ _ _ S₉
          have pys : Paired (fun p v => PairV p z v) ((lowPs ds).drop 1) (ys.drop 1) := pair_drop f6 1
          refine lAdd S₉ (listAt (S₉.mine _ (.tail _ (.tail _ (.head _)))) (fun _ _ h => h)) (listAt (S₉.mine _ (.head _)) (fun _ _ h => h)) (by show (ys.drop 1).length + 1 ≤ 100000; rw [List.length_drop]; omega) fun a3 h10 n10 e10 S10 => ?_
          have pl : PList ((lowPs ds).drop 1 ++ [(#[97], #[98])]) h10 (.ref a3) := ⟨a3, _, 0, rfl, S10.mine _ (.head _), by
            simp only []
            exact (pys.mono fun _ _ t => t.ext (S10.froz (.head _))).snoc ⟨t9, _, _, rfl, ⟨_, S10.mine _ (.tail _ (.tail _ (.head _))), rfl, 0, rfl⟩, ⟨_, rfl⟩, ⟨_, rfl⟩⟩⟩
          refine cmp_hdr (by exact am.sub S10 (.tail _ (.head _))) (S10.fr (.tail _ (.head _)) hL) am.k (hH.ext (S10.froz (.tail _ (.head _)))) pl (by omega) (by rw [List.length_append, List.length_drop, List.length_map]; simp; omega) fun h11 g11 k11 e11 gm => ?_
          have hne : ¬ pairsOf ts = (lowPs ds).drop 1 ++ [(#[97], #[98])] := fun q => by
            have hm : ((#[97] : Oct), (#[98] : Oct)) ∈ lowPs ds := by rw [← hlow, q]; simp
            obtain ⟨p, hp, e⟩ := List.mem_map.mp hm
            exact hna p hp (congrArg Prod.fst e)
          rw [decide_eq_false hne]
          have S11 := (S10.ext e11).part (zs' := [z, s.heap]) (own' := [(L + 1, o1)]) (by simp) (fun _ h => h)
          dsimp only
          repeat' walk1
          exact hq9 _ ⟨_, g11, _, hgm.trans gm, rfl, S11⟩
      · rintro s' ⟨h8, g8, k8, hg8, rfl, S₇⟩
        dsimp only
        repeat' walk1
        have plz : PList (lowPs ds) z (.ref D) := ⟨D, _, nn, rfl, f4, f6⟩
        refine cmp_hdr (by exact am.sub S₇ (.tail _ (.head _))) (S₇.fr (.tail _ (.head _)) hL) am.k (hH.ext (S₇.froz (.tail _ (.head _)))) (plz.ext (S₇.froz (.head _))) (by omega) (by rw [List.length_map]; omega) fun h11 g11 k11 e11 gm => ?_
        rw [hlow, decide_eq_true (rfl : lowPs ds = lowPs ds)]
        replace S₇ := S₇.ext e11
        dsimp only
        repeat' walk1
        rename_i t9 _ _ _ l9 _ _ _ S₉
        refine lAdd S₉ (listAt f4 (S₉.froz (.head _))) (listAt (S₉.mine _ (.head _)) (fun _ _ h => h)) (by show ys.length + 1 ≤ 100000; omega) fun a3 h10 n10 e10 S10 => ?_
        have pl : PList (lowPs ds ++ [(#[97], #[98])]) h10 (.ref a3) := ⟨a3, _, 0, rfl, S10.mine _ (.head _), by
          simp only []
          exact (f6.mono fun _ _ t => t.ext (S10.froz (.head _))).snoc ⟨t9, _, _, rfl, ⟨_, S10.mine _ (.tail _ (.tail _ (.head _))), rfl, 0, rfl⟩, ⟨_, rfl⟩, ⟨_, rfl⟩⟩⟩
        refine cmp_hdr (by exact am.sub S10 (.tail _ (.head _))) (S10.fr (.tail _ (.head _)) hL) am.k (hH.ext (S10.froz (.tail _ (.head _)))) pl (by omega) (by rw [List.length_append, List.length_map]; simp; omega) fun h12 g12 k12 e12 gm2 => ?_
        have hne : ¬ pairsOf ts = lowPs ds ++ [(#[97], #[98])] := fun q => by
          have := congrArg List.length q
          rw [List.length_append, List.length_map, List.length_map] at this
          simp at this; omega
        rw [decide_eq_false hne]
        have S12 := S10.ext e12
        dsimp only
        repeat' walk1
        exact hq7 _ _ (hQ _ _ _ (S12.froz (.tail _ (.head _))) ((hg8.trans gm).trans gm2))
end
end
-- part P0
theorem start_P0 : True := by
  w_top off
  trivial
section
open Builtin Builtin.ObjectAttr Builtin.Getset_descriptor
open Sem (wp)
theorem all8 {p : UInt8 → Bool} (h : (List.range 256).all (fun n => p (UInt8.ofNat n)) = true) (c : UInt8) : p c = true := by
  have := List.all_eq_true.mp h c.toNat (List.mem_range.mpr c.toNat_lt)
  simpa using this
theorem okc_tch (c : UInt8) : okc c = TCH.contains c := by
  have := all8 (p := fun c => okc c == TCH.contains c) (by decide +kernel) c
  exact eq_of_beq this
theorem ow_ws (c : UInt8) : OW.contains c = wsB c := by
  have := all8 (p := fun c => OW.contains c == wsB c) (by decide +kernel) c
  exact eq_of_beq this
theorem sp_ws (c : UInt8) (h : c ∉ NT) : Bytes.isSpace c = wsB c := by
  have := all8 (p := fun c => NT.contains c || (Bytes.isSpace c == wsB c)) (by decide +kernel) c
  rcases Bool.or_eq_true_iff.mp this with q | q
  · exact absurd (List.contains_iff_mem.mp q) h
  · exact eq_of_beq q
theorem low_ws (c : UInt8) : wsB (Bytes.toLower c) = wsB c := by
  have := all8 (p := fun c => wsB (Bytes.toLower c) == wsB c) (by decide +kernel) c
  exact eq_of_beq this
theorem low_nt (c : UInt8) (h : Bytes.toLower c ∈ NT) : c ∈ NT := by
  have := all8 (p := fun c => !(NT.contains (Bytes.toLower c)) || NT.contains c) (by decide +kernel) c
  rcases Bool.or_eq_true_iff.mp this with q | q
  · rw [List.contains_iff_mem.mpr h] at q; cases q
  · exact List.contains_iff_mem.mp q
theorem dig_ok (c : UInt8) : DIG.contains c = !decide ((c.toNat : Int) < 48 ∨ (c.toNat : Int) > 57) := by
  have := all8 (p := fun c => DIG.contains c == !decide ((c.toNat : Int) < 48 ∨ (c.toNat : Int) > 57)) (by decide +kernel) c
  exact eq_of_beq this
theorem dig_nt (c : UInt8) (h : DIG.contains c = true) : c ∉ NT := by
  have := all8 (p := fun c => !(DIG.contains c) || !(NT.contains c)) (by decide +kernel) c
  intro hm
  rw [h, List.contains_iff_mem.mpr hm] at this; cases this
theorem tok_eq (n : Oct) : tokB n = (!(n.toList.isEmpty) && n.toList.all okc) := by
  unfold tokB
  rw [show okc = (fun c => TCH.contains c) from funext okc_tch]
  congr 1
  obtain ⟨l⟩ := n
  cases l <;> simp

/-- no octet that is not let -/
noncomputable def clean (x : Oct) : Prop := ∀ c ∈ NT, x.contains c = false
theorem clean_all (x : Oct) : (NT.all fun c => !x.contains c) = true ↔ clean x := by
  rw [List.all_eq_true]
  exact ⟨fun h c hc => by simpa using h c hc, fun h c hc => by rw [h c hc]; rfl⟩
theorem clean_mem {x : Oct} (h : clean x) {c : UInt8} (hc : c ∈ x.toList) : c ∉ NT := fun hn => by
  have := h c hn
  rw [Array.contains_iff_mem.mpr (Array.mem_toList_iff.mp hc)] at this
  cases this
theorem dropW_id {p : UInt8 → Bool} : ∀ {l : List UInt8}, l.dropWhile p = l ↔ ∀ a, l.head? = some a → p a = false
  | [] => by simp
  | a :: l => by
    simp only [List.dropWhile_cons, List.head?_cons, Option.some.injEq]
    constructor
    · intro h b hb
      subst hb
      cases q : p a with
      | false => rfl
      | true =>
        rw [if_pos q] at h
        have h1 : (l.dropWhile p).length ≤ l.length := (List.dropWhile_suffix p).length_le
        rw [h] at h1; simp at h1; omega
    · intro h; rw [if_neg (by rw [h a rfl]; simp)]
theorem trim_id {l : List UInt8} {p : UInt8 → Bool} : ((l.dropWhile p).reverse.dropWhile p).reverse = l ↔ (∀ a, l.head? = some a → p a = false) ∧ ∀ a, l.getLast? = some a → p a = false := by
  rw [← List.head?_reverse, ← dropW_id, ← dropW_id]
  constructor
  · intro h
    have h1 : (l.dropWhile p).length ≤ l.length := (List.dropWhile_suffix p).length_le
    have h2 : ((l.dropWhile p).reverse.dropWhile p).length ≤ (l.dropWhile p).reverse.length := (List.dropWhile_suffix p).length_le
    have h3 := congrArg List.length h
    rw [List.length_reverse] at h2 h3
    have e1 : l.dropWhile p = l := (List.dropWhile_suffix p).eq_of_length (by omega)
    refine ⟨e1, ?_⟩
    rw [e1] at h
    have := congrArg List.reverse h
    rw [List.reverse_reverse] at this; exact this
  · rintro ⟨h1, h2⟩
    rw [h1, h2, List.reverse_reverse]
theorem fv_eq (x : Oct) : fvB x = (decide (trimB x = x) && NT.all fun c => !x.contains c) := by
  have hN : (NT.all fun c => !x.contains c) = !(NT.any fun c => x.contains c) := by simp [NT]
  unfold fvB fcB
  rw [hN, ow_ws, ow_ws]
  have ht : trimB x = x ↔ ((x.toList.dropWhile wsB).reverse.dropWhile wsB).reverse = x.toList := by
    unfold trimB
    constructor
    · intro h; exact congrArg Array.toList h
    · intro h; rw [h]
  obtain ⟨l⟩ := x
  rcases List.eq_nil_or_concat l with rfl | ⟨l', z, hlz⟩
  · simp [NT, trimB]
  · rw [List.concat_eq_append] at hlz
    subst hlz
    have hsz : ¬ (Array.mk (l' ++ [z])).size = 0 := by simp
    have hlast : (Array.mk (l' ++ [z])).getD ((Array.mk (l' ++ [z])).size - 1) 0 = z := by simp [Array.getD]
    rw [decide_eq_false hsz, hlast, Bool.false_or]
    have hpos : decide (0 < (Array.mk (l' ++ [z])).size) = true := by simp
    rw [hpos, Bool.true_and]
    have ht2 : decide (trimB ⟨l' ++ [z]⟩ = ⟨l' ++ [z]⟩) = (!(wsB ((Array.mk (l' ++ [z])).getD 0 0)) && !(wsB z)) := by
      rw [Bool.eq_iff_iff, decide_eq_true_eq, ht, trim_id, Bool.and_eq_true]
      simp only [List.getLast?_concat, Option.some.injEq, forall_eq', Bool.not_eq_true']
      refine and_congr ?_ Iff.rfl
      cases l' with
      | nil => simp [Array.getD]
      | cons a l' => simp [Array.getD]
    rw [ht2]
    cases (NT.any fun c => (Array.mk (l' ++ [z])).contains c) <;> cases wsB ((Array.mk (l' ++ [z])).getD 0 0) <;> cases wsB z <;> rfl
theorem good_eq (n x : Oct) : goodB n x = (tokB n && fvB x) := by
  rw [tok_eq, fv_eq]
  unfold goodB
  simp only [Bool.and_assoc]
theorem dropW_congr {p q : UInt8 → Bool} : ∀ {l : List UInt8}, (∀ c ∈ l, p c = q c) → l.dropWhile p = l.dropWhile q
  | [], _ => rfl
  | a :: l, h => by
    rw [List.dropWhile_cons, List.dropWhile_cons, h a (.head _), dropW_congr fun c hc => h c (.tail _ hc)]
theorem strip_trim {q : Oct} (h : ∀ c ∈ q.toList, c ∉ NT) : stripB q = trimB q := by
  unfold stripB trimB
  rw [dropW_congr (p := Bytes.isSpace) (q := wsB) (l := q.toList) fun c hc => sp_ws c (h c hc)]
  rw [dropW_congr (p := Bytes.isSpace) (q := wsB) fun c hc => sp_ws c (h c ((List.dropWhile_suffix wsB).subset (List.mem_reverse.mp hc)))]
theorem part_clean {x q : Oct} (h : clean x) (hq : q ∈ splitB x) : ∀ c ∈ q.toList, c ∉ NT := fun _ hc => clean_mem h (splitB_mem hq hc)
theorem strips {x : Oct} (h : clean x) : (splitB x).map stripB = (splitB x).map trimB := List.map_congr_left fun _ hq => strip_trim (part_clean h hq)
end
-- part P1
theorem start_P1 : True := by
  w_top off
  trivial
section
open Builtin Builtin.ObjectAttr Builtin.Getset_descriptor
open Sem (wp)
theorem parts_one {parts : List Oct} (hne : parts ≠ []) : (cntR parts.reverse = 1) ↔ parts.any (fun p => decide (p ≠ parts.headD #[])) = false := by
  constructor
  · intro h
    obtain ⟨k, hk, hall⟩ := cntR_one h
    have hall' : ∀ y ∈ parts, y = k := fun y hy => hall y (by simpa using hy)
    have hh : parts.headD #[] = k := by
      cases parts with
      | nil => exact absurd rfl hne
      | cons a l => exact hall' a (.head _)
    rw [List.any_eq_false]
    intro p hp
    rw [hall' p hp, hh]; simp
  · intro h
    rw [List.any_eq_false] at h
    refine cntR_same (k := parts.headD #[]) (by simpa using hne) fun x hx => ?_
    have := h x (by simpa using hx)
    simpa using this
theorem dig_eq (p : Oct) : digB p = (!(decide (p = #[])) && !(p.toList.any fun c => decide ((c.toNat : Int) < 48 ∨ (c.toNat : Int) > 57))) := by
  unfold digB
  have h1 : decide (0 < p.size) = !(decide (p = #[])) := by
    obtain ⟨l⟩ := p
    cases l <;> simp
  rw [h1, show (fun c => DIG.contains c) = fun c => !decide ((c.toNat : Int) < 48 ∨ (c.toNat : Int) > 57) from funext dig_ok]
  congr 1
  rw [List.not_any_eq_all_not]

/-- what both readings tell -/
structure Rel (n : Nav) (d : Due) : Prop where
  raw : n.told.map (fun t => (t.1, t.2.2)) = d.told
  low : pairsOf n.told = lowPs d.told
  coded : n.coded = d.coded
  seen : (n.seen = none ∧ d.length = #[]) ∨ (n.seen = some d.length ∧ d.length ≠ #[])
  okv : ∀ p ∈ d.told, clean p.2
theorem Rel.add {n : Nav} {d : Due} (R : Rel n d) {a v : Oct} (hv : clean v) {n' : Nav} {d' : Due} (h1 : n'.told = n.told ++ [(a, lowB a, v)]) (h2 : d'.told = d.told ++ [(a, v)]) (h3 : n'.coded = d'.coded) (h4 : (n'.seen = none ∧ d'.length = #[]) ∨ (n'.seen = some d'.length ∧ d'.length ≠ #[])) : Rel n' d' where
  raw := by rw [h1, h2, List.map_append, R.raw]; rfl
  low := by
    have := R.low
    unfold pairsOf lowPs at this ⊢
    rw [h1, h2, List.map_append, List.map_append, this]; rfl
  coded := h3
  seen := h4
  okv := fun p hp => by
    rw [h2] at hp
    rcases List.mem_append.mp hp with hp | hp
    · exact R.okv p hp
    · rw [List.mem_singleton.mp hp]; exact hv
theorem chk_clean : clean CHK := by
  intro c hc
  have : (NT.all fun c => !CHK.contains c) = true := by decide +kernel
  exact (clean_all CHK).mp this c hc
theorem fv_clean {x : Oct} (h : fvB x = true) : clean x := by
  rw [fv_eq, Bool.and_eq_true] at h
  exact (clean_all x).mp h.2
theorem dig_clean {p : Oct} (h : digB p = true) : clean p := by
  unfold digB at h
  rw [Bool.and_eq_true, List.all_eq_true] at h
  intro c hc
  rw [← Bool.not_eq_true, Array.contains_iff_mem]
  intro hm
  exact dig_nt c (h.2 c (Array.mem_toList_iff.mpr hm)) hc

/-- both readings of one field -/
noncomputable def Same (a : Except Int Nav) (b : Except Int Due) : Prop := match a, b with
  | .error x, .error y => x = y
  | .ok n, .ok d => Rel n d
  | _, _ => False
theorem step_same {n : Nav} {d : Due} (R : Rel n d) (p : Pair) : Same (navStep n p) (dueStep d p) := by
  obtain ⟨a, x⟩ := p
  unfold dueStep
  dsimp only
  cases ht : tokB a with
  | false =>
    rw [nv_tok ht, if_pos (by rw [good_eq, ht]; rfl)]
    exact rfl
  | true =>
    cases hf : fvB x with
    | false =>
      rw [nv_val ht hf, if_pos (by rw [good_eq, ht, hf]; rfl)]
      exact rfl
    | true =>
      rw [if_neg (by rw [good_eq, ht, hf]; decide)]
      have hcl := fv_clean hf
      by_cases h1 : lowB a = CL
      · rw [if_pos h1]
        have hs := strips hcl
        have hpne : (splitB x).map trimB ≠ [] := by simpa using splitB_ne x
        have hone := parts_one hpne
        have hcnt : cntR ((splitB x).map stripB).reverse = cntR ((splitB x).map trimB).reverse := by rw [hs]
        generalize hP : (splitB x).map trimB = parts at hone hpne hs hcnt
        have hp0 : ((splitB x).map stripB).headD #[] = parts.headD #[] := by rw [hs]
        generalize parts.headD #[] = p0 at hone hp0
        have hbad : badLen parts = (parts.any (fun p => decide (p ≠ parts.headD #[])) || decide (parts.headD #[] = #[]) || decide ((parts.headD #[]).size > 20) || (parts.headD #[]).toList.any fun c => decide ((c.toNat : Int) < 48 ∨ (c.toNat : Int) > 57)) := rfl
        have hp0' : parts.headD #[] = p0 := by rw [← hp0, hs]
        rw [hp0'] at hbad
        by_cases h2 : cntR ((splitB x).map stripB).reverse = 1
        · have h3 : parts.any (fun p => decide (p ≠ p0)) = false := hone.mp (by rw [← hcnt]; exact h2)
          rw [h3, Bool.false_or] at hbad
          cases h4 : digB p0 with
          | false =>
            rw [nv_dig ht hf h1 h2 hp0 h4, if_pos]
            · exact rfl
            · rw [hbad]
              rw [dig_eq, Bool.and_eq_false_iff] at h4
              rcases h4 with h4 | h4
              · have : decide (p0 = #[]) = true := by simpa using h4
                rw [this]; rfl
              · rw [show (p0.toList.any fun c => decide ((c.toNat : Int) < 48 ∨ (c.toNat : Int) > 57)) = true by simpa using h4]; simp
          | true =>
            have h4' := h4
            rw [dig_eq, Bool.and_eq_true] at h4'
            have hne : ¬ p0 = #[] := by simpa using h4'.1
            have hany : (p0.toList.any fun c => decide ((c.toNat : Int) < 48 ∨ (c.toNat : Int) > 57)) = false := by simpa using h4'.2
            rw [hany, decide_eq_false hne, Bool.or_false, Bool.false_or] at hbad
            by_cases h5 : p0.size > 20
            · rw [nv_long ht hf h1 h2 hp0 h4 h5, if_pos (by rw [hbad]; simp [h5])]
              exact rfl
            · rw [if_neg (by rw [hbad]; simp; omega)]
              rcases R.seen with ⟨s1, s2⟩ | ⟨s1, s2⟩
              · rw [nv_first ht hf h1 h2 hp0 h4 h5 s1, if_neg (by rw [s2]; simp)]
                refine R.add (dig_clean h4) rfl ?_ R.coded (.inr ⟨rfl, hne⟩)
                simp only [s2, if_true]
              · by_cases h6 : d.length = p0
                · rw [nv_again ht hf h1 h2 hp0 h4 h5 s1 h6, if_neg (by simp [h6])]
                  have e : (if d.length = #[] then d.told ++ [(a, p0)] else d.told) = d.told := if_neg s2
                  refine ⟨?_, ?_, R.coded, .inr ⟨?_, hne⟩, ?_⟩
                  · show _ = (if d.length = #[] then d.told ++ [(a, p0)] else d.told); rw [e]; exact R.raw
                  · show _ = lowPs (if d.length = #[] then d.told ++ [(a, p0)] else d.told); rw [e]; exact R.low
                  · show n.seen = some p0; rw [s1, h6]
                  · show ∀ p ∈ (if d.length = #[] then d.told ++ [(a, p0)] else d.told), _; rw [e]; exact R.okv
                · rw [nv_other ht hf h1 h2 hp0 h4 h5 s1 h6, if_pos ⟨s2, h6⟩]
                  exact rfl
        · have h3 : parts.any (fun p => decide (p ≠ p0)) = true := by
            rw [← Bool.not_eq_false]
            intro q; exact h2 (by rw [hcnt]; exact hone.mpr q)
          rw [nv_cnt ht hf h1 h2, if_pos (by rw [hbad, h3]; rfl)]
          exact rfl
      · rw [if_neg h1]
        by_cases h2 : lowB a = TE
        · rw [if_pos h2]
          cases h3 : n.coded with
          | true =>
            rw [nv_te1 ht hf h1 h2 h3, if_pos (.inl (by rw [← R.coded]; exact h3))]
            exact rfl
          | false =>
            by_cases h4 : lowB x = CHK
            · rw [nv_te3 ht hf h1 h2 h3 h4, if_neg (by rw [← R.coded, h3]; simp [h4])]
              refine R.add (v := CHK) chk_clean ?_ rfl rfl R.seen
              simp only [h4]
            · rw [nv_te2 ht hf h1 h2 h3 h4, if_pos (.inr h4)]
              exact rfl
        · rw [if_neg h2, nv_plain ht hf h1 h2]
          exact R.add hcl rfl rfl R.coded R.seen
theorem fold_same : ∀ (ps : List Pair) {n : Nav} {d : Due}, Rel n d → Same (ps.foldlM navStep n) (ps.foldlM dueStep d)
  | [], _, _, R => R
  | p :: ps, n, d, R => by
    rw [List.foldlM_cons, List.foldlM_cons]
    have h := step_same R p
    cases hn : navStep n p with
    | error a =>
      cases hd : dueStep d p with
      | error b => rw [hn, hd] at h; exact h
      | ok d' => rw [hn, hd] at h; exact h.elim
    | ok n' =>
      cases hd : dueStep d p with
      | error b => rw [hn, hd] at h; exact h.elim
      | ok d' => rw [hn, hd] at h; exact fold_same ps h

/-- the two readings agree -/
theorem ps_same (ps : List Pair) : Same (navPs ps) (duePs ps) :=
  fold_same ps ⟨rfl, rfl, rfl, .inl ⟨rfl, rfl⟩, fun p hp => nomatch hp⟩
end
-- part P2
theorem start_P2 : True := by
  w_top off
  trivial
section
open Builtin Builtin.ObjectAttr Builtin.Getset_descriptor
open Sem (wp)
noncomputable def GREAT : List Oct := [#[67, 111, 110, 110, 101, 99, 116, 105, 111, 110], #[88, 45, 65, 49], #[84, 114, 97, 110, 115, 102, 101, 114, 45, 69, 110, 99, 111, 100, 105, 110, 103], #[67, 111, 110, 116, 101, 110, 116, 45, 76, 101, 110, 103, 116, 104], #[83, 101, 116, 45, 67, 111, 111, 107, 105, 101]]
theorem great_tit : SMALL.map (fun b => byteArr (titI b)) = GREAT := by decide +kernel
theorem great_low : ∀ g ∈ GREAT, lowB g ≠ #[97] ∧ g.size ≤ 1000 := by decide +kernel
theorem names_low : ∀ n ∈ NAMES, lowB n ≠ #[97] ∧ n.size ≤ 20 := by decide +kernel
theorem values_size : ∀ v ∈ VALUES, v.size ≤ 30 := by decide +kernel
theorem small_size : ∀ v ∈ SMALL, v.size ≤ 30 := by decide +kernel
theorem tell_low {ts : List Trip} {due : List Pair} (hraw : ts.map (fun t => (t.1, t.2.2)) = due) (hlow : pairsOf ts = lowPs due) : ∀ t ∈ ts, t.2.1 = lowB t.1 := by
  subst hraw
  unfold pairsOf lowPs at hlow
  rw [List.map_map] at hlow
  have := List.map_inj_left.mp hlow
  intro t ht
  exact congrArg Prod.fst (this t ht)

/-- the members as the law finds them -/
noncomputable def foundOf (b : Oct) (p : Pair) : List Oct := if lowB p.1 = b then (splitB p.2).map fun q => lowB (trimB q) else []
theorem low_strip (q : Oct) (h : ∀ c ∈ q.toList, c ∉ NT) : stripB (lowB q) = lowB (trimB q) := by
  rw [strip_trim (q := lowB q)]
  · have e : (lowB q).toList = q.toList.map Bytes.toLower := rfl
    have hd : ∀ l : List UInt8, (l.map Bytes.toLower).dropWhile wsB = (l.dropWhile wsB).map Bytes.toLower := fun l => by
      induction l with
      | nil => rfl
      | cons a l ih =>
        rw [List.map_cons, List.dropWhile_cons, List.dropWhile_cons, low_ws]
        by_cases hw : wsB a = true
        · rw [if_pos hw, if_pos hw]; exact ih
        · rw [if_neg hw, if_neg hw]; rfl
    unfold trimB
    rw [e, hd, ← List.map_reverse, hd, ← List.map_reverse]
    rfl
  · intro c hc
    have hc' : c ∈ q.toList.map Bytes.toLower := hc
    obtain ⟨c', h1, rfl⟩ := List.mem_map.mp hc'
    intro hn
    exact h c' h1 (low_nt c' hn)
theorem flatMap_congr' {α β : Type} {f g : α → List β} : ∀ {l : List α}, (∀ a ∈ l, f a = g a) → l.flatMap f = l.flatMap g
  | [], _ => rfl
  | a :: l, h => by rw [List.flatMap_cons, List.flatMap_cons, h a (.head _), flatMap_congr' fun b hb => h b (.tail _ hb)]
theorem comma_same {ts : List Trip} {due : List Pair} (b : Oct) (hraw : ts.map (fun t => (t.1, t.2.2)) = due) (hlow : pairsOf ts = lowPs due) (hok : ∀ p ∈ due, clean p.2) : commaP ts b = (due.flatMap (foundOf b)).filter fun q => decide (q ≠ #[]) := by
  have ht := tell_low hraw hlow
  subst hraw
  unfold commaP
  rw [List.filter_flatMap, List.flatMap_map]
  refine flatMap_congr' fun t hm => ?_
  unfold commaOf foundOf
  dsimp only
  rw [← ht t hm]
  split
  · rw [splitB_lower, List.map_map]
    congr 1
    refine List.map_congr_left fun q hq => ?_
    exact low_strip q (part_clean (hok (t.1, t.2.2) (List.mem_map.mpr ⟨t, hm, rfl⟩)) hq)
  · rfl
theorem set_same {ts : List Trip} {due : List Pair} (b : Oct) (ms : List Oct) (hraw : ts.map (fun t => (t.1, t.2.2)) = due) (hlow : pairsOf ts = lowPs due) : setPs ts b ms = (due.filter fun p => decide (lowB p.1 ≠ b)) ++ ms.map fun v => (byteArr (titI b), v) := by
  have ht := tell_low hraw hlow
  subst hraw
  unfold setPs
  rw [List.filter_map]
  congr 2
  refine List.filter_congr fun t hm => ?_
  rw [ht t hm]; rfl
theorem due_step_mem {d d' : Due} {p : Pair} (h : dueStep d p = .ok d') (hp : p.2.size ≤ 1000) (q : Pair) (hq : q ∈ d'.told) : q ∈ d.told ∨ (q.1 = p.1 ∧ q.2.size ≤ 1000) := by
  have hh : (((splitB p.2).map trimB).headD #[]).size ≤ 1000 := by
    cases e : (splitB p.2).map trimB with
    | nil => exact Nat.zero_le _
    | cons a l =>
      have : a ∈ (splitB p.2).map trimB := by rw [e]; exact .head _
      obtain ⟨r, hr, rfl⟩ := List.mem_map.mp this
      have h1 := splitB_size hr
      have h2 := trimB_size (b := r)
      show (trimB r).size ≤ 1000
      omega
  unfold dueStep at h
  split at h
  · cases h
  · split at h
    · split at h
      · cases h
      · split at h
        · cases h
        · cases h
          dsimp only at hq
          split at hq
          · rcases List.mem_append.mp hq with hq | hq
            · exact .inl hq
            · rw [List.mem_singleton.mp hq]; exact .inr ⟨rfl, hh⟩
          · exact .inl hq
    · split at h
      · split at h
        · cases h
        · cases h
          rcases List.mem_append.mp hq with hq | hq
          · exact .inl hq
          · rw [List.mem_singleton.mp hq]; exact .inr ⟨rfl, show CHK.size ≤ 1000 by decide⟩
      · cases h
        rcases List.mem_append.mp hq with hq | hq
        · exact .inl hq
        · rw [List.mem_singleton.mp hq]; exact .inr ⟨rfl, hp⟩
theorem due_fold_mem : ∀ (ps : List Pair) {d d' : Due}, ps.foldlM dueStep d = .ok d' → (∀ p ∈ ps, p.2.size ≤ 1000) → ∀ q ∈ d'.told, q ∈ d.told ∨ ((∃ p ∈ ps, q.1 = p.1) ∧ q.2.size ≤ 1000)
  | [], d, d', h, _, q, hq => by cases h; exact .inl hq
  | p :: ps, d, d', h, hs, q, hq => by
    rw [List.foldlM_cons] at h
    cases e : dueStep d p with
    | error k => rw [e] at h; cases h
    | ok d1 =>
      rw [e] at h
      rcases due_fold_mem ps h (fun p hp => hs p (.tail _ hp)) q hq with h1 | ⟨⟨p', hp', e'⟩, h2⟩
      · rcases due_step_mem e (hs p (.head _)) q h1 with h3 | ⟨h3, h4⟩
        · exact .inl h3
        · exact .inr ⟨⟨p, .head _, h3⟩, h4⟩
      · exact .inr ⟨⟨p', .tail _ hp', e'⟩, h2⟩
theorem due_mem {ps : List Pair} {d : Due} (h : duePs ps = .ok d) (hs : ∀ p ∈ ps, p.2.size ≤ 1000) : ∀ q ∈ d.told, (∃ p ∈ ps, q.1 = p.1) ∧ q.2.size ≤ 1000 := fun q hq =>
  (due_fold_mem ps h hs q hq).elim (fun h => nomatch h) id
end
-- part LWh
theorem start_LWh : True := by
  w_top off
  trivial
section
open Builtin Builtin.ObjectAttr Builtin.Getset_descriptor
open Sem (wp)

/-- the law's k-th number -/
noncomputable def numK (ns : List Int) (k : Nat) : Int := if k < ns.length then ((ns.getD k 0).natAbs : Int) else [0, 14, 0].getD k 0
theorem numK_nonneg (ns : List Int) (k : Nat) (hk : k < 3) : 0 ≤ numK ns k := by
  unfold numK
  split
  · omega
  · match k, hk with
    | 0, _ => decide
    | 1, _ => decide
    | 2, _ => decide
theorem ints_at {vs : List Value} {ns : List Int} (h : IntsAre vs ns) : ∀ (k : Nat), k < ns.length → ∃ t, vs[k]? = some (.int (ns.getD k 0) t) := by
  induction h with
  | nil => intro k hk; exact absurd hk (Nat.not_lt_zero _)
  | cons n t _ ih =>
    intro k hk
    cases k with
    | zero => exact ⟨t, rfl⟩
    | succ k => obtain ⟨t, e⟩ := ih k (by simpa using hk); exact ⟨t, by simpa using e⟩
theorem cut_val {M : Model} {A : Around} {E : Value → Shared → Prop} {s : Shared} {m : Sem Value} {Q : Value → Shared → Prop} (P : Value → Shared → Prop) (h : wpAny M A m (fun v s' => Held (P v s')) E s) (k : ∀ v s', P v s' → Q v s') : wpAny M A m Q E s :=
  wpAny_mono h (fun v s' p => k v s' p) fun _ _ e => e
theorem nat_fit {n k : Nat} (h : n < k) (hk : k ≤ 1000000) : ((n : Nat) : Int) < 2 ^ 63 := Int.lt_of_lt_of_le (Int.ofNat_lt.mpr (Nat.lt_of_lt_of_le h hk)) (by decide)
theorem abs_if (n : Int) : (if n < 0 then -n else n) = ((n.natAbs : Nat) : Int) := by split <;> omega
theorem lt3 {k : Nat} (h : k < 3) : k = 0 ∨ k = 1 ∨ k = 2 :=
  (Nat.lt_succ_iff_lt_or_eq.mp h).elim (fun h => (Nat.lt_succ_iff_lt_or_eq.mp h).elim (fun h => .inl (Nat.lt_one_iff.mp h)) fun h => .inr (.inl h)) fun h => .inr (.inr h)
theorem cut_valQ {M : Model} {A : Around} {E : Value → Shared → Prop} {s : Shared} {m : Sem Value} {Q : Value → Shared → Prop} (P : Value → Shared → Prop) (h : ∀ (Q' : Value → Shared → Prop) (E' : Value → Shared → Prop), (∀ v s', P v s' → Q' v s') → (∀ v s', E v s' → E' v s') → wpAny M A m Q' E' s) (k : ∀ v s', P v s' → Q v s') : wpAny M A m Q E s :=
  h Q E k fun _ _ e => e
theorem bl_at {l : List Oct} {vs : Array Value} (h : Paired BV l vs.toList) (k : Nat) (hk : k < l.length) : ∃ b t, b ∈ l ∧ l[k]? = some b ∧ vs[k]? = some (.bytes b t) := by
  have hk2 : k < vs.toList.length := by rw [← h.length]; exact hk
  obtain ⟨t, e⟩ := pair_at h k hk hk2
  refine ⟨l[k], t, List.getElem_mem hk, List.getElem?_eq_getElem hk, ?_⟩
  rw [← Array.getElem?_toList, List.getElem?_eq_getElem hk2, e]
end
local macro_rules | `(tactic| walk_at "m_sl") => `(tactic| first | exact List.Sublist.refl _ | (refine List.Sublist.cons_cons _ ?_; walk_at "m_sl") | (refine List.Sublist.cons _ ?_; walk_at "m_sl"))
-- part LW
theorem start_LW : True := by
  w_top off
  trivial
section
open Builtin Builtin.ObjectAttr Builtin.Getset_descriptor
open Sem (wp)
set_option maxHeartbeats 20000000
theorem item_num0 {prog : Program} {w : World} {A : Around} {E : Value → Shared → Prop} {s : Shared} {value slice : PySem.Expr} {Q : Value → Shared → Prop} {z : Heap} {D : Addr} {p0 p1 p2 : Int} {t0 t1 t2 u : Tok} {nn : Nat} (hz : z.get? D = some (listOf #[.int p0 t0, .int p1 t1, .int p2 t2] nn)) (k : Ext z s.heap) (h : Q (.int p0 t0) s)
    (hs : subscripted slice false (.ref D) (.int 0 u) = operate [.ref D, .int 0 u] (getItem (.ref D) (.int 0 u)) := by with_unfolding_all rfl) :
    wpAny (model prog w) A (subscriptTail value slice (.ref D) (.int 0 u)) Q E s :=
  item_listR (listAt hz k) (by decide) (by decide) rfl h hs
theorem item_num1 {prog : Program} {w : World} {A : Around} {E : Value → Shared → Prop} {s : Shared} {value slice : PySem.Expr} {Q : Value → Shared → Prop} {z : Heap} {D : Addr} {p0 p1 p2 : Int} {t0 t1 t2 u : Tok} {nn : Nat} (hz : z.get? D = some (listOf #[.int p0 t0, .int p1 t1, .int p2 t2] nn)) (k : Ext z s.heap) (h : Q (.int p1 t1) s)
    (hs : subscripted slice false (.ref D) (.int 1 u) = operate [.ref D, .int 1 u] (getItem (.ref D) (.int 1 u)) := by with_unfolding_all rfl) :
    wpAny (model prog w) A (subscriptTail value slice (.ref D) (.int 1 u)) Q E s :=
  item_listR (listAt hz k) (by decide) (by decide) rfl h hs
theorem item_num2 {prog : Program} {w : World} {A : Around} {E : Value → Shared → Prop} {s : Shared} {value slice : PySem.Expr} {Q : Value → Shared → Prop} {z : Heap} {D : Addr} {p0 p1 p2 : Int} {t0 t1 t2 u : Tok} {nn : Nat} (hz : z.get? D = some (listOf #[.int p0 t0, .int p1 t1, .int p2 t2] nn)) (k : Ext z s.heap) (h : Q (.int p2 t2) s)
    (hs : subscripted slice false (.ref D) (.int 2 u) = operate [.ref D, .int 2 u] (getItem (.ref D) (.int 2 u)) := by with_unfolding_all rfl) :
    wpAny (model prog w) A (subscriptTail value slice (.ref D) (.int 2 u)) Q E s :=
  item_listR (listAt hz k) (by decide) (by decide) rfl h hs
theorem stSetItem {prog : Program} {w : World} {A : Around} {E : Value → Shared → Prop} {s : Shared} {zs : List Heap} {L : Addr} {m : PySem.Str → Option Value} {pre post : List (Addr × Obj)} {D : Addr} {its : List Value} {n : Nat} {k : Nat} {t : Tok} {v : Value} {Q : Unit → Shared → Prop}
    (S : St zs L m (pre ++ (D, listOf its.toArray n) :: post) s.heap) (hfit : (k : Int) < 2 ^ 63) (hn : k < its.length) (h : ∀ h', St zs L m (pre ++ (D, listOf (its.set k v).toArray n) :: post) h' → Q () { s with heap := h' }) :
    wpAny (model prog w) A (setItem (.ref D) (.int (k : Int) t) v) Q E s := by
  have hm0 : (D, listOf its.toArray n) ∈ pre ++ (D, listOf its.toArray n) :: post := List.mem_append_right _ (.head _)
  refine ki_setAt (S.mine _ hm0) (by omega) hfit (by rw [List.size_toArray]; omega) (h _ (S.updAt (Heap.SameBut.update ..) ?_))
  have q := PySem.IsL.update (S.mine _ hm0) (·.setIfInBounds k v)
  simp only [List.setIfInBounds_toArray, List.size_toArray, List.length_set, beq_self_eq_true, if_true] at q
  rw [Int.toNat_natCast]
  simpa using q
theorem Paired.setAt {α β : Type} {R : α → β → Prop} {as : List α} {xs : List β} (h : Paired R as xs) {a : α} {x : β} (r : R a x) : ∀ k, Paired R (as.set k a) (xs.set k x) := by
  induction h with
  | nil => intro k; exact .nil
  | cons h1 h2 ih =>
    intro k
    cases k with
    | zero => exact .cons r h2
    | succ k => exact .cons h1 (ih k)
theorem St.extF {zs : List Heap} {L : Addr} {m : PySem.Str → Option Value} {own : List (Addr × Obj)} {h h' : Heap} {fr : List Env} (S : St zs L m own h) (x : ExtF fr h h') (hf : ∀ a ∈ fsOf fr, a = L) : St zs L m own h' :=
  ⟨x.ns S.ns, fun p hp => x.same _ _ (S.mine p hp) (fun q => by
    have nd := S.nd
    rw [List.nodup_cons] at nd
    exact nd.1 (hf _ q ▸ List.mem_map_of_mem hp)), S.nd, fun z hz => ⟨fun b o q => x.same b o (S.froz hz b o q) (fun q' => by
    rw [hf b q', (S.fz z hz).2 L (.head _)] at q; cases q), (S.fz z hz).2⟩⟩
theorem due_len {ps : List Pair} {d : Due} (h : duePs ps = .ok d) : d.told.length ≤ ps.length := by
  have := fold_len ps _ d h
  simpa using this
theorem PairT.ext {p : Pair} {h h' : Heap} {v : Value} (x : PairT p h v) (e : Ext h h') : PairT p h' v := by
  obtain ⟨a, v1, v2, r, ⟨o, q, d⟩, t1, t2⟩ := x
  exact ⟨a, v1, v2, r, ⟨o, e _ _ q, d⟩, t1, t2⟩
theorem St.freezePairT {z : Heap} {zs : List Heap} {L : Addr} {m : PySem.Str → Option Value} {own : List (Addr × Obj)} {h : Heap} {t : Addr} {v1 v2 : Value} {p : Pair} (S : St zs L m ((t, tupOf #[v1, v2]) :: own) h) (hz : z ∈ zs) (b1 : TB p.1 v1) (b2 : TB p.2 v2) :
    ∃ z', Ext z z' ∧ PairT p z' (.ref t) ∧ St (z' :: zs) L m own h := by
  obtain ⟨z', e1, e2, e3, S'⟩ := S.freeze hz
  exact ⟨z', e1, ⟨t, v1, v2, rfl, ⟨_, e2, rfl, 0, rfl⟩, b1, b2⟩, S'⟩
theorem tb_text {b : Oct} {t : Tok} (h : ∀ c ∈ b.toList, c.toNat ≤ 127) : TB b (.str (asText b) t) := by
  refine .inr ⟨_, _, rfl, fun c hc => ?_, ?_⟩
  · simp only [asText, Array.toList_map, List.mem_map] at hc
    obtain ⟨x, hx, rfl⟩ := hc
    have := h x hx
    omega
  · simp [asText, Function.comp_def]
theorem pairs_app {α β : Type} {R : α → β → Prop} {as bs : List α} {xs ys : List β} (h : Paired R as xs) (h' : Paired R bs ys) : Paired R (as ++ bs) (xs ++ ys) := by
  induction h with
  | nil => exact h'
  | cons a _ ih => exact .cons a ih
theorem pairs_mapL {α β γ : Type} {R : β → γ → Prop} {f : α → β} {as : List α} {xs : List γ} (h : Paired (fun a x => R (f a) x) as xs) : Paired R (as.map f) xs := by
  induction h with
  | nil => exact .nil
  | cons a _ ih => exact .cons a ih
theorem bne_dec (q c : Oct) : (q.toList != c.toList) = decide (q ≠ c) := by
  cases h : (q.toList != c.toList) with
  | true => exact (decide_eq_true (arr_nee h)).symm
  | false => exact (decide_eq_false fun n => n (arr_nne h)).symm
theorem pairs_take {α β : Type} {R : α → β → Prop} {as : List α} {xs : List β} (h : Paired R as xs) : ∀ k, Paired R (as.take k) (xs.take k) := by
  induction h with
  | nil => intro k; rw [List.take_nil, List.take_nil]; exact .nil
  | cons a _ ih => intro k; cases k with
    | zero => exact .nil
    | succ k => exact .cons a (ih k)
theorem pairs_drop {α β : Type} {R : α → β → Prop} {as : List α} {xs : List β} (h : Paired R as xs) : ∀ k, Paired R (as.drop k) (xs.drop k) := by
  induction h with
  | nil => intro k; rw [List.drop_nil, List.drop_nil]; exact .nil
  | cons a h ih => intro k; cases k with
    | zero => exact .cons a h
    | succ k => exact ih k
theorem lSliceR {prog : Program} {w : World} {A : Around} {E : Value → Shared → Prop} {s : Shared} {Q : Value → Shared → Prop} {zs : List Heap} {L : Addr} {m : PySem.Str → Option Value} {own : List (Addr × Obj)} {value slice : PySem.Expr} {l : Addr} {items : Array Value} {vl vu : Value} {lo hi : Option Int} (S : St zs L m own s.heap) (hl : s.heap.IsList l items) (pl : IsPart vl lo) (pu : IsPart vu hi) (hsz : items.size ≤ 100000)
    (h : ∀ a h', s.heap.get? a = none → Ext s.heap h' → St zs L m ((a, listOf (slicePick items lo hi none) 0) :: own) h' → Q (.ref a) { s with heap := h' })
    (hs : subscripted slice false (.ref l) (.ref s.heap.objs.size) = operate [.ref s.heap.objs.size, .ref l] (getItem (.ref l) (.ref s.heap.objs.size)) := by with_unfolding_all rfl) :
    wpAny (model prog w) A (subscriptTail value slice (.ref l) (.ref s.heap.objs.size)) Q E { s with heap := s.heap.push { cls := .type "slice", data := .fields #[vl, vu, .none] } } := by
  have hT := Heap.IsList.typeIs (s := { s with heap := s.heap.push { cls := .type "slice", data := .fields #[vl, vu, .none] } }) (hl.push _)
  unfold subscriptTail
  refine wpAny_bind ?_
  rw [getitemInPython_of_ne hT.not_modules]
  refine wpAny_bind (wpAny_specialOf hT list_getitem_lookup ?_)
  have S' := (S.ext (Ext.push { cls := .type "slice", data := .fields #[vl, vu, .none] })).push { cls := .type "list", data := .seq (slicePick items lo hi none) }
  have fin : wpAny (model prog w) A (subscripted slice false (.ref l) (.ref s.heap.objs.size)) (fun r s₃ => wpAny (model prog w) A (letTemporaryGo value (.ref l) r >>= fun _ => pure r) Q E s₃) E { s with heap := s.heap.push { cls := .type "slice", data := .fields #[vl, vu, .none] } } := by
    rw [hs]
    exact wpAny_operating (wpAny_getItem_list_slice (hl.push _) (Heap.IsSliceOf.new ..) pl pu .none (by simp) (wpAny_bind (wpAny_letTemporaryGo (wpAny_pure (h _ _ (fresh_none (by rw [Heap.size_push]; exact Nat.le_succ _)) ((Ext.push _).trans (Ext.push _)) S')))) (by rw [sizeLine_eq]; omega))
  first
    | exact wpAny_pure (wpAny_bind fin)
    | exact wpAny_bind (wpAny_pure (wpAny_bind fin))
    | exact wpAny_bind fin
theorem tEndT {zs : List Heap} {C t : Addr} {o : Obj} {m : PySem.Str → Option Value} {own : List (Addr × Obj)} {s : Shared} {h' z₃ : Heap} {tk : Nat} {G : Heap → Value → Prop} {y : Value} (S : St zs C m ((t, o) :: own) h') (hz : z₃ ∈ zs) (k : ∀ b o, b ≠ C → s.heap.get? b = some o → z₃.get? b = some o)
    (g : ∀ z, z.get? t = some o → G z y) : TEnd C s G y { s with heap := h', toks := tk } := by
  obtain ⟨z, e1, e2, S'⟩ := S.freeze1
  refine ⟨CMv.of S hz k, z, fun b ob q => ?_, S'.froz (.head _), g z e1⟩
  obtain rfl := e2 b ob q
  have nd := S.nd
  simp only [List.map_cons, List.nodup_cons, List.mem_cons, not_or] at nd
  cases q8 : s.heap.get? b with
  | none => rfl
  | some o8 =>
    have := k b o8 (fun e => nd.1.1 e.symm) q8
    rw [(S.fz z₃ hz).2 b (.tail _ (.head _))] at this
    cases this
section
variable {prog : Program} {w : World} {A : Around} {E : Value → Shared → Prop} {s : Shared} {Q : Value → Shared → Prop} {la : Addr} {vs : List Value} {ns : List Int}
theorem law_ok (po : ProgOk prog) (am : Amb w A 20 200 [] s.heap) (hl : s.heap.IsList la vs.toArray) (hi : IntsAre vs ns) (hn : ns.length ≤ 63)
    (hQ : ∀ h' g' tk, Ext s.heap h' → GMore s.gens g' → Q (.bool true) { s with heap := h', gens := g', toks := tk }) : wpAny (model prog w) A (call (.ref 275) [.ref la]) Q E s := by
  refine wpAny_call ?_
  refine enterC (binds := [(PySem.Str.ofString "script", .ref la)]) am (by k_is) (by k_is) (BindsTo.of_eq rfl) rfl (by decide) fun L h₁ tk₁ cells hL hC S => ?_
  obtain ⟨o1, o2, o3, rfl, hc1, hc2, hc3⟩ := CellsAre.three hC
  replace hc1 : o1.data = .cell none := hc1
  replace hc2 : o2.data = .cell none := hc2
  replace hc3 : o3.data = .cell (some (.ref la)) := hc3
  replace S : St [s.heap] L (fun _ => none) [(L + 1 + 1 + 1, o1), (L + 1 + 1, o2), (L + 1, o3)] h₁ := S
  clear hC
  dsimp only
  walk1
  refine cut_stmtQ (fun s' => ∃ h2 k2 z1 D1 t0 t1 t2 nn, s' = { s with heap := h2, toks := k2 } ∧ z1.get? D1 = some (listOf #[.int (numK ns 0) t0, .int (numK ns 1) t1, .int (numK ns 2) t2] nn) ∧
    St [z1, s.heap] L (fun y => if y = PySem.Str.ofString "numbers" then some (.ref D1) else none) [(L + 1 + 1 + 1, o1), (L + 1 + 1, o2), (L + 1, o3)] h2) (fun Q9 E9 hq9 he9 => ?_) ?_
  · repeat' walk1
    refine call_range_1 ?_
    have S₂ := S.push { cls := .type "range", data := .fields #[.int 0 (tk₁ + 1), .int 3 tk₁, .int 1 (tk₁ + 1 + 1)] }
    refine src_range (n := 3) (by exact am.hd) (S₂.mine _ (.head _)) (by omega) fun I₂ s₃ src => ?_
    refine ⟨_, S₂.ns, ask_of (List.range 3) (fun k v => ∃ t, v = .int (k : Int) t) (fun _ => true) (fun z k y => ∃ t, y = .int (numK ns k) t) src (by simp) (fun i v a ha hv => ?_) (fun z z' a y e h => h) ?_ ?_⟩
    · rw [List.getElem?_range (by have := (List.getElem?_eq_some_iff.mp ha).1; simpa using this)] at ha
      cases ha; exact hv
    · rintro C k v s₃ m₃ E' z₃ hk ⟨tk, rfl⟩ e1 e2 S₅ -
      have hk' : k < 3 := List.mem_range.mp hk
      have hcl₃ : z₃.get? (L + 1) = some o3 := e1 _ _ (S₂.mine _ (.tail _ (.tail _ (.tail _ (.head _)))))
      have am₃ := am.ext ((S₂.froz (.head _)).trans e1)
      have hl₃ : z₃.IsList la vs.toArray := by obtain ⟨o9, h9, r9⟩ := hl; exact ⟨o9, e1 _ _ (S₂.froz (.head _) _ _ h9), r9⟩
      have hvl : vs.length = ns.length := hi.length
      unfold TurnA
      repeat' walk1
      have S₆ := ‹St [z₃] C _ _ _›
      have hl₆ : Ext z₃ _ := St.froz S₆ (.head _)
      refine len_list (items := vs.toArray) (by obtain ⟨o9, h9, r9⟩ := hl₃; exact ⟨o9, hl₆ _ _ h9, r9⟩) (by rw [List.size_toArray, hvl]; exact nat_fit (Nat.lt_succ_of_le hn) (by decide)) ?_
      rw [List.size_toArray, hvl]
      dsimp only
      repeat' walk1
      · have S₇ := ‹St [z₃] C _ _ _›
        have hkn : k < ns.length := by omega
        obtain ⟨tq, hq⟩ := ints_at hi k hkn
        have hl₇ : Ext z₃ _ := St.froz S₇ (.head _)
        refine item_list (items := vs.toArray) (x := .int (ns.getD k 0) tq) (by obtain ⟨o9, h9, r9⟩ := hl₃; exact ⟨o9, hl₇ _ _ h9, r9⟩) (Int.natCast_nonneg _) (nat_fit hk' (by decide)) (by rw [Int.toNat_natCast]; simpa using hq) ?_
        repeat' walk1
        refine tEnd (s := s₃) S₇ (.head _) e2 ⟨_, congrArg (fun n => Value.int n _) ?_⟩
        unfold numK
        rw [if_pos hkn]
        exact abs_if _
      · have S₇ := ‹St [z₃] C _ _ _›
        have hkn : ¬ k < ns.length := by omega
        have hm := S₇.mine _ (.head _)
        have hnum : numK ns k = [0, 14, 0].getD k 0 := by unfold numK; rw [if_neg hkn]
        rw [hnum]
        clear hnum hkn hk
        obtain rfl | rfl | rfl : k = 0 ∨ k = 1 ∨ k = 2 := lt3 hk'
        · refine item_tupleT (j := 0) ⟨_, hm, rfl, 0, rfl⟩ (by decide) (by decide) rfl rfl ?_
          exact tEnd (s := s₃) S₇ (.head _) e2 ⟨_, rfl⟩
        · refine item_tupleT (j := 1) ⟨_, hm, rfl, 0, rfl⟩ (by decide) (by decide) rfl rfl ?_
          exact tEnd (s := s₃) S₇ (.head _) e2 ⟨_, rfl⟩
        · refine item_tupleT (j := 2) ⟨_, hm, rfl, 0, rfl⟩ (by decide) (by decide) rfl rfl ?_
          exact tEnd (s := s₃) S₇ (.head _) e2 ⟨_, rfl⟩
    · intro D h' g' tk ys nn z f1 f2 f3 f4 f5 hg h'' tk'' hn9 hk9
      subst hg
      have S₃ := (S₂.add f1 f3 f2).setE hn9 hk9
      obtain ⟨ys⟩ := ys
      rw [show (List.range 3).filter (fun _ => true) = [0, 1, 2] from rfl] at f5
      cases f5 with
      | cons h0 f5 =>
        cases f5 with
        | cons h1 f5 =>
          cases f5 with
          | cons h2 f5 =>
            cases f5
            obtain ⟨t0, rfl⟩ := h0
            obtain ⟨t1, rfl⟩ := h1
            obtain ⟨t2, rfl⟩ := h2
            exact hq9 _ ⟨h'', _, z, D, t0, t1, t2, nn, by rfl, f4, S₃.part (List.sublist_cons_self _ _) (fun _ h => h)⟩
  rintro s' ⟨h2, k2, z1, D1, t0, t1, t2, nn, rfl, hz1, S₁⟩
  clear S
  dsimp only
  walk1
  refine cut_stmtQ (fun s' => ∃ h2 k2 a, s' = { s with heap := h2, toks := k2 } ∧ St [z1, s.heap] L (fun y => if y = PySem.Str.ofString "pairs" then some (.ref a) else if y = PySem.Str.ofString "numbers" then some (.ref D1) else none) [(a, listOf #[] 0), (L + 1 + 1 + 1, o1), (L + 1 + 1, o2), (L + 1, o3)] h2) (fun Q9 E9 hq9 he9 => ?_) ?_
  · repeat' walk1
    exact hq9 _ ⟨_, _, _, rfl, ‹St _ _ _ _ _›⟩
  rintro s' ⟨h2, k2, a, rfl, S₂⟩
  clear S₁
  dsimp only
  walk1
  refine cut_stmtQ (fun s' => ∃ h3 k3 zacc vs' kk ps m, s' = { s with heap := h3, toks := k3 } ∧ (∀ p ∈ ps, p.1 ∈ NAMES ∧ p.2 ∈ VALUES) ∧ 1 ≤ ps.length ∧ ps.length ≤ 5 ∧ Paired (fun p v => PairV p zacc v) ps vs' ∧ m (PySem.Str.ofString "pairs") = some (.ref a) ∧ m (PySem.Str.ofString "numbers") = some (.ref D1) ∧
    St [zacc, z1, s.heap] L m [(a, listOf (List.toArray vs') kk), (L + 1 + 1 + 1, o1), (L + 1 + 1, o2), (L + 1, o3)] h3) (fun Q9 E9 hq9 he9 => ?_) ?_
  · have hvl : vs.length = ns.length := hi.length
    refine wpAny_For ?_ (by intro _; exact rfl)
    refine cut_valQ (fun v s' => ∃ h3 k3 D items n, v = .ref D ∧ s' = { s with heap := h3, toks := k3 } ∧ (∀ x ∈ items.toList, ∃ k t, x = Value.int k t) ∧ 1 ≤ items.size ∧ items.size ≤ 5 ∧
      St [z1, s.heap] L (fun y => if y = PySem.Str.ofString "pairs" then some (.ref a) else if y = PySem.Str.ofString "numbers" then some (.ref D1) else none) ((D, listOf items n) :: [(a, listOf #[] 0), (L + 1 + 1 + 1, o1), (L + 1 + 1, o2), (L + 1, o3)]) h3) (fun Q8 E8 hq8 he8 => ?_) ?_
    · repeat' walk1
      refine len_list (items := vs.toArray) (by obtain ⟨o9, h9, r9⟩ := hl; exact ⟨o9, S₂.froz (.tail _ (.head _)) _ _ h9, r9⟩) (by rw [List.size_toArray, hvl]; exact nat_fit (Nat.lt_succ_of_le hn) (by decide)) ?_
      rw [List.size_toArray, hvl]
      dsimp only
      repeat' walk1
      · rename_i h3len
        have h3' : 3 < vs.length := by rw [hvl]; exact Int.ofNat_lt.mp h3len
        refine lSlice (s := ⟨_, _, _, _, _⟩) S₂ (items := vs.toArray) (by obtain ⟨o9, h9, r9⟩ := hl; exact ⟨o9, S₂.froz (.tail _ (.head _)) _ _ h9, r9⟩) (.int 3 _) (.int 8 _) (by rw [List.size_toArray, hvl]; exact Nat.le_trans hn (by decide)) fun a1 h9 n9 e9 S₈ => ?_
        have hsl : (slicePick vs.toArray (some 3) (some 8) none).toList = (vs.drop 3).take (min 8 vs.length - 3) := by
          rw [slicePick_plain]
          simp only [Option.elim, List.size_toArray]
          rw [show ((3 : Int)) = ((3 : Nat) : Int) from rfl, show ((8 : Int)) = ((8 : Nat) : Int) from rfl, clipAt_nat, clipAt_nat, show min 3 vs.length = 3 from Nat.min_eq_left (Nat.le_of_lt h3')]
        have hlen8 : (slicePick vs.toArray (some 3) (some 8) none).size = min 8 vs.length - 3 := by
          rw [← Array.length_toList, hsl, List.length_take, List.length_drop]; exact Nat.min_eq_left (Nat.sub_le_sub_right (Nat.min_le_right 8 _) 3)
        refine hq8 _ _ ⟨h9, _, a1, _, 0, rfl, rfl, fun x hx => ?_, by rw [hlen8]; exact Nat.sub_pos_of_lt (Nat.lt_min.mpr ⟨by decide, h3'⟩), by rw [hlen8]; exact Nat.sub_le_sub_right (Nat.min_le_left 8 _) 3, S₈⟩
        rw [hsl] at hx
        have hx' := List.mem_of_mem_drop (List.mem_of_mem_take hx)
        obtain ⟨i, hi9, rfl⟩ := List.getElem_of_mem hx'
        obtain ⟨t, ht⟩ := ints_at hi i (by omega)
        rw [List.getElem?_eq_getElem hi9] at ht
        exact ⟨_, t, Option.some.inj ht⟩
      · have S₄ := ‹St _ _ _ _ _›
        exact hq8 _ _ ⟨_, _, _, _, 0, rfl, rfl, fun x hx => ⟨_, _, List.mem_singleton.mp hx⟩, Nat.le_refl 1, (show (1 : Nat) ≤ 5 by decide), S₄⟩
    · rintro v s' ⟨h3, k3, D, items, n, rfl, rfl, hint, hsz1, hsz2, S₃⟩
      obtain ⟨zD, hzD, _, S₄⟩ := S₃.freeze1
      clear S₃ S₂
      refine for_list (items := items.toList) (by exact am.hd) rfl S₄.nil (.tail _ (.head _)) ⟨_, hzD, rfl, n, by simp⟩ (fun i zs m own => ∃ zacc vs' kk ps, zs = [zacc, zD, z1, s.heap] ∧ own = [(a, listOf (List.toArray vs') kk), (L + 1 + 1 + 1, o1), (L + 1 + 1, o2), (L + 1, o3)] ∧ (∀ p ∈ ps, p.1 ∈ NAMES ∧ p.2 ∈ VALUES) ∧ ps.length = i ∧ Paired (fun p v => PairV p zacc v) ps vs' ∧ m (PySem.Str.ofString "pairs") = some (.ref a) ∧ m (PySem.Str.ofString "numbers") = some (.ref D1))
        ⟨{}, [], 0, [], rfl, rfl, (fun p hp => nomatch hp), rfl, .nil, rfl, rfl⟩ (fun i zs m own h => by obtain ⟨_, _, _, _, rfl, _⟩ := h; exact .tail _ (.head _)) ?_ ?_
      · rintro i v zs m own s' I oI hv ⟨zacc, vs', kk, ps, rfl, rfl, hps, hpl, hP, hm1, hm2⟩ S₅ es
        have hv' : v ∈ items.toList := List.mem_of_getElem? hv
        have hil : i < items.size := by have := (List.getElem?_eq_some_iff.mp hv).1; simpa using this
        obtain ⟨num, tnum, rfl⟩ := hint v hv'
        rw [es]
        dsimp only
        clear S₄
        refine genT fun Q8 E8 hq8 he8 => ?_
        repeat' walk1
        rename_i S₆
        have hsm : s.heap ∈ [zacc, zD, z1, s.heap] := by simp
        refine names_ok (by exact am.sub S₆ hsm) fun h4 k4 v4 zN e4 f4 g4 b4 => ?_
        obtain ⟨aN, vN, nN, rfl, hN, pN⟩ := b4
        have S₇ := S₆.add e4 f4 g4
        clear S₆
        dsimp only
        repeat' walk1
        have q1 : ((if num < 0 then -num else num).fmod 20) = (((num.natAbs % 20 : Nat)) : Int) := by
          rw [abs_if num, Int.fmod_eq_emod_of_nonneg _ (by decide)]; rfl
        have hn20 : NAMES.length = 20 := by decide
        obtain ⟨bn, tn, hbn, hbn2, hxn⟩ := bl_at pN (num.natAbs % 20) (by rw [hn20]; exact Nat.mod_lt _ (by decide))
        refine item_listR (listAt hN (S₇.froz (.head _))) (by rw [q1]; exact Int.natCast_nonneg _) (by rw [q1]; exact nat_fit (Nat.mod_lt _ (by decide)) (by decide)) (by rw [q1, Int.toNat_natCast]; exact hxn) ?_
        clear hxn hN pN
        dsimp only
        repeat' walk1
        refine values_ok (by exact am.sub S₇ (by walk_at "m_me")) fun h5 k5 v5 zW e5 f5 g5 b5 => ?_
        obtain ⟨aW, vW, nW, rfl, hW, pW⟩ := b5
        have S₈ := S₇.add e5 f5 g5
        clear S₇
        dsimp only
        repeat' walk1
        have q2 : (((if num < 0 then -num else num).fdiv 20).fmod 30) = (((num.natAbs / 20 % 30 : Nat)) : Int) := by
          rw [abs_if num, Int.fdiv_eq_ediv_of_nonneg _ (by decide), Int.fmod_eq_emod_of_nonneg _ (by decide)]; rfl
        have hn30 : VALUES.length = 30 := by decide
        obtain ⟨bv, tv, hbv, hbv2, hxv⟩ := bl_at pW (num.natAbs / 20 % 30) (by rw [hn30]; exact Nat.mod_lt _ (by decide))
        refine item_listR (listAt hW (S₈.froz (.head _))) (by rw [q2]; exact Int.natCast_nonneg _) (by rw [q2]; exact nat_fit (Nat.mod_lt _ (by decide)) (by decide)) (by rw [q2, Int.toNat_natCast]; exact hxv) ?_
        clear hxv hW pW
        have hk : vs'.length ≤ 1000 := by rw [← hP.length, hpl]; exact Nat.le_trans (Nat.le_of_lt hil) (Nat.le_trans hsz2 (by decide))
        dsimp only
        repeat' walk1
        have S₉ := ‹St _ _ _ (_ :: _ :: _ :: _ :: _) _›
        obtain ⟨z', x1, x2, x3, S₁⟩ := S₉.nil.freezePair (p := (bn, bv)) (z₀ := {}) (z := zacc) (by walk_at "m_me") (.head _) (fun a o _ => rfl) ⟨_, rfl⟩ ⟨_, rfl⟩
        refine hq8 _ _ ⟨[z', zD, z1, s.heap], _, _, S₁.part (List.Sublist.refl _) (by exact List.Sublist.subset (by walk_at "m_sl")), ⟨z', vs' ++ [.ref _], kk + 1, ps ++ [(bn, bv)], rfl, by simp, ?_, by simp [hpl], (hP.mono fun _ _ h => h.ext x1).snoc x3, hm1, hm2⟩, rfl⟩
        intro p hp
        rcases List.mem_append.mp hp with hp | hp
        · exact hps p hp
        · rw [List.mem_singleton.mp hp]; exact ⟨hbn, hbv⟩
      · rintro zs m own h' tk' ⟨zacc, vs', kk, ps, rfl, rfl, hps, hpl, hP, hm1, hm2⟩ S₅
        have e9 : items.toList.length = items.size := by simp
        exact hq9 _ ⟨h', _, zacc, vs', kk, ps, m, rfl, hps, by rw [hpl, e9]; exact hsz1, by rw [hpl, e9]; exact hsz2, hP, hm1, hm2, S₅.part (List.Sublist.refl _) (by exact List.Sublist.subset (by walk_at "m_sl"))⟩
  rintro s' ⟨h3, k3, z2, vs1, kk, ps, m1, rfl, hps, hpl1, hpl2, hP1, hm1, hm2, S₃⟩
  clear S₂
  dsimp only
  walk1
  refine cut_stmtQ (fun s' => ∃ h4 k4 zacc vs' kk ps m, s' = { s with heap := h4, toks := k4 } ∧ (∀ p ∈ ps, p.1 ∈ NAMES ∧ p.2.size ≤ 100) ∧ 1 ≤ ps.length ∧ ps.length ≤ 5 ∧ Paired (fun p v => PairV p zacc v) ps vs' ∧ m (PySem.Str.ofString "pairs") = some (.ref a) ∧ m (PySem.Str.ofString "numbers") = some (.ref D1) ∧
    St [zacc, z1, s.heap] L m [(a, listOf (List.toArray vs') kk), (L + 1 + 1 + 1, o1), (L + 1 + 1, o2), (L + 1, o3)] h4) (fun Q9 E9 hq9 he9 => ?_) ?_
  · obtain ⟨N, eN⟩ : ∃ N : Nat, numK ns 0 = (N : Int) := ⟨_, (Int.toNat_of_nonneg (numK_nonneg ns 0 (by decide))).symm⟩
    rw [eN] at hz1
    repeat' walk1
    refine item_num0 hz1 (S₃.froz (by walk_at "m_me")) ?_
    repeat' walk1
    · refine item_num0 hz1 (St.froz ‹St _ L _ _ _› (by walk_at "m_me")) ?_
      repeat' walk1
      have S₄ := ‹St _ L _ _ _›
      have hvl1 : vs1.length = ps.length := hP1.length.symm
      refine len_list (items := vs1.toArray) ⟨_, S₄.mine _ (.head _), rfl, kk, rfl⟩ (by rw [List.size_toArray, hvl1]; exact nat_fit (Nat.lt_succ_of_le hpl2) (by decide)) ?_
      rw [List.size_toArray, hvl1]
      dsimp only
      repeat' walk1
      obtain ⟨k, hk, ek⟩ : ∃ k : Nat, k < ps.length ∧ (((N : Int)).fdiv 4).fmod (ps.length : Int) = (k : Int) := ⟨N / 4 % ps.length, Nat.mod_lt _ (by omega), by
        rw [Int.fdiv_eq_ediv_of_nonneg _ (by decide), Int.fmod_eq_emod_of_nonneg _ (by omega)]; rfl⟩
      have hpk := pair_at hP1 k hk (by rw [hvl1]; exact hk)
      have hpm : ps[k] ∈ ps := List.getElem_mem hk
      generalize ps[k] = p at hpk hpm
      have hi1 : vs1[k]? = some vs1[k] := List.getElem?_eq_getElem (by rw [hvl1]; exact hk)
      generalize vs1[k] = pv at hpk hi1
      obtain ⟨bn, bv⟩ := p
      obtain ⟨ta, v1, v2, rfl, ht, ⟨t1', e1⟩, ⟨t2', e2⟩⟩ := hpk
      dsimp only at e1 e2
      subst e1 e2
      have hnm := hps _ hpm
      dsimp only at hnm
      have hbz : bv.size ≤ 1000 := Nat.le_trans (values_size _ hnm.2) (by decide)
      have S₅ := ‹St _ L _ _ _›
      refine item_list (items := vs1.toArray) (x := .ref ta) ⟨_, S₅.mine _ (.head _), rfl, kk, rfl⟩ (by rw [ek]; exact Int.natCast_nonneg _) (by rw [ek]; exact nat_fit hk (Nat.le_trans hpl2 (by decide))) (by rw [ek, Int.toNat_natCast]; simpa using hi1) ?_
      refine unpackSt (by exact am.hd) S₅ (by obtain ⟨o9, h9, r9⟩ := ht; exact ⟨o9, S₅.froz (.head _) _ _ h9, r9⟩) rfl rfl fun h₅ e5 S₆ => ?_
      try clear S₅
      dsimp only
      repeat' walk1
      refine item_num0 hz1 (St.froz ‹St _ L _ _ _› (by walk_at "m_me")) ?_
      repeat' walk1
      refine item_num0 hz1 (St.froz ‹St _ L _ _ _› (by walk_at "m_me")) ?_
      repeat' walk1
      have S₇ := ‹St _ L _ (_ :: _ :: _) _›
      refine call_bytes_ints (listAt (S₇.mine _ (.head _)) (fun _ _ h => h)) (.cons _ _ .nil) (by intro n hn; rw [List.mem_singleton.mp hn, Int.fmod_eq_emod_of_nonneg _ (by decide)]; exact ⟨Int.emod_nonneg _ (by decide), Int.emod_lt_of_pos _ (by decide)⟩) (by rw [sizeLine_eq]; simp) (by exact am.hd) fun h7 t7 k7 e7 => ?_
      replace S₇ := S₇.drop.ext e7
      dsimp only
      have hb100 : bv.size ≤ 30 := values_size _ hnm.2
      have c1z : (cutB bv none (some (((N : Int).fdiv 20).fmod ((bv.size : Int) + 1)))).size ≤ bv.size := cutB_size
      have c2z : (byteArr [(((N : Int).fdiv 20).fdiv ((bv.size : Int) + 1)).fmod 256]).size = 1 := by rw [byteArr_size]; rfl
      generalize cutB bv none (some (((N : Int).fdiv 20).fmod ((bv.size : Int) + 1))) = c1 at c1z
      generalize byteArr [(((N : Int).fdiv 20).fdiv ((bv.size : Int) + 1)).fmod 256] = c2 at c2z
      refine KBy.add_bytes (by rw [c2z]; exact Nat.le_trans (Nat.add_le_add_right (Nat.le_trans c1z hb100) 1) (by decide)) ?_
      intro t8 k8
      repeat' walk1
      have c3z : (cutB bv (some ((((N : Int).fdiv 20).fmod ((bv.size : Int) + 1)) + 1)) none).size ≤ bv.size := cutB_size
      generalize cutB bv (some ((((N : Int).fdiv 20).fmod ((bv.size : Int) + 1)) + 1)) none = c3 at c3z
      refine KBy.add_bytes (by rw [Array.size_append]; omega) ?_
      intro t9 k9
      repeat' walk1
      have S₈ := ‹St _ L _ (_ :: _ :: _) _›
      rw [ek]
      refine stSetItem (pre := [_]) S₈ (nat_fit hk (Nat.le_trans hpl2 (by decide))) (by rw [hvl1]; exact hk) fun h8 S₉ => ?_
      try clear S₈
      dsimp only [List.cons_append, List.nil_append] at S₉
      obtain ⟨z', x1, x2, x3, S₁⟩ := S₉.nil.freezePair (p := (bn, c1 ++ c2 ++ c3)) (z₀ := {}) (z := z2) (by walk_at "m_me") (.head _) (fun a o _ => rfl) ⟨_, rfl⟩ ⟨_, rfl⟩
      dsimp only
      repeat' walk1
      refine hq9 _ ⟨_, _, z', vs1.set k _, kk, ps.set k (bn, c1 ++ c2 ++ c3), _, rfl, fun p hp => ?_, by rw [List.length_set]; exact hpl1, by rw [List.length_set]; exact hpl2, Paired.setAt (hP1.mono fun _ _ h => h.ext x1) x3 k, by exact hm1, by exact hm2, S₁.part (List.Sublist.refl _) (by exact List.Sublist.subset (by walk_at "m_sl"))⟩
      rcases List.mem_or_eq_of_mem_set hp with hp | rfl
      · exact ⟨(hps p hp).1, Nat.le_trans (values_size _ (hps p hp).2) (by decide)⟩
      · exact ⟨hnm.1, by simp only [Array.size_append]; rw [c2z]; exact Nat.le_trans (Nat.add_le_add (Nat.add_le_add_right (Nat.le_trans c1z hb100) 1) (Nat.le_trans c3z hb100)) (by decide)⟩
    · have S₄ := ‹St _ L _ _ _›
      exact hq9 _ ⟨_, _, z2, vs1, kk, ps, _, rfl, fun p hp => ⟨(hps p hp).1, Nat.le_trans (values_size _ (hps p hp).2) (by decide)⟩, hpl1, hpl2, hP1, hm1, hm2, S₄⟩
  rintro s' ⟨h4, k4, z2, vs2, kk, ps, m2, rfl, hps, hpl1, hpl2, hP2, hm1, hm2, S₄⟩
  clear S₃
  dsimp only
  walk1
  refine cut_stmtQ (fun s' => ∃ h5 k5 g kg m, s' = { s with heap := h5, toks := k5 } ∧ m (PySem.Str.ofString "pairs") = some (.ref a) ∧ m (PySem.Str.ofString "numbers") = some (.ref D1) ∧ m (PySem.Str.ofString "given") = some (.ref g) ∧
    St [z2, z1, s.heap] L m [(g, listOf #[] kg), (a, listOf (List.toArray vs2) kk), (L + 1 + 1 + 1, o1), (L + 1 + 1, o2), (L + 1, o3)] h5) (fun Q9 E9 hq9 he9 => ?_) ?_
  · repeat' walk1
    have S₆ := ‹St _ L _ _ _›
    exact hq9 _ ⟨_, _, _, _, _, rfl, by exact hm1, by exact hm2, by exact rfl, S₆⟩
  rintro s' ⟨h5, k5, g, kg, m3, rfl, hm1, hm2, hm3, S₅⟩
  clear S₄
  dsimp only
  walk1
  refine cut_stmtQ (fun s' => ∃ h6 k6 zg gv kg m, s' = { s with heap := h6, toks := k6 } ∧ m (PySem.Str.ofString "pairs") = some (.ref a) ∧ m (PySem.Str.ofString "numbers") = some (.ref D1) ∧ m (PySem.Str.ofString "given") = some (.ref g) ∧ Paired (fun p v => PairT p zg v) ps gv ∧
    St [zg, z2, z1, s.heap] L m [(g, listOf (List.toArray gv) kg), (a, listOf (List.toArray vs2) kk), (L + 1 + 1 + 1, o1), (L + 1 + 1, o2), (L + 1, o3)] h6) (fun Q9 E9 hq9 he9 => ?_) ?_
  · have hvl2 : vs2.length = ps.length := hP2.length.symm
    refine wpAny_For ?_ (by intro _; exact rfl)
    repeat' walk1
    refine len_list (items := vs2.toArray) ⟨_, S₅.mine _ (.tail _ (.head _)), rfl, kk, rfl⟩ (by rw [List.size_toArray, hvl2]; exact nat_fit (Nat.lt_succ_of_le hpl2) (by decide)) ?_
    rw [List.size_toArray, hvl2]
    dsimp only
    repeat' walk1
    refine call_range_1 ?_
    have S₆ := S₅.push { cls := .type "range", data := .fields #[.int 0 (k5 + 1 + 1), .int ps.length (k5 + 1), .int 1 (k5 + 1 + 1 + 1)] }
    refine for_range (by exact am.hd) rfl S₆.drop.nil (.tail _ (.head _)) (S₆.mine _ (.head _)) (by omega) (fun i zs m own => ∃ zg gv kg, zs = [zg, z2, z1, s.heap] ∧ own = [(g, listOf (List.toArray gv) kg), (a, listOf (List.toArray vs2) kk), (L + 1 + 1 + 1, o1), (L + 1 + 1, o2), (L + 1, o3)] ∧ Paired (fun p v => PairT p zg v) (ps.take i) gv ∧ m (PySem.Str.ofString "pairs") = some (.ref a) ∧ m (PySem.Str.ofString "numbers") = some (.ref D1) ∧ m (PySem.Str.ofString "given") = some (.ref g)) ⟨{}, [], kg, rfl, rfl, .nil, hm1, hm2, hm3⟩ (fun i zs m own h => by obtain ⟨_, _, _, rfl, _⟩ := h; exact .tail _ (.head _)) ?_ ?_
    · rintro i v zs m own s' I oI hi ⟨ti, rfl⟩ ⟨zg, gv, kg, rfl, rfl, hT, hm1, hm2, hm3⟩ S₇ es
      rw [es]
      dsimp only
      try clear S₆ S₅
      refine genT fun Q8 E8 hq8 he8 => ?_
      have hpi := pair_at hP2 i hi (by rw [hvl2]; exact hi)
      have hpm : ps[i] ∈ ps := List.getElem_mem hi
      have hpe : ps[i]? = some ps[i] := List.getElem?_eq_getElem hi
      generalize ps[i] = p at hpi hpm hpe
      have hi1 : vs2[i]? = some vs2[i] := List.getElem?_eq_getElem (by rw [hvl2]; exact hi)
      generalize vs2[i] = pv at hpi hi1
      obtain ⟨bn, bv⟩ := p
      obtain ⟨ta, v1, v2, rfl, ht, ⟨t1', e1⟩, ⟨t2', e2⟩⟩ := hpi
      dsimp only at e1 e2
      subst e1 e2
      have hnm := hps _ hpm
      dsimp only at hnm
      have hbz : bv.size ≤ 1000 := Nat.le_trans hnm.2 (by decide)
      have hnz : bn.size ≤ 1000 := Nat.le_trans (names_low _ hnm.1).2 (by decide)
      repeat' walk1
      have S₈ := ‹St _ L _ _ _›
      refine item_list (items := vs2.toArray) (x := .ref ta) ⟨_, S₈.mine _ (.tail _ (.tail _ (.head _))), rfl, kk, rfl⟩ (Int.natCast_nonneg _) (nat_fit hi (Nat.le_trans hpl2 (by decide))) (by rw [Int.toNat_natCast]; simpa using hi1) ?_
      refine unpackSt (by exact am.hd) S₈ (by obtain ⟨o9, h9, r9⟩ := ht; exact ⟨o9, S₈.froz (by walk_at "m_me") _ _ h9, r9⟩) rfl rfl fun h₅ e5 S₉ => ?_
      try clear S₈
      dsimp only
      repeat' walk1
      have hsz : (bn ++ bv).size ≤ 2000 := by rw [Array.size_append]; exact Nat.add_le_add hnz hbz
      have S₁ := ‹St _ L _ _ _›
      refine src_bytes (by exact am.hd) (by rw [sizeLine_eq]; omega) fun I₂ s₂ src => ?_
      refine ask_bytes src (fun c => decide ((127 : Int) < (c.toNat : Int))) (fun c y => ∃ t, y = .int (c.toNat : Int) t) ?_ ?_
      · rintro C c u s₃ m₃ E' z₃ hc e1 e2 S₃
        have am₃ := am.ext ((S₁.froz (by walk_at "m_me")).trans e1)
        unfold TurnA
        repeat' walk1
        all_goals first
          | exact tSkip (by assumption) (.head _) e2
          | exact tEnd (by assumption) (.head _) e2 ⟨_, rfl⟩
          | rfl
      · intro D' h' tk' ys nn z f1 f2 f3 f4 f5
        have S₂ := S₁.add f1 f3 f2
        try clear S₁ src
        repeat' walk1
        have S₃ := ‹St _ L _ _ _›
        refine eq_empty (by exact am.cl) (listAt f4 (S₃.froz (.head _))) (listAt (S₃.mine _ (.head _)) (fun _ _ h => h)) ?_
        replace S₃ := S₃.drop
        try clear S₂
        have hkg : gv.length ≤ 1000 := by rw [← hT.length]; exact Nat.le_trans ((List.take_sublist _ _).length_le) (Nat.le_trans hpl2 (by decide))
        have hstep : ps.take (i + 1) = ps.take i ++ [(bn, bv)] := by rw [List.take_add_one, hpe]; rfl
        by_cases hy0 : ys.size = 0
        · rw [decide_eq_true hy0]
          have hfl : (bn ++ bv).toList.filter (fun c => decide ((127 : Int) < (c.toNat : Int))) = [] := by
            have h1 := f5.length
            rw [show ys.toList.length = 0 by simpa using hy0] at h1
            exact List.eq_nil_of_length_eq_zero h1
          rw [List.filter_eq_nil_iff] at hfl
          have hbn : ∀ c ∈ bn.toList, c.toNat ≤ 127 := fun c hc => by
            have := hfl c (by rw [Array.toList_append]; exact List.mem_append_left _ hc)
            simp only [decide_eq_true_eq] at this; omega
          have hbv : ∀ c ∈ bv.toList, c.toNat ≤ 127 := fun c hc => by
            have := hfl c (by rw [Array.toList_append]; exact List.mem_append_right _ hc)
            simp only [decide_eq_true_eq] at this; omega
          repeat' first
            | walk1
            | refine item_num0 hz1 (St.froz ‹St _ L _ _ _› (by walk_at "m_me")) ?_
            | (with_reducible rename St _ _ _ _ _ => S9
               refine text_ok (by exact am.sub S9 (by walk_at "m_me")) (by assumption) (by assumption) fun h9 k9 t9 e9 => ?_
               replace S9 := S9.ext e9
               dsimp only)
          all_goals
            have S₅ := ‹St _ L _ (_ :: _ :: _ :: _ :: _) _›
            obtain ⟨z', x1, x3, S₆⟩ := S₅.freezePairT (p := (bn, bv)) (z := zg) (by walk_at "m_me") (by first | exact .inl ⟨_, rfl⟩ | exact tb_text (by assumption)) (by first | exact .inl ⟨_, rfl⟩ | exact tb_text (by assumption))
            refine hq8 _ _ ⟨[z', z2, z1, s.heap], _, _, S₆.part (List.Sublist.refl _) (by exact List.Sublist.subset (by walk_at "m_sl")), ⟨z', gv ++ [.ref _], kg + 1, rfl, by simp <;> rfl, ?_, by exact hm1, by exact hm2, by exact hm3⟩, rfl⟩
            rw [hstep]
            exact (hT.mono fun _ _ h => PairT.ext h x1).snoc x3
        · rw [decide_eq_false hy0]
          repeat' walk1
          all_goals
            have S₅ := ‹St _ L _ (_ :: _ :: _ :: _ :: _) _›
            obtain ⟨z', x1, x3, S₆⟩ := S₅.freezePairT (p := (bn, bv)) (z := zg) (by walk_at "m_me") (by first | exact .inl ⟨_, rfl⟩ | exact tb_text (by assumption)) (by first | exact .inl ⟨_, rfl⟩ | exact tb_text (by assumption))
            refine hq8 _ _ ⟨[z', z2, z1, s.heap], _, _, S₆.part (List.Sublist.refl _) (by exact List.Sublist.subset (by walk_at "m_sl")), ⟨z', gv ++ [.ref _], kg + 1, rfl, by simp <;> rfl, ?_, by exact hm1, by exact hm2, by exact hm3⟩, rfl⟩
            rw [hstep]
            exact (hT.mono fun _ _ h => PairT.ext h x1).snoc x3
    · rintro zs m own h' tk' ⟨zg, gv, kg, rfl, rfl, hT, hm1, hm2, hm3⟩ S₇
      rw [List.take_length] at hT
      exact hq9 _ ⟨h', _, zg, gv, kg, m, rfl, hm1, hm2, hm3, hT, S₇⟩
  rintro s' ⟨h6, k6, zg, gv, kg, m4, rfl, hm1, hm2, hm3, hT, S₆⟩
  clear S₅
  dsimp only
  have hsm : SmallP ps := ⟨by omega, fun p hp => ⟨Nat.le_trans (names_low _ (hps p hp).1).2 (by decide), Nat.le_trans (hps p hp).2 (by decide)⟩⟩
  walk1
  refine cut_stmtQ (fun s' => ∃ h7 k7 zD dv m, s' = { s with heap := h7, toks := k7 } ∧ m (PySem.Str.ofString "numbers") = some (.ref D1) ∧ m (PySem.Str.ofString "given") = some (.ref g) ∧ m (PySem.Str.ofString "due") = some dv ∧
    ((∃ k t, duePs ps = .error k ∧ dv = .int k t) ∨ (∃ d, duePs ps = .ok d ∧ PList d.told zD dv)) ∧
    St [zD, zg, z2, z1, s.heap] L m [(g, listOf (List.toArray gv) kg), (a, listOf (List.toArray vs2) kk), (L + 1 + 1 + 1, o1), (L + 1 + 1, o2), (L + 1, o3)] h7) (fun Q9 E9 hq9 he9 => ?_) ?_
  · repeat' walk1
    refine due_ok (ps := ps) (by exact am.sub S₆ (by walk_at "m_me")) ⟨a, vs2.toArray, kk, rfl, S₆.mine _ (.tail _ (.head _)), hP2.mono fun p v x => x.ext (S₆.froz (by walk_at "m_me"))⟩ hsm (fun h7 k7 k t hd e7 => ?_) (fun h7 k7 v zD d hd e7 f7 n7 hl7 => ?_)
    · have S₇ := S₆.ext e7
      try clear S₆
      dsimp only
      repeat' walk1
      have S₈ := ‹St _ L _ _ _›
      exact hq9 _ ⟨_, _, {}, _, _, rfl, by exact hm2, by exact hm3, by exact rfl, .inl ⟨k, t, hd, rfl⟩, S₈.nil⟩
    · have S₇ := S₆.add e7 f7 n7
      try clear S₆
      dsimp only
      repeat' walk1
      have S₈ := ‹St _ L _ _ _›
      exact hq9 _ ⟨_, _, zD, _, _, rfl, by exact hm2, by exact hm3, by exact rfl, .inr ⟨d, hd, hl7⟩, S₈⟩
  rintro s' ⟨h7, k7, zD, dv, m5, rfl, hm2, hm3, hm4, hD, S₇⟩
  clear S₆
  dsimp only
  walk1
  refine cut_stmtQ (fun s' => ∃ h8 k8 zt tv m, s' = { s with heap := h8, toks := k8 } ∧ m (PySem.Str.ofString "numbers") = some (.ref D1) ∧ m (PySem.Str.ofString "due") = some dv ∧ m (PySem.Str.ofString "told") = some tv ∧
    ((∃ k t, navPs ps = .error k ∧ tv = .int k t) ∨ (∃ d x, navPs ps = .ok d ∧ tv = .ref x ∧ HdrV w d.told zt x)) ∧
    St [zt, zD, z1, s.heap] L m [(L + 1 + 1 + 1, o1), (L + 1 + 1, o2), (L + 1, o3)] h8) (fun Q9 E9 hq9 he9 => ?_) ?_
  · repeat' walk1
    refine law_list_ok (hb := s.heap) (ps := ps) po (by exact am.sub S₇ (by walk_at "m_me")) ⟨⟨_, _, _, am⟩, S₇.froz (by walk_at "m_me"), fun b hb => ?_⟩ ⟨g, gv.toArray, kg, rfl, S₇.mine _ (.head _), hT.mono fun p v x => PairT.ext x (S₇.froz (by walk_at "m_me"))⟩ hsm (fun h8 k8 k t hd e8 => ?_) (fun h8 k8 x zt d hd e8 f8 n8 hl8 => ?_)
    · simp only [fsOf, List.filterMap_cons, List.filterMap_nil, List.mem_cons, List.not_mem_nil, or_false] at hb
      rw [hb]
      exact (S₇.fz s.heap (by simp)).2 L (.head _)
    · have S₈ := S₇.extF e8 (fun b hb => by
        simp only [fsOf, List.filterMap_cons, List.filterMap_nil, List.mem_cons, List.not_mem_nil, or_false] at hb
        exact hb)
      try clear S₇
      dsimp only
      repeat' walk1
      have S₉ := ‹St _ L _ _ _›
      exact hq9 _ ⟨_, _, {}, _, _, rfl, by exact hm2, by exact hm4, by exact rfl, .inl ⟨k, t, hd, rfl⟩, S₉.nil.part (by walk_at "m_sl") (by exact List.Sublist.subset (by walk_at "m_sl"))⟩
    · have S₈ := S₇.add e8 f8 n8
      try clear S₇
      dsimp only
      repeat' walk1
      have S₉ := ‹St _ L _ _ _›
      exact hq9 _ ⟨_, _, zt, _, _, rfl, by exact hm2, by exact hm4, by exact rfl, .inr ⟨d, x, hd, rfl, hl8⟩, S₉.part (by walk_at "m_sl") (by exact List.Sublist.subset (by walk_at "m_sl"))⟩
  rintro s' ⟨h8, k8, zt, tv, m6, rfl, hm2, hm4, hm5, hN, S₈⟩
  clear S₇
  dsimp only
  have hsame := ps_same ps
  have hcase : (∃ k t t', tv = .int k t ∧ dv = .int k t') ∨ (∃ n d x, duePs ps = .ok d ∧ PList d.told zD dv ∧ tv = .ref x ∧ HdrV w n.told zt x ∧ Rel n d) := by
    rcases hN with ⟨k, t, hn1, rfl⟩ | ⟨n, x, hn1, rfl, hH⟩
    · rcases hD with ⟨k', t', hd1, rfl⟩ | ⟨d, hd1, hpl⟩
      · rw [hn1, hd1] at hsame
        obtain rfl : k = k' := hsame
        exact .inl ⟨k, t, t', rfl, rfl⟩
      · rw [hn1, hd1] at hsame; exact hsame.elim
    · rcases hD with ⟨k', t', hd1, rfl⟩ | ⟨d, hd1, hpl⟩
      · rw [hn1, hd1] at hsame; exact hsame.elim
      · rw [hn1, hd1] at hsame
        exact .inr ⟨n, d, x, hd1, hpl, rfl, hH, hsame⟩
  refine hcase.elim ?_ ?_
  · rintro ⟨k, t, t', rfl, rfl⟩
    repeat' walk1
    refine same_int_ok (by exact am.sub S₈ (by walk_at "m_me")) fun h9 k9 e9 => ?_
    replace S₈ := S₈.ext e9
    dsimp only
    repeat' walk1
    all_goals first
      | exact hQ _ _ _ (St.froz ‹St _ L _ _ _› (by walk_at "m_me")) (GMore.refl _)
  rintro ⟨n, d, x, hd, ⟨la', dvs, dn, rfl, hdl, hdp⟩, rfl, hH, R⟩
  clear hN hD hsame hcase
  have hdl5 : d.told.length ≤ 5 := Nat.le_trans (due_len hd) hpl2
  have hnl5 : n.told.length ≤ 5 := by have := congrArg List.length R.raw; rw [List.length_map] at this; omega
  have hdm := due_mem hd fun p hp => (hsm.2 p hp).2
  have hds : ∀ p ∈ d.told, p.1.size ≤ 1000 ∧ p.2.size ≤ 1000 ∧ lowB p.1 ≠ #[97] := fun p hp => by
    obtain ⟨⟨q, hq, e⟩, h2⟩ := hdm p hp
    have h3 := names_low _ (hps q hq).1
    rw [e]
    exact ⟨Nat.le_trans h3.2 (by decide), h2, h3.1⟩
  have hts : ∀ t ∈ n.told, t.1.size ≤ 1000 ∧ t.2.1.size ≤ 1000 ∧ t.2.2.size ≤ 1000 := fun t ht => by
    have h1 := hds (t.1, t.2.2) (by rw [← R.raw]; exact List.mem_map_of_mem (f := fun t : Trip => (t.1, t.2.2)) ht)
    have h2 := tell_low R.raw R.low t ht
    exact ⟨h1.1, by rw [h2]; simpa [lowB] using h1.1, h1.2.1⟩
  walk1
  refine cut_stmtQ (fun s' => ∃ h9 g9 k9, s' = { s with heap := h9, gens := g9, toks := k9 } ∧ GMore s.gens g9 ∧ St [zt, zD, z1, s.heap] L m6 [(L + 1 + 1 + 1, o1), (L + 1 + 1, o2), (L + 1, o3)] h9) (fun Q9 E9 hq9 he9 => ?_) ?_
  · repeat' walk1
    have S₉ := ‹St _ L _ _ _›
    refine same_ok (ds := d.told) (by exact am.sub S₉ (by walk_at "m_me")) (hH.ext (S₉.froz (by walk_at "m_me"))) ⟨la', dvs, dn, rfl, S₉.froz (by walk_at "m_me") _ _ hdl, hdp.mono fun p v x => x.ext (S₉.froz (by walk_at "m_me"))⟩ (by omega) R.raw R.low (fun p hp => (hds p hp).2.2) (fun p hp => ⟨(hds p hp).1, (hds p hp).2.1⟩) fun h9 g9 k9 e9 n9 => ?_
    try clear S₈
    replace S₉ := S₉.ext e9
    dsimp only
    repeat' walk1
    have S₈ := ‹St _ L _ _ _›
    exact hq9 _ ⟨_, _, _, rfl, n9, S₈⟩
  rintro s' ⟨h9, g9, k9, rfl, hg9, S₉⟩
  clear S₈
  dsimp only
  walk1
  refine cut_stmtQ (fun s' => ∃ h10 k10, s' = { s with heap := h10, gens := g9, toks := k10 } ∧ St [zt, zD, z1, s.heap] L m6 [(L + 1 + 1 + 1, o1), (L + 1 + 1, o2), (L + 1, o3)] h10) (fun Q9 E9 hq9 he9 => ?_) ?_
  · repeat' walk1
    refine isinst_list (kAt am ‹St _ L _ _ _› (by walk_at "m_me")) (St.froz ‹St _ L _ _ _› (by walk_at "m_me") _ _ hdl) fun tk => ?_
    dsimp only
    repeat' walk1
    have S₁ := ‹St _ L _ _ _›
    exact hq9 _ ⟨_, _, rfl, S₁⟩
  rintro s' ⟨h10, k10, rfl, S₁⟩
  clear S₉
  dsimp only
  obtain ⟨N1, eN1⟩ : ∃ N : Nat, numK ns 1 = (N : Int) := ⟨_, (Int.toNat_of_nonneg (numK_nonneg ns 1 (by decide))).symm⟩
  obtain ⟨N2, eN2⟩ : ∃ N : Nat, numK ns 2 = (N : Int) := ⟨_, (Int.toNat_of_nonneg (numK_nonneg ns 2 (by decide))).symm⟩
  rw [eN1, eN2] at hz1
  walk1
  refine cut_stmtQ (fun s' => ∃ h11 k11 o2 b tb, s' = { s with heap := h11, gens := g9, toks := k11 } ∧ o2.data = .cell (some (.bytes b tb)) ∧ SMALL[N1 % 5]? = some b ∧ St [zt, zD, z1, s.heap] L m6 [(L + 1 + 1 + 1, o1), (L + 1 + 1, o2), (L + 1, o3)] h11) (fun Q9 E9 hq9 he9 => ?_) ?_
  · repeat' walk1
    refine small_ok (by exact am.sub S₁ (by walk_at "m_me")) fun h4 k4 v4 zN e4 f4 g4 b4 => ?_
    obtain ⟨aN, vN, nN, rfl, hN, pN⟩ := b4
    have S₂ := S₁.add e4 f4 g4
    try clear S₁
    dsimp only
    repeat' walk1
    refine item_num1 hz1 (St.froz ‹St _ L _ _ _› (by walk_at "m_me")) ?_
    repeat' walk1
    have q1 : ((N1 : Int)).fmod 5 = ((N1 % 5 : Nat) : Int) := by rw [Int.fmod_eq_emod_of_nonneg _ (by decide)]; rfl
    have h5 : SMALL.length = 5 := by decide
    obtain ⟨b, tb, hb, hb2, hxb⟩ := bl_at pN (N1 % 5) (by rw [h5]; exact Nat.mod_lt _ (by decide))
    refine item_listR (listAt hN (St.froz ‹St _ L _ _ _› (.head _))) (by rw [q1]; exact Int.natCast_nonneg _) (by rw [q1]; exact nat_fit (Nat.mod_lt _ (by decide)) (by decide)) (by rw [q1, Int.toNat_natCast]; exact hxb) ?_
    dsimp only
    repeat' walk1
    have S₃ := ‹St _ L _ _ _›
    exact hq9 _ ⟨_, _, _, b, tb, rfl, ‹Obj.data _ = .cell (some (.bytes b tb))›, hb2, S₃.part (List.Sublist.refl _) (by exact List.Sublist.subset (by walk_at "m_sl"))⟩
  rintro s' ⟨h11, k11, o4, b, tb, rfl, hc4, hbS, S₂⟩
  try clear S₁
  dsimp only
  have hbz : b.size ≤ 1000 := Nat.le_trans (small_size _ (List.mem_of_getElem? hbS)) (by decide)
  walk1
  refine cut_stmtQ (fun s' => ∃ h12 k12 fa fk m, s' = { s with heap := h12, gens := g9, toks := k12 } ∧ m (PySem.Str.ofString "numbers") = some (.ref D1) ∧ m (PySem.Str.ofString "due") = some (.ref la') ∧ m (PySem.Str.ofString "told") = some (.ref x) ∧ m (PySem.Str.ofString "found") = some (.ref fa) ∧ St [zt, zD, z1, s.heap] L m [(fa, listOf #[] fk), (L + 1 + 1 + 1, o1), (L + 1 + 1, o4), (L + 1, o3)] h12) (fun Q9 E9 hq9 he9 => ?_) ?_
  · repeat' walk1
    have S₃ := ‹St _ L _ _ _›
    exact hq9 _ ⟨_, _, _, _, _, rfl, by exact hm2, by exact hm4, by exact hm5, by exact rfl, S₃⟩
  rintro s' ⟨h12, k12, fa, fk, m7, rfl, hm2, hm4, hm5, hm6, S₃⟩
  try clear S₂
  dsimp only
  walk1
  refine cut_stmtQ (fun s' => ∃ h13 k13 fv fa fk m, s' = { s with heap := h13, gens := g9, toks := k13 } ∧ m (PySem.Str.ofString "numbers") = some (.ref D1) ∧ m (PySem.Str.ofString "due") = some (.ref la') ∧ m (PySem.Str.ofString "told") = some (.ref x) ∧ m (PySem.Str.ofString "found") = some (.ref fa) ∧ fv.length ≤ 5 * 1002 ∧ Paired BV (d.told.flatMap (foundOf b)) fv ∧
    St [zt, zD, z1, s.heap] L m [(fa, listOf (List.toArray fv) fk), (L + 1 + 1 + 1, o1), (L + 1 + 1, o4), (L + 1, o3)] h13) (fun Q9 E9 hq9 he9 => ?_) ?_
  · refine wpAny_For ?_ (by intro _; exact rfl)
    repeat' walk1
    have hdvl : dvs.toList.length = d.told.length := hdp.length.symm
    refine for_list (items := dvs.toList) (by exact am.hd) rfl ‹St _ L _ _ _› (.tail _ (.head _)) ⟨_, hdl, rfl, dn, by simp⟩ (fun i zs m own => ∃ fv fa fk, zs = [zt, zD, z1, s.heap] ∧ own = [(fa, listOf (List.toArray fv) fk), (L + 1 + 1 + 1, o1), (L + 1 + 1, o4), (L + 1, o3)] ∧ fv.length ≤ i * 1002 ∧ Paired BV ((d.told.take i).flatMap (foundOf b)) fv ∧ m (PySem.Str.ofString "numbers") = some (.ref D1) ∧ m (PySem.Str.ofString "due") = some (.ref la') ∧ m (PySem.Str.ofString "told") = some (.ref x) ∧ m (PySem.Str.ofString "found") = some (.ref fa))
      ⟨[], fa, fk, rfl, rfl, Nat.zero_le _, .nil, hm2, hm4, hm5, hm6⟩ (fun i zs m own h => by obtain ⟨_, _, _, rfl, _⟩ := h; exact .tail _ (.head _)) ?_ ?_
    · rintro i v zs m own s' I oI hv ⟨fv, fa, fk, rfl, rfl, hfl, hfP, hm2, hm4, hm5, hm6⟩ S₄ es
      have hi : i < d.told.length := by
        obtain ⟨h1, _⟩ := List.getElem?_eq_some_iff.mp hv
        omega
      have hp : d.told[i]? = some d.told[i] := List.getElem?_eq_getElem hi
      have hpv : PairV d.told[i] zD v := by
        obtain ⟨h1, h2⟩ := List.getElem?_eq_some_iff.mp hv
        rw [← h2]; exact pair_at hdp i hi h1
      have hpz := hds _ (List.getElem_mem hi)
      generalize d.told[i] = p at hp hpv hpz
      obtain ⟨bn, bv⟩ := p
      obtain ⟨ta, v1, v2, rfl, ht, ⟨t1', e1⟩, ⟨t2', e2⟩⟩ := hpv
      dsimp only at e1 e2 hpz
      subst e1 e2
      have hnz := hpz.1
      have hbvz := hpz.2.1
      have hstep : (d.told.take (i + 1)).flatMap (foundOf b) = (d.told.take i).flatMap (foundOf b) ++ foundOf b (bn, bv) := by
        rw [List.take_add_one, hp, List.flatMap_append]
        simp
      rw [es]
      dsimp only
      try clear S₃
      refine genT fun Q8 E8 hq8 he8 => ?_
      refine unpackSt (by exact am.hd) S₄ (by obtain ⟨o9, h9, r9⟩ := ht; exact ⟨o9, S₄.froz (by walk_at "m_me") _ _ h9, r9⟩) rfl rfl fun h₅ e5 S₅ => ?_
      try clear S₄
      dsimp only
      repeat' walk1
      · have S₅ := ‹St _ L _ (_ :: _ :: _ :: _ :: _) _›
        have hB := ‹BytesAre (splitB bv) _›
        have heq : lowB bn = b := arr_eq (by assumption)
        have hof : foundOf b (bn, bv) = (splitB bv).map fun q => lowB (trimB q) := if_pos heq
        have hsl := splitB_length bv
        have hBl := hB.length
        refine src_list (by exact am.hd) ⟨_, S₅.mine _ (.head _), rfl, 0, rfl⟩ (by rw [List.size_toArray, sizeLine_eq]; omega) fun I₂ s₂ src => ?_
        refine ask_items (splitB bv) BV hB src (fun _ => true) (fun _ q y => BV (lowB (trimB q)) y) (fun _ _ _ _ _ h => h) ?_ ?_
        · rintro C q v s₃ m₃ E' z₃ hq ⟨tq, rfl⟩ e1 e2 S₆
          have hqz : q.size ≤ 1000 := Nat.le_trans (splitB_size hq) hbvz
          have am₃ := am.ext ((S₅.froz (by walk_at "m_me")).trans e1)
          unfold TurnA
          repeat' walk1
          refine trim_ok (by exact (am.sub S₅ (by walk_at "m_me")).ext (e1.trans (St.froz ‹St [z₃] C _ _ _› (.head _)))) hqz fun h7 k7 t7 e7 => ?_
          with_reducible rename St [z₃] C _ _ _ => S9
          replace S9 := S9.ext e7
          have htz : (trimB q).size ≤ 1000 := Nat.le_trans trimB_size hqz
          dsimp only
          repeat' walk1
          exact tEnd (by assumption) (.head _) e2 ⟨_, rfl⟩
        · intro D' h' tk' ys nn z f1 f2 f3 f4 f5
          rw [List.filter_eq_self.mpr (fun _ _ => rfl)] at f5
          have S₆ := S₅.drop.add f1 f3 f2
          try clear S₅
          try clear src
          have hyl : ys.toList.length = (splitB bv).length := f5.length.symm
          have hys : ys.toList.length ≤ 1002 := by rw [hyl]; exact Nat.le_trans hsl (Nat.add_le_add_right hbvz 2)
          have hfl5 : fv.length ≤ 5010 := Nat.le_trans hfl (Nat.mul_le_mul_right 1002 (Nat.le_trans (Nat.le_of_lt hi) hdl5))
          dsimp only
          refine lAdd (s := ⟨_, _, _, _, _⟩) S₆ (vs := fv) (ws := ys.toList) ⟨_, S₆.mine _ (.tail _ (.head _)), rfl, fk, rfl⟩ (by simpa using listAt f4 (S₆.froz (.head _))) (Nat.le_trans (Nat.add_le_add hfl5 hys) (by decide)) fun a9 h9 n9 e9 S₇ => ?_
          try clear S₆
          dsimp only at S₇ ⊢
          repeat' walk1
          have S₈ := ‹St _ L _ _ _›
          have S₉ := S₈.swap.part (own' := [(I, oI), (a9, listOf (fv ++ ys.toList).toArray 0), (L + 1 + 1 + 1, o1), (L + 1 + 1, o4), (L + 1, o3)]) (zs' := [zt, zD, z1, s.heap]) (by walk_at "m_sl") (by exact List.Sublist.subset (by walk_at "m_sl"))
          refine hq8 _ _ ⟨[zt, zD, z1, s.heap], _, _, S₉, ⟨fv ++ ys.toList, a9, 0, rfl, rfl, ?_, ?_, by exact hm2, by exact hm4, by exact hm5, rfl⟩, rfl⟩
          · rw [List.length_append, Nat.succ_mul]; exact Nat.add_le_add hfl hys
          · rw [hstep, hof]; exact pairs_app hfP (pairs_mapL f5)
      · have hne : ¬ lowB bn = b := arr_ne (by assumption)
        have hof : foundOf b (bn, bv) = [] := if_neg hne
        have S₅ := ‹St _ L _ _ _›
        refine hq8 _ _ ⟨[zt, zD, z1, s.heap], _, _, S₅, ⟨fv, fa, fk, rfl, rfl, Nat.le_trans hfl (Nat.mul_le_mul_right _ (Nat.le_succ _)), by rw [hstep, hof, List.append_nil]; exact hfP, by exact hm2, by exact hm4, by exact hm5, by exact hm6⟩, rfl⟩
    · rintro zs m own h' tk' ⟨fv, fa, fk, rfl, rfl, hfl, hfP, hm2, hm4, hm5, hm6⟩ S₄
      rw [List.take_of_length_le (by omega)] at hfP
      exact hq9 _ ⟨_, _, fv, fa, fk, _, rfl, hm2, hm4, hm5, hm6, Nat.le_trans hfl (Nat.mul_le_mul_right _ (by rw [hdvl]; exact hdl5)), hfP, S₄⟩
  rintro s' ⟨h13, k13, fv, fa2, fk2, m8, rfl, hm2, hm4, hm5, hm6, hfl, hfP, S₄⟩
  try clear S₃
  dsimp only
  walk1
  refine cut_stmtQ (fun s' => ∃ h14 k14 m, s' = { s with heap := h14, gens := g9, toks := k14 } ∧ m (PySem.Str.ofString "numbers") = some (.ref D1) ∧ m (PySem.Str.ofString "due") = some (.ref la') ∧ m (PySem.Str.ofString "told") = some (.ref x) ∧ St [zt, zD, z1, s.heap] L m [(L + 1 + 1 + 1, o1), (L + 1 + 1, o4), (L + 1, o3)] h14) (fun Q9 E9 hq9 he9 => ?_) ?_
  · repeat' walk1
    have S₅ := ‹St _ L _ _ _›
    refine get_comma_ok (by exact am.sub S₅ (by walk_at "m_me")) (hH.ext (S₅.froz (by walk_at "m_me"))) hbz (by omega) (fun t ht => (hts t ht).2) fun h7 k7 v7 z7 e7 f7 n7 B7 => ?_
    obtain ⟨aC, vC, nC, rfl, hC, pC⟩ := B7
    have S₆ := S₅.add e7 f7 n7
    try clear S₅
    try clear S₄
    dsimp only
    repeat' walk1
    have S₇ := ‹St _ L _ _ _›
    refine src_list (by exact am.hd) ⟨_, S₇.mine _ (.head _), rfl, fk2, rfl⟩ (by rw [List.size_toArray, sizeLine_eq]; omega) fun I₂ s₂ src => ?_
    refine ask_items (d.told.flatMap (foundOf b)) BV hfP src (fun q => decide (q ≠ #[])) (fun _ q y => BV q y) (fun _ _ _ _ _ h => h) ?_ ?_
    · rintro C q v s₃ m₃ E' z₃ hq ⟨tq, rfl⟩ e1 e2 S₈
      have am₃ := am.ext ((S₇.froz (by walk_at "m_me")).trans e1)
      unfold TurnA
      repeat' walk1
      all_goals first
        | exact tSkip (by assumption) (.head _) e2
        | exact tEnd (by assumption) (.head _) e2 ⟨_, rfl⟩
        | exact bne_dec _ _
    · intro D' h' tk' ys nn z f1 f2 f3 f4 f5
      have S₈ := S₇.add f1 f3 f2
      try clear S₇
      try clear S₆
      try clear src
      dsimp only
      have hcs := comma_same b R.raw R.low R.okv
      refine list_nes (xs := vC.toList) (ys := ys.toList) (R := BV) (by exact am.cl) (by simpa using listAt hC (S₈.froz (.tail _ (.head _)))) (by simpa using listAt f4 (S₈.froz (.head _))) pC f5 (fun a v a' v' h h' => eqAt_bv h h') ?_
      rw [decide_eq_true hcs]
      replace S₈ := S₈.drop
      repeat' walk1
      have S₉ := ‹St _ L _ _ _›
      exact hq9 _ ⟨_, _, _, rfl, by exact hm2, by exact hm4, by exact hm5, S₉.part (by walk_at "m_sl") (by exact List.Sublist.subset (by walk_at "m_sl"))⟩
  rintro s' ⟨h14, k14, m9, rfl, hm2, hm4, hm5, S₅⟩
  try clear S₄
  dsimp only
  walk1
  refine cut_stmtQ (fun s' => ∃ h15 k15 ma mk mv ms m, s' = { s with heap := h15, gens := g9, toks := k15 } ∧ m (PySem.Str.ofString "numbers") = some (.ref D1) ∧ m (PySem.Str.ofString "due") = some (.ref la') ∧ m (PySem.Str.ofString "told") = some (.ref x) ∧ m (PySem.Str.ofString "members") = some (.ref ma) ∧ ms.length ≤ 2 ∧ (∀ v ∈ ms, v.size ≤ 1000) ∧ Paired BV ms mv ∧ St [zt, zD, z1, s.heap] L m [(ma, listOf (List.toArray mv) mk), (L + 1 + 1 + 1, o1), (L + 1 + 1, o4), (L + 1, o3)] h15) (fun Q9 E9 hq9 he9 => ?_) ?_
  · repeat' walk1
    have hn30 : VALUES.length = 30 := by decide
    refine values_ok (by exact am.sub S₅ (by walk_at "m_me")) fun h5 k5 v5 zW e5 f5 g5 b5 => ?_
    obtain ⟨aW, vW, nW, rfl, hW, pW⟩ := b5
    have S₆ := S₅.add e5 f5 g5
    try clear S₅
    dsimp only
    repeat' walk1
    refine item_num1 hz1 (St.froz ‹St _ L _ _ _› (by walk_at "m_me")) ?_
    repeat' walk1
    have q1 : ((N1 : Int).fdiv 15).fmod 30 = ((N1 / 15 % 30 : Nat) : Int) := by rw [Int.fdiv_eq_ediv_of_nonneg _ (by decide), Int.fmod_eq_emod_of_nonneg _ (by decide)]; rfl
    obtain ⟨b1, tb1, hb1, _, hx1⟩ := bl_at pW (N1 / 15 % 30) (by rw [hn30]; exact Nat.mod_lt _ (by decide))
    refine item_listR (listAt hW (St.froz ‹St _ L _ _ _› (.head _))) (by rw [q1]; exact Int.natCast_nonneg _) (by rw [q1]; exact nat_fit (Nat.mod_lt _ (by decide)) (by decide)) (by rw [q1, Int.toNat_natCast]; exact hx1) ?_
    dsimp only
    repeat' walk1
    refine values_ok (by exact am.sub ‹St _ L _ _ _› (by walk_at "m_me")) fun h7 k7 v7 zX e7 f7 g7 b7 => ?_
    obtain ⟨aX, vX, nX, rfl, hX, pX⟩ := b7
    with_reducible rename St _ _ _ _ _ => S₇
    replace S₇ := S₇.add e7 f7 g7
    dsimp only
    repeat' walk1
    refine item_num2 hz1 (St.froz ‹St _ L _ _ _› (by walk_at "m_me")) ?_
    repeat' walk1
    have q2 : ((N2 : Int)).fmod 30 = ((N2 % 30 : Nat) : Int) := by rw [Int.fmod_eq_emod_of_nonneg _ (by decide)]; rfl
    obtain ⟨b2, tb2, hb2, _, hx2⟩ := bl_at pX (N2 % 30) (by rw [hn30]; exact Nat.mod_lt _ (by decide))
    refine item_listR (listAt hX (St.froz ‹St _ L _ _ _› (.head _))) (by rw [q2]; exact Int.natCast_nonneg _) (by rw [q2]; exact nat_fit (Nat.mod_lt _ (by decide)) (by decide)) (by rw [q2, Int.toNat_natCast]; exact hx2) ?_
    dsimp only
    repeat' walk1
    refine item_num1 hz1 (St.froz ‹St _ L _ _ _› (by walk_at "m_me")) ?_
    repeat' walk1
    with_reducible rename St _ _ _ _ _ => S₈
    refine lSliceR (s := ⟨_, _, _, _, _⟩) S₈ (items := #[.bytes b1 tb1, .bytes b2 tb2]) (listAt (S₈.mine _ (.head _)) (fun _ _ h => h)) .none (.int ((((N1 : Int)).fdiv 5).fmod 3) _) (show (2 : Nat) ≤ 100000 by decide) fun a1 h9 n9 e9 S₉ => ?_
    dsimp only at S₉ ⊢
    repeat' walk1
    have S₁₀ := ‹St _ L _ ((a1, _) :: _) _›
    have hp : Paired BV ((([b1, b2] : List Oct).drop 0).take ((some ((((N1 : Int)).fdiv 5).fmod 3)).elim 2 (clipAt 2) - 0)) (slicePick #[.bytes b1 tb1, .bytes b2 tb2] none (some ((((N1 : Int)).fdiv 5).fmod 3)) none).toList := by
      rw [slicePick_plain]
      exact pairs_take (pairs_drop (.cons ⟨_, rfl⟩ (.cons ⟨_, rfl⟩ .nil)) _) _
    have S₁₁ := S₁₀.part (own' := [(a1, listOf (slicePick #[.bytes b1 tb1, .bytes b2 tb2] none (some ((((N1 : Int)).fdiv 5).fmod 3)) none) 0), (L + 1 + 1 + 1, o1), (L + 1 + 1, o4), (L + 1, o3)]) (zs' := [zt, zD, z1, s.heap]) (by walk_at "m_sl") (by exact List.Sublist.subset (by walk_at "m_sl"))
    refine hq9 _ ⟨_, _, a1, 0, (slicePick #[.bytes b1 tb1, .bytes b2 tb2] none (some ((((N1 : Int)).fdiv 5).fmod 3)) none).toList, _, _, rfl, by exact hm2, by exact hm4, by exact hm5, by exact rfl, ?_, fun v hv => ?_, hp, S₁₁⟩
    · exact Nat.le_trans ((List.take_sublist _ _).length_le) ((List.drop_sublist _ _).length_le)
    · have hv' := List.mem_of_mem_drop (List.mem_of_mem_take hv)
      simp only [List.mem_cons, List.not_mem_nil, or_false] at hv'
      rcases hv' with rfl | rfl
      · exact Nat.le_trans (values_size _ hb1) (by decide)
      · exact Nat.le_trans (values_size _ hb2) (by decide)
  rintro s' ⟨h15, k15, ma, mk, mv, ms, m10, rfl, hm2, hm4, hm5, hm7, hms2, hmsz, hmP, S₆⟩
  try clear S₅
  dsimp only
  have hgr : GREAT[N1 % 5]? = some (byteArr (titI b)) := by rw [← great_tit, List.getElem?_map, hbS]; rfl
  have hgl := great_low _ (List.mem_of_getElem? hgr)
  walk1
  refine cut_stmtQ (fun s' => ∃ h16 k16 o5 tg, s' = { s with heap := h16, gens := g9, toks := k16 } ∧ o5.data = .cell (some (.bytes (byteArr (titI b)) tg)) ∧ St [zt, zD, z1, s.heap] L m10 [(ma, listOf (List.toArray mv) mk), (L + 1 + 1 + 1, o5), (L + 1 + 1, o4), (L + 1, o3)] h16) (fun Q9 E9 hq9 he9 => ?_) ?_
  · repeat' walk1
    refine item_num1 hz1 (St.froz ‹St _ L _ _ _› (by walk_at "m_me")) ?_
    repeat' walk1
    with_reducible rename St _ _ _ _ _ => S₈
    have q1 : ((N1 : Int)).fmod 5 = ((N1 % 5 : Nat) : Int) := by rw [Int.fmod_eq_emod_of_nonneg _ (by decide)]; rfl
    have hg5 : GREAT.length = 5 := rfl
    have hL := listAt (S₈.mine _ (.head _)) (fun _ _ h => h)
    obtain ⟨bg, tg, _, hbg, hxg⟩ := bl_at (l := GREAT) (vs := #[.bytes _ k15, .bytes _ (k15 + 1), .bytes _ (k15 + 1 + 1), .bytes _ (k15 + 1 + 1 + 1), .bytes _ (k15 + 1 + 1 + 1 + 1)]) (.cons ⟨_, rfl⟩ (.cons ⟨_, rfl⟩ (.cons ⟨_, rfl⟩ (.cons ⟨_, rfl⟩ (.cons ⟨_, rfl⟩ .nil))))) (N1 % 5) (by rw [hg5]; exact Nat.mod_lt _ (by decide))
    obtain rfl : byteArr (titI b) = bg := Option.some.inj (hgr.symm.trans hbg)
    refine item_listR hL (by rw [q1]; exact Int.natCast_nonneg _) (by rw [q1]; exact nat_fit (Nat.mod_lt _ (by decide)) (by decide)) (by rw [q1, Int.toNat_natCast]; exact hxg) ?_
    clear hL hxg
    replace S₈ := S₈.drop
    dsimp only
    repeat' walk1
    have S₉ := ‹St _ L _ _ _›
    exact hq9 _ ⟨_, _, _, tg, rfl, ‹Obj.data _ = .cell (some (.bytes (byteArr (titI b)) tg))›, S₉⟩
  rintro s' ⟨h16, k16, o5, tg, rfl, hc5, S₇⟩
  try clear S₆
  dsimp only
  walk1
  refine cut_stmtQ (fun s' => ∃ h17 k17 zr ra rv rk m, s' = { s with heap := h17, gens := g9, toks := k17 } ∧ m (PySem.Str.ofString "told") = some (.ref x) ∧ m (PySem.Str.ofString "members") = some (.ref ma) ∧ m (PySem.Str.ofString "rest") = some (.ref ra) ∧ zr.get? ra = some (listOf rv rk) ∧ Paired (fun p v => PairV p zD v) (d.told.filter fun p => decide (lowB p.1 ≠ b)) rv.toList ∧
    St [zr, zt, zD, z1, s.heap] L m [(ma, listOf (List.toArray mv) mk), (L + 1 + 1 + 1, o5), (L + 1 + 1, o4), (L + 1, o3)] h17) (fun Q9 E9 hq9 he9 => ?_) ?_
  · repeat' walk1
    have S₈ := ‹St _ L _ _ _›
    have hdvl : dvs.toList.length = d.told.length := hdp.length.symm
    have hdvs : dvs.size ≤ 5 := by rw [← Array.length_toList]; omega
    refine src_list (by exact am.hd) ⟨_, S₈.froz (by walk_at "m_me") _ _ hdl, rfl, dn, rfl⟩ (by rw [sizeLine_eq]; omega) fun I₂ s₂ src => ?_
    refine ⟨_, S₈.ns, ask_items (hl := hdp) (src := src) d.told (fun p v => PairV p zD v) (fun p => decide (lowB p.1 ≠ b)) (fun _ p y => PairV p zD y) (fun _ _ _ _ _ h => h) ?_ ?_⟩
    · rintro C p v s₃ m₃ E' z₃ hp hpv e1 e2 S₉
      obtain ⟨ta, v1, v2, rfl, ht, ⟨t1', e1'⟩, ⟨t2', e2'⟩⟩ := hpv
      subst e1' e2'
      have hpz := (hds p hp).1
      have am₃ := am.ext ((S₈.froz (by walk_at "m_me")).trans e1)
      have hcl₃ : z₃.get? (L + 1 + 1) = some o4 := e1 _ _ (S₈.mine _ (.tail _ (.tail _ (.head _))))
      unfold TurnA
      repeat' walk1
      refine item_tupleT (j := 0) (by obtain ⟨o9, h9, r9⟩ := ht; exact ⟨o9, St.froz ‹St [z₃] C _ _ _› (.head _) _ _ (e1 _ _ (S₈.froz (by walk_at "m_me") _ _ h9)), r9⟩) (by decide) (by decide) rfl rfl ?_
      repeat' walk1
      all_goals first
        | exact tSkip (by assumption) (.head _) e2
        | exact tEnd (by assumption) (.head _) e2 ⟨ta, _, _, rfl, ht, ⟨_, rfl⟩, ⟨_, rfl⟩⟩
        | exact bne_dec _ _
    · intro D' h' tk' ys nn z f1 f2 f3 f4 f5 h'' tk'' hn9 hk9
      have S₉ := (S₈.add f1 f3 f2).setE hn9 hk9
      try clear S₇
      try clear S₈
      try clear src
      dsimp only
      repeat' walk1
      have S₁₀ := ‹St _ L _ _ _›
      exact hq9 _ ⟨_, _, z, D', ys, nn, _, rfl, by exact hm5, by exact hm7, by exact rfl, f4, f5, S₁₀⟩
  rintro s' ⟨h17, k17, zr, ra, rv, rk, m11, rfl, hm5, hm7, hm8, hra, hrP, S₈⟩
  try clear S₇
  dsimp only
  have hset := set_same b ms R.raw R.low
  have hgz := hgl.2
  generalize hgB : byteArr (titI b) = gB at hgl hgz hset hc5 hgr
  generalize hqs : (d.told.filter fun p => decide (lowB p.1 ≠ b)) = qs at hrP hset
  have hqs5 : qs.length ≤ 5 := by rw [← hqs]; exact Nat.le_trans (List.length_filter_le _ _) hdl5
  have hqsm : ∀ p ∈ qs, p ∈ d.told := fun p hp => by rw [← hqs] at hp; exact (List.mem_filter.mp hp).1
  repeat' walk1
  refine cut_valQ (fun v s' => ∃ h8 k8 zu, s' = { s with heap := h8, gens := g9, toks := k8 } ∧ ((∃ k t, navPs (qs ++ ms.map fun v => (gB, v)) = .error k ∧ v = .int k t) ∨ (∃ d2 x2, navPs (qs ++ ms.map fun v => (gB, v)) = .ok d2 ∧ v = .ref x2 ∧ HdrV w d2.told zu x2)) ∧
    St [zu, zr, zD, z1, s.heap] L m11 [(ma, listOf (List.toArray mv) mk), (L + 1 + 1 + 1, o5), (L + 1 + 1, o4), (L + 1, o3)] h8) (fun Q9 E9 hq9 he9 => ?_) ?_
  · have S₉ := ‹St _ L _ _ _›
    refine law_set_ok (hb := s.heap) (ms := ms) po (by exact am.sub S₉ (by walk_at "m_me")) ⟨⟨_, _, _, am⟩, S₉.froz (by walk_at "m_me"), fun b hb => ?_⟩ (hH.ext (S₉.froz (by walk_at "m_me"))) ⟨ma, mv.toArray, mk, rfl, S₉.mine _ (.head _), by simpa using hmP⟩ hbz (by omega) (by omega) hts hmsz (by rw [hgB]; exact hgz) (fun h8 k8 k t hd e8 => ?_) (fun h8 k8 x2 zt2 d2 hd e8 f8 n8 hl8 => ?_)
    · simp only [fsOf, List.filterMap_cons, List.filterMap_nil, List.mem_cons, List.not_mem_nil, or_false] at hb
      rw [hb]
      exact (S₉.fz s.heap (by simp)).2 L (.head _)
    · have S₁₀ := S₉.extF e8 (fun b hb => by
        simp only [fsOf, List.filterMap_cons, List.filterMap_nil, List.mem_cons, List.not_mem_nil, or_false] at hb
        exact hb)
      exact hq9 _ _ ⟨h8, k8, {}, rfl, .inl ⟨k, t, by rw [← hset]; exact hd, rfl⟩, S₁₀.nil.part (List.Sublist.refl _) (by exact List.Sublist.subset (by walk_at "m_sl"))⟩
    · exact hq9 _ _ ⟨h8, k8, zt2, rfl, .inr ⟨d2, x2, by rw [← hset]; exact hd, rfl, hl8⟩, (S₉.add e8 f8 n8).part (List.Sublist.refl _) (by exact List.Sublist.subset (by walk_at "m_sl"))⟩
  · rintro v s' ⟨h8, k8, zu, rfl, hV, S₉⟩
    try clear S₈
    try dsimp only
    repeat' walk1
    have S₁₀ := ‹St _ L _ _ _›
    have hml := hmP.length
    refine src_list (by exact am.hd) ⟨_, S₁₀.mine _ (.head _), rfl, mk, rfl⟩ (by rw [List.size_toArray, sizeLine_eq]; omega) fun I₂ s₂ src => ?_
    refine ask_items (hl := hmP) (src := src) ms BV (fun _ => true) (fun z q y => PairV (gB, q) z y) (fun _ _ _ _ e h => h.ext e) ?_ ?_
    · rintro C q v s₃ m₃ E' z₃ hq ⟨tq, rfl⟩ e1 e2 S₁₁
      have am₃ := am.ext ((S₁₀.froz (by walk_at "m_me")).trans e1)
      have hcl₃ : z₃.get? (L + 1 + 1 + 1) = some o5 := e1 _ _ (S₁₀.mine _ (.tail _ (.head _)))
      unfold TurnA
      repeat' walk1
      have S₁₂ := ‹St [z₃] C _ (_ :: _) _›
      exact tEndT S₁₂ (.head _) e2 fun z hz => ⟨_, _, _, rfl, ⟨_, hz, rfl, 0, rfl⟩, ⟨_, rfl⟩, ⟨_, rfl⟩⟩
    · intro D' h' tk' ys nn z f1 f2 f3 f4 f5
      rw [List.filter_eq_self.mpr (fun _ _ => rfl)] at f5
      have S₁₁ := S₁₀.add f1 f3 f2
      try clear S₁₀
      try clear S₉
      try clear src
      have hyl : ys.toList.length = ms.length := f5.length.symm
      have hrl : rv.toList.length = qs.length := hrP.length.symm
      refine lAdd (s := ⟨_, _, _, _, _⟩) S₁₁ (vs := rv.toList) (ws := ys.toList) (by simpa using listAt hra (S₁₁.froz (by walk_at "m_me"))) (by simpa using listAt f4 (S₁₁.froz (.head _))) (by rw [hrl, hyl]; exact Nat.le_trans (Nat.add_le_add hqs5 hms2) (by decide)) fun a9 h9 n9 e9 S₁₂ => ?_
      try clear S₁₁
      dsimp only at S₁₂ ⊢
      repeat' walk1
      have hP2' : Paired (fun p v => PairV p h9 v) (qs ++ ms.map fun v => (gB, v)) (rv.toList ++ ys.toList) :=
        pairs_app (hrP.mono fun _ _ h => h.ext (S₁₂.froz (by walk_at "m_me"))) (pairs_mapL (f5.mono fun _ _ h => h.ext (S₁₂.froz (.head _))))
      have hsm2 : SmallP (qs ++ ms.map fun v => (gB, v)) := by
        refine ⟨by rw [List.length_append, List.length_map]; omega, fun p hp => ?_⟩
        rcases List.mem_append.mp hp with hp | hp
        · exact ⟨(hds p (hqsm p hp)).1, (hds p (hqsm p hp)).2.1⟩
        · obtain ⟨v, hv, rfl⟩ := List.mem_map.mp hp
          exact ⟨hgz, hmsz v hv⟩
      have hna2 : ∀ p ∈ (qs ++ ms.map fun v => (gB, v)), lowB p.1 ≠ #[97] := fun p hp => by
        rcases List.mem_append.mp hp with hp | hp
        · exact (hds p (hqsm p hp)).2.2
        · obtain ⟨v, hv, rfl⟩ := List.mem_map.mp hp
          exact hgl.1
      have hlen2 : (qs ++ ms.map fun v => (gB, v)).length ≤ 7 := by rw [List.length_append, List.length_map]; exact Nat.add_le_add hqs5 hms2
      have hsame := ps_same (qs ++ ms.map fun v => (gB, v))
      generalize hql : (qs ++ ms.map fun v => (gB, v)) = ql at hP2' hsm2 hna2 hlen2 hsame hV
      have S₁₃ := ‹St _ L _ _ _›
      refine due_ok (ps := ql) (by exact am.sub S₁₃ (by walk_at "m_me")) ⟨a9, (rv.toList ++ ys.toList).toArray, 0, rfl, S₁₃.mine _ (.head _), by simpa using hP2'⟩ hsm2 (fun h10 k10 k t hd e10 => ?_) (fun h10 k10 v10 zE d3 hd e10 f10 n10 hl10 => ?_)
      · rcases hV with ⟨k', t', hn1, rfl⟩ | ⟨d2, x2, hn1, rfl, hH2⟩
        · rw [hn1, hd] at hsame
          obtain rfl : k' = k := hsame
          replace S₁₃ := S₁₃.ext e10
          try dsimp only
          repeat' walk1
          refine same_int_ok (by exact am.sub S₁₃ (by walk_at "m_me")) fun h11 k11 e11 => ?_
          exact hQ _ _ _ ((S₁₃.ext e11).froz (by walk_at "m_me")) hg9
        · rw [hn1, hd] at hsame; exact hsame.elim
      · rcases hV with ⟨k', t', hn1, rfl⟩ | ⟨d2, x2, hn1, rfl, hH2⟩
        · rw [hn1, hd] at hsame; exact hsame.elim
        · rw [hn1, hd] at hsame
          have R2 : Rel d2 d3 := hsame
          replace S₁₃ := S₁₃.add e10 f10 n10
          try dsimp only
          repeat' walk1
          have hd7 := due_len hd
          have hn7 : d2.told.length ≤ 7 := by have := congrArg List.length R2.raw; rw [List.length_map] at this; omega
          have hdm2 := due_mem hd fun p hp => (hsm2.2 p hp).2
          refine same_ok (ds := d3.told) (by exact am.sub S₁₃ (by walk_at "m_me")) (hH2.ext (S₁₃.froz (by walk_at "m_me"))) (hl10.ext (S₁₃.froz (.head _))) (by omega) R2.raw R2.low (fun p hp => ?_) (fun p hp => ?_) fun h11 g11 k11 e11 n11 => ?_
          · obtain ⟨⟨q, hq, e⟩, _⟩ := hdm2 p hp
            rw [e]; exact hna2 q hq
          · obtain ⟨⟨q, hq, e⟩, h2⟩ := hdm2 p hp
            rw [e]; exact ⟨(hsm2.2 q hq).1, h2⟩
          · exact hQ _ _ _ ((S₁₃.ext e11).froz (by walk_at "m_me")) (hg9.trans n11)
end
end
-- part F1
theorem start_F1 : True := by
  w_top off
  trivial
section
open Builtin Builtin.ObjectAttr Builtin.Getset_descriptor
open Sem (wp)
theorem law_po (w : World) : ProgOk PySem.Challenge.rw_jr0006_01.row.prog := by
  constructor
  · first | rfl | kernel_rfl
  · first | rfl | kernel_rfl
theorem law_holds : PySem.Challenge.rw_jr0006_01.Holds := Mine.hd (by
  intro w s₀ s₁ mg mb G Y fa o pm cd doc dV kV ho hd hcd hD hmg hg args vals as hpre hlay hrd hwl hlo
  have KX := kIn_of Y
  refine Ground.open G ?_
  intro T B D TE TW
  clear hd hD hcd B D TE TW ho
  wrow_args hpre hlay hrd hwl hlo
  rename_i ns _ _ _ _ _ _ _ la vs _ hL ra _ _ hI _ hlen _
  have hfa : fa = 275 := by
    have h1 := mg_of KX T.g (show nsIn (Mine.hd.heap_1 w.params) mainGlobals (Str.ofString "law") = some (some (.ref 275)) by k_is)
    have h2 : mg (Str.ofString "law") = some (.ref fa) := hmg
    rw [h1] at h2
    injection h2 with h2
    injection h2 with h2
    exact h2.symm
  subst hfa
  have am : Amb w callerA 20 200 [] s₁.heap := ⟨rfl, trivial, KX, ⟨_, _, _, _, _, T⟩, rfl, by decide, by decide⟩
  refine law_ok (law_po w) am hL hI (by omega) fun h' g' tk e g => ?_
  refine ⟨.inl ⟨.bool true, .bool true, [], rfl, fun _ => ?r1, .bool true, ?r2, fun _ => ⟨List.nodup_nil, fun a ha => nomatch ha⟩⟩, .of_keep e, rfl, fun x hx => ?r3⟩
  case r3 =>
    obtain ⟨i, hi, rfl⟩ := Array.mem_iff_getElem.mp hx
    rcases g i _ (Array.getElem?_eq_getElem hi) with h1 | h1
    · rw [hg] at h1; simp at h1
    · rw [h1]; rfl
  case r1 => exact (raisesW_false (by wrow_none_raised)) _
  case r2 => wrow_post)
end
end Mine
theorem PySem.Challenge.cw_jr0006_01_holds : PySem.Challenge.rw_jr0006_01.Holds := by
  exact Mine.law_holds
