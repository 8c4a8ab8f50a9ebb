import PyProof.Rows.All
import Wide.All
import OpenK.AllK
import Wide.FinOn
import Lean
import PySem.Challenge.RW_pe0118_01
open PySem PySem.W PyProof.Rows
set_option Elab.async false
set_option maxRecDepth 100000
set_option maxHeartbeats 8000000
set_option compiler.extract_closed false
namespace Mine
/-! part Hd -/
section
open_top hd for PySem.Challenge.rw_pe0118_01

end
/-! part Base -/
section

noncomputable abbrev PG : Program := PySem.Challenge.rw_pe0118_01.row.prog
/-- what is wanted at a turn's end (the walk stops there) -/
noncomputable def Hold (p : Prop) : Prop := p
noncomputable abbrev NoE : Value → Shared → Prop := fun _ _ => False

noncomputable abbrev Kn := Addr → Option Obj
noncomputable def In (G : Kn) (h : Heap) : Prop := ∀ b o, G b = some o → h.get? b = some o
noncomputable def Ext (h h' : Heap) : Prop := ∀ b o, h.get? b = some o → h'.get? b = some o
noncomputable def KE (G G' : Kn) : Prop := ∀ b o, G b = some o → G' b = some o
noncomputable def Kn.set (G : Kn) (a : Addr) (o : Obj) : Kn := fun b => if b = a then some o else G b

theorem KE.refl (G : Kn) : KE G G := fun _ _ e => e
theorem KE.trans {G G' G'' : Kn} (x : KE G G') (y : KE G' G'') : KE G G'' := fun b o e => y b o (x b o e)
theorem Ext.refl (h : Heap) : Ext h h := fun _ _ e => e
theorem Ext.trans {h h' h'' : Heap} (x : Ext h h') (y : Ext h' h'') : Ext h h'' := fun b o e => y b o (x b o e)
theorem Ext.push (h : Heap) (o : Obj) : Ext h (h.push o) := fun _ _ e => Heap.get?_push_of_some _ e
theorem In.ext {G : Kn} {h h' : Heap} (x : In G h) (y : Ext h h') : In G h' := fun b o e => y b o (x b o e)
theorem KE.set {G : Kn} {a : Addr} {o : Obj} (h : G a = none) : KE G (G.set a o) := fun b o' e => by
  unfold Kn.set; split
  · next q => rw [q, h] at e; cases e
  · exact e
theorem Kn.set_self (G : Kn) (a : Addr) (o : Obj) : G.set a o a = some o := by simp [Kn.set]
theorem Kn.set_ne (G : Kn) {a b : Addr} (o : Obj) (h : b ≠ a) : G.set a o b = G b := by simp [Kn.set, h]

theorem none_size (h : Heap) : h.get? h.objs.size = none := by
  cases q : h.get? h.objs.size with
  | none => rfl
  | some o => exact absurd (Heap.lt_size q) (Nat.lt_irrefl _)
theorem In.fresh {G : Kn} {h : Heap} (x : In G h) {a : Addr} (hn : h.get? a = none) : G a = none := by
  cases q : G a with
  | none => rfl
  | some o => have := x a o q; rw [hn] at this; cases this
theorem Ext.fresh {h h' : Heap} (x : Ext h h') {a : Addr} (hn : h'.get? a = none) : h.get? a = none := by
  cases q : h.get? a with
  | none => rfl
  | some o => have := x a o q; rw [hn] at this; cases this

/-- what is known grows; what stood stands; nothing more is known of what stood -/
structure Grow (G : Kn) (h : Heap) (G' : Kn) (h' : Heap) : Prop where
  ke : KE G G'
  inn : In G' h'
  ext : Ext h h'
  sep : ∀ b o, h.get? b = some o → G' b = G b
theorem Grow.refl {G : Kn} {h : Heap} (x : In G h) : Grow G h G h := ⟨.refl _, x, .refl _, fun _ _ _ => rfl⟩
theorem Grow.trans {G G' G'' : Kn} {h h' h'' : Heap} (x : Grow G h G' h') (y : Grow G' h' G'' h'') : Grow G h G'' h'' :=
  ⟨x.ke.trans y.ke, y.inn, x.ext.trans y.ext, fun b o e => (y.sep b o (x.ext b o e)).trans (x.sep b o e)⟩
theorem Grow.alloc {G : Kn} {h : Heap} (x : In G h) (o : Obj) (hf : o.isFreed = false := by rfl) : Grow G h (G.set h.objs.size o) (h.push o) := by
  have hn := x.fresh (none_size h)
  refine ⟨KE.set hn, fun b o' e => ?_, Ext.push h o, fun b o' e => Kn.set_ne _ _ (Nat.ne_of_lt (Heap.lt_size e))⟩
  unfold Kn.set at e
  split at e
  · next q => cases e; rw [q]; exact Heap.get?_push_size _ hf
  · exact Heap.get?_push_of_some _ (x b o' e)

/-- a frame at work: what stood when it was entered (G₀, h₀), what is known, its names, the objects that it may change -/
structure St (G₀ : Kn) (h₀ : Heap) (G : Kn) (L : Addr) (m : Str → Option Value) (mu : List (Addr × Obj)) (h : Heap) : Prop where
  gr : Grow G₀ h₀ G h
  ns : h.Ns L m
  gL : G L = none
  lL : h₀.get? L = none
  mu_ : ∀ p ∈ mu, h.get? p.1 = some p.2 ∧ p.1 ≠ L ∧ G p.1 = none ∧ h₀.get? p.1 = none
  nd : (mu.map (·.1)).Nodup

section
variable {G₀ G G' : Kn} {h₀ h h' : Heap} {L : Addr} {m m' : Str → Option Value} {mu : List (Addr × Obj)}

theorem St.getL (S : St G₀ h₀ G L m mu h) : ∃ o, h.get? L = some o := let ⟨o, _, _, ho, _⟩ := S.ns; ⟨o, ho⟩
theorem St.grow (S : St G₀ h₀ G L m mu h) (g : Grow G h G' h') : St G₀ h₀ G' L m mu h' := by
  obtain ⟨oL, hL⟩ := S.getL
  exact ⟨S.gr.trans g, S.ns.keeps g.ext, (g.sep L oL hL).trans S.gL, S.lL, fun p hp => ⟨g.ext _ _ (S.mu_ p hp).1, (S.mu_ p hp).2.1, (g.sep _ _ (S.mu_ p hp).1).trans (S.mu_ p hp).2.2.1, (S.mu_ p hp).2.2.2⟩, S.nd⟩
theorem St.store (S : St G₀ h₀ G L m mu h) (hn : h'.Ns L m') (hs : Heap.SameBut L h h') : St G₀ h₀ G L m' mu h' := by
  refine ⟨⟨S.gr.ke, fun b o e => ?_, fun b o e => ?_, S.gr.sep⟩, hn, S.gL, S.lL, fun p hp => ⟨(hs.2 _ (S.mu_ p hp).2.1).trans (S.mu_ p hp).1, (S.mu_ p hp).2⟩, S.nd⟩
  · exact (hs.2 b fun q => by rw [q, S.gL] at e; cases e).trans (S.gr.inn b o e)
  · exact (hs.2 b fun q => by rw [q, S.lL] at e; cases e).trans (S.gr.ext b o e)
theorem St.inn (S : St G₀ h₀ G L m mu h) : In G h := S.gr.inn
theorem St.alloc (S : St G₀ h₀ G L m mu h) (o : Obj) (hf : o.isFreed = false := by rfl) : St G₀ h₀ (G.set h.objs.size o) L m mu (h.push o) := S.grow (Grow.alloc S.inn o hf)
theorem St.allocM (S : St G₀ h₀ G L m mu h) (o : Obj) (hf : o.isFreed = false := by rfl) : St G₀ h₀ G L m ((h.objs.size, o) :: mu) (h.push o) := by
  obtain ⟨oL, hL⟩ := S.getL
  have g : Grow G h G (h.push o) := ⟨.refl _, S.inn.ext (Ext.push h o), Ext.push h o, fun _ _ _ => rfl⟩
  have S' := S.grow g
  refine ⟨S'.gr, S'.ns, S'.gL, S'.lL, fun p hp => ?_, ?_⟩
  · rcases List.mem_cons.mp hp with rfl | hp
    · exact ⟨Heap.get?_push_size _ hf, Nat.ne_of_gt (Heap.lt_size hL), S.inn.fresh (none_size h), S.gr.ext.fresh (none_size h)⟩
    · exact S'.mu_ p hp
  · rw [List.map_cons, List.nodup_cons]
    refine ⟨fun q => ?_, S.nd⟩
    obtain ⟨p, hp, e⟩ := List.mem_map.mp q
    have := Heap.lt_size (S.mu_ p hp).1
    rw [e] at this; exact absurd this (Nat.lt_irrefl _)
theorem St.freeze {a : Addr} {o : Obj} (S : St G₀ h₀ G L m ((a, o) :: mu) h) : St G₀ h₀ (G.set a o) L m mu h := by
  have D := S.mu_ (a, o) (.head _)
  have nd := S.nd
  rw [List.map_cons, List.nodup_cons] at nd
  refine ⟨⟨S.gr.ke.trans (KE.set D.2.2.1), fun b o' e => ?_, S.gr.ext, fun b o' e => ?_⟩, S.ns, ?_, S.lL, fun p hp => ?_, nd.2⟩
  · unfold Kn.set at e
    split at e
    · next q => cases e; rw [q]; exact D.1
    · exact S.inn b o' e
  · rw [Kn.set_ne _ _ fun q => by rw [q, D.2.2.2] at e; cases e]; exact S.gr.sep b o' e
  · rw [Kn.set_ne _ _ (Ne.symm D.2.1)]; exact S.gL
  · have P := S.mu_ p (.tail _ hp)
    refine ⟨P.1, P.2.1, ?_, P.2.2.2⟩
    rw [Kn.set_ne _ _ fun q => nd.1 (List.mem_map.mpr ⟨p, hp, q⟩)]; exact P.2.2.1
theorem St.forget {p : Addr × Obj} (S : St G₀ h₀ G L m (p :: mu) h) : St G₀ h₀ G L m mu h :=
  ⟨S.gr, S.ns, S.gL, S.lL, fun q hq => S.mu_ q (.tail _ hq), by have := S.nd; rw [List.map_cons, List.nodup_cons] at this; exact this.2⟩
theorem St.perm {mu' : List (Addr × Obj)} (S : St G₀ h₀ G L m mu h) (p : mu.Perm mu') : St G₀ h₀ G L m mu' h :=
  ⟨S.gr, S.ns, S.gL, S.lL, fun q hq => S.mu_ q (p.mem_iff.mpr hq), (p.map _).nodup_iff.mp S.nd⟩
/-- one of the changeable objects changes -/
theorem St.upd {a : Addr} {o o' : Obj} (S : St G₀ h₀ G L m ((a, o) :: mu) h) (hn : Heap.SameBut a h h') (ho : h'.get? a = some o') : St G₀ h₀ G L m ((a, o') :: mu) h' := by
  have D := S.mu_ (a, o) (.head _)
  have nd := S.nd
  rw [List.map_cons, List.nodup_cons] at nd
  refine ⟨⟨S.gr.ke, fun b x e => ?_, fun b x e => ?_, S.gr.sep⟩, S.ns.sameBut hn (Ne.symm D.2.1), S.gL, S.lL, fun p hp => ?_, by rw [List.map_cons, List.nodup_cons]; exact nd⟩
  · exact (hn.2 b fun q => by rw [q, D.2.2.1] at e; cases e).trans (S.inn b x e)
  · exact (hn.2 b fun q => by rw [q, D.2.2.2] at e; cases e).trans (S.gr.ext b x e)
  · rcases List.mem_cons.mp hp with rfl | hp
    · exact ⟨ho, D.2⟩
    · have P := S.mu_ p (.tail _ hp)
      exact ⟨(hn.2 _ fun q => nd.1 (List.mem_map.mpr ⟨p, hp, q⟩)).trans P.1, P.2⟩
end

/-- the text's own objects, the names of the top -/
noncomputable def Wd (w : World) (G : Kn) : Prop := ∃ (hw : Heap) (p : Program) (loose : List Str) (mg mb : Str → Option Value), (hd.heap_39 w.params).In hw ∧ TopRead p loose mg mb hw ∧ ∀ b o, hw.get? b = some o → G b = some o
theorem Wd.mono {w : World} {G G' : Kn} (x : Wd w G) (k : KE G G') : Wd w G' := let ⟨hw, p, lo, mg, mb, a, b, c⟩ := x; ⟨hw, p, lo, mg, mb, a, b, fun y o e => k y o (c y o e)⟩

/-- room for k calls within each other -/
noncomputable def Room (k : Nat) (A : Around) : Prop := A.handled = none ∧ A.depth + k < 900 ∧ A.units + 8 * k < 9000
theorem Room.mono {k k' : Nat} {A : Around} (r : Room k A) (h : k' ≤ k) : Room k' A := ⟨r.1, by have := r.2.1; (first | lia | omega), by have := r.2.2; (first | lia | omega)⟩
theorem Room.deeper {k : Nat} {A : Around} (r : Room (k + 1) A) (env : Env) : Room k (A.deeper env) := ⟨r.1, by have := r.2.1; show A.depth + 1 + k < 900; (first | lia | omega), by have := r.2.2; show A.units + 3 + 8 * k < 9000; (first | lia | omega)⟩
theorem Room.in1 {k : Nat} {A : Around} (r : Room (k + 1) A) : Room k A.in1 := ⟨r.1, by have := r.2.1; show A.depth + k < 900; (first | lia | omega), by have := r.2.2; show A.units + 1 + 8 * k < 9000; (first | lia | omega)⟩
theorem Room.hh {k : Nat} {A : Around} (r : Room k A) : A.handled = none := r.1
theorem Room.depth {k : Nat} {A : Around} (r : Room k A) : A.depth < recursionLimit := by have := r.2.1; unfold recursionLimit; (first | lia | omega)
theorem Room.units {k : Nat} {A : Around} (r : Room k A) : A.units < cLine := by have := r.2.2; unfold cLine; (first | lia | omega)

/-- what comes back from a call that changes nothing that stood -/
noncomputable def Back (G : Kn) (s : Shared) (Post : Kn → Value → Prop) (r : Value) (s' : Shared) : Prop :=
  ∃ G₂ h₂ tk, s' = { s with heap := h₂, toks := tk } ∧ Grow G s.heap G₂ h₂ ∧ Post G₂ r

section
variable {w : World} {A : Around} {E : Value → Shared → Prop} {s : Shared} {G : Kn}

theorem callFn {k : Nat} {f : Addr} {oc : Value} {od : Option Addr} {osl : Array (Option Value)} {fd : FuncData} {body : List Stmt} {pos : List Value} {kw : List (Str × Value)} {binds : List (Str × Value)} {Post : Kn → Value → Prop} {Q : Value → Shared → Prop}
    (R : Room (k + 1) A) (W : Wd w G) (I : In G s.heap) (ho : (hd.heap_39 w.params).lookup f = some ⟨oc, od, .func fd, osl⟩) (hcd : codeIn (hd.heap_39 w.params) fd.code fd.qualname = true) (hbody : fd.body = .stmts body)
    (hbind : BindsTo s fd ⟨pos, kw⟩ binds) (hcell : ∀ x ∈ fd.scope.names, x.2 ≠ .cell) (hloc : ∀ x ∈ binds, fd.scope.names.lookup x.1 = some .local)
    (hco : fd.scope.isCoroutine = false) (hgen : fd.scope.isGenerator = false) (hk : fd.scope.kind = .function)
    (h : ∀ h₁ L A', St G s.heap G L (fun x => binds.reverse.lookup x) [] h₁ → Room k A' →
      let env := callEnv fd L f
      wpAny (model PG w) A' (execs body env) (fun fl s' => Back G s Post (match fl with | .ret v => v | _ => .none) s') NoE { s with heap := h₁, toks := s.toks + binds.length })
    (hQ : ∀ r G₂ h₂ tk, Grow G s.heap G₂ h₂ → Post G₂ r → Q r { s with heap := h₂, toks := tk }) :
    wpAny (model PG w) A (call (.ref f) pos kw) Q E s := by
  obtain ⟨hw, p, lo, mg, mb, X, T, c⟩ := W
  have st : ∀ b o, hw.get? b = some o → s.heap.get? b = some o := fun b o e => I b o (c b o e)
  refine wpAny_call (codeAny_call_def (body := body) (binds := binds) R.depth (st _ _ (X _ _ ho)) rfl (T.nolimit.keeps st) (codeRec_of (X.keeps st) hcd) hbody hbind hcell hloc (fun h₁ hns hk₁ => ?_) hco hgen hk)
  have S : St G s.heap G s.heap.objs.size (fun x => binds.reverse.lookup x) [] h₁ :=
    ⟨⟨.refl _, I.ext hk₁, hk₁, fun _ _ _ => rfl⟩, hns, I.fresh (none_size _), none_size _, fun p hp => (nomatch hp), List.nodup_nil⟩
  refine wpAny_mono (h h₁ _ _ S (R.deeper _)) (fun fl s' hb => ?_) fun _ _ x => x.elim
  obtain ⟨G₂, h₂, tk, rfl, g, hp⟩ := hb
  exact hQ _ G₂ h₂ tk g hp
end

/-! a list, a tuple of ints; a list of such -/
noncomputable def lst (vs : List Value) : Obj := { cls := .type "list", data := .seq vs.toArray }
noncomputable def tup (vs : List Value) : Obj := { cls := .type "tuple", data := .seq vs.toArray }
/-- the object at a is a list with these items -/
noncomputable def IsL (G : Kn) (a : Addr) (vs : List Value) : Prop := ∃ o n, G a = some o ∧ o.cls = .type "list" ∧ o.data = .seq vs.toArray n
noncomputable def IsT (G : Kn) (a : Addr) (vs : List Value) : Prop := ∃ o n, G a = some o ∧ o.cls = .type "tuple" ∧ o.data = .seq vs.toArray n
theorem IsL.mono {G G' : Kn} {a : Addr} {vs : List Value} (x : IsL G a vs) (k : KE G G') : IsL G' a vs := let ⟨o, n, e, r⟩ := x; ⟨o, n, k _ _ e, r⟩
theorem IsT.mono {G G' : Kn} {a : Addr} {vs : List Value} (x : IsT G a vs) (k : KE G G') : IsT G' a vs := let ⟨o, n, e, r⟩ := x; ⟨o, n, k _ _ e, r⟩
theorem IsL.heap {G : Kn} {h : Heap} {a : Addr} {vs : List Value} (x : IsL G a vs) (i : In G h) : h.IsList a vs.toArray := let ⟨o, n, e, c, d⟩ := x; ⟨o, i _ _ e, c, n, d⟩
theorem IsT.heap {G : Kn} {h : Heap} {a : Addr} {vs : List Value} (x : IsT G a vs) (i : In G h) : IsTup h a vs.toArray := let ⟨o, n, e, c, d⟩ := x; ⟨o, i _ _ e, c, n, d⟩
/-- a value that is a list (tuple) of these ints -/
noncomputable def LI (G : Kn) (v : Value) (ns : List Int) : Prop := ∃ a vs, v = .ref a ∧ IsL G a vs ∧ IntsAre vs ns
noncomputable def TI (G : Kn) (v : Value) (ns : List Int) : Prop := ∃ a vs, v = .ref a ∧ IsT G a vs ∧ IntsAre vs ns
theorem LI.mono {G G' : Kn} {v : Value} {ns : List Int} (x : LI G v ns) (k : KE G G') : LI G' v ns := let ⟨a, vs, e, i, r⟩ := x; ⟨a, vs, e, i.mono k, r⟩
theorem TI.mono {G G' : Kn} {v : Value} {ns : List Int} (x : TI G v ns) (k : KE G G') : TI G' v ns := let ⟨a, vs, e, i, r⟩ := x; ⟨a, vs, e, i.mono k, r⟩

end
/-! part Step -/
section

theorem Grow.ofExt {G : Kn} {h h' : Heap} (I : In G h) (x : Ext h h') : Grow G h G h' := ⟨.refl _, I.ext x, x, fun _ _ _ => rfl⟩
theorem St.ext {G₀ G : Kn} {h₀ h h' : Heap} {L : Addr} {m : Str → Option Value} {mu : List (Addr × Obj)} (S : St G₀ h₀ G L m mu h) (x : Ext h h') : St G₀ h₀ G L m mu h' := S.grow (.ofExt S.inn x)
theorem SameBut.ofPush {h : Heap} {o : Obj} : Ext h (h.push o) := Ext.push h o

section
variable {M : Model} {A : Around} {E : Value → Shared → Prop} {s : Shared} {G₀ G : Kn} {h₀ : Heap} {L : Addr} {m : Str → Option Value} {mu : List (Addr × Obj)} {env : Env}

theorem sld {x : Str} {pos : Pos} {v : Value} {Q : Value → Shared → Prop} (S : St G₀ h₀ G L m mu s.heap) (hv : m x = some v) (h : Q v s)
    (hL : env.locals = L := by rfl) (hk : env.scope.kind = .function := by rfl) (hl : env.kindOf x = some .local := by rfl) (hd : (x == ("__debug__" : Str)) = false := by decide) :
    wpAny M A (eval (.Name x pos) env) Q E s := wpAny_Name (wpAny_loadName_local hk hl (hL ▸ S.ns) hv h) hd

/-- the names, one of them stored anew -/
noncomputable def upd (m : Str → Option Value) (x : Str) (v : Value) : Str → Option Value := fun y => if y = x then some v else m y
theorem sst {x : Str} {v : Value} {Q : Unit → Shared → Prop} (S : St G₀ h₀ G L m mu s.heap)
    (h : ∀ h', St G₀ h₀ G L (upd m x v) mu h' → Q () { s with heap := h', toks := s.toks + 1 })
    (hL : env.locals = L := by rfl) (hk : env.scope.kind = .function := by rfl) (hl : env.kindOf x = some .local := by rfl) :
    wpAny M A (storeName env x v) Q E s := by
  subst hL
  exact wpAny_storeName_local hl S.ns (fun h' hn hs => h h' (S.store hn hs)) (by rw [hk]; rfl)

theorem snl {vs : List Value} {Q : Value → Shared → Prop} (S : St G₀ h₀ G L m mu s.heap)
    (h : ∀ a G' h', KE G G' → IsL G' a vs → G' a = some (lst vs) → St G₀ h₀ G' L m mu h' → Q (.ref a) { s with heap := h' }) (hsz : vs.length ≤ sizeLine := by size_fits) : wpAny M A (newList vs) Q E s :=
  wpAny_newList (h _ _ _ (KE.set (S.inn.fresh (none_size _))) ⟨lst vs, _, Kn.set_self _ _ _, rfl, rfl⟩ (Kn.set_self _ _ _) (S.alloc (lst vs))) hsz
theorem snt {vs : List Value} {Q : Value → Shared → Prop} (S : St G₀ h₀ G L m mu s.heap)
    (h : ∀ a G' h', KE G G' → IsT G' a vs → G' a = some (tup vs) → St G₀ h₀ G' L m mu h' → Q (.ref a) { s with heap := h' }) (hsz : vs.length ≤ sizeLine := by size_fits) : wpAny M A (newTuple vs) Q E s :=
  wpAny_newTuple (h _ _ _ (KE.set (S.inn.fresh (none_size _))) ⟨tup vs, _, Kn.set_self _ _ _, rfl, rfl⟩ (Kn.set_self _ _ _) (S.alloc (tup vs))) hsz
/-- a new list that the frame may change -/
theorem snlM {vs : List Value} {Q : Value → Shared → Prop} (S : St G₀ h₀ G L m mu s.heap)
    (h : ∀ a h', St G₀ h₀ G L m ((a, lst vs) :: mu) h' → Q (.ref a) { s with heap := h' }) (hsz : vs.length ≤ sizeLine := by size_fits) : wpAny M A (newList vs) Q E s :=
  wpAny_newList (h _ _ (S.allocM (lst vs))) hsz
theorem sgl {w : World} {x : Str} {pos : Pos} {v : Value} {Q : Value → Shared → Prop} (W : Wd w G) (I : In G s.heap) (e : nsIn (hd.heap_39 w.params) mainGlobals x = some (some v)) (h : Q v s)
    (hg : env.globals = mainGlobals := by rfl) (hk : env.scope.kind = .function := by rfl) (hx : env.kindOf x = some .globalImplicit := by rfl) (hd : (x == ("__debug__" : Str)) = false := by decide) :
    wpAny M A (eval (.Name x pos) env) Q E s := by
  obtain ⟨hw, p, lo, mg, mb, X, T, c⟩ := W
  exact Calls.Name_function_global hk hx (Calls.loadGlobal_global (hg ▸ T.g.keeps fun b o e => I b o (c b o e)) (mg_of X T.g e) h) hd

theorem sbl {w : World} {x : Str} {pos : Pos} {v : Value} {Q : Value → Shared → Prop} (W : Wd w G) (I : In G s.heap) (e : nsIn (hd.heap_39 w.params) mainGlobals x = some none) (hv : bootBuiltins x = some v) (h : Q v s)
    (hn : x ≠ "__name__" := by decide) (hg : env.globals = mainGlobals := by rfl) (hb : env.builtins = builtinsNs := by rfl) (hk : env.scope.kind = .function := by rfl) (hx : env.kindOf x = some .globalImplicit := by rfl) (hd : (x == ("__debug__" : Str)) = false := by decide) :
    wpAny M A (eval (.Name x pos) env) Q E s := by
  obtain ⟨hw, p, lo, mg, mb, X, T, c⟩ := W
  have st : ∀ b o, hw.get? b = some o → s.heap.get? b = some o := fun b o e => I b o (c b o e)
  exact Calls.Name_function_global hk hx (Calls.loadGlobal_builtin (hg ▸ T.g.keeps st) (mg_none_of X T.g e) (hb ▸ T.b.keeps st) ((T.builtins x hn).trans hv) h) hd
end

section
variable {w : World} {A : Around} {E : Value → Shared → Prop} {s : Shared} {G : Kn}

theorem smin {l : Addr} {vs : List Value} {ns : List Int} {Q : Value → Shared → Prop} (hh : A.handled = none) (hl : IsL G l vs) (I : In G s.heap) (hi : IntsAre vs ns) (hne : 0 < ns.length)
    (h : ∀ h' M (t : Tok) tk, Ext s.heap h' → M ∈ ns → (∀ a, a ∈ ns → M ≤ a) → Q (.int M t) { s with heap := h', toks := tk }) :
    wpAny (model PG w) A (call (.builtin "min") [.ref l]) Q E s := by
  obtain ⟨xs, e⟩ := hi.allInts.items
  have hns : ns = xs.toList.map (·.1) := by rw [← hi.numsOf, ← nums_intItems, ← e]
  have hsz : 0 < xs.size := by have h3 := hne; rw [hns, List.length_map, Array.length_toList] at h3; exact h3
  have hl' := hl.heap I
  rw [e] at hl'
  refine min_intList hh hl' hsz fun v h' tk hv hk => ?_
  obtain ⟨t, rfl⟩ := intItems_at hv
  obtain ⟨h1, h2⟩ := argBest_lt (numAt xs) (xs.size - 1)
  refine h _ _ t tk hk ?_ fun a ha => ?_
  · rw [hns, numAt_eq]; exact getD_mem (by rw [List.length_map, Array.length_toList]; omega)
  · rw [hns] at ha
    obtain ⟨j, hj, rfl⟩ := mem_getD ha
    rw [List.length_map, Array.length_toList] at hj
    rw [← numAt_eq]; exact h2 j (by omega)
theorem smax {l : Addr} {vs : List Value} {ns : List Int} {Q : Value → Shared → Prop} (hh : A.handled = none) (hl : IsL G l vs) (I : In G s.heap) (hi : IntsAre vs ns) (hne : 0 < ns.length)
    (h : ∀ h' M (t : Tok) tk, Ext s.heap h' → M ∈ ns → (∀ a, a ∈ ns → a ≤ M) → Q (.int M t) { s with heap := h', toks := tk }) :
    wpAny (model PG w) A (call (.builtin "max") [.ref l]) Q E s := by
  obtain ⟨xs, e⟩ := hi.allInts.items
  have hns : ns = xs.toList.map (·.1) := by rw [← hi.numsOf, ← nums_intItems, ← e]
  have hsz : 0 < xs.size := by have h3 := hne; rw [hns, List.length_map, Array.length_toList] at h3; exact h3
  have hl' := hl.heap I
  rw [e] at hl'
  refine max_intList hh hl' hsz fun v h' tk hv hk => ?_
  obtain ⟨t, rfl⟩ := intItems_at hv
  obtain ⟨h1, h2⟩ := argBest_gt (numAt xs) (xs.size - 1)
  refine h _ _ t tk hk ?_ fun a ha => ?_
  · rw [hns, numAt_eq]; exact getD_mem (by rw [List.length_map, Array.length_toList]; omega)
  · rw [hns] at ha
    obtain ⟨j, hj, rfl⟩ := mem_getD ha
    rw [List.length_map, Array.length_toList] at hj
    rw [← numAt_eq]; exact h2 j (by omega)

theorem sitemL {value slice : PySem.Expr} {l : Addr} {vs : List Value} {k : Int} {u : Tok} {v : Value} {Q : Value → Shared → Prop} (hl : IsL G l vs) (I : In G s.heap) (h0 : 0 ≤ k) (hhi : k < 2 ^ 63) (hx : vs[k.toNat]? = some v) (h : Q v s)
    (hs : subscripted slice false (.ref l) (.int k u) = operate [.ref l, .int k u] (getItem (.ref l) (.int k u)) := by with_unfolding_all rfl) :
    wpAny (model PG w) A (subscriptTail value slice (.ref l) (.int k u)) Q E s :=
  tail_any (hl.heap I).typeIs slot_list_getitem.lookup (wpAny_getItem_list (hl.heap I) h0 hhi (by simpa using hx) h) hs

theorem sitemT {value slice : PySem.Expr} {l : Addr} {vs : List Value} {k : Int} {u : Tok} {j : Nat} {v : Value} {Q : Value → Shared → Prop} (hl : IsT G l vs) (I : In G s.heap) (h0 : -(2 ^ 63) ≤ k) (hhi : k < 2 ^ 63) (hj : seqIndex? k vs.length = some j) (hx : vs[j]? = some v) (h : Q v s)
    (hs : subscripted slice false (.ref l) (.int k u) = operate [.ref l, .int k u] (getItem (.ref l) (.int k u)) := by with_unfolding_all rfl) :
    wpAny (model PG w) A (subscriptTail value slice (.ref l) (.int k u)) Q E s := item_tupleT (hl.heap I) h0 hhi hj hx h hs

/-- a call of one of the text's defs by its name -/
theorem scall {f : Value} {pos : Pos} {env : Env} {e : PySem.Expr} {rest : List PySem.Expr} {Q : Value → Shared → Prop} (W : Wd w G) (hk : keepIn (hd.heap_39 w.params) f = true)
    (h : wpAny (model PG w) A (spliced (backTo pos (starEach (e :: rest) env))) (fun vs s₁ => (∃ G₁, Wd w G₁ ∧ In G₁ s₁.heap) ∧ wpAny (model PG w) A (call f vs) Q E s₁) E s)
    (he : starEach (e :: rest) env = (false, eval e env) :: starEach rest env := by rfl) (hplain : (backTo pos (starEach rest env)).any (·.1) = false := by rfl) :
    wpAny (model PG w) A (callWith pos f [] (backTo pos (starEach (e :: rest) env)) []) Q E s := by
  obtain ⟨hw₀, p₀, lo₀, mg₀, mb₀, X₀, T₀, c₀⟩ := W
  refine callWith_K (K := hd.heap_39 w.params) X₀ hk (wpAny_mono h (fun vs s₁ h₁ => ?_) fun _ _ x => x) he hplain
  obtain ⟨⟨G₁, ⟨hw, p, lo, mg, mb, X, T, c⟩, I⟩, hc⟩ := h₁
  exact ⟨X.keeps fun b o e => I b o (c b o e), hc⟩
/-- the same with arguments by keyword -/
theorem scallKw {f : Value} {pos : Pos} {env : Env} {e : PySem.Expr} {rest : List PySem.Expr} {kws : List Keyword} {Q : Value → Shared → Prop} (W : Wd w G) (hk : keepIn (hd.heap_39 w.params) f = true)
    (h : wpAny (model PG w) A (spliced (backTo pos (starEach (e :: rest) env))) (fun vs s₁ => wpAny (model PG w) A (evalAll ((backToKw pos (keywordEach kws env)).map (·.2)))
      (fun ks s₂ => (∃ G₁, Wd w G₁ ∧ In G₁ s₂.heap) ∧ wpAny (model PG w) A (call f vs (((backToKw pos (keywordEach kws env)).filterMap (·.1)).zip ks)) Q E s₂) E s₁) E s)
    (hall : (backToKw pos (keywordEach kws env)).all (·.1.isSome) = true := by rfl)
    (hplain : ((backTo pos (starEach (e :: rest) env)).any (·.1) || (backToKw pos (keywordEach kws env)).any (·.1.isNone)) = false := by rfl) (he : starEach (e :: rest) env = (false, eval e env) :: starEach rest env := by rfl) :
    wpAny (model PG w) A (callWith pos f [] (backTo pos (starEach (e :: rest) env)) (backToKw pos (keywordEach kws env))) Q E s := by
  obtain ⟨hw₀, p₀, lo₀, mg₀, mb₀, X₀, T₀, c₀⟩ := W
  refine callWith_KW (K := hd.heap_39 w.params) X₀ hk hall (wpAny_mono h (fun vs s₁ h₁ => wpAny_mono h₁ (fun ks s₂ h₂ => ?_) fun _ _ x => x) fun _ _ x => x) hplain he
  obtain ⟨⟨G₁, ⟨hw, p, lo, mg, mb, X, T, c⟩, I⟩, hc⟩ := h₂
  exact ⟨X.keeps fun b o e => I b o (c b o e), hc⟩
theorem Wd.inn {h : Heap} (W : Wd w G) (I : In G h) : (hd.heap_39 w.params).In h := by
  obtain ⟨hw, p, lo, mg, mb, X, T, c⟩ := W
  exact X.keeps fun b o e => I b o (c b o e)
end

end
local macro_rules | `(tactic| walk_at "eval Name") => `(tactic| (refine sbl (by assumption) (St.inn (by assumption)) (by k_is) (by boot_by_name) ?_))
local macro_rules | `(tactic| walk_at "eval Name") => `(tactic| (refine sgl (by assumption) (St.inn (by assumption)) (by k_is) ?_))
local macro_rules | `(tactic| walk_at "eval Name") => `(tactic| (refine sld (by assumption) (by first | rfl | assumption) ?_))
local macro_rules | `(tactic| walk_at "storeName") => `(tactic| (refine sst (by assumption) ?_; intro h' S'))
local macro_rules | `(tactic| walk_at "callWith ref") => `(tactic| (refine scall (by assumption) (by k_is) ?_))
local macro_rules | `(tactic| walk_at "And") => `(tactic| ((with_reducible show (∃ _, _ ∧ _) ∧ wpAny _ _ _ _ _ _); refine ⟨⟨_, by assumption, St.inn (by assumption)⟩, ?_⟩))
/-! part Loop -/
section

/-- only the heap and the tokens differ -/
noncomputable def Fl (s s' : Shared) : Prop := s' = { s with heap := s'.heap, toks := s'.toks }
theorem Fl.refl (s : Shared) : Fl s s := rfl
theorem Fl.mk {s : Shared} {h : Heap} {tk : Nat} : Fl s { s with heap := h, toks := tk } := rfl
theorem Fl.trans {s s' s'' : Shared} (x : Fl s s') (y : Fl s' s'') : Fl s s'' := by unfold Fl at *; rw [y, x]
theorem Fl.of {s s' : Shared} (x : Fl s s') : s' = { s with heap := s'.heap, toks := s'.toks } := x
theorem Fl.ex {s s' : Shared} (x : Fl s s') : ∃ h tk, s' = { s with heap := h, toks := tk } := ⟨_, _, x⟩
theorem Fl.to {s s' : Shared} (x : Fl s s') {h : Heap} {tk : Nat} : ({ s' with heap := h, toks := tk } : Shared) = { s with heap := h, toks := tk } := by unfold Fl at x; rw [x]

/-- what is wanted at the end of a turn of a for loop, of a comprehension -/
noncomputable def EndT (G₀ : Kn) (h₀ : Heap) (L I : Addr) (it' : Obj) (s : Shared) (G' : Kn) (J' : Kn → (Str → Option Value) → List (Addr × Obj) → Prop) (f : Flow) (s₃ : Shared) : Prop :=
  f = .next ∧ Fl s s₃ ∧ ∃ G'' m'' mu'', KE G' G'' ∧ St G₀ h₀ G'' L m'' ((I, it') :: mu'') s₃.heap ∧ J' G'' m'' mu''
noncomputable def EndC (G₀ : Kn) (h₀ : Heap) (C : Addr) (mu' : List (Addr × Obj)) (s : Shared) (G' : Kn) (ys : List Value) (J' : Kn → List Value → Prop) (y : Value) (s₃ : Shared) : Prop :=
  Fl s s₃ ∧ ∃ G'' m'', KE G' G'' ∧ St G₀ h₀ G'' C m'' mu' s₃.heap ∧ J' G'' (ys ++ [y])

section
variable {w : World} {A : Around} {s : Shared} {env : Env}

theorem swhile {test : PySem.Expr} {body : List Stmt} {pos : Pos} {Q : Flow → Shared → Prop} (I : Nat → Shared → Prop) (n : Nat) (h0 : I n s)
    (turn : ∀ n s, I n s → wpAny (model PG w) A (isTrue test env (eval test env)) (fun b s₂ =>
      if b = true then wpAny (model PG w) A (execs body env) (fun f s₃ => Hold (f = .next ∧ ∃ m, m < n ∧ I m s₃)) NoE s₂ else Q .next s₂) NoE s) :
    wpAny (model PG w) A (exec (.While test body [] pos) env) Q NoE s := by
  refine wpAny_While (codeAny_whileLoop I (fun n s hI => wpAny_mono (turn n s hI) (fun b s₂ h₂ => ?_) fun _ _ x => x.elim) n h0)
  cases b with
  | false => exact wpAny_execs_nil h₂
  | true =>
    simp only [if_true] at h₂ ⊢
    exact wpAny_mono h₂ (fun f s₃ h₃ => by obtain ⟨rfl, k⟩ := h₃; exact k) fun _ _ x => x.elim

variable {G₀ G : Kn} {h₀ : Heap} {L : Addr} {m : Str → Option Value} {mu : List (Addr × Obj)}

/-- the iterator moves on by itself -/
theorem St.next {I : Addr} {it : Obj} {h h' : Heap} (S : St G₀ h₀ G L m ((I, it) :: mu) h) (hk : ∀ b o, b ∉ [I] → h.get? b = some o → h'.get? b = some o) : St G₀ h₀ G L m mu h' := by
  have D := S.mu_ (I, it) (.head _)
  have nd := S.nd
  rw [List.map_cons, List.nodup_cons] at nd
  have n1 : ∀ {b : Addr}, b ≠ I → b ∉ [I] := fun hb q => hb (List.mem_singleton.mp q)
  obtain ⟨oL, es, ep, hL, r⟩ := S.ns
  refine ⟨⟨S.gr.ke, fun b o e => hk b o (n1 fun q => by rw [q, D.2.2.1] at e; cases e) (S.inn b o e), fun b o e => hk b o (n1 fun q => by rw [q, D.2.2.2] at e; cases e) (S.gr.ext b o e), S.gr.sep⟩,
    ⟨oL, es, ep, hk _ _ (n1 (Ne.symm D.2.1)) hL, r⟩, S.gL, S.lL, fun p hp => ?_, nd.2⟩
  have P := S.mu_ p (.tail _ hp)
  exact ⟨hk _ _ (n1 fun q => nd.1 (List.mem_map.mpr ⟨p, hp, q⟩)) P.1, P.2⟩
theorem St.adopt {I : Addr} {it : Obj} {h : Heap} (S : St G₀ h₀ G L m mu h) (hI : h.get? I = some it) (hL : I ≠ L) (hG : G I = none) (h0 : h₀.get? I = none) (hm : I ∉ mu.map (·.1)) : St G₀ h₀ G L m ((I, it) :: mu) h :=
  ⟨S.gr, S.ns, S.gL, S.lL, fun p hp => by rcases List.mem_cons.mp hp with rfl | hp; exact ⟨hI, hL, hG, h0⟩; exact S.mu_ p hp, by rw [List.map_cons, List.nodup_cons]; exact ⟨hm, S.nd⟩⟩

theorem sfor {R : Result → Shared → Prop} {target : PySem.Expr} {body : List Stmt} {I : Addr} {fp : List Addr} {n : Nat} {P : Nat → Value → Prop} {Stt : Nat → Heap → Prop} {it : Obj}
    (W : Walks PG w A I fp [I] n P Stt) (hlive : ∀ i h, Stt i h → ∃ o, h.get? I = some o) (hfp : ∀ b ∈ fp, b = I ∨ ∃ o, G b = some o) (h0 : Stt 0 s.heap) (S : St G₀ h₀ G L m ((I, it) :: mu) s.heap)
    (J : Nat → Kn → (Str → Option Value) → List (Addr × Obj) → Prop) (j0 : J 0 G m mu)
    (step : ∀ i v G' m' mu' it' s', i < n → P i v → KE G G' → J i G' m' mu' → St G₀ h₀ G' L m' ((I, it') :: mu') s'.heap → Fl s s' →
      wpAny (model PG w) A (assign target env v) (fun _ s₂ => wpAny (model PG w) A (execs body env) (EndT G₀ h₀ L I it' s G' (J (i + 1))) NoE s₂) NoE s')
    (fin : ∀ G' m' mu' h' tk, KE G G' → J n G' m' mu' → St G₀ h₀ G' L m' mu' h' → R (.ok .next) { s with heap := h', toks := tk })
    (ht : ∀ v, letOwnedTupleGo target (.ref I) v = pure () := by intro _; rfl) :
    codeAny (model PG w) A (.forLoop target (.ref I) body [] env) R s := by
  refine codeAny_forLoop (fun k s' => ∃ i G' m' mu' it', k = n - i ∧ i ≤ n ∧ Fl s s' ∧ KE G G' ∧ J i G' m' mu' ∧ St G₀ h₀ G' L m' ((I, it') :: mu') s'.heap ∧ Stt i s'.heap) ?_ n
    ⟨0, G, m, mu, it, by (first | lia | omega), by (first | lia | omega), .refl s, .refl _, j0, S, h0⟩ ht
  rintro k s' ⟨i, G', m', mu', it', rfl, hi, hf, hk, hJ, S', hst⟩
  by_cases hlt : i < n
  · refine W.item i _ _ _ hlt hst fun v h₁ tk₁ hP hst₁ hk₁ => ?_
    obtain ⟨o₁, ho₁⟩ := hlive _ _ hst₁
    have D := S'.mu_ (I, it') (.head _)
    have S₁ : St G₀ h₀ G' L m' ((I, o₁) :: mu') h₁ := (S'.next hk₁).adopt ho₁ D.2.1 D.2.2.1 D.2.2.2 (by have nd := S'.nd; rw [List.map_cons, List.nodup_cons] at nd; exact nd.1)
    refine wpAny_mono (step i v G' m' mu' o₁ _ hlt hP hk hJ S₁ (hf.trans .mk)) (fun _ s₂ h₂ => wpAny_mono h₂ (fun f s₃ h₃ => ?_) fun _ _ x => x.elim) fun _ _ x => x.elim
    obtain ⟨rfl, hf₃, G'', m'', mu'', hk₃, S₃, hJ₃⟩ := h₃
    refine ⟨n - (i + 1), by (first | lia | omega), i + 1, G'', m'', mu'', o₁, rfl, hlt, hf₃, hk.trans hk₃, hJ₃, S₃, W.frame _ _ _ hst₁ fun b hb o e => ?_⟩
    rcases hfp b hb with rfl | ⟨ob, hob⟩
    · rw [ho₁] at e; cases e; exact (S₃.mu_ (b, o₁) (.head _)).1
    · have e1 := S₁.inn b ob (hk b ob hob)
      rw [← Option.some.inj (e1.symm.trans e)]
      exact S₃.inn b ob (hk₃ b ob (hk b ob hob))
  · have hin : i = n := by (first | lia | omega)
    subst hin
    refine W.done _ _ _ hst fun h₁ tk₁ hk₁ => wpAny_execs_nil ?_
    rw [hf.to]
    exact fin G' m' mu' h₁ tk₁ hk hJ (S'.next hk₁)

theorem St.adoptNew {h : Heap} (S : St G₀ h₀ G L m mu h) (o : Obj) (hf : o.isFreed = false := by rfl) : St G₀ h₀ G L m ((h.objs.size, o) :: mu) (h.push o) := S.allocM o hf

theorem sforL {E : Value → Shared → Prop} {target : PySem.Expr} {body : List Stmt} {R : Result → Shared → Prop} {ax : Addr} {vs : List Value}
    (hh : A.handled = none) (S : St G₀ h₀ G L m mu s.heap) (hl : IsL G ax vs)
    (J : Nat → Kn → (Str → Option Value) → List (Addr × Obj) → Prop) (j0 : J 0 G m mu)
    (step : ∀ i v G' m' mu' I it' s', vs[i]? = some v → KE G G' → J i G' m' mu' → St G₀ h₀ G' L m' ((I, it') :: mu') s'.heap → Fl s s' →
      wpAny (model PG w) A (assign target env v) (fun _ s₂ => wpAny (model PG w) A (execs body env) (EndT G₀ h₀ L I it' s G' (J (i + 1))) NoE s₂) NoE s')
    (fin : ∀ G' m' mu' h' tk, KE G G' → J vs.length G' m' mu' → St G₀ h₀ G' L m' mu' h' → R (.ok .next) { s with heap := h', toks := tk })
    (ht : ∀ I v, letOwnedTupleGo target (.ref I) v = pure () := by intro _ _; rfl) :
    wpAny (model PG w) A (pyIter (.ref ax)) (fun it s₂ => codeAny (model PG w) A (.forLoop target it body [] env) R s₂) E s := by
  have hl₁ := hl.heap S.inn
  refine wpAny_pyIter_list hl₁ ?_
  have S₁ := S.allocM { cls := .type "list_iterator", data := .fields #[.ref ax, .int 0 0] }
  have hne : ax ≠ s.heap.objs.size := by obtain ⟨o, ho, _⟩ := hl₁; exact Nat.ne_of_lt (Heap.lt_size ho)
  refine sfor (Walks.list hh _ ax hne vs.toArray) (fun i h st => let ⟨o, ho, _⟩ := st.1; ⟨o, ho⟩) (fun b hb => ?_) ⟨⟨_, Heap.get?_push_size _ rfl, rfl, rfl⟩, hl₁.push _⟩ S₁ J j0
    (fun i v G' m' mu' it' s' hi hP hk hJ S' hf => step i v G' m' mu' _ it' s' (by simpa using hP) hk hJ S' hf) (fun G' m' mu' h' tk hk hJ S' => fin G' m' mu' h' tk hk (by simpa using hJ) S') (ht _)
  rcases List.mem_cons.mp hb with rfl | hb
  · exact .inl rfl
  · rw [List.mem_singleton.mp hb]; obtain ⟨o, _, ho, _⟩ := hl; exact .inr ⟨o, ho⟩

noncomputable def rngObj (n : Int) (t u v : Tok) : Obj := { cls := .type "range", data := .fields #[.int 0 t, .int n u, .int 1 v] }
noncomputable def IsR (G : Kn) (r : Addr) (n : Int) : Prop := ∃ t u v, G r = some (rngObj n t u v)

theorem srange {E : Value → Shared → Prop} {n : Int} {t : Tok} {Q : Value → Shared → Prop} (S : St G₀ h₀ G L m mu s.heap)
    (h : ∀ r G' h' tk, KE G G' → IsR G' r n → St G₀ h₀ G' L m mu h' → Q (.ref r) { s with heap := h', toks := tk }) :
    wpAny (model PG w) A (call (.type "range") [.int n t]) Q E s :=
  call_range_1 (h _ _ _ _ (KE.set (S.inn.fresh (none_size _))) ⟨_, _, _, Kn.set_self _ _ _⟩ (S.alloc (rngObj n _ _ _)))

theorem sforR {E : Value → Shared → Prop} {x : Str} {px : Pos} {body : List Stmt} {R : Result → Shared → Prop} {r : Addr} {n : Nat}
    (hh : A.handled = none) (S : St G₀ h₀ G L m mu s.heap) (hr : IsR G r n) (hn : n < 1000)
    (J : Nat → Kn → (Str → Option Value) → List (Addr × Obj) → Prop) (j0 : J 0 G m mu)
    (step : ∀ i t G' m' mu' I it' s', i < n → KE G G' → J i G' m' mu' → St G₀ h₀ G' L m' ((I, it') :: mu') s'.heap → Fl s s' →
      wpAny (model PG w) A (assign (.Name x px) env (.int (i : Nat) t)) (fun _ s₂ => wpAny (model PG w) A (execs body env) (EndT G₀ h₀ L I it' s G' (J (i + 1))) NoE s₂) NoE s')
    (fin : ∀ G' m' mu' h' tk, KE G G' → J n G' m' mu' → St G₀ h₀ G' L m' mu' h' → R (.ok .next) { s with heap := h', toks := tk }) :
    wpAny (model PG w) A (pyIter (.ref r)) (fun it s₂ => codeAny (model PG w) A (.forLoop (.Name x px) it body [] env) R s₂) E s := by
  obtain ⟨t, u, v, hr⟩ := hr
  have hsz : Builtin.Range.rangeSize 0 (n : Int) 1 = (n : Int) := by rw [rangeSize_one]; split <;> (first | lia | omega)
  refine wpAny_pyIter_range (a := 0) (b := n) (c := 1) (t := t) (u := u) (v := v) (S.inn _ _ hr) (small_one (by decide) (by decide) (by (first | lia | omega)) (by (first | lia | omega))) ?_
  rw [hsz]
  have S₁ := S.allocM { cls := .type "range_iterator", data := .fields #[rawInt 0, rawInt (n : Int), rawInt 1] }
  refine sfor (Walks.range hh _ 0 1 n) (fun i h st => ⟨_, st⟩) (fun b hb => .inl (List.mem_singleton.mp hb)) ?_ S₁ J j0
    (fun i v G' m' mu' it' s' hi hP hk hJ S' hf => ?_) (fun G' m' mu' h' tk hk hJ S' => fin G' m' mu' h' tk hk hJ S')
  · have e1 : (0 + ((0 : Nat) : Int) * 1) = 0 := by simp
    have e2 : ((n : Int) - ((0 : Nat) : Int)) = n := by simp
    rw [e1, e2]
    exact Heap.get?_push_size _ rfl
  · obtain ⟨t', rfl⟩ := hP
    have e : (0 + (i : Int) * 1) = (i : Int) := by (first | lia | omega)
    rw [e]
    exact step i t' G' m' mu' _ it' s' hi hk hJ S' hf

theorem slen {E : Value → Shared → Prop} {l : Addr} {vs : List Value} {n : Nat} {Q : Value → Shared → Prop} (hl : IsL G l vs) (I : In G s.heap) (hv : vs.length = n) (hn : n < 1000)
    (h : Q (.int n (s.toks + 1)) { s with toks := s.toks + 1 + 1 }) : wpAny (model PG w) A (call (.builtin "len") [.ref l]) Q E s := by
  have e : vs.toArray.size = n := by simpa using hv
  exact len_list (hl.heap I) (by rw [e]; (first | lia | omega)) (by rw [e]; exact h)

/-- unpacking a list, a tuple -/
theorem Ext.ofBut {h h' : Heap} (x : Heap.ExtBut h.objs.size h h') : Ext h h' := fun b o e => x b o (Nat.ne_of_lt (Heap.lt_size e)) e
theorem sunpL {E : Value → Shared → Prop} {elts : List PySem.Expr} {k : Nat} {pos : Pos} {l : Addr} {vs : List Value} {Q : Unit → Shared → Prop} (hh : A.handled = none) (S : St G₀ h₀ G L m mu s.heap) (hl : IsL G l vs)
    (hn : (assignEach elts env).length = vs.length) (hstar : (assignEach elts env).findIdx? (·.1) = none)
    (h : ∀ h', St G₀ h₀ G L m mu h' → wpAny (model PG w) A (assignInOrder ((assignEach elts env).map (·.2)) vs) Q E { s with heap := h' }) :
    wpAny (model PG w) A (assign (.Tuple elts k pos) env (.ref l)) Q E s := by
  rw [PyProof.Rows.assign_Tuple]
  refine wpAny_bind (wpAny_standAt ?_)
  unfold unpack
  have e : (assignEach elts env).length = vs.toArray.size := by simpa using hn
  rw [e, hstar]
  exact wpAny_bind (wpAny_holding (kun_itemsOf hh (hl.heap S.inn) fun h' he => by simpa using h h' (S.ext (Ext.ofBut he))))
theorem sunpT {E : Value → Shared → Prop} {elts : List PySem.Expr} {k : Nat} {pos : Pos} {l : Addr} {vs : List Value} {Q : Unit → Shared → Prop} (hh : A.handled = none) (S : St G₀ h₀ G L m mu s.heap) (hl : IsT G l vs)
    (hn : (assignEach elts env).length = vs.length) (hstar : (assignEach elts env).findIdx? (·.1) = none)
    (h : ∀ h', St G₀ h₀ G L m mu h' → wpAny (model PG w) A (assignInOrder ((assignEach elts env).map (·.2)) vs) Q E { s with heap := h' }) :
    wpAny (model PG w) A (assign (.Tuple elts k pos) env (.ref l)) Q E s := by
  have e : (assignEach elts env).length = vs.toArray.size := by simpa using hn
  exact assign_Tuple_tuple hh (hl.heap S.inn) e hstar fun h' he => by simpa using h h' (S.ext (Ext.ofBut he))
end

end
/-! part LoopC -/
section

noncomputable def isListObj (o : Obj) (ys : List Value) : Prop := o.cls = .type "list" ∧ ∃ n, o.data = .seq ys.toArray n

section
variable {w : World} {A : Around} {s : Shared} {env : Env} {G : Kn}

theorem St.leave {G₀ G : Kn} {h₀ h h' : Heap} {L : Addr} {m : Str → Option Value} {mu : List (Addr × Obj)} (S : St G₀ h₀ G L m mu h) (hs : Heap.SameBut L h h') : Grow G₀ h₀ G h' :=
  ⟨S.gr.ke, fun b o e => (hs.2 b fun q => by rw [q, S.gL] at e; cases e).trans (S.inn b o e), fun b o e => (hs.2 b fun q => by rw [q, S.lL] at e; cases e).trans (S.gr.ext b o e), S.gr.sep⟩

/-- what a comprehension's target may be -/
noncomputable def GoesBy (target : PySem.Expr) (w : World) (A : Around) (vs : List Value) : Prop :=
  ∀ (I l : Addr) (i : Nat) (v : Value) (s : Shared) (Q : Unit → Shared → Prop) (E : Value → Shared → Prop), v ∈ vs → s.heap.IsListIter I l i → Q () s → wpAny (model PG w) A (letOwnedTupleGo target (.ref I) v) Q E s
theorem goes_name {x : Str} {px : Pos} {vs : List Value} : GoesBy (.Name x px) w A vs := fun _ _ _ _ _ _ _ _ _ h => wpAny_pure h
theorem goes_tuple {elts : List PySem.Expr} {k : Nat} {px : Pos} {vs : List Value} (hv : ∀ v ∈ vs, ∃ a, v = .ref a) : GoesBy (.Tuple elts k px) w A vs := fun I l i v s Q E hm hit h => by
  obtain ⟨a, rfl⟩ := hv v hm
  exact wpAny_letOwnedTupleGo_listiter hit h

theorem scompLoop {elt target iter : PySem.Expr} {scope : Scope} {pos : Pos} {I D C ax : Addr} {vs : List Value} {R : Result → Shared → Prop} {h₀ : Heap} {cenv : Env} {m : Str → Option Value} {it₀ : Obj}
    (hh : A.handled = none) (hg : GoesBy target w A vs) (hl : IsL G ax vs)
    (J : Nat → Kn → List Value → Prop) (j0 : J 0 G []) (S : St G h₀ G C m [(I, it₀), (D, lst [])] s.heap) (hit : s.heap.IsListIter I ax 0)
    (step : ∀ i v G' ys m' mu' s', vs[i]? = some v → KE G G' → J i G' ys → St G h₀ G' C m' mu' s'.heap → Fl s s' →
      wpAny (model PG w) A (assign target cenv v) (fun _ s₂ => wpAny (model PG w) A (eval elt cenv) (EndC G h₀ C mu' s G' ys (J (i + 1))) NoE s₂) NoE s')
    (fin : ∀ G' G'' ys m' h' tk, J vs.length G' ys → KE G' G'' → IsL G'' D ys → ys.length = vs.length → St G h₀ G'' C m' [] h' → R (.ok .next) { s with heap := h', toks := tk })
    (hsz : vs.length ≤ 1000) :
    codeAny (model PG w) A (.compLoop (.ListComp elt [⟨target, iter, [], 0⟩] scope pos) 0 (.ref I) (.ref D) cenv) R s := by
  refine codeAny_loop rfl (fun k s' => ∃ i G' ys m' it' oD, k = vs.length - i ∧ i ≤ vs.length ∧ Fl s s' ∧ KE G G' ∧ J i G' ys ∧ ys.length = i ∧ isListObj oD ys ∧ St G h₀ G' C m' [(I, it'), (D, oD)] s'.heap ∧ s'.heap.IsListIter I ax i) (fun k s' hI => ?_) vs.length
    ⟨0, G, [], m, it₀, lst [], by (first | lia | omega), by (first | lia | omega), .refl s, .refl _, j0, rfl, ⟨rfl, _, rfl⟩, S, hit⟩
  obtain ⟨i, G', ys, m', it', oD, rfl, hi, hf, hk, hJ, hys, hD, S', hit'⟩ := hI
  show wpAny _ A ((compTurn (.ListComp elt [⟨target, iter, [], 0⟩] scope pos) 0 (.ref I) (.ref D) cenv).onRaise (fun x => do noteFrame x cenv; theTreesLotGoes x)) _ _ s'
  refine wpAny_noted ?_
  rw [compTurn_list1]
  have hl' : s'.heap.IsList ax vs.toArray := (hl.mono hk).heap S'.inn
  have D1 := S'.mu_ (I, it') (.head _)
  have nd := S'.nd
  by_cases hlt : i < vs.length
  · have hv : vs[i]? = some vs[i] := by simp [hlt]
    refine wpAny_bind (wpAny_standAt (wpAny_bind (wpAny_pyNext_list_item hit' hl' (x := vs[i]) (by simp [hlt]) fun h₁ hit₁ hs₁ => ?_)))
    obtain ⟨o₁, ho₁, hc₁, hd₁⟩ := id hit₁
    have S₁ := S'.upd hs₁ ho₁
    refine wpAny_bind (hg I ax (i + 1) _ _ _ _ (List.getElem_mem hlt) hit₁ ?_)
    refine wpAny_bind (wpAny_mono (step i vs[i] G' ys m' _ _ hv hk hJ S₁ (hf.trans .mk)) (fun _ s₂ h₂ => wpAny_bind (wpAny_bind (wpAny_mono h₂ (fun y s₃ h₃ => ?_) fun _ _ x => False.elim x))) fun _ _ x => False.elim x)
    obtain ⟨hf₃, G'', m'', hk₃, S₃, hJ₃⟩ := h₃
    have D3 := S₃.mu_ (D, oD) (.tail _ (.head _))
    obtain ⟨hc, n, hd⟩ := hD
    have hLD : s₃.heap.IsList D ys.toArray := ⟨oD, D3.1, hc, n, hd⟩
    refine wpAny_bind (wpAny_list_append hLD (fun h₄ hl₄ hs₄ => wpAny_pure (wpAny_pure ⟨rfl, ?_⟩)) (by rw [List.size_toArray]; unfold sizeLine; (first | lia | omega)))
    obtain ⟨o₄, ho₄, hc₄, n₄, hd₄⟩ := hl₄
    have S₄ := (S₃.perm (List.Perm.swap ..)).upd hs₄ ho₄
    refine ⟨vs.length - (i + 1), by (first | lia | omega), i + 1, G'', ys ++ [y], m'', o₁, o₄, rfl, hlt, hf₃.trans .mk, hk.trans hk₃, hJ₃, by simp [hys], ⟨hc₄, n₄, by simpa using hd₄⟩, S₄.perm (List.Perm.swap ..), ?_⟩
    exact ⟨o₁, (S₄.mu_ (I, o₁) (.tail _ (.head _))).1, hc₁, hd₁⟩
  · have hin : i = vs.length := by (first | lia | omega)
    subst hin
    refine wpAny_bind (wpAny_standAt (wpAny_bind (wpAny_pyNext_list_end hh hit' hl' (by simp) fun h₁ he₁ => wpAny_pure ?_)))
    obtain ⟨hc, n, hd⟩ := hD
    have S₁ : St G h₀ G' C m' [(D, oD)] h₁ := S'.next fun b o hb e => he₁ b o (fun q => hb (List.mem_singleton.mpr q)) e
    have hDn := (S₁.mu_ (D, oD) (.head _)).2.2.1
    show R (.ok .next) { s' with heap := h₁ }
    have e : ({ s' with heap := h₁ } : Shared) = { s with heap := h₁, toks := s'.toks } := by
      have := hf.of; rw [this]
    rw [e]
    exact fin G' _ ys m' h₁ _ hJ (KE.set hDn) ⟨oD, n, Kn.set_self _ _ _, hc, hd⟩ hys S₁.freeze

theorem scompG {E : Value → Shared → Prop} {RR : Value → Env → Result → Shared → Prop} {elt target iter : PySem.Expr} {scope : Scope} {pos : Pos} {ax : Addr} {vs : List Value}
    (hh : A.handled = none) (I : In G s.heap) (hl : IsL G ax vs) (hg : GoesBy target w A vs) (hsz : vs.length ≤ 1000)
    (hcell : ∀ y ∈ scope.names, y.2 ≠ .cell) (hkind : scope.kind = .function)
    (J : Nat → Kn → List Value → Prop) (j0 : J 0 G [])
    (step : ∀ C i v G' ys m' mu' s', vs[i]? = some v → KE G G' → J i G' ys → St G s.heap G' C m' mu' s'.heap → Fl s s' →
      wpAny (model PG w) A (assign target (compEnv scope C env) v) (fun _ s₂ => wpAny (model PG w) A (eval elt (compEnv scope C env)) (EndC G s.heap C mu' s G' ys (J (i + 1))) NoE s₂) NoE s')
    (fin : ∀ D C G' G'' ys m' h' tk, J vs.length G' ys → KE G' G'' → IsL G'' D ys → ys.length = vs.length → St G s.heap G'' C m' [] h' → RR (.ref D) (compEnv scope C env) (.ok .next) { s with heap := h', toks := tk }) :
    wpAny (model PG w) A (pyIter (.ref ax)) (fun it s₂ => wpAny (model PG w) A (newList []) (fun acc s₃ =>
      wpAny (model PG w) A (newFunctionEnv scope env.globals [] [] env.qual none .none (some env)) (fun cenv s₄ =>
        codeAny (model PG w) A (.compStart (.ListComp elt [⟨target, iter, [], 0⟩] scope pos) 0 it acc { cenv with scope := scope }) (RR acc { cenv with scope := scope }) s₄) E s₃) E s₂) E s := by
  have hl₁ := hl.heap I
  refine wpAny_pyIter_list hl₁ (wpAny_newList (wpAny_newFunctionEnv hcell (by intro y hy; simp at hy) (fun h₁ hns₁ hsb₁ => ?_) hkind))
  dsimp only at hns₁ hsb₁ ⊢
  generalize hH1 : s.heap.push { cls := .type "list_iterator", data := .fields #[.ref ax, .int 0 0] } = H1 at hns₁ hsb₁ ⊢
  have hD : H1.objs.size = s.heap.objs.size + 1 := by rw [← hH1, Heap.size_push]
  generalize hH2 : H1.push { cls := .type "list", data := .seq ([] : List Value).toArray } = H2 at hns₁ hsb₁ ⊢
  have hC : H2.objs.size = s.heap.objs.size + 2 := by rw [← hH2, Heap.size_push, hD]
  have e01 : Ext s.heap H1 := hH1 ▸ Ext.push _ _
  have e12 : Ext H1 H2 := hH2 ▸ Ext.push _ _
  have e23 : Ext H2 h₁ := fun b o e => hsb₁.extBut b o (Nat.ne_of_lt (Heap.lt_size e)) (Heap.get?_push_of_some _ e)
  have e02 : Ext s.heap h₁ := (e01.trans e12).trans e23
  have nn : ∀ a, s.heap.objs.size ≤ a → s.heap.get? a = none := fun a ha => by
    cases q : s.heap.get? a with
    | none => rfl
    | some o => exact absurd (Heap.lt_size q) (Nat.not_lt.mpr ha)
  have gI : H1.get? s.heap.objs.size = some { cls := .type "list_iterator", data := .fields #[.ref ax, .int 0 0] } := hH1 ▸ Heap.get?_push_size _ rfl
  have gD : H2.get? H1.objs.size = some (lst []) := hH2 ▸ Heap.get?_push_size _ rfl
  have S : St G s.heap G H2.objs.size (fun x => ([] : List (Str × Value)).reverse.lookup x) [(s.heap.objs.size, { cls := .type "list_iterator", data := .fields #[.ref ax, .int 0 0] }), (H1.objs.size, lst [])] h₁ := by
    refine ⟨⟨.refl _, I.ext e02, e02, fun _ _ _ => rfl⟩, hns₁, I.fresh (nn _ (by (first | lia | omega))), nn _ (by (first | lia | omega)), fun p hp => ?_, ?_⟩
    · rcases List.mem_cons.mp hp with rfl | hp
      · exact ⟨e23 _ _ (e12 _ _ gI), by show s.heap.objs.size ≠ _; (first | lia | omega), I.fresh (nn _ (Nat.le_refl _)), nn _ (Nat.le_refl _)⟩
      · rw [List.mem_singleton.mp hp]
        exact ⟨e23 _ _ gD, by show H1.objs.size ≠ _; (first | lia | omega), I.fresh (nn _ (by show _ ≤ H1.objs.size; (first | lia | omega))), nn _ (by show _ ≤ H1.objs.size; (first | lia | omega))⟩
    · show [s.heap.objs.size, H1.objs.size].Nodup
      simp [hD]
  have hit : h₁.IsListIter s.heap.objs.size ax 0 := ⟨_, e23 _ _ (e12 _ _ gI), rfl, rfl⟩
  have loop : ∀ s₂ : Shared, s₂ = { s with heap := h₁, toks := s.toks + ([] : List (Str × Value)).length } →
      codeAny (model PG w) A (.compLoop (.ListComp elt [⟨target, iter, [], 0⟩] scope pos) 0 (.ref s.heap.objs.size) (.ref H1.objs.size) (compEnv scope H2.objs.size env))
        (RR (.ref H1.objs.size) (compEnv scope H2.objs.size env)) s₂ := by
    rintro s₂ rfl
    refine scompLoop hh hg hl J j0 S hit (fun i v G' ys m' mu' s' hv hk hJ S' hf => wpAny_mono (step _ i v G' ys m' mu' s' hv hk hJ S' (Fl.trans .mk hf)) (fun _ s₂ h₂ => wpAny_mono h₂ (fun y s₃ h₃ => ?_) fun _ _ x => x) fun _ _ x => x)
      (fun G' G'' ys m' h' tk hJ hk hL hys S' => fin _ _ G' G'' ys m' h' tk hJ hk hL hys S') hsz
    obtain ⟨hf₃, r⟩ := h₃
    refine ⟨?_, r⟩
    have := hf₃.of
    unfold Fl
    rw [this]
  exact codeAny_compStart_list (loop _ rfl) (wpAny_pyIter_listiter hit (loop _ rfl))

theorem scomp {E : Value → Shared → Prop} {elt target iter : PySem.Expr} {scope : Scope} {pos : Pos} {ax : Addr} {vs : List Value} {Q : Value → Shared → Prop}
    (hh : A.handled = none) (I : In G s.heap) (hl : IsL G ax vs) (hg : GoesBy target w A vs) (hsz : vs.length ≤ 1000)
    (hcell : ∀ y ∈ scope.names, y.2 ≠ .cell) (hkind : scope.kind = .function)
    (J : Nat → Kn → List Value → Prop) (j0 : J 0 G [])
    (step : ∀ C i v G' ys m' mu' s', vs[i]? = some v → KE G G' → J i G' ys → St G s.heap G' C m' mu' s'.heap → Fl s s' →
      wpAny (model PG w) A (assign target (compEnv scope C env) v) (fun _ s₂ => wpAny (model PG w) A (eval elt (compEnv scope C env)) (EndC G s.heap C mu' s G' ys (J (i + 1))) NoE s₂) NoE s')
    (fin : ∀ D G' G'' ys h' tk, J vs.length G' ys → KE G' G'' → IsL G'' D ys → ys.length = vs.length → Grow G s.heap G'' h' → Q (.ref D) { s with heap := h', toks := tk }) :
    wpAny (model PG w) A (pyIter (.ref ax)) (fun it s₂ => wpAny (model PG w) A (newList []) (fun acc s₃ =>
      wpAny (model PG w) A (newFunctionEnv scope env.globals [] [] env.qual none .none (some env)) (fun cenv s₄ =>
        codeAny (model PG w) A (.compStart (.ListComp elt [⟨target, iter, [], 0⟩] scope pos) 0 it acc { cenv with scope := scope })
          (fun r s' => ∃ m, s'.heap.Ns cenv.locals m ∧ ∀ h', Heap.SameBut cenv.locals s'.heap h' →
            match r with | .ok _ => Q acc { s' with heap := h' } | .error x => wpAny (model PG w) A (passOn "comprehension.variables-let-go" x { cenv with scope := scope }) Q E { s' with heap := h' }) s₄) E s₃) E s₂) E s :=
  scompG (RR := fun acc cenv r s' => ∃ m, s'.heap.Ns cenv.locals m ∧ ∀ h', Heap.SameBut cenv.locals s'.heap h' →
            match r with | .ok _ => Q acc { s' with heap := h' } | .error x => wpAny (model PG w) A (passOn "comprehension.variables-let-go" x cenv) Q E { s' with heap := h' })
    hh I hl hg hsz hcell hkind J j0 step fun D C G' G'' ys m' h' tk hJ hk hL hys S' => ⟨m', S'.ns, fun h'' hs'' => fin D G' G'' ys h'' tk hJ hk hL hys (S'.leave hs'')⟩

/-- a name is bound to a comprehension's list: the store comes before the comprehension's names go -/
noncomputable def CompA (w : World) (A : Around) (env : Env) (x : Str) (px : Pos) (Q : Flow → Shared → Prop) (E : Value → Shared → Prop) (acc : Value) (cenv : Env) (r : Result) (s' : Shared) : Prop := match r with
  | .ok _ => wpAny (model PG w) A (assign (.Name x px) env acc) (fun _ s'' => ∃ m, s''.heap.Ns cenv.locals m ∧ ∀ h', Heap.SameBut cenv.locals s''.heap h' → Q .next { s'' with heap := h' }) E s'
  | .error e => ∃ m, s'.heap.Ns cenv.locals m ∧ ∀ h', Heap.SameBut cenv.locals s'.heap h' → wpAny (model PG w) A (passOn "comprehension.variables-let-go" e cenv : Sem Value) (fun _ => Q .next) E { s' with heap := h' }
theorem sassignC {E : Value → Shared → Prop} {elt target iter : PySem.Expr} {scope : Scope} {pos cpos px : Pos} {x : Str} {Q : Flow → Shared → Prop}
    (hfree : ∀ x ∈ scope.names, x.2 ≠ .free) (hkind : scope.kind = .function) (hnames : ∀ x ∈ scope.names, x.2 = .local → scope.names.lookup x.1 = some .local)
    (h : wpAny (model PG w) A (eval iter env) (fun xv s₁ => wpAny (model PG w) A (pyIter xv) (fun it s₂ => wpAny (model PG w) A (newList []) (fun acc s₃ =>
      wpAny (model PG w) A (newFunctionEnv scope env.globals [] [] env.qual none .none (some env)) (fun cenv s₄ =>
        codeAny (model PG w) A (.compStart (.ListComp elt [⟨target, iter, [], 0⟩] scope cpos) 0 it acc { cenv with scope := scope }) (CompA w A env x px Q E acc { cenv with scope := scope }) s₄) E s₃) E s₂) E s₁) E s)
    (hsw : swapsWith (.ListComp elt [⟨target, iter, [], 0⟩] scope cpos) (some (.Name x px)) pos.line env = pure true := by rfl)
    (hs : ∀ x, foldedSetIterable iter env x = pure x := by intro _; rfl) :
    wpAny (model PG w) A (exec (.Assign [.Name x px] (.ListComp elt [⟨target, iter, [], 0⟩] scope cpos) pos) env) Q E s := by
  rw [exec_Assign_Name_used _ _ _ _ hsw]
  refine wpAny_bind (wpAny_standAt ?_)
  have e : evalThenUse (.ListComp elt [⟨target, iter, [], 0⟩] scope cpos) env (assign (.Name x px) env) = (do
      let _ ← comprehension (.ListComp elt [⟨target, iter, [], 0⟩] scope cpos) scope env (firstIterPos [⟨target, iter, [], 0⟩] cpos) (newList []) false (eval iter env) (some (assign (.Name x px) env))) := rfl
  rw [e]
  refine wpAny_bind (wpAny_bind (wpAny_comprehension_use (Q := fun _ s' => wpAny (model PG w) A (pure ()) (fun _ s'' => wpAny (model PG w) A (pure Flow.next) Q E s'') E s') (g := ⟨target, iter, [], 0⟩) (gs := []) rfl hs hfree hkind hnames (wpAny_mono h (fun xv s₁ h₁ => wpAny_mono h₁ (fun it s₂ h₂ => wpAny_mono h₂ (fun acc s₃ h₃ => wpAny_mono h₃ (fun cenv s₄ h₄ => codeAny_mono h₄ fun r s' hr => ?_) fun _ _ q => q) fun _ _ q => q) fun _ _ q => q) fun _ _ q => q)))
  unfold CompA at hr
  cases r with
  | ok f => exact wpAny_mono hr (fun _ s'' hr' => let ⟨m, hn, k⟩ := hr'; ⟨m, hn, fun h' hs' => wpAny_pure (wpAny_pure (k h' hs'))⟩) fun _ _ q => q
  | error x => exact let ⟨m, hn, k⟩ := hr; ⟨m, hn, fun h' hs' => wpAny_mono (k h' hs') (fun _ _ q => wpAny_pure (wpAny_pure q)) fun _ _ q => q⟩

theorem St.dropC {G₀ G : Kn} {h₀ h h' : Heap} {L C : Addr} {m : Str → Option Value} {mu : List (Addr × Obj)} (S : St G₀ h₀ G L m mu h) (hs : Heap.SameBut C h h') (hL : L ≠ C) (hG : G C = none) (h0 : h₀.get? C = none) (hm : C ∉ mu.map (·.1)) : St G₀ h₀ G L m mu h' :=
  ⟨⟨S.gr.ke, fun b o e => (hs.2 b fun q => by rw [q, hG] at e; cases e).trans (S.inn b o e), fun b o e => (hs.2 b fun q => by rw [q, h0] at e; cases e).trans (S.gr.ext b o e), S.gr.sep⟩, S.ns.sameBut hs hL, S.gL, S.lL,
    fun p hp => ⟨(hs.2 _ fun q => hm (List.mem_map.mpr ⟨p, hp, q⟩)).trans (S.mu_ p hp).1, (S.mu_ p hp).2⟩, S.nd⟩

/-- the rest of such an assignment, over the frame -/
theorem scompA {E : Value → Shared → Prop} {G₀ : Kn} {h₀ : Heap} {L : Addr} {m : Str → Option Value} {mu : List (Addr × Obj)} {elt target iter : PySem.Expr} {scope : Scope} {pos px : Pos} {x : Str} {ax : Addr} {vs : List Value} {Q : Flow → Shared → Prop}
    (hh : A.handled = none) (S : St G₀ h₀ G L m mu s.heap) (hl : IsL G ax vs) (hg : GoesBy target w A vs) (hsz : vs.length ≤ 1000)
    (hcell : ∀ y ∈ scope.names, y.2 ≠ .cell) (hkind : scope.kind = .function)
    (J : Nat → Kn → List Value → Prop) (j0 : J 0 G [])
    (step : ∀ C i v G' ys m' mu' s', vs[i]? = some v → KE G G' → J i G' ys → St G s.heap G' C m' mu' s'.heap → Fl s s' →
      wpAny (model PG w) A (assign target (compEnv scope C env) v) (fun _ s₂ => wpAny (model PG w) A (eval elt (compEnv scope C env)) (EndC G s.heap C mu' s G' ys (J (i + 1))) NoE s₂) NoE s')
    (fin : ∀ D G' G'' ys h' tk, KE G G'' → J vs.length G' ys → KE G' G'' → IsL G'' D ys → ys.length = vs.length → St G₀ h₀ G'' L (upd m x (.ref D)) mu h' → Q .next { s with heap := h', toks := tk })
    (hL : env.locals = L := by rfl) (hk : env.scope.kind = .function := by rfl) (hx : env.kindOf x = some .local := by rfl) :
    wpAny (model PG w) A (pyIter (.ref ax)) (fun it s₂ => wpAny (model PG w) A (newList []) (fun acc s₃ =>
      wpAny (model PG w) A (newFunctionEnv scope env.globals [] [] env.qual none .none (some env)) (fun cenv s₄ =>
        codeAny (model PG w) A (.compStart (.ListComp elt [⟨target, iter, [], 0⟩] scope pos) 0 it acc { cenv with scope := scope }) (CompA w A env x px Q E acc { cenv with scope := scope }) s₄) E s₃) E s₂) E s := by
  refine scompG hh S.inn hl hg hsz hcell hkind J j0 step fun D C G' G'' ys m' h' tk hJ hk' hL' hys S' => ?_
  have S1 : St G₀ h₀ G'' L m mu h' := S.grow S'.gr
  show wpAny (model PG w) A (assign (.Name x px) env (.ref D)) _ E _
  have old : ∀ {b : Addr} {o : Obj}, s.heap.get? b = some o → b ≠ C := fun e q => by rw [q, S'.lL] at e; cases e
  obtain ⟨oL, hoL⟩ := S.getL
  subst hL
  refine wpAny_assign_Name (wpAny_storeName_local hx S1.ns (fun h'' hn hs => ⟨m', S'.ns.sameBut hs (Ne.symm (old hoL)), fun h3 hs3 => ?_⟩) (by rw [hk]; rfl))
  have S2 := S1.store hn hs
  refine fin D G' G'' ys h3 _ S'.gr.ke hJ hk' hL' hys (S2.dropC hs3 (old hoL) S'.gL (S.gr.ext.fresh S'.lL) fun q => ?_)
  obtain ⟨p, hp, e⟩ := List.mem_map.mp q
  exact old (S.mu_ p hp).1 e
end

end
/-! part Mut -/
section

/-- a list that may change: its items, its epoch -/
noncomputable def lstN (vs : List Value) (n : Nat) : Obj := { cls := .type "list", data := .seq vs.toArray n }
theorem lst_N (vs : List Value) : lst vs = lstN vs 0 := rfl
theorem IsL.ofN {G : Kn} {a : Addr} {vs : List Value} {n : Nat} (h : G a = some (lstN vs n)) : IsL G a vs := ⟨_, n, h, rfl, rfl⟩

theorem fitsIdx {i : Nat} (h : i < 2 ^ 20) : Builtin.List.listFitsIndex (i : Int) = true := by
  unfold Builtin.List.listFitsIndex
  rw [Bool.and_eq_true, decide_eq_true_eq, decide_eq_true_eq]
  constructor <;> (first | lia | omega)

section
variable {w : World} {A : Around} {E : Value → Shared → Prop} {s : Shared} {G₀ G : Kn} {h₀ : Heap} {L : Addr} {m : Str → Option Value} {mu : List (Addr × Obj)}

theorem smeth {D : Addr} {vs : List Value} {n : Nat} {name : Str} {id : String} {pl : Sem Bool} {Q : Value × List Value → Shared → Prop} (ho : s.heap.get? D = some (lstN vs n)) (slot : Slot "list" name id) (hty : typeOf (.builtin id) = pure (.type "method_descriptor"))
    (h : Q (.builtin id, [.ref D]) s) : wpAny (model PG w) A (getMethod (.ref D) name pl) Q E s :=
  getMethod_builtin ⟨_, ho, rfl⟩ PySem.F.plainAttrs_list slot hty (fun a e => by cases e; exact ⟨_, ho, rfl⟩) h

theorem sapp {D : Addr} {vs : List Value} {n : Nat} {x : Value} {Q : Value → Shared → Prop} (S : St G₀ h₀ G L m ((D, lstN vs n) :: mu) s.heap) (hz : vs.length ≤ 1000)
    (h : ∀ h' n', St G₀ h₀ G L m ((D, lstN (vs ++ [x]) n') :: mu) h' → Q .none { s with heap := h' }) : wpAny (model PG w) A (call (.builtin "list.append") [.ref D, x]) Q E s := by
  have z := S.mu_ _ (.head _)
  refine wpAny_list_append_plain (items := vs.toArray) ⟨n, z.1⟩ (fun h' hp hs => ?_) (by rw [List.size_toArray]; unfold sizeLine; (first | lia | omega))
  obtain ⟨n', hn'⟩ := hp
  exact h h' n' (S.upd hs (by rw [hn']; simp [lstN]))

theorem sins {D : Addr} {vs : List Value} {n : Nat} {i : Nat} {k : Int} {u : Tok} {x : Value} {Q : Value → Shared → Prop} (S : St G₀ h₀ G L m ((D, lstN vs n) :: mu) s.heap) (hz : vs.length ≤ 1000) (hk : k = (i : Nat)) (hi : i ≤ vs.length)
    (h : ∀ h' n', St G₀ h₀ G L m ((D, lstN (vs.take i ++ x :: vs.drop i) n') :: mu) h' → Q .none { s with heap := h' }) : wpAny (model PG w) A (call (.builtin "list.insert") [.ref D, .int k u, x]) Q E s := by
  have z := S.mu_ _ (.head _)
  have hf : Builtin.List.listFitsIndex k = true := by rw [hk]; exact fitsIdx (by (first | lia | omega))
  have z1 : s.heap.get? D = some { cls := .type "list", dict := none, data := .seq vs.toArray n, slots := #[] } := z.1
  have hm : vs.toArray.size ≤ sizeLine := by rw [List.size_toArray]; unfold sizeLine; (first | lia | omega)
  have hc : ¬(!Builtin.List.listFitsIndex k) = true := by rw [hf]; decide
  have hT : s.TypeIs (.ref D) "list" := ⟨_, z1, rfl⟩
  have q := get?_update_seq z1 (fun xs => (xs.extract 0 (if k < 0 then (k + xs.size).toNat else min k.toNat xs.size)).push x ++ xs.extract (if k < 0 then (k + xs.size).toNat else min k.toNat xs.size) xs.size)
  have e : (vs.toArray.extract 0 (if k < 0 then (k + vs.toArray.size).toNat else min k.toNat vs.toArray.size)).push x ++ vs.toArray.extract (if k < 0 then (k + vs.toArray.size).toNat else min k.toNat vs.toArray.size) vs.toArray.size = (vs.take i ++ x :: vs.drop i).toArray := by
    have e1 : (if k < 0 then (k + vs.toArray.size).toNat else min k.toNat vs.toArray.size) = i := by
      rw [if_neg (by (first | lia | omega)), List.size_toArray]; (first | lia | omega)
    rw [e1]
    apply Array.toList_inj.mp
    simp
    exact List.take_of_length_le (by simp)
  rw [e, if_neg (by simp; (first | lia | omega))] at q
  exact call_meets PySem.F.slot_list_insert hT PySem.F.entry_list_insert (PySem.F.args_list_insert_3 _ _ _) (PySem.AutoSeq1.list_insert_list_int_val_1 D vs.toArray n k u x hc hm) ⟨z1, h _ (n + 1) (S.upd (Heap.SameBut.update ..) q)⟩

/-- a call that may change the objects in mu -/
theorem callFnM {k : Nat} {f : Addr} {oc : Value} {od : Option Addr} {osl : Array (Option Value)} {fd : FuncData} {body : List Stmt} {pos : List Value} {kw : List (Str × Value)} {binds : List (Str × Value)} {Post : Value → Shared → Prop} {Q : Value → Shared → Prop}
    (R : Room (k + 1) A) (W : Wd w G) (I : In G s.heap) (hb : Ext h₀ s.heap)
    (hmu : ∀ p ∈ mu, s.heap.get? p.1 = some p.2 ∧ G p.1 = none ∧ h₀.get? p.1 = none) (nd : (mu.map (·.1)).Nodup)
    (ho : (hd.heap_39 w.params).lookup f = some ⟨oc, od, .func fd, osl⟩) (hcd : codeIn (hd.heap_39 w.params) fd.code fd.qualname = true) (hbody : fd.body = .stmts body)
    (hbind : BindsTo s fd ⟨pos, kw⟩ binds) (hcell : ∀ x ∈ fd.scope.names, x.2 ≠ .cell) (hloc : ∀ x ∈ binds, fd.scope.names.lookup x.1 = some .local)
    (hco : fd.scope.isCoroutine = false) (hgen : fd.scope.isGenerator = false) (hk : fd.scope.kind = .function)
    (h : ∀ h₁ L A', St G h₀ G L (fun x => binds.reverse.lookup x) mu h₁ → Room k A' →
      let env := callEnv fd L f
      wpAny (model PG w) A' (execs body env) (fun fl s' => Hold (Post (match fl with | .ret v => v | _ => .none) s')) NoE { s with heap := h₁, toks := s.toks + binds.length })
    (hQ : ∀ r s', Post r s' → Q r s') :
    wpAny (model PG w) A (call (.ref f) pos kw) Q E s := by
  obtain ⟨hw, p, lo, mg, mb, X, T, c⟩ := W
  have st : ∀ b o, hw.get? b = some o → s.heap.get? b = some o := fun b o e => I b o (c b o e)
  refine wpAny_call (codeAny_call_def (body := body) (binds := binds) R.depth (st _ _ (X _ _ ho)) rfl (T.nolimit.keeps st) (codeRec_of (X.keeps st) hcd) hbody hbind hcell hloc (fun h₁ hns hk₁ => ?_) hco hgen hk)
  have S : St G h₀ G s.heap.objs.size (fun x => binds.reverse.lookup x) mu h₁ :=
    ⟨⟨.refl _, I.ext hk₁, hb.trans hk₁, fun _ _ _ => rfl⟩, hns, I.fresh (none_size _), hb.fresh (none_size _), fun p hp => ⟨hk₁ _ _ (hmu p hp).1, Nat.ne_of_lt (Heap.lt_size (hmu p hp).1), (hmu p hp).2⟩, nd⟩
  exact wpAny_mono (h h₁ _ _ S (R.deeper _)) (fun fl s' hb => hQ _ _ hb) fun _ _ x => x.elim
end

end
/-! part Fn1 -/
section
noncomputable def small (i : Int) : Prop := -100 ≤ i ∧ i ≤ 100
theorem mulOk {a b : Int} (ha : small a) : IntMulOk a b := by
  refine IntMulOk.of_left ?_
  unfold Builtin.Int.intBits
  split
  · omega
  · have : a.natAbs < 2 ^ 7 := by unfold small at ha; omega
    rcases Nat.eq_zero_or_pos a.natAbs with h0 | h0
    · rw [h0]; decide
    · have := (Nat.log2_lt (by omega)).mpr this; omega
theorem fill1 : (fun (_ : Params → Frag) (_ : OpenLaw) => True) hd.heap_39 PySem.Challenge.rw_pe0118_01 := by k_fill; trivial

local macro_rules | `(tactic| walk_at "binaryOp Mult int int") => `(tactic| (refine mul_int ?_ (mulOk (by assumption))))
local macro_rules | `(tactic| walk_at "subscriptTail") => `(tactic| (refine sitemT (by assumption) (St.inn (by assumption)) (by decide) (by decide) (by rfl) (by rfl) ?_))
local macro_rules | `(tactic| walk_at "subscriptTail") => `(tactic| (refine sitemL (by assumption) (St.inn (by assumption)) (by decide) (by decide) (by rfl) ?_))

section
variable {w : World} {A : Around} {E : Value → Shared → Prop} {s : Shared} {G : Kn}

theorem backInt {G : Kn} {s : Shared} {i : Int} {t : Tok} {h : Heap} {tk : Nat} (S : Ext s.heap h) (I : In G s.heap) : Back G s (fun _ r => ∃ t, r = .int i t) (.int i t) { s with heap := h, toks := tk } :=
  ⟨G, h, tk, rfl, .ofExt I S, t, rfl⟩
theorem backBool {G : Kn} {s : Shared} {b b' : Bool} {h : Heap} {tk : Nat} (S : Ext s.heap h) (I : In G s.heap) (e : b = b') : Back G s (fun _ r => r = .bool b') (.bool b) { s with heap := h, toks := tk } :=
  ⟨G, h, tk, rfl, .ofExt I S, by rw [e]⟩
theorem int_eq {a b : Int} {t : Tok} (h : a = b) : Value.int a t = Value.int b t := by rw [h]

theorem cross_spec {v1 v2 : Value} {a b c d : Int} {Q : Value → Shared → Prop} (R : Room 1 A) (W : Wd w G) (I : In G s.heap) (h1 : TI G v1 [a, b]) (h2 : TI G v2 [c, d])
    (sa : small a) (sb : small b) (hQ : ∀ t h₂ tk, Ext s.heap h₂ → Q (.int (a * d - b * c) t) { s with heap := h₂, toks := tk }) :
    wpAny (model PG w) A (call (.ref 81) [v1, v2]) Q E s := by
  obtain ⟨a1, vs1, rfl, l1, i1⟩ := h1
  obtain ⟨a2, vs2, rfl, l2, i2⟩ := h2
  cases i1; rename_i i1; cases i1; rename_i i1; cases i1
  cases i2; rename_i i2; cases i2; rename_i i2; cases i2
  refine callFn (binds := [(Str.ofString "one", .ref a1), (Str.ofString "two", .ref a2)]) (Post := fun _ r => ∃ t, r = .int (a * d - b * c) t) R W I (by k_is) (by k_is) (by exact rfl) (by exact BindsTo.of_eq rfl) (by decide) (by exact locs rfl) rfl rfl rfl (fun h₁ L A' S R' => ?_) (fun r G₂ h₂ tk g hp => by obtain ⟨t, rfl⟩ := hp; exact hQ t h₂ tk g.ext)
  intro env
  repeat' (walk1 <;> try dsimp only)
  exact backInt S.gr.ext I

theorem beside_spec {v1 v2 : Value} {a b c d : Int} {Q : Value → Shared → Prop} (R : Room 1 A) (W : Wd w G) (I : In G s.heap) (h1 : TI G v1 [a, b]) (h2 : TI G v2 [c, d])
    (sa : small a) (sb : small b) (hQ : ∀ h₂ tk, Ext s.heap h₂ → Q (.bool (decide (a * c + b * d > 0))) { s with heap := h₂, toks := tk }) :
    wpAny (model PG w) A (call (.ref 88) [v1, v2]) Q E s := by
  obtain ⟨a1, vs1, rfl, l1, i1⟩ := h1
  obtain ⟨a2, vs2, rfl, l2, i2⟩ := h2
  cases i1; rename_i i1; cases i1; rename_i i1; cases i1
  cases i2; rename_i i2; cases i2; rename_i i2; cases i2
  refine callFn (binds := [(Str.ofString "one", .ref a1), (Str.ofString "two", .ref a2)]) (Post := fun _ r => r = .bool (decide (a * c + b * d > 0))) R W I (by k_is) (by k_is) (by exact rfl) (by exact BindsTo.of_eq rfl) (by decide) (by exact locs rfl) rfl rfl rfl (fun h₁ L A' S R' => ?_) (fun r G₂ h₂ tk g hp => by subst hp; exact hQ h₂ tk g.ext)
  intro env
  repeat' (walk1 <;> try dsimp only)
  exact backBool S.gr.ext I rfl

/-- two points: no grey between them -/
noncomputable def twoB (p q : Int × Int) : Bool := decide (p.1 * q.2 - p.2 * q.1 ≠ 0) || decide (p.1 * q.1 + p.2 * q.2 > 0)
noncomputable def pt (p : Int × Int) : List Int := [p.1, p.2]
noncomputable def smallP (p : Int × Int) : Prop := small p.1 ∧ small p.2

local macro_rules | `(tactic| walk_at "call ref") => `(tactic| (refine cross_spec (Room.mono (by assumption) (by decide)) (by assumption) (St.inn (by assumption)) (by assumption) (by assumption) (by assumption) (by assumption) ?_; intro t' h' tk' x'; (have S' := St.ext (by assumption) x')))
local macro_rules | `(tactic| walk_at "call ref") => `(tactic| (refine beside_spec (Room.mono (by assumption) (by decide)) (by assumption) (St.inn (by assumption)) (by assumption) (by assumption) (by assumption) (by assumption) ?_; intro h' tk' x'; (have S' := St.ext (by assumption) x')))

theorem two_spec {v1 v2 : Value} {p q : Int × Int} {Q : Value → Shared → Prop} (R : Room 2 A) (W : Wd w G) (I : In G s.heap) (h1 : TI G v1 (pt p)) (h2 : TI G v2 (pt q))
    (sp : smallP p) (hQ : ∀ h₂ tk, Ext s.heap h₂ → Q (.bool (twoB p q)) { s with heap := h₂, toks := tk }) :
    wpAny (model PG w) A (call (.ref 95) [v1, v2]) Q E s := by
  obtain ⟨a, b⟩ := p
  obtain ⟨c, d⟩ := q
  obtain ⟨sa, sb⟩ := sp
  dsimp only [pt] at *
  refine callFn (binds := [(Str.ofString "one", v1), (Str.ofString "two", v2)]) (Post := fun _ r => r = .bool (twoB (a, b) (c, d))) R W I (by k_is) (by k_is) (by exact rfl) (by exact BindsTo.of_eq rfl) (by decide) (by exact locs rfl) rfl rfl rfl (fun h₁ L A' S R' => ?_) (fun r G₂ h₂ tk g hp => by subst hp; exact hQ h₂ tk g.ext)
  intro env
  repeat' (walk1 <;> try dsimp only)
  · exact backBool (Grow.ext (St.gr (by assumption))) I (by simp_all [twoB])
  · exact backBool (Grow.ext (St.gr (by assumption))) I (by simp_all [twoB])

theorem min3 {M x y z : Int} (h : M ∈ [x, y, z]) (k : ∀ a, a ∈ [x, y, z] → M ≤ a) : M = min x (min y z) := by
  have h1 := k x (by simp)
  have h2 := k y (by simp)
  have h3 := k z (by simp)
  simp only [List.mem_cons, List.not_mem_nil, or_false] at h
  refine Int.le_antisymm (Int.le_min.mpr ⟨h1, Int.le_min.mpr ⟨h2, h3⟩⟩) ?_
  rcases h with h | h | h
  · rw [h]; exact Int.min_le_left _ _
  · rw [h]; exact Int.le_trans (Int.min_le_right _ _) (Int.min_le_left _ _)
  · rw [h]; exact Int.le_trans (Int.min_le_right _ _) (Int.min_le_right _ _)
theorem max3 {M x y z : Int} (h : M ∈ [x, y, z]) (k : ∀ a, a ∈ [x, y, z] → a ≤ M) : M = max x (max y z) := by
  have h1 := k x (by simp)
  have h2 := k y (by simp)
  have h3 := k z (by simp)
  simp only [List.mem_cons, List.not_mem_nil, or_false] at h
  refine Int.le_antisymm ?_ (Int.max_le.mpr ⟨h1, Int.max_le.mpr ⟨h2, h3⟩⟩)
  rcases h with h | h | h
  · rw [h]; exact Int.le_max_left _ _
  · rw [h]; exact Int.le_trans (Int.le_max_left _ _) (Int.le_max_right _ _)
  · rw [h]; exact Int.le_trans (Int.le_max_right _ _) (Int.le_max_right _ _)
noncomputable def crossP (p q : Int × Int) : Int := p.1 * q.2 - p.2 * q.1
noncomputable def besideP (p q : Int × Int) : Bool := decide (p.1 * q.1 + p.2 * q.2 > 0)
noncomputable def lo3 (p q r : Int × Int) : Int := min (crossP q r) (min (crossP r p) (crossP p q))
noncomputable def hi3 (p q r : Int × Int) : Int := max (crossP q r) (max (crossP r p) (crossP p q))
noncomputable def thr (lo hi : Int) (x y z : Bool) : Bool := if lo = 0 ∧ hi = 0 then x && y && z else decide (lo < 0) && decide (hi > 0)
noncomputable def threeB (p q r : Int × Int) : Bool := thr (lo3 p q r) (hi3 p q r) (besideP p q) (besideP q r) (besideP r p)
section
variable {lo hi : Int} {x y z : Bool}
theorem thr1 (h : lo = 0) (k : hi = 0) (hx : x = true) (hy : y = true) : z = thr lo hi x y z := by simp [thr, *]
theorem thr2 (h : lo = 0) (k : hi = 0) (hx : x = true) (hy : y = false) : y = thr lo hi x y z := by simp [thr, *]
theorem thr3 (h : lo = 0) (k : hi = 0) (hx : x = false) : x = thr lo hi x y z := by simp [thr, *]
theorem thr4 (h : lo < 0) : decide (hi > 0) = thr lo hi x y z := by simp only [thr, h, decide_true, Bool.true_and]; rw [if_neg (by omega)]
theorem thr5 (h : ¬ lo < 0) (k : lo ≠ 0) : decide (lo < 0) = thr lo hi x y z := by simp only [thr, h, decide_false, Bool.false_and]; rw [if_neg (by omega)]
theorem thr6 (h : ¬ lo < 0) (k : hi ≠ 0) : decide (lo < 0) = thr lo hi x y z := by simp only [thr, h, decide_false, Bool.false_and]; rw [if_neg (by omega)]
end

local macro_rules | `(tactic| walk_at "call builtin:min") => `(tactic| (refine smin (Room.hh (by assumption)) (by assumption) (St.inn (by assumption)) (.cons _ _ (.cons _ _ (.cons _ _ .nil))) (Nat.succ_pos _) ?_; intro h' M' t' tk' x' hM' kM'; (have S' := St.ext (by assumption) x'); (have e' := min3 hM' kM'); clear hM' kM'; subst e'))
local macro_rules | `(tactic| walk_at "call builtin:max") => `(tactic| (refine smax (Room.hh (by assumption)) (by assumption) (St.inn (by assumption)) (.cons _ _ (.cons _ _ (.cons _ _ .nil))) (Nat.succ_pos _) ?_; intro h' M' t' tk' x' hM' kM'; (have S' := St.ext (by assumption) x'); (have e' := max3 hM' kM'); clear hM' kM'; subst e'))

theorem three_spec {v1 v2 v3 : Value} {p q r : Int × Int} {Q : Value → Shared → Prop} (R : Room 2 A) (W : Wd w G) (I : In G s.heap) (h1 : TI G v1 (pt p)) (h2 : TI G v2 (pt q)) (h3 : TI G v3 (pt r))
    (sp : smallP p) (sq : smallP q) (sr : smallP r) (hQ : ∀ h₂ tk, Ext s.heap h₂ → Q (.bool (threeB p q r)) { s with heap := h₂, toks := tk }) :
    wpAny (model PG w) A (call (.ref 102) [v1, v2, v3]) Q E s := by
  obtain ⟨a, b⟩ := p
  obtain ⟨c, d⟩ := q
  obtain ⟨e, f⟩ := r
  obtain ⟨sa, sb⟩ := sp
  obtain ⟨sc, sd⟩ := sq
  obtain ⟨se, sf⟩ := sr
  dsimp only [pt] at *
  refine callFn (binds := [(Str.ofString "one", v1), (Str.ofString "two", v2), (Str.ofString "three", v3)]) (Post := fun _ v => v = .bool (threeB (a, b) (c, d) (e, f))) R W I (by k_is) (by k_is) (by exact rfl) (by exact BindsTo.of_eq rfl) (by decide) (by exact locs rfl) rfl rfl rfl (fun h₁ L A' S R' => ?_) (fun r G₂ h₂ tk g hp => by subst hp; exact hQ h₂ tk g.ext)
  intro env
  repeat (walk1 <;> try dsimp only)
  refine snl (by assumption) ?_
  intro al G' h' k il _ S'
  replace h1 := h1.mono k
  replace h2 := h2.mono k
  replace h3 := h3.mono k
  replace W := W.mono k
  try dsimp only
  repeat' (walk1 <;> try dsimp only)
  all_goals (refine backBool (Grow.ext (St.gr (by assumption))) I ?_)
  all_goals (show _ = thr _ _ _ _ _)
  all_goals (first
    | exact thr1 (by assumption) (by assumption) (decide_eq_true (by assumption)) (decide_eq_true (by assumption))
    | exact thr2 (by assumption) (by assumption) (decide_eq_true (by assumption)) (decide_eq_false (by assumption))
    | exact thr3 (by assumption) (by assumption) (decide_eq_false (by assumption))
    | exact thr4 (by assumption)
    | exact thr5 (by assumption) (by assumption)
    | exact thr6 (by assumption) (by assumption))
end

end
/-! part Fn2 -/
section
theorem fill2 : (fun (_ : Params → Frag) (_ : OpenLaw) => True) hd.heap_39 PySem.Challenge.rw_pe0118_01 := by k_fill; trivial

local macro_rules | `(tactic| walk_at "callWith ref") => `(tactic| (refine scallKw (by assumption) (by k_is) ?_))

theorem shalf {w : World} {A : Around} {E : Value → Shared → Prop} {s : Shared} {a b : Nat} {t u : Tok} {Q : Value → Shared → Prop} (h : Q (.int ((a + b) / 2 : Nat) s.toks) { s with toks := s.toks + 1 }) :
    wpAny (model PG w) A (binaryOp .FloorDiv (.int ((a : Int) + (b : Int)) t) (.int 2 u)) Q E s := by
  refine floordiv_int (by decide) ?_
  have e : ((a : Int) + (b : Int)).fdiv 2 = (((a + b) / 2 : Nat) : Int) := by rw [Int.fdiv_eq_ediv_of_nonneg _ (by decide)]; (first | lia | omega)
  rw [e]; exact h
local macro_rules | `(tactic| walk_at "binaryOp FloorDiv int int") => `(tactic| (k_dflt (refine shalf ?_)))
/-- item by item -/
noncomputable def All2 {α : Type} (F : Value → α → Prop) (vs : List Value) (xs : List α) : Prop := vs.length = xs.length ∧ ∀ (i : Nat) (v : Value) (x : α), vs[i]? = some v → xs[i]? = some x → F v x
theorem All2.mono {α : Type} {F F' : Value → α → Prop} {vs : List Value} {xs : List α} (h : All2 F vs xs) (k : ∀ v x, F v x → F' v x) : All2 F' vs xs := ⟨h.1, fun i v x a b => k _ _ (h.2 i v x a b)⟩
/-- the rows' entries: hue and place -/
noncomputable def ent (e : Int × Int) : List Int := [e.1, e.2]
noncomputable def Ents (G : Kn) (vs : List Value) (es : List (Int × Int)) : Prop := All2 (fun v e => LI G v (ent e)) vs es
theorem Ents.mono {G G' : Kn} {vs : List Value} {es : List (Int × Int)} (h : Ents G vs es) (k : KE G G') : Ents G' vs es := All2.mono h fun _ _ x => x.mono k
theorem Ents.at {G : Kn} {vs : List Value} {es : List (Int × Int)} (h : Ents G vs es) {i : Nat} (hi : i < es.length) : ∃ v, vs[i]? = some v ∧ LI G v (ent es[i]) := by
  have hv : i < vs.length := by rw [h.1]; exact hi
  exact ⟨vs[i], by simp [hv], h.2 i _ _ (by simp [hv]) (by simp [hi])⟩

section
variable {w : World} {A : Around} {E : Value → Shared → Prop} {s : Shared} {G : Kn}

theorem tone_spec {v : Value} {e : Int × Int} {Q : Value → Shared → Prop} (R : Room 1 A) (W : Wd w G) (I : In G s.heap) (h1 : LI G v (ent e))
    (hQ : ∀ t h₂ tk, Ext s.heap h₂ → Q (.int e.1 t) { s with heap := h₂, toks := tk }) :
    wpAny (model PG w) A (call (.ref 69) [v]) Q E s := by
  obtain ⟨a1, vs1, rfl, l1, i1⟩ := h1
  cases i1; rename_i i1; cases i1; rename_i i1; cases i1
  refine callFn (binds := [(Str.ofString "entry", .ref a1)]) (Post := fun _ r => ∃ t, r = .int e.1 t) R W I (by k_is) (by k_is) (by exact rfl) (by exact BindsTo.of_eq rfl) (by decide) (by exact locs rfl) rfl rfl rfl (fun h₁ L A' S R' => ?_) (fun r G₂ h₂ tk g hp => by obtain ⟨t, rfl⟩ := hp; exact hQ t h₂ tk g.ext)
  intro env
  repeat (walk1 <;> try dsimp only)
  refine sitemL l1 S.inn (by decide) (by decide) (by rfl) ?_
  exact ⟨G, h₁, _, rfl, .ofExt I S.gr.ext, _, rfl⟩

noncomputable def sortedE (es : List (Int × Int)) : Prop := ∀ i j (hi : i < es.length) (hj : j < es.length), i ≤ j → es[i].1 ≤ es[j].1

noncomputable def bisInv (G : Kn) (s : Shared) (L : Addr) (es : List (Int × Int)) (x : Int) (a : Addr) (t : Tok) (k : Nat) (s' : Shared) : Prop :=
  ∃ (lo hi : Nat) (m : Str → Option Value) (tl th : Tok), k = hi - lo ∧ Fl s s' ∧ St G s.heap G L m [] s'.heap ∧ m (Str.ofString "a") = some (.ref a) ∧ m (Str.ofString "x") = some (.int x t) ∧ m (Str.ofString "lo") = some (.int lo tl) ∧ m (Str.ofString "hi") = some (.int hi th) ∧
    m (Str.ofString "key") = some (.ref 69) ∧ lo ≤ hi ∧ hi ≤ es.length ∧ (∀ i (h : i < es.length), i < lo → es[i].1 ≤ x) ∧ (∀ i (h : i < es.length), hi ≤ i → x < es[i].1)

theorem bisectR_spec {a : Addr} {vs : List Value} {es : List (Int × Int)} {x : Int} {t t0 : Tok} {Q : Value → Shared → Prop} (R : Room 2 A) (W : Wd w G) (I : In G s.heap) (hl : IsL G a vs) (he : Ents G vs es) (hs : sortedE es) (hn : es.length < 1000)
    (hQ : ∀ (lo : Nat) t h₂ tk, lo ≤ es.length → (∀ i (hi : i < es.length), i < lo → es[i].1 ≤ x) → (∀ i (hi : i < es.length), lo ≤ i → x < es[i].1) → Ext s.heap h₂ → Q (.int lo t) { s with heap := h₂, toks := tk }) :
    wpAny (model PG w) A (call (.ref 46) [.ref a, .int x t, .int 0 t0, .none] [(Str.ofString "key", .ref 69)]) Q E s := by
  refine callFn (binds := [(Str.ofString "a", .ref a), (Str.ofString "x", .int x t), (Str.ofString "lo", .int 0 t0), (Str.ofString "hi", .none), (Str.ofString "key", .ref 69)])
    (Post := fun _ r => ∃ (lo : Nat) (t : Tok), r = .int lo t ∧ lo ≤ es.length ∧ (∀ i (hi : i < es.length), i < lo → es[i].1 ≤ x) ∧ (∀ i (hi : i < es.length), lo ≤ i → x < es[i].1)) R W I (by k_is) (by k_is) (by exact rfl)
    (by first | exact BindsTo.of_eq rfl | exact binds_K (W.inn I) rfl (by k_is) rfl rfl rfl) (by decide) (by exact locs rfl) rfl rfl rfl (fun h₁ L A' S R' => ?_) (fun r G₂ h₂ tk g hp => by obtain ⟨lo, t, rfl, a, b, c⟩ := hp; exact hQ lo t h₂ tk a b c g.ext)
  intro env
  repeat (walk1 <;> try dsimp only)
  refine slen hl (St.inn (by assumption)) he.1 hn ?_
  try dsimp only
  repeat (walk1 <;> try dsimp only)
  refine swhile (bisInv G s L es x a t) es.length ⟨0, es.length, _, _, _, by (first | lia | omega), .mk, by assumption, by rfl, by rfl, by rfl, by rfl, by rfl, by (first | lia | omega), by (first | lia | omega), fun i hi h => by (first | lia | omega), fun i hi h => by (first | lia | omega)⟩ ?_
  clear S
  intro k s' hI
  obtain ⟨lo, hi, m, tl, th, rfl, hf, S, m1, m2, m3, m4, m5, h1, h2, h3, h4⟩ := hI
  obtain ⟨hc, tkc, rfl⟩ := hf.ex
  dsimp only at S ⊢
  repeat (walk1 <;> try dsimp only)
  · obtain ⟨v, hv, hli⟩ := he.at (i := (lo + hi) / 2) (by (first | lia | omega))
    refine sitemL hl (St.inn (by assumption)) (by (first | lia | omega)) (by (first | lia | omega)) (by rw [Int.toNat_natCast]; exact hv) ?_
    repeat (walk1 <;> try dsimp only)
    refine tone_spec (R'.mono (by decide)) W (St.inn (by assumption)) hli ?_
    intro t1 hx tkx xx
    have S2 := St.ext (by assumption) xx
    dsimp only
    repeat (walk1 <;> try dsimp only)
    · rename_i h9 S9
      refine ⟨rfl, (lo + hi) / 2 - lo, by (first | lia | omega), lo, (lo + hi) / 2, _, tl, _, rfl, .mk, S9, m1, m2, m3, rfl, m5, by (first | lia | omega), by (first | lia | omega), h3, fun i h hle => ?_⟩
      have := hs ((lo + hi) / 2) i (by (first | lia | omega)) h hle
      (first | lia | omega)
    · repeat (walk1 <;> try dsimp only)
      rename_i h9 S9
      refine ⟨rfl, hi - ((lo + hi) / 2 + 1), by (first | lia | omega), (lo + hi) / 2 + 1, hi, _, _, th, rfl, .mk, S9, m1, m2, rfl, m4, m5, by (first | lia | omega), by (first | lia | omega), fun i h hle => ?_, h4⟩
      have := hs i ((lo + hi) / 2) h (by (first | lia | omega)) (by (first | lia | omega))
      (first | lia | omega)
  · repeat (walk1 <;> try dsimp only)
    have e : lo = hi := by (first | lia | omega)
    subst e
    exact ⟨G, hc, _, rfl, .ofExt I S.gr.ext, lo, tl, rfl, h2, h3, h4⟩

noncomputable def bisInvL (G : Kn) (s : Shared) (L : Addr) (es : List (Int × Int)) (x : Int) (a : Addr) (t : Tok) (l0 h0 : Nat) (k : Nat) (s' : Shared) : Prop :=
  ∃ (lo hi : Nat) (m : Str → Option Value) (tl th : Tok), k = hi - lo ∧ Fl s s' ∧ St G s.heap G L m [] s'.heap ∧ m (Str.ofString "a") = some (.ref a) ∧ m (Str.ofString "x") = some (.int x t) ∧ m (Str.ofString "lo") = some (.int lo tl) ∧ m (Str.ofString "hi") = some (.int hi th) ∧
    m (Str.ofString "key") = some (.ref 69) ∧ l0 ≤ lo ∧ lo ≤ hi ∧ hi ≤ h0 ∧ (∀ i (h : i < es.length), l0 ≤ i → i < lo → es[i].1 < x) ∧ (∀ i (h : i < es.length), hi ≤ i → i < h0 → x ≤ es[i].1)

theorem bisectL_spec {a : Addr} {vs : List Value} {es : List (Int × Int)} {x : Int} {l0 h0 : Nat} {t tl0 th0 : Tok} {Q : Value → Shared → Prop} (R : Room 2 A) (W : Wd w G) (I : In G s.heap) (hl : IsL G a vs) (he : Ents G vs es) (hs : sortedE es) (hn : es.length < 1000)
    (hlh : l0 ≤ h0) (hh0 : h0 ≤ es.length)
    (hQ : ∀ (lo : Nat) t h₂ tk, l0 ≤ lo → lo ≤ h0 → (∀ i (hi : i < es.length), l0 ≤ i → i < lo → es[i].1 < x) → (∀ i (hi : i < es.length), lo ≤ i → i < h0 → x ≤ es[i].1) → Ext s.heap h₂ → Q (.int lo t) { s with heap := h₂, toks := tk }) :
    wpAny (model PG w) A (call (.ref 55) [.ref a, .int x t, .int l0 tl0, .int h0 th0] [(Str.ofString "key", .ref 69)]) Q E s := by
  refine callFn (binds := [(Str.ofString "a", .ref a), (Str.ofString "x", .int x t), (Str.ofString "lo", .int l0 tl0), (Str.ofString "hi", .int h0 th0), (Str.ofString "key", .ref 69)])
    (Post := fun _ r => ∃ (lo : Nat) (t : Tok), r = .int lo t ∧ l0 ≤ lo ∧ lo ≤ h0 ∧ (∀ i (hi : i < es.length), l0 ≤ i → i < lo → es[i].1 < x) ∧ (∀ i (hi : i < es.length), lo ≤ i → i < h0 → x ≤ es[i].1)) R W I (by k_is) (by k_is) (by exact rfl)
    (by first | exact BindsTo.of_eq rfl | exact binds_K (W.inn I) rfl (by k_is) rfl rfl rfl) (by decide) (by exact locs rfl) rfl rfl rfl (fun h₁ L A' S R' => ?_) (fun r G₂ h₂ tk g hp => by obtain ⟨lo, t, rfl, a, b, c, d⟩ := hp; exact hQ lo t h₂ tk a b c d g.ext)
  intro env
  repeat (walk1 <;> try dsimp only)
  · exfalso; (first | lia | omega)
  repeat (walk1 <;> try dsimp only)
  refine swhile (bisInvL G s L es x a t l0 h0) (h0 - l0) ⟨l0, h0, _, tl0, th0, rfl, .mk, S, by rfl, by rfl, by rfl, by rfl, by rfl, by (first | lia | omega), by (first | lia | omega), by (first | lia | omega), fun i hi h => by (first | lia | omega), fun i hi h => by (first | lia | omega)⟩ ?_
  clear S
  intro k s' hI
  obtain ⟨lo, hi, m, tl, th, rfl, hf, S, m1, m2, m3, m4, m5, h1, h1', h2, h3, h4⟩ := hI
  obtain ⟨hc, tkc, rfl⟩ := hf.ex
  dsimp only at S ⊢
  repeat (walk1 <;> try dsimp only)
  · obtain ⟨v, hv, hli⟩ := he.at (i := (lo + hi) / 2) (by (first | lia | omega))
    refine sitemL hl (St.inn (by assumption)) (by (first | lia | omega)) (by (first | lia | omega)) (by rw [Int.toNat_natCast]; exact hv) ?_
    repeat (walk1 <;> try dsimp only)
    refine tone_spec (R'.mono (by decide)) W (St.inn (by assumption)) hli ?_
    intro t1 hx tkx xx
    have S2 := St.ext (by assumption) xx
    dsimp only
    repeat (walk1 <;> try dsimp only)
    · rename_i h9 S9
      refine ⟨rfl, hi - ((lo + hi) / 2 + 1), by (first | lia | omega), (lo + hi) / 2 + 1, hi, _, _, th, rfl, .mk, S9, m1, m2, rfl, m4, m5, by (first | lia | omega), by (first | lia | omega), by (first | lia | omega), fun i h hle hlt => ?_, h4⟩
      have := hs i ((lo + hi) / 2) h (by (first | lia | omega)) (by (first | lia | omega))
      (first | lia | omega)
    · repeat (walk1 <;> try dsimp only)
      rename_i h9 S9
      refine ⟨rfl, (lo + hi) / 2 - lo, by (first | lia | omega), lo, (lo + hi) / 2, _, tl, _, rfl, .mk, S9, m1, m2, m3, rfl, m5, by (first | lia | omega), by (first | lia | omega), by (first | lia | omega), h3, fun i h hle hlt => ?_⟩
      have := hs ((lo + hi) / 2) i (by (first | lia | omega)) h hle
      (first | lia | omega)
  · repeat (walk1 <;> try dsimp only)
    have e : lo = hi := by (first | lia | omega)
    subst e
    exact ⟨G, hc, _, rfl, .ofExt I S.gr.ext, lo, tl, rfl, h1, h2, h3, h4⟩
end

end
/-! part Fn3 -/
section
theorem fill3 : (fun (_ : Params → Frag) (_ : OpenLaw) => True) hd.heap_39 PySem.Challenge.rw_pe0118_01 := by k_fill; trivial

local macro_rules | `(tactic| walk_at "callWith ref") => `(tactic| (refine scallKw (by assumption) (by k_is) ?_))

section
variable {w : World} {A : Around} {E : Value → Shared → Prop} {s : Shared} {G : Kn}

theorem In.set {G : Kn} {h : Heap} {a : Addr} {o : Obj} (I : In G h) (ha : h.get? a = some o) : In (G.set a o) h := fun b o' e => by
  unfold Kn.set at e
  split at e
  · next q => cases e; rw [q]; exact ha
  · exact I b o' e
theorem Ents.ins {vs : List Value} {es : List (Int × Int)} {v : Value} {e : Int × Int} {i : Nat} (h : Ents G vs es) (hv : LI G v (ent e)) (hi : i ≤ vs.length) : Ents G (vs.take i ++ v :: vs.drop i) (es.take i ++ e :: es.drop i) := by
  have hl := h.1
  refine ⟨by simp only [List.length_append, List.length_cons, List.length_take, List.length_drop]; (first | lia | omega), fun j u x hu hx => ?_⟩
  rcases Nat.lt_trichotomy j i with q | q | q
  · rw [List.getElem?_append_left (by rw [List.length_take]; (first | lia | omega)), List.getElem?_take_of_lt q] at hu hx
    exact h.2 j u x hu hx
  · subst q
    rw [List.getElem?_append_right (by rw [List.length_take]; (first | lia | omega))] at hu hx
    rw [List.length_take, Nat.min_eq_left (by (first | lia | omega)), Nat.sub_self] at hu hx
    simp only [List.getElem?_cons_zero, Option.some.injEq] at hu hx
    subst hu; subst hx; exact hv
  · rw [List.getElem?_append_right (by rw [List.length_take]; (first | lia | omega))] at hu hx
    rw [List.length_take, Nat.min_eq_left (by (first | lia | omega))] at hu hx
    obtain ⟨d, rfl⟩ : ∃ d, j = i + 1 + d := ⟨j - i - 1, by (first | lia | omega)⟩
    have e1 : i + 1 + d - i = d + 1 := by (first | lia | omega)
    rw [e1, List.getElem?_cons_succ, List.getElem?_drop] at hu hx
    exact h.2 (i + d) u x hu hx

theorem insort_spec {a : Addr} {vs : List Value} {n : Nat} {es : List (Int × Int)} {v : Value} {e : Int × Int} {Q : Value → Shared → Prop} (R : Room 3 A) (W : Wd w G) (I : In G s.heap) (ha : s.heap.get? a = some (lstN vs n)) (hG : G a = none)
    (he : Ents G vs es) (hs : sortedE es) (hn : es.length < 999) (hv : LI G v (ent e))
    (hQ : ∀ (i : Nat) vs' n' h₂ tk, i ≤ es.length → (∀ j (hj : j < es.length), j < i → es[j].1 ≤ e.1) → (∀ j (hj : j < es.length), i ≤ j → e.1 < es[j].1) → (∀ b o, b ≠ a → s.heap.get? b = some o → h₂.get? b = some o) → h₂.get? a = some (lstN vs' n') →
      Ents G vs' (es.take i ++ e :: es.drop i) → Q .none { s with heap := h₂, toks := tk }) :
    wpAny (model PG w) A (call (.ref 37) [.ref a, v] [(Str.ofString "key", .ref 69)]) Q E s := by
  refine callFnM (h₀ := hideAll s.heap [a]) (mu := [(a, lstN vs n)]) (binds := [(Str.ofString "a", .ref a), (Str.ofString "x", v), (Str.ofString "lo", .int 0 228), (Str.ofString "hi", .none), (Str.ofString "key", .ref 69)])
    (Post := fun r s' => r = .none ∧ ∃ (i : Nat) (vs' : List Value) (n' : Nat) (h₂ : Heap) (tk : Nat), s' = { s with heap := h₂, toks := tk } ∧ i ≤ es.length ∧ (∀ j (hj : j < es.length), j < i → es[j].1 ≤ e.1) ∧ (∀ j (hj : j < es.length), i ≤ j → e.1 < es[j].1) ∧ (∀ b o, b ≠ a → s.heap.get? b = some o → h₂.get? b = some o) ∧ h₂.get? a = some (lstN vs' n') ∧
      Ents G vs' (es.take i ++ e :: es.drop i)) R W I (fun b o q => of_hideAll _ q) (fun p hp => by rw [List.mem_singleton.mp hp]; exact ⟨ha, hG, hideAll_none _ (.head _)⟩) (by simp) (by k_is) (by k_is) (by exact rfl)
    (by first | exact BindsTo.of_eq rfl | exact binds_K (W.inn I) rfl (by k_is) rfl rfl rfl) (by decide) (by exact locs rfl) rfl rfl rfl (fun h₁ L A' S R' => ?_) (fun r s' hp => by obtain ⟨rfl, i, vs', n', h₂, tk, rfl, a, b, c, d, e, f⟩ := hp; exact hQ i vs' n' h₂ tk a b c d e f)
  intro env
  repeat (walk1 <;> try dsimp only)
  refine tone_spec (R'.mono (by decide)) W (St.inn (by assumption)) hv ?_
  intro t1 hx tkx xx
  have S2 := St.ext (by assumption) xx
  dsimp only at S2 ⊢
  repeat (walk1 <;> try dsimp only)
  refine bisectR_spec (G := G.set a (lstN vs n)) (R'.mono (by decide)) (W.mono (KE.set hG)) (In.set S2.inn (S2.mu_ _ (.head _)).1) (IsL.ofN (Kn.set_self _ _ _)) (he.mono (KE.set hG)) hs (by (first | lia | omega)) ?_
  intro lo t2 h3 tk3 l1 l2 l3 x3
  have S3 := St.ext S2 x3
  dsimp only at S3 ⊢
  repeat (walk1 <;> try dsimp only)
  rename_i h4 S4
  refine smeth (S4.mu_ _ (.head _)).1 PySem.F.slot_list_insert PySem.F.type_list_insert ?_
  try dsimp only
  repeat (walk1 <;> try dsimp only)
  refine sins S4 (by rw [he.1]; (first | lia | omega)) rfl (by rw [he.1]; exact l1) ?_
  intro h5 n5 S5
  dsimp only
  repeat (walk1 <;> try dsimp only)
  refine ⟨rfl, lo, _, n5, h5, _, rfl, l1, l2, l3, fun b o hb q => S5.gr.ext b o (hideAll_get _ q fun hm => hb (List.mem_singleton.mp hm)), (S5.mu_ _ (.head _)).1, he.ins hv (by rw [he.1]; exact l1)⟩
end

end
/-! part FlP -/
section

noncomputable def gtB (x y : UInt64) : Bool := Float64.cmp x y == some Ordering.gt
noncomputable def ltB (x y : UInt64) : Bool := Float64.cmp x y == some Ordering.lt
noncomputable def eqB (x y : UInt64) : Bool := Float64.cmp x y == some Ordering.eq
noncomputable def leB (x y : UInt64) : Bool := Float64.cmp x y == some Ordering.lt || Float64.cmp x y == some Ordering.eq
noncomputable def pick (c : Bool) (x y : UInt64) : UInt64 := if c = true then x else y
noncomputable def fmax3 (r g b : UInt64) : UInt64 := pick (gtB b (pick (gtB g r) g r)) b (pick (gtB g r) g r)
noncomputable def fmin3 (r g b : UInt64) : UInt64 := pick (ltB b (pick (ltB g r) g r)) b (pick (ltB g r) g r)
/-- the hue, out of what lacks to the greatest part, and the range -/
noncomputable def hueD (er eg : Bool) (dr dg db rg : UInt64) : UInt64 :=
  (Float64.divmod (Float64.div (pick er (Float64.sub (Float64.div db rg) (Float64.div dg rg)) (pick eg (Float64.sub (Float64.add 4611686018427387904 (Float64.div dr rg)) (Float64.div db rg)) (Float64.sub (Float64.add 4616189618054758400 (Float64.div dg rg)) (Float64.div dr rg)))) 4618441417868443648) 4607182418800017408).2
noncomputable def hueF (r g b mx mn : UInt64) : UInt64 := hueD (eqB r mx) (eqB g mx) (Float64.sub mx r) (Float64.sub mx g) (Float64.sub mx b) (Float64.sub mx mn)
noncomputable def satV (mx mn : UInt64) : UInt64 := Float64.div (Float64.sub mx mn) mx
noncomputable def lightF (mx mn : UInt64) : UInt64 := Float64.div (Float64.add mx mn) 4611686018427387904
noncomputable def satL (mx mn : UInt64) : UInt64 :=
  pick (leB (lightF mx mn) 4602678819172646912) (Float64.div (Float64.sub mx mn) (Float64.add mx mn)) (Float64.div (Float64.sub mx mn) (Float64.sub (Float64.sub 4611686018427387904 mx) mn))
/-- no division by nought -/
noncomputable def okV (mx mn : UInt64) : Bool := !Float64.isZero mx && !Float64.isZero (Float64.sub mx mn)
noncomputable def okL (mx mn : UInt64) : Bool := (!leB (lightF mx mn) 4602678819172646912 || !Float64.isZero (Float64.add mx mn)) && (leB (lightF mx mn) 4602678819172646912 || !Float64.isZero (Float64.sub (Float64.sub 4611686018427387904 mx) mn)) && !Float64.isZero (Float64.sub mx mn)
noncomputable def toneF (h : UInt64) : Option Int := match Float64.decode (Float64.add (Float64.mul h 4662263553305083904) 4602678819172646912) with
  | .fin sg m e => some (Float64.truncOf sg m e)
  | _ => none
noncomputable def f8 (i : Int) : UInt64 := Float64.div (Float64.ofInt i) 4620693217682128896

/-- the hue in 5040ths, by whole numbers; none of a grey -/
noncomputable def toneD (dr dg db rg : Int) : Int := (if dr = 0 then 840 * (db - dg) / rg else if dg = 0 then 1680 + 840 * (dr - db) / rg else 3360 + 840 * (dg - dr) / rg) % 5040
noncomputable def toneZ (r g b : Int) : Option Int :=
  if max r (max g b) = min r (min g b) then none else some (toneD (max r (max g b) - r) (max r (max g b) - g) (max r (max g b) - b) (max r (max g b) - min r (min g b)))

noncomputable def row9 (f : Int → Bool) : Bool := f 0 && f 1 && f 2 && f 3 && f 4 && f 5 && f 6 && f 7 && f 8
noncomputable def in9 (i : Int) : Prop := 0 ≤ i ∧ i ≤ 8
theorem row9_at {f : Int → Bool} (h : row9 f = true) {i : Int} (hi : in9 i) : f i = true := by
  unfold row9 at h
  simp only [Bool.and_eq_true] at h
  obtain ⟨⟨⟨⟨⟨⟨⟨⟨h0, h1⟩, h2⟩, h3⟩, h4⟩, h5⟩, h6⟩, h7⟩, h8⟩ := h
  have : i = 0 ∨ i = 1 ∨ i = 2 ∨ i = 3 ∨ i = 4 ∨ i = 5 ∨ i = 6 ∨ i = 7 ∨ i = 8 := by unfold in9 at hi; (first | lia | omega)
  rcases this with rfl | rfl | rfl | rfl | rfl | rfl | rfl | rfl | rfl <;> assumption

theorem gt_all : row9 (fun x => row9 fun y => gtB (f8 x) (f8 y) == decide (y < x)) = true := by decide +kernel
theorem lt_all : row9 (fun x => row9 fun y => ltB (f8 x) (f8 y) == decide (x < y)) = true := by decide +kernel
theorem eq_all : row9 (fun x => row9 fun y => eqB (f8 x) (f8 y) == decide (x = y)) = true := by decide +kernel
theorem sub_all : row9 (fun x => row9 fun y => decide (x < y) || Float64.sub (f8 x) (f8 y) == f8 (x - y)) = true := by decide +kernel
theorem sat_all : row9 (fun x => row9 fun y => decide (x ≤ y) || (okV (f8 x) (f8 y) && okL (f8 x) (f8 y) && !eqB (satV (f8 x) (f8 y)) 0 && !eqB (satL (f8 x) (f8 y)) 0)) = true := by decide +kernel
noncomputable def hueOk (dr dg db : Int) : Bool := decide (max dr (max dg db) = 0) || decide (min dr (min dg db) ≠ 0) ||
  toneF (hueD (decide (dr = 0)) (decide (dg = 0)) (f8 dr) (f8 dg) (f8 db) (f8 (max dr (max dg db)))) == some (toneD dr dg db (max dr (max dg db)))
theorem hue_0 : row9 (fun y => row9 fun z => hueOk 0 y z) = true := by decide +kernel
theorem hue_1 : row9 (fun y => row9 fun z => hueOk 1 y z) = true := by decide +kernel
theorem hue_2 : row9 (fun y => row9 fun z => hueOk 2 y z) = true := by decide +kernel
theorem hue_3 : row9 (fun y => row9 fun z => hueOk 3 y z) = true := by decide +kernel
theorem hue_4 : row9 (fun y => row9 fun z => hueOk 4 y z) = true := by decide +kernel
theorem hue_5 : row9 (fun y => row9 fun z => hueOk 5 y z) = true := by decide +kernel
theorem hue_6 : row9 (fun y => row9 fun z => hueOk 6 y z) = true := by decide +kernel
theorem hue_7 : row9 (fun y => row9 fun z => hueOk 7 y z) = true := by decide +kernel
theorem hue_8 : row9 (fun y => row9 fun z => hueOk 8 y z) = true := by decide +kernel

theorem hueOk_at {x y z : Int} (hx : in9 x) (hy : in9 y) (hz : in9 z) : hueOk x y z = true := by
  have : x = 0 ∨ x = 1 ∨ x = 2 ∨ x = 3 ∨ x = 4 ∨ x = 5 ∨ x = 6 ∨ x = 7 ∨ x = 8 := by unfold in9 at hx; (first | lia | omega)
  rcases this with rfl | rfl | rfl | rfl | rfl | rfl | rfl | rfl | rfl
  · exact row9_at (row9_at hue_0 hy) hz
  · exact row9_at (row9_at hue_1 hy) hz
  · exact row9_at (row9_at hue_2 hy) hz
  · exact row9_at (row9_at hue_3 hy) hz
  · exact row9_at (row9_at hue_4 hy) hz
  · exact row9_at (row9_at hue_5 hy) hz
  · exact row9_at (row9_at hue_6 hy) hz
  · exact row9_at (row9_at hue_7 hy) hz
  · exact row9_at (row9_at hue_8 hy) hz

section
variable {x y : Int}
theorem gt8 (hx : in9 x) (hy : in9 y) : gtB (f8 x) (f8 y) = decide (y < x) := by simpa using row9_at (row9_at gt_all hx) hy
theorem lt8 (hx : in9 x) (hy : in9 y) : ltB (f8 x) (f8 y) = decide (x < y) := by simpa using row9_at (row9_at lt_all hx) hy
theorem eq8 (hx : in9 x) (hy : in9 y) : eqB (f8 x) (f8 y) = decide (x = y) := by simpa using row9_at (row9_at eq_all hx) hy
theorem sub8 (hx : in9 x) (hy : in9 y) (h : y ≤ x) : Float64.sub (f8 x) (f8 y) = f8 (x - y) := by
  have := row9_at (row9_at sub_all hx) hy
  simp only [Bool.or_eq_true, decide_eq_true_eq, beq_iff_eq] at this
  rcases this with q | q
  · (first | lia | omega)
  · exact q
theorem sat8 (hx : in9 x) (hy : in9 y) (h : y < x) : okV (f8 x) (f8 y) = true ∧ okL (f8 x) (f8 y) = true ∧ eqB (satV (f8 x) (f8 y)) 0 = false ∧ eqB (satL (f8 x) (f8 y)) 0 = false := by
  have := row9_at (row9_at sat_all hx) hy
  simp only [Bool.or_eq_true, decide_eq_true_eq, Bool.and_eq_true, Bool.not_eq_true'] at this
  rcases this with q | ⟨⟨⟨a, b⟩, c⟩, d⟩
  · (first | lia | omega)
  · exact ⟨a, b, c, d⟩
end
theorem pick_dec {p : Prop} [Decidable p] {x y : Int} : pick (decide p) (f8 x) (f8 y) = f8 (if p then x else y) := by
  unfold pick; by_cases h : p <;> simp [h]
theorem max8 {r g b : Int} (hr : in9 r) (hg : in9 g) (hb : in9 b) : fmax3 (f8 r) (f8 g) (f8 b) = f8 (max r (max g b)) := by
  unfold fmax3
  have hm : in9 (if r < g then g else r) := by split <;> assumption
  rw [gt8 hg hr, pick_dec, gt8 hb hm, pick_dec]
  congr 1
  repeat' split
  all_goals (first | lia | omega)
theorem min8 {r g b : Int} (hr : in9 r) (hg : in9 g) (hb : in9 b) : fmin3 (f8 r) (f8 g) (f8 b) = f8 (min r (min g b)) := by
  unfold fmin3
  have hm : in9 (if g < r then g else r) := by split <;> assumption
  rw [lt8 hg hr, pick_dec, lt8 hb hm, pick_dec]
  congr 1
  repeat' split
  all_goals (first | lia | omega)
theorem max3_cases (r g b : Int) : max r (max g b) = r ∨ max r (max g b) = g ∨ max r (max g b) = b := by
  rcases Int.le_total (max g b) r with h | h
  · exact .inl (Int.max_eq_left h)
  · rw [Int.max_eq_right h]
    rcases Int.le_total b g with q | q
    · exact .inr (.inl (Int.max_eq_left q))
    · exact .inr (.inr (Int.max_eq_right q))
theorem min3_cases (r g b : Int) : min r (min g b) = r ∨ min r (min g b) = g ∨ min r (min g b) = b := by
  rcases Int.le_total r (min g b) with h | h
  · exact .inl (Int.min_eq_left h)
  · rw [Int.min_eq_right h]
    rcases Int.le_total g b with q | q
    · exact .inr (.inl (Int.min_eq_left q))
    · exact .inr (.inr (Int.min_eq_right q))
theorem le_max3 (r g b : Int) : r ≤ max r (max g b) ∧ g ≤ max r (max g b) ∧ b ≤ max r (max g b) :=
  ⟨Int.le_max_left _ _, Int.le_trans (Int.le_max_left _ _) (Int.le_max_right _ _), Int.le_trans (Int.le_max_right _ _) (Int.le_max_right _ _)⟩
theorem min3_le (r g b : Int) : min r (min g b) ≤ r ∧ min r (min g b) ≤ g ∧ min r (min g b) ≤ b :=
  ⟨Int.min_le_left _ _, Int.le_trans (Int.min_le_right _ _) (Int.min_le_left _ _), Int.le_trans (Int.min_le_right _ _) (Int.min_le_right _ _)⟩
theorem in9_sub {M x : Int} (hM : in9 M) (hx : in9 x) (h : x ≤ M) : in9 (M - x) := ⟨Int.sub_nonneg_of_le h, Int.le_trans (Int.sub_le_self M hx.1) hM.2⟩
theorem sub_zero_iff {x M : Int} : x = M ↔ M - x = 0 := ⟨fun h => by rw [h]; exact Int.sub_self M, fun h => (Int.eq_of_sub_eq_zero h).symm⟩
theorem hue8 {r g b : Int} (hr : in9 r) (hg : in9 g) (hb : in9 b) (hne : max r (max g b) ≠ min r (min g b)) :
    toneF (hueF (f8 r) (f8 g) (f8 b) (f8 (max r (max g b))) (f8 (min r (min g b)))) = toneZ r g b := by
  unfold toneZ
  rw [if_neg hne]
  have hM : in9 (max r (max g b)) := by rcases max3_cases r g b with h | h | h <;> rw [h] <;> assumption
  have hm : in9 (min r (min g b)) := by rcases min3_cases r g b with h | h | h <;> rw [h] <;> assumption
  have cM := max3_cases r g b
  have cm := min3_cases r g b
  obtain ⟨M1, M2, M3⟩ := le_max3 r g b
  obtain ⟨N1, N2, N3⟩ := min3_le r g b
  generalize max r (max g b) = M at *
  generalize min r (min g b) = m at *
  unfold hueF
  rw [eq8 hr hM, eq8 hg hM, sub8 hM hr M1, sub8 hM hg M2, sub8 hM hb M3, sub8 hM hm (Int.le_trans N1 M1)]
  have k := hueOk_at (in9_sub hM hr M1) (in9_sub hM hg M2) (in9_sub hM hb M3)
  unfold hueOk at k
  have e : max (M - r) (max (M - g) (M - b)) = M - m := by
    refine Int.le_antisymm (Int.max_le.mpr ⟨Int.sub_le_sub_left N1 M, Int.max_le.mpr ⟨Int.sub_le_sub_left N2 M, Int.sub_le_sub_left N3 M⟩⟩) ?_
    obtain ⟨a1, a2, a3⟩ := le_max3 (M - r) (M - g) (M - b)
    rcases cm with h | h | h
    · rw [h]; exact a1
    · rw [h]; exact a2
    · rw [h]; exact a3
  have e0 : min (M - r) (min (M - g) (M - b)) = 0 := by
    refine Int.le_antisymm ?_ (Int.le_min.mpr ⟨Int.sub_nonneg_of_le M1, Int.le_min.mpr ⟨Int.sub_nonneg_of_le M2, Int.sub_nonneg_of_le M3⟩⟩)
    obtain ⟨a1, a2, a3⟩ := min3_le (M - r) (M - g) (M - b)
    rcases cM with h | h | h
    · exact Int.le_trans a1 (Int.le_of_eq (sub_zero_iff.mp h.symm))
    · exact Int.le_trans a2 (Int.le_of_eq (sub_zero_iff.mp h.symm))
    · exact Int.le_trans a3 (Int.le_of_eq (sub_zero_iff.mp h.symm))
  rw [e] at k
  simp only [Bool.or_eq_true, decide_eq_true_eq, beq_iff_eq] at k
  have e1 : decide (r = M) = decide (M - r = 0) := decide_eq_decide.mpr sub_zero_iff
  have e2 : decide (g = M) = decide (M - g = 0) := decide_eq_decide.mpr sub_zero_iff
  rw [e1, e2]
  rcases k with (k | k) | k
  · exact absurd (Int.eq_of_sub_eq_zero k) hne
  · exact absurd e0 k
  · exact k
theorem grey8 {r g b : Int} (hr : in9 r) (hg : in9 g) (hb : in9 b) : eqB (f8 (min r (min g b))) (f8 (max r (max g b))) = decide (toneZ r g b = none) := by
  have hM : in9 (max r (max g b)) := by rcases max3_cases r g b with h | h | h <;> rw [h] <;> assumption
  have hm : in9 (min r (min g b)) := by rcases min3_cases r g b with h | h | h <;> rw [h] <;> assumption
  rw [eq8 hm hM]
  unfold toneZ
  by_cases h : max r (max g b) = min r (min g b)
  · rw [if_pos h]; simp [h]
  · rw [if_neg h]; simp [Ne.symm h]

end
/-! part Fl1 -/
section
theorem fill4 : (fun (_ : Params → Frag) (_ : OpenLaw) => True) hd.heap_39 PySem.Challenge.rw_pe0118_01 := by k_fill; trivial

section
variable {w : World} {A : Around} {E : Value → Shared → Prop} {s : Shared} {G : Kn}
theorem sdivF {a b : UInt64} {t u : Tok} {Q : Value → Shared → Prop} (hz : Float64.isZero b = false) (h : Q (.float (Float64.div a b) s.toks) { s with toks := s.toks + 1 }) : wpAny (model PG w) A (binaryOp .Div (.float a t) (.float b u)) Q E s :=
  AutoFloatOps.truediv_1 (by rw [hz]; decide) h
theorem smodF {a b : UInt64} {t u : Tok} {Q : Value → Shared → Prop} (hz : Float64.isZero b = false) (h : Q (.float (Float64.divmod a b).2 s.toks) { s with toks := s.toks + 1 }) : wpAny (model PG w) A (binaryOp .Mod (.float a t) (.float b u)) Q E s :=
  AutoFloatOps.mod_1 (by rw [hz]; decide) h
theorem seqF {a b : UInt64} {t u : Tok} {Q : Value → Shared → Prop} (h : Q (.bool (eqB a b)) s) : wpAny (model PG w) A (compareOp .Eq (.float a t) (.float b u)) Q E s := AutoFloatOps.eq_0 h
theorem sleF {a b : UInt64} {t u : Tok} {Q : Value → Shared → Prop} (h : Q (.bool (leB a b)) s) : wpAny (model PG w) A (compareOp .LtE (.float a t) (.float b u)) Q E s := AutoFloatOps.le_0 h
theorem sdivIF {a : UInt64} {b : Int} {t u : Tok} {Q : Value → Shared → Prop} (hi : Float64.isInf (Float64.ofInt b) = false) (hz : Float64.isZero a = false) (h : Q (.float (Float64.div (Float64.ofInt b) a) s.toks) { s with toks := s.toks + 1 }) : wpAny (model PG w) A (binaryOp .Div (.int b u) (.float a t)) Q E s :=
  AutoFloatOps.truediv_if_2 (by rw [hi]; decide) (by rw [hz]; decide) h

theorem three_items {x y z : Value} {i : Nat} {v : Value} (h : (#[x, y, z] : Array Value)[i]? = some v) : i = 0 ∧ v = x ∨ i = 1 ∧ v = y ∨ i = 2 ∧ v = z := by
  match i with
  | 0 => left; exact ⟨rfl, by simpa using h.symm⟩
  | 1 => right; left; exact ⟨rfl, by simpa using h.symm⟩
  | 2 => right; right; exact ⟨rfl, by simpa using h.symm⟩
  | n + 3 => simp at h
noncomputable def at3 (r g b : UInt64) : Nat → UInt64
  | 0 => r
  | 1 => g
  | _ => b
theorem at3_of {r g b : UInt64} {t u x : Tok} {i : Nat} {v : Value} (h : (#[.float r t, .float g u, .float b x] : Array Value)[i]? = some v) : ∃ t', v = .float (at3 r g b i) t' := by
  rcases three_items h with ⟨rfl, rfl⟩ | ⟨rfl, rfl⟩ | ⟨rfl, rfl⟩ <;> exact ⟨_, rfl⟩
theorem best3 (p : UInt64 → UInt64 → Bool) (r g b : UInt64) : at3 r g b (argBest (fun i j => p (at3 r g b i) (at3 r g b j)) 2) = pick (p b (pick (p g r) g r)) b (pick (p g r) g r) := by
  have a1 : argBest (fun i j => p (at3 r g b i) (at3 r g b j)) 1 = if p g r = true then 1 else 0 := rfl
  have a2 : argBest (fun i j => p (at3 r g b i) (at3 r g b j)) 2 = if p b (at3 r g b (argBest (fun i j => p (at3 r g b i) (at3 r g b j)) 1)) = true then 2 else argBest (fun i j => p (at3 r g b i) (at3 r g b j)) 1 := rfl
  unfold pick
  by_cases h1 : p g r = true
  · rw [if_pos h1] at a1 ⊢
    rw [a1] at a2
    rw [a2]
    show at3 r g b (if p b g = true then 2 else 1) = _
    by_cases h2 : p b g = true
    · rw [if_pos h2, if_pos h2]; rfl
    · rw [if_neg h2, if_neg h2]; rfl
  · rw [if_neg h1] at a1 ⊢
    rw [a1] at a2
    rw [a2]
    show at3 r g b (if p b r = true then 2 else 0) = _
    by_cases h2 : p b r = true
    · rw [if_pos h2, if_pos h2]; rfl
    · rw [if_neg h2, if_neg h2]; rfl

theorem smax3 {r g b : UInt64} {t u x : Tok} {Q : Value → Shared → Prop} (hh : A.handled = none)
    (h : ∀ t' h' tk, Ext s.heap h' → Q (.float (fmax3 r g b) t') { s with heap := h', toks := tk }) :
    wpAny (model PG w) A (call (.builtin "max") [.float r t, .float g u, .float b x]) Q E s := by
  have hT : (s.heap.push { cls := .type "tuple", data := .seq #[.float r t, .float g u, .float b x] }).IsTuple s.heap.objs.size #[.float r t, .float g u, .float b x] := ⟨_, Heap.get?_push_size _ rfl, rfl, 0, rfl⟩
  refine call_max_three (wpAny_pyIter_tuple hT ?_)
  have hsz : (s.heap.push { cls := .type "tuple", data := .seq #[.float r t, .float g u, .float b x] }).objs.size = s.heap.objs.size + 1 := Heap.size_push ..
  refine ⟨_, [_, s.heap.objs.size], [_], _, _, _, fun i j => gtB (at3 r g b i) (at3 r g b j), rfl, Walks.tuple (A := A.in1) hh _ s.heap.objs.size (by rw [hsz]; exact Nat.ne_of_lt (Nat.lt_succ_self _)) #[.float r t, .float g u, .float b x],
    ⟨⟨_, Heap.get?_push_size _ rfl, rfl, rfl⟩, hT.push _⟩, fun d hd => ?_, by simp, fun i j vi vj s' Q' E' hi hj hq => ?_, fun v h' tk hP hk => ?_⟩
  · show d < ((s.heap.push _).push _).objs.size
    rw [Heap.size_push, hsz]
    simp only [List.mem_cons, List.not_mem_nil, or_false] at hd
    rcases hd with rfl | rfl
    · rw [hsz]; exact Nat.lt_succ_self _
    · exact Nat.lt_succ_of_lt (Nat.lt_succ_self _)
  · obtain ⟨t1, rfl⟩ := at3_of hi
    obtain ⟨t2, rfl⟩ := at3_of hj
    exact AutoFloatOps.gt_0 hq
  · obtain ⟨t', rfl⟩ := at3_of hP
    have e := best3 gtB r g b
    have q : (#[.float r t, .float g u, .float b x] : Array Value).size - 1 = 2 := rfl
    rw [q, e]
    refine h t' h' tk fun d o hd => hk d o (fun hm => ?_) (Heap.get?_push_of_some _ (Heap.get?_push_of_some _ hd))
    have := Heap.lt_size hd
    rw [List.mem_singleton.mp hm, hsz] at this
    exact Nat.lt_irrefl _ (Nat.lt_of_succ_lt this)
theorem smin3 {r g b : UInt64} {t u x : Tok} {Q : Value → Shared → Prop} (hh : A.handled = none)
    (h : ∀ t' h' tk, Ext s.heap h' → Q (.float (fmin3 r g b) t') { s with heap := h', toks := tk }) :
    wpAny (model PG w) A (call (.builtin "min") [.float r t, .float g u, .float b x]) Q E s := by
  have hT : (s.heap.push { cls := .type "tuple", data := .seq #[.float r t, .float g u, .float b x] }).IsTuple s.heap.objs.size #[.float r t, .float g u, .float b x] := ⟨_, Heap.get?_push_size _ rfl, rfl, 0, rfl⟩
  refine call_min_three (wpAny_pyIter_tuple hT ?_)
  have hsz : (s.heap.push { cls := .type "tuple", data := .seq #[.float r t, .float g u, .float b x] }).objs.size = s.heap.objs.size + 1 := Heap.size_push ..
  refine ⟨_, [_, s.heap.objs.size], [_], _, _, _, fun i j => ltB (at3 r g b i) (at3 r g b j), rfl, Walks.tuple (A := A.in1) hh _ s.heap.objs.size (by rw [hsz]; exact Nat.ne_of_lt (Nat.lt_succ_self _)) #[.float r t, .float g u, .float b x],
    ⟨⟨_, Heap.get?_push_size _ rfl, rfl, rfl⟩, hT.push _⟩, fun d hd => ?_, by simp, fun i j vi vj s' Q' E' hi hj hq => ?_, fun v h' tk hP hk => ?_⟩
  · show d < ((s.heap.push _).push _).objs.size
    rw [Heap.size_push, hsz]
    simp only [List.mem_cons, List.not_mem_nil, or_false] at hd
    rcases hd with rfl | rfl
    · rw [hsz]; exact Nat.lt_succ_self _
    · exact Nat.lt_succ_of_lt (Nat.lt_succ_self _)
  · obtain ⟨t1, rfl⟩ := at3_of hi
    obtain ⟨t2, rfl⟩ := at3_of hj
    exact AutoFloatOps.lt_0 hq
  · obtain ⟨t', rfl⟩ := at3_of hP
    have e := best3 ltB r g b
    have q : (#[.float r t, .float g u, .float b x] : Array Value).size - 1 = 2 := rfl
    rw [q, e]
    refine h t' h' tk fun d o hd => hk d o (fun hm => ?_) (Heap.get?_push_of_some _ (Heap.get?_push_of_some _ hd))
    have := Heap.lt_size hd
    rw [List.mem_singleton.mp hm, hsz] at this
    exact Nat.lt_irrefl _ (Nat.lt_of_succ_lt this)
end

end
/-! part Fl2 -/
section
theorem fill5 : (fun (_ : Params → Frag) (_ : OpenLaw) => True) hd.heap_39 PySem.Challenge.rw_pe0118_01 := by k_fill; trivial
theorem z6 : Float64.isZero 4618441417868443648 = false := by decide +kernel
theorem z1 : Float64.isZero 4607182418800017408 = false := by decide +kernel
theorem z2 : Float64.isZero 4611686018427387904 = false := by decide +kernel
theorem z8 : Float64.isZero 4620693217682128896 = false := by decide +kernel

local macro_rules | `(tactic| walk_at "binaryOp Div float float") => `(tactic| (k_dflt (refine sdivF (by first | assumption | exact z6 | exact z2) ?_)))
local macro_rules | `(tactic| walk_at "binaryOp Mod float float") => `(tactic| (k_dflt (refine smodF z1 ?_)))
local macro_rules | `(tactic| walk_at "compareOp Eq float float") => `(tactic| (k_dflt (refine seqF ?_)))
local macro_rules | `(tactic| walk_at "compareOp LtE float float") => `(tactic| (k_dflt (refine sleF ?_)))
local macro_rules | `(tactic| walk_at "call builtin:max") => `(tactic| (k_dflt (refine smax3 (Room.hh (by assumption)) ?_); intro t' h' tk' x'; (have S' := St.ext (by assumption) x')))
local macro_rules | `(tactic| walk_at "call builtin:min") => `(tactic| (k_dflt (refine smin3 (Room.hh (by assumption)) ?_); intro t' h' tk' x'; (have S' := St.ext (by assumption) x')))
local macro_rules | `(tactic| walk_at "ite") => `(tactic| (first | refine ite_pos (by assumption) ?_ | refine ite_neg (by assumption) ?_))

section
variable {r g b mx mn : UInt64}
theorem hueF_r (h : eqB r mx = true) : hueF r g b mx mn = (Float64.divmod (Float64.div (Float64.sub (Float64.div (Float64.sub mx b) (Float64.sub mx mn)) (Float64.div (Float64.sub mx g) (Float64.sub mx mn))) 4618441417868443648) 4607182418800017408).2 := by
  unfold hueF hueD pick; rw [if_pos h]
theorem hueF_g (h : eqB r mx = false) (k : eqB g mx = true) : hueF r g b mx mn = (Float64.divmod (Float64.div (Float64.sub (Float64.add 4611686018427387904 (Float64.div (Float64.sub mx r) (Float64.sub mx mn))) (Float64.div (Float64.sub mx b) (Float64.sub mx mn))) 4618441417868443648) 4607182418800017408).2 := by
  unfold hueF hueD pick; rw [h, k]; rfl
theorem hueF_b (h : eqB r mx = false) (k : eqB g mx = false) : hueF r g b mx mn = (Float64.divmod (Float64.div (Float64.sub (Float64.add 4616189618054758400 (Float64.div (Float64.sub mx g) (Float64.sub mx mn))) (Float64.div (Float64.sub mx r) (Float64.sub mx mn))) 4618441417868443648) 4607182418800017408).2 := by
  unfold hueF hueD pick; rw [h, k]; rfl
theorem satL_1 (h : leB (lightF mx mn) 4602678819172646912 = true) : satL mx mn = Float64.div (Float64.sub mx mn) (Float64.add mx mn) := by unfold satL pick; rw [if_pos h]
theorem satL_2 (h : ¬ leB (lightF mx mn) 4602678819172646912 = true) : satL mx mn = Float64.div (Float64.sub mx mn) (Float64.sub (Float64.sub 4611686018427387904 mx) mn) := by unfold satL pick; rw [if_neg h]
end
noncomputable def T3 (G : Kn) (v : Value) (x y z : UInt64) : Prop := ∃ a t1 t2 t3, v = .ref a ∧ IsT G a [.float x t1, .float y t2, .float z t3]
theorem T3.of {G : Kn} {a : Addr} {x y z x' y' z' : UInt64} {t1 t2 t3 : Tok} (h : IsT G a [.float x t1, .float y t2, .float z t3]) (e1 : x' = x) (e2 : y' = y) (e3 : z' = z) : T3 G (.ref a) x' y' z' := by
  subst e1; subst e2; subst e3; exact ⟨a, t1, t2, t3, rfl, h⟩
section
variable {w : World} {A : Around} {E : Value → Shared → Prop} {s : Shared} {G : Kn}

theorem hsv_spec {r g b : UInt64} {t1 t2 t3 : Tok} {Q : Value → Shared → Prop} (R : Room 1 A) (W : Wd w G) (I : In G s.heap) (hok : eqB (fmin3 r g b) (fmax3 r g b) = true ∨ okV (fmax3 r g b) (fmin3 r g b) = true)
    (hQ : ∀ v G₂ h₂ tk, Grow G s.heap G₂ h₂ → (∃ x, T3 G₂ v (if eqB (fmin3 r g b) (fmax3 r g b) = true then 0 else hueF r g b (fmax3 r g b) (fmin3 r g b)) (if eqB (fmin3 r g b) (fmax3 r g b) = true then 0 else satV (fmax3 r g b) (fmin3 r g b)) x) → Q v { s with heap := h₂, toks := tk }) :
    wpAny (model PG w) A (call (.ref 28) [.float r t1, .float g t2, .float b t3]) Q E s := by
  refine callFn (binds := [(Str.ofString "r", .float r t1), (Str.ofString "g", .float g t2), (Str.ofString "b", .float b t3)]) (Post := fun G₂ v => ∃ x, T3 G₂ v (if eqB (fmin3 r g b) (fmax3 r g b) = true then 0 else hueF r g b (fmax3 r g b) (fmin3 r g b)) (if eqB (fmin3 r g b) (fmax3 r g b) = true then 0 else satV (fmax3 r g b) (fmin3 r g b)) x) R W I (by k_is) (by k_is) (by exact rfl) (by exact BindsTo.of_eq rfl) (by decide) (by exact locs rfl) rfl rfl rfl (fun h₁ L A' S R' => ?_) (fun r G₂ h₂ tk g hp => hQ _ _ _ _ g hp)
  intro env
  by_cases heq : eqB (fmin3 r g b) (fmax3 r g b) = true
  · repeat (walk1 <;> try dsimp only)
    refine snt (by assumption) ?_
    intro al G' h' k il _ S'
    exact ⟨G', h', _, rfl, S'.gr, _, T3.of il (if_pos heq) (if_pos heq) rfl⟩
  · have hok' := hok.resolve_left heq
    unfold okV at hok'
    simp only [Bool.and_eq_true, Bool.not_eq_true'] at hok'
    obtain ⟨hz1, hz2⟩ := hok'
    repeat' (walk1 <;> try dsimp only)
    all_goals (refine snt (by assumption) ?_; intro al G' h' k il _ S'; refine ⟨G', h', _, rfl, S'.gr, _, T3.of il ((if_neg heq).trans ?_) (if_neg heq) rfl⟩)
    · exact hueF_r (by assumption)
    · exact hueF_g (by assumption) (by assumption)
    · exact hueF_b (by assumption) (by assumption)

theorem hls_spec {r g b : UInt64} {t1 t2 t3 : Tok} {Q : Value → Shared → Prop} (R : Room 1 A) (W : Wd w G) (I : In G s.heap) (hok : eqB (fmin3 r g b) (fmax3 r g b) = true ∨ okL (fmax3 r g b) (fmin3 r g b) = true)
    (hQ : ∀ v G₂ h₂ tk, Grow G s.heap G₂ h₂ → (∃ x, T3 G₂ v (if eqB (fmin3 r g b) (fmax3 r g b) = true then 0 else hueF r g b (fmax3 r g b) (fmin3 r g b)) x (if eqB (fmin3 r g b) (fmax3 r g b) = true then 0 else satL (fmax3 r g b) (fmin3 r g b))) → Q v { s with heap := h₂, toks := tk }) :
    wpAny (model PG w) A (call (.ref 21) [.float r t1, .float g t2, .float b t3]) Q E s := by
  refine callFn (binds := [(Str.ofString "r", .float r t1), (Str.ofString "g", .float g t2), (Str.ofString "b", .float b t3)]) (Post := fun G₂ v => ∃ x, T3 G₂ v (if eqB (fmin3 r g b) (fmax3 r g b) = true then 0 else hueF r g b (fmax3 r g b) (fmin3 r g b)) x (if eqB (fmin3 r g b) (fmax3 r g b) = true then 0 else satL (fmax3 r g b) (fmin3 r g b))) R W I (by k_is) (by k_is) (by exact rfl) (by exact BindsTo.of_eq rfl) (by decide) (by exact locs rfl) rfl rfl rfl (fun h₁ L A' S R' => ?_) (fun r G₂ h₂ tk g hp => hQ _ _ _ _ g hp)
  intro env
  by_cases heq : eqB (fmin3 r g b) (fmax3 r g b) = true
  · repeat (walk1 <;> try dsimp only)
    refine snt (by assumption) ?_
    intro al G' h' k il _ S'
    exact ⟨G', h', _, rfl, S'.gr, _, T3.of il (if_pos heq) rfl (if_pos heq)⟩
  · have hok' := hok.resolve_left heq
    unfold okL at hok'
    simp only [Bool.and_eq_true, Bool.or_eq_true, Bool.not_eq_true'] at hok'
    obtain ⟨⟨hl1, hl2⟩, hz2⟩ := hok'
    by_cases hle : leB (lightF (fmax3 r g b) (fmin3 r g b)) 4602678819172646912 = true
    · have hz1 := hl1.resolve_left (by rw [hle]; decide)
      have hle' : leB (Float64.div (Float64.add (fmax3 r g b) (fmin3 r g b)) 4611686018427387904) 4602678819172646912 = true := hle
      repeat' (walk1 <;> try dsimp only)
      all_goals (refine snt (by assumption) ?_; intro al G' h' k il _ S'; refine ⟨G', h', _, rfl, S'.gr, _, T3.of il ((if_neg heq).trans ?_) rfl ((if_neg heq).trans (satL_1 hle))⟩)
      · exact hueF_r (by assumption)
      · exact hueF_g (by assumption) (by assumption)
      · exact hueF_b (by assumption) (by assumption)
    · have hz1 := hl2.resolve_left hle
      have hle' : ¬ leB (Float64.div (Float64.add (fmax3 r g b) (fmin3 r g b)) 4611686018427387904) 4602678819172646912 = true := hle
      repeat' (walk1 <;> try dsimp only)
      all_goals (refine snt (by assumption) ?_; intro al G' h' k il _ S'; refine ⟨G', h', _, rfl, S'.gr, _, T3.of il ((if_neg heq).trans ?_) rfl ((if_neg heq).trans (satL_2 hle))⟩)
      · exact hueF_r (by assumption)
      · exact hueF_g (by assumption) (by assumption)
      · exact hueF_b (by assumption) (by assumption)
end

end
/-! part Fl3 -/
section
theorem fill6 : (fun (_ : Params → Frag) (_ : OpenLaw) => True) hd.heap_39 PySem.Challenge.rw_pe0118_01 := by k_fill; trivial

theorem eq00 : eqB 0 0 = true := by decide +kernel
theorem inf_all : row9 (fun x => !Float64.isInf (Float64.ofInt x)) = true := by decide +kernel
theorem inf8 {x : Int} (hx : in9 x) : Float64.isInf (Float64.ofInt x) = false := by simpa using row9_at inf_all hx
theorem toneF_some {h : UInt64} {t : Int} (e : toneF h = some t) : ∃ sg m ex, Float64.decode (Float64.add (Float64.mul h 4662263553305083904) 4602678819172646912) = .fin sg m ex ∧ Float64.truncOf sg m ex = t := by
  unfold toneF at e
  split at e
  · rename_i sg m ex hd
    exact ⟨sg, m, ex, hd, by simpa using e⟩
  · cases e

local macro_rules | `(tactic| walk_at "binaryOp Div int float") => `(tactic| (k_dflt (refine sdivIF (inf8 (by assumption)) z8 ?_)))
local macro_rules | `(tactic| walk_at "compareOp Eq float float") => `(tactic| (k_dflt (refine seqF ?_)))
local macro_rules | `(tactic| walk_at "ite") => `(tactic| (first | refine ite_pos (by assumption) ?_ | refine ite_neg (by assumption) ?_))
local macro_rules | `(tactic| walk_at "assign Tuple") => `(tactic| (k_dflt (refine sunpT (Room.hh (by assumption)) (by assumption) (by assumption) (by rfl) (by rfl) ?_); intro h' S'))
local macro_rules | `(tactic| walk_at "assign Tuple") => `(tactic| (k_dflt (refine sunpL (Room.hh (by assumption)) (by assumption) (by assumption) (by rfl) (by rfl) ?_); intro h' S'))
section
variable {w : World} {A : Around} {E : Value → Shared → Prop} {s : Shared} {G : Kn}
/-- what _law_entries gives -/
noncomputable def EntsOf (r g b p : Int) (G : Kn) (v : Value) : Prop := ∃ a, v = .ref a ∧ ((toneZ r g b = none ∧ IsL G a []) ∨ ∃ t ev, toneZ r g b = some t ∧ IsL G a [ev] ∧ LI G ev (ent (t, p)))

theorem entries_spec {v : Value} {r g b p : Int} {tp : Tok} {Q : Value → Shared → Prop} (R : Room 2 A) (W : Wd w G) (I : In G s.heap) (hv : LI G v [r, g, b]) (hr : in9 r) (hg : in9 g) (hb : in9 b)
    (hQ : ∀ v G₂ h₂ tk, Grow G s.heap G₂ h₂ → EntsOf r g b p G₂ v → Q v { s with heap := h₂, toks := tk }) :
    wpAny (model PG w) A (call (.ref 62) [v, .int p tp]) Q E s := by
  obtain ⟨a1, vs1, rfl, l1, i1⟩ := hv
  cases i1; rename_i i1; cases i1; rename_i i1; cases i1; rename_i i1; cases i1
  refine callFn (binds := [(Str.ofString "colour", .ref a1), (Str.ofString "place", .int p tp)]) (Post := EntsOf r g b p) R W I (by k_is) (by k_is) (by exact rfl) (by exact BindsTo.of_eq rfl) (by decide) (by exact locs rfl) rfl rfl rfl (fun h₁ L A' S R' => ?_) (fun r G₂ h₂ tk g hp => hQ _ _ _ _ g hp)
  intro env
  have e8 : ∀ i : Int, Float64.div (Float64.ofInt i) 4620693217682128896 = f8 i := fun _ => rfl
  have hM := max8 hr hg hb
  have hm := min8 hr hg hb
  have hgr := grey8 hr hg hb
  have hgr' : toneZ r g b ≠ none → min r (min g b) < max r (max g b) := by unfold toneZ; intro h; split at h; exact absurd rfl h; omega
  have hi9 : in9 (max r (max g b)) ∧ in9 (min r (min g b)) := by unfold in9 at *; omega
  repeat (walk1 <;> try dsimp only)
  · rw [e8, e8, e8]
    refine hls_spec (R'.mono (by decide)) W (St.inn (by assumption)) ?_ ?_
    · rw [hM, hm, hgr]
      by_cases hn : toneZ r g b = none
      · left; simp [hn]
      · right; exact (sat8 hi9.1 hi9.2 (hgr' hn)).2.1
    rw [hM, hm, hgr]
    intro v G₂ h₂ tk gr hx
    obtain ⟨x, al, t1, t2, t3, rfl, il⟩ := hx
    have S2 := St.grow (by assumption) gr
    replace W := W.mono gr.ke
    dsimp only at S2 ⊢
    rcases htz : toneZ r g b with _ | tn
    · simp only [htz, decide_true, if_true] at il
      have he0 : eqB 0 0 = true := eq00
      repeat (walk1 <;> try dsimp only)
      refine snl (by assumption) ?_
      intro a2 G2 h2 k2 il2 _ S3
      exact ⟨G2, h2, _, rfl, S3.gr, a2, rfl, .inl ⟨htz, il2⟩⟩
    · have hlt := hgr' (by rw [htz]; simp)
      have hne : max r (max g b) ≠ min r (min g b) := by omega
      have hsat : ¬ eqB (satL (f8 (max r (max g b))) (f8 (min r (min g b)))) 0 = true := by rw [(sat8 hi9.1 hi9.2 hlt).2.2.2]; decide
      have hd : decide (toneZ r g b = none) = false := by rw [htz]; simp
      simp only [hd, Bool.false_eq_true, if_false] at il
      have hh8 := hue8 hr hg hb hne
      rw [htz] at hh8
      obtain ⟨sg, mm, ex, hdec, htr⟩ := toneF_some hh8
      repeat (walk1 <;> try dsimp only)
      rw [htr]
      refine snl (by assumption) ?_
      intro a2 G2 h2 k2 il2 _ S3
      replace W := W.mono k2
      try dsimp only
      repeat (walk1 <;> try dsimp only)
      refine snl S3 ?_
      intro a3 G3 h3 k3 il3 _ S4
      exact ⟨G3, h3, _, rfl, S4.gr, a3, rfl, .inr ⟨tn, _, htz, il3, a2, _, rfl, il2.mono k3, .cons _ _ (.cons _ _ .nil)⟩⟩
  · repeat (walk1 <;> try dsimp only)
    rw [e8, e8, e8]
    refine hsv_spec (R'.mono (by decide)) W (St.inn (by assumption)) ?_ ?_
    · rw [hM, hm, hgr]
      by_cases hn : toneZ r g b = none
      · left; simp [hn]
      · right; exact (sat8 hi9.1 hi9.2 (hgr' hn)).1
    rw [hM, hm, hgr]
    intro v G₂ h₂ tk gr hx
    obtain ⟨x, al, t1, t2, t3, rfl, il⟩ := hx
    have S2 := St.grow (by assumption) gr
    replace W := W.mono gr.ke
    dsimp only at S2 ⊢
    rcases htz : toneZ r g b with _ | tn
    · simp only [htz, decide_true, if_true] at il
      have he0 : eqB 0 0 = true := eq00
      repeat (walk1 <;> try dsimp only)
      refine snl (by assumption) ?_
      intro a2 G2 h2 k2 il2 _ S3
      exact ⟨G2, h2, _, rfl, S3.gr, a2, rfl, .inl ⟨htz, il2⟩⟩
    · have hlt := hgr' (by rw [htz]; simp)
      have hne : max r (max g b) ≠ min r (min g b) := by omega
      have hsat : ¬ eqB (satV (f8 (max r (max g b))) (f8 (min r (min g b)))) 0 = true := by rw [(sat8 hi9.1 hi9.2 hlt).2.2.1]; decide
      have hd : decide (toneZ r g b = none) = false := by rw [htz]; simp
      simp only [hd, Bool.false_eq_true, if_false] at il
      have hh8 := hue8 hr hg hb hne
      rw [htz] at hh8
      obtain ⟨sg, mm, ex, hdec, htr⟩ := toneF_some hh8
      repeat (walk1 <;> try dsimp only)
      rw [htr]
      refine snl (by assumption) ?_
      intro a2 G2 h2 k2 il2 _ S3
      replace W := W.mono k2
      try dsimp only
      repeat (walk1 <;> try dsimp only)
      refine snl S3 ?_
      intro a3 G3 h3 k3 il3 _ S4
      exact ⟨G3, h3, _, rfl, S4.gr, a3, rfl, .inr ⟨tn, _, htz, il3, a2, _, rfl, il2.mono k3, .cons _ _ (.cons _ _ .nil)⟩⟩
end

end
/-! part Srt0 -/
section
section
variable {w : World} {A : Around} {E : Value → Shared → Prop} {s : Shared} {G : Kn}
/-- a list of lists of ints -/
noncomputable def LL (G : Kn) (v : Value) (xss : List (List Int)) : Prop := ∃ a vs, v = .ref a ∧ IsL G a vs ∧ All2 (LI G) vs xss
theorem LL.mono {G G' : Kn} {v : Value} {xss : List (List Int)} (h : LL G v xss) (k : KE G G') : LL G' v xss := let ⟨a, vs, e, i, r⟩ := h; ⟨a, vs, e, i.mono k, r.mono fun _ _ x => x.mono k⟩

theorem ssortI {l : Addr} {vs : List Value} {ns : List Int} {Q : Value → Shared → Prop} (hl : IsL G l vs) (I : In G s.heap) (hI : IntsAre vs ns) (h64 : vs.length < 64)
    (h : ∀ v G' h' ns', Grow G s.heap G' h' → LI G' v ns' → ns'.Perm ns → ns'.Pairwise (· ≤ ·) → Q v { s with heap := h' }) :
    wpAny (model PG w) A (call (.builtin "sorted") [.ref l]) Q E s := by
  refine sorted_ints (hl.heap I) hI h64 fun out ns' a1 a2 a3 => ?_
  obtain ⟨e, he⟩ := sortedAll_at s.heap vs out
  have ext : Ext s.heap (sortedAll s.heap vs out) := fun _ _ => sortedAll_old
  have nn : s.heap.get? (s.heap.objs.size + 1) = none := by
    cases q : s.heap.get? (s.heap.objs.size + 1) with
    | none => rfl
    | some o => exact absurd (Heap.lt_size q) (Nat.not_lt.mpr (Nat.le_succ _))
  refine h _ (G.set (s.heap.objs.size + 1) (seqObj "list" out e)) _ ns' ⟨KE.set (I.fresh nn), fun b o q => ?_, ext, fun b o q => Kn.set_ne _ _ fun z => by rw [z, nn] at q; cases q⟩ ⟨_, out.toList, rfl, ⟨_, e, Kn.set_self _ _ _, rfl, by simp⟩, a1⟩ a2 a3
  unfold Kn.set at q
  split at q
  · next z => cases q; rw [z]; exact he
  · exact ext _ _ (I b o q)
end

end
/-! part Pl0 -/
section
/-! what the defs reckon, as plain functions -/
noncomputable abbrev Col := Int × Int × Int
noncomputable def colL (c : Col) : List Int := [c.1, c.2.1, c.2.2]
noncomputable def toneC (c : Col) : Option Int := toneZ c.1 c.2.1 c.2.2
noncomputable def colOk (c : Col) : Prop := in9 c.1 ∧ in9 c.2.1 ∧ in9 c.2.2
noncomputable def ptC (c : Col) : Int × Int := (c.1 - c.2.2, c.2.1 - c.2.2)
noncomputable def srt (ns : List Int) : List Int := ns.mergeSort
theorem srt_eq {ns' ns : List Int} (p : ns'.Perm ns) (s : ns'.Pairwise (· ≤ ·)) : ns' = srt ns := by
  refine List.Perm.eq_of_pairwise (le := fun a b : Int => a ≤ b) (fun a b _ _ h1 h2 => Int.le_antisymm h1 h2) s ?_ (p.trans (List.mergeSort_perm ns _).symm)
  have := List.pairwise_mergeSort (le := fun a b : Int => decide (a ≤ b)) (fun a b c h1 h2 => by simp only [decide_eq_true_eq] at *; (first | lia | omega)) (fun a b => by simp only [Bool.or_eq_true, decide_eq_true_eq]; (first | lia | omega)) ns
  exact this.imp fun h => by simpa using h
theorem srt_perm (ns : List Int) : (srt ns).Perm ns := List.mergeSort_perm ns _

noncomputable def insR (e : Int × Int) : List (Int × Int) → List (Int × Int)
  | [] => [e]
  | h :: t => if e.1 < h.1 then e :: h :: t else h :: insR e t
/-- the row of the colours whose places lie below k -/
noncomputable def rowN (cols : List Col) : Nat → List (Int × Int)
  | 0 => []
  | k + 1 => match cols[k]?.bind toneC with
    | none => rowN cols k
    | some t => insR (t, (k : Int)) (rowN cols k)
noncomputable def rowL (cols : List Col) : List (Int × Int) := rowN cols cols.length
noncomputable def turnOn (row : List (Int × Int)) : List (Int × Int) := row.map fun e => (e.1 + 5040, e.2)
noncomputable def twiceL (row : List (Int × Int)) : List (Int × Int) := row ++ turnOn row
noncomputable def aheadL (row : List (Int × Int)) (spot : Nat) : List Int :=
  ((((twiceL row).take (spot + row.length)).drop (spot + 1)).filter fun e => decide (e.1 < (row.getD spot (0, 0)).1 + 2520)).map (·.2)
noncomputable def metFar (own : Int) (ahead : List Int) (far : Nat) : List (List Int) :=
  srt [own, ahead.getD far 0] :: (List.range far).map fun near => srt [own, ahead.getD near 0, ahead.getD far 0]
noncomputable def metAt (row : List (Int × Int)) (spot : Nat) : List (List Int) :=
  (List.range (aheadL row spot).length).flatMap (metFar (row.getD spot (0, 0)).2 (aheadL row spot))
noncomputable def metL (row : List (Int × Int)) : List (List Int) := (List.range row.length).flatMap (metAt row)

noncomputable def toldFirst (pts : List (Int × Int)) (second third : Nat) (first : Nat) : List (List Int) :=
  if threeB (pts.getD first (0, 0)) (pts.getD second (0, 0)) (pts.getD third (0, 0)) = true then [[(first : Int), second, third]] else []
noncomputable def toldSecond (pts : List (Int × Int)) (third second : Nat) : List (List Int) :=
  (if twoB (pts.getD second (0, 0)) (pts.getD third (0, 0)) = true then [[(second : Int), third]] else []) ++ (List.range second).flatMap (toldFirst pts second third)
noncomputable def toldThird (pts : List (Int × Int)) (third : Nat) : List (List Int) := (List.range third).flatMap (toldSecond pts third)
noncomputable def toldL (pts : List (Int × Int)) : List (List Int) := (List.range pts.length).flatMap (toldThird pts)

/-- insort's place is insR's -/
theorem ins_at (e : Int × Int) : ∀ (es : List (Int × Int)) (i : Nat), i ≤ es.length → (∀ j (hj : j < es.length), j < i → es[j].1 ≤ e.1) → (∀ j (hj : j < es.length), i ≤ j → e.1 < es[j].1) → es.take i ++ e :: es.drop i = insR e es
  | [], i, h, _, _ => by simp [insR]
  | x :: es, 0, _, _, h2 => by
    have := h2 0 (by simp) (Nat.le_refl _)
    simp only [List.getElem_cons_zero] at this
    simp [insR, this]
  | x :: es, i + 1, h, h1, h2 => by
    have := h1 0 (by simp) (by (first | lia | omega))
    simp only [List.getElem_cons_zero] at this
    have ih := ins_at e es i (by simpa using h) (fun j hj hji => h1 (j + 1) (Nat.succ_lt_succ hj) (Nat.succ_lt_succ hji)) (fun j hj hji => h2 (j + 1) (Nat.succ_lt_succ hj) (Nat.succ_le_succ hji))
    simp only [List.take_succ_cons, List.drop_succ_cons, List.cons_append, insR, if_neg (Int.not_lt.mpr this), ih]
theorem insR_length (e : Int × Int) : ∀ es : List (Int × Int), (insR e es).length = es.length + 1
  | [] => rfl
  | x :: es => by unfold insR; split <;> simp [insR_length e es]
theorem mem_insR {e x : Int × Int} : ∀ {es : List (Int × Int)}, x ∈ insR e es ↔ x = e ∨ x ∈ es
  | [] => by simp [insR]
  | y :: es => by
    unfold insR
    split
    · simp
    · simp only [List.mem_cons, mem_insR (es := es)]
      constructor <;> rintro (h | h | h) <;> simp [h]
/-- strictly rising by hue, then place -/
noncomputable def rises (a b : Int × Int) : Prop := a.1 < b.1 ∨ (a.1 = b.1 ∧ a.2 < b.2)
theorem insR_rises {e : Int × Int} : ∀ {es : List (Int × Int)}, es.Pairwise rises → (∀ x ∈ es, x.2 < e.2) → (insR e es).Pairwise rises
  | [], _, _ => by simp [insR]
  | y :: es, hp, hlt => by
    rw [List.pairwise_cons] at hp
    unfold insR
    split
    · rename_i hlt'
      refine List.pairwise_cons.mpr ⟨fun x hx => ?_, List.pairwise_cons.mpr hp⟩
      rcases List.mem_cons.mp hx with rfl | hx
      · exact .inl hlt'
      · have := hp.1 x hx; unfold rises at *; (first | lia | omega)
    · rename_i hnlt
      refine List.pairwise_cons.mpr ⟨fun x hx => ?_, insR_rises hp.2 fun x hx => hlt x (.tail _ hx)⟩
      rcases mem_insR.mp hx with rfl | hx
      · have := hlt y (.head _); unfold rises; (first | lia | omega)
      · exact hp.1 x hx
theorem rowN_mem {cols : List Col} : ∀ {k : Nat} {x : Int × Int}, x ∈ rowN cols k ↔ ∃ j t, j < k ∧ cols[j]?.bind toneC = some t ∧ x = (t, (j : Int))
  | 0, x => by simp [rowN]
  | k + 1, x => by
    have ih := rowN_mem (cols := cols) (k := k) (x := x)
    unfold rowN
    split
    · rename_i hn
      rw [ih]
      constructor
      · rintro ⟨j, t, a, b, c⟩; exact ⟨j, t, by (first | lia | omega), b, c⟩
      · rintro ⟨j, t, a, b, c⟩
        rcases Nat.lt_or_ge j k with h | h
        · exact ⟨j, t, h, b, c⟩
        · have : j = k := by (first | lia | omega)
          subst this; rw [hn] at b; cases b
    · rename_i t' hs
      rw [mem_insR, ih]
      constructor
      · rintro (rfl | ⟨j, t, a, b, c⟩)
        · exact ⟨k, t', by (first | lia | omega), hs, rfl⟩
        · exact ⟨j, t, by (first | lia | omega), b, c⟩
      · rintro ⟨j, t, a, b, c⟩
        rcases Nat.lt_or_ge j k with h | h
        · exact .inr ⟨j, t, h, b, c⟩
        · have : j = k := by (first | lia | omega)
          subst this; rw [hs] at b; cases b; exact .inl c
theorem rowN_rises (cols : List Col) : ∀ k, (rowN cols k).Pairwise rises
  | 0 => by simp [rowN]
  | k + 1 => by
    unfold rowN
    split
    · exact rowN_rises cols k
    · refine insR_rises (rowN_rises cols k) fun x hx => ?_
      obtain ⟨j, t, a, _, rfl⟩ := rowN_mem.mp hx
      show (j : Int) < k; (first | lia | omega)
theorem rowN_length (cols : List Col) : ∀ k, (rowN cols k).length ≤ k
  | 0 => by simp [rowN]
  | k + 1 => by
    have := rowN_length cols k
    unfold rowN
    split
    · (first | lia | omega)
    · rw [insR_length]; (first | lia | omega)
theorem toneD_range (a b c d : Int) : 0 ≤ toneD a b c d ∧ toneD a b c d < 5040 := by
  unfold toneD
  exact ⟨Int.emod_nonneg _ (by decide), Int.emod_lt_of_pos _ (by decide)⟩
theorem toneC_range {c : Col} {t : Int} (h : toneC c = some t) : 0 ≤ t ∧ t < 5040 := by
  unfold toneC toneZ at h
  split at h
  · cases h
  · cases h; exact toneD_range _ _ _ _

end
/-! part Tim1 -/
section
/-! sorted(): the runs, by ranks -/
/-- the rank at a place -/
noncomputable def R (rk : Keyed → Nat) (xs : Array Keyed) (i : Nat) : Nat := (xs[i]?.map rk).getD 0
noncomputable def Seg (rk : Keyed → Nat) (xs : Array Keyed) (lo hi : Nat) : Prop := ∀ i j, lo ≤ i → i ≤ j → j < hi → R rk xs i ≤ R rk xs j
noncomputable def Fall (rk : Keyed → Nat) (xs : Array Keyed) (lo hi : Nat) : Prop := ∀ i j, lo ≤ i → i ≤ j → j < hi → R rk xs j ≤ R rk xs i
theorem R_of {rk : Keyed → Nat} {xs ys : Array Keyed} {i j : Nat} (h : xs[i]? = ys[j]?) : R rk xs i = R rk ys j := by unfold R; rw [h]
theorem R_bubble {rk : Keyed → Nat} {xs : Array Keyed} {src d : Nat} (hs : src < xs.size) (hd : d ≤ src) (k : Nat) :
    R rk (bubble xs src d) k = if k = src - d then R rk xs src else if src - d < k ∧ k ≤ src then R rk xs (k - 1) else R rk xs k := by
  have e := getElem?_bubble hs d hd k
  unfold R; rw [e]
  split
  · rfl
  · split <;> rfl
theorem R_mirror {rk : Keyed → Nat} {xs : Array Keyed} {i j : Nat} (hj : j ≤ xs.size) (k : Nat) :
    R rk (mirror xs i j ((j - i) / 2)) k = if i ≤ k ∧ k < j then R rk xs (i + j - 1 - k) else R rk xs k := by
  have e := getElem?_mirror_all (i := i) hj k
  unfold R; rw [e]
  split <;> rfl
theorem R_mirror_eq {rk : Keyed → Nat} {xs : Array Keyed} {i j : Nat} (hj : j ≤ xs.size) (he : ∀ k, i ≤ k → k < j → R rk xs k = R rk xs (j - 1)) (k : Nat) :
    R rk (mirror xs i j ((j - i) / 2)) k = R rk xs k := by
  rw [R_mirror hj]
  split
  · rw [he _ (by (first | lia | omega)) (by (first | lia | omega)), he k (by (first | lia | omega)) (by (first | lia | omega))]
  · rfl
/-- what a sort never changes, and what it leaves below `lo` -/
structure SB (a₀ : Array Keyed) (P : Array (Nat × Nat × Nat)) (lo : Nat) (xs₀ : Array Keyed) (st : SortSt) : Prop where
  perm : (arrOf st).Perm a₀
  kind : kindOf st = oneType'
  failed : failedOf st = none
  pend : pendingOf st = P
  low : ∀ i, i < lo → (arrOf st)[i]? = xs₀[i]?
section
variable {a₀ xs₀ : Array Keyed} {P : Array (Nat × Nat × Nat)} {lo : Nat} {st : SortSt}
theorem SB.size (h : SB a₀ P lo xs₀ st) : (arrOf st).size = a₀.size := h.perm.size_eq
theorem SB.mirr (h : SB a₀ P lo xs₀ st) {i j : Nat} (hi : lo ≤ i) (hj : j ≤ a₀.size) : SB a₀ P lo xs₀ (setArr st (mirror (arrOf st) i j ((j - i) / 2))) :=
  ⟨(mirror_perm _ _ _ _).trans h.perm, h.kind, h.failed, h.pend, fun k hk => (getElem?_mirror_all (by rw [h.size]; exact hj) k).trans (by rw [if_neg (by (first | lia | omega))]; exact h.low k hk)⟩
theorem SB.bubb (h : SB a₀ P lo xs₀ st) {i j : Nat} (hj : j < a₀.size) (hij : i ≤ j) (hi : lo ≤ i) : SB a₀ P lo xs₀ (setArr st (bubble (arrOf st) j (j - i))) :=
  ⟨(bubble_perm _ _ _).trans h.perm, h.kind, h.failed, h.pend, fun k hk => (getElem?_bubble (by rw [h.size]; exact hj) _ (by (first | lia | omega)) k).trans (by rw [if_neg (by (first | lia | omega)), if_neg (by (first | lia | omega))]; exact h.low k hk)⟩
end
/-- `<` of two kept items is their ranks' `<` -/
noncomputable def LtOk (w : World) (A : Around) (s : Shared) (a₀ : Array Keyed) (rk : Keyed → Nat) : Prop :=
  ∀ (E : Value → Shared → Prop) (p q : Keyed) (Q : Bool → Shared → Prop), p ∈ a₀.toList → q ∈ a₀.toList → Q (decide (rk p < rk q)) s → wpAny (model PG w) A (oneLt' true p.1 q.1) Q E s
section
variable {w : World} {A : Around} {E : Value → Shared → Prop} {s : Shared} {a₀ xs₀ : Array Keyed} {rk : Keyed → Nat} {P : Array (Nat × Nat × Nat)} {lo : Nat} {st : SortSt}
theorem tlt {p q : Keyed} {Q : Option Bool → SortSt → Prop} (hO : LtOk w A s a₀ rk) (hk : kindOf st = oneType') (hp : p ∈ a₀.toList) (hq : q ∈ a₀.toList) (h : Q (some (decide (rk p < rk q))) st) :
    wpS (model PG w) A E s (lt' p q) Q st := by
  rw [lt'_eq]
  refine wpS_bind (wpS_get ?_)
  rw [hk, keyLt'_oneType]
  refine wpS_bind (wpS_lift (wpAny_attempt (hO _ p q _ hp hq ⟨rfl, ?_⟩)))
  exact wpS_pure h
theorem SB.at (h : SB a₀ P lo xs₀ st) {i : Nat} (hi : i < a₀.size) : ∃ p, (arrOf st)[i]? = some p ∧ p ∈ a₀.toList ∧ R rk (arrOf st) i = rk p := by
  have hi' : i < (arrOf st).size := by rw [h.size]; exact hi
  have e : (arrOf st)[i]? = some (arrOf st)[i] := getElem?_pos _ i hi'
  refine ⟨(arrOf st)[i], e, (Array.perm_iff_toList_perm.mp h.perm).mem_iff.mp (by simp), ?_⟩
  unfold R; rw [e]; rfl
theorem tltAt {i j : Nat} {Q : Option Bool → SortSt → Prop} (hO : LtOk w A s a₀ rk) (hB : SB a₀ P lo xs₀ st) (hi : i < a₀.size) (hj : j < a₀.size)
    (h : Q (some (decide (R rk (arrOf st) i < R rk (arrOf st) j))) st) : wpS (model PG w) A E s (ltAt' i j) Q st := by
  obtain ⟨p, e1, m1, k1⟩ := hB.at (rk := rk) hi
  obtain ⟨q, e2, m2, k2⟩ := hB.at (rk := rk) hj
  rw [k1, k2] at h
  rw [ltAt'_eq]
  refine wpS_bind (wpS_get ?_)
  show wpS _ _ _ _ (do let x ← elem' (arrOf st) i; let y ← elem' (arrOf st) j; lt' x y) Q st
  rw [elem'_eq, elem'_eq, e1, e2]
  exact wpS_bind (wpS_pure (wpS_bind (wpS_pure (tlt hO hB.kind m1 m2 h))))
theorem trev {i j : Nat} {Q : Unit → SortSt → Prop} (h : Q () (setArr st (mirror (arrOf st) i j ((j - i) / 2)))) : wpS (model PG w) A E s (reverseSlice' i j) Q st := by
  rw [reverseSlice'_eq]; exact wpS_modify h

theorem tbin {n ok : Nat} {Q : Bool → SortSt → Prop} (hO : LtOk w A s a₀ rk) (hn : lo + n ≤ a₀.size) (hok : ok ≤ n) (hB : SB a₀ P lo xs₀ st) (hs : Seg rk (arrOf st) lo (lo + ok))
    (h : ∀ st', SB a₀ P lo xs₀ st' → Seg rk (arrOf st') lo (lo + n) → Q true st') : wpS (model PG w) A E s (binarySort' lo n ok) Q st := by
  rw [binarySort'_eq]
  refine wpS_bind (wpS_mono (wpS_forRange (I := fun k c st' => c = (none, ()) ∧ SB a₀ P lo xs₀ st' ∧ Seg rk (arrOf st') lo (lo + min k n))
    (Q := fun c st' => c = (none, ()) ∧ SB a₀ P lo xs₀ st' ∧ Seg rk (arrOf st') lo (lo + n)) ?step ?fin ?init) ?post)
  case post =>
    rintro c st' ⟨rfl, hB', hs'⟩
    exact wpS_pure (h st' hB' hs')
  case init =>
    refine ⟨rfl, hB, fun i j hi hij hj => ?_⟩
    by_cases h1 : ok = 0
    · have : i = j := by (first | lia | omega)
      subst this; exact Nat.le_refl _
    · exact hs i j hi hij (by (first | lia | omega))
  case fin =>
    rintro c st' ⟨hc, hB', hs'⟩
    refine ⟨hc, hB', ?_⟩
    rwa [show min (max (max ok 1) n) n = n by (first | lia | omega)] at hs'
  case step =>
    rintro k c st' hak hkn ⟨rfl, hB', hs'⟩
    rw [show min k n = k by (first | lia | omega)] at hs'
    have hk : lo + k < a₀.size := by (first | lia | omega)
    refine wpS_bind (wpS_mono (wpS_forRange (I := fun x c st'' => st'' = st' ∧ ∃ l r, c = (none, l, r) ∧ l ≤ r ∧ r ≤ k ∧ r - l ≤ k - x ∧
        (∀ i, i < l → R rk (arrOf st') (lo + i) ≤ R rk (arrOf st') (lo + k)) ∧ (∀ i, r ≤ i → i < k → R rk (arrOf st') (lo + k) ≤ R rk (arrOf st') (lo + i)))
      (Q := fun c st'' => st'' = st' ∧ ∃ l r, c = (none, l, r) ∧ l ≤ k ∧
        (∀ i, i < l → R rk (arrOf st') (lo + i) ≤ R rk (arrOf st') (lo + k)) ∧ (∀ i, l ≤ i → i < k → R rk (arrOf st') (lo + k) ≤ R rk (arrOf st') (lo + i))) ?istep ?ifin ?iinit) ?ipost)
    case iinit => exact ⟨rfl, 0, k, rfl, by (first | lia | omega), by (first | lia | omega), by (first | lia | omega), fun i hi => by (first | lia | omega), fun i h1 h2 => by (first | lia | omega)⟩
    case ifin =>
      rintro c st'' ⟨rfl, l, r, rfl, hlr, hrk, hm, hlo, hhi⟩
      have : l = r := by (first | lia | omega)
      subst this
      exact ⟨rfl, l, l, rfl, hrk, hlo, hhi⟩
    case istep =>
      rintro x c st'' _ hxk ⟨rfl, l, r, rfl, hlr, hrk, hm, hlo, hhi⟩
      dsimp only
      by_cases hge : l ≥ r
      · rw [if_pos hge]
        have : l = r := by (first | lia | omega)
        subst this
        exact wpS_pure ⟨rfl, l, l, rfl, hrk, hlo, hhi⟩
      · rw [if_neg hge]
        refine wpS_bind (tltAt hO hB' hk (by (first | lia | omega)) ?_)
        by_cases hless : R rk (arrOf st'') (lo + k) < R rk (arrOf st'') (lo + (l + r) / 2)
        · simp only [hless, decide_true, if_true]
          refine wpS_pure ⟨rfl, l, (l + r) / 2, rfl, by (first | lia | omega), by (first | lia | omega), by (first | lia | omega), hlo, fun i h1 h2 => ?_⟩
          have := hs' (lo + (l + r) / 2) (lo + i) (by (first | lia | omega)) (by (first | lia | omega)) (by (first | lia | omega))
          (first | lia | omega)
        · simp only [hless, decide_false, Bool.false_eq_true, if_false]
          refine wpS_pure ⟨rfl, (l + r) / 2 + 1, r, rfl, by (first | lia | omega), by (first | lia | omega), by (first | lia | omega), fun i h1 => ?_, hhi⟩
          have := hs' (lo + i) (lo + (l + r) / 2) (by (first | lia | omega)) (by (first | lia | omega)) (by (first | lia | omega))
          (first | lia | omega)
    case ipost =>
      rintro c st'' ⟨rfl, l, r, rfl, hlk, hlo, hhi⟩
      show wpS _ _ _ _ (do moveDown' (lo + k) (lo + l); pure (ForInStep.yield (none, ()))) _ _
      rw [moveDown'_eq]
      refine wpS_bind (wpS_modify (wpS_pure ⟨rfl, hB'.bubb hk (by (first | lia | omega)) (by (first | lia | omega)), ?_⟩))
      rw [show min (k + 1) n = k + 1 by (first | lia | omega)]
      have hks : lo + k < (arrOf st'').size := by rw [hB'.size]; exact hk
      intro i j hi hij hj
      show R rk (bubble (arrOf st'') (lo + k) (lo + k - (lo + l))) i ≤ R rk (bubble (arrOf st'') (lo + k) (lo + k - (lo + l))) j
      rw [R_bubble hks (by (first | lia | omega)), R_bubble hks (by (first | lia | omega)), show lo + k - (lo + k - (lo + l)) = lo + l by (first | lia | omega)]
      have lo' : ∀ x, lo ≤ x → x < lo + l → R rk (arrOf st'') x ≤ R rk (arrOf st'') (lo + k) := fun x h1 h2 => by
        have := hlo (x - lo) (by (first | lia | omega)); rwa [show lo + (x - lo) = x by (first | lia | omega)] at this
      have hi' : ∀ x, lo + l ≤ x → x < lo + k → R rk (arrOf st'') (lo + k) ≤ R rk (arrOf st'') x := fun x h1 h2 => by
        have := hhi (x - lo) (by (first | lia | omega)) (by (first | lia | omega)); rwa [show lo + (x - lo) = x by (first | lia | omega)] at this
      repeat' split
      all_goals first
        | (exfalso; (first | lia | omega))
        | exact Nat.le_refl _
        | exact lo' _ (by (first | lia | omega)) (by (first | lia | omega))
        | exact hi' _ (by (first | lia | omega)) (by (first | lia | omega))
        | exact hs' _ _ (by (first | lia | omega)) (by (first | lia | omega)) (by (first | lia | omega))
end

end
/-! part Tim2 -/
section
section
variable {w : World} {A : Around} {E : Value → Shared → Prop} {s : Shared} {a₀ xs₀ : Array Keyed} {rk : Keyed → Nat} {P : Array (Nat × Nat × Nat)} {lo : Nat} {st : SortSt}
theorem Seg.one {xs : Array Keyed} {lo : Nat} : Seg rk xs lo (lo + 1) := fun i j h1 h2 h3 => by
  have : i = j := by (first | lia | omega)
  rw [this]; exact Nat.le_refl _
theorem Seg.more {xs : Array Keyed} {lo x : Nat} (h : Seg rk xs lo (lo + x)) (h1 : 1 ≤ x) (hl : ¬ R rk xs (lo + x) < R rk xs (lo + x - 1)) : Seg rk xs lo (lo + (x + 1)) := fun i j hi hij hj => by
  by_cases hjx : j < lo + x
  · exact h i j hi hij hjx
  · have hj' : j = lo + x := by (first | lia | omega)
    subst hj'
    by_cases hi' : i = lo + x
    · rw [hi']; exact Nat.le_refl _
    · have := h i (lo + x - 1) hi (by (first | lia | omega)) (by (first | lia | omega))
      (first | lia | omega)
theorem Fall.more {xs : Array Keyed} {lo x : Nat} (h : Fall rk xs lo (lo + x)) (h1 : 1 ≤ x) (hl : R rk xs (lo + x) ≤ R rk xs (lo + x - 1)) : Fall rk xs lo (lo + (x + 1)) := fun i j hi hij hj => by
  by_cases hjx : j < lo + x
  · exact h i j hi hij hjx
  · have hj' : j = lo + x := by (first | lia | omega)
    subst hj'
    by_cases hi' : i = lo + x
    · rw [hi']; exact Nat.le_refl _
    · have := h i (lo + x - 1) hi (by (first | lia | omega)) (by (first | lia | omega))
      (first | lia | omega)
noncomputable def ascL (lo a nrem : Nat) : StateT SortSt Sem (Option (Option Nat) × Nat) :=
  forIn [a:nrem] ((none, a) : Option (Option Nat) × Nat) fun _ c => do
    match ← ltAt' (lo + c.2) (lo + c.2 - 1) with
    | some b => if b = true then pure (ForInStep.done (none, c.2)) else pure (ForInStep.yield (none, c.2 + 1))
    | _ => pure (ForInStep.done (some none, c.2))
theorem tasc {a nrem : Nat} {Q : Option (Option Nat) × Nat → SortSt → Prop} (hO : LtOk w A s a₀ rk) (hn : lo + nrem ≤ a₀.size) (ha : 1 ≤ a) (han : a ≤ nrem) (hB : SB a₀ P lo xs₀ st)
    (hs : Seg rk (arrOf st) lo (lo + a))
    (h : ∀ n, a ≤ n → n ≤ nrem → Seg rk (arrOf st) lo (lo + n) → (n = nrem ∨ R rk (arrOf st) (lo + n) < R rk (arrOf st) (lo + n - 1)) → Q (none, n) st) :
    wpS (model PG w) A E s (ascL lo a nrem) Q st := by
  unfold ascL
  refine wpS_forRange (I := fun x c st' => st' = st ∧ c = (none, x) ∧ Seg rk (arrOf st) lo (lo + x)) ?step ?fin ⟨rfl, rfl, hs⟩
  case fin =>
    rintro c st' ⟨rfl, rfl, hs'⟩
    rw [show max a nrem = nrem by (first | lia | omega)] at hs' ⊢
    exact h nrem han (Nat.le_refl _) hs' (.inl rfl)
  case step =>
    rintro x c st' hax hxn ⟨rfl, rfl, hs'⟩
    dsimp only
    refine wpS_bind (tltAt hO hB (by (first | lia | omega)) (by (first | lia | omega)) ?_)
    by_cases hless : R rk (arrOf st') (lo + x) < R rk (arrOf st') (lo + x - 1)
    · simp only [hless, decide_true, if_true]
      exact wpS_pure (h x hax (by (first | lia | omega)) hs' (.inr hless))
    · simp only [hless, decide_false, Bool.false_eq_true, if_false]
      exact wpS_pure ⟨rfl, rfl, hs'.more (by (first | lia | omega)) hless⟩

noncomputable def tailL (lo n nrem : Nat) : StateT SortSt Sem (Option Nat) := do
  reverseSlice' lo (lo + n)
  let c ← ascL lo n nrem
  match c.1 with
  | some r => pure r
  | none => pure (some c.2)
theorem ttail {n nrem : Nat} {Q : Option Nat → SortSt → Prop} (hO : LtOk w A s a₀ rk) (hn : lo + nrem ≤ a₀.size) (h1 : 1 ≤ n) (hnn : n ≤ nrem) (hB : SB a₀ P lo xs₀ st)
    (hs : Fall rk (arrOf st) lo (lo + n)) (h : ∀ m st', SB a₀ P lo xs₀ st' → 1 ≤ m → m ≤ nrem → Seg rk (arrOf st') lo (lo + m) → Q (some m) st') :
    wpS (model PG w) A E s (tailL lo n nrem) Q st := by
  unfold tailL
  have hsz : lo + n ≤ (arrOf st).size := by rw [hB.size]; (first | lia | omega)
  refine wpS_bind (trev ?_)
  have hB' := hB.mirr (i := lo) (j := lo + n) (Nat.le_refl _) (by (first | lia | omega))
  refine wpS_bind (tasc hO hn h1 hnn hB' ?_ fun m hm1 hm2 hsm _ => wpS_pure (h m _ hB' (by (first | lia | omega)) hm2 hsm))
  intro i j hi hij hj
  show R rk (mirror (arrOf st) lo (lo + n) ((lo + n - lo) / 2)) i ≤ R rk (mirror (arrOf st) lo (lo + n) ((lo + n - lo) / 2)) j
  rw [R_mirror hsz, R_mirror hsz, if_pos (by (first | lia | omega)), if_pos (by (first | lia | omega))]
  exact hs _ _ (by (first | lia | omega)) (by (first | lia | omega)) (by (first | lia | omega))

noncomputable def descL (lo n nrem : Nat) : StateT SortSt Sem (Option (Option Nat) × Nat × Nat) :=
  forIn [n:nrem] ((none, n, 0) : Option (Option Nat) × Nat × Nat) fun _ c => do
    match ← ltAt' (lo + c.2.1) (lo + c.2.1 - 1) with
    | some b =>
      if b = true then
        if c.2.2 > 0 then do
          reverseSlice' (lo + c.2.1 - (c.2.2 + 1)) (lo + c.2.1)
          pure (ForInStep.yield (none, c.2.1 + 1, 0))
        else pure (ForInStep.yield (none, c.2.1 + 1, 0))
      else do
        match ← ltAt' (lo + c.2.1 - 1) (lo + c.2.1) with
        | some g =>
          if g = true then pure (ForInStep.done (none, c.2.1, c.2.2))
          else pure (ForInStep.yield (none, c.2.1 + 1, c.2.2 + 1))
        | _ => pure (ForInStep.done (some none, c.2.1, c.2.2))
    | _ => pure (ForInStep.done (some none, c.2.1, c.2.2))
theorem tdesc {n nrem : Nat} {Q : Option (Option Nat) × Nat × Nat → SortSt → Prop} (hO : LtOk w A s a₀ rk) (hn : lo + nrem ≤ a₀.size) (h1 : 1 ≤ n) (hnn : n ≤ nrem) (hB : SB a₀ P lo xs₀ st)
    (hs : Fall rk (arrOf st) lo (lo + n))
    (h : ∀ m neq st', SB a₀ P lo xs₀ st' → n ≤ m → m ≤ nrem → Fall rk (arrOf st') lo (lo + m) → neq + 1 ≤ m → (∀ i, lo + m - (neq + 1) ≤ i → i < lo + m → R rk (arrOf st') i = R rk (arrOf st') (lo + m - 1)) → Q (none, m, neq) st') :
    wpS (model PG w) A E s (descL lo n nrem) Q st := by
  unfold descL
  refine wpS_forRange (I := fun x c st' => ∃ neq, c = (none, x, neq) ∧ SB a₀ P lo xs₀ st' ∧ Fall rk (arrOf st') lo (lo + x) ∧ neq + 1 ≤ x ∧
      (∀ i, lo + x - (neq + 1) ≤ i → i < lo + x → R rk (arrOf st') i = R rk (arrOf st') (lo + x - 1))) ?step ?fin ⟨0, rfl, hB, hs, by (first | lia | omega), fun i h1 h2 => by congr 1; (first | lia | omega)⟩
  case fin =>
    rintro c st' ⟨neq, rfl, hB', hs', hq, he⟩
    rw [show max n nrem = nrem by (first | lia | omega)] at hs' hq he ⊢
    exact h nrem neq st' hB' hnn (Nat.le_refl _) hs' hq he
  case step =>
    rintro x c st' hax hxn ⟨neq, rfl, hB', hs', hq, he⟩
    dsimp only
    have hsz : lo + x ≤ (arrOf st').size := by rw [hB'.size]; (first | lia | omega)
    refine wpS_bind (tltAt hO hB' (by (first | lia | omega)) (by (first | lia | omega)) ?_)
    by_cases hless : R rk (arrOf st') (lo + x) < R rk (arrOf st') (lo + x - 1)
    · simp only [hless, decide_true, if_true]
      by_cases hneq : neq > 0
      · rw [if_pos hneq]
        refine wpS_bind (trev (wpS_pure ⟨0, rfl, hB'.mirr (by (first | lia | omega)) (by (first | lia | omega)), Fall.more (fun i j a b c => ?_) (by (first | lia | omega)) ?_, by (first | lia | omega), fun i h1 h2 => by congr 1; (first | lia | omega)⟩))
        · show R rk (mirror (arrOf st') _ _ _) j ≤ R rk (mirror (arrOf st') _ _ _) i
          rw [R_mirror_eq hsz he, R_mirror_eq hsz he]; exact hs' i j a b c
        · show R rk (mirror (arrOf st') _ _ _) _ ≤ R rk (mirror (arrOf st') _ _ _) _
          rw [R_mirror_eq hsz he, R_mirror_eq hsz he]; (first | lia | omega)
      · rw [if_neg hneq]
        exact wpS_pure ⟨0, rfl, hB', hs'.more (by (first | lia | omega)) (by (first | lia | omega)), by (first | lia | omega), fun i h1 h2 => by congr 1; (first | lia | omega)⟩
    · simp only [hless, decide_false, Bool.false_eq_true, if_false]
      refine wpS_bind (tltAt hO hB' (by (first | lia | omega)) (by (first | lia | omega)) ?_)
      by_cases hlarger : R rk (arrOf st') (lo + x - 1) < R rk (arrOf st') (lo + x)
      · simp only [hlarger, decide_true, if_true]
        exact wpS_pure (h x neq st' hB' hax (by (first | lia | omega)) hs' hq he)
      · simp only [hlarger, decide_false, Bool.false_eq_true, if_false]
        refine wpS_pure ⟨neq + 1, rfl, hB', hs'.more (by (first | lia | omega)) (by (first | lia | omega)), by (first | lia | omega), fun i h1 h2 => ?_⟩
        rw [show lo + (x + 1) - 1 = lo + x by (first | lia | omega)]
        by_cases hix : i = lo + x
        · rw [hix]
        · have := he i (by (first | lia | omega)) (by (first | lia | omega))
          (first | lia | omega)

noncomputable def descP (lo n nrem : Nat) : StateT SortSt Sem (Option Nat) := do
  liftM (rule "list.sort.descending-run")
  let c ← descL lo (n + 1) nrem
  match c.1 with
  | some r => pure r
  | none =>
    if c.2.2 > 0 then do
      reverseSlice' (lo + c.2.1 - (c.2.2 + 1)) (lo + c.2.1)
      tailL lo c.2.1 nrem
    else tailL lo c.2.1 nrem
theorem tdescP {n nrem : Nat} {Q : Option Nat → SortSt → Prop} (hO : LtOk w A s a₀ rk) (hn : lo + nrem ≤ a₀.size) (hnn : n + 1 ≤ nrem) (hB : SB a₀ P lo xs₀ st)
    (hs : Fall rk (arrOf st) lo (lo + (n + 1))) (h : ∀ m st', SB a₀ P lo xs₀ st' → 1 ≤ m → m ≤ nrem → Seg rk (arrOf st') lo (lo + m) → Q (some m) st') :
    wpS (model PG w) A E s (descP lo n nrem) Q st := by
  unfold descP
  refine wpS_bind (wpS_lift (wpAny_rule ⟨rfl, ?_⟩))
  refine wpS_bind (tdesc hO hn (by (first | lia | omega)) hnn hB hs fun m neq st' hB' hm1 hm2 hs' hq he => ?_)
  dsimp only
  have hsz : lo + m ≤ (arrOf st').size := by rw [hB'.size]; (first | lia | omega)
  by_cases hneq : neq > 0
  · rw [if_pos hneq]
    refine wpS_bind (trev (ttail hO hn (by (first | lia | omega)) hm2 (hB'.mirr (by (first | lia | omega)) (by (first | lia | omega))) ?_ h))
    intro i j hi hij hj
    show R rk (mirror (arrOf st') _ _ _) j ≤ R rk (mirror (arrOf st') _ _ _) i
    rw [R_mirror_eq hsz he, R_mirror_eq hsz he]
    exact hs' i j hi hij hj
  · rw [if_neg hneq]
    exact ttail hO hn (by (first | lia | omega)) hm2 hB' hs' h

set_option smartUnfolding false in
theorem count_eq (lo nrem : Nat) : countRun' lo nrem = (do
  let c ← ascL lo 1 nrem
  match c.1 with
  | some r => pure r
  | none =>
    if (c.2 == nrem) = true then pure (some c.2)
    else if c.2 > 1 then do
      match ← ltAt' lo (lo + c.2 - 1) with
      | some b => if b = true then pure (some c.2) else do
          reverseSlice' lo (lo + c.2)
          descP lo c.2 nrem
      | _ => pure none
    else descP lo c.2 nrem) := by with_unfolding_all rfl
theorem tcount {nrem : Nat} {Q : Option Nat → SortSt → Prop} (hO : LtOk w A s a₀ rk) (hn : lo + nrem ≤ a₀.size) (h1 : 1 ≤ nrem) (hB : SB a₀ P lo xs₀ st)
    (h : ∀ m st', SB a₀ P lo xs₀ st' → 1 ≤ m → m ≤ nrem → Seg rk (arrOf st') lo (lo + m) → Q (some m) st') :
    wpS (model PG w) A E s (countRun' lo nrem) Q st := by
  rw [count_eq]
  refine wpS_bind (tasc hO hn (Nat.le_refl 1) h1 hB Seg.one fun n hn1 hn2 hsn hor => ?_)
  dsimp only
  by_cases hnn : n = nrem
  · rw [if_pos (by simpa using hnn)]
    exact wpS_pure (h n st hB hn1 hn2 hsn)
  · rw [if_neg (by simpa using hnn)]
    have hlt := hor.resolve_left hnn
    by_cases hgt : n > 1
    · rw [if_pos hgt]
      refine wpS_bind (tltAt hO hB (by (first | lia | omega)) (by (first | lia | omega)) ?_)
      by_cases hrose : R rk (arrOf st) lo < R rk (arrOf st) (lo + n - 1)
      · simp only [hrose, decide_true, if_true]
        exact wpS_pure (h n st hB hn1 hn2 hsn)
      · simp only [hrose, decide_false, Bool.false_eq_true, if_false]
        have hsz : lo + n ≤ (arrOf st).size := by rw [hB.size]; (first | lia | omega)
        have hall : ∀ k, lo ≤ k → k < lo + n → R rk (arrOf st) k = R rk (arrOf st) (lo + n - 1) := by
          intro k h0 hk
          have a1 := hsn lo k (by (first | lia | omega)) h0 hk
          have a2 := hsn k (lo + n - 1) (by (first | lia | omega)) (by (first | lia | omega)) (by (first | lia | omega))
          (first | lia | omega)
        refine wpS_bind (trev (tdescP hO hn (by (first | lia | omega)) (hB.mirr (by (first | lia | omega)) (by (first | lia | omega))) (Fall.more ?_ hn1 ?_) h))
        · intro i j hi hij hj
          show R rk (mirror (arrOf st) _ _ _) j ≤ R rk (mirror (arrOf st) _ _ _) i
          rw [R_mirror_eq hsz hall, R_mirror_eq hsz hall, hall i hi (by (first | lia | omega)), hall j (by (first | lia | omega)) hj]
          exact Nat.le_refl _
        · show R rk (mirror (arrOf st) _ _ _) _ ≤ R rk (mirror (arrOf st) _ _ _) _
          rw [R_mirror_eq hsz hall, R_mirror_eq hsz hall]; (first | lia | omega)
    · rw [if_neg hgt]
      have hn1' : n = 1 := by (first | lia | omega)
      subst hn1'
      refine tdescP hO hn (by (first | lia | omega)) hB (Fall.more (fun i j hi hij hj => ?_) (Nat.le_refl 1) (by (first | lia | omega))) h
      have : i = j := by (first | lia | omega)
      rw [this]; exact Nat.le_refl _
end

end
/-! part Tim3 -/
section
noncomputable def gallop' : Bool → Keyed → Array Keyed → Nat → Nat → Nat → StateT SortSt Sem (Option Nat) := sortPriv% PySem.Builtin.gallop
noncomputable def bd (left : Bool) (key : Keyed) (arr : Array Keyed) (base i : Nat) : StateT SortSt Sem (Option Bool) := do
  let x ← elem' arr (base + i)
  if left = true then lt' x key else do
    let r ← lt' key x
    pure (r.map (!·))
noncomputable def galFin (f : Nat → StateT SortSt Sem (Option Bool)) (n lo hi : Nat) : StateT SortSt Sem (Option Nat) := do
  let c ← forIn [0:n] ((none, lo, hi) : Option (Option Nat) × Nat × Nat) fun _ c => do
    if c.2.1 ≥ c.2.2 then pure (ForInStep.done (none, c.2.1, c.2.2))
    else do
      match ← f (c.2.1 + (c.2.2 - c.2.1) / 2) with
      | some b => if b = true then pure (ForInStep.yield (none, c.2.1 + (c.2.2 - c.2.1) / 2 + 1, c.2.2)) else pure (ForInStep.yield (none, c.2.1, c.2.1 + (c.2.2 - c.2.1) / 2))
      | _ => pure (ForInStep.done (some none, c.2.1, c.2.2))
  match c.1 with
  | some r => pure r
  | none => pure (some c.2.2)
noncomputable def galOut (f : Nat → StateT SortSt Sem (Option Bool)) (g : Nat → Nat) (neg : Bool) (n most : Nat) : StateT SortSt Sem (Option (Option Nat) × Nat × Nat) :=
  forIn [0:n] ((none, 0, 1) : Option (Option Nat) × Nat × Nat) fun _ c => do
    if c.2.2 ≥ most then pure (ForInStep.done (none, c.2.1, c.2.2))
    else do
      match ← f (g c.2.2) with
      | some b => if (if neg then !b else b) = true then pure (ForInStep.done (none, c.2.1, c.2.2)) else pure (ForInStep.yield (none, c.2.2, 2 * c.2.2 + 1))
      | _ => pure (ForInStep.done (some none, c.2.1, c.2.2))
set_option smartUnfolding false in
theorem gal_eq (left : Bool) (key : Keyed) (arr : Array Keyed) (base n hint : Nat) : gallop' left key arr base n hint = (do
    match ← bd left key arr base hint with
    | some b =>
      if b = true then do
        let c ← galOut (bd left key arr base) (fun o => hint + o) true n (n - hint)
        match c.1 with
        | some r => pure r
        | none => galFin (bd left key arr base) n (hint + c.2.1 + 1) (hint + min c.2.2 (n - hint))
      else do
        let c ← galOut (bd left key arr base) (fun o => hint - o) false n (hint + 1)
        match c.1 with
        | some r => pure r
        | none => galFin (bd left key arr base) n (hint + 1 - min c.2.2 (hint + 1)) (hint - c.2.1)
    | _ => pure none) := by with_unfolding_all rfl
section
variable {M : Model} {w : World} {A : Around} {E : Value → Shared → Prop} {s : Shared} {st : SortSt}
theorem tfin {f : Nat → StateT SortSt Sem (Option Bool)} {b : Nat → Bool} {n lo hi : Nat} {Q : Option Nat → SortSt → Prop} (hf : ∀ i Q, i < n → Q (some (b i)) st → wpS M A E s (f i) Q st)
    (hb : ∀ i j, i ≤ j → j < n → b j = true → b i = true) (h1 : lo ≤ hi) (h2 : hi ≤ n) (hl : ∀ i, i < lo → b i = true) (hh : ∀ i, hi ≤ i → i < n → b i = false)
    (h : ∀ k, k ≤ n → (∀ i, i < k → b i = true) → (∀ i, k ≤ i → i < n → b i = false) → Q (some k) st) : wpS M A E s (galFin f n lo hi) Q st := by
  unfold galFin
  refine wpS_bind (wpS_mono (wpS_forRange (I := fun x c st' => st' = st ∧ ∃ l r, c = (none, l, r) ∧ l ≤ r ∧ r ≤ n ∧ r - l ≤ n - x ∧ (∀ i, i < l → b i = true) ∧ (∀ i, r ≤ i → i < n → b i = false))
    (Q := fun c st' => st' = st ∧ ∃ r, c = (none, r, r) ∧ r ≤ n ∧ (∀ i, i < r → b i = true) ∧ (∀ i, r ≤ i → i < n → b i = false)) ?step ?fin ⟨rfl, lo, hi, rfl, h1, h2, by omega, hl, hh⟩) ?post)
  case post =>
    rintro c st' ⟨rfl, r, rfl, hr, a1, a2⟩
    exact wpS_pure (h r hr a1 a2)
  case fin =>
    rintro c st' ⟨rfl, l, r, rfl, hlr, hr, hm, a1, a2⟩
    have : l = r := by omega
    subst this
    exact ⟨rfl, l, rfl, hr, a1, a2⟩
  case step =>
    rintro x c st' _ hx ⟨rfl, l, r, rfl, hlr, hr, hm, a1, a2⟩
    dsimp only
    by_cases hge : l ≥ r
    · rw [if_pos hge]
      have : l = r := by omega
      subst this
      exact wpS_pure ⟨rfl, l, rfl, hr, a1, a2⟩
    · rw [if_neg hge]
      refine wpS_bind (hf _ _ (by omega) ?_)
      dsimp only
      cases hv : b (l + (r - l) / 2) with
      | true =>
        simp only [if_true]
        refine wpS_pure ⟨rfl, _, _, rfl, by omega, by omega, by omega, fun i hi => ?_, a2⟩
        exact hb i _ (by omega) (by omega) hv
      | false =>
        simp only [Bool.false_eq_true, if_false]
        refine wpS_pure ⟨rfl, _, _, rfl, by omega, by omega, by omega, a1, fun i hi hin => ?_⟩
        cases hbi : b i with
        | false => rfl
        | true => rw [hb _ i (by omega) hin hbi] at hv; cases hv
theorem tout {f : Nat → StateT SortSt Sem (Option Bool)} {b : Nat → Bool} {g : Nat → Nat} {neg : Bool} {n most : Nat} {Q : Option (Option Nat) × Nat × Nat → SortSt → Prop}
    (hf : ∀ o Q, o < most → Q (some (b o)) st → wpS M A E s (f (g o)) Q st) (hm : most ≤ n) (hm0 : 0 < most) (h0 : b 0 = neg)
    (h : ∀ l o, l < o → l < most → b l = neg → (o ≥ most ∨ b o = !neg) → Q (none, l, o) st) : wpS M A E s (galOut f g neg n most) Q st := by
  unfold galOut
  refine wpS_forRange (I := fun x c st' => st' = st ∧ ∃ l o, c = (none, l, o) ∧ l < o ∧ l < most ∧ x + 1 ≤ o ∧ b l = neg) ?step ?fin ⟨rfl, 0, 1, rfl, by omega, hm0, by omega, h0⟩
  case fin =>
    rintro c st' ⟨rfl, l, o, rfl, a1, a2, a3, a4⟩
    exact h l o a1 a2 a4 (.inl (by omega))
  case step =>
    rintro x c st' _ hx ⟨rfl, l, o, rfl, a1, a2, a3, a4⟩
    dsimp only
    by_cases hge : o ≥ most
    · rw [if_pos hge]
      exact wpS_pure (h l o a1 a2 a4 (.inl hge))
    · rw [if_neg hge]
      refine wpS_bind (hf o _ (by omega) ?_)
      dsimp only
      by_cases hv : b o = neg
      · rw [if_neg (by rw [hv]; cases neg <;> decide)]
        exact wpS_pure ⟨rfl, _, _, rfl, by omega, by omega, by omega, hv⟩
      · have hv' : b o = !neg := by revert hv; cases b o <;> cases neg <;> decide
        rw [if_pos (by rw [hv']; cases neg <;> decide)]
        exact wpS_pure (h l o a1 a2 a4 (.inr hv'))
theorem tgal0 {left : Bool} {key : Keyed} {arr : Array Keyed} {base n hint : Nat} {b : Nat → Bool} {Q : Option Nat → SortSt → Prop} (hh : hint < n)
    (hf : ∀ i Q, i < n → Q (some (b i)) st → wpS M A E s (bd left key arr base i) Q st)
    (hb : ∀ i j, i ≤ j → j < n → b j = true → b i = true)
    (h : ∀ k, k ≤ n → (∀ i, i < k → b i = true) → (∀ i, k ≤ i → i < n → b i = false) → Q (some k) st) : wpS M A E s (gallop' left key arr base n hint) Q st := by
  have hb' : ∀ i j, i ≤ j → j < n → b i = false → b j = false := fun i j h1 h2 h3 => by
    cases q : b j with
    | false => rfl
    | true => rw [hb i j h1 h2 q] at h3; cases h3
  rw [gal_eq]
  refine wpS_bind (hf hint _ hh ?_)
  dsimp only
  cases hv : b hint with
  | true =>
    simp only [if_true]
    refine wpS_bind (tout (b := fun o => b (hint + o)) (fun o Q ho hq => hf _ Q (by omega) hq) (by omega) (by omega) hv fun l o h1 h2 h3 h4 => ?_)
    dsimp only
    refine tfin hf hb (by omega) (by omega) (fun i hi => hb i (hint + l) (by omega) (by omega) h3) (fun i hi hin => ?_) h
    rcases h4 with h4 | h4
    · omega
    · exact hb' (hint + o) i (by omega) hin h4
  | false =>
    simp only [Bool.false_eq_true, if_false]
    refine wpS_bind (tout (b := fun o => b (hint - o)) (fun o Q ho hq => hf _ Q (by omega) hq) (by omega) (by omega) hv fun l o h1 h2 h3 h4 => ?_)
    dsimp only
    refine tfin hf hb (by omega) (by omega) (fun i hi => ?_) (fun i hi hin => hb' (hint - l) i (by omega) hin h3) h
    rcases h4 with h4 | h4
    · omega
    · exact hb i (hint - o) (by omega) (by omega) h4
end
section
variable {w : World} {A : Around} {E : Value → Shared → Prop} {s : Shared} {a₀ : Array Keyed} {rk : Keyed → Nat} {st : SortSt}
theorem telem {arr : Array Keyed} {i : Nat} {p : Keyed} {Q : Keyed → SortSt → Prop} (e : arr[i]? = some p) (h : Q p st) : wpS (model PG w) A E s (elem' arr i) Q st := by
  rw [elem'_eq, e]; exact wpS_pure h
theorem R_some {arr : Array Keyed} {i : Nat} {p : Keyed} (e : arr[i]? = some p) : R rk arr i = rk p := by unfold R; rw [e]; rfl
theorem mem_of {arr : Array Keyed} (hm : ∀ p, p ∈ arr.toList → p ∈ a₀.toList) {i : Nat} (hi : i < arr.size) : ∃ p, arr[i]? = some p ∧ p ∈ a₀.toList ∧ R rk arr i = rk p := by
  have e : arr[i]? = some arr[i] := getElem?_pos _ i hi
  exact ⟨arr[i], e, hm _ (by simp), R_some e⟩
/-- the place past the lesser (left) or past the not greater (right) -/
theorem tgal {left : Bool} {key : Keyed} {arr : Array Keyed} {base n hint : Nat} {Q : Option Nat → SortSt → Prop} (hO : LtOk w A s a₀ rk) (hk : kindOf st = oneType') (hm : ∀ p, p ∈ arr.toList → p ∈ a₀.toList)
    (hkey : key ∈ a₀.toList) (hn : base + n ≤ arr.size) (hh : hint < n) (hs : Seg rk arr base (base + n))
    (h : ∀ k, k ≤ n → (left = true → (∀ i, base ≤ i → i < base + k → R rk arr i < rk key) ∧ (∀ i, base + k ≤ i → i < base + n → rk key ≤ R rk arr i)) →
      (left = false → (∀ i, base ≤ i → i < base + k → R rk arr i ≤ rk key) ∧ (∀ i, base + k ≤ i → i < base + n → rk key < R rk arr i)) → Q (some k) st) :
    wpS (model PG w) A E s (gallop' left key arr base n hint) Q st := by
  cases left with
  | true =>
    refine tgal0 (b := fun i => decide (R rk arr (base + i) < rk key)) hh (fun i Q hi hq => ?_) (fun i j hij hj hv => ?_) fun k hk' a1 a2 => h k hk' (fun _ => ⟨fun i h1 h2 => ?_, fun i h1 h2 => ?_⟩) (fun q => by cases q)
    · obtain ⟨p, e, m, r⟩ := mem_of (rk := rk) hm (i := base + i) (by omega)
      unfold bd
      refine wpS_bind (telem e ?_)
      simp only [if_true]
      refine tlt hO hk m hkey ?_
      rw [← r]; exact hq
    · have := hs (base + i) (base + j) (by omega) (by omega) (by omega)
      simp only [decide_eq_true_eq] at hv ⊢
      omega
    · have := a1 (i - base) (by omega)
      rw [show base + (i - base) = i by omega] at this
      simpa using this
    · have := a2 (i - base) (by omega) (by omega)
      rw [show base + (i - base) = i by omega] at this
      simpa using this
  | false =>
    refine tgal0 (b := fun i => !decide (rk key < R rk arr (base + i))) hh (fun i Q hi hq => ?_) (fun i j hij hj hv => ?_) fun k hk' a1 a2 => h k hk' (fun q => by cases q) (fun _ => ⟨fun i h1 h2 => ?_, fun i h1 h2 => ?_⟩)
    · obtain ⟨p, e, m, r⟩ := mem_of (rk := rk) hm (i := base + i) (by omega)
      unfold bd
      refine wpS_bind (telem e ?_)
      simp only [Bool.false_eq_true, if_false]
      refine wpS_bind (tlt hO hk hkey m ?_)
      rw [← r]; exact wpS_pure hq
    · have := hs (base + i) (base + j) (by omega) (by omega) (by omega)
      simp only [Bool.not_eq_true', decide_eq_false_iff_not] at hv ⊢
      omega
    · have := a1 (i - base) (by omega)
      rw [show base + (i - base) = i by omega] at this
      simpa using this
    · have := a2 (i - base) (by omega) (by omega)
      rw [show base + (i - base) = i by omega] at this
      simpa using this
end

end
/-! part Tim4 -/
section
/-- a merge at work: what is out, what remains of either -/
structure Mg (le : Keyed → Keyed → Prop) (tot out ra rb : List Keyed) : Prop where
  pm : (out ++ (ra ++ rb)).Perm tot
  sa : (out ++ ra).Pairwise le
  sb : (out ++ rb).Pairwise le
section
variable {le : Keyed → Keyed → Prop} {tot out ra rb ch : List Keyed}
theorem Mg.swap (h : Mg le tot out ra rb) : Mg le tot out rb ra := ⟨(List.Perm.append_left _ List.perm_append_comm).trans h.pm, h.sb, h.sa⟩
theorem Mg.addA (h : Mg le tot out (ch ++ ra) rb) (hc : ∀ x ∈ ch, ∀ y ∈ rb, le x y) : Mg le tot (out ++ ch) ra rb := by
  obtain ⟨p, sa, sb⟩ := h
  rw [← List.append_assoc] at sa
  refine ⟨by simpa using p, sa, ?_⟩
  rw [List.pairwise_append] at sa sb ⊢
  refine ⟨sa.1, sb.2.1, fun x hx y hy => ?_⟩
  rcases List.mem_append.mp hx with hx | hx
  · exact sb.2.2 x hx y hy
  · exact hc x hx y hy
theorem Mg.addB (h : Mg le tot out ra (ch ++ rb)) (hc : ∀ x ∈ ch, ∀ y ∈ ra, le x y) : Mg le tot (out ++ ch) ra rb := (Mg.addA h.swap hc).swap
theorem Mg.fin (h : Mg le tot out ra rb) (hc : ∀ x ∈ ra, ∀ y ∈ rb, le x y) : (out ++ (ra ++ rb)).Perm tot ∧ (out ++ (ra ++ rb)).Pairwise le := by
  refine ⟨h.pm, ?_⟩
  have a := List.pairwise_append.mp h.sa
  have b := List.pairwise_append.mp h.sb
  refine List.pairwise_append.mpr ⟨a.1, List.pairwise_append.mpr ⟨a.2.1, b.2.1, hc⟩, fun x hx y hy => ?_⟩
  rcases List.mem_append.mp hy with hy | hy
  · exact a.2.2 x hx y hy
  · exact b.2.2 x hx y hy
end
section
variable {rk : Keyed → Nat}
noncomputable def rle (rk : Keyed → Nat) (x y : Keyed) : Prop := rk x ≤ rk y
theorem in_drop {a : Array Keyed} {i : Nat} {x : Keyed} (h : x ∈ a.toList.drop i) : ∃ j, i ≤ j ∧ j < a.size ∧ R rk a j = rk x := by
  obtain ⟨j, hj, rfl⟩ := List.mem_iff_getElem.mp h
  rw [List.length_drop, Array.length_toList] at hj
  refine ⟨i + j, by (first | lia | omega), by (first | lia | omega), ?_⟩
  rw [List.getElem_drop]
  exact R_some (by simp)
theorem in_chunk {a : Array Keyed} {i j : Nat} {x : Keyed} (h : x ∈ (a.extract i j).toList) : ∃ m, i ≤ m ∧ m < j ∧ m < a.size ∧ R rk a m = rk x := by
  obtain ⟨m, hm, rfl⟩ := List.mem_iff_getElem.mp h
  rw [Array.length_toList, Array.size_extract] at hm
  refine ⟨i + m, by (first | lia | omega), by (first | lia | omega), by (first | lia | omega), ?_⟩
  rw [Array.getElem_toList, Array.getElem_extract]
  exact R_some (by simp)
theorem drop_chunk {a : Array Keyed} {i j : Nat} (hij : i ≤ j) (hj : j ≤ a.size) : a.toList.drop i = (a.extract i j).toList ++ a.toList.drop j := by
  rw [Array.toList_extract, List.extract_eq_take_drop]
  conv => lhs; rw [← List.take_append_drop (j - i) (a.toList.drop i)]
  rw [List.drop_drop, show i + (j - i) = j by (first | lia | omega)]
theorem take_chunk {a : Array Keyed} {i j : Nat} (hij : i ≤ j) (hj : j ≤ a.size) : a.toList.take j = a.toList.take i ++ (a.extract i j).toList := by
  rw [Array.toList_extract, List.extract_eq_take_drop]
  conv => lhs; rw [show j = i + (j - i) by (first | lia | omega), List.take_add]
theorem chunk_all {a : Array Keyed} {i : Nat} : (a.extract i a.size).toList = a.toList.drop i := by
  rw [Array.toList_extract, List.extract_eq_take_drop]
  apply List.take_of_length_le; simp
theorem chunk_one {a : Array Keyed} {i : Nat} {p : Keyed} (h : a[i]? = some p) : (a.extract i (i + 1)).toList = [p] := by
  have hi : i < a.size := by
    rcases Nat.lt_or_ge i a.size with h' | h'
    · exact h'
    · rw [Array.getElem?_eq_none h'] at h; cases h
  rw [Array.toList_extract, List.extract_eq_take_drop, show i + 1 - i = 1 by (first | lia | omega), List.take_one, List.head?_drop]
  simp [h]
theorem seg_pw {a : Array Keyed} (h : Seg rk a 0 a.size) : a.toList.Pairwise (rle rk) := by
  rw [List.pairwise_iff_getElem]
  intro i j hi hj hij
  have := h i j (Nat.zero_le _) (Nat.le_of_lt hij) (by simpa using hj)
  rwa [R_some (p := a.toList[i]) (by simp), R_some (p := a.toList[j]) (by simp)] at this
/-- the merge from below -/
noncomputable def Lo (rk : Keyed → Nat) (a b : Array Keyed) (out : Array Keyed) (ia ib : Nat) : Prop := Mg (rle rk) (a.toList ++ b.toList) out.toList (a.toList.drop ia) (b.toList.drop ib)
theorem Lo.addA {a b out : Array Keyed} {ia ib ia' : Nat} (h : Lo rk a b out ia ib) (h1 : ia ≤ ia') (h2 : ia' ≤ a.size) (hc : ∀ i, ia ≤ i → i < ia' → ∀ j, ib ≤ j → j < b.size → R rk a i ≤ R rk b j) :
    Lo rk a b (out ++ a.extract ia ia') ia' ib := by
  unfold Lo at h ⊢
  rw [drop_chunk h1 h2] at h
  rw [Array.toList_append]
  refine Mg.addA h fun x hx y hy => ?_
  obtain ⟨i, a1, a2, a3, a4⟩ := in_chunk (rk := rk) hx
  obtain ⟨j, b1, b2, b3⟩ := in_drop (rk := rk) hy
  have := hc i a1 a2 j b1 b2
  unfold rle; (first | lia | omega)
theorem Lo.addB {a b out : Array Keyed} {ia ib ib' : Nat} (h : Lo rk a b out ia ib) (h1 : ib ≤ ib') (h2 : ib' ≤ b.size) (hc : ∀ i, ib ≤ i → i < ib' → ∀ j, ia ≤ j → j < a.size → R rk b i ≤ R rk a j) :
    Lo rk a b (out ++ b.extract ib ib') ia ib' := by
  unfold Lo at h ⊢
  rw [drop_chunk h1 h2] at h
  rw [Array.toList_append]
  refine Mg.addB h fun x hx y hy => ?_
  obtain ⟨i, a1, a2, a3, a4⟩ := in_chunk (rk := rk) hx
  obtain ⟨j, b1, b2, b3⟩ := in_drop (rk := rk) hy
  have := hc i a1 a2 j b1 b2
  unfold rle; (first | lia | omega)
theorem push_chunk {out a : Array Keyed} {i : Nat} {p : Keyed} (h : a[i]? = some p) : out.push p = out ++ a.extract i (i + 1) := by
  apply Array.ext'
  rw [Array.toList_push, Array.toList_append, chunk_one h]
noncomputable def Res (rk : Keyed → Nat) (a b r : Array Keyed) : Prop := r.toList.Perm (a.toList ++ b.toList) ∧ r.toList.Pairwise (rle rk)
theorem Lo.fin {a b out : Array Keyed} {ia ib : Nat} (h : Lo rk a b out ia ib) (hc : ia = a.size ∨ ib = b.size) : Res rk a b (out ++ a.extract ia a.size ++ b.extract ib b.size) := by
  unfold Res; unfold Lo at h
  rw [Array.toList_append, Array.toList_append, chunk_all, chunk_all, List.append_assoc]
  refine Mg.fin h fun x hx y hy => ?_
  rcases hc with rfl | rfl
  · rw [List.drop_eq_nil_of_le (by simp)] at hx; cases hx
  · rw [List.drop_eq_nil_of_le (by simp)] at hy; cases hy
theorem Lo.last {a b out : Array Keyed} {ia ib : Nat} (h : Lo rk a b out ia ib) (h1 : ia + 1 = a.size) (hc : ∀ i, i < b.size → R rk b i ≤ R rk a (a.size - 1)) : Res rk a b (out ++ b.extract ib b.size ++ a.extract ia a.size) := by
  unfold Res; unfold Lo at h
  rw [Array.toList_append, Array.toList_append, chunk_all, chunk_all, List.append_assoc]
  refine Mg.fin (Mg.swap h) fun x hx y hy => ?_
  obtain ⟨i, a1, a2, a3⟩ := in_drop (rk := rk) hx
  obtain ⟨j, b1, b2, b3⟩ := in_drop (rk := rk) hy
  have := hc i a2
  rw [show a.size - 1 = j by (first | lia | omega)] at this
  unfold rle; (first | lia | omega)
end

end
/-! part Tim5 -/
section
noncomputable def mergeLo' : Array Keyed → Array Keyed → StateT SortSt Sem (Array Keyed) := sortPriv% PySem.Builtin.mergeLo
noncomputable def setMg : Nat → StateT SortSt Sem Unit := sortPriv% PySem.Builtin.setMinGallop
noncomputable def Same (st st' : SortSt) : Prop := kindOf st' = kindOf st ∧ arrOf st' = arrOf st ∧ pendingOf st' = pendingOf st ∧ failedOf st' = failedOf st
theorem Same.rfl' {st : SortSt} : Same st st := ⟨rfl, rfl, rfl, rfl⟩
theorem Same.trans {a b c : SortSt} (h : Same a b) (k : Same b c) : Same a c := ⟨k.1.trans h.1, k.2.1.trans h.2.1, k.2.2.1.trans h.2.2.1, k.2.2.2.trans h.2.2.2⟩
theorem tmg {M : Model} {A : Around} {E : Value → Shared → Prop} {s : Shared} {st : SortSt} {g : Nat} {Q : Unit → SortSt → Prop} (h : ∀ st', Same st st' → Q () st') : wpS M A E s (setMg g) Q st :=
  wpS_modify (h _ ⟨rfl, rfl, rfl, rfl⟩)
noncomputable abbrev T6 := Option (Array Keyed) × Array Keyed × Nat × Nat × Nat × Nat
noncomputable abbrev T7 := Option (Array Keyed) × Array Keyed × Nat × Nat × Nat × Nat × Nat
section
variable (a b : Array Keyed)
noncomputable def loDone (out : Array Keyed) (ia ib : Nat) : Array Keyed := out ++ a.extract ia a.size ++ b.extract ib b.size
noncomputable def loLast (out : Array Keyed) (ia ib : Nat) : Array Keyed := out ++ b.extract ib b.size ++ a.extract ia a.size
noncomputable def lo1 (mg : Nat) (out : Array Keyed) (ia ib ac bc : Nat) : StateT SortSt Sem (ForInStep T6) := do
  let y ← elem' b ib
  let x ← elem' a ia
  match ← lt' y x with
  | some v =>
    if v = true then do
      let z ← elem' b ib
      if (ib + 1 == b.size) = true then pure (.done (some (loDone a b (out.push z) ia (ib + 1)), out.push z, ia, ib + 1, 0, bc + 1))
      else if bc + 1 ≥ mg then pure (.done (none, out.push z, ia, ib + 1, 0, bc + 1))
      else pure (.yield (none, out.push z, ia, ib + 1, 0, bc + 1))
    else do
      let z ← elem' a ia
      if (ia + 1 + 1 == a.size) = true then pure (.done (some (loLast a b (out.push z) (ia + 1) ib), out.push z, ia + 1, ib, ac + 1, 0))
      else if ac + 1 ≥ mg then pure (.done (none, out.push z, ia + 1, ib, ac + 1, 0))
      else pure (.yield (none, out.push z, ia + 1, ib, ac + 1, 0))
  | _ => pure (.done (some (loDone a b out ia ib), out, ia, ib, ac, bc))
noncomputable def lo4 (out : Array Keyed) (ia ib mg ac bc : Nat) : StateT SortSt Sem (ForInStep T7) := do
  let z ← elem' a ia
  if (ia + 1 + 1 == a.size) = true then pure (.done (some (loLast a b (out.push z) (ia + 1) ib), out.push z, ia + 1, ib, mg, ac, bc))
  else if (decide (ac < 7) && decide (bc < 7)) = true then pure (.done (none, out.push z, ia + 1, ib, mg, ac, bc))
  else pure (.yield (none, out.push z, ia + 1, ib, mg, ac, bc))
noncomputable def loStep (out : Array Keyed) (ia ib mg ac bc : Nat) : StateT SortSt Sem (ForInStep T7) := do
  let z ← elem' b ib
  if (ib + 1 == b.size) = true then pure (.done (some (loDone a b (out.push z) ia (ib + 1)), out.push z, ia, ib + 1, mg, ac, bc))
  else do
    let x ← elem' a ia
    match ← gallop' true x b (ib + 1) (b.size - (ib + 1)) 0 with
    | some k =>
      if k > 0 then
        if (ib + 1 + k == b.size) = true then pure (.done (some (loDone a b (out.push z ++ b.extract (ib + 1) (ib + 1 + k)) ia (ib + 1 + k)), out.push z ++ b.extract (ib + 1) (ib + 1 + k), ia, ib + 1 + k, mg, ac, k))
        else lo4 a b (out.push z ++ b.extract (ib + 1) (ib + 1 + k)) ia (ib + 1 + k) mg ac k
      else lo4 a b (out.push z) ia (ib + 1) mg ac k
    | _ => pure (.done (some (loDone a b (out.push z) ia (ib + 1)), out.push z, ia, ib + 1, mg, ac, bc))
noncomputable def lo2 (out : Array Keyed) (ia ib mg ac bc : Nat) : StateT SortSt Sem (ForInStep T7) := do
  setMg mg
  let y ← elem' b ib
  match ← gallop' false y a ia (a.size - ia) 0 with
  | some k =>
    if k > 0 then
      if (ia + k + 1 == a.size) = true then pure (.done (some (loLast a b (out ++ a.extract ia (ia + k)) (ia + k) ib), out ++ a.extract ia (ia + k), ia + k, ib, mg, k, bc))
      else if (ia + k == a.size) = true then pure (.done (some (loDone a b (out ++ a.extract ia (ia + k)) (ia + k) ib), out ++ a.extract ia (ia + k), ia + k, ib, mg, k, bc))
      else loStep a b (out ++ a.extract ia (ia + k)) (ia + k) ib mg k bc
    else loStep a b out ia ib mg k bc
  | _ => pure (.done (some (loDone a b out ia ib), out, ia, ib, mg, ac, bc))
noncomputable def loTurn (out : Array Keyed) (ia ib mg : Nat) : StateT SortSt Sem (ForInStep (Option (Array Keyed) × Array Keyed × Nat × Nat × Nat)) := do
  let c ← forIn [0:a.size + b.size] ((none, out, ia, ib, 0, 0) : T6) fun _ c => lo1 a b mg c.2.1 c.2.2.1 c.2.2.2.1 c.2.2.2.2.1 c.2.2.2.2.2
  match c.1 with
  | some r => pure (.done (some r, c.2.1, c.2.2.1, c.2.2.2.1, mg))
  | none => do
    liftM (rule "list.sort.gallop")
    let d ← forIn [0:a.size + b.size] ((none, c.2.1, c.2.2.1, c.2.2.2.1, mg + 1, c.2.2.2.2.1, c.2.2.2.2.2) : T7) fun _ d =>
      if d.2.2.2.2.1 > 1 then lo2 a b d.2.1 d.2.2.1 d.2.2.2.1 (d.2.2.2.2.1 - 1) d.2.2.2.2.2.1 d.2.2.2.2.2.2 else lo2 a b d.2.1 d.2.2.1 d.2.2.2.1 d.2.2.2.2.1 d.2.2.2.2.2.1 d.2.2.2.2.2.2
    match d.1 with
    | some r => pure (.done (some r, d.2.1, d.2.2.1, d.2.2.2.1, d.2.2.2.2.1))
    | none => do
      setMg (d.2.2.2.2.1 + 1)
      pure (.yield (none, d.2.1, d.2.2.1, d.2.2.2.1, d.2.2.2.2.1 + 1))
end
set_option smartUnfolding false in
theorem lo_eq (a b : Array Keyed) : mergeLo' a b = (do
    liftM (rule "list.sort.merge-lo")
    let z ← elem' b 0
    if (1 == b.size) = true then pure (loDone a b #[z] 0 1)
    else if (0 + 1 == a.size) = true then pure (loLast a b #[z] 0 1)
    else do
      let g ← get
      let c ← forIn [0:a.size + b.size] ((none, #[z], 0, 1, gallopOf g) : Option (Array Keyed) × Array Keyed × Nat × Nat × Nat) fun _ c => loTurn a b c.2.1 c.2.2.1 c.2.2.2.1 c.2.2.2.2
      match c.1 with
      | some r => pure r
      | none => liftM (unsupported (α := Array Keyed) "internal:list.sort.merge-bound")) := by with_unfolding_all rfl

end
/-! part Tim6 -/
section
/-- two sorted rows to be merged -/
structure MC (w : World) (A : Around) (s : Shared) (a₀ : Array Keyed) (rk : Keyed → Nat) (a b : Array Keyed) : Prop where
  lt : LtOk w A s a₀ rk
  ma : ∀ p, p ∈ a.toList → p ∈ a₀.toList
  mb : ∀ p, p ∈ b.toList → p ∈ a₀.toList
  sa : Seg rk a 0 a.size
  sb : Seg rk b 0 b.size
  low : ∀ i, i < a.size → R rk b 0 ≤ R rk a i
  top : ∀ i, i < b.size → R rk b i ≤ R rk a (a.size - 1)
noncomputable def LoP (rk : Keyed → Nat) (a b : Array Keyed) (N : Nat) (r : Option (Array Keyed)) (out : Array Keyed) (ia ib : Nat) : Prop :=
  match r with
  | some r => Res rk a b r
  | none => Lo rk a b out ia ib ∧ ia + 1 < a.size ∧ ib < b.size ∧ N ≤ ia + ib
theorem LoP.mk {rk : Keyed → Nat} {a b out : Array Keyed} {N ia ib : Nat} (L : Lo rk a b out ia ib) (h1 : ia + 1 < a.size) (h2 : ib < b.size) (h3 : N ≤ ia + ib) : LoP rk a b N none out ia ib := ⟨L, h1, h2, h3⟩
section
variable {w : World} {A : Around} {E : Value → Shared → Prop} {s : Shared} {a₀ a b out : Array Keyed} {rk : Keyed → Nat} {st : SortSt} {ia ib : Nat}
theorem tlo1 (C : MC w A s a₀ rk a b) (hk : kindOf st = oneType') (L : Lo rk a b out ia ib) (ha : ia + 1 < a.size) (hb : ib < b.size) {mg ac bc : Nat} :
    wpS (model PG w) A E s (lo1 a b mg out ia ib ac bc) (fun r st' => st' = st ∧ match r with
      | .done c => LoP rk a b (ia + ib + 1) c.1 c.2.1 c.2.2.1 c.2.2.2.1
      | .yield c => c.1 = none ∧ LoP rk a b (ia + ib + 1) none c.2.1 c.2.2.1 c.2.2.2.1) st := by
  obtain ⟨y, ey, my, ry⟩ := mem_of (rk := rk) C.mb hb
  obtain ⟨x, ex, mx, rx⟩ := mem_of (rk := rk) C.ma (i := ia) (by (first | lia | omega))
  unfold lo1
  refine wpS_bind (telem ey (wpS_bind (telem ex (wpS_bind (tlt C.lt hk my mx ?_)))))
  by_cases hv : rk y < rk x
  · simp only [hv, decide_true, if_true]
    refine wpS_bind (telem ey ?_)
    rw [push_chunk ey]
    have L' := Lo.addB L (ib' := ib + 1) (by (first | lia | omega)) (by (first | lia | omega)) (fun i h1 h2 j h3 h4 => by
      have e : i = ib := by (first | lia | omega)
      rw [e]
      have := C.sa ia j (by (first | lia | omega)) h3 h4
      (first | lia | omega))
    by_cases e1 : ib + 1 = b.size
    · rw [if_pos (beq_iff_eq.mpr e1)]
      exact wpS_pure ⟨rfl, Lo.fin L' (.inr e1)⟩
    · rw [if_neg (fun q => e1 (beq_iff_eq.mp q))]
      have P := LoP.mk (N := ia + ib + 1) L' ha (by (first | lia | omega)) (by (first | lia | omega))
      split
      · exact wpS_pure ⟨rfl, P⟩
      · exact wpS_pure ⟨rfl, rfl, P⟩
  · simp only [hv, decide_false, Bool.false_eq_true, if_false]
    refine wpS_bind (telem ex ?_)
    rw [push_chunk ex]
    have L' := Lo.addA L (ia' := ia + 1) (by (first | lia | omega)) (by (first | lia | omega)) (fun i h1 h2 j h3 h4 => by
      have e : i = ia := by (first | lia | omega)
      rw [e]
      have := C.sb ib j (by (first | lia | omega)) h3 h4
      (first | lia | omega))
    by_cases e1 : ia + 1 + 1 = a.size
    · rw [if_pos (beq_iff_eq.mpr e1)]
      exact wpS_pure ⟨rfl, Lo.last L' e1 C.top⟩
    · rw [if_neg (fun q => e1 (beq_iff_eq.mp q))]
      have P := LoP.mk (N := ia + ib + 1) L' (by (first | lia | omega)) hb (by (first | lia | omega))
      split
      · exact wpS_pure ⟨rfl, P⟩
      · exact wpS_pure ⟨rfl, rfl, P⟩
noncomputable def LoQ (rk : Keyed → Nat) (a b : Array Keyed) (N : Nat) (st : SortSt) (r : ForInStep T7) (st' : SortSt) : Prop :=
  Same st st' ∧ match r with
      | .done c => LoP rk a b N c.1 c.2.1 c.2.2.1 c.2.2.2.1
      | .yield c => c.1 = none ∧ LoP rk a b N none c.2.1 c.2.2.1 c.2.2.2.1
theorem tlo4 (C : MC w A s a₀ rk a b) {N : Nat} (L : Lo rk a b out ia ib) (ha : ia + 1 < a.size) (hb : ib < b.size) (hx : ∀ j, ib ≤ j → j < b.size → R rk a ia ≤ R rk b j) (hN : N ≤ ia + ib) {mg ac bc : Nat} :
    wpS (model PG w) A E s (lo4 a b out ia ib mg ac bc) (LoQ rk a b N st) st := by
  obtain ⟨x, ex, mx, rx⟩ := mem_of (rk := rk) C.ma (i := ia) (by (first | lia | omega))
  unfold lo4
  refine wpS_bind (telem ex ?_)
  rw [push_chunk ex]
  have L' := Lo.addA L (ia' := ia + 1) (by (first | lia | omega)) (by (first | lia | omega)) (fun i h1 h2 j h3 h4 => by
      have e : i = ia := by (first | lia | omega)
      rw [e]
      exact hx j h3 h4)
  by_cases e1 : ia + 1 + 1 = a.size
  · rw [if_pos (beq_iff_eq.mpr e1)]
    exact wpS_pure ⟨Same.rfl', Lo.last L' e1 C.top⟩
  · rw [if_neg (fun q => e1 (beq_iff_eq.mp q))]
    have P := LoP.mk (N := N) L' (by (first | lia | omega)) hb (by (first | lia | omega))
    split
    · exact wpS_pure ⟨Same.rfl', P⟩
    · exact wpS_pure ⟨Same.rfl', rfl, P⟩
theorem tlo3 (C : MC w A s a₀ rk a b) {N : Nat} (hk : kindOf st = oneType') (L : Lo rk a b out ia ib) (ha : ia + 1 < a.size) (hb : ib < b.size) (hx : ∀ j, ia ≤ j → j < a.size → R rk b ib ≤ R rk a j) (hN : N ≤ ia + ib) {mg ac bc : Nat} :
    wpS (model PG w) A E s (loStep a b out ia ib mg ac bc) (LoQ rk a b N st) st := by
  obtain ⟨y, ey, my, ry⟩ := mem_of (rk := rk) C.mb hb
  obtain ⟨x, ex, mx, rx⟩ := mem_of (rk := rk) C.ma (i := ia) (by (first | lia | omega))
  unfold loStep
  refine wpS_bind (telem ey ?_)
  rw [push_chunk ey]
  have L' := Lo.addB L (ib' := ib + 1) (by (first | lia | omega)) (by (first | lia | omega)) (fun i h1 h2 j h3 h4 => by
      have e : i = ib := by (first | lia | omega)
      rw [e]
      exact hx j h3 h4)
  by_cases e1 : ib + 1 = b.size
  · rw [if_pos (beq_iff_eq.mpr e1)]
    exact wpS_pure ⟨Same.rfl', Lo.fin L' (.inr e1)⟩
  · rw [if_neg (fun q => e1 (beq_iff_eq.mp q))]
    refine wpS_bind (telem ex ?_)
    refine wpS_bind (tgal C.lt hk C.mb mx (by (first | lia | omega)) (by (first | lia | omega)) (fun i j h1 h2 h3 => C.sb i j (by (first | lia | omega)) h2 (by (first | lia | omega))) fun k hkn h1 _ => ?_)
    obtain ⟨g1, g2⟩ := h1 rfl
    rw [show ib + 1 + (b.size - (ib + 1)) = b.size by (first | lia | omega)] at g2
    dsimp only
    by_cases hk0 : k > 0
    · rw [if_pos hk0]
      have L2 := Lo.addB L' (ib' := ib + 1 + k) (by (first | lia | omega)) (by (first | lia | omega)) (fun i h1 h2 j h3 h4 => by
        have a1 := g1 i h1 h2
        have a2 := C.sa ia j (by (first | lia | omega)) h3 h4
        (first | lia | omega))
      by_cases e2 : ib + 1 + k = b.size
      · rw [if_pos (beq_iff_eq.mpr e2)]
        exact wpS_pure ⟨Same.rfl', Lo.fin L2 (.inr e2)⟩
      · rw [if_neg (fun q => e2 (beq_iff_eq.mp q))]
        exact tlo4 C L2 ha (by (first | lia | omega)) (fun j h1 h2 => by have := g2 j h1 h2; (first | lia | omega)) (by (first | lia | omega))
    · rw [if_neg hk0]
      exact tlo4 C L' ha (by (first | lia | omega)) (fun j h1 h2 => by have := g2 j (by (first | lia | omega)) h2; (first | lia | omega)) (by (first | lia | omega))
theorem tlo2 (C : MC w A s a₀ rk a b) {N : Nat} (hk : kindOf st = oneType') (L : Lo rk a b out ia ib) (ha : ia + 1 < a.size) (hb : ib < b.size) (hN : N ≤ ia + ib) {mg ac bc : Nat} :
    wpS (model PG w) A E s (lo2 a b out ia ib mg ac bc) (LoQ rk a b N st) st := by
  obtain ⟨y, ey, my, ry⟩ := mem_of (rk := rk) C.mb hb
  unfold lo2
  refine wpS_bind (tmg fun st1 S1 => ?_)
  have hk1 : kindOf st1 = oneType' := S1.1.trans hk
  refine wpS_bind (telem ey ?_)
  refine wpS_bind (tgal C.lt hk1 C.ma my (by (first | lia | omega)) (by (first | lia | omega)) (fun i j h1 h2 h3 => C.sa i j (by (first | lia | omega)) h2 (by (first | lia | omega))) fun k hkn _ h1 => ?_)
  obtain ⟨g1, g2⟩ := h1 rfl
  rw [show ia + (a.size - ia) = a.size by (first | lia | omega)] at g2
  dsimp only
  by_cases hk0 : k > 0
  · rw [if_pos hk0]
    have L2 := Lo.addA L (ia' := ia + k) (by (first | lia | omega)) (by (first | lia | omega)) (fun i h1 h2 j h3 h4 => by
        have a1 := g1 i h1 h2
        have a2 := C.sb ib j (by (first | lia | omega)) h3 h4
        (first | lia | omega))
    by_cases e2 : ia + k + 1 = a.size
    · rw [if_pos (beq_iff_eq.mpr e2)]
      exact wpS_pure ⟨S1, Lo.last L2 e2 C.top⟩
    · rw [if_neg (fun q => e2 (beq_iff_eq.mp q))]
      by_cases e3 : ia + k = a.size
      · rw [if_pos (beq_iff_eq.mpr e3)]
        exact wpS_pure ⟨S1, Lo.fin L2 (.inl e3)⟩
      · rw [if_neg (fun q => e3 (beq_iff_eq.mp q))]
        exact wpS_mono (tlo3 C (N := N) hk1 L2 (by (first | lia | omega)) hb (fun j h1 h2 => by have := g2 j h1 h2; (first | lia | omega)) (by (first | lia | omega))) fun r st' h => ⟨S1.trans h.1, h.2⟩
  · rw [if_neg hk0]
    exact wpS_mono (tlo3 C (N := N) hk1 L ha hb (fun j h1 h2 => by have := g2 j (by (first | lia | omega)) h2; (first | lia | omega)) (by (first | lia | omega))) fun r st' h => ⟨S1.trans h.1, h.2⟩
theorem tloTurn (C : MC w A s a₀ rk a b) (hk : kindOf st = oneType') (L : Lo rk a b out ia ib) (ha : ia + 1 < a.size) (hb : ib < b.size) {mg : Nat} :
    wpS (model PG w) A E s (loTurn a b out ia ib mg) (fun r st' => Same st st' ∧ match r with
      | .done c => ∃ r, c.1 = some r ∧ Res rk a b r
      | .yield c => c.1 = none ∧ LoP rk a b (ia + ib + 1) none c.2.1 c.2.2.1 c.2.2.2.1) st := by
  unfold loTurn
  refine wpS_bind (wpS_mono (wpS_forRange
    (I := fun x c st' => st' = st ∧ c.1 = none ∧ LoP rk a b (ia + ib + (if x = 0 then 0 else 1)) none c.2.1 c.2.2.1 c.2.2.2.1)
    (Q := fun c st' => st' = st ∧ LoP rk a b (ia + ib + 1) c.1 c.2.1 c.2.2.1 c.2.2.2.1) ?step ?fin ⟨rfl, rfl, L, ha, hb, by simp⟩) ?post)
  case fin =>
    rintro ⟨r, o, i, j, x, y⟩ st' ⟨rfl, rfl, h⟩
    rw [if_neg (by (first | lia | omega))] at h
    exact ⟨rfl, h⟩
  case step =>
    rintro x ⟨r, o, i, j, ac, bc⟩ st' _ hx ⟨rfl, rfl, h1, h2, h3, h4⟩
    dsimp only at h1 h2 h3 h4
    refine wpS_mono (tlo1 C hk h1 h2 h3) fun r st'' h => ?_
    obtain ⟨rfl, h⟩ := h
    cases r with
    | done c =>
      refine ⟨rfl, ?_⟩
      revert h
      dsimp only
      cases c.1 with
      | some r => exact id
      | none => exact fun h => ⟨h.1, h.2.1, h.2.2.1, by have := h.2.2.2; split at h4 <;> (first | lia | omega)⟩
    | yield c =>
      refine ⟨rfl, h.1, h.2.1, h.2.2.1, h.2.2.2.1, ?_⟩
      rw [if_neg (by (first | lia | omega))]
      have := h.2.2.2.2
      split at h4 <;> (first | lia | omega)
  case post =>
    rintro ⟨r, o, i, j, ac, bc⟩ st' ⟨rfl, h⟩
    cases r with
    | some r => exact wpS_pure ⟨Same.rfl', r, rfl, h⟩
    | none =>
      obtain ⟨h1, h2, h3, h4⟩ := h
      dsimp only at h1 h2 h3 h4 ⊢
      refine wpS_bind (wpS_lift (wpAny_rule ⟨rfl, ?_⟩))
      refine wpS_bind (wpS_mono (wpS_forRange
        (I := fun x c st'' => Same st' st'' ∧ c.1 = none ∧ LoP rk a b (ia + ib + 1) none c.2.1 c.2.2.1 c.2.2.2.1)
        (Q := fun c st'' => Same st' st'' ∧ LoP rk a b (ia + ib + 1) c.1 c.2.1 c.2.2.1 c.2.2.2.1) ?step2 ?fin2 ⟨Same.rfl', rfl, h1, h2, h3, h4⟩) ?post2)
      case fin2 =>
        rintro ⟨r, o, i, j, m, x, y⟩ st'' ⟨S, rfl, h⟩
        exact ⟨S, h⟩
      case step2 =>
        rintro x ⟨r, o, i, j, m, ac, bc⟩ st'' _ hx ⟨S, rfl, h1, h2, h3, h4⟩
        have hk2 : kindOf st'' = oneType' := S.1.trans hk
        have key : ∀ mg, wpS (model PG w) A E s (lo2 a b o i j mg ac bc) (fun r st3 => match r with
            | .done c => Same st' st3 ∧ LoP rk a b (ia + ib + 1) c.1 c.2.1 c.2.2.1 c.2.2.2.1
            | .yield c => Same st' st3 ∧ c.1 = none ∧ LoP rk a b (ia + ib + 1) none c.2.1 c.2.2.1 c.2.2.2.1) st'' := fun mg => by
          refine wpS_mono (tlo2 C hk2 h1 h2 h3 h4) fun r st3 h => ?_
          cases r with
          | done c => exact ⟨S.trans h.1, h.2⟩
          | yield c => exact ⟨S.trans h.1, h.2⟩
        dsimp only
        split
        · exact wpS_mono (key _) fun r st3 h => by cases r <;> exact h
        · exact wpS_mono (key _) fun r st3 h => by cases r <;> exact h
      case post2 =>
        rintro ⟨r, o, i, j, m, ac, bc⟩ st'' ⟨S, h⟩
        cases r with
        | some r => exact wpS_pure ⟨S, r, rfl, h⟩
        | none =>
          refine wpS_bind (tmg fun st3 S3 => wpS_pure ⟨S.trans S3, rfl, h⟩)
theorem tlo (C : MC w A s a₀ rk a b) (hk : kindOf st = oneType') (ha : 0 < a.size) (hb : 0 < b.size) {Q : Array Keyed → SortSt → Prop} (h : ∀ r st', Same st st' → Res rk a b r → Q r st') :
    wpS (model PG w) A E s (mergeLo' a b) Q st := by
  rw [lo_eq]
  refine wpS_bind (wpS_lift (wpAny_rule ⟨rfl, ?_⟩))
  obtain ⟨y, ey, my, ry⟩ := mem_of (rk := rk) C.mb hb
  refine wpS_bind (telem ey ?_)
  have L0 : Lo rk a b #[] 0 0 := ⟨by simp, by simpa using seg_pw C.sa, by simpa using seg_pw C.sb⟩
  have L : Lo rk a b #[y] 0 1 := by
    have := Lo.addB L0 (ib' := 1) (by (first | lia | omega)) (by (first | lia | omega)) (fun i h1 h2 j h3 h4 => by
      have e : i = 0 := by (first | lia | omega)
      rw [e]; exact C.low j h4)
    rwa [show (#[] : Array Keyed) ++ b.extract 0 1 = #[y] from (push_chunk (out := #[]) ey).symm] at this
  by_cases e1 : 1 = b.size
  · rw [if_pos (beq_iff_eq.mpr e1)]
    exact wpS_pure (h _ _ Same.rfl' (Lo.fin L (.inr e1)))
  · rw [if_neg (fun q => e1 (beq_iff_eq.mp q))]
    by_cases e2 : 0 + 1 = a.size
    · rw [if_pos (beq_iff_eq.mpr e2)]
      exact wpS_pure (h _ _ Same.rfl' (Lo.last L e2 C.top))
    · rw [if_neg (fun q => e2 (beq_iff_eq.mp q))]
      refine wpS_bind (wpS_get ?_)
      refine wpS_bind (wpS_mono (wpS_forRange
        (I := fun x c st' => Same st st' ∧ c.1 = none ∧ LoP rk a b (x + 1) none c.2.1 c.2.2.1 c.2.2.2.1)
        (Q := fun c st' => Same st st' ∧ ∃ r, c.1 = some r ∧ Res rk a b r) ?step ?fin ⟨Same.rfl', rfl, L, by show 0 + 1 < a.size; (first | lia | omega), by show 1 < b.size; (first | lia | omega), by show 0 + 1 ≤ 0 + 1; (first | lia | omega)⟩) ?post)
      case fin =>
        rintro ⟨r, o, i, j, m⟩ st' ⟨S, rfl, h1, h2, h3, h4⟩
        dsimp only at h2 h3 h4
        (first | lia | omega)
      case step =>
        rintro x ⟨r, o, i, j, m⟩ st' _ hx ⟨S, rfl, h1, h2, h3, h4⟩
        dsimp only at h1 h2 h3 h4
        refine wpS_mono (tloTurn C (S.1.trans hk) h1 h2 h3) fun r st'' h => ?_
        cases r with
        | done c => exact ⟨S.trans h.1, h.2⟩
        | yield c =>
          refine ⟨S.trans h.1, h.2.1, h.2.2.1, h.2.2.2.1, h.2.2.2.2.1, ?_⟩
          have := h.2.2.2.2.2
          (first | lia | omega)
      case post =>
        rintro ⟨r, o, i, j, m⟩ st' ⟨S, r', e, hr⟩
        cases e
        exact wpS_pure (h _ _ S hr)
end

end
/-! part Tim7 -/
section
noncomputable def mergeHi' : Array Keyed → Array Keyed → StateT SortSt Sem (Array Keyed) := sortPriv% PySem.Builtin.mergeHi
noncomputable abbrev H6 := Option (Array Keyed) × Nat × Nat × Array Keyed × Nat × Nat
noncomputable abbrev H7 := Option (Array Keyed) × Nat × Nat × Array Keyed × Nat × Nat × Nat
section
variable (a b : Array Keyed)
noncomputable def hiDone (out : Array Keyed) (na nb : Nat) : Array Keyed := a.extract 0 na ++ b.extract 0 nb ++ out.reverse
noncomputable def hiLast (out : Array Keyed) (na nb : Nat) : Array Keyed := b.extract 0 nb ++ a.extract 0 na ++ out.reverse
noncomputable def hi1 (mg na nb : Nat) (out : Array Keyed) (ac bc : Nat) : StateT SortSt Sem (ForInStep H6) := do
  let y ← elem' b (nb - 1)
  let x ← elem' a (na - 1)
  match ← lt' y x with
  | some v =>
    if v = true then do
      let z ← elem' a (na - 1)
      if (na - 1 == 0) = true then pure (.done (some (hiDone a b (out.push z) (na - 1) nb), na - 1, nb, out.push z, ac + 1, 0))
      else if ac + 1 ≥ mg then pure (.done (none, na - 1, nb, out.push z, ac + 1, 0))
      else pure (.yield (none, na - 1, nb, out.push z, ac + 1, 0))
    else do
      let z ← elem' b (nb - 1)
      if (nb - 1 == 1) = true then pure (.done (some (hiLast a b (out.push z) na (nb - 1)), na, nb - 1, out.push z, 0, bc + 1))
      else if bc + 1 ≥ mg then pure (.done (none, na, nb - 1, out.push z, 0, bc + 1))
      else pure (.yield (none, na, nb - 1, out.push z, 0, bc + 1))
  | _ => pure (.done (some (hiDone a b out na nb), na, nb, out, ac, bc))
noncomputable def hi4 (na nb : Nat) (out : Array Keyed) (mg ac bc : Nat) : StateT SortSt Sem (ForInStep H7) := do
  let z ← elem' a (na - 1)
  if (na - 1 == 0) = true then pure (.done (some (hiDone a b (out.push z) (na - 1) nb), na - 1, nb, out.push z, mg, ac, bc))
  else if (decide (ac < 7) && decide (bc < 7)) = true then pure (.done (none, na - 1, nb, out.push z, mg, ac, bc))
  else pure (.yield (none, na - 1, nb, out.push z, mg, ac, bc))
noncomputable def hiStep (na nb : Nat) (out : Array Keyed) (mg ac bc : Nat) : StateT SortSt Sem (ForInStep H7) := do
  let z ← elem' b (nb - 1)
  if (nb - 1 == 1) = true then pure (.done (some (hiLast a b (out.push z) na (nb - 1)), na, nb - 1, out.push z, mg, ac, bc))
  else do
    let x ← elem' a (na - 1)
    match ← gallop' true x b 0 (nb - 1) (nb - 1 - 1) with
    | some t =>
      if nb - 1 - t > 0 then
        if (t == 1) = true then pure (.done (some (hiLast a b (out.push z ++ (b.extract t (nb - 1)).reverse) na t), na, t, out.push z ++ (b.extract t (nb - 1)).reverse, mg, ac, nb - 1 - t))
        else if (t == 0) = true then pure (.done (some (hiDone a b (out.push z ++ (b.extract t (nb - 1)).reverse) na t), na, t, out.push z ++ (b.extract t (nb - 1)).reverse, mg, ac, nb - 1 - t))
        else hi4 a b na t (out.push z ++ (b.extract t (nb - 1)).reverse) mg ac (nb - 1 - t)
      else hi4 a b na (nb - 1) (out.push z) mg ac (nb - 1 - t)
    | _ => pure (.done (some (hiDone a b (out.push z) na (nb - 1)), na, nb - 1, out.push z, mg, ac, bc))
noncomputable def hi2 (na nb : Nat) (out : Array Keyed) (mg ac bc : Nat) : StateT SortSt Sem (ForInStep H7) := do
  setMg mg
  let y ← elem' b (nb - 1)
  match ← gallop' false y a 0 na (na - 1) with
  | some t =>
    if na - t > 0 then
      if (t == 0) = true then pure (.done (some (hiDone a b (out ++ (a.extract t na).reverse) t nb), t, nb, out ++ (a.extract t na).reverse, mg, na - t, bc))
      else hiStep a b t nb (out ++ (a.extract t na).reverse) mg (na - t) bc
    else hiStep a b na nb out mg (na - t) bc
  | _ => pure (.done (some (hiDone a b out na nb), na, nb, out, mg, ac, bc))
noncomputable def hiTurn (na nb : Nat) (out : Array Keyed) (mg : Nat) : StateT SortSt Sem (ForInStep (Option (Array Keyed) × Nat × Nat × Array Keyed × Nat)) := do
  let c ← forIn [0:a.size + b.size] ((none, na, nb, out, 0, 0) : H6) fun _ c => hi1 a b mg c.2.1 c.2.2.1 c.2.2.2.1 c.2.2.2.2.1 c.2.2.2.2.2
  match c.1 with
  | some r => pure (.done (some r, c.2.1, c.2.2.1, c.2.2.2.1, mg))
  | none => do
    liftM (rule "list.sort.gallop")
    let d ← forIn [0:a.size + b.size] ((none, c.2.1, c.2.2.1, c.2.2.2.1, mg + 1, c.2.2.2.2.1, c.2.2.2.2.2) : H7) fun _ d =>
      if d.2.2.2.2.1 > 1 then hi2 a b d.2.1 d.2.2.1 d.2.2.2.1 (d.2.2.2.2.1 - 1) d.2.2.2.2.2.1 d.2.2.2.2.2.2 else hi2 a b d.2.1 d.2.2.1 d.2.2.2.1 d.2.2.2.2.1 d.2.2.2.2.2.1 d.2.2.2.2.2.2
    match d.1 with
    | some r => pure (.done (some r, d.2.1, d.2.2.1, d.2.2.2.1, d.2.2.2.2.1))
    | none => do
      setMg (d.2.2.2.2.1 + 1)
      pure (.yield (none, d.2.1, d.2.2.1, d.2.2.2.1, d.2.2.2.2.1 + 1))
end
set_option smartUnfolding false in
set_option maxHeartbeats 400000 in
theorem hi_eq (a b : Array Keyed) : mergeHi' a b = (do
    liftM (rule "list.sort.merge-hi")
    let z ← elem' a (a.size - 1)
    if (a.size - 1 == 0) = true then pure (hiDone a b #[z] (a.size - 1) b.size)
    else if (b.size == 1) = true then pure (hiLast a b #[z] (a.size - 1) b.size)
    else do
      let g ← get
      let c ← forIn [0:a.size + b.size] ((none, a.size - 1, b.size, #[z], gallopOf g) : Option (Array Keyed) × Nat × Nat × Array Keyed × Nat) fun _ c => hiTurn a b c.2.1 c.2.2.1 c.2.2.2.1 c.2.2.2.2
      match c.1 with
      | some r => pure r
      | none => liftM (unsupported (α := Array Keyed) "internal:list.sort.merge-bound")) := by with_unfolding_all rfl
section
variable {rk : Keyed → Nat}
/-- the merge from above -/
noncomputable def Hi (rk : Keyed → Nat) (a b : Array Keyed) (out : Array Keyed) (na nb : Nat) : Prop := Mg (fun x y => rle rk y x) (a.toList ++ b.toList) out.toList (a.toList.take na).reverse (b.toList.take nb).reverse
theorem in_take {a : Array Keyed} {i : Nat} {x : Keyed} (h : x ∈ (a.toList.take i).reverse) : ∃ j, j < i ∧ j < a.size ∧ R rk a j = rk x := by
  rw [List.mem_reverse] at h
  obtain ⟨j, hj, rfl⟩ := List.mem_iff_getElem.mp h
  rw [List.length_take, Array.length_toList] at hj
  refine ⟨j, by (first | lia | omega), by (first | lia | omega), ?_⟩
  rw [List.getElem_take]
  exact R_some (by simp)
theorem Hi.addA {a b out : Array Keyed} {na nb na' : Nat} (h : Hi rk a b out na nb) (h1 : na' ≤ na) (h2 : na ≤ a.size) (hc : ∀ i, na' ≤ i → i < na → ∀ j, j < nb → j < b.size → R rk b j ≤ R rk a i) :
    Hi rk a b (out ++ (a.extract na' na).reverse) na' nb := by
  unfold Hi at h ⊢
  rw [take_chunk h1 h2, List.reverse_append] at h
  rw [Array.toList_append, Array.toList_reverse]
  refine Mg.addA h fun x hx y hy => ?_
  obtain ⟨i, a1, a2, a3, a4⟩ := in_chunk (rk := rk) (List.mem_reverse.mp hx)
  obtain ⟨j, b1, b2, b3⟩ := in_take (rk := rk) hy
  have := hc i a1 a2 j b1 b2
  unfold rle; (first | lia | omega)
theorem Hi.addB {a b out : Array Keyed} {na nb nb' : Nat} (h : Hi rk a b out na nb) (h1 : nb' ≤ nb) (h2 : nb ≤ b.size) (hc : ∀ i, nb' ≤ i → i < nb → ∀ j, j < na → j < a.size → R rk a j ≤ R rk b i) :
    Hi rk a b (out ++ (b.extract nb' nb).reverse) na nb' := by
  unfold Hi at h ⊢
  rw [take_chunk h1 h2, List.reverse_append] at h
  rw [Array.toList_append, Array.toList_reverse]
  refine Mg.addB h fun x hx y hy => ?_
  obtain ⟨i, a1, a2, a3, a4⟩ := in_chunk (rk := rk) (List.mem_reverse.mp hx)
  obtain ⟨j, b1, b2, b3⟩ := in_take (rk := rk) hy
  have := hc i a1 a2 j b1 b2
  unfold rle; (first | lia | omega)
theorem push_chunkR {out a : Array Keyed} {i j : Nat} {p : Keyed} (h : a[i]? = some p) (hj : i + 1 = j) : out.push p = out ++ (a.extract i j).reverse := by
  apply Array.ext'
  rw [Array.toList_push, Array.toList_append, Array.toList_reverse, ← hj, chunk_one h]; rfl
theorem chunk0 {a : Array Keyed} {i : Nat} : (a.extract 0 i).toList = a.toList.take i := by
  rw [Array.toList_extract, List.extract_eq_take_drop]; rfl
theorem Hi.end {a b out : Array Keyed} {na nb : Nat} (h : Hi rk a b out na nb) (hc : ∀ x ∈ (b.toList.take nb).reverse, ∀ y ∈ (a.toList.take na).reverse, rle rk y x) : Res rk a b (hiDone a b out na nb) := by
  unfold Res hiDone; unfold Hi at h
  obtain ⟨p, q⟩ := Mg.fin (Mg.swap h) hc
  rw [Array.toList_append, Array.toList_append, chunk0, chunk0, Array.toList_reverse]
  have e : (out.toList ++ ((b.toList.take nb).reverse ++ (a.toList.take na).reverse)).reverse = a.toList.take na ++ b.toList.take nb ++ out.toList.reverse := by simp
  rw [← e]
  exact ⟨(List.reverse_perm _).trans p, List.pairwise_reverse.mpr q⟩
theorem Hi.fin {a b out : Array Keyed} {na nb : Nat} (h : Hi rk a b out na nb) (hc : na = 0 ∨ nb = 0) : Res rk a b (hiDone a b out na nb) := by
  refine Hi.end h fun x hx y hy => ?_
  rcases hc with rfl | rfl
  · simp at hy
  · simp at hx
theorem Hi.last {a b out : Array Keyed} {na nb : Nat} (h : Hi rk a b out na nb) (hn : nb = 1) (hc : ∀ i, i < a.size → R rk b 0 ≤ R rk a i) : Res rk a b (hiLast a b out na nb) := by
  unfold Res hiLast; unfold Hi at h
  obtain ⟨p, q⟩ := Mg.fin h fun x hx y hy => by
    obtain ⟨i, a1, a2, a3⟩ := in_take (rk := rk) hx
    obtain ⟨j, b1, b2, b3⟩ := in_take (rk := rk) hy
    have := hc i a2
    rw [show 0 = j by (first | lia | omega)] at this
    unfold rle; (first | lia | omega)
  rw [Array.toList_append, Array.toList_append, chunk0, chunk0, Array.toList_reverse]
  have e : (out.toList ++ ((a.toList.take na).reverse ++ (b.toList.take nb).reverse)).reverse = b.toList.take nb ++ a.toList.take na ++ out.toList.reverse := by simp
  rw [← e]
  exact ⟨(List.reverse_perm _).trans p, List.pairwise_reverse.mpr q⟩
end

end
/-! part Tim8 -/
section
noncomputable def HiP (rk : Keyed → Nat) (a b : Array Keyed) (N : Nat) (r : Option (Array Keyed)) (na nb : Nat) (out : Array Keyed) : Prop :=
  match r with
  | some r => Res rk a b r
  | none => Hi rk a b out na nb ∧ (1 ≤ na ∧ na ≤ a.size) ∧ (2 ≤ nb ∧ nb ≤ b.size) ∧ na + nb + N ≤ a.size + b.size
theorem HiP.mk {rk : Keyed → Nat} {a b out : Array Keyed} {N na nb : Nat} (L : Hi rk a b out na nb) (h1 : 1 ≤ na ∧ na ≤ a.size) (h2 : 2 ≤ nb ∧ nb ≤ b.size) (h3 : na + nb + N ≤ a.size + b.size) : HiP rk a b N none na nb out := ⟨L, h1, h2, h3⟩
section
variable {w : World} {A : Around} {E : Value → Shared → Prop} {s : Shared} {a₀ a b out : Array Keyed} {rk : Keyed → Nat} {st : SortSt} {na nb N : Nat}
theorem thi1 (C : MC w A s a₀ rk a b) (hk : kindOf st = oneType') (L : Hi rk a b out na nb) (ha : 1 ≤ na ∧ na ≤ a.size) (hb : 2 ≤ nb ∧ nb ≤ b.size) (hN : na + nb + N ≤ a.size + b.size) {mg ac bc : Nat} :
    wpS (model PG w) A E s (hi1 a b mg na nb out ac bc) (fun r st' => st' = st ∧ match r with
      | .done c => HiP rk a b (N + 1) c.1 c.2.1 c.2.2.1 c.2.2.2.1
      | .yield c => c.1 = none ∧ HiP rk a b (N + 1) none c.2.1 c.2.2.1 c.2.2.2.1) st := by
  obtain ⟨y, ey, my, ry⟩ := mem_of (rk := rk) C.mb (i := nb - 1) (by (first | lia | omega))
  obtain ⟨x, ex, mx, rx⟩ := mem_of (rk := rk) C.ma (i := na - 1) (by (first | lia | omega))
  unfold hi1
  refine wpS_bind (telem ey (wpS_bind (telem ex (wpS_bind (tlt C.lt hk my mx ?_)))))
  by_cases hv : rk y < rk x
  · simp only [hv, decide_true, if_true]
    refine wpS_bind (telem ex ?_)
    rw [push_chunkR (j := na) ex (by (first | lia | omega))]
    have L' := Hi.addA L (na' := na - 1) (by (first | lia | omega)) (by (first | lia | omega)) (fun i h1 h2 j h3 h4 => by
      have e : i = na - 1 := by (first | lia | omega)
      rw [e]
      have := C.sb j (nb - 1) (by (first | lia | omega)) (by (first | lia | omega)) (by (first | lia | omega))
      (first | lia | omega))
    by_cases e1 : na - 1 = 0
    · rw [if_pos (beq_iff_eq.mpr e1)]
      exact wpS_pure ⟨rfl, Hi.fin L' (.inl e1)⟩
    · rw [if_neg (fun q => e1 (beq_iff_eq.mp q))]
      have P := HiP.mk (N := N + 1) L' (by (first | lia | omega)) hb (by (first | lia | omega))
      split
      · exact wpS_pure ⟨rfl, P⟩
      · exact wpS_pure ⟨rfl, rfl, P⟩
  · simp only [hv, decide_false, Bool.false_eq_true, if_false]
    refine wpS_bind (telem ey ?_)
    rw [push_chunkR (j := nb) ey (by (first | lia | omega))]
    have L' := Hi.addB L (nb' := nb - 1) (by (first | lia | omega)) (by (first | lia | omega)) (fun i h1 h2 j h3 h4 => by
      have e : i = nb - 1 := by (first | lia | omega)
      rw [e]
      have := C.sa j (na - 1) (by (first | lia | omega)) (by (first | lia | omega)) (by (first | lia | omega))
      (first | lia | omega))
    by_cases e1 : nb - 1 = 1
    · rw [if_pos (beq_iff_eq.mpr e1)]
      exact wpS_pure ⟨rfl, Hi.last L' e1 C.low⟩
    · rw [if_neg (fun q => e1 (beq_iff_eq.mp q))]
      have P := HiP.mk (N := N + 1) L' ha (by (first | lia | omega)) (by (first | lia | omega))
      split
      · exact wpS_pure ⟨rfl, P⟩
      · exact wpS_pure ⟨rfl, rfl, P⟩
noncomputable def HiQ (rk : Keyed → Nat) (a b : Array Keyed) (N : Nat) (st : SortSt) (r : ForInStep H7) (st' : SortSt) : Prop :=
  Same st st' ∧ match r with
      | .done c => HiP rk a b N c.1 c.2.1 c.2.2.1 c.2.2.2.1
      | .yield c => c.1 = none ∧ HiP rk a b N none c.2.1 c.2.2.1 c.2.2.2.1
theorem thi4 (C : MC w A s a₀ rk a b) (L : Hi rk a b out na nb) (ha : 1 ≤ na ∧ na ≤ a.size) (hb : 2 ≤ nb ∧ nb ≤ b.size) (hx : ∀ j, j < nb → j < b.size → R rk b j ≤ R rk a (na - 1)) (hN : na + nb + N ≤ a.size + b.size) {mg ac bc : Nat} :
    wpS (model PG w) A E s (hi4 a b na nb out mg ac bc) (HiQ rk a b N st) st := by
  obtain ⟨x, ex, mx, rx⟩ := mem_of (rk := rk) C.ma (i := na - 1) (by (first | lia | omega))
  unfold hi4
  refine wpS_bind (telem ex ?_)
  rw [push_chunkR (j := na) ex (by (first | lia | omega))]
  have L' := Hi.addA L (na' := na - 1) (by (first | lia | omega)) (by (first | lia | omega)) (fun i h1 h2 j h3 h4 => by
      have e : i = na - 1 := by (first | lia | omega)
      rw [e]
      exact hx j h3 h4)
  by_cases e1 : na - 1 = 0
  · rw [if_pos (beq_iff_eq.mpr e1)]
    exact wpS_pure ⟨Same.rfl', Hi.fin L' (.inl e1)⟩
  · rw [if_neg (fun q => e1 (beq_iff_eq.mp q))]
    have P := HiP.mk (N := N) L' (by (first | lia | omega)) hb (by (first | lia | omega))
    split
    · exact wpS_pure ⟨Same.rfl', P⟩
    · exact wpS_pure ⟨Same.rfl', rfl, P⟩
theorem thi3 (C : MC w A s a₀ rk a b) (hk : kindOf st = oneType') (L : Hi rk a b out na nb) (ha : 1 ≤ na ∧ na ≤ a.size) (hb : 2 ≤ nb ∧ nb ≤ b.size) (hx : ∀ j, j < na → j < a.size → R rk a j ≤ R rk b (nb - 1)) (hN : na + nb + N ≤ a.size + b.size) {mg ac bc : Nat} :
    wpS (model PG w) A E s (hiStep a b na nb out mg ac bc) (HiQ rk a b N st) st := by
  obtain ⟨y, ey, my, ry⟩ := mem_of (rk := rk) C.mb (i := nb - 1) (by (first | lia | omega))
  obtain ⟨x, ex, mx, rx⟩ := mem_of (rk := rk) C.ma (i := na - 1) (by (first | lia | omega))
  unfold hiStep
  refine wpS_bind (telem ey ?_)
  rw [push_chunkR (j := nb) ey (by (first | lia | omega))]
  have L' := Hi.addB L (nb' := nb - 1) (by (first | lia | omega)) (by (first | lia | omega)) (fun i h1 h2 j h3 h4 => by
      have e : i = nb - 1 := by (first | lia | omega)
      rw [e]
      exact hx j h3 h4)
  by_cases e1 : nb - 1 = 1
  · rw [if_pos (beq_iff_eq.mpr e1)]
    exact wpS_pure ⟨Same.rfl', Hi.last L' e1 C.low⟩
  · rw [if_neg (fun q => e1 (beq_iff_eq.mp q))]
    refine wpS_bind (telem ex ?_)
    refine wpS_bind (tgal C.lt hk C.mb mx (by (first | lia | omega)) (by (first | lia | omega)) (fun i j h1 h2 h3 => C.sb i j (by (first | lia | omega)) h2 (by (first | lia | omega))) fun t hkn h1 _ => ?_)
    obtain ⟨g1, g2⟩ := h1 rfl
    rw [Nat.zero_add] at g1 g2
    rw [Nat.zero_add] at g2
    dsimp only
    by_cases hk0 : nb - 1 - t > 0
    · rw [if_pos hk0]
      have L2 := Hi.addB L' (nb' := t) (by (first | lia | omega)) (by (first | lia | omega)) (fun i h1 h2 j h3 h4 => by
        have a1 := g2 i h1 h2
        have a2 := C.sa j (na - 1) (by (first | lia | omega)) (by (first | lia | omega)) (by (first | lia | omega))
        (first | lia | omega))
      by_cases e2 : t = 1
      · rw [if_pos (beq_iff_eq.mpr e2)]
        exact wpS_pure ⟨Same.rfl', Hi.last L2 e2 C.low⟩
      · rw [if_neg (fun q => e2 (beq_iff_eq.mp q))]
        by_cases e3 : t = 0
        · rw [if_pos (beq_iff_eq.mpr e3)]
          exact wpS_pure ⟨Same.rfl', Hi.fin L2 (.inr e3)⟩
        · rw [if_neg (fun q => e3 (beq_iff_eq.mp q))]
          exact thi4 C L2 ha (by (first | lia | omega)) (fun j h1 h2 => by have := g1 j (by (first | lia | omega)) h1; (first | lia | omega)) (by (first | lia | omega))
    · rw [if_neg hk0]
      exact thi4 C L' ha (by (first | lia | omega)) (fun j h1 h2 => by have := g1 j (by (first | lia | omega)) (by (first | lia | omega)); (first | lia | omega)) (by (first | lia | omega))
theorem thi2 (C : MC w A s a₀ rk a b) (hk : kindOf st = oneType') (L : Hi rk a b out na nb) (ha : 1 ≤ na ∧ na ≤ a.size) (hb : 2 ≤ nb ∧ nb ≤ b.size) (hN : na + nb + N ≤ a.size + b.size) {mg ac bc : Nat} :
    wpS (model PG w) A E s (hi2 a b na nb out mg ac bc) (HiQ rk a b N st) st := by
  obtain ⟨y, ey, my, ry⟩ := mem_of (rk := rk) C.mb (i := nb - 1) (by (first | lia | omega))
  unfold hi2
  refine wpS_bind (tmg fun st1 S1 => ?_)
  have hk1 : kindOf st1 = oneType' := S1.1.trans hk
  refine wpS_bind (telem ey ?_)
  refine wpS_bind (tgal C.lt hk1 C.ma my (by (first | lia | omega)) (by (first | lia | omega)) (fun i j h1 h2 h3 => C.sa i j (by (first | lia | omega)) h2 (by (first | lia | omega))) fun t hkn _ h1 => ?_)
  obtain ⟨g1, g2⟩ := h1 rfl
  rw [Nat.zero_add] at g1 g2
  rw [Nat.zero_add] at g2
  dsimp only
  by_cases hk0 : na - t > 0
  · rw [if_pos hk0]
    have L2 := Hi.addA L (na' := t) (by (first | lia | omega)) (by (first | lia | omega)) (fun i h1 h2 j h3 h4 => by
        have a1 := g2 i h1 h2
        have a2 := C.sb j (nb - 1) (by (first | lia | omega)) (by (first | lia | omega)) (by (first | lia | omega))
        (first | lia | omega))
    by_cases e2 : t = 0
    · rw [if_pos (beq_iff_eq.mpr e2)]
      exact wpS_pure ⟨S1, Hi.fin L2 (.inl e2)⟩
    · rw [if_neg (fun q => e2 (beq_iff_eq.mp q))]
      exact wpS_mono (thi3 C (N := N) hk1 L2 (by (first | lia | omega)) hb (fun j h1 h2 => by have := g1 j (by (first | lia | omega)) h1; (first | lia | omega)) (by (first | lia | omega))) fun r st' h => ⟨S1.trans h.1, h.2⟩
  · rw [if_neg hk0]
    exact wpS_mono (thi3 C (N := N) hk1 L ha hb (fun j h1 h2 => by have := g1 j (by (first | lia | omega)) (by (first | lia | omega)); (first | lia | omega)) (by (first | lia | omega))) fun r st' h => ⟨S1.trans h.1, h.2⟩
theorem thiTurn (C : MC w A s a₀ rk a b) (hk : kindOf st = oneType') (L : Hi rk a b out na nb) (ha : 1 ≤ na ∧ na ≤ a.size) (hb : 2 ≤ nb ∧ nb ≤ b.size) (hN : na + nb + N ≤ a.size + b.size) {mg : Nat} :
    wpS (model PG w) A E s (hiTurn a b na nb out mg) (fun r st' => Same st st' ∧ match r with
      | .done c => ∃ r, c.1 = some r ∧ Res rk a b r
      | .yield c => c.1 = none ∧ HiP rk a b (N + 1) none c.2.1 c.2.2.1 c.2.2.2.1) st := by
  unfold hiTurn
  refine wpS_bind (wpS_mono (wpS_forRange
    (I := fun x c st' => st' = st ∧ c.1 = none ∧ HiP rk a b (N + (if x = 0 then 0 else 1)) none c.2.1 c.2.2.1 c.2.2.2.1)
    (Q := fun c st' => st' = st ∧ HiP rk a b (N + 1) c.1 c.2.1 c.2.2.1 c.2.2.2.1) ?step ?fin ⟨rfl, rfl, L, ha, hb, by simpa using hN⟩) ?post)
  case fin =>
    rintro ⟨r, i, j, o, x, y⟩ st' ⟨rfl, rfl, h⟩
    rw [if_neg (by (first | lia | omega))] at h
    exact ⟨rfl, h⟩
  case step =>
    rintro x ⟨r, i, j, o, ac, bc⟩ st' _ hx ⟨rfl, rfl, h1, h2, h3, h4⟩
    dsimp only at h1 h2 h3 h4
    refine wpS_mono (thi1 C hk h1 h2 h3 (N := N) (by (first | lia | omega))) fun r st'' h => ?_
    obtain ⟨rfl, h⟩ := h
    cases r with
    | done c => exact ⟨rfl, h⟩
    | yield c =>
      refine ⟨rfl, h.1, h.2.1, h.2.2.1, h.2.2.2.1, ?_⟩
      rw [if_neg (by (first | lia | omega))]
      exact h.2.2.2.2
  case post =>
    rintro ⟨r, i, j, o, ac, bc⟩ st' ⟨rfl, h⟩
    cases r with
    | some r => exact wpS_pure ⟨Same.rfl', r, rfl, h⟩
    | none =>
      obtain ⟨h1, h2, h3, h4⟩ := h
      dsimp only at h1 h2 h3 h4 ⊢
      refine wpS_bind (wpS_lift (wpAny_rule ⟨rfl, ?_⟩))
      refine wpS_bind (wpS_mono (wpS_forRange
        (I := fun x c st'' => Same st' st'' ∧ c.1 = none ∧ HiP rk a b (N + 1) none c.2.1 c.2.2.1 c.2.2.2.1)
        (Q := fun c st'' => Same st' st'' ∧ HiP rk a b (N + 1) c.1 c.2.1 c.2.2.1 c.2.2.2.1) ?step2 ?fin2 ⟨Same.rfl', rfl, h1, h2, h3, h4⟩) ?post2)
      case fin2 =>
        rintro ⟨r, i, j, o, m, x, y⟩ st'' ⟨S, rfl, h⟩
        exact ⟨S, h⟩
      case step2 =>
        rintro x ⟨r, i, j, o, m, ac, bc⟩ st'' _ hx ⟨S, rfl, h1, h2, h3, h4⟩
        have hk2 : kindOf st'' = oneType' := S.1.trans hk
        have key : ∀ mg, wpS (model PG w) A E s (hi2 a b i j o mg ac bc) (fun r st3 => match r with
            | .done c => Same st' st3 ∧ HiP rk a b (N + 1) c.1 c.2.1 c.2.2.1 c.2.2.2.1
            | .yield c => Same st' st3 ∧ c.1 = none ∧ HiP rk a b (N + 1) none c.2.1 c.2.2.1 c.2.2.2.1) st'' := fun mg => by
          refine wpS_mono (thi2 C hk2 h1 h2 h3 h4) fun r st3 h => ?_
          cases r with
          | done c => exact ⟨S.trans h.1, h.2⟩
          | yield c => exact ⟨S.trans h.1, h.2⟩
        dsimp only
        split
        · exact wpS_mono (key _) fun r st3 h => by cases r <;> exact h
        · exact wpS_mono (key _) fun r st3 h => by cases r <;> exact h
      case post2 =>
        rintro ⟨r, i, j, o, m, ac, bc⟩ st'' ⟨S, h⟩
        cases r with
        | some r => exact wpS_pure ⟨S, r, rfl, h⟩
        | none =>
          refine wpS_bind (tmg fun st3 S3 => wpS_pure ⟨S.trans S3, rfl, h⟩)
theorem thi (C : MC w A s a₀ rk a b) (hk : kindOf st = oneType') (ha : 0 < a.size) (hb : 0 < b.size) {Q : Array Keyed → SortSt → Prop} (h : ∀ r st', Same st st' → Res rk a b r → Q r st') :
    wpS (model PG w) A E s (mergeHi' a b) Q st := by
  rw [hi_eq]
  refine wpS_bind (wpS_lift (wpAny_rule ⟨rfl, ?_⟩))
  obtain ⟨y, ey, my, ry⟩ := mem_of (rk := rk) C.ma (i := a.size - 1) (by (first | lia | omega))
  refine wpS_bind (telem ey ?_)
  have L0 : Hi rk a b #[] a.size b.size := by
    have ta : a.toList.take a.size = a.toList := List.take_of_length_le (by simp)
    have tb : b.toList.take b.size = b.toList := List.take_of_length_le (by simp)
    refine ⟨?_, ?_, ?_⟩
    · rw [ta, tb]
      show (a.toList.reverse ++ b.toList.reverse).Perm _
      exact List.Perm.append (List.reverse_perm _) (List.reverse_perm _)
    · rw [ta]; exact List.pairwise_reverse.mpr (seg_pw C.sa)
    · rw [tb]; exact List.pairwise_reverse.mpr (seg_pw C.sb)
  have L : Hi rk a b #[y] (a.size - 1) b.size := by
    have := Hi.addA L0 (na' := a.size - 1) (by (first | lia | omega)) (by (first | lia | omega)) (fun i h1 h2 j h3 h4 => by
      have e : i = a.size - 1 := by (first | lia | omega)
      rw [e]; exact C.top j h4)
    rwa [show (#[] : Array Keyed) ++ (a.extract (a.size - 1) a.size).reverse = #[y] from (push_chunkR (out := #[]) (j := a.size) ey (by (first | lia | omega))).symm] at this
  by_cases e1 : a.size - 1 = 0
  · rw [if_pos (beq_iff_eq.mpr e1)]
    exact wpS_pure (h _ _ Same.rfl' (Hi.fin L (.inl e1)))
  · rw [if_neg (fun q => e1 (beq_iff_eq.mp q))]
    by_cases e2 : b.size = 1
    · rw [if_pos (beq_iff_eq.mpr e2)]
      exact wpS_pure (h _ _ Same.rfl' (Hi.last L e2 C.low))
    · rw [if_neg (fun q => e2 (beq_iff_eq.mp q))]
      refine wpS_bind (wpS_get ?_)
      have P := HiP.mk (N := 0 + 1) L (by (first | lia | omega)) (by (first | lia | omega)) (by (first | lia | omega))
      refine wpS_bind (wpS_mono (wpS_forRange
        (I := fun x c st' => Same st st' ∧ c.1 = none ∧ HiP rk a b (x + 1) none c.2.1 c.2.2.1 c.2.2.2.1)
        (Q := fun c st' => Same st st' ∧ ∃ r, c.1 = some r ∧ Res rk a b r) ?step ?fin ⟨Same.rfl', rfl, P⟩) ?post)
      case fin =>
        rintro ⟨r, i, j, o, m⟩ st' ⟨S, rfl, h1, h2, h3, h4⟩
        dsimp only at h2 h3 h4
        (first | lia | omega)
      case step =>
        rintro x ⟨r, i, j, o, m⟩ st' _ hx ⟨S, rfl, h1, h2, h3, h4⟩
        dsimp only at h1 h2 h3 h4
        refine wpS_mono (thiTurn C (S.1.trans hk) h1 h2 h3 h4) fun r st'' h => ?_
        cases r with
        | done c => exact ⟨S.trans h.1, h.2⟩
        | yield c => exact ⟨S.trans h.1, h.2.1, h.2.2⟩
      case post =>
        rintro ⟨r, i, j, o, m⟩ st' ⟨S, r', e, hr⟩
        cases e
        exact wpS_pure (h _ _ S hr)
end

end
/-! part Tim9 -/
section
theorem put_chunk (c : Nat) : ∀ (l : List Keyed) (off : Nat) (acc : Array Keyed), c + off + l.length ≤ acc.size →
    ((l.zipIdx off).foldl (fun a (x : Keyed × Nat) => a.setIfInBounds (c + x.2) x.1) acc).toList = acc.toList.take (c + off) ++ l ++ acc.toList.drop (c + off + l.length)
  | [], off, acc, _ => by simp
  | p :: l, off, acc, h => by
    rw [List.length_cons] at h
    rw [List.zipIdx_cons, List.foldl_cons, put_chunk c l (off + 1) _ (by rw [Array.size_setIfInBounds]; (first | lia | omega))]
    rw [Array.toList_setIfInBounds, List.length_cons]
    have e1 : (acc.toList.set (c + off) p).take (c + (off + 1)) = acc.toList.take (c + off) ++ [p] := by
      rw [← Nat.add_assoc, List.take_add_one, List.take_set_of_le (Nat.le_refl _), List.getElem?_set_self (by simpa using by (first | lia | omega))]
      rfl
    have e2 : (acc.toList.set (c + off) p).drop (c + (off + 1) + l.length) = acc.toList.drop (c + off + (l.length + 1)) := by
      rw [List.drop_set_of_lt (by (first | lia | omega))]
      congr 1; (first | lia | omega)
    rw [e1, e2]
    simp
section
variable {rk : Keyed → Nat}
theorem R_chunk {xs : Array Keyed} {i j m : Nat} (h : i + m < j) (hj : j ≤ xs.size) : R rk (xs.extract i j) m = R rk xs (i + m) := by
  refine R_of ?_
  rw [Array.getElem?_extract, if_pos (by (first | lia | omega))]
theorem mem_chunk {xs : Array Keyed} {i j : Nat} {p : Keyed} (h : p ∈ (xs.extract i j).toList) : p ∈ xs.toList := by
  rw [Array.toList_extract, List.extract_eq_take_drop] at h
  exact List.mem_of_mem_drop (List.mem_of_mem_take h)
/-- the merged row put back in its place -/
theorem back_in {xs m zs : Array Keyed} {k n1 e : Nat} (hk : k ≤ n1) (hn : n1 ≤ e) (he : e ≤ xs.size) (hr : Res rk (xs.extract k n1) (xs.extract n1 e) m)
    (s1 : Seg rk xs 0 n1) (s2 : Seg rk xs n1 xs.size) (g1 : ∀ i, i < k → R rk xs i ≤ R rk xs n1) (g2 : ∀ i, e ≤ i → i < xs.size → R rk xs (n1 - 1) ≤ R rk xs i) (hkn : k < n1) (hne : n1 < e)
    (hz : zs.toList = xs.toList.take k ++ m.toList ++ xs.toList.drop e) : zs.toList.Perm xs.toList ∧ zs.toList.Pairwise (rle rk) := by
  have e0 : xs.toList = xs.toList.take k ++ ((xs.extract k n1).toList ++ (xs.extract n1 e).toList) ++ xs.toList.drop e := by
    conv => lhs; rw [← List.take_append_drop e xs.toList, take_chunk hn he, take_chunk hk (by (first | lia | omega))]
    simp
  have inM : ∀ x, x ∈ m.toList → ∃ i, k ≤ i ∧ i < e ∧ R rk xs i = rk x := fun x hx => by
    rcases List.mem_append.mp (hr.1.mem_iff.mp hx) with h | h
    · obtain ⟨i, a1, a2, _, a4⟩ := in_chunk (rk := rk) h; exact ⟨i, a1, by (first | lia | omega), a4⟩
    · obtain ⟨i, a1, a2, _, a4⟩ := in_chunk (rk := rk) h; exact ⟨i, by (first | lia | omega), a2, a4⟩
  have inT : ∀ x, x ∈ xs.toList.take k → ∃ i, i < k ∧ R rk xs i = rk x := fun x hx => by
    obtain ⟨i, a1, _, a3⟩ := in_take (rk := rk) (List.mem_reverse.mpr hx); exact ⟨i, a1, a3⟩
  constructor
  · rw [hz]
    conv => rhs; rw [e0]
    exact (hr.1.append_left _).append_right _
  · rw [hz]
    refine List.pairwise_append.mpr ⟨List.pairwise_append.mpr ⟨?_, hr.2, ?_⟩, ?_, ?_⟩
    · rw [List.pairwise_iff_getElem]
      intro i j hi hj hij
      rw [List.length_take, Array.length_toList] at hi hj
      have := s1 i j (Nat.zero_le _) (Nat.le_of_lt hij) (by (first | lia | omega))
      rw [List.getElem_take, List.getElem_take]
      rwa [R_some (p := xs.toList[i]'(by simp; (first | lia | omega))) (by simp), R_some (p := xs.toList[j]'(by simp; (first | lia | omega))) (by simp)] at this
    · intro x hx y hy
      obtain ⟨i, a1, a2⟩ := inT x hx
      obtain ⟨j, b1, b2, b3⟩ := inM y hy
      unfold rle
      by_cases hj : j < n1
      · have := s1 i j (Nat.zero_le _) (by (first | lia | omega)) hj; (first | lia | omega)
      · have := g1 i a1
        have := s2 n1 j (Nat.le_refl _) (by (first | lia | omega)) (by (first | lia | omega))
        (first | lia | omega)
    · rw [List.pairwise_iff_getElem]
      intro i j hi hj hij
      rw [List.length_drop, Array.length_toList] at hi hj
      have := s2 (e + i) (e + j) (by (first | lia | omega)) (by (first | lia | omega)) (by (first | lia | omega))
      rw [List.getElem_drop, List.getElem_drop]
      rwa [R_some (p := xs.toList[e + i]'(by simp; (first | lia | omega))) (by simp), R_some (p := xs.toList[e + j]'(by simp; (first | lia | omega))) (by simp)] at this
    · intro x hx y hy
      obtain ⟨j, b1, b2, b3⟩ := in_drop (rk := rk) hy
      unfold rle
      have g := g2 j b1 b2
      rcases List.mem_append.mp hx with hx | hx
      · obtain ⟨i, a1, a2⟩ := inT x hx
        have := g1 i a1
        have := s2 n1 j (Nat.le_refl _) (by (first | lia | omega)) b2
        (first | lia | omega)
      · obtain ⟨i, a1, a2, a3⟩ := inM x hx
        by_cases hi : i < n1
        · have := s1 i (n1 - 1) (Nat.zero_le _) (by (first | lia | omega)) (by (first | lia | omega)); (first | lia | omega)
        · have := s2 i j (by (first | lia | omega)) (by (first | lia | omega)) b2; (first | lia | omega)
end
section
variable {w : World} {A : Around} {E : Value → Shared → Prop} {s : Shared} {a₀ xs : Array Keyed} {rk : Keyed → Nat}
theorem tset {M : Model} {σ : Type} {x : σ} {Q : PUnit → σ → Prop} {st : σ} (h : Q ⟨⟩ x) : wpS M A E s (set x : StateT σ Sem PUnit) Q st := by
  unfold wpS; rw [StateT.run_set]; exact wpAny_pure ⟨rfl, h⟩
theorem tmerge {n1 n2 pw g : Nat} {Q : Bool → SortSt → Prop} (hO : LtOk w A s a₀ rk) (hp : xs.Perm a₀) (h1 : 0 < n1) (h2 : 0 < n2) (hs : n1 + n2 = xs.size) (s1 : Seg rk xs 0 n1) (s2 : Seg rk xs n1 xs.size)
    (h : ∀ st', (arrOf st').Perm a₀ → failedOf st' = none → pendingOf st' = #[(0, n1 + n2, pw)] → (arrOf st').toList.Pairwise (rle rk) → Q true st') :
    wpS (model PG w) A E s (mergeAt' 0) Q (SortSt.mk' oneType' xs #[(0, n1, pw), (n1, n2, 0)] g none) := by
  have hm : ∀ p, p ∈ xs.toList → p ∈ a₀.toList := fun p hp' => (Array.perm_iff_toList_perm.mp hp).mem_iff.mp hp'
  refine wpS_bind (wpS_get ?_)
  refine wpS_bind (tset ?_)
  obtain ⟨y, ey, my, ry⟩ := mem_of (rk := rk) hm (i := n1) (by (first | lia | omega))
  refine wpS_bind (telem ey ?_)
  refine wpS_bind (tgal hO rfl hm my (by show 0 + n1 ≤ xs.size; (first | lia | omega)) (by (first | lia | omega)) (by rw [Nat.zero_add]; exact s1) fun k hkn _ hg => ?_)
  obtain ⟨g1, g2⟩ := hg rfl
  simp only [Nat.zero_add] at g1 g2
  dsimp only
  have whole : (∀ i j, i < n1 → n1 ≤ j → j < xs.size → R rk xs i ≤ R rk xs j) → xs.toList.Pairwise (rle rk) := fun hc => seg_pw fun i j _ hij hj => by
    by_cases a1 : j < n1
    · exact s1 i j (Nat.zero_le _) hij a1
    · by_cases a2 : i < n1
      · exact hc i j a2 (by (first | lia | omega)) hj
      · exact s2 i j (by (first | lia | omega)) hij hj
  by_cases e1 : n1 - k = 0
  · rw [if_pos (beq_iff_eq.mpr e1)]
    refine wpS_pure (h _ hp rfl (by simp) (whole fun i j a1 a2 a3 => ?_))
    have := g1 i (by (first | lia | omega)) (by (first | lia | omega))
    have := s2 n1 j (Nat.le_refl _) a2 a3
    (first | lia | omega)
  · rw [if_neg (fun q => e1 (beq_iff_eq.mp q))]
    obtain ⟨x, ex, mx, rx⟩ := mem_of (rk := rk) hm (i := 0 + k + (n1 - k) - 1) (by (first | lia | omega))
    refine wpS_bind (telem ex ?_)
    rw [show 0 + k + (n1 - k) - 1 = n1 - 1 by (first | lia | omega)] at rx
    refine wpS_bind (tgal hO rfl hm mx (by show n1 + n2 ≤ xs.size; (first | lia | omega)) (by (first | lia | omega)) (by rw [hs]; exact s2) fun t htn hg _ => ?_)
    obtain ⟨f1, f2⟩ := hg rfl
    rw [hs] at f2
    dsimp only
    by_cases e2 : t = 0
    · rw [if_pos (beq_iff_eq.mpr e2)]
      refine wpS_pure (h _ hp rfl (by simp) (whole fun i j a1 a2 a3 => ?_))
      have := s1 i (n1 - 1) (by (first | lia | omega)) (by (first | lia | omega)) (by (first | lia | omega))
      have := f2 j (by (first | lia | omega)) a3
      have h5 : R rk xs j = R rk xs j := rfl
      (first | lia | omega)
    · rw [if_neg (fun q => e2 (beq_iff_eq.mp q))]
      have zk : (xs.extract (0 + k) n1).size = n1 - k := by rw [Array.size_extract]; (first | lia | omega)
      have zt : (xs.extract n1 (n1 + t)).size = t := by rw [Array.size_extract]; (first | lia | omega)
      have C : MC w A s a₀ rk (xs.extract (0 + k) n1) (xs.extract n1 (n1 + t)) := by
        refine ⟨hO, fun p hp => hm p (mem_chunk hp), fun p hp => hm p (mem_chunk hp), fun i j a1 a2 a3 => ?_, fun i j a1 a2 a3 => ?_, fun i a1 => ?_, fun i a1 => ?_⟩
        · rw [R_chunk (by (first | lia | omega)) (by (first | lia | omega)), R_chunk (by (first | lia | omega)) (by (first | lia | omega))]; exact s1 _ _ (by (first | lia | omega)) (by (first | lia | omega)) (by (first | lia | omega))
        · rw [R_chunk (by (first | lia | omega)) (by (first | lia | omega)), R_chunk (by (first | lia | omega)) (by (first | lia | omega))]; exact s2 _ _ (by (first | lia | omega)) (by (first | lia | omega)) (by (first | lia | omega))
        · rw [R_chunk (by (first | lia | omega)) (by (first | lia | omega)), R_chunk (by (first | lia | omega)) (by (first | lia | omega))]
          have := g2 (0 + k + i) (by (first | lia | omega)) (by (first | lia | omega))
          rw [Nat.add_zero]; (first | lia | omega)
        · rw [R_chunk (by (first | lia | omega)) (by (first | lia | omega)), R_chunk (by (first | lia | omega)) (by (first | lia | omega)), zk]
          have := f1 (n1 + i) (by (first | lia | omega)) (by (first | lia | omega))
          rw [show 0 + k + (n1 - k - 1) = n1 - 1 by (first | lia | omega)]
          (first | lia | omega)
      have fin : ∀ m st', Same (SortSt.mk' oneType' xs ((#[(0, n1, pw), (n1, n2, 0)].setIfInBounds 0 (0, n1 + n2, pw)).eraseIdxIfInBounds (0 + 1)) g none) st' → Res rk (xs.extract (0 + k) n1) (xs.extract n1 (n1 + t)) m →
          Q true (SortSt.mk' (kindOf st') (m.toList.zipIdx.foldl (fun a (x : Keyed × Nat) => a.setIfInBounds (0 + k + x.2) x.1) (arrOf st')) (pendingOf st') (gallopOf st') (failedOf st')) := by
        intro m st' S hr
        have sz : m.toList.length = n1 - k + t := by
          have := hr.1.length_eq
          rw [List.length_append, Array.length_toList, Array.length_toList, Array.length_toList, zk, zt] at this
          rw [Array.length_toList]; exact this
        have ez : (m.toList.zipIdx.foldl (fun a (x : Keyed × Nat) => a.setIfInBounds (0 + k + x.2) x.1) (arrOf st')).toList = xs.toList.take k ++ m.toList ++ xs.toList.drop (n1 + t) := by
          rw [S.2.1]
          refine (put_chunk (0 + k) m.toList 0 xs (by (first | lia | omega))).trans ?_
          rw [sz, show 0 + k + 0 = k by (first | lia | omega), show k + (n1 - k + t) = n1 + t by (first | lia | omega)]
        rw [Nat.zero_add] at hr
        obtain ⟨q1, q2⟩ := back_in hkn (by (first | lia | omega)) (by (first | lia | omega)) hr s1 s2 (fun i hi => by have := g1 i (by (first | lia | omega)) hi; (first | lia | omega)) (fun i a1 a2 => by have := f2 i a1 a2; (first | lia | omega)) (by (first | lia | omega)) (by (first | lia | omega)) ez
        refine h _ ?_ S.2.2.2 (S.2.2.1.trans (by simp)) q2
        exact (Array.perm_iff_toList_perm.mpr q1).trans hp
      have key : ∀ st', Same (SortSt.mk' oneType' xs ((#[(0, n1, pw), (n1, n2, 0)].setIfInBounds 0 (0, n1 + n2, pw)).eraseIdxIfInBounds (0 + 1)) g none) st' → (failedOf st').isNone = true := fun st' S => by rw [S.2.2.2]; rfl
      split
      · refine wpS_bind (tlo C rfl (by (first | lia | omega)) (by (first | lia | omega)) fun m st' S hr => ?_)
        refine wpS_bind (wpS_modify (wpS_bind (wpS_get (wpS_pure ?_))))
        have := fin m st' S hr
        have k2 := key st' S
        rw [← k2] at this
        exact this
      · refine wpS_bind (thi C rfl (by (first | lia | omega)) (by (first | lia | omega)) fun m st' S hr => ?_)
        refine wpS_bind (wpS_modify (wpS_bind (wpS_get (wpS_pure ?_))))
        have := fin m st' S hr
        have k2 := key st' S
        rw [← k2] at this
        exact this
end

end
/-! part Tim10 -/
section
theorem minRun_at {n : Nat} (h2 : 2 ≤ n) (hn : n < 128) : ∃ m, minRun' n n 0 = m ∧ 1 ≤ m ∧ m ≤ n ∧ n ≤ 2 * m := by
  obtain ⟨f, hf⟩ : ∃ f, n = f + 1 + 1 := ⟨n - 2, by (first | lia | omega)⟩
  by_cases h : n < 64
  · refine ⟨n, ?_, by (first | lia | omega), by (first | lia | omega), by (first | lia | omega)⟩
    have e : minRun' (f + 1 + 1) n 0 = n := by rw [minRun'_succ, if_pos h]; rfl
    rwa [← hf] at e
  · refine ⟨n / 2 + n % 2, ?_, by (first | lia | omega), by (first | lia | omega), by (first | lia | omega)⟩
    have e : minRun' (f + 1 + 1) n 0 = n / 2 + n % 2 := by
      rw [minRun'_succ, if_neg h, minRun'_succ, if_pos (by (first | lia | omega))]
      (first | lia | omega)
    rwa [← hf] at e
section
variable {w : World} {A : Around} {E : Value → Shared → Prop} {s : Shared} {a₀ : Array Keyed} {rk : Keyed → Nat} {st : SortSt}
/-- the sort at its end -/
noncomputable def D1 (rk : Keyed → Nat) (a₀ : Array Keyed) (st : SortSt) : Prop := (arrOf st).Perm a₀ ∧ failedOf st = none ∧ (pendingOf st).size = 1 ∧ (arrOf st).toList.Pairwise (rle rk)
/-- two runs wait to be merged -/
noncomputable def D2 (rk : Keyed → Nat) (a₀ : Array Keyed) (st : SortSt) : Prop :=
  ∃ xs n1 n2 pw g, st = SortSt.mk' oneType' xs #[(0, n1, pw), (n1, n2, 0)] g none ∧ xs.Perm a₀ ∧ 0 < n1 ∧ 0 < n2 ∧ n1 + n2 = xs.size ∧ Seg rk xs 0 n1 ∧ Seg rk xs n1 xs.size
noncomputable def DA (rk : Keyed → Nat) (a₀ : Array Keyed) (x : Nat) (c : Option PUnit × Nat) (st : SortSt) : Prop :=
  (x = 0 ∧ c = (none, 0) ∧ SB a₀ #[] 0 #[] st) ∨
  (∃ n1, x = 1 ∧ c = (none, n1) ∧ SB a₀ #[(0, n1, 0)] 0 #[] st ∧ Seg rk (arrOf st) 0 n1 ∧ 0 < n1 ∧ n1 < a₀.size ∧ a₀.size ≤ 2 * n1) ∨
  (1 ≤ x ∧ c = (none, a₀.size) ∧ (D1 rk a₀ st ∨ D2 rk a₀ st))
theorem tfirst {m : Nat} {st' : SortSt} (hB : SB a₀ #[] 0 #[] st') (hs : Seg rk (arrOf st') 0 m) (h1 : 0 < m) (hm : m ≤ a₀.size) (hh : a₀.size ≤ 2 * m) :
    DA rk a₀ (0 + 1) (none, 0 + m) (setPending st' ((pendingOf st').push (0, m, 0))) := by
  by_cases e : m = a₀.size
  · refine .inr (.inr ⟨by (first | lia | omega), by rw [e, Nat.zero_add], .inl ⟨hB.perm, hB.failed, ?_, seg_pw ?_⟩⟩)
    · show ((pendingOf st').push _).size = 1
      rw [hB.pend]; rfl
    · show Seg rk (arrOf st') 0 (arrOf st').size
      rw [hB.size, ← e]; exact hs
  · refine .inr (.inl ⟨m, by (first | lia | omega), by rw [Nat.zero_add], ⟨hB.perm, hB.kind, hB.failed, ?_, fun i hi => by (first | lia | omega)⟩, hs, h1, by (first | lia | omega), hh⟩)
    show (pendingOf st').push _ = _
    rw [hB.pend]; rfl
theorem tsecond {n1 m pw : Nat} {xs : Array Keyed} {st' : SortSt} (hB : SB a₀ #[(0, n1, 0)] n1 xs st') (hs0 : Seg rk xs 0 n1) (hs : Seg rk (arrOf st') n1 (n1 + m)) (h1 : 0 < n1) (hm : 0 < m) (hh : n1 + m = a₀.size) {P : Array (Nat × Nat × Nat)} (hP : P = #[(0, n1, pw), (n1, m, 0)]) :
    D2 rk a₀ (SortSt.mk' (kindOf st') (arrOf st') P (gallopOf st') (failedOf st')) := by
  subst hP
  refine ⟨arrOf st', n1, m, pw, gallopOf st', by rw [hB.kind, hB.failed], hB.perm, h1, hm, by rw [hB.size]; exact hh, fun i j a1 a2 a3 => ?_, ?_⟩
  · rw [R_of (hB.low i (by (first | lia | omega))), R_of (hB.low j a3)]; exact hs0 i j a1 a2 a3
  · rw [hB.size, ← hh]; exact hs
theorem truns {Q : Unit → SortSt → Prop} (hO : LtOk w A s a₀ rk) (hB : SB a₀ #[] 0 #[] st) (h2 : 2 ≤ a₀.size) (hn : a₀.size < 128)
    (h : ∀ st', (arrOf st').Perm a₀ → failedOf st' = none → (arrOf st').toList.Pairwise (rle rk) → Q () st') : wpS (model PG w) A E s sortRuns' Q st := by
  obtain ⟨mr, hmr, m1, m2, m3⟩ := minRun_at h2 hn
  rw [sortRuns'_eq]
  refine wpS_bind (wpS_get ?_)
  dsimp only
  simp only [hB.size, hmr]
  refine wpS_bind (wpS_mono (wpS_forRange (I := DA rk a₀) (Q := fun c st' => c.1 = none ∧ (D1 rk a₀ st' ∨ D2 rk a₀ st')) ?step ?fin (.inl ⟨rfl, rfl, hB⟩)) ?post)
  case fin =>
    rintro c st' (⟨hx, _, _⟩ | ⟨n1, hx, _⟩ | ⟨_, rfl, hD⟩)
    · (first | lia | omega)
    · (first | lia | omega)
    · exact ⟨rfl, hD⟩
  case step =>
    rintro x c st' _ hx (⟨rfl, rfl, hB'⟩ | ⟨n1, rfl, rfl, hB', hs1, p1, p2, p3⟩ | ⟨hx1, rfl, hD⟩)
    · dsimp only
      rw [if_neg (by (first | lia | omega))]
      refine wpS_bind (tcount hO (by (first | lia | omega)) (by (first | lia | omega)) hB' fun m st2 hB2 hm1 hm2 hs2 => ?_)
      dsimp only
      rw [Nat.zero_add] at hs2
      by_cases hlt : m < mr
      · rw [if_pos hlt]
        refine wpS_bind (wpS_lift (wpAny_rule ⟨rfl, ?_⟩))
        refine wpS_bind (tbin (n := min (a₀.size - 0) mr) hO (by (first | lia | omega)) (by (first | lia | omega)) hB2 (by rw [Nat.zero_add]; exact hs2) fun st3 hB3 hs3 => ?_)
        rw [Nat.zero_add] at hs3
        simp only [Bool.not_true, Bool.false_eq_true, if_false]
        refine wpS_bind (wpS_get ?_)
        have hb : (pendingOf st3).back? = none := by rw [hB3.pend]; rfl
        rw [hb]
        dsimp only
        exact wpS_bind (wpS_modify (wpS_pure (tfirst hB3 hs3 (by (first | lia | omega)) (by (first | lia | omega)) (by (first | lia | omega)))))
      · rw [if_neg hlt]
        refine wpS_bind (wpS_get ?_)
        have hb : (pendingOf st2).back? = none := by rw [hB2.pend]; rfl
        rw [hb]
        dsimp only
        exact wpS_bind (wpS_modify (wpS_pure (tfirst hB2 hs2 (by (first | lia | omega)) (by (first | lia | omega)) (by (first | lia | omega)))))
    · dsimp only
      rw [if_neg (by (first | lia | omega))]
      have hB1 : SB a₀ #[(0, n1, 0)] n1 (arrOf st') st' := ⟨hB'.perm, hB'.kind, hB'.failed, hB'.pend, fun _ _ => rfl⟩
      refine wpS_bind (tcount hO (by (first | lia | omega)) (by (first | lia | omega)) hB1 fun m st2 hB2 hm1 hm2 hs2 => ?_)
      dsimp only
      by_cases hlt : m < mr
      · rw [if_pos hlt]
        refine wpS_bind (wpS_lift (wpAny_rule ⟨rfl, ?_⟩))
        refine wpS_bind (tbin (n := min (a₀.size - n1) mr) hO (by (first | lia | omega)) (by (first | lia | omega)) hB2 hs2 fun st3 hB3 hs3 => ?_)
        simp only [Bool.not_true, Bool.false_eq_true, if_false]
        refine wpS_bind (wpS_get ?_)
        have hb : (pendingOf st3).back? = some (0, n1, 0) := by rw [hB3.pend]; rfl
        rw [hb]
        dsimp only
        refine wpS_bind (wpS_mono (wpS_forRange (I := fun x c st'' => c = (none, ()) ∧ st'' = st3) (Q := fun c st'' => c = (none, ()) ∧ st'' = st3) ?_ (fun _ _ hh => hh) ⟨rfl, rfl⟩) ?_)
        · rintro x c st'' _ _ ⟨rfl, rfl⟩
          refine wpS_bind (wpS_get ?_)
          rw [if_neg (by rw [hB3.pend]; show ¬ (1 > 1); (first | lia | omega))]
          exact wpS_pure ⟨rfl, rfl⟩
        · rintro c st'' ⟨rfl, rfl⟩
          dsimp only
          refine wpS_bind (wpS_modify (wpS_bind (wpS_modify (wpS_pure (.inr (.inr ⟨by (first | lia | omega), ?_, .inr ?_⟩))))))
          · congr 1; (first | lia | omega)
          · refine tsecond (pw := power' a₀.size (2 * 0 + n1) (2 * 0 + n1 + n1 + min (a₀.size - n1) mr) a₀.size) hB3 hs1 hs3 p1 (by (first | lia | omega)) (by (first | lia | omega)) ?_
            show ((pendingOf st'').modify ((pendingOf st'').size - 1) _).push _ = _
            rw [hB3.pend]
            rfl
      · rw [if_neg hlt]
        refine wpS_bind (wpS_get ?_)
        have hb : (pendingOf st2).back? = some (0, n1, 0) := by rw [hB2.pend]; rfl
        rw [hb]
        dsimp only
        refine wpS_bind (wpS_mono (wpS_forRange (I := fun x c st'' => c = (none, ()) ∧ st'' = st2) (Q := fun c st'' => c = (none, ()) ∧ st'' = st2) ?_ (fun _ _ hh => hh) ⟨rfl, rfl⟩) ?_)
        · rintro x c st'' _ _ ⟨rfl, rfl⟩
          refine wpS_bind (wpS_get ?_)
          rw [if_neg (by rw [hB2.pend]; show ¬ (1 > 1); (first | lia | omega))]
          exact wpS_pure ⟨rfl, rfl⟩
        · rintro c st'' ⟨rfl, rfl⟩
          dsimp only
          refine wpS_bind (wpS_modify (wpS_bind (wpS_modify (wpS_pure (.inr (.inr ⟨by (first | lia | omega), ?_, .inr ?_⟩))))))
          · congr 1; (first | lia | omega)
          · refine tsecond (pw := power' a₀.size (2 * 0 + n1) (2 * 0 + n1 + n1 + m) a₀.size) hB2 hs1 hs2 p1 (by (first | lia | omega)) (by (first | lia | omega)) ?_
            show ((pendingOf st'').modify ((pendingOf st'').size - 1) _).push _ = _
            rw [hB2.pend]
            rfl
    · dsimp only
      rw [if_pos (Nat.le_refl _)]
      exact wpS_pure ⟨rfl, hD⟩
  case post =>
    rintro ⟨r, n⟩ st' ⟨rfl, hD⟩
    try dsimp only
    refine wpS_bind (wpS_mono (wpS_forRange (I := fun x c st'' => c = (none, ()) ∧ (D1 rk a₀ st'' ∨ (x = 0 ∧ D2 rk a₀ st''))) (Q := fun c st'' => c = (none, ()) ∧ D1 rk a₀ st'') ?_ (fun c st'' hh => ⟨hh.1, hh.2.resolve_right (by (first | lia | omega))⟩) ⟨rfl, hD.imp id fun q => ⟨rfl, q⟩⟩) ?_)
    · rintro x c st'' _ _ ⟨rfl, hD | ⟨rfl, hD⟩⟩
      · refine wpS_bind (wpS_get ?_)
        rw [if_pos (by rw [hD.2.2.1]; exact Nat.le_refl 1)]
        exact wpS_pure ⟨rfl, hD⟩
      · obtain ⟨xs, n1, n2, pw, g, rfl, q1, q2, q3, q4, q5, q6⟩ := hD
        refine wpS_bind (wpS_get ?_)
        rw [if_neg (by show ¬ (2 ≤ 1); (first | lia | omega))]
        try dsimp only
        refine wpS_bind (tmerge hO q1 q2 q3 q4 q5 q6 fun st3 r1 r2 r3 r4 => ?_)
        simp only [Bool.not_true, Bool.false_eq_true, if_false]
        exact wpS_pure ⟨rfl, .inl ⟨r1, r2, by rw [r3]; rfl, r4⟩⟩
    · rintro c st'' ⟨rfl, hD⟩
      exact wpS_pure (h _ hD.1 hD.2.1 hD.2.2.2)
end

end
/-! part Srt1 -/
section
open AutoSeq1 (wpAny_loadPart')
open MeetsSeq MeetsSeq3 SeqAt
/-! `<` of two lists of ints -/
theorem ints_get {vs : List Value} {ns : List Int} (h : IntsAre vs ns) : ∀ {i : Nat} {n : Int}, ns[i]? = some n → ∃ t, vs[i]? = some (.int n t) := by
  induction h with
  | nil => intro i n hi; simp at hi
  | cons n t _ ih =>
    intro i k hi
    match i with
    | 0 => simp only [List.getElem?_cons_zero, Option.some.injEq] at hi; subst hi; exact ⟨t, rfl⟩
    | i + 1 => rw [List.getElem?_cons_succ] at hi ⊢; exact ih hi
theorem lt_int_int {prog : Program} {w : World} {A : Around} {E : Value → Shared → Prop} {s : Shared} {a b : Int} {t u : Tok} {Q : Value → Shared → Prop} (h : Q (.bool (decide (a < b))) s) :
    wpAny (model prog w) A (richCompare .Lt (.int a t) (.int b u)) Q E s :=
  richCompare_gives (op := .Lt) (typeIs_int s _ _) (typeIs_int s _ _) F.slot_int_lt F.entry_int_lt (F.args_int_lt_2 _ _) (gives_int_lt _ _ _ _) (fun x => nomatch x) h
theorem lt_loop (l b : Addr) (xs ys : List Value) (n n2 : Nat) (dd dd2 : Option Addr) (sl sl2 : Array (Option Value)) (ns ms : List Int) (hx : IntsAre xs ns) (hy : IntsAre ys ms) (k : Nat) :
    ∀ i : Nat, ns.length - i = k → i ≤ ns.length → i ≤ ms.length → Meets (Builtin.«list.__eq__.loop» ⟨[.ref l, .ref b, rawInt i, rawInt 0], []⟩)
      (fun _ R s => s.heap.get? l = some { cls := .type "list", dict := dd, data := .seq xs.toArray n, slots := sl } ∧ s.heap.get? b = some { cls := .type "list", dict := dd2, data := .seq ys.toArray n2, slots := sl2 } ∧
        R (.ok (.ret (.bool (decide (ns.drop i < ms.drop i))))) s) := by
  have lx := hx.length
  have ly := hy.length
  induction k with
  | zero =>
    intro i hk i1 i2 prog w A R s h
    obtain ⟨hp, g, d, tk, os⟩ := s; obtain ⟨hl, hb, h⟩ := h
    wp_walk using wpAny_loadPart' hl, wpAny_loadPart' hb
    have hi1 : xs.toArray[((i : Nat) : Int).toNat]? = none := by simp; (first | lia | omega)
    have hd : ns.drop i = [] := by simp; (first | lia | omega)
    rw [hd] at h
    rw [hi1]
    wp_walk using wpAny_loadPart' hl, wpAny_loadPart' hb
    show R (.ok (.ret (.bool (decide (xs.toArray.size < ys.toArray.size))))) _
    have e : decide (xs.toArray.size < ys.toArray.size) = decide ([] < ms.drop i) := by
      refine decide_eq_decide.mpr ?_
      rw [List.size_toArray, List.size_toArray, lx, ly]
      cases hq : ms.drop i with
      | nil =>
        have : (ms.drop i).length = 0 := by rw [hq]; rfl
        rw [List.length_drop] at this
        simp; (first | lia | omega)
      | cons z zs =>
        have : (ms.drop i).length = zs.length + 1 := by rw [hq]; rfl
        rw [List.length_drop] at this
        simp; (first | lia | omega)
    rw [e]; exact h
  | succ k ih =>
    intro i hk i1 i2 prog w A R s h
    obtain ⟨hp, g, d, tk, os⟩ := s; obtain ⟨hl, hb, h⟩ := h
    wp_walk using wpAny_loadPart' hl, wpAny_loadPart' hb
    have hlt : i < ns.length := by (first | lia | omega)
    obtain ⟨t1, g1⟩ := ints_get hx (List.getElem?_eq_getElem hlt)
    have hi1 : xs.toArray[((i : Nat) : Int).toNat]? = some (.int ns[i] t1) := by simpa using g1
    have hd1 : ns.drop i = ns[i] :: ns.drop (i + 1) := List.drop_eq_getElem_cons hlt
    by_cases hlt2 : i < ms.length
    · obtain ⟨t2, g2⟩ := ints_get hy (List.getElem?_eq_getElem hlt2)
      have hi2 : ys.toArray[((i : Nat) : Int).toNat]? = some (.int ms[i] t2) := by simpa using g2
      have hd2 : ms.drop i = ms[i] :: ms.drop (i + 1) := List.drop_eq_getElem_cons hlt2
      have hc : ((i : Int) + 1) = ((i + 1 : Nat) : Int) := by push_cast; rfl
      have e : (ns.drop i < ms.drop i) ↔ (ns[i] < ms[i] ∨ (ns[i] = ms[i] ∧ ns.drop (i + 1) < ms.drop (i + 1))) := by rw [hd1, hd2]; exact List.cons_lt_cons_iff
      rw [hi1, hi2]
      refine wpAny_bind (EqGives.int _ _ t1 t2 prog w _ _ _ _ ?_)
      cases hb' : (ns[i] == ms[i]) with
      | true =>
        rw [beq_iff_eq] at hb'
        have e2 : decide (ns.drop i < ms.drop i) = decide (ns.drop (i + 1) < ms.drop (i + 1)) := decide_eq_decide.mpr (by rw [e]; constructor; (rintro (q | q); (first | lia | omega); exact q.2); (intro q; exact .inr ⟨hb', q⟩))
        rw [e2] at h
        wp_walk
        rw [hc]
        exact ⟨plainId_quiet plain_eq_loop _, codeAny_builtin entry_eq_loop (by
          rw [Around.under_plainId plain_eq_loop _]
          exact ih (i + 1) (by (first | lia | omega)) (by (first | lia | omega)) (by (first | lia | omega)) prog w A R _ ⟨hl, hb, h⟩)⟩
      | false =>
        have hne : ns[i] ≠ ms[i] := by intro q; rw [q] at hb'; simp at hb'
        have e2 : decide (ns.drop i < ms.drop i) = decide (ns[i] < ms[i]) := decide_eq_decide.mpr (by rw [e]; constructor; (rintro (q | q); exact q; exact absurd q.1 hne); exact .inl)
        rw [e2] at h
        wp_walk using wpAny_loadPart' hl, wpAny_loadPart' hb
        rw [hi1, hi2]
        dsimp only
        refine wpAny_bind (lt_int_int ?_)
        wp_walk
        exact h
    · have hi2 : ys.toArray[((i : Nat) : Int).toNat]? = none := by simp; (first | lia | omega)
      have hd2 : ms.drop i = [] := by simp; (first | lia | omega)
      rw [hd2] at h
      rw [hi1, hi2]
      wp_walk using wpAny_loadPart' hl, wpAny_loadPart' hb
      show R (.ok (.ret (.bool (decide (xs.toArray.size < ys.toArray.size))))) _
      have e : decide (xs.toArray.size < ys.toArray.size) = decide (ns.drop i < []) := by
        refine decide_eq_decide.mpr ?_
        rw [List.size_toArray, List.size_toArray, lx, ly]
        simp; (first | lia | omega)
      rw [e]; exact h
theorem list_lt (l b : Addr) (xs ys : List Value) (n n2 : Nat) (dd dd2 : Option Addr) (sl sl2 : Array (Option Value)) (ns ms : List Int) (hx : IntsAre xs ns) (hy : IntsAre ys ms) :
    Meets (Builtin.«list.__lt__» ⟨[.ref l, .ref b], []⟩)
      (fun _ R s => s.heap.get? l = some { cls := .type "list", dict := dd, data := .seq xs.toArray n, slots := sl } ∧ s.heap.get? b = some { cls := .type "list", dict := dd2, data := .seq ys.toArray n2, slots := sl2 } ∧
        R (.ok (.ret (.bool (decide (ns < ms))))) s) := by
  intro prog w A R s h
  obtain ⟨hp, g, d, tk, os⟩ := s; obtain ⟨hl, hb, h⟩ := h
  have f3 := AutoSeq1.sub_list_list
  wp_walk using wpAny_loadPart' hl, wpAny_loadPart' hb
  exact ⟨plainId_quiet plain_eq_loop _, codeAny_builtin entry_eq_loop (by
    rw [Around.under_plainId plain_eq_loop _]
    exact lt_loop l b xs ys n n2 dd dd2 sl sl2 ns ms hx hy _ 0 rfl (Nat.zero_le _) (Nat.zero_le _) prog w A R _ ⟨hl, hb, by simpa using h⟩)⟩
section
variable {w : World} {A : Around} {E : Value → Shared → Prop} {s : Shared} {G : Kn}
theorem oneLt_LI {v u : Value} {ns ms : List Int} {Q : Bool → Shared → Prop} (hu : A.units < cLine) (I : In G s.heap) (h1 : LI G v ns) (h2 : LI G u ms) (h : Q (decide (ns < ms)) s) : wpAny (model PG w) A (oneLt' true v u) Q E s := by
  obtain ⟨a, vs, rfl, ⟨⟨c1, d1, e1, s1⟩, n1, o1, rfl, q1⟩, i1⟩ := h1
  obtain ⟨b, us, rfl, ⟨⟨c2, d2, e2, s2⟩, n2, o2, rfl, q2⟩, i2⟩ := h2
  simp only at q1 q2
  subst q1 q2
  rw [oneLt'_eq]
  simp only [if_true]
  refine wpAny_bind (wpAny_cRoomFor hu ?_)
  refine wpAny_bind (wpAny_callSpecialIfBound?_slot (T := "list") ⟨_, I _ _ o1, rfl⟩ F.slot_list_lt (call_meets F.slot_list_lt ⟨_, I _ _ o1, rfl⟩ F.entry_list_lt (F.args_list_lt_2 _ _) (list_lt _ _ _ _ _ _ _ _ _ _ _ _ i1 i2) ⟨I _ _ o1, I _ _ o2, ?_⟩))
  exact wpAny_truthy_bool h
end

end
/-! part Srt -/
section
/-! sorted() of a list of int lists -/
theorem lt_trans' {a b c : List Int} (h : a < b) (k : b < c) : a < c := List.lt_trans h k
theorem rank_lt {xss : List (List Int)} {x y : List Int} (hx : x ∈ xss) : (xss.countP fun z => decide (z < x)) < (xss.countP fun z => decide (z < y)) ↔ x < y := by
  constructor
  · intro h
    by_cases q : x < y
    · exact q
    · exfalso
      refine Nat.not_le.mpr h (List.countP_mono_left fun z _ hz => ?_)
      rw [decide_eq_true_eq] at hz ⊢
      by_cases q2 : z < x
      · exact q2
      · exact absurd (List.lt_of_le_of_lt (List.not_lt.mp q2) hz) q
  · intro h
    induction xss with
    | nil => cases hx
    | cons z zs ih =>
      rw [List.countP_cons, List.countP_cons]
      have mono : (zs.countP fun z => decide (z < x)) ≤ (zs.countP fun z => decide (z < y)) := List.countP_mono_left fun z _ hz => by rw [decide_eq_true_eq] at hz ⊢; exact lt_trans' hz h
      rcases List.mem_cons.mp hx with rfl | hx
      · have h1 : ¬ (x < x) := List.lt_irrefl x
        simp only [h, h1, decide_true, decide_false, if_true, Bool.false_eq_true, if_false]; (first | lia | omega)
      · have := ih hx
        by_cases q : z < x
        · have q2 := lt_trans' q h
          simp only [q, q2, decide_true, if_true]; (first | lia | omega)
        · by_cases q2 : z < y
          · simp only [q, q2, decide_true, decide_false, if_true, Bool.false_eq_true, if_false]; (first | lia | omega)
          · simp only [q, q2, decide_false, Bool.false_eq_true, if_false]; (first | lia | omega)
theorem ints_det {vs : List Value} {ns ms : List Int} (h : IntsAre vs ns) (k : IntsAre vs ms) : ns = ms := by rw [← h.numsOf, ← k.numsOf]
theorem LI.det {G : Kn} {v : Value} {ns ms : List Int} (h : LI G v ns) (k : LI G v ms) : ns = ms := by
  obtain ⟨a, vs, rfl, ⟨o, n, g, _, d⟩, i⟩ := h
  obtain ⟨a', vs', e, ⟨o', n', g', _, d'⟩, i'⟩ := k
  cases e
  rw [g] at g'; cases g'
  rw [d] at d'
  injection d' with d' _
  have e2 : vs = vs' := by simpa using d'
  subst e2
  exact ints_det i i'
open Classical in
noncomputable def lof (G : Kn) (v : Value) : List Int := if h : ∃ ns, LI G v ns then h.choose else []
theorem lof_eq {G : Kn} {v : Value} {ns : List Int} (h : LI G v ns) : lof G v = ns := by
  unfold lof
  have hx : ∃ ns, LI G v ns := ⟨ns, h⟩
  rw [dif_pos hx]
  exact hx.choose_spec.det h
theorem all2_lof {G : Kn} {vs : List Value} {xss : List (List Int)} (h : All2 (LI G) vs xss) : vs.map (lof G) = xss := by
  refine List.ext_getElem? fun i => ?_
  rw [List.getElem?_map]
  rcases Nat.lt_or_ge i vs.length with q | q
  · have q2 : i < xss.length := by rw [← h.1]; exact q
    rw [List.getElem?_eq_getElem q, List.getElem?_eq_getElem q2]
    have := h.2 i vs[i] xss[i] (List.getElem?_eq_getElem q) (List.getElem?_eq_getElem q2)
    rw [Option.map_some, lof_eq this]
  · rw [List.getElem?_eq_none q, List.getElem?_eq_none (by rw [← h.1]; exact q)]; rfl
theorem all2_mem {G : Kn} {vs : List Value} {xss : List (List Int)} (h : All2 (LI G) vs xss) {v : Value} (hv : v ∈ vs) : LI G v (lof G v) ∧ lof G v ∈ xss := by
  obtain ⟨i, hi, rfl⟩ := List.mem_iff_getElem.mp hv
  have q2 : i < xss.length := by rw [← h.1]; exact hi
  have := h.2 i vs[i] xss[i] (List.getElem?_eq_getElem hi) (List.getElem?_eq_getElem q2)
  have e := lof_eq this
  rw [e]; exact ⟨this, List.getElem_mem q2⟩
theorem mem_pairs {vs : List Value} {p : Keyed} (h : p ∈ (pairsOf vs).toList) : p.1 = p.2 ∧ p.1 ∈ vs := by
  rw [pairsOf_toList] at h; exact mem_zip_self h
theorem snd_perm {vs : List Value} {xs : Array Keyed} (hp : xs.Perm (pairsOf vs)) : (xs.map (·.2)).toList.Perm vs := by
  have hl : xs.toList.Perm (vs.zip vs) := by rw [← pairsOf_toList]; exact Array.perm_iff_toList_perm.mp hp
  rw [Array.toList_map]
  have e : (vs.zip vs).map (·.2) = vs := by rw [List.map_snd_zip]; exact Nat.le_refl _
  have := hl.map (·.2)
  rwa [e] at this
section
variable {w : World} {A : Around} {E : Value → Shared → Prop} {s : Shared} {G : Kn}
theorem lsort_tree {a : Addr} {vs : List Value} {n : Nat} {P : PySem.Fin → Shared → Prop} {rk : Keyed → Nat} (ho : s.heap.get? a = some (seqObj "list" vs.toArray n)) (hlen : vs.length < 128)
    (hT : ∀ h', (∀ b o, b ≠ a → s.heap.get? b = some o → h'.get? b = some o) → ∀ v ∈ vs, Looks (model PG w) h' (typeOf v) (.type "list"))
    (hO : ∀ h', (∀ b o, b ≠ a → s.heap.get? b = some o → h'.get? b = some o) → LtOk w A { s with heap := h' } (pairsOf vs) rk)
    (h : ∀ xs : Array Keyed, xs.Perm (pairsOf vs) → xs.toList.Pairwise (rle rk) → P (.done (.ret .none)) { s with heap := sortedHeap s.heap a vs (xs.map (·.2)) }) :
    wpAny (model PG w) A (Builtin.«list.sort» ⟨[.ref a], []⟩) P E s := by
  rw [list_sort_plain]
  have ha : a < s.heap.objs.size := Heap.lt_size ho
  refine wpAny_bind (listItems_at ho rfl ?_)
  refine wpAny_bind (listUpdate_at ho rfl ?_ (by rw [List.size_toArray, sizeLine_eq]; (first | lia | omega)) (Nat.zero_le _))
  obtain ⟨e1, ho1⟩ : ∃ e1, (s.heap.update a (Obj.mapSeq fun _ => #[])).get? a = some (seqObj "list" #[] e1) := ⟨_, get?_update_seq ho (fun _ => #[])⟩
  refine wpAny_bind (seqEpoch_at ho1 rfl ?_)
  refine wpAny_bind (wpAny_newTuple ?_ (by show vs.length ≤ _; rw [sizeLine_eq]; (first | lia | omega)))
  refine wpAny_bind (wpAny_newList ?_ (Nat.zero_le _))
  refine wpAny_holding ?_
  have ho6 : (((s.heap.update a (Obj.mapSeq fun _ => #[])).push (seqObj "tuple" vs.toArray 0)).push (seqObj "list" #[] 0)).get? a = some (seqObj "list" #[] e1) :=
    Heap.get?_push_of_some _ (Heap.get?_push_of_some _ ho1)
  have keep : ∀ b o, b ≠ a → s.heap.get? b = some o → (((s.heap.update a (Obj.mapSeq fun _ => #[])).push (seqObj "tuple" vs.toArray 0)).push (seqObj "list" #[] 0)).get? b = some o := fun b o hb e =>
    Heap.get?_push_of_some _ (Heap.get?_push_of_some _ ((Heap.get?_update_ne _ _ _ _ hb).trans e))
  show wpAny (model PG w) A _ P E { s with heap := ((s.heap.update a (Obj.mapSeq fun _ => #[])).push (seqObj "tuple" vs.toArray 0)).push (seqObj "list" #[] 0) }
  dsimp only
  have hsz : vs.toArray.size = vs.length := by simp
  by_cases h2 : vs.toArray.size < 2
  · rw [if_pos h2, if_pos h2]
    refine wpAny_bind (wpAny_pure ?_)
    rw [StateT.run_pure]
    refine wpAny_bind (wpAny_pure ?_)
    dsimp only
    refine wpAny_bind (seqEpoch_at ho6 rfl ?_)
    refine wpAny_bind (listUpdate_at ho6 rfl ?_ (Nat.zero_le _) (by rw [Array.size_map]; show (pairsOf vs).size ≤ _; rw [pairsOf_size, sizeLine_eq]; (first | lia | omega)))
    simp only [bne_self_eq_false, Bool.false_eq_true, if_false]
    refine wpAny_pure (h (pairsOf vs) (Array.Perm.refl _) ?_)
    rw [List.pairwise_iff_getElem]
    intro i j hi hj hij
    rw [Array.length_toList, pairsOf_size] at hj
    (first | lia | omega)
  · rw [if_neg h2, if_neg h2]
    refine wpAny_bind (kas_kind (T := .type "list") (by (first | lia | omega)) (hT _ keep) (by decide) (by decide) ?_)
    refine wpAny_bind (wpAny_mono (truns (E := E) (rk := rk) (a₀ := pairsOf vs) (st := SortSt.mk' oneType' (vs.toArray.zip vs.toArray) #[] 7 none)
      (Q := fun _ st' => (arrOf st').Perm (pairsOf vs) ∧ failedOf st' = none ∧ (arrOf st').toList.Pairwise (rle rk))
      (hO _ keep) ⟨Array.Perm.refl _, rfl, rfl, rfl, fun i hi => by (first | lia | omega)⟩ (by rw [pairsOf_size]; (first | lia | omega)) (by rw [pairsOf_size]; (first | lia | omega)) fun st' a1 a2 a3 => ⟨a1, a2, a3⟩) ?_ fun _ _ e => e)
    rintro ⟨⟨⟩, st'⟩ s' ⟨rfl, hp, hf, hs⟩
    dsimp only
    refine wpAny_bind (seqEpoch_at ho6 rfl ?_)
    refine wpAny_bind (listUpdate_at ho6 rfl ?_ (Nat.zero_le _) (by refine Nat.le_trans (Nat.le_of_eq ((Array.size_map ..).trans (hp.size_eq.trans (pairsOf_size _)))) ?_; rw [sizeLine_eq]; (first | lia | omega)))
    rw [hf]
    simp only [bne_self_eq_false, Bool.false_eq_true, if_false]
    exact wpAny_pure (h _ hp hs)
theorem ssortLL {l : Addr} {vs : List Value} {xss : List (List Int)} {Q : Value → Shared → Prop} (R : Room 3 A) (hl : IsL G l vs) (I : In G s.heap) (hx : All2 (LI G) vs xss) (hn : vs.length < 128)
    (h : ∀ v xss' G' h' tk, Grow G s.heap G' h' → LL G' v xss' → xss'.Perm xss → xss'.Pairwise (fun a b => ¬ b < a) → Q v { s with heap := h', toks := tk }) :
    wpAny (model PG w) A (call (.builtin "sorted") [.ref l]) Q E s := by
  have fin : ∀ xs : Array Keyed, xs.Perm (pairsOf vs) → xs.toList.Pairwise (rle fun p => xss.countP fun z => decide (z < lof G p.1)) → Q (.ref (s.heap.objs.size + 1)) { s with heap := sortedAll s.heap vs (xs.map (·.2)) } := by
    intro xs hp hs
    have hp2 := snd_perm hp
    have hmem : ∀ p ∈ xs.toList, p.1 = p.2 ∧ p.1 ∈ vs := fun p q => mem_pairs ((Array.perm_iff_toList_perm.mp hp).mem_iff.mp q)
    obtain ⟨e, he⟩ := sortedAll_at s.heap vs (xs.map (·.2))
    have ext : Ext s.heap (sortedAll s.heap vs (xs.map (·.2))) := fun _ _ => sortedAll_old
    have nn : s.heap.get? (s.heap.objs.size + 1) = none := by
      cases q : s.heap.get? (s.heap.objs.size + 1) with
      | none => rfl
      | some o => exact absurd (Heap.lt_size q) (Nat.not_lt.mpr (Nat.le_succ _))
    have ke : KE G (G.set (s.heap.objs.size + 1) (seqObj "list" (xs.map (·.2)) e)) := KE.set (I.fresh nn)
    refine h _ ((xs.map (·.2)).toList.map (lof G)) (G.set (s.heap.objs.size + 1) (seqObj "list" (xs.map (·.2)) e)) _ _ ⟨ke, fun b o q => ?_, ext, fun b o q => Kn.set_ne _ _ fun z => by rw [z, nn] at q; cases q⟩
      ⟨_, (xs.map (·.2)).toList, rfl, ⟨_, e, Kn.set_self _ _ _, rfl, by rw [Array.toArray_toList]⟩, by simp, fun i v x hv hx' => ?_⟩ ?_ ?_
    · unfold Kn.set at q
      split at q
      · next z => cases q; rw [z]; exact he
      · exact ext _ _ (I b o q)
    · rw [List.getElem?_map, hv] at hx'
      cases hx'
      exact (all2_mem hx (hp2.mem_iff.mp (List.mem_of_getElem? hv))).1.mono ke
    · have := hp2.map (lof G)
      rwa [all2_lof hx] at this
    · rw [Array.toList_map, List.map_map, List.pairwise_map]
      refine hs.imp_of_mem fun {p q} hp hq hle => ?_
      have m1 := hmem p hp
      have m2 := hmem q hq
      show ¬ lof G q.2 < lof G p.2
      rw [← m1.1, ← m2.1]
      intro hlt
      have := (rank_lt (xss := xss) (all2_mem hx m2.2).2).mpr hlt
      unfold rle at hle
      dsimp only at hle
      (first | lia | omega)
  refine Calls.call_function_entry kind_sorted plain_sorted entry_sorted (args_sorted1 _) ?_
  unfold Builtin.«sorted»
  refine wpAny_bind (m := checkCount "sorted" 1 1 _) (wpAny_pure ?_)
  refine wpAny_bind (collect_list (hl.heap I) ?_ (by rw [sizeLine_eq]; (first | lia | omega)))
  refine wpAny_bind (wpAny_newList ?_ (by rw [sizeLine_eq]; (first | lia | omega)))
  have hsz : ((s.heap.push (seqObj "list" #[] 0)).update s.heap.objs.size (Obj.mapSeq (· ++ vs.toArray))).objs.size = s.heap.objs.size + 1 := by
    rw [Heap.size_update, size_push']
  have hoL : (((s.heap.push (seqObj "list" #[] 0)).update s.heap.objs.size (Obj.mapSeq (· ++ vs.toArray))).push (seqObj "list" vs.toArray 0)).get? (s.heap.objs.size + 1) = some (seqObj "list" vs.toArray 0) := by
    rw [← hsz]; exact Heap.get?_push_size _ rfl
  have keep : ∀ b o, s.heap.get? b = some o → (((s.heap.push (seqObj "list" #[] 0)).update s.heap.objs.size (Obj.mapSeq (· ++ vs.toArray))).push (seqObj "list" vs.toArray 0)).get? b = some o := fun b o q => by
    have hlt : b < s.heap.objs.size := Heap.lt_size q
    rw [Heap.get?_push_ne _ _ _ (by rw [hsz]; exact Nat.ne_of_lt (Nat.lt_succ_of_lt hlt)), Heap.get?_update_ne _ _ _ _ (Nat.ne_of_lt hlt), Heap.get?_push_ne _ _ _ (Nat.ne_of_lt hlt)]
    exact q
  show wpAny _ _ _ _ _ { s with heap := ((s.heap.push (seqObj "list" #[] 0)).update s.heap.objs.size (Obj.mapSeq (· ++ vs.toArray))).push (seqObj "list" vs.toArray 0) }
  rw [hsz]
  have innOf : ∀ h', (∀ b o, b ≠ s.heap.objs.size + 1 → (((s.heap.push (seqObj "list" #[] 0)).update s.heap.objs.size (Obj.mapSeq (· ++ vs.toArray))).push (seqObj "list" vs.toArray 0)).get? b = some o → h'.get? b = some o) → In G h' := fun h' hk b o q =>
    hk b o (Nat.ne_of_lt (Nat.lt_succ_of_lt (Heap.lt_size (I b o q)))) (keep _ _ (I b o q))
  refine wpAny_bind (wpAny_holding (wpAny_call_entry slot_list_sort ⟨_, hoL, rfl⟩ entry_list_sort (lsort_tree (s := { s with heap := ((s.heap.push (seqObj "list" #[] 0)).update s.heap.objs.size (Obj.mapSeq (· ++ vs.toArray))).push (seqObj "list" vs.toArray 0) })
    (rk := fun p => xss.countP fun z => decide (z < lof G p.1)) hoL hn (fun h' hk v hv => ?_) (fun h' hk E' p q Q' hp hq hQ' => ?_) fun xs hp hs => ⟨_, rfl, ?_⟩) (args_list_sort _)))
  · obtain ⟨a, us, e, ⟨o, n, g, c, d⟩, _⟩ := (all2_mem hx hv).1
    subst e
    have : Looks (model PG w) h' (typeOf (.ref a)) o.cls := (Looks.ld (innOf h' hk _ _ g)).andThen .now
    rwa [c] at this
  · have m1 := all2_mem hx (mem_pairs hp).2
    have m2 := all2_mem hx (mem_pairs hq).2
    refine oneLt_LI (G := G) (R.in1.in1.units) (innOf h' hk) m1.1 m2.1 ?_
    rwa [decide_eq_decide.mpr (rank_lt m1.2)] at hQ'
  · exact wpAny_pure ⟨_, rfl, fin xs hp hs⟩
end

end
/-! part Fn4 -/
section
theorem fill7 : (fun (_ : Params → Frag) (_ : OpenLaw) => True) hd.heap_39 PySem.Challenge.rw_pe0118_01 := by k_fill; trivial

section
variable {w : World} {A : Around} {E : Value → Shared → Prop} {s : Shared} {G : Kn}
theorem sitemLN {value slice : PySem.Expr} {l : Addr} {vs : List Value} {i : Nat} {u : Tok} {v : Value} {Q : Value → Shared → Prop} (hl : IsL G l vs) (I : In G s.heap) (hx : vs[i]? = some v) (hi : i < 1000) (h : Q v s)
    (hs : subscripted slice false (.ref l) (.int (i : Nat) u) = operate [.ref l, .int (i : Nat) u] (getItem (.ref l) (.int (i : Nat) u)) := by with_unfolding_all rfl) :
    wpAny (model PG w) A (subscriptTail value slice (.ref l) (.int (i : Nat) u)) Q E s := sitemL hl I (by (first | lia | omega)) (by (first | lia | omega)) (by rw [Int.toNat_natCast]; exact hx) h hs
/-- the colours as a list of lists -/
noncomputable def LC (G : Kn) (v : Value) (cols : List Col) : Prop := ∃ a vs, v = .ref a ∧ IsL G a vs ∧ All2 (fun v c => LI G v (colL c)) vs cols
theorem LC.mono {G G' : Kn} {v : Value} {cols : List Col} (h : LC G v cols) (k : KE G G') : LC G' v cols := let ⟨a, vs, e, i, r⟩ := h; ⟨a, vs, e, i.mono k, r.mono fun _ _ x => x.mono k⟩
theorem All2.snoc {α : Type} {F : Value → α → Prop} {vs : List Value} {xs : List α} {v : Value} {x : α} (h : All2 F vs xs) (hv : F v x) : All2 F (vs ++ [v]) (xs ++ [x]) := by
  refine ⟨by simp [h.1], fun i u y hu hy => ?_⟩
  rcases Nat.lt_trichotomy i vs.length with q | q | q
  · rw [List.getElem?_append_left q] at hu
    rw [List.getElem?_append_left (by rw [← h.1]; exact q)] at hy
    exact h.2 i u y hu hy
  · subst q
    rw [List.getElem?_append_right (Nat.le_refl _), Nat.sub_self] at hu
    rw [h.1, List.getElem?_append_right (Nat.le_refl _), Nat.sub_self] at hy
    simp only [List.getElem?_cons_zero, Option.some.injEq] at hu hy
    subst hu; subst hy; exact hv
  · rw [List.getElem?_eq_none (by simp; (first | lia | omega))] at hu; cases hu
theorem All2.nil {α : Type} {F : Value → α → Prop} : All2 F [] [] := ⟨rfl, fun i v x h => by simp at h⟩
theorem All2.at {α : Type} {F : Value → α → Prop} {vs : List Value} {xs : List α} (h : All2 F vs xs) {i : Nat} (hi : i < xs.length) : ∃ v, vs[i]? = some v ∧ F v xs[i] := by
  have hv : i < vs.length := by rw [h.1]; exact hi
  exact ⟨vs[i], by simp [hv], h.2 i _ _ (by simp [hv]) (by simp [hi])⟩
theorem getD_at {α : Type} {xs : List α} {i : Nat} {d : α} (h : i < xs.length) : xs.getD i d = xs[i] := by simp [List.getD, h]
theorem sseq {env : Env} {st : Stmt} {rest : List Stmt} {Q : Flow → Shared → Prop} (P : Shared → Prop) (h1 : wpAny (model PG w) A (exec st env) (fun f s' => Hold (f = .next ∧ P s')) NoE s)
    (h2 : ∀ s', P s' → wpAny (model PG w) A (execs rest env) Q NoE s') : wpAny (model PG w) A (execs (st :: rest) env) Q NoE s :=
  wpAny_execs_cons (wpAny_mono h1 (fun f s' h => by obtain ⟨rfl, hp⟩ := h; exact h2 s' hp) fun _ _ x => x)
theorem len_flat {α : Type} {f : Nat → List α} {g : Nat → Nat} : ∀ {n : Nat}, (∀ i, i < n → (f i).length ≤ g i) → ((List.range n).flatMap f).length ≤ ((List.range n).map g).sum
  | 0, _ => by simp
  | n + 1, h => by
    have ih := len_flat (n := n) fun i hi => h i (by (first | lia | omega))
    have := h n (by (first | lia | omega))
    rw [List.range_succ, List.flatMap_append, List.map_append, List.length_append, List.sum_append]
    simp only [List.flatMap_cons, List.flatMap_nil, List.append_nil, List.map_cons, List.map_nil, List.sum_cons, List.sum_nil]
    (first | lia | omega)
theorem toldFirst_len (pts : List (Int × Int)) (a b c : Nat) : (toldFirst pts a b c).length ≤ 1 := by unfold toldFirst; split <;> simp
theorem sum_ones : ∀ n : Nat, ((List.range n).map fun _ => 1).sum = n
  | 0 => rfl
  | n + 1 => by rw [List.range_succ, List.map_append, List.sum_append, sum_ones n]; simp
theorem toldSecond_len (pts : List (Int × Int)) (third second : Nat) : (toldSecond pts third second).length ≤ 1 + second := by
  unfold toldSecond
  rw [List.length_append]
  have h1 := len_flat (n := second) (f := toldFirst pts second third) (g := fun _ => 1) fun i _ => toldFirst_len pts second third i
  rw [sum_ones] at h1
  split <;> simp only [List.length_cons, List.length_nil] <;> (first | lia | omega)
theorem toldThird_len (pts : List (Int × Int)) (third : Nat) : (toldThird pts third).length ≤ ((List.range third).map fun s => 1 + s).sum := len_flat fun i _ => toldSecond_len pts third i
theorem told_len (pts : List (Int × Int)) (n : Nat) : ((List.range n).flatMap (toldThird pts)).length ≤ ((List.range n).map fun t => ((List.range t).map fun s => 1 + s).sum).sum := len_flat fun i _ => toldThird_len pts i
theorem bound120 : ∀ n, n < 10 → ((List.range n).map fun t => ((List.range t).map fun s => 1 + s).sum).sum ≤ 120 := by decide
theorem bound36 : ∀ n, n < 10 → ((List.range n).map fun s => 1 + s).sum ≤ 45 := by decide
theorem ne_true {b : Bool} (h : b = false) : ¬ b = true := by rw [h]; decide
theorem tl1 (P : List (Int × Int)) {i : Nat} (h : i < 10) : ((List.range i).flatMap (toldThird P)).length ≤ 120 := Nat.le_trans (told_len P i) (bound120 i h)
theorem tl2 (P : List (Int × Int)) (i : Nat) {j : Nat} (h : j < 10) : ((List.range j).flatMap (toldSecond P i)).length ≤ 45 := Nat.le_trans (len_flat fun k _ => toldSecond_len P i k) (bound36 j h)
theorem tl3 (P : List (Int × Int)) (i j : Nat) {k : Nat} : ((List.range k).flatMap (toldFirst P i j)).length ≤ k := by
  have := len_flat (n := k) (f := toldFirst P i j) (g := fun _ => 1) fun x _ => toldFirst_len P i j x
  rwa [sum_ones] at this
theorem perm3 {α : Type} {a b c : α} : [a, b, c].Perm [c, a, b] := List.perm_append_comm (l₁ := [a, b]) (l₂ := [c])
theorem perm3' {α : Type} {a b c : α} : [c, a, b].Perm [a, b, c] := perm3.symm
theorem perm4 {α : Type} {a b c d : α} : [a, b, c, d].Perm [d, a, b, c] := List.perm_append_comm (l₁ := [a, b, c]) (l₂ := [d])
theorem range_succ_flatMap {α : Type} (f : Nat → List α) (i : Nat) : (List.range (i + 1)).flatMap f = (List.range i).flatMap f ++ f i := by
  rw [List.range_succ, List.flatMap_append]; simp
end

/-! what holds between the turns of the loops -/
noncomputable def ApPost (cols : List Col) (G₂ : Kn) (v : Value) : Prop := ∃ xss, LL G₂ v xss ∧ xss.Perm (toldL (cols.map ptC)) ∧ xss.Pairwise (fun a b => ¬ b < a)
noncomputable def JThird (P : List (Int × Int)) (ap Dt : Addr) (i : Nat) (G' : Kn) (m' : Str → Option Value) (mu' : List (Addr × Obj)) : Prop :=
  ∃ vs n, mu' = [(Dt, lstN vs n)] ∧ All2 (LI G') vs ((List.range i).flatMap (toldThird P)) ∧ m' (Str.ofString "points") = some (.ref ap) ∧ m' (Str.ofString "told") = some (.ref Dt)
noncomputable def JSecond (P : List (Int × Int)) (i : Nat) (ap Dt I6 : Addr) (it6 : Obj) (j : Nat) (G' : Kn) (m' : Str → Option Value) (mu' : List (Addr × Obj)) : Prop :=
  ∃ vs n, mu' = [(I6, it6), (Dt, lstN vs n)] ∧ All2 (LI G') vs ((List.range i).flatMap (toldThird P) ++ (List.range j).flatMap (toldSecond P i)) ∧ m' (Str.ofString "points") = some (.ref ap) ∧ m' (Str.ofString "told") = some (.ref Dt) ∧ ∃ t, m' (Str.ofString "third") = some (.int (i : Nat) t)
/-- the two alone, if it is told -/
noncomputable def twoAt (P : List (Int × Int)) (i j : Nat) : List (List Int) := if twoB (P.getD j (0, 0)) (P.getD i (0, 0)) = true then [[(j : Int), (i : Int)]] else []
noncomputable def JTwo (P : List (Int × Int)) (i j : Nat) (Dt I9 : Addr) (it9 : Obj) (I6 : Addr) (it6 : Obj) (G : Kn) (h₀ : Heap) (L : Addr) (G9 : Kn) (m : Str → Option Value) (s s' : Shared) : Prop :=
  ∃ G' vs n, Fl s s' ∧ KE G9 G' ∧ St G h₀ G' L m [(I9, it9), (I6, it6), (Dt, lstN vs n)] s'.heap ∧ All2 (LI G') vs ((List.range i).flatMap (toldThird P) ++ (List.range j).flatMap (toldSecond P i) ++ twoAt P i j)
noncomputable def JFirst (P : List (Int × Int)) (i j : Nat) (ap Dt I9 : Addr) (it9 : Obj) (I6 : Addr) (it6 : Obj) (t2 t3' : Tok) (k : Nat) (G' : Kn) (m' : Str → Option Value) (mu' : List (Addr × Obj)) : Prop :=
  ∃ vs n, mu' = [(I9, it9), (I6, it6), (Dt, lstN vs n)] ∧ All2 (LI G') vs ((List.range i).flatMap (toldThird P) ++ (List.range j).flatMap (toldSecond P i) ++ twoAt P i j ++ (List.range k).flatMap (toldFirst P j i)) ∧
    m' (Str.ofString "points") = some (.ref ap) ∧ m' (Str.ofString "told") = some (.ref Dt) ∧ m' (Str.ofString "second") = some (.int (j : Nat) t2) ∧ m' (Str.ofString "third") = some (.int (i : Nat) t3')

local macro_rules | `(tactic| walk_at "assign Tuple") => `(tactic| (k_dflt (refine sunpL (Room.hh (by assumption)) (by assumption) (by assumption) (by rfl) (by rfl) ?_); intro h' S'))
local macro_rules | `(tactic| walk_at "subscriptTail") => `(tactic| (k_dflt (refine sitemLN (by assumption) (St.inn (by assumption)) (by assumption) (by (first | lia | omega)) ?_)))
local macro_rules | `(tactic| walk_at "call builtin:len") => `(tactic| (k_dflt (refine slen (by assumption) (St.inn (by assumption)) (by assumption) (by (first | lia | omega)) ?_)))

section
variable {w : World} {A : Around} {E : Value → Shared → Prop} {s : Shared} {G : Kn}
theorem apart_spec {v : Value} {cols : List Col} {Q : Value → Shared → Prop} (R : Room 4 A) (W : Wd w G) (I : In G s.heap) (hv : LC G v cols) (hc : ∀ c ∈ cols, colOk c) (hn : cols.length ≤ 9)
    (hQ : ∀ v xss G₂ h₂ tk, Grow G s.heap G₂ h₂ → LL G₂ v xss → xss.Perm (toldL (cols.map ptC)) → xss.Pairwise (fun a b => ¬ b < a) → Q v { s with heap := h₂, toks := tk }) :
    wpAny (model PG w) A (call (.ref 107) [v]) Q E s := by
  obtain ⟨a1, vs1, rfl, l1, i1⟩ := hv
  refine callFn (binds := [(Str.ofString "colours", .ref a1)]) (Post := ApPost cols) R W I (by k_is) (by k_is) (by exact rfl) (by exact BindsTo.of_eq rfl) (by decide) (by exact locs rfl) rfl rfl rfl (fun h₁ L A' S R' => ?_) (fun r G₂ h₂ tk g hp => by obtain ⟨xss, a, b, c⟩ := hp; exact hQ _ _ _ _ _ g a b c)
  intro env
  refine wpAny_execs_cons (sassignC (by decide) (by rfl) (by decide) ?_)
  repeat (walk1 <;> try dsimp only)
  refine scompA (Room.hh R') S l1 (goes_tuple ?_) (by rw [i1.1]; (first | lia | omega)) (by decide) (by rfl) (fun i G' ys => All2 (fun v c => TI G' v (pt (ptC c))) ys (cols.take i)) (by simpa using All2.nil) ?_ ?_
  · intro v hv
    obtain ⟨i, hi, rfl⟩ := List.mem_iff_getElem.mp hv
    obtain ⟨u, hu, a, _, e, _⟩ := All2.at i1 (i := i) (by rw [← i1.1]; exact hi)
    rw [List.getElem?_eq_getElem hi] at hu
    cases hu; exact ⟨a, e⟩
  · intro C i v G' ys m' mu' s' hv hk hJ S' hf
    have hi : i < cols.length := by rw [← i1.1]; exact (List.getElem?_eq_some_iff.mp hv).1
    have hv' := i1.2 i v cols[i] hv (by simp [hi])
    obtain ⟨a2, vs2, rfl, l2, e2⟩ := hv'.mono hk
    generalize hcc : cols[i] = cc at e2
    obtain ⟨r, g, b⟩ := cc
    dsimp only [colL] at e2
    cases e2; rename_i e2; cases e2; rename_i e2; cases e2; rename_i e2; cases e2
    obtain ⟨h9, tk9, rfl⟩ := hf.ex
    dsimp only at S' ⊢
    repeat (walk1 <;> try dsimp only)
    refine snt (by assumption) ?_
    intro a3 G3 h3 k3 il3 _ S3
    refine ⟨rfl, G3, _, k3, S3, ?_⟩
    rw [List.take_add_one, List.getElem?_eq_getElem hi, hcc]
    exact (hJ.mono fun _ _ x => x.mono k3).snoc ⟨a3, _, rfl, il3, .cons _ _ (.cons _ _ .nil)⟩
  intro ap G1 G2 ys h2 tk2 kk hJ hk2 hpL hys S2
  have hpts : All2 (fun v c => TI G2 v (pt (ptC c))) ys cols := by
    have := hJ.mono (F' := fun v c => TI G2 v (pt (ptC c))) fun _ _ x => x.mono hk2
    rwa [i1.1, List.take_length] at this
  replace W := W.mono kk
  have hpl := hpts.1
  clear hJ hk2 hys
  try dsimp only
  repeat (walk1 <;> try dsimp only)
  refine snlM S2 ?_
  intro Dt h3 S3
  try dsimp only
  repeat (walk1 <;> try dsimp only)
  refine wpAny_For ?_ (by intro _; rfl)
  repeat (walk1 <;> try dsimp only)
  rename_i h4 S4
  refine srange S4 ?_
  intro r5 G5 h5 tk5 k5 hr5 S5
  dsimp only at S5 ⊢
  have W5 := W.mono k5
  generalize hP : cols.map ptC = P
  have hPl : P.length = cols.length := by rw [← hP]; simp
  have pAt : ∀ (j : Nat), j < cols.length → ∃ v, ys[j]? = some v ∧ TI G5 v (pt (P.getD j (0, 0))) ∧ smallP (P.getD j (0, 0)) := by
    intro j hj
    obtain ⟨v, hv, hT⟩ := hpts.at (i := j) hj
    have e : P.getD j (0, 0) = ptC cols[j] := by rw [← hP, getD_at (by simpa using hj)]; simp
    refine ⟨v, hv, by rw [e]; exact hT.mono k5, ?_⟩
    have := hc cols[j] (List.getElem_mem hj)
    rw [e]; unfold colOk in9 at this; unfold smallP small ptC; dsimp only; (first | lia | omega)
  have hpL5 := hpL.mono k5
  refine sforR (Room.hh R') S5 hr5 (by (first | lia | omega)) (JThird P ap Dt)
    ⟨[], 0, rfl, by simpa using All2.nil, rfl, rfl⟩ ?_ ?_
  · intro i t3 G6 m6 mu6 I6 it6 s6 hi k6 hJ S6 hf6
    obtain ⟨vs6, n6, rfl, all6, mp6, mt6⟩ := hJ
    obtain ⟨h6, tk6, rfl⟩ := hf6.ex
    have W6 := W5.mono k6
    dsimp only at S6 ⊢
    repeat (walk1 <;> try dsimp only)
    refine wpAny_For ?_ (by intro _; rfl)
    repeat (walk1 <;> try dsimp only)
    rename_i h7 S7
    refine srange S7 ?_
    intro r8 G8 h8 tk8 k8 hr8 S8
    dsimp only at S8 ⊢
    refine sforR (Room.hh R') S8 hr8 (by (first | lia | omega)) (JSecond P i ap Dt I6 it6)
      ⟨vs6, n6, rfl, by simpa using all6.mono fun _ _ x => x.mono k8, mp6, mt6, _, rfl⟩ ?_ ?_
    · intro j t2 G9 m9 mu9 I9 it9 s9 hj k9 hJ S9 hf9
      obtain ⟨vs9, n9, rfl, all9, mp9, mt9, t3', m39⟩ := hJ
      obtain ⟨h9, tk9, rfl⟩ := (Fl.trans Fl.mk hf9).ex
      have kk9 := (k6.trans k8).trans k9
      have W9 := W5.mono kk9
      have hpL9 := hpL5.mono kk9
      obtain ⟨v2, hv2, hT2, sm2⟩ := pAt j (by (first | lia | omega))
      obtain ⟨v3, hv3, hT3, sm3⟩ := pAt i (by (first | lia | omega))
      replace hT2 := hT2.mono kk9
      replace hT3 := hT3.mono kk9
      dsimp only at S9 ⊢
      refine wpAny_assign_Name (sst S9 ?_)
      intro hA SA
      dsimp only at SA ⊢
      refine sseq (JTwo P i j Dt I9 it9 I6 it6 G s.heap L G9 (upd m9 (Str.ofString "second") (.int (j : Nat) t2)) s) ?_ ?_
      · repeat (walk1 <;> try dsimp only)
        refine two_spec (R'.mono (by decide)) W9 (St.inn (by assumption)) hT2 hT3 sm2 ?_
        intro hB tkB xB
        have SB := St.ext (by assumption) xB
        dsimp only at SB ⊢
        repeat (walk1 <;> try dsimp only)
        · refine smeth (And.left (SB.mu_ (Dt, lstN vs9 n9) (by simp))) PySem.slot_list_append PySem.type_list_append ?_
          try dsimp only
          repeat (walk1 <;> try dsimp only)
          refine snl SB ?_
          intro aL GL hL kL ilL _ SL
          dsimp only at SL ⊢
          repeat (walk1 <;> try dsimp only)
          have b1 := tl1 P (i := i) (by (first | lia | omega))
          have b2 := tl2 P i (j := j) (by (first | lia | omega))
          refine sapp (SL.perm perm3) (by rw [all9.1, List.length_append]; (first | lia | omega)) ?_
          intro hM nM SM
          dsimp only at SM ⊢
          repeat (walk1 <;> try dsimp only)
          refine ⟨rfl, GL, _, nM, .mk, kL, SM.perm perm3', ?_⟩
          unfold twoAt
          rw [if_pos (by assumption)]
          exact (all9.mono fun _ _ x => x.mono kL).snoc ⟨aL, _, rfl, ilL, .cons _ _ (.cons _ _ .nil)⟩
        · repeat (walk1 <;> try dsimp only)
          refine ⟨rfl, G9, vs9, n9, .mk, .refl _, SB, ?_⟩
          unfold twoAt
          rw [if_neg (ne_true (by assumption)), List.append_nil]
          exact all9
      · rintro s' ⟨GB, vsB, nB, hfB, kB, SB, allB⟩
        obtain ⟨hB, tkB, rfl⟩ := hfB.ex
        have WB := W9.mono kB
        have hpLB := hpL9.mono kB
        replace hT2 := hT2.mono kB
        replace hT3 := hT3.mono kB
        dsimp only at SB ⊢
        repeat (walk1 <;> try dsimp only)
        refine wpAny_For ?_ (by intro _; rfl)
        repeat (walk1 <;> try dsimp only)
        refine srange SB ?_
        intro rC GC hC tkC kC hrC SC
        dsimp only at SC ⊢
        refine sforR (Room.hh R') SC hrC (by (first | lia | omega)) (JFirst P i j ap Dt I9 it9 I6 it6 t2 t3')
          ⟨vsB, nB, rfl, by simpa using allB.mono fun _ _ x => x.mono kC, mp9, mt9, rfl, m39⟩ ?_ ?_
        · intro k t1 GD mD muD ID itD sD hk' kD hJ SD hfD
          obtain ⟨vsD, nD, rfl, allD, mpD, mtD, m2D, m3D⟩ := hJ
          obtain ⟨hD, tkD, rfl⟩ := (Fl.trans Fl.mk hfD).ex
          have kkD := kC.trans kD
          have WD := WB.mono kkD
          have hpLD := hpLB.mono kkD
          obtain ⟨v1, hv1, hT1, sm1⟩ := pAt k (by (first | lia | omega))
          replace hT1 := hT1.mono ((kk9.trans kB).trans kkD)
          have hT2' := hT2.mono kkD
          have hT3' := hT3.mono kkD
          dsimp only at SD ⊢
          repeat (walk1 <;> try dsimp only)
          refine three_spec (R'.mono (by decide)) WD (St.inn (by assumption)) hT1 hT2' hT3' sm1 sm2 sm3 ?_
          intro hE tkE xE
          have SE := St.ext (by assumption) xE
          dsimp only at SE ⊢
          repeat (walk1 <;> try dsimp only)
          · refine smeth (And.left (SE.mu_ (Dt, lstN vsD nD) (by simp))) PySem.slot_list_append PySem.type_list_append ?_
            try dsimp only
            repeat (walk1 <;> try dsimp only)
            refine snl SE ?_
            intro aL GL hL kL ilL _ SL
            dsimp only at SL ⊢
            repeat (walk1 <;> try dsimp only)
            have b1 := tl1 P (i := i) (by (first | lia | omega))
            have b2 := tl2 P i (j := j) (by (first | lia | omega))
            have b3 := tl3 P j i (k := k)
            have b4 : (twoAt P i j).length ≤ 1 := by unfold twoAt; split <;> simp
            refine sapp (SL.perm perm4) (by rw [allD.1, List.length_append, List.length_append, List.length_append]; (first | lia | omega)) ?_
            intro hM nM SM
            dsimp only at SM ⊢
            repeat (walk1 <;> try dsimp only)
            refine ⟨rfl, .mk, GL, _, _, kL, SM.perm perm4.symm, _, nM, rfl, ?_, mpD, mtD, m2D, m3D⟩
            rw [range_succ_flatMap, ← List.append_assoc]
            have e : toldFirst P j i k = [[(k : Int), j, i]] := by unfold toldFirst; rw [if_pos (by assumption)]
            rw [e]
            exact (allD.mono fun _ _ x => x.mono kL).snoc ⟨aL, _, rfl, ilL, .cons _ _ (.cons _ _ (.cons _ _ .nil))⟩
          · repeat (walk1 <;> try dsimp only)
            refine ⟨rfl, .mk, GD, _, _, .refl _, SE, vsD, nD, rfl, ?_, mpD, mtD, m2D, m3D⟩
            rw [range_succ_flatMap]
            have e : toldFirst P j i k = [] := by unfold toldFirst; rw [if_neg (ne_true (by assumption))]
            rw [e, List.append_nil]
            exact allD
        · intro GD mD muD hD tkD kD hJ SD
          obtain ⟨vsD, nD, rfl, allD, mpD, mtD, m2D, m3D⟩ := hJ
          dsimp only
          repeat (walk1 <;> try dsimp only)
          refine ⟨rfl, .mk, GD, _, _, (kB.trans kC).trans kD, SD, vsD, nD, rfl, ?_, mpD, mtD, t3', m3D⟩
          rw [range_succ_flatMap, ← List.append_assoc]
          have e : toldSecond P i j = twoAt P i j ++ (List.range j).flatMap (toldFirst P j i) := rfl
          rw [e, ← List.append_assoc]
          exact allD
    · intro GD mD muD hD tkD kD hJ SD
      obtain ⟨vsD, nD, rfl, allD, mpD, mtD, t3', m3D⟩ := hJ
      dsimp only
      repeat (walk1 <;> try dsimp only)
      refine ⟨rfl, .mk, GD, _, _, k8.trans kD, SD, vsD, nD, rfl, ?_, mpD, mtD⟩
      rw [range_succ_flatMap]
      exact allD
  · intro GD mD muD hD tkD kD hJ SD
    obtain ⟨vsD, nD, rfl, allD, mpD, mtD⟩ := hJ
    have WD := W5.mono kD
    dsimp only
    repeat (walk1 <;> try dsimp only)
    have SF := SD.freeze
    have b1 := tl1 P (i := cols.length) (by (first | lia | omega))
    refine ssortLL R' (IsL.ofN (Kn.set_self _ _ _)) SF.inn (allD.mono fun _ _ x => x.mono (KE.set (SD.mu_ _ (.head _)).2.2.1)) (by rw [allD.1]; (first | lia | omega)) ?_
    intro v xss GE hE tkE gE hll hp hs
    refine ⟨GE, hE, tkE, rfl, (SF.grow gE).gr, xss, hll, ?_, hs⟩
    have e : toldL P = (List.range cols.length).flatMap (toldThird P) := by unfold toldL; rw [hPl]
    rw [hP, e]; exact hp
end

end
/-! part Fn5 -/
section
theorem fill8 : (fun (_ : Params → Frag) (_ : OpenLaw) => True) hd.heap_39 PySem.Challenge.rw_pe0118_01 := by k_fill; trivial

section
variable {w : World} {A : Around} {E : Value → Shared → Prop} {s : Shared} {G₀ G : Kn} {h₀ : Heap} {L : Addr} {m : Str → Option Value} {mu : List (Addr × Obj)}
theorem St.updExt {a : Addr} {o o' : Obj} {h h' : Heap} (S : St G₀ h₀ G L m ((a, o) :: mu) h) (hk : ∀ b ob, b ≠ a → h.get? b = some ob → h'.get? b = some ob) (ho : h'.get? a = some o') : St G₀ h₀ G L m ((a, o') :: mu) h' := by
  have D := S.mu_ (a, o) (.head _)
  refine (S.next fun b ob hb e => hk b ob (fun q => hb (List.mem_singleton.mpr q)) e).adopt ho D.2.1 D.2.2.1 D.2.2.2 ?_
  have nd := S.nd; rw [List.map_cons, List.nodup_cons] at nd; exact nd.1
theorem sadd {l b : Addr} {vs ws : List Value} {Q : Value → Shared → Prop} (S : St G₀ h₀ G L m mu s.heap) (hl : IsL G l vs) (hb : IsL G b ws) (hz : vs.length + ws.length ≤ 1000)
    (h : ∀ a G' h', KE G G' → IsL G' a (vs ++ ws) → St G₀ h₀ G' L m mu h' → Q (.ref a) { s with heap := h' }) : wpAny (model PG w) A (binaryOp .Add (.ref l) (.ref b)) Q E s := by
  obtain ⟨⟨cls, dd, data, sl⟩, n, ho, hc, hd⟩ := hl
  obtain ⟨⟨cls2, dd2, data2, sl2⟩, n2, ho2, hc2, hd2⟩ := hb
  simp only at hc hd hc2 hd2
  subst hc hd hc2 hd2
  have e : vs.toArray ++ ws.toArray = (vs ++ ws).toArray := by simp
  have g1 := S.inn _ _ ho
  have g2 := S.inn _ _ ho2
  refine concat_meets ⟨_, g1, rfl⟩ ⟨_, g2, rfl⟩ noFill_list_add seq_list_add PySem.F.slot_list_add PySem.F.entry_list_add (PySem.F.args_list_add_2 _ _) (list_addW l b vs.toArray ws.toArray n n2 dd dd2 sl sl2 (by simp; unfold sizeLine; (first | lia | omega))) ⟨g1, g2, ?_⟩
  rw [e]
  exact h _ _ _ (KE.set (S.inn.fresh (none_size _))) ⟨_, _, Kn.set_self _ _ _, rfl, rfl⟩ (S.alloc (lst (vs ++ ws)))
/-- the cut of a list, at its end -/
noncomputable def SliceTo (Q : Value → Shared → Prop) (o vl vu : Value) (s : Shared) : Prop := ∃ l items lo hi, o = .ref l ∧ s.heap.IsList l items ∧ items.size ≤ sizeLine ∧ IsPart vl lo ∧ IsPart vu hi ∧
  Q (.ref (s.heap.objs.size + 1)) { s with heap := (s.heap.push { cls := .type "slice", data := .fields #[vl, vu, .none] }).push { cls := .type "list", data := .seq (slicePick items lo hi none) } }
theorem ssub {env : Env} {value : PySem.Expr} {lower upper : Option PySem.Expr} {p pos : Pos} {Q : Value → Shared → Prop}
    (h : wpAny (model PG w) A (eval value env) (fun o s₁ => wpAny (model PG w) A (evalPart lower env) (fun vl s₂ => wpAny (model PG w) A (evalPart upper env) (fun vu s₃ => SliceTo Q o vl vu s₃) E s₂) E s₁) E s)
    (ht : ∀ o r, letTemporaryGo value o r = pure () := by intro _ _; rfl) :
    wpAny (model PG w) A (eval (.Subscript value (.Slice lower upper none p) pos) env) Q E s := wpAny_Subscript_list_slice h ht
theorem sslice {l : Addr} {vs : List Value} {a b : Nat} {ta tb : Tok} {Q : Value → Shared → Prop} (S : St G₀ h₀ G L m mu s.heap) (hl : IsL G l vs) (hz : vs.length ≤ 1000) (hab : a ≤ b) (hb : b ≤ vs.length)
    (h : ∀ D G' h', KE G G' → IsL G' D ((vs.drop a).take (b - a)) → St G₀ h₀ G' L m mu h' → Q (.ref D) { s with heap := h' }) : SliceTo Q (.ref l) (.int (a : Nat) ta) (.int (b : Nat) tb) s := by
  refine ⟨l, vs.toArray, some a, some b, rfl, hl.heap S.inn, by rw [List.size_toArray]; unfold sizeLine; (first | lia | omega), .int _ _, .int _ _, ?_⟩
  rw [slicePick_run vs.toArray a b (by simpa using hb) hab]
  have S1 := S.ext (Ext.push s.heap { cls := .type "slice", data := .fields #[.int (a : Nat) ta, .int (b : Nat) tb, .none] })
  have hsz : (s.heap.push { cls := .type "slice", data := .fields #[.int (a : Nat) ta, .int (b : Nat) tb, .none] }).objs.size = s.heap.objs.size + 1 := Heap.size_push ..
  rw [← hsz]
  exact h _ _ _ (KE.set (S1.inn.fresh (none_size _))) ⟨_, 0, Kn.set_self _ _ _, rfl, rfl⟩ (S1.alloc (lst ((vs.drop a).take (b - a))))
end
theorem sortedE_rises {es : List (Int × Int)} (h : es.Pairwise rises) : sortedE es := by
  intro i j hi hj hij
  rcases Nat.lt_or_ge i j with q | q
  · have := List.pairwise_iff_getElem.mp h i j hi hj q
    unfold rises at this; (first | lia | omega)
  · have : i = j := by (first | lia | omega)
    subst this; exact Int.le_refl _
theorem All2.append {α : Type} {F : Value → α → Prop} {vs ws : List Value} {xs zs : List α} (h : All2 F vs xs) (k : All2 F ws zs) : All2 F (vs ++ ws) (xs ++ zs) := by
  refine ⟨by simp [h.1, k.1], fun i u y hu hy => ?_⟩
  rcases Nat.lt_or_ge i vs.length with q | q
  · rw [List.getElem?_append_left q] at hu
    rw [List.getElem?_append_left (by rw [← h.1]; exact q)] at hy
    exact h.2 i u y hu hy
  · rw [List.getElem?_append_right q] at hu
    rw [List.getElem?_append_right (by rw [← h.1]; exact q), ← h.1] at hy
    exact k.2 _ u y hu hy
theorem ints_at {vs : List Value} {ns : List Int} (h : IntsAre vs ns) : ∀ {i : Nat}, i < ns.length → ∃ t, vs[i]? = some (.int (ns.getD i 0) t) := by
  induction h with
  | nil => intro i hi; simp at hi
  | cons n t _ ih =>
    intro i hi
    match i with
    | 0 => exact ⟨t, rfl⟩
    | i + 1 => simpa using ih (by simpa using hi)
theorem sortedE_twice {row : List (Int × Int)} (h : row.Pairwise rises) (hr : ∀ e ∈ row, 0 ≤ e.1 ∧ e.1 < 5040) : sortedE (twiceL row) := by
  have hp : (twiceL row).Pairwise (fun a b => a.1 ≤ b.1) := by
    unfold twiceL turnOn
    refine List.pairwise_append.mpr ⟨h.imp fun x => by unfold rises at x; (first | lia | omega), List.pairwise_map.mpr (h.imp fun x => by unfold rises at x; dsimp only; (first | lia | omega)), fun a ha b hb => ?_⟩
    obtain ⟨c, hc, rfl⟩ := List.mem_map.mp hb
    have h1 := hr a ha
    have h2 := hr c hc
    dsimp only; (first | lia | omega)
  intro i j hi hj hij
  rcases Nat.lt_or_ge i j with q | q
  · exact List.pairwise_iff_getElem.mp hp i j hi hj q
  · have : i = j := by (first | lia | omega)
    subst this; exact Int.le_refl _
theorem twiceL_length (row : List (Int × Int)) : (twiceL row).length = row.length + row.length := by unfold twiceL turnOn; simp
/-- what bisect_left cuts off is what lies less than half a turn ahead -/
theorem filter_cut {α : Type} (p : α → Bool) : ∀ (l : List α) (k : Nat), k ≤ l.length → (∀ i (h : i < l.length), i < k → p l[i] = true) → (∀ i (h : i < l.length), k ≤ i → p l[i] = false) → l.filter p = l.take k
  | [], k, _, _, _ => by simp
  | x :: l, 0, _, _, h2 => by
    have h0 := h2 0 (by simp) (Nat.le_refl _)
    simp only [List.getElem_cons_zero] at h0
    have ih := filter_cut p l 0 (Nat.zero_le _) (fun i _ h => by (first | lia | omega)) (fun i h _ => h2 (i + 1) (Nat.succ_lt_succ h) (Nat.zero_le _))
    rw [List.filter_cons_of_neg (by rw [h0]; decide), ih]; rfl
  | x :: l, k + 1, hk, h1, h2 => by
    have h0 := h1 0 (by simp) (by (first | lia | omega))
    simp only [List.getElem_cons_zero] at h0
    have ih := filter_cut p l k (by simpa using hk) (fun i h hi => h1 (i + 1) (Nat.succ_lt_succ h) (by (first | lia | omega))) (fun i h hi => h2 (i + 1) (Nat.succ_lt_succ h) (by (first | lia | omega)))
    rw [List.filter_cons_of_pos h0, ih]; rfl
theorem ahead_cut {row : List (Int × Int)} {spot lo : Nat} (hs : spot < row.length) (h1 : spot + 1 ≤ lo) (h2 : lo ≤ spot + row.length)
    (h3 : ∀ i (hi : i < (twiceL row).length), spot + 1 ≤ i → i < lo → (twiceL row)[i].1 < (row.getD spot (0, 0)).1 + 2520) (h4 : ∀ i (hi : i < (twiceL row).length), lo ≤ i → i < spot + row.length → (row.getD spot (0, 0)).1 + 2520 ≤ (twiceL row)[i].1) :
    (((twiceL row).drop (spot + 1)).take (lo - (spot + 1))).map (·.2) = aheadL row spot := by
  have hl := twiceL_length row
  unfold aheadL
  congr 1
  have e : ((twiceL row).take (spot + row.length)).drop (spot + 1) = ((twiceL row).drop (spot + 1)).take (row.length - 1) := by
    rw [List.drop_take]; congr 1; (first | lia | omega)
  rw [e]
  have e2 : ((twiceL row).drop (spot + 1)).take (lo - (spot + 1)) = (((twiceL row).drop (spot + 1)).take (row.length - 1)).take (lo - (spot + 1)) := by
    rw [List.take_take]; congr 1; (first | lia | omega)
  rw [e2]
  refine (filter_cut _ _ _ (by simp; (first | lia | omega)) (fun i h hi => ?_) (fun i h hi => ?_)).symm
  · simp only [List.length_take, List.length_drop] at h
    simp only [List.getElem_take, List.getElem_drop, decide_eq_true_eq]
    exact h3 _ (by (first | lia | omega)) (by (first | lia | omega)) (by (first | lia | omega))
  · simp only [List.length_take, List.length_drop] at h
    simp only [List.getElem_take, List.getElem_drop, decide_eq_false_iff_not]
    have := h4 (spot + 1 + i) (by (first | lia | omega)) (by (first | lia | omega)) (by (first | lia | omega))
    (first | lia | omega)
theorem Ents.cut {G : Kn} {vs : List Value} {es : List (Int × Int)} {a b : Nat} (h : Ents G vs es) : Ents G ((vs.drop a).take b) ((es.drop a).take b) := by
  refine ⟨by simp [h.1], fun i v e hv he => ?_⟩
  rw [List.getElem?_take] at hv he
  split at hv
  · rename_i q
    rw [if_pos q] at he
    rw [List.getElem?_drop] at hv he
    exact h.2 _ v e hv he
  · cases hv
theorem ahead_len {row : List (Int × Int)} {spot n : Nat} (h : row.length ≤ n) (hn : n ≤ 9) : (aheadL row spot).length ≤ 9 := by
  unfold aheadL
  rw [List.length_map]
  refine Nat.le_trans (List.length_filter_le _ _) ?_
  rw [List.length_drop, List.length_take]
  (first | lia | omega)
theorem metFar_len {own : Int} {ahead : List Int} {n : Nat} (h : n ≤ 9) : ((List.range n).flatMap (metFar own ahead)).length ≤ 45 := by
  refine Nat.le_trans (len_flat (g := fun s => 1 + s) fun i _ => ?_) (bound36 n (by (first | lia | omega)))
  unfold metFar; simp; (first | lia | omega)
theorem metAt_len {row : List (Int × Int)} {n : Nat} (h : row.length ≤ n) (hn : n ≤ 9) (spot : Nat) : (metAt row spot).length ≤ 45 := by
  unfold metAt
  exact metFar_len (ahead_len h hn)
theorem sum45 : ∀ n : Nat, ((List.range n).map fun _ => 45).sum = n * 45
  | 0 => rfl
  | n + 1 => by rw [List.range_succ, List.map_append, List.sum_append, sum45 n]; simp; (first | lia | omega)
theorem metPre_len {row : List (Int × Int)} {n spot : Nat} (h : row.length ≤ n) (hn : n ≤ 9) (hs : spot ≤ 9) : ((List.range spot).flatMap (metAt row)).length ≤ 405 := by
  refine Nat.le_trans (len_flat (g := fun _ => 45) fun i _ => metAt_len h hn i) ?_
  rw [sum45]; (first | lia | omega)
theorem Ents.snoc {G : Kn} {vs : List Value} {es : List (Int × Int)} {v : Value} {e : Int × Int} (h : Ents G vs es) (hv : LI G v (ent e)) : Ents G (vs ++ [v]) (es ++ [e]) := All2.snoc h hv

/-! what holds between the turns of the loops -/
noncomputable def MetPost (cols : List Col) (G₂ : Kn) (v : Value) : Prop := ∃ xss, LL G₂ v xss ∧ xss.Perm (metL (rowL cols)) ∧ xss.Pairwise (fun a b => ¬ b < a)
noncomputable def JRow (cols : List Col) (a1 Dr : Addr) (k : Nat) (G' : Kn) (m' : Str → Option Value) (mu' : List (Addr × Obj)) : Prop :=
  ∃ vs n, mu' = [(Dr, lstN vs n)] ∧ Ents G' vs (rowN cols k) ∧ m' (Str.ofString "colours") = some (.ref a1) ∧ m' (Str.ofString "row") = some (.ref Dr)
noncomputable def JNone (cols : List Col) (k : Nat) (a1 Dr I5 : Addr) (it5 : Obj) (_ : Nat) (G' : Kn) (m' : Str → Option Value) (mu' : List (Addr × Obj)) : Prop :=
  ∃ vs n, mu' = [(I5, it5), (Dr, lstN vs n)] ∧ Ents G' vs (rowN cols k) ∧ m' (Str.ofString "colours") = some (.ref a1) ∧ m' (Str.ofString "row") = some (.ref Dr)
noncomputable def JOne (cols : List Col) (k : Nat) (a1 Dr I5 : Addr) (it5 : Obj) (j : Nat) (G' : Kn) (m' : Str → Option Value) (mu' : List (Addr × Obj)) : Prop :=
  ∃ vs n, mu' = [(I5, it5), (Dr, lstN vs n)] ∧ Ents G' vs (if j = 0 then rowN cols k else rowN cols (k + 1)) ∧ m' (Str.ofString "colours") = some (.ref a1) ∧ m' (Str.ofString "row") = some (.ref Dr)
noncomputable def JSpot (row : List (Int × Int)) (Dr aT Dm : Addr) (k : Nat) (G' : Kn) (m' : Str → Option Value) (mu' : List (Addr × Obj)) : Prop :=
  ∃ vs n, mu' = [(Dm, lstN vs n)] ∧ All2 (LI G') vs ((List.range k).flatMap (metAt row)) ∧ m' (Str.ofString "row") = some (.ref Dr) ∧ m' (Str.ofString "twice") = some (.ref aT) ∧ m' (Str.ofString "met") = some (.ref Dm) ∧ ∃ t, m' (Str.ofString "count") = some (.int (row.length : Nat) t)
noncomputable def JFar (row : List (Int × Int)) (spot : Nat) (pl : Int) (ahead : List Int) (Dr aT Dm aA I13 : Addr) (it13 : Obj) (far : Nat) (G' : Kn) (m' : Str → Option Value) (mu' : List (Addr × Obj)) : Prop :=
  ∃ vs n, mu' = [(I13, it13), (Dm, lstN vs n)] ∧ All2 (LI G') vs ((List.range spot).flatMap (metAt row) ++ (List.range far).flatMap (metFar pl ahead)) ∧ m' (Str.ofString "row") = some (.ref Dr) ∧ m' (Str.ofString "twice") = some (.ref aT) ∧ m' (Str.ofString "met") = some (.ref Dm) ∧
    (∃ t, m' (Str.ofString "count") = some (.int (row.length : Nat) t)) ∧ m' (Str.ofString "ahead") = some (.ref aA) ∧ ∃ t, m' (Str.ofString "own") = some (.int pl t)
noncomputable def JNear (row : List (Int × Int)) (spot far : Nat) (pl : Int) (ahead : List Int) (Dr aT Dm aA I20 : Addr) (it20 : Obj) (I13 : Addr) (it13 : Obj) (tc20 to20 t20 : Tok) (near : Nat) (G' : Kn) (m' : Str → Option Value) (mu' : List (Addr × Obj)) : Prop :=
  ∃ vs n, mu' = [(I20, it20), (I13, it13), (Dm, lstN vs n)] ∧ All2 (LI G') vs ((List.range spot).flatMap (metAt row) ++ (List.range far).flatMap (metFar pl ahead) ++ [srt [pl, ahead.getD far 0]] ++ (List.range near).map fun near => srt [pl, ahead.getD near 0, ahead.getD far 0]) ∧
    m' (Str.ofString "row") = some (.ref Dr) ∧ m' (Str.ofString "twice") = some (.ref aT) ∧ m' (Str.ofString "met") = some (.ref Dm) ∧
    m' (Str.ofString "count") = some (.int (row.length : Nat) tc20) ∧ m' (Str.ofString "ahead") = some (.ref aA) ∧ m' (Str.ofString "own") = some (.int pl to20) ∧ m' (Str.ofString "far") = some (.int (far : Nat) t20)

local macro_rules | `(tactic| walk_at "callWith ref") => `(tactic| (refine scallKw (by assumption) (by k_is) ?_))
local macro_rules | `(tactic| walk_at "assign Tuple") => `(tactic| (k_dflt (refine sunpL (Room.hh (by assumption)) (by assumption) (by assumption) (by rfl) (by rfl) ?_); intro h' S'))
local macro_rules | `(tactic| walk_at "subscriptTail") => `(tactic| (k_dflt (refine sitemLN (by assumption) (St.inn (by assumption)) (by assumption) (by (first | lia | omega)) ?_)))
local macro_rules | `(tactic| walk_at "call builtin:len") => `(tactic| (k_dflt (refine slen (by assumption) (St.inn (by assumption)) (by assumption) (by (first | lia | omega)) ?_)))

section
variable {w : World} {A : Around} {E : Value → Shared → Prop} {s : Shared} {G : Kn}
theorem met_spec {v : Value} {cols : List Col} {Q : Value → Shared → Prop} (R : Room 5 A) (W : Wd w G) (I : In G s.heap) (hv : LC G v cols) (hc : ∀ c ∈ cols, colOk c) (hn : cols.length ≤ 9) (hm : (metL (rowL cols)).length < 128)
    (hQ : ∀ v xss G₂ h₂ tk, Grow G s.heap G₂ h₂ → LL G₂ v xss → xss.Perm (metL (rowL cols)) → xss.Pairwise (fun a b => ¬ b < a) → Q v { s with heap := h₂, toks := tk }) :
    wpAny (model PG w) A (call (.ref 74) [v]) Q E s := by
  obtain ⟨a1, vs1, rfl, l1, i1⟩ := hv
  refine callFn (binds := [(Str.ofString "colours", .ref a1)]) (Post := MetPost cols) R W I (by k_is) (by k_is) (by exact rfl) (by exact BindsTo.of_eq rfl) (by decide) (by exact locs rfl) rfl rfl rfl (fun h₁ L A' S R' => ?_) (fun r G₂ h₂ tk g hp => by obtain ⟨xss, a, b, c⟩ := hp; exact hQ _ _ _ _ _ g a b c)
  intro env
  have hl1 := i1.1
  repeat (walk1 <;> try dsimp only)
  refine snlM S ?_
  intro Dr h2 S2
  dsimp only at S2 ⊢
  repeat (walk1 <;> try dsimp only)
  refine wpAny_For ?_ (by intro _; rfl)
  repeat (walk1 <;> try dsimp only)
  rename_i h3 S3
  refine srange S3 ?_
  intro r4 G4 h4 tk4 k4 hr4 S4
  dsimp only at S4 ⊢
  refine sforR (Room.hh R') S4 hr4 (by (first | lia | omega)) (JRow cols a1 Dr)
    ⟨[], 0, rfl, All2.nil, rfl, rfl⟩ ?_ ?_
  · intro k t5 G5 m5 mu5 I5 it5 s5 hk k5 hJ S5 hf5
    obtain ⟨vs5, n5, rfl, ent5, mc5, mr5⟩ := hJ
    obtain ⟨h5, tk5, rfl⟩ := (Fl.trans Fl.mk hf5).ex
    have kk5 := k4.trans k5
    have W5 := W.mono kk5
    have l15 := l1.mono kk5
    obtain ⟨vc, hvc, hcc⟩ := i1.at (i := k) hk
    replace hcc := hcc.mono kk5
    have hok := hc cols[k] (List.getElem_mem hk)
    dsimp only at S5 ⊢
    repeat (walk1 <;> try dsimp only)
    refine wpAny_For ?_ (by intro _; rfl)
    repeat (walk1 <;> try dsimp only)
    refine entries_spec (R'.mono (by decide)) W5 (St.inn (by assumption)) hcc hok.1 hok.2.1 hok.2.2 ?_
    intro ve G6 h6 tk6 g6 he
    have S6 := St.grow (by assumption) g6
    dsimp only at S6 ⊢
    obtain ⟨ae, rfl, hcase⟩ := he
    have htc : cols[k]?.bind toneC = toneZ cols[k].1 cols[k].2.1 cols[k].2.2 := by simp [hk, toneC]
    rcases hcase with ⟨hz, hL0⟩ | ⟨tn, ev, hz, hL1, hev⟩
    · refine sforL (Room.hh R') S6 hL0 (JNone cols k a1 Dr I5 it5)
        ⟨vs5, n5, rfl, ent5.mono g6.ke, mc5, mr5⟩ (fun i v _ _ _ _ _ _ hv => by simp at hv) ?_
      intro G7 m7 mu7 h7 tk7 k7 hJ S7
      obtain ⟨vs7, n7, rfl, ent7, mc7, mr7⟩ := hJ
      dsimp only
      repeat (walk1 <;> try dsimp only)
      refine ⟨rfl, .mk, G7, _, _, g6.ke.trans k7, S7, vs7, n7, rfl, ?_, mc7, mr7⟩
      have e : rowN cols (k + 1) = rowN cols k := by rw [rowN, htc, hz]
      rw [e]; exact ent7
    · have e : rowN cols (k + 1) = insR (tn, (k : Int)) (rowN cols k) := by rw [rowN, htc, hz]
      refine sforL (Room.hh R') S6 hL1 (JOne cols k a1 Dr I5 it5)
        ⟨vs5, n5, rfl, by simpa using ent5.mono g6.ke, mc5, mr5⟩ ?_ ?_
      · intro j v7 G7 m7 mu7 I7 it7 s7 hv7 k7 hJ S7 hf7
        have hj : j = 0 ∧ v7 = ev := by
          match j with
          | 0 => exact ⟨rfl, by simpa using hv7.symm⟩
          | j + 1 => simp at hv7
        obtain ⟨rfl, rfl⟩ := hj
        obtain ⟨vs7, n7, rfl, ent7, mc7, mr7⟩ := hJ
        obtain ⟨h7, tk7, rfl⟩ := (Fl.trans Fl.mk hf7).ex
        rw [if_pos rfl] at ent7
        have W7 := (W5.mono g6.ke).mono k7
        dsimp only at S7 ⊢
        repeat (walk1 <;> try dsimp only)
        rename_i h8 S8
        refine insort_spec (R'.mono (by decide)) W7 S8.inn (S8.mu_ (Dr, lstN vs7 n7) (by simp)).1 (S8.mu_ (Dr, lstN vs7 n7) (by simp)).2.2.1 ent7 (sortedE_rises (rowN_rises cols k)) (by have := rowN_length cols k; (first | lia | omega)) (hev.mono k7) ?_
        intro i vs9 n9 h9 tk9 q1 q2 q3 hk9 hD9 ent9
        have S9 := (S8.perm perm3).updExt hk9 hD9
        dsimp only
        repeat (walk1 <;> try dsimp only)
        refine ⟨rfl, .mk, G7, _, _, .refl _, S9.perm perm3', vs9, n9, rfl, ?_, mc7, mr7⟩
        rw [if_neg (by decide), e, ← ins_at (tn, (k : Int)) _ i q1 q2 q3]
        exact ent9
      · intro G7 m7 mu7 h7 tk7 k7 hJ S7
        obtain ⟨vs7, n7, rfl, ent7, mc7, mr7⟩ := hJ
        dsimp only
        repeat (walk1 <;> try dsimp only)
        refine ⟨rfl, .mk, G7, _, _, g6.ke.trans k7, S7, vs7, n7, rfl, by simpa using ent7, mc7, mr7⟩
  · intro G5 m5 mu5 h5 tk5 k5 hJ S5
    obtain ⟨vs5, n5, rfl, ent5, mc5, mr5⟩ := hJ
    have entR := ent5.mono (KE.set (a := Dr) (o := lstN vs5 n5) (S5.mu_ _ (.head _)).2.2.1)
    have W5 := (W.mono (k4.trans k5)).mono (KE.set (a := Dr) (o := lstN vs5 n5) (S5.mu_ _ (.head _)).2.2.1)
    replace S5 := S5.freeze
    have lR : IsL (G5.set Dr (lstN vs5 n5)) Dr vs5 := IsL.ofN (Kn.set_self _ _ _)
    generalize G5.set Dr (lstN vs5 n5) = G6 at entR W5 S5 lR
    have hrow9 := rowN_length cols cols.length
    have hrise := rowN_rises cols cols.length
    have hrange : ∀ e ∈ rowN cols cols.length, 0 ≤ e.1 ∧ e.1 < 5040 := by
      intro e he
      obtain ⟨j, t, _, hb, rfl⟩ := rowN_mem.mp he
      cases hq : cols[j]? with
      | none => rw [hq] at hb; cases hb
      | some c => rw [hq] at hb; exact toneC_range hb
    have hRL : rowL cols = rowN cols cols.length := rfl
    rw [hRL] at hm
    clear ent5
    generalize hrw : rowN cols cols.length = row at *
    have hcount := entR.1
    dsimp only at S5 ⊢
    repeat (walk1 <;> try dsimp only)
    refine wpAny_ListComp (by decide) (by rfl) (by decide) ?_ (by intro _; rfl)
    repeat (walk1 <;> try dsimp only)
    refine scomp (Room.hh R') (St.inn (by assumption)) lR (goes_tuple ?_) (by (first | lia | omega)) (by decide) (by rfl) (fun i G' ys => Ents G' ys ((turnOn row).take i)) (by rw [List.take_zero]; exact All2.nil) ?_ ?_
    · intro v hv
      obtain ⟨i, hi, rfl⟩ := List.mem_iff_getElem.mp hv
      obtain ⟨u, hu, a, _, e, _⟩ := All2.at entR (i := i) (by rw [← entR.1]; exact hi)
      rw [List.getElem?_eq_getElem hi] at hu
      cases hu; exact ⟨a, e⟩
    · intro C i v G' ys m' mu' s' hv hk hJ S' hf
      have hi : i < row.length := by rw [← entR.1]; exact (List.getElem?_eq_some_iff.mp hv).1
      have hv' := entR.2 i v row[i] hv (by simp [hi])
      obtain ⟨a2, vs2, rfl, l2, e2⟩ := hv'.mono hk
      generalize hcc : row[i] = cc at e2
      obtain ⟨tn, pl⟩ := cc
      dsimp only [ent] at e2
      cases e2; rename_i e2; cases e2; rename_i e2; cases e2
      obtain ⟨h9, tk9, rfl⟩ := hf.ex
      dsimp only at S' ⊢
      repeat (walk1 <;> try dsimp only)
      refine snl (by assumption) ?_
      intro a3 G3 h3 k3 il3 _ S3
      refine ⟨rfl, G3, _, k3, S3, ?_⟩
      have hi' : i < (turnOn row).length := by unfold turnOn; simpa using hi
      rw [List.take_add_one, List.getElem?_eq_getElem hi']
      have e : (turnOn row)[i] = (tn + 5040, pl) := by
        show (List.map (fun e : Int × Int => (e.1 + 5040, e.2)) row)[i]'(by simpa using hi) = _
        rw [List.getElem_map, hcc]
      rw [e]
      exact (Ents.mono hJ k3).snoc ⟨a3, _, rfl, il3, .cons _ _ (.cons _ _ .nil)⟩
    intro Dc G7 G8 ys h8 tk8 hJ hk8 hLc hys g8
    have S8 := St.grow (by assumption) g8
    have entT : Ents G8 ys (turnOn row) := by
      have := Ents.mono hJ hk8
      rwa [hcount, List.take_of_length_le (by unfold turnOn; simp)] at this
    dsimp only at S8 ⊢
    refine sadd S8 (lR.mono g8.ke) hLc (by (first | lia | omega)) ?_
    intro aT G9 h9 k9 lT S9
    have kk9 := g8.ke.trans k9
    have W9 := W5.mono kk9
    have lR9 := lR.mono kk9
    have entR9 := entR.mono kk9
    have entT9 : Ents G9 (vs5 ++ ys) (twiceL row) := All2.append (entR.mono kk9) (entT.mono k9)
    dsimp only at S9 ⊢
    repeat (walk1 <;> try dsimp only)
    refine snlM (by assumption) ?_
    intro Dm h10 S10
    dsimp only at S10 ⊢
    repeat (walk1 <;> try dsimp only)
    refine wpAny_For ?_ (by intro _; rfl)
    repeat (walk1 <;> try dsimp only)
    rename_i h11 S11
    refine srange S11 ?_
    intro r12 G12 h12 tk12 k12 hr12 S12
    dsimp only at S12 ⊢
    have W12 := W9.mono k12
    have lR12 := lR9.mono k12
    have lT12 := lT.mono k12
    have entR12 := entR9.mono k12
    have entT12 := entT9.mono k12
    have hsT := sortedE_twice hrise hrange
    have hlT := twiceL_length row
    refine sforR (Room.hh R') S12 hr12 (by (first | lia | omega)) (JSpot row Dr aT Dm)
      ⟨[], 0, rfl, by simpa using All2.nil, mr5, rfl, rfl, _, rfl⟩ ?_ ?_
    · intro spot t13 G13 m13 mu13 I13 it13 s13 hspot k13 hJ S13 hf13
      obtain ⟨vs13, n13, rfl, all13, mr13, mt13, mm13, tc13, mc13⟩ := hJ
      obtain ⟨h13, tk13, rfl⟩ := (Fl.trans Fl.mk hf13).ex
      have W13 := W12.mono k13
      have lR13 := lR12.mono k13
      have lT13 := lT12.mono k13
      have entT13 := entT12.mono k13
      obtain ⟨ve, hve, hLe⟩ := entR12.at (i := spot) hspot
      obtain ⟨ae, vse, rfl, le, ie⟩ := hLe.mono k13
      have hrs : row.getD spot (0, 0) = row[spot] := getD_at hspot
      generalize hcc : row[spot] = cc at ie hrs
      obtain ⟨tn, pl⟩ := cc
      dsimp only [ent] at ie
      cases ie; rename_i ie; cases ie; rename_i ie; cases ie
      dsimp only at S13 ⊢
      repeat (walk1 <;> try dsimp only)
      have ea : ((spot : Int) + 1) = ((spot + 1 : Nat) : Int) := by (first | lia | omega)
      have eb : ((spot : Int) + (row.length : Int)) = ((spot + row.length : Nat) : Int) := by (first | lia | omega)
      rw [ea, eb]
      refine bisectL_spec (R'.mono (by decide)) W13 (St.inn (by assumption)) lT13 entT13 hsT (by (first | lia | omega)) (by (first | lia | omega)) (by (first | lia | omega)) ?_
      intro lo t14 h14 tk14 q1 q2 q3 q4 x14
      have S14 := St.ext (by assumption) x14
      have hcut := ahead_cut hspot q1 q2 (by rw [hrs]; exact q3) (by rw [hrs]; exact q4)
      dsimp only at S14 ⊢
      repeat (walk1 <;> try dsimp only)
      refine sassignC (by decide) (by rfl) (by decide) ?_
      refine ssub ?_ (by intro _ _; rfl)
      repeat (walk1 <;> try dsimp only)
      rw [ea]
      rename_i h15 S15
      refine sslice (a := spot + 1) (b := lo) S15 lT13 (by simp; (first | lia | omega)) (by (first | lia | omega)) (by rw [entT13.1, hlT]; (first | lia | omega)) ?_
      intro aS G16 h16 k16 lS S16
      have hslE : Ents G16 (((vs5 ++ ys).drop (spot + 1)).take (lo - (spot + 1))) (((twiceL row).drop (spot + 1)).take (lo - (spot + 1))) := (entT13.mono k16).cut
      have hslL := hslE.1
      generalize ((vs5 ++ ys).drop (spot + 1)).take (lo - (spot + 1)) = vS at lS hslE hslL
      generalize ((twiceL row).drop (spot + 1)).take (lo - (spot + 1)) = eS at hslE hslL hcut
      have hal : (aheadL row spot).length = eS.length := by rw [← hcut]; simp
      have hal9 : eS.length ≤ 9 := by rw [← hal]; exact ahead_len hrow9 hn
      dsimp only at S16 ⊢
      refine scompA (Room.hh R') S16 lS (goes_tuple ?_) (by (first | lia | omega)) (by decide) (by rfl) (fun i G' zs => IntsAre zs ((eS.map (·.2)).take i)) (by simpa using IntsAre.nil) ?_ ?_
      · intro v hv
        obtain ⟨i, hi, rfl⟩ := List.mem_iff_getElem.mp hv
        obtain ⟨u, hu, a, _, e, _⟩ := All2.at hslE (i := i) (by rw [← hslL]; exact hi)
        rw [List.getElem?_eq_getElem hi] at hu
        cases hu; exact ⟨a, e⟩
      · intro C i v G' zs m' mu' s' hv hk hJ S' hf
        have hi : i < eS.length := by rw [← hslL]; exact (List.getElem?_eq_some_iff.mp hv).1
        have hv' := hslE.2 i v eS[i] hv (by simp [hi])
        obtain ⟨a2, vs2, rfl, l2, e2⟩ := hv'.mono hk
        generalize hc2 : eS[i] = c2 at e2
        obtain ⟨tn2, pl2⟩ := c2
        dsimp only [ent] at e2
        cases e2; rename_i e2; cases e2; rename_i e2; cases e2
        obtain ⟨h9, tk9, rfl⟩ := hf.ex
        dsimp only at S' ⊢
        repeat (walk1 <;> try dsimp only)
        rename_i h17 S17
        refine ⟨rfl, G', _, .refl _, S17, ?_⟩
        have hi' : i < (eS.map (·.2)).length := by simpa using hi
        rw [List.take_add_one, List.getElem?_eq_getElem hi']
        have e : (eS.map (·.2))[i] = pl2 := by rw [List.getElem_map, hc2]
        rw [e]
        exact hJ.append (.cons _ _ .nil)
      intro aA G17 G18 zs h18 tk18 kk18 hJ hk18 hLA hzs S18
      have hA : IntsAre zs (aheadL row spot) := by
        rw [← hcut]
        rwa [hslL, List.take_of_length_le (by simp)] at hJ
      have W18 := (W13.mono k16).mono kk18
      have kk := k16.trans kk18
      generalize haD : aheadL row spot = ahead at hA hal hcut
      have hzl : zs.length = ahead.length := hA.length
      have hal9' : ahead.length ≤ 9 := by (first | lia | omega)
      have hmA : metAt row spot = (List.range ahead.length).flatMap (metFar pl ahead) := by unfold metAt; rw [haD, hrs]
      have hb13 : ((List.range spot).flatMap (metAt row)).length ≤ 405 := metPre_len hrow9 hn (by (first | lia | omega))
      dsimp only
      repeat (walk1 <;> try dsimp only)
      refine wpAny_For ?_ (by intro _; rfl)
      repeat (walk1 <;> try dsimp only)
      refine srange S18 ?_
      intro r19 G19 h19 tk19 k19 hr19 S19
      have W19 := W18.mono k19
      have lA19 := hLA.mono k19
      dsimp only at S19 ⊢
      refine sforR (Room.hh R') S19 hr19 (by (first | lia | omega)) (JFar row spot pl ahead Dr aT Dm aA I13 it13)
        ⟨vs13, n13, rfl, by simpa using all13.mono fun _ _ x => x.mono (kk.trans k19), mr13, mt13, mm13, ⟨tc13, mc13⟩, rfl, _, rfl⟩ ?_ ?_
      · intro far t20 G20 m20 mu20 I20 it20 s20 hfar k20 hJ S20 hf20
        obtain ⟨vs20, n20, rfl, all20, mr20, mt20, mm20, ⟨tc20, mc20⟩, ma20, ⟨to20, mo20⟩⟩ := hJ
        obtain ⟨h20, tk20, rfl⟩ := (Fl.trans Fl.mk hf20).ex
        have W20 := W19.mono k20
        have lA20 := lA19.mono k20
        obtain ⟨tf, hzf⟩ := ints_at hA hfar
        have hbf : ((List.range far).flatMap (metFar pl ahead)).length ≤ 45 := metFar_len (by (first | lia | omega))
        dsimp only at S20 ⊢
        repeat (walk1 <;> try dsimp only)
        rename_i h21 S21
        refine smeth (And.left (S21.mu_ (Dm, lstN vs20 n20) (by simp))) PySem.slot_list_append PySem.type_list_append ?_
        try dsimp only
        repeat (walk1 <;> try dsimp only)
        refine snl S21 ?_
        intro aL G22 h22 k22 ilL _ S22
        have W22 := W20.mono k22
        have lA22 := lA20.mono k22
        dsimp only at S22 ⊢
        repeat (walk1 <;> try dsimp only)
        refine ssortI ilL S22.inn (.cons _ _ (.cons _ _ .nil)) (by simp) ?_
        intro vS2 G23 h23 ns23 g23 hLI23 hp23 hs23
        have S23 := S22.grow g23
        have e23 := srt_eq hp23 hs23
        subst e23
        dsimp only at S23 ⊢
        repeat (walk1 <;> try dsimp only)
        refine sapp (S23.perm perm3) (by rw [all20.1, List.length_append]; (first | lia | omega)) ?_
        intro h24 n24 S24
        replace S24 := S24.perm perm3'
        have kk24 := k22.trans g23.ke
        have all24 := (all20.mono fun _ _ x => x.mono kk24).snoc hLI23
        have W24 := W20.mono kk24
        have lA24 := lA20.mono kk24
        dsimp only at S24 ⊢
        repeat (walk1 <;> try dsimp only)
        refine wpAny_For ?_ (by intro _; rfl)
        repeat (walk1 <;> try dsimp only)
        refine srange S24 ?_
        intro r25 G25 h25 tk25 k25 hr25 S25
        dsimp only at S25 ⊢
        refine sforR (Room.hh R') S25 hr25 (by (first | lia | omega)) (JNear row spot far pl ahead Dr aT Dm aA I20 it20 I13 it13 tc20 to20 t20)
          ⟨_, n24, rfl, by simpa using all24.mono fun _ _ x => x.mono k25, mr20, mt20, mm20, mc20, ma20, mo20, rfl⟩ ?_ ?_
        · intro near t26 G26 m26 mu26 I26 it26 s26 hnear k26 hJ S26 hf26
          obtain ⟨vs26, n26, rfl, all26, mr26, mt26, mm26, mc26, ma26, mo26, mf26⟩ := hJ
          obtain ⟨h26, tk26, rfl⟩ := (Fl.trans Fl.mk hf26).ex
          have W26 := W24.mono (k25.trans k26)
          have lA26 := lA24.mono (k25.trans k26)
          obtain ⟨tnr, hzn⟩ := ints_at hA (i := near) (by (first | lia | omega))
          dsimp only at S26 ⊢
          repeat (walk1 <;> try dsimp only)
          rename_i h27 S27
          refine smeth (And.left (S27.mu_ (Dm, lstN vs26 n26) (by simp))) PySem.slot_list_append PySem.type_list_append ?_
          try dsimp only
          repeat (walk1 <;> try dsimp only)
          refine snl S27 ?_
          intro aL2 G28 h28 k28 ilL2 _ S28
          have W28 := W26.mono k28
          have lA28 := lA26.mono k28
          dsimp only at S28 ⊢
          repeat (walk1 <;> try dsimp only)
          refine ssortI ilL2 S28.inn (.cons _ _ (.cons _ _ (.cons _ _ .nil))) (by simp) ?_
          intro vS3 G29 h29 ns29 g29 hLI29 hp29 hs29
          have S29 := S28.grow g29
          have e29 := srt_eq hp29 hs29
          subst e29
          dsimp only at S29 ⊢
          repeat (walk1 <;> try dsimp only)
          refine sapp (S29.perm perm4) (by rw [all26.1]; simp only [List.length_append, List.length_map, List.length_range, List.length_cons, List.length_nil]; (first | lia | omega)) ?_
          intro h30 n30 S30
          dsimp only at S30 ⊢
          repeat (walk1 <;> try dsimp only)
          refine ⟨rfl, .mk, G29, _, _, k28.trans g29.ke, S30.perm perm4.symm, _, n30, rfl, ?_, mr26, mt26, mm26, mc26, ma26, mo26, mf26⟩
          rw [List.range_succ, List.map_append, ← List.append_assoc]
          exact (all26.mono fun _ _ x => x.mono (k28.trans g29.ke)).snoc hLI29
        · intro G26 m26 mu26 h26 tk26 k26 hJ S26
          obtain ⟨vs26, n26, rfl, all26, mr26, mt26, mm26, mc26, ma26, mo26, mf26⟩ := hJ
          dsimp only
          repeat (walk1 <;> try dsimp only)
          refine ⟨rfl, .mk, G26, _, _, (kk24.trans k25).trans k26, S26, vs26, n26, rfl, ?_, mr26, mt26, mm26, ⟨tc20, mc26⟩, ma26, to20, mo26⟩
          rw [range_succ_flatMap]
          have e : metFar pl ahead far = [srt [pl, ahead.getD far 0]] ++ (List.range far).map fun near => srt [pl, ahead.getD near 0, ahead.getD far 0] := rfl
          rw [e, ← List.append_assoc, ← List.append_assoc]
          exact all26
      · intro G20 m20 mu20 h20 tk20 k20 hJ S20
        obtain ⟨vs20, n20, rfl, all20, mr20, mt20, mm20, hc20, ma20, mo20⟩ := hJ
        dsimp only
        repeat (walk1 <;> try dsimp only)
        refine ⟨rfl, .mk, G20, _, _, (kk.trans k19).trans k20, S20, vs20, n20, rfl, ?_, mr20, mt20, mm20, hc20⟩
        rw [range_succ_flatMap, hmA]
        exact all20
    · intro GD mD muD hD tkD kD hJ SD
      obtain ⟨vsD, nD, rfl, allD, mrD, mtD, mmD, hcD⟩ := hJ
      have WD := W12.mono kD
      dsimp only
      repeat (walk1 <;> try dsimp only)
      have SF := SD.freeze
      refine ssortLL (R'.mono (by decide)) (IsL.ofN (Kn.set_self _ _ _)) SF.inn (allD.mono fun _ _ x => x.mono (KE.set (SD.mu_ _ (.head _)).2.2.1)) (by rw [allD.1]; exact hm) ?_
      intro v xss GE hE tkE gE hll hp hs
      refine ⟨GE, hE, tkE, rfl, (SF.grow gE).gr, xss, hll, ?_, hs⟩
      rw [hRL]; exact hp
end

end
/-! part Pl1 -/
section
/-! hues and points -/
noncomputable def uX : Nat → Int → Int
  | 0, _ => 840 | 1, f => 840 - f | 2, f => -f | 3, _ => -840 | 4, f => f - 840 | _, f => f
noncomputable def uY : Nat → Int → Int
  | 0, f => f | 1, _ => 840 | 2, f => 840 - f | 3, f => -f | 4, _ => -840 | _, f => f - 840
noncomputable def geoOk (r g b : Int) : Bool := match toneZ r g b with
  | none => decide (r = g ∧ g = b)
  | some t => decide (840 * (r - b) = (max r (max g b) - min r (min g b)) * uX (t / 840).toNat (t % 840) ∧ 840 * (g - b) = (max r (max g b) - min r (min g b)) * uY (t / 840).toNat (t % 840))
theorem geo_0 : row9 (fun y => row9 fun z => geoOk 0 y z) = true := by decide +kernel
theorem geo_1 : row9 (fun y => row9 fun z => geoOk 1 y z) = true := by decide +kernel
theorem geo_2 : row9 (fun y => row9 fun z => geoOk 2 y z) = true := by decide +kernel
theorem geo_3 : row9 (fun y => row9 fun z => geoOk 3 y z) = true := by decide +kernel
theorem geo_4 : row9 (fun y => row9 fun z => geoOk 4 y z) = true := by decide +kernel
theorem geo_5 : row9 (fun y => row9 fun z => geoOk 5 y z) = true := by decide +kernel
theorem geo_6 : row9 (fun y => row9 fun z => geoOk 6 y z) = true := by decide +kernel
theorem geo_7 : row9 (fun y => row9 fun z => geoOk 7 y z) = true := by decide +kernel
theorem geo_8 : row9 (fun y => row9 fun z => geoOk 8 y z) = true := by decide +kernel
theorem geo_at {x y z : Int} (hx : in9 x) (hy : in9 y) (hz : in9 z) : geoOk x y z = true := by
  have : x = 0 ∨ x = 1 ∨ x = 2 ∨ x = 3 ∨ x = 4 ∨ x = 5 ∨ x = 6 ∨ x = 7 ∨ x = 8 := by unfold in9 at hx; omega
  rcases this with rfl | rfl | rfl | rfl | rfl | rfl | rfl | rfl | rfl
  · exact row9_at (row9_at geo_0 hy) hz
  · exact row9_at (row9_at geo_1 hy) hz
  · exact row9_at (row9_at geo_2 hy) hz
  · exact row9_at (row9_at geo_3 hy) hz
  · exact row9_at (row9_at geo_4 hy) hz
  · exact row9_at (row9_at geo_5 hy) hz
  · exact row9_at (row9_at geo_6 hy) hz
  · exact row9_at (row9_at geo_7 hy) hz
  · exact row9_at (row9_at geo_8 hy) hz
/-- a point lies in its hue's direction -/
noncomputable def Dir (p : Int × Int) (t : Int) : Prop := ∃ (k : Nat) (f R : Int), k < 6 ∧ 0 ≤ f ∧ f < 840 ∧ t = 840 * k + f ∧ 0 < R ∧ 840 * p.1 = R * uX k f ∧ 840 * p.2 = R * uY k f
theorem dir_of {c : Col} {t : Int} (hc : colOk c) (h : toneC c = some t) : Dir (ptC c) t := by
  have hr := toneC_range h
  have g := geo_at hc.1 hc.2.1 hc.2.2
  unfold geoOk at g
  have h' : toneZ c.1 c.2.1 c.2.2 = some t := h
  rw [h'] at g
  simp only [decide_eq_true_eq] at g
  refine ⟨(t / 840).toNat, t % 840, max c.1 (max c.2.1 c.2.2) - min c.1 (min c.2.1 c.2.2), by omega, by omega, by omega, by omega, ?_, g.1, g.2⟩
  unfold toneZ at h'
  split at h'
  · cases h'
  · omega
theorem grey_of {c : Col} (hc : colOk c) (h : toneC c = none) : ptC c = (0, 0) := by
  have g := geo_at hc.1 hc.2.1 hc.2.2
  unfold geoOk at g
  have h' : toneZ c.1 c.2.1 c.2.2 = none := h
  rw [h'] at g
  simp only [decide_eq_true_eq] at g
  unfold ptC
  rw [g.1, g.2]; simp
/-- the turn from one hue to another, and the crosswise product -/
structure Turn (d C B : Int) : Prop where
  pos : C > 0 ↔ (0 < d ∧ d < 2520) ∨ d < -2520
  neg : C < 0 ↔ (-2520 < d ∧ d < 0) ∨ 2520 < d
  same : d = 0 → B > 0
  opp : d = 2520 ∨ d = -2520 → B < 0
noncomputable def PN (d C : Int) : Prop := (C > 0 ↔ (0 < d ∧ d < 2520) ∨ d < -2520) ∧ (C < 0 ↔ (-2520 < d ∧ d < 0) ∨ 2520 < d)
theorem PN.neg {d C : Int} (h : PN d C) : PN (-d) (-C) := by
  obtain ⟨a, b⟩ := h
  exact ⟨(show -C > 0 ↔ C < 0 by omega).trans (b.trans (by omega)), (show -C < 0 ↔ C > 0 by omega).trans (a.trans (by omega))⟩
theorem six {k : Nat} (h : k < 6) : k = 0 ∨ k = 1 ∨ k = 2 ∨ k = 3 ∨ k = 4 ∨ k = 5 := by omega
/-- a sixth of a turn on -/
theorem u_rot {k : Nat} (h : k + 1 < 6) (f : Int) : uX (k + 1) f = uX k f - uY k f ∧ uY (k + 1) f = uX k f := by
  rcases six (Nat.lt_of_succ_lt h) with rfl | rfl | rfl | rfl | rfl | rfl
  · exact ⟨rfl, rfl⟩
  · exact ⟨show -f = 840 - f - 840 by omega, rfl⟩
  · exact ⟨show -840 = -f - (840 - f) by omega, rfl⟩
  · exact ⟨show f - 840 = -840 - -f by omega, rfl⟩
  · exact ⟨show f = f - 840 - -840 by omega, rfl⟩
  · exact absurd h (by decide)
theorem turn0 {k : Nat} {f f' : Int} (hk : k < 6) (h0 : 0 ≤ f) (h1 : f < 840) (h0' : 0 ≤ f') (h1' : f' < 840) : PN (840 * k + f' - f) (840 * uY k f' - f * uX k f') := by
  have e1 : 0 ≤ f * f' := Int.mul_nonneg h0 h0'
  have e2 : 0 < (840 - f) * (840 - f') := Int.mul_pos (by omega) (by omega)
  have e3 : 0 ≤ f * (840 - f') := Int.mul_nonneg h0 (by omega)
  have e4 : 0 ≤ (840 - f) * f' := Int.mul_nonneg (by omega) h0'
  simp only [Int.mul_sub, Int.sub_mul] at e2 e3 e4
  generalize hM : f * f' = M at e1 e2 e3 e4
  rcases six hk with rfl | rfl | rfl | rfl | rfl | rfl <;>
    (simp only [uX, uY, Int.mul_sub, Int.mul_neg, hM]; clear hk hM; constructor <;> omega)
theorem turnC {f f' : Int} (h0 : 0 ≤ f) (h1 : f < 840) (h0' : 0 ≤ f') (h1' : f' < 840) : ∀ k k' : Nat, k < 6 → k' < 6 →
    PN (840 * k' + f' - (840 * k + f)) (uX k f * uY k' f' - uY k f * uX k' f')
  | 0, k', _, hk' => by
    have := turn0 hk' h0 h1 h0' h1'
    rwa [show 840 * ((0 : Nat) : Int) + f = f by omega]
  | k + 1, 0, hk, _ => by
    have := (turn0 hk h0' h1' h0 h1).neg
    rwa [show -(840 * ((k + 1 : Nat) : Int) + f - f') = 840 * ((0 : Nat) : Int) + f' - (840 * ((k + 1 : Nat) : Int) + f) by omega,
      show -(840 * uY (k + 1) f - f' * uX (k + 1) f) = uX (k + 1) f * uY 0 f' - uY (k + 1) f * uX 0 f' by show _ = uX (k + 1) f * f' - uY (k + 1) f * 840; rw [Int.mul_comm f', Int.mul_comm 840, Int.neg_sub]] at this
  | k + 1, k' + 1, hk, hk' => by
    have := turnC h0 h1 h0' h1' k k' (by omega) (by omega)
    rw [(u_rot hk f).1, (u_rot hk f).2, (u_rot hk' f').1, (u_rot hk' f').2]
    rwa [show 840 * ((k' + 1 : Nat) : Int) + f' - (840 * ((k + 1 : Nat) : Int) + f) = 840 * (k' : Int) + f' - (840 * k + f) by omega,
      show (uX k f - uY k f) * uX k' f' - uX k f * (uX k' f' - uY k' f') = uX k f * uY k' f' - uY k f * uX k' f' by
        rw [Int.sub_mul, Int.mul_sub]; generalize uX k f * uX k' f' = a; generalize uX k f * uY k' f' = b; generalize uY k f * uX k' f' = c; omega]
/-- half a turn on -/
theorem u_half {k : Nat} (h : k < 3) (f : Int) : uX (k + 3) f = -uX k f ∧ uY (k + 3) f = -uY k f := by
  have : k = 0 ∨ k = 1 ∨ k = 2 := by omega
  rcases this with rfl | rfl | rfl
  · exact ⟨rfl, rfl⟩
  · exact ⟨show f - 840 = -(840 - f) by omega, rfl⟩
  · exact ⟨show f = - -f by omega, show f - 840 = -(840 - f) by omega⟩
theorem u_sq {k : Nat} {f : Int} (h0 : 0 ≤ f) (h1 : f < 840) : uX k f * uX k f + uY k f * uY k f > 0 := by
  have n : ∀ a : Int, 0 ≤ a * a := fun a => by
    rcases Int.le_total 0 a with q | q
    · exact Int.mul_nonneg q q
    · exact Int.mul_nonneg_of_nonpos_of_nonpos q q
  have l : ∀ a b : Int, a ≠ 0 ∨ b ≠ 0 → a * a + b * b > 0 := fun a b h => by
    have na := n a
    have nb := n b
    rcases h with h | h
    · have : a * a ≠ 0 := Int.mul_ne_zero h h
      omega
    · have : b * b ≠ 0 := Int.mul_ne_zero h h
      omega
  refine l _ _ ?_
  rcases Nat.lt_or_ge k 6 with hk | hk
  · rcases six hk with rfl | rfl | rfl | rfl | rfl | rfl
    · exact .inl (show (840 : Int) ≠ 0 by decide)
    · exact .inr (show (840 : Int) ≠ 0 by decide)
    · exact .inr (show 840 - f ≠ 0 by omega)
    · exact .inl (show (-840 : Int) ≠ 0 by decide)
    · exact .inr (show (-840 : Int) ≠ 0 by decide)
    · exact .inr (show f - 840 ≠ 0 by omega)
  · obtain ⟨j, rfl⟩ : ∃ j, k = j + 5 := ⟨k - 5, by omega⟩
    exact .inr (show f - 840 ≠ 0 by omega)
theorem turnU (k k' : Nat) (f f' : Int) (hk : k < 6) (hk' : k' < 6) (h0 : 0 ≤ f) (h1 : f < 840) (h0' : 0 ≤ f') (h1' : f' < 840) :
    Turn (840 * k' + f' - (840 * k + f)) (uX k f * uY k' f' - uY k f * uX k' f') (uX k f * uX k' f' + uY k f * uY k' f') := by
  have P := turnC h0 h1 h0' h1' k k' hk hk'
  refine ⟨P.1, P.2, fun h => ?_, fun h => ?_⟩
  · obtain rfl : k = k' := by omega
    obtain rfl : f = f' := by omega
    exact u_sq h0 h1
  · have S := u_sq (k := k) h0 h1
    rcases h with h | h
    · obtain rfl : k' = k + 3 := by omega
      obtain rfl : f = f' := by omega
      rw [(u_half (by omega) f).1, (u_half (by omega) f).2, Int.mul_neg, Int.mul_neg]
      clear P; omega
    · obtain rfl : k = k' + 3 := by omega
      obtain rfl : f = f' := by omega
      rw [(u_half (by omega) f).1, (u_half (by omega) f).2, Int.neg_mul, Int.neg_mul]
      have S' := u_sq (k := k') h0 h1
      clear P S; omega
theorem mul_sign {R Y Z : Int} (hR : 0 < R) (h : 705600 * Z = R * Y) : (Z > 0 ↔ Y > 0) ∧ (Z < 0 ↔ Y < 0) := by
  rcases Int.lt_trichotomy Y 0 with q | q | q
  · have := Int.mul_neg_of_pos_of_neg hR q
    omega
  · subst q; rw [Int.mul_zero] at h; omega
  · have := Int.mul_pos hR q
    omega
theorem turn_of {p q : Int × Int} {s t : Int} (hp : Dir p s) (hq : Dir q t) : Turn (t - s) (p.1 * q.2 - p.2 * q.1) (p.1 * q.1 + p.2 * q.2) := by
  obtain ⟨k, f, R, a1, a2, a3, rfl, a5, a6, a7⟩ := hp
  obtain ⟨k', f', R', b1, b2, b3, rfl, b5, b6, b7⟩ := hq
  obtain ⟨x, y⟩ := p
  obtain ⟨x', y'⟩ := q
  dsimp only at *
  have T := turnU k k' f f' a1 b1 a2 a3 b2 b3
  generalize uX k f = X at *
  generalize uY k f = Y at *
  generalize uX k' f' = X' at *
  generalize uY k' f' = Y' at *
  have hR := Int.mul_pos a5 b5
  have m1 := mul_sign (Z := x * y' - y * x') hR (show 705600 * (x * y' - y * x') = (R * R') * (X * Y' - Y * X') by grind)
  have m2 := mul_sign (Z := x * x' + y * y') hR (show 705600 * (x * x' + y * y') = (R * R') * (X * X' + Y * Y') by grind)
  exact ⟨m1.1.trans T.pos, m1.2.trans T.neg, fun h => m2.1.mpr (T.same h), fun h => m2.2.mpr (T.opp h)⟩

end
/-! part Pl2 -/
section
/-- f lies less than half a turn ahead of e -/
noncomputable def Ah (e f : Int × Int) : Prop := (e.1 < f.1 ∧ f.1 < e.1 + 2520) ∨ (e.1 = f.1 ∧ e.2 < f.2) ∨ f.1 + 5040 < e.1 + 2520
theorem Turn.zero {d C B : Int} (T : Turn d C B) (h1 : -5040 < d) (h2 : d < 5040) : (C = 0 ∧ B > 0) ↔ d = 0 := by
  have p := mt T.pos.mpr
  have n := mt T.neg.mpr
  constructor
  · rintro ⟨hC, hB⟩
    have p' := p (by (first | lia | omega))
    have n' := n (by (first | lia | omega))
    have o : ¬ (d = 2520 ∨ d = -2520) := fun h => Int.lt_asymm (T.opp h) hB
    clear T hC hB p n; (first | lia | omega)
  · intro h
    have p' := mt T.pos.mp (by rw [h]; decide)
    have n' := mt T.neg.mp (by rw [h]; decide)
    exact ⟨Int.le_antisymm (Int.not_lt.mp p') (Int.not_lt.mp n'), T.same h⟩
/-- a later place, ahead of an earlier one -/
theorem ah_on {s t i j C B : Int} (T : Turn (t - s) C B) (h1 : -5040 < t - s) (h2 : t - s < 5040) (hij : i < j) : Ah (s, i) (t, j) ↔ C > 0 ∨ (C = 0 ∧ B > 0) := by
  rw [T.zero h1 h2, T.pos]; unfold Ah; dsimp only
  clear T
  constructor
  · rintro (h | h | h)
    · left; left; (first | lia | omega)
    · right; (first | lia | omega)
    · left; right; (first | lia | omega)
  · rintro ((h | h) | h)
    · left; (first | lia | omega)
    · right; right; (first | lia | omega)
    · right; left; (first | lia | omega)
theorem ah_back {s t i j C B : Int} (T : Turn (t - s) C B) (hij : i < j) : Ah (t, j) (s, i) ↔ C < 0 := by
  rw [T.neg]; unfold Ah; dsimp only
  clear T
  constructor
  · rintro (h | h | h)
    · left; (first | lia | omega)
    · exact absurd h.2 (by (first | lia | omega))
    · right; (first | lia | omega)
  · rintro (h | h)
    · left; (first | lia | omega)
    · right; right; (first | lia | omega)
/-- the same, the turn told from the later place -/
theorem ah_on' {s t i j C B : Int} (T : Turn (s - t) C B) (h1 : -5040 < s - t) (h2 : s - t < 5040) (hij : i < j) : Ah (s, i) (t, j) ↔ C < 0 ∨ (C = 0 ∧ B > 0) := by
  rw [T.zero h1 h2, T.neg]; unfold Ah; dsimp only
  clear T
  constructor
  · rintro (h | h | h)
    · left; left; (first | lia | omega)
    · right; (first | lia | omega)
    · left; right; (first | lia | omega)
  · rintro ((h | h) | h)
    · left; (first | lia | omega)
    · right; right; (first | lia | omega)
    · right; left; (first | lia | omega)
theorem ah_back' {s t i j C B : Int} (T : Turn (s - t) C B) (hij : i < j) : Ah (t, j) (s, i) ↔ C > 0 := by
  rw [T.pos]; unfold Ah; dsimp only
  clear T
  constructor
  · rintro (h | h | h)
    · left; (first | lia | omega)
    · exact absurd h.2 (by (first | lia | omega))
    · right; (first | lia | omega)
  · rintro (h | h)
    · left; (first | lia | omega)
    · right; right; (first | lia | omega)
theorem two_iff {p q : Int × Int} {s t i j : Int} (hp : Dir p s) (hq : Dir q t) (hs : 0 ≤ s ∧ s < 5040) (ht : 0 ≤ t ∧ t < 5040) (hij : i < j) : twoB p q = true ↔ Ah (s, i) (t, j) ∨ Ah (t, j) (s, i) := by
  have T := turn_of hp hq
  rw [ah_on T (by (first | lia | omega)) (by (first | lia | omega)) hij, ah_back T hij]
  unfold twoB
  simp only [Bool.or_eq_true, decide_eq_true_eq]
  generalize p.1 * q.2 - p.2 * q.1 = C
  generalize p.1 * q.1 + p.2 * q.2 = B
  (first | lia | omega)
theorem two_grey {p : Int × Int} : twoB (0, 0) p = false ∧ twoB p (0, 0) = false := by unfold twoB; simp
theorem thr_iff {lo hi : Int} {x y z : Bool} : thr lo hi x y z = true ↔ (lo = 0 ∧ hi = 0 ∧ x = true ∧ y = true ∧ z = true) ∨ (lo < 0 ∧ hi > 0) := by
  unfold thr
  split
  · rename_i h
    simp [h.1, h.2, and_assoc]
  · simp only [Bool.and_eq_true, decide_eq_true_eq]; (first | lia | omega)
/-! a turn is one of four kinds: 0 to the left, 1 to the right, 2 none, 3 a half -/
structure Kd (k : Fin 4) (C B e : Int) : Prop where
  p : C > 0 ↔ k = 0
  n : C < 0 ↔ k = 1
  z : (C = 0 ∧ B > 0) ↔ k = 2
  r0 : k = 0 → 0 < e ∧ e < 2520
  r1 : k = 1 → 2520 < e ∧ e < 5040
  r2 : k = 2 → e = 0
  r3 : k = 3 → e = 2520
theorem Turn.kd {d C B : Int} (T : Turn d C B) (h1 : -5040 < d) (h2 : d < 5040) : ∃ (k : Fin 4) (e m : Int), d = e + 5040 * m ∧ Kd k C B e := by
  have z := T.zero h1 h2
  have p := T.pos
  have n := T.neg
  clear T
  have pos : (0 < d ∧ d < 2520) ∨ d < -2520 → ∀ e, 0 < e ∧ e < 2520 → Kd 0 C B e := fun h e he => by
    have c := p.mpr h
    refine ⟨by simp [c], iff_of_false (by (first | lia | omega)) (by decide), iff_of_false (by (first | lia | omega)) (by decide), fun _ => he, ?_, ?_, ?_⟩ <;> intro q <;> exact absurd q (by decide)
  have neg : (-2520 < d ∧ d < 0) ∨ 2520 < d → ∀ e, 2520 < e ∧ e < 5040 → Kd 1 C B e := fun h e he => by
    have c := n.mpr h
    refine ⟨iff_of_false (by (first | lia | omega)) (by decide), by simp [c], iff_of_false (by (first | lia | omega)) (by decide), ?_, fun _ => he, ?_, ?_⟩ <;> intro q <;> exact absurd q (by decide)
  have opp : d = 2520 ∨ d = -2520 → Kd 3 C B 2520 := fun h => by
    have a := mt z.mp (by (first | lia | omega))
    have b := mt p.mp (by (first | lia | omega))
    have c := mt n.mp (by (first | lia | omega))
    refine ⟨iff_of_false b (by decide), iff_of_false c (by decide), iff_of_false a (by decide), ?_, ?_, ?_, fun _ => rfl⟩ <;> intro q <;> exact absurd q (by decide)
  have same : d = 0 → Kd 2 C B 0 := fun h => by
    have a := z.mpr h
    refine ⟨iff_of_false (by (first | lia | omega)) (by decide), iff_of_false (by (first | lia | omega)) (by decide), by simp [a], ?_, ?_, fun _ => rfl, ?_⟩ <;> intro q <;> exact absurd q (by decide)
  clear z p n
  rcases Int.lt_trichotomy d 0 with q | q | q
  · rcases Int.lt_trichotomy d (-2520) with x | x | x
    · exact ⟨0, d + 5040, -1, by (first | lia | omega), pos (.inr x) _ (by (first | lia | omega))⟩
    · exact ⟨3, 2520, -1, by (first | lia | omega), opp (.inr x)⟩
    · exact ⟨1, d + 5040, -1, by (first | lia | omega), neg (.inl ⟨x, q⟩) _ (by (first | lia | omega))⟩
  · exact ⟨2, 0, 0, by (first | lia | omega), same q⟩
  · rcases Int.lt_trichotomy d 2520 with x | x | x
    · exact ⟨0, d, 0, by (first | lia | omega), pos (.inl ⟨q, x⟩) _ ⟨q, x⟩⟩
    · exact ⟨3, 2520, 0, by (first | lia | omega), opp (.inl x)⟩
    · exact ⟨1, d, 0, by (first | lia | omega), neg (.inr x) _ ⟨x, h2⟩⟩
noncomputable def badK : List (Fin 4 × Fin 4 × Fin 4) := [(0, 0, 2), (0, 1, 3), (0, 2, 2), (0, 3, 2), (1, 2, 1), (1, 2, 2), (1, 2, 3), (1, 3, 0), (2, 0, 2), (2, 1, 1), (2, 1, 2), (2, 2, 1), (2, 3, 1), (2, 3, 2), (3, 0, 1)]
theorem kd_tbl : ∀ a b c : Fin 4, (a, b, c) ∉ badK →
    (((a = 2 ∧ b = 2 ∧ c = 2) ∨ ((b = 1 ∨ c = 1 ∨ a = 1) ∧ (b = 0 ∨ c = 0 ∨ a = 0))) ↔
      ((a = 0 ∨ a = 2) ∧ (c = 1 ∨ c = 2)) ∨ (a = 1 ∧ (b = 0 ∨ b = 2)) ∨ (c = 0 ∧ b = 1)) := by decide
theorem kd_ok {a b c : Fin 4} {C1 B1 e1 C2 B2 e2 C3 B3 e3 m : Int} (h1 : Kd a C1 B1 e1) (h2 : Kd b C2 B2 e2) (h3 : Kd c C3 B3 e3) (h : e1 + e2 + e3 = 5040 * m) : (a, b, c) ∉ badK := by
  intro hb
  have p1 := h1.r0; have q1 := h1.r1; have r1 := h1.r2; have s1 := h1.r3
  have p2 := h2.r0; have q2 := h2.r1; have r2 := h2.r2; have s2 := h2.r3
  have p3 := h3.r0; have q3 := h3.r1; have r3 := h3.r2; have s3 := h3.r3
  clear h1 h2 h3
  simp only [badK, List.mem_cons, List.not_mem_nil, or_false, Prod.mk.injEq] at hb
  rcases hb with ⟨rfl, rfl, rfl⟩ | ⟨rfl, rfl, rfl⟩ | ⟨rfl, rfl, rfl⟩ | ⟨rfl, rfl, rfl⟩ | ⟨rfl, rfl, rfl⟩ | ⟨rfl, rfl, rfl⟩ | ⟨rfl, rfl, rfl⟩ | ⟨rfl, rfl, rfl⟩ | ⟨rfl, rfl, rfl⟩ | ⟨rfl, rfl, rfl⟩ | ⟨rfl, rfl, rfl⟩ | ⟨rfl, rfl, rfl⟩ | ⟨rfl, rfl, rfl⟩ | ⟨rfl, rfl, rfl⟩ | ⟨rfl, rfl, rfl⟩
  · have := p1 rfl; have := p2 rfl; have := r3 rfl; clear p1 q1 r1 s1 p2 q2 r2 s2 p3 q3 r3 s3; (first | lia | omega)
  · have := p1 rfl; have := q2 rfl; have := s3 rfl; clear p1 q1 r1 s1 p2 q2 r2 s2 p3 q3 r3 s3; (first | lia | omega)
  · have := p1 rfl; have := r2 rfl; have := r3 rfl; clear p1 q1 r1 s1 p2 q2 r2 s2 p3 q3 r3 s3; (first | lia | omega)
  · have := p1 rfl; have := s2 rfl; have := r3 rfl; clear p1 q1 r1 s1 p2 q2 r2 s2 p3 q3 r3 s3; (first | lia | omega)
  · have := q1 rfl; have := r2 rfl; have := q3 rfl; clear p1 q1 r1 s1 p2 q2 r2 s2 p3 q3 r3 s3; (first | lia | omega)
  · have := q1 rfl; have := r2 rfl; have := r3 rfl; clear p1 q1 r1 s1 p2 q2 r2 s2 p3 q3 r3 s3; (first | lia | omega)
  · have := q1 rfl; have := r2 rfl; have := s3 rfl; clear p1 q1 r1 s1 p2 q2 r2 s2 p3 q3 r3 s3; (first | lia | omega)
  · have := q1 rfl; have := s2 rfl; have := p3 rfl; clear p1 q1 r1 s1 p2 q2 r2 s2 p3 q3 r3 s3; (first | lia | omega)
  · have := r1 rfl; have := p2 rfl; have := r3 rfl; clear p1 q1 r1 s1 p2 q2 r2 s2 p3 q3 r3 s3; (first | lia | omega)
  · have := r1 rfl; have := q2 rfl; have := q3 rfl; clear p1 q1 r1 s1 p2 q2 r2 s2 p3 q3 r3 s3; (first | lia | omega)
  · have := r1 rfl; have := q2 rfl; have := r3 rfl; clear p1 q1 r1 s1 p2 q2 r2 s2 p3 q3 r3 s3; (first | lia | omega)
  · have := r1 rfl; have := r2 rfl; have := q3 rfl; clear p1 q1 r1 s1 p2 q2 r2 s2 p3 q3 r3 s3; (first | lia | omega)
  · have := r1 rfl; have := s2 rfl; have := q3 rfl; clear p1 q1 r1 s1 p2 q2 r2 s2 p3 q3 r3 s3; (first | lia | omega)
  · have := r1 rfl; have := s2 rfl; have := r3 rfl; clear p1 q1 r1 s1 p2 q2 r2 s2 p3 q3 r3 s3; (first | lia | omega)
  · have := s1 rfl; have := p2 rfl; have := q3 rfl; clear p1 q1 r1 s1 p2 q2 r2 s2 p3 q3 r3 s3; (first | lia | omega)
theorem min3_neg {a b c : Int} : min a (min b c) < 0 ↔ a < 0 ∨ b < 0 ∨ c < 0 := by
  constructor
  · intro h
    rcases min3_cases a b c with q | q | q
    · exact .inl (q ▸ h)
    · exact .inr (.inl (q ▸ h))
    · exact .inr (.inr (q ▸ h))
  · obtain ⟨h1, h2, h3⟩ := min3_le a b c
    rintro (h | h | h)
    · exact Int.lt_of_le_of_lt h1 h
    · exact Int.lt_of_le_of_lt h2 h
    · exact Int.lt_of_le_of_lt h3 h
theorem max3_pos {a b c : Int} : max a (max b c) > 0 ↔ a > 0 ∨ b > 0 ∨ c > 0 := by
  constructor
  · intro h
    rcases max3_cases a b c with q | q | q
    · exact .inl (q ▸ h)
    · exact .inr (.inl (q ▸ h))
    · exact .inr (.inr (q ▸ h))
  · obtain ⟨h1, h2, h3⟩ := le_max3 a b c
    rintro (h | h | h)
    · exact Int.lt_of_lt_of_le h h1
    · exact Int.lt_of_lt_of_le h h2
    · exact Int.lt_of_lt_of_le h h3
theorem zero3 {a b c : Int} : (min a (min b c) = 0 ∧ max a (max b c) = 0) ↔ a = 0 ∧ b = 0 ∧ c = 0 := by
  constructor
  · rintro ⟨q1, q2⟩
    obtain ⟨h1, h2, h3⟩ := le_max3 a b c
    obtain ⟨k1, k2, k3⟩ := min3_le a b c
    rw [q2] at h1 h2 h3
    rw [q1] at k1 k2 k3
    exact ⟨Int.le_antisymm h1 k1, Int.le_antisymm h2 k2, Int.le_antisymm h3 k3⟩
  · rintro ⟨rfl, rfl, rfl⟩; exact ⟨rfl, rfl⟩
theorem three_iff {p q r : Int × Int} {s t u i j k : Int} (hp : Dir p s) (hq : Dir q t) (hr : Dir r u) (hs : 0 ≤ s ∧ s < 5040) (ht : 0 ≤ t ∧ t < 5040) (hu : 0 ≤ u ∧ u < 5040) (hij : i < j) (hjk : j < k) :
    threeB p q r = true ↔ (Ah (s, i) (t, j) ∧ Ah (s, i) (u, k)) ∨ (Ah (t, j) (s, i) ∧ Ah (t, j) (u, k)) ∨ (Ah (u, k) (s, i) ∧ Ah (u, k) (t, j)) := by
  have T1 := turn_of hp hq
  have T2 := turn_of hq hr
  have T3 := turn_of hr hp
  have b1 : -5040 < t - s ∧ t - s < 5040 := by (first | lia | omega)
  have b2 : -5040 < u - t ∧ u - t < 5040 := by (first | lia | omega)
  have b3 : -5040 < s - u ∧ s - u < 5040 := by (first | lia | omega)
  have hik := Int.lt_trans hij hjk
  rw [ah_on T1 b1.1 b1.2 hij, ah_back T1 hij, ah_on T2 b2.1 b2.2 hjk, ah_back T2 hjk, ah_on' T3 b3.1 b3.2 hik, ah_back' T3 hik]
  obtain ⟨k1, e1, m1, d1, K1⟩ := T1.kd b1.1 b1.2
  obtain ⟨k2, e2, m2, d2, K2⟩ := T2.kd b2.1 b2.2
  obtain ⟨k3, e3, m3, d3, K3⟩ := T3.kd b3.1 b3.2
  have ok := kd_tbl k1 k2 k3 (kd_ok K1 K2 K3 (m := -(m1 + m2 + m3)) (by clear K1 K2 K3 T1 T2 T3; (first | lia | omega)))
  unfold threeB
  rw [thr_iff]
  unfold lo3 hi3 crossP besideP
  simp only [decide_eq_true_eq]
  generalize p.1 * q.2 - p.2 * q.1 = C1 at *
  generalize p.1 * q.1 + p.2 * q.2 = B1 at *
  generalize q.1 * r.2 - q.2 * r.1 = C2 at *
  generalize q.1 * r.1 + q.2 * r.2 = B2 at *
  generalize r.1 * p.2 - r.2 * p.1 = C3 at *
  generalize r.1 * p.1 + r.2 * p.2 = B3 at *
  rw [min3_neg, max3_pos, K1.z, K2.z, K3.z, K1.p, K2.p, K3.p, K1.n, K2.n, K3.n, ← ok, ← K1.z, ← K2.z, ← K3.z]
  refine or_congr ?_ Iff.rfl
  rw [← and_assoc, zero3]
  clear K1 K2 K3 ok T1 T2 T3 d1 d2 d3 b1 b2 b3 hp hq hr hs ht hu hij hjk hik
  constructor
  · rintro ⟨⟨a, b, c⟩, x, y, z⟩; exact ⟨⟨c, x⟩, ⟨a, y⟩, ⟨b, z⟩⟩
  · rintro ⟨⟨c, x⟩, ⟨a, y⟩, ⟨b, z⟩⟩; exact ⟨⟨a, b, c⟩, x, y, z⟩
theorem three_grey {p q r : Int × Int} (h : p = (0, 0) ∨ q = (0, 0) ∨ r = (0, 0)) : threeB p q r = false := by
  rw [Bool.eq_false_iff]
  intro hh
  unfold threeB at hh
  rw [thr_iff] at hh
  unfold lo3 hi3 crossP besideP at hh
  simp only [decide_eq_true_eq] at hh
  rw [min3_neg, max3_pos] at hh
  rcases h with rfl | rfl | rfl <;> simp at hh <;> (first | lia | omega)

end
/-! part Pl3 -/
section
theorem srt_congr {a b : List Int} (p : a.Perm b) : srt a = srt b := by
  refine srt_eq ((srt_perm a).trans p) ?_
  have := List.pairwise_mergeSort (le := fun a b : Int => decide (a ≤ b)) (fun a b c h1 h2 => by simp only [decide_eq_true_eq] at *; (first | lia | omega)) (fun a b => by simp only [Bool.or_eq_true, decide_eq_true_eq]; (first | lia | omega)) a
  exact this.imp fun h => by simpa using h
theorem mem_srt {a : List Int} {x : Int} : x ∈ srt a ↔ x ∈ a := (srt_perm a).mem_iff
theorem len_srt (a : List Int) : (srt a).length = a.length := (srt_perm a).length_eq
theorem Ah.anti {e f : Int × Int} (h : Ah e f) (k : Ah f e) : False := by unfold Ah at *; (first | lia | omega)
theorem Ah.irrefl {e : Int × Int} (h : Ah e e) : False := h.anti h
/-! the combinations of one with those ahead of it -/
noncomputable def metOf (own : Int) (ahead : List Int) : List (List Int) := (List.range ahead.length).flatMap (metFar own ahead)
theorem gD {l : List Int} {i : Nat} (h : i < l.length) : l.getD i 0 = l[i] := by simp [List.getD, h]
theorem nd_ne {l : List Int} (hn : l.Nodup) {i j : Nat} (hi : i < l.length) (hj : j < l.length) (h : i ≠ j) : l.getD i 0 ≠ l.getD j 0 := by
  rw [gD hi, gD hj]
  intro q
  exact h ((List.getElem_inj hn).mp q)
theorem mem_metFar {own : Int} {ahead : List Int} {far : Nat} {x : List Int} : x ∈ metFar own ahead far ↔ x = srt [own, ahead.getD far 0] ∨ ∃ near, near < far ∧ x = srt [own, ahead.getD near 0, ahead.getD far 0] := by
  unfold metFar
  rw [List.mem_cons, List.mem_map]
  simp only [List.mem_range]
  constructor
  · rintro (h | ⟨n, h, rfl⟩)
    · exact .inl h
    · exact .inr ⟨n, h, rfl⟩
  · rintro (h | ⟨n, h, rfl⟩)
    · exact .inl h
    · exact .inr ⟨n, h, rfl⟩
theorem mem_metOf {own : Int} {ahead : List Int} (hn : ahead.Nodup) {x : List Int} : x ∈ metOf own ahead ↔ (∃ a, a ∈ ahead ∧ x = srt [own, a]) ∨ ∃ a b, a ∈ ahead ∧ b ∈ ahead ∧ a ≠ b ∧ x = srt [own, a, b] := by
  unfold metOf
  rw [List.mem_flatMap]
  simp only [List.mem_range, mem_metFar]
  constructor
  · rintro ⟨far, hf, rfl | ⟨near, hn', rfl⟩⟩
    · exact .inl ⟨_, by rw [gD hf]; exact List.getElem_mem hf, rfl⟩
    · exact .inr ⟨_, _, by rw [gD (by (first | lia | omega))]; exact List.getElem_mem _, by rw [gD hf]; exact List.getElem_mem hf, nd_ne hn (by (first | lia | omega)) hf (by (first | lia | omega)), rfl⟩
  · rintro (⟨a, ha, rfl⟩ | ⟨a, b, ha, hb, hab, rfl⟩)
    · obtain ⟨i, hi, rfl⟩ := List.mem_iff_getElem.mp ha
      exact ⟨i, hi, .inl (by rw [gD hi])⟩
    · obtain ⟨i, hi, rfl⟩ := List.mem_iff_getElem.mp ha
      obtain ⟨j, hj, rfl⟩ := List.mem_iff_getElem.mp hb
      rcases Nat.lt_trichotomy i j with q | q | q
      · exact ⟨j, hj, .inr ⟨i, q, by rw [gD hi, gD hj]⟩⟩
      · subst q; exact absurd rfl hab
      · exact ⟨i, hi, .inr ⟨j, q, by rw [gD hi, gD hj]; exact srt_congr (.cons _ (.swap _ _ _))⟩⟩
theorem metOf_nodup {own : Int} {ahead : List Int} (hn : ahead.Nodup) (ho : own ∉ ahead) : (metOf own ahead).Nodup := by
  have own_ne : ∀ {i}, i < ahead.length → ahead.getD i 0 ≠ own := fun {i} hi q => ho (by rw [← q, gD hi]; exact List.getElem_mem hi)
  unfold metOf
  rw [List.nodup_iff_pairwise_ne, List.pairwise_flatMap]
  constructor
  · intro far hf
    rw [List.mem_range] at hf
    unfold metFar
    refine List.pairwise_cons.mpr ⟨fun x hx => ?_, ?_⟩
    · obtain ⟨near, _, rfl⟩ := List.mem_map.mp hx
      intro q
      have := congrArg List.length q
      rw [len_srt, len_srt] at this
      simp at this
    · rw [List.pairwise_map]
      refine List.pairwise_lt_range.imp_of_mem fun {i j} hi hj hij q => ?_
      rw [List.mem_range] at hi hj
      have hm : ahead.getD i 0 ∈ srt [own, ahead.getD j 0, ahead.getD far 0] := by rw [← q, mem_srt]; simp
      rw [mem_srt] at hm
      simp only [List.mem_cons, List.not_mem_nil, or_false] at hm
      rcases hm with q | q | q
      · exact own_ne (by (first | lia | omega)) q
      · exact nd_ne hn (by (first | lia | omega)) (by (first | lia | omega)) (by (first | lia | omega)) q
      · exact nd_ne hn (by (first | lia | omega)) (by (first | lia | omega)) (by (first | lia | omega)) q
  · refine List.pairwise_lt_range.imp_of_mem fun {i j} hi hj hij x hx y hy q => ?_
    subst q
    rw [List.mem_range] at hi hj
    have hm : ahead.getD j 0 ∈ x := by
      rcases mem_metFar.mp hy with rfl | ⟨n, _, rfl⟩ <;> (rw [mem_srt]; simp)
    rcases mem_metFar.mp hx with rfl | ⟨n, hn', rfl⟩
    · rw [mem_srt] at hm
      simp only [List.mem_cons, List.not_mem_nil, or_false] at hm
      rcases hm with q | q
      · exact own_ne (by (first | lia | omega)) q
      · exact nd_ne hn (by (first | lia | omega)) (by (first | lia | omega)) (by (first | lia | omega)) q
    · rw [mem_srt] at hm
      simp only [List.mem_cons, List.not_mem_nil, or_false] at hm
      rcases hm with q | q | q
      · exact own_ne (by (first | lia | omega)) q
      · exact nd_ne hn (by (first | lia | omega)) (by (first | lia | omega)) (by (first | lia | omega)) q
      · exact nd_ne hn (by (first | lia | omega)) (by (first | lia | omega)) (by (first | lia | omega)) q
/-! a row -/
structure RowOk (row : List (Int × Int)) : Prop where
  up : row.Pairwise rises
  rng : ∀ e ∈ row, 0 ≤ e.1 ∧ e.1 < 5040
  inj : ∀ e f, e ∈ row → f ∈ row → e.2 = f.2 → e = f
theorem rises_ne {e f : Int × Int} (h : rises e f) : e ≠ f := by
  rintro rfl; unfold rises at h; (first | lia | omega)
section
variable {row : List (Int × Int)} {spot : Nat}
theorem ahead_eq (hs : spot < row.length) : aheadL row spot = ((row.drop (spot + 1)).filter fun e => decide (e.1 < (row[spot]).1 + 2520)).map (·.2) ++ ((row.take spot).filter fun e => decide (e.1 + 5040 < (row[spot]).1 + 2520)).map (·.2) := by
  have e1 : ((twiceL row).take (spot + row.length)).drop (spot + 1) = row.drop (spot + 1) ++ turnOn (row.take spot) := by
    unfold twiceL
    rw [List.take_append, List.drop_append, List.take_of_length_le (show row.length ≤ spot + row.length by (first | lia | omega))]
    have a : spot + row.length - row.length = spot := by (first | lia | omega)
    have b : spot + 1 - row.length = 0 := by (first | lia | omega)
    rw [a, b, List.drop_zero]
    unfold turnOn
    rw [List.map_take]
  have e2 : row.getD spot (0, 0) = row[spot] := by simp [List.getD, hs]
  unfold aheadL
  rw [e1, e2, List.filter_append, List.map_append]
  congr 1
  unfold turnOn
  rw [List.filter_map, List.map_map]
  rfl
theorem split_at (hs : spot < row.length) {f : Int × Int} : f ∈ row ↔ f ∈ row.take spot ∨ f = row[spot] ∨ f ∈ row.drop (spot + 1) := by
  have e : row = row.take spot ++ row[spot] :: row.drop (spot + 1) := by simp
  constructor
  · intro h; rw [e, List.mem_append, List.mem_cons] at h; exact h
  · intro h; rw [e, List.mem_append, List.mem_cons]; exact h
theorem parts_rise (h : RowOk row) (hs : spot < row.length) : (∀ f ∈ row.take spot, rises f row[spot]) ∧ ∀ f ∈ row.drop (spot + 1), rises row[spot] f := by
  have hp := h.up
  have e : row = row.take spot ++ row[spot] :: row.drop (spot + 1) := by simp
  rw [e, List.pairwise_append, List.pairwise_cons] at hp
  exact ⟨fun f hf => hp.2.2 f hf _ (.head _), hp.2.1.1⟩
theorem mem_ahead (h : RowOk row) (hs : spot < row.length) {a : Int} : a ∈ aheadL row spot ↔ ∃ f, f ∈ row ∧ Ah row[spot] f ∧ f.2 = a := by
  have P := parts_rise h hs
  have r0 := h.rng row[spot] (List.getElem_mem hs)
  rw [ahead_eq hs, List.mem_append, List.mem_map, List.mem_map]
  simp only [List.mem_filter, decide_eq_true_eq]
  constructor
  · rintro (⟨f, ⟨hf, hl⟩, rfl⟩ | ⟨f, ⟨hf, hl⟩, rfl⟩)
    · refine ⟨f, (split_at hs).mpr (.inr (.inr hf)), ?_, rfl⟩
      have := P.2 f hf
      unfold rises at this; unfold Ah; (first | lia | omega)
    · exact ⟨f, (split_at hs).mpr (.inl hf), .inr (.inr hl), rfl⟩
  · rintro ⟨f, hf, ha, rfl⟩
    have r1 := h.rng f hf
    rcases (split_at hs).mp hf with q | q | q
    · refine .inr ⟨f, ⟨q, ?_⟩, rfl⟩
      have := P.1 f q
      unfold rises at this; unfold Ah at ha; (first | lia | omega)
    · rw [q] at ha; exact ha.irrefl.elim
    · refine .inl ⟨f, ⟨q, ?_⟩, rfl⟩
      have := P.2 f q
      unfold rises at this; unfold Ah at ha; (first | lia | omega)
theorem places_nodup (h : RowOk row) : (row.map (·.2)).Nodup := by
  rw [List.nodup_iff_pairwise_ne, List.pairwise_map]
  exact h.up.imp_of_mem fun {e f} he hf hr q => rises_ne hr (h.inj e f he hf q)
theorem ahead_nodup (h : RowOk row) (hs : spot < row.length) : (aheadL row spot).Nodup := by
  have hp := places_nodup h
  have e : row = row.take spot ++ row[spot] :: row.drop (spot + 1) := by simp
  rw [e, List.map_append, List.map_cons, List.nodup_append] at hp
  obtain ⟨h1, h2, h3⟩ := hp
  rw [List.nodup_cons] at h2
  rw [ahead_eq hs, List.nodup_append]
  refine ⟨h2.2.sublist (List.filter_sublist.map _), h1.sublist (List.filter_sublist.map _), fun a ha b hb => ?_⟩
  have ha' := (List.filter_sublist.map _).subset ha
  have hb' := (List.filter_sublist.map _).subset hb
  intro q
  exact h3 b hb' a (.tail _ ha') q.symm
theorem own_ahead (h : RowOk row) (hs : spot < row.length) : (row[spot]).2 ∉ aheadL row spot := by
  rw [mem_ahead h hs]
  rintro ⟨f, hf, ha, e⟩
  have := h.inj f row[spot] hf (List.getElem_mem hs) e
  rw [this] at ha; exact ha.irrefl
theorem metAt_eq (hs : spot < row.length) : metAt row spot = metOf (row[spot]).2 (aheadL row spot) := by
  unfold metAt metOf
  have e2 : row.getD spot (0, 0) = row[spot] := by simp [List.getD, hs]
  rw [e2]
theorem mem_metAt (h : RowOk row) (hs : spot < row.length) {x : List Int} : x ∈ metAt row spot ↔ (∃ f, f ∈ row ∧ Ah row[spot] f ∧ x = srt [(row[spot]).2, f.2]) ∨ ∃ f g, f ∈ row ∧ g ∈ row ∧ Ah row[spot] f ∧ Ah row[spot] g ∧ f.2 ≠ g.2 ∧ x = srt [(row[spot]).2, f.2, g.2] := by
  rw [metAt_eq hs, mem_metOf (ahead_nodup h hs)]
  simp only [mem_ahead h hs]
  constructor
  · rintro (⟨_, ⟨f, hf, ha, rfl⟩, rfl⟩ | ⟨_, _, ⟨f, hf, ha, rfl⟩, ⟨g, hg, hb, rfl⟩, hne, rfl⟩)
    · exact .inl ⟨f, hf, ha, rfl⟩
    · exact .inr ⟨f, g, hf, hg, ha, hb, hne, rfl⟩
  · rintro (⟨f, hf, ha, rfl⟩ | ⟨f, g, hf, hg, ha, hb, hne, rfl⟩)
    · exact .inl ⟨_, ⟨f, hf, ha, rfl⟩, rfl⟩
    · exact .inr ⟨_, _, ⟨f, hf, ha, rfl⟩, ⟨g, hg, hb, rfl⟩, hne, rfl⟩
/-- who is met with one lies ahead of it -/
theorem met_own (h : RowOk row) (hs : spot < row.length) {x : List Int} (hx : x ∈ metAt row spot) : (row[spot]).2 ∈ x ∧ ∀ e, e ∈ row → e.2 ∈ x → e = row[spot] ∨ Ah row[spot] e := by
  have m0 := List.getElem_mem hs
  rcases (mem_metAt h hs).mp hx with ⟨f, hf, ha, rfl⟩ | ⟨f, g, hf, hg, ha, hb, hne, rfl⟩
  · simp only [mem_srt, List.mem_cons, List.not_mem_nil, or_false]
    refine ⟨by simp, fun e he q => ?_⟩
    rcases q with q | q
    · exact .inl (h.inj _ _ he m0 q)
    · rw [h.inj _ _ he hf q]; exact .inr ha
  · simp only [mem_srt, List.mem_cons, List.not_mem_nil, or_false]
    refine ⟨by simp, fun e he q => ?_⟩
    rcases q with q | q | q
    · exact .inl (h.inj _ _ he m0 q)
    · rw [h.inj _ _ he hf q]; exact .inr ha
    · rw [h.inj _ _ he hg q]; exact .inr hb
theorem metL_nodup (h : RowOk row) : (metL row).Nodup := by
  unfold metL
  rw [List.nodup_iff_pairwise_ne, List.pairwise_flatMap]
  constructor
  · intro i hi
    rw [List.mem_range] at hi
    rw [metAt_eq hi]
    exact metOf_nodup (ahead_nodup h hi) (own_ahead h hi)
  · refine List.pairwise_lt_range.imp_of_mem fun {i j} hi hj hij x hx y hy q => ?_
    subst q
    rw [List.mem_range] at hi hj
    have a := met_own h hi hx
    have b := met_own h hj hy
    have hr : rises row[i] row[j] := List.pairwise_iff_getElem.mp h.up i j hi hj hij
    have hne := rises_ne hr
    rcases a.2 _ (List.getElem_mem hj) b.1 with q | q
    · exact hne q.symm
    · rcases b.2 _ (List.getElem_mem hi) a.1 with q2 | q2
      · exact hne q2
      · exact q.anti q2
theorem mem_metL (h : RowOk row) {x : List Int} : x ∈ metL row ↔ (∃ e f, e ∈ row ∧ f ∈ row ∧ Ah e f ∧ x = srt [e.2, f.2]) ∨ ∃ e f g, e ∈ row ∧ f ∈ row ∧ g ∈ row ∧ Ah e f ∧ Ah e g ∧ f.2 ≠ g.2 ∧ x = srt [e.2, f.2, g.2] := by
  unfold metL
  rw [List.mem_flatMap]
  simp only [List.mem_range]
  constructor
  · rintro ⟨i, hi, hx⟩
    rcases (mem_metAt h hi).mp hx with ⟨f, hf, ha, rfl⟩ | ⟨f, g, hf, hg, ha, hb, hne, rfl⟩
    · exact .inl ⟨_, f, List.getElem_mem hi, hf, ha, rfl⟩
    · exact .inr ⟨_, f, g, List.getElem_mem hi, hf, hg, ha, hb, hne, rfl⟩
  · rintro (⟨e, f, he, hf, ha, rfl⟩ | ⟨e, f, g, he, hf, hg, ha, hb, hne, rfl⟩)
    · obtain ⟨i, hi, rfl⟩ := List.mem_iff_getElem.mp he
      exact ⟨i, hi, (mem_metAt h hi).mpr (.inl ⟨f, hf, ha, rfl⟩)⟩
    · obtain ⟨i, hi, rfl⟩ := List.mem_iff_getElem.mp he
      exact ⟨i, hi, (mem_metAt h hi).mpr (.inr ⟨f, g, hf, hg, ha, hb, hne, rfl⟩)⟩
end

end
/-! part Pl4 -/
section
/-! the told -/
section
variable {pts : List (Int × Int)} {x : List Int}
theorem mem_toldFirst {second third first : Nat} : x ∈ toldFirst pts second third first ↔ threeB (pts.getD first (0, 0)) (pts.getD second (0, 0)) (pts.getD third (0, 0)) = true ∧ x = [(first : Int), second, third] := by
  unfold toldFirst
  split
  · rename_i h; exact ⟨fun q => ⟨h, List.mem_singleton.mp q⟩, fun q => List.mem_singleton.mpr q.2⟩
  · rename_i h; exact ⟨fun q => (nomatch q), fun q => absurd q.1 h⟩
theorem mem_toldSecond {third second : Nat} : x ∈ toldSecond pts third second ↔ (twoB (pts.getD second (0, 0)) (pts.getD third (0, 0)) = true ∧ x = [(second : Int), third]) ∨
    ∃ first, first < second ∧ threeB (pts.getD first (0, 0)) (pts.getD second (0, 0)) (pts.getD third (0, 0)) = true ∧ x = [(first : Int), second, third] := by
  unfold toldSecond
  rw [List.mem_append, List.mem_flatMap]
  simp only [List.mem_range, mem_toldFirst]
  refine or_congr ?_ Iff.rfl
  split
  · rename_i h; exact ⟨fun q => ⟨h, List.mem_singleton.mp q⟩, fun q => List.mem_singleton.mpr q.2⟩
  · rename_i h; exact ⟨fun q => (nomatch q), fun q => absurd q.1 h⟩
theorem mem_toldL : x ∈ toldL pts ↔ (∃ i j, i < j ∧ j < pts.length ∧ twoB (pts.getD i (0, 0)) (pts.getD j (0, 0)) = true ∧ x = [(i : Int), j]) ∨
    ∃ i j k : Nat, i < j ∧ j < k ∧ k < pts.length ∧ threeB (pts.getD i (0, 0)) (pts.getD j (0, 0)) (pts.getD k (0, 0)) = true ∧ x = [(i : Int), j, k] := by
  unfold toldL
  rw [List.mem_flatMap]
  simp only [List.mem_range, toldThird, List.mem_flatMap, mem_toldSecond]
  constructor
  · rintro ⟨k, hk, j, hj, ⟨h, e⟩ | ⟨i, hi, h, e⟩⟩
    · exact .inl ⟨j, k, hj, hk, h, e⟩
    · exact .inr ⟨i, j, k, hi, hj, hk, h, e⟩
  · rintro (⟨j, k, hj, hk, h, e⟩ | ⟨i, j, k, hi, hj, hk, h, e⟩)
    · exact ⟨k, hk, j, hj, .inl ⟨h, e⟩⟩
    · exact ⟨k, hk, j, hj, .inr ⟨i, hi, h, e⟩⟩
theorem toldL_nodup : (toldL pts).Nodup := by
  unfold toldL
  rw [List.nodup_iff_pairwise_ne, List.pairwise_flatMap]
  constructor
  · intro k _
    unfold toldThird
    rw [List.pairwise_flatMap]
    constructor
    · intro j _
      unfold toldSecond
      rw [List.pairwise_append]
      refine ⟨by split <;> simp, ?_, fun a ha b hb q => ?_⟩
      · rw [List.pairwise_flatMap]
        constructor
        · intro i _
          unfold toldFirst
          split <;> simp
        · refine List.pairwise_lt_range.imp fun {a b} hab x hx y hy q => ?_
          obtain ⟨_, rfl⟩ := mem_toldFirst.mp hx
          obtain ⟨_, rfl⟩ := mem_toldFirst.mp hy
          simp at q; (first | lia | omega)
      · subst q
        obtain ⟨i, _, hi⟩ := List.mem_flatMap.mp hb
        obtain ⟨_, rfl⟩ := mem_toldFirst.mp hi
        split at ha <;> simp at ha
    · refine List.pairwise_lt_range.imp fun {a b} hab x hx y hy q => ?_
      rcases mem_toldSecond.mp hx with ⟨_, rfl⟩ | ⟨i, _, _, rfl⟩ <;> rcases mem_toldSecond.mp hy with ⟨_, rfl⟩ | ⟨i', _, _, rfl⟩ <;> simp at q <;> (first | lia | omega)
  · refine List.pairwise_lt_range.imp fun {a b} hab x hx y hy q => ?_
    unfold toldThird at hx hy
    obtain ⟨j, _, hx⟩ := List.mem_flatMap.mp hx
    obtain ⟨j', _, hy⟩ := List.mem_flatMap.mp hy
    rcases mem_toldSecond.mp hx with ⟨_, rfl⟩ | ⟨i, _, _, rfl⟩ <;> rcases mem_toldSecond.mp hy with ⟨_, rfl⟩ | ⟨i', _, _, rfl⟩ <;> simp at q <;> (first | lia | omega)
end
/-! both -/
section
variable {cols : List Col}
noncomputable def tn (cols : List Col) (i : Nat) : Option Int := cols[i]?.bind toneC
noncomputable def AT (cols : List Col) (i j : Nat) : Prop := ∃ s t, tn cols i = some s ∧ tn cols j = some t ∧ Ah (s, (i : Int)) (t, (j : Int))
theorem tn_some {i : Nat} {s : Int} (h : tn cols i = some s) : ∃ hi : i < cols.length, toneC cols[i] = some s := by
  unfold tn at h
  rcases Nat.lt_or_ge i cols.length with q | q
  · rw [List.getElem?_eq_getElem q] at h; exact ⟨q, h⟩
  · rw [List.getElem?_eq_none q] at h; cases h
theorem tn_range {i : Nat} {s : Int} (h : tn cols i = some s) : 0 ≤ s ∧ s < 5040 := let ⟨_, e⟩ := tn_some h; toneC_range e
theorem pt_at {i : Nat} (hi : i < cols.length) : (cols.map ptC).getD i (0, 0) = ptC cols[i] := by simp [List.getD, hi]
theorem tn_dir (hc : ∀ c ∈ cols, colOk c) {i : Nat} {s : Int} (h : tn cols i = some s) : Dir ((cols.map ptC).getD i (0, 0)) s := by
  obtain ⟨hi, e⟩ := tn_some h
  rw [pt_at hi]
  exact dir_of (hc _ (List.getElem_mem hi)) e
theorem tn_grey (hc : ∀ c ∈ cols, colOk c) {i : Nat} (hi : i < cols.length) (h : tn cols i = none) : (cols.map ptC).getD i (0, 0) = (0, 0) := by
  rw [pt_at hi]
  unfold tn at h
  rw [List.getElem?_eq_getElem hi] at h
  exact grey_of (hc _ (List.getElem_mem hi)) h
theorem row_ok (cols : List Col) : RowOk (rowL cols) := by
  refine ⟨rowN_rises cols _, fun e he => ?_, fun e f he hf q => ?_⟩
  · obtain ⟨j, t, _, h, rfl⟩ := rowN_mem.mp he
    exact tn_range h
  · obtain ⟨j, t, _, h, rfl⟩ := rowN_mem.mp he
    obtain ⟨j', t', _, h', rfl⟩ := rowN_mem.mp hf
    have : j = j' := Int.ofNat.inj q
    subst this
    rw [h] at h'; cases h'; rfl
theorem mem_row {e : Int × Int} : e ∈ rowL cols ↔ ∃ (j : Nat) (t : Int), tn cols j = some t ∧ e = (t, (j : Int)) := by
  unfold rowL
  rw [rowN_mem]
  constructor
  · rintro ⟨j, t, _, h, rfl⟩; exact ⟨j, t, h, rfl⟩
  · rintro ⟨j, t, h, rfl⟩; exact ⟨j, t, (tn_some h).1, h, rfl⟩
theorem AT.ne {i j : Nat} (h : AT cols i j) : i ≠ j := by
  rintro rfl
  obtain ⟨s, t, a, b, c⟩ := h
  rw [a] at b; cases b
  exact c.irrefl
theorem AT.lt {i j : Nat} (h : AT cols i j) : i < cols.length ∧ j < cols.length := by
  obtain ⟨s, t, a, b, c⟩ := h
  exact ⟨(tn_some a).1, (tn_some b).1⟩
theorem met_iff {x : List Int} : x ∈ metL (rowL cols) ↔ (∃ i j : Nat, AT cols i j ∧ x = srt [(i : Int), j]) ∨ ∃ i j k : Nat, AT cols i j ∧ AT cols i k ∧ j ≠ k ∧ x = srt [(i : Int), j, k] := by
  rw [mem_metL (row_ok cols)]
  constructor
  · rintro (⟨e, f, he, hf, ha, rfl⟩ | ⟨e, f, g, he, hf, hg, ha, hb, hne, rfl⟩)
    · obtain ⟨i, s, h1, rfl⟩ := mem_row.mp he
      obtain ⟨j, t, h2, rfl⟩ := mem_row.mp hf
      exact .inl ⟨i, j, ⟨s, t, h1, h2, ha⟩, rfl⟩
    · obtain ⟨i, s, h1, rfl⟩ := mem_row.mp he
      obtain ⟨j, t, h2, rfl⟩ := mem_row.mp hf
      obtain ⟨k, u, h3, rfl⟩ := mem_row.mp hg
      exact .inr ⟨i, j, k, ⟨s, t, h1, h2, ha⟩, ⟨s, u, h1, h3, hb⟩, fun q => hne (by rw [q]), rfl⟩
  · rintro (⟨i, j, ⟨s, t, h1, h2, ha⟩, rfl⟩ | ⟨i, j, k, ⟨s, t, h1, h2, ha⟩, ⟨s', u, h1', h3, hb⟩, hne, rfl⟩)
    · exact .inl ⟨_, _, mem_row.mpr ⟨i, s, h1, rfl⟩, mem_row.mpr ⟨j, t, h2, rfl⟩, ha, rfl⟩
    · rw [h1] at h1'; cases h1'
      exact .inr ⟨_, _, _, mem_row.mpr ⟨i, s, h1, rfl⟩, mem_row.mpr ⟨j, t, h2, rfl⟩, mem_row.mpr ⟨k, u, h3, rfl⟩, ha, hb, fun q => hne (Int.ofNat.inj q), rfl⟩
theorem two_AT (hc : ∀ c ∈ cols, colOk c) {i j : Nat} (hij : i < j) (hj : j < cols.length) : twoB ((cols.map ptC).getD i (0, 0)) ((cols.map ptC).getD j (0, 0)) = true ↔ AT cols i j ∨ AT cols j i := by
  cases h1 : tn cols i with
  | none =>
    rw [tn_grey hc (by (first | lia | omega)) h1, two_grey.1]
    constructor
    · intro q; cases q
    · rintro (⟨s, t, a, b, _⟩ | ⟨s, t, a, b, _⟩)
      · rw [h1] at a; cases a
      · rw [h1] at b; cases b
  | some s =>
    cases h2 : tn cols j with
    | none =>
      rw [tn_grey hc hj h2, two_grey.2]
      constructor
      · intro q; cases q
      · rintro (⟨s, t, a, b, _⟩ | ⟨s, t, a, b, _⟩)
        · rw [h2] at b; cases b
        · rw [h2] at a; cases a
    | some t =>
      rw [two_iff (i := (i : Int)) (j := (j : Int)) (tn_dir hc h1) (tn_dir hc h2) (tn_range h1) (tn_range h2) (by (first | lia | omega))]
      constructor
      · rintro (q | q)
        · exact .inl ⟨s, t, h1, h2, q⟩
        · exact .inr ⟨t, s, h2, h1, q⟩
      · rintro (⟨s', t', a, b, q⟩ | ⟨s', t', a, b, q⟩)
        · rw [h1] at a; rw [h2] at b; cases a; cases b; exact .inl q
        · rw [h1] at b; rw [h2] at a; cases a; cases b; exact .inr q
theorem AT_iff {i j : Nat} {s t : Int} (h1 : tn cols i = some s) (h2 : tn cols j = some t) : AT cols i j ↔ Ah (s, (i : Int)) (t, (j : Int)) := by
  constructor
  · rintro ⟨s', t', a, b, q⟩
    rw [h1] at a; rw [h2] at b; cases a; cases b; exact q
  · intro q; exact ⟨s, t, h1, h2, q⟩
theorem AT_none {i : Nat} (h : tn cols i = none) (j : Nat) : ¬ AT cols i j ∧ ¬ AT cols j i := by
  constructor
  · rintro ⟨s, t, a, b, _⟩; rw [h] at a; cases a
  · rintro ⟨s, t, a, b, _⟩; rw [h] at b; cases b
theorem three_AT (hc : ∀ c ∈ cols, colOk c) {i j k : Nat} (hij : i < j) (hjk : j < k) (hk : k < cols.length) :
    threeB ((cols.map ptC).getD i (0, 0)) ((cols.map ptC).getD j (0, 0)) ((cols.map ptC).getD k (0, 0)) = true ↔ (AT cols i j ∧ AT cols i k) ∨ (AT cols j i ∧ AT cols j k) ∨ (AT cols k i ∧ AT cols k j) := by
  cases h1 : tn cols i with
  | none =>
    rw [three_grey (.inl (tn_grey hc (by (first | lia | omega)) h1))]
    have := AT_none h1
    simp [this]
  | some s =>
    cases h2 : tn cols j with
    | none =>
      rw [three_grey (.inr (.inl (tn_grey hc (by (first | lia | omega)) h2)))]
      have := AT_none h2
      simp [this]
    | some t =>
      cases h3 : tn cols k with
      | none =>
        rw [three_grey (.inr (.inr (tn_grey hc (by (first | lia | omega)) h3)))]
        have := AT_none h3
        simp [this]
      | some u =>
        rw [three_iff (i := (i : Int)) (j := (j : Int)) (k := (k : Int)) (tn_dir hc h1) (tn_dir hc h2) (tn_dir hc h3) (tn_range h1) (tn_range h2) (tn_range h3) (by (first | lia | omega)) (by (first | lia | omega)),
          AT_iff h1 h2, AT_iff h1 h3, AT_iff h2 h1, AT_iff h2 h3, AT_iff h3 h1, AT_iff h3 h2]
theorem srt2 {i j : Nat} (h : i < j) : srt [(i : Int), j] = [(i : Int), j] := (srt_eq (.refl _) (by simp; (first | lia | omega))).symm
theorem srt3 {i j k : Nat} (h : i < j) (h' : j < k) : srt [(i : Int), j, k] = [(i : Int), j, k] := (srt_eq (.refl _) (by simp; (first | lia | omega))).symm
theorem law_perm (hc : ∀ c ∈ cols, colOk c) : (metL (rowL cols)).Perm (toldL (cols.map ptC)) := by
  refine (List.perm_ext_iff_of_nodup (metL_nodup (row_ok cols)) toldL_nodup).mpr fun x => ?_
  rw [met_iff, mem_toldL, List.length_map]
  have tri : ∀ i j k : Nat, AT cols i j → AT cols i k → j < k → ∃ a b c : Nat, a < b ∧ b < c ∧ c < cols.length ∧ threeB ((cols.map ptC).getD a (0, 0)) ((cols.map ptC).getD b (0, 0)) ((cols.map ptC).getD c (0, 0)) = true ∧ srt [(i : Int), j, k] = [(a : Int), b, c] := by
    intro i j k h1 h2 hjk
    have l1 := h1.lt
    have l2 := h2.lt
    have n1 := h1.ne
    have n2 := h2.ne
    rcases Nat.lt_or_ge i j with q | q
    · exact ⟨i, j, k, q, hjk, l2.2, (three_AT hc q hjk l2.2).mpr (.inl ⟨h1, h2⟩), srt3 q hjk⟩
    · rcases Nat.lt_or_ge i k with q2 | q2
      · refine ⟨j, i, k, by (first | lia | omega), q2, l2.2, (three_AT hc (by (first | lia | omega)) q2 l2.2).mpr (.inr (.inl ⟨h1, h2⟩)), ?_⟩
        rw [srt_congr (.swap _ _ _), srt3 (by (first | lia | omega)) q2]
      · refine ⟨j, k, i, hjk, by (first | lia | omega), l1.1, (three_AT hc hjk (by (first | lia | omega)) l1.1).mpr (.inr (.inr ⟨h1, h2⟩)), ?_⟩
        rw [srt_congr (a := [(i : Int), j, k]) (b := [(j : Int), k, i]) (List.perm_append_comm (l₁ := [(i : Int)]) (l₂ := [(j : Int), k])), srt3 hjk (by (first | lia | omega))]
  constructor
  · rintro (⟨i, j, h, rfl⟩ | ⟨i, j, k, h1, h2, hne, rfl⟩)
    · have l := h.lt
      rcases Nat.lt_or_ge i j with q | q
      · exact .inl ⟨i, j, q, l.2, (two_AT hc q l.2).mpr (.inl h), srt2 q⟩
      · have n := h.ne
        refine .inl ⟨j, i, by (first | lia | omega), l.1, (two_AT hc (by (first | lia | omega)) l.1).mpr (.inr h), ?_⟩
        rw [srt_congr (.swap _ _ _), srt2 (by (first | lia | omega))]
    · rcases Nat.lt_or_ge j k with q | q
      · exact .inr (tri i j k h1 h2 q)
      · rw [srt_congr (b := [(i : Int), k, j]) (.cons _ (.swap _ _ _))]
        exact .inr (tri i k j h2 h1 (by (first | lia | omega)))
  · rintro (⟨i, j, hij, hj, h, rfl⟩ | ⟨i, j, k, hij, hjk, hk, h, rfl⟩)
    · rcases (two_AT hc hij hj).mp h with q | q
      · exact .inl ⟨i, j, q, (srt2 hij).symm⟩
      · refine .inl ⟨j, i, q, ?_⟩
        rw [srt_congr (.swap _ _ _), srt2 hij]
    · rcases (three_AT hc hij hjk hk).mp h with ⟨a, b⟩ | ⟨a, b⟩ | ⟨a, b⟩
      · exact .inr ⟨i, j, k, a, b, by (first | lia | omega), (srt3 hij hjk).symm⟩
      · refine .inr ⟨j, i, k, a, b, by (first | lia | omega), ?_⟩
        rw [srt_congr (.swap _ _ _), srt3 hij hjk]
      · refine .inr ⟨k, i, j, a, b, by (first | lia | omega), ?_⟩
        rw [srt_congr (a := [(k : Int), i, j]) (b := [(i : Int), j, k]) (List.perm_append_comm (l₁ := [(k : Int)]) (l₂ := [(i : Int), j])), srt3 hij hjk]
end

end
/-! part Fn6 -/
section
theorem fill9 : (fun (_ : Params → Frag) (_ : OpenLaw) => True) hd.heap_39 PySem.Challenge.rw_pe0118_01 := by k_fill; trivial
/-- two sorted lists of the same are the same -/
theorem sorted_same {xs ys : List (List Int)} (p : xs.Perm ys) (h : xs.Pairwise (fun a b => ¬ b < a)) (k : ys.Pairwise (fun a b => ¬ b < a)) : xs = ys :=
  List.Perm.eq_of_pairwise (le := fun a b : List Int => ¬ b < a) (fun _ _ _ _ h1 h2 => List.le_antisymm (List.not_lt.mp h1) (List.not_lt.mp h2)) h k p
section
variable {w : World} {A : Around} {E : Value → Shared → Prop} {s : Shared} {G : Kn}
theorem seqLL {v u : Value} {xss : List (List Int)} {Q : Value → Shared → Prop} (R : Room 20 A) (I : In G s.heap) (h1 : LL G v xss) (h2 : LL G u xss) (h : Q (.bool true) s) : wpAny (model PG w) A (compareOp .Eq v u) Q E s := by
  obtain ⟨a, vs, rfl, ⟨⟨c1, d1, e1, s1⟩, n1, o1, rfl, q1⟩, i1⟩ := h1
  obtain ⟨b, us, rfl, ⟨⟨c2, d2, e2, s2⟩, n2, o2, rfl, q2⟩, i2⟩ := h2
  simp only at q1 q2
  subst q1 q2
  have hu := R.2.2
  show wpAny (model PG w) A (richCompare .Eq (.ref a) (.ref b)) Q E s
  refine richCompare_meets_room (T := "list") ⟨_, I _ _ o1, rfl⟩ ⟨_, I _ _ o2, rfl⟩ F.slot_list_eq F.entry_list_eq (F.args_list_eq_2 _ _)
    (SeqAt.list_eqAt _ _ _ _ _ _ _ _ _ _ (by simp [i1.1, i2.1]) (fun _ => true)) ⟨I _ _ o1, I _ _ o2, fun j g1 g2 => ?_, ?_⟩ R.units
  · have g1' : j < vs.length := by simpa using g1
    have g2' : j < us.length := by simpa using g2
    have gx : j < xss.length := by rw [← i1.1]; exact g1'
    obtain ⟨a', us', e', l', r'⟩ := i1.2 j vs[j] xss[j] (List.getElem?_eq_getElem g1') (List.getElem?_eq_getElem gx)
    obtain ⟨b', ws', f', m', t'⟩ := i2.2 j us[j] xss[j] (List.getElem?_eq_getElem g2') (List.getElem?_eq_getElem gx)
    have x := keq_ints (A := A) (s := s) (l'.heap I) r' (m'.heap I) t' (by show A.units + 1 + 64 < 9900; (first | lia | omega))
    rw [decide_eq_true rfl] at x
    simp only [List.getElem_toArray]
    rw [e', f']
    exact x
  · have e : ((List.range vs.toArray.size).all fun _ => true) = true := by simp
    rw [e]
    exact ⟨(fun x => nomatch x), h⟩
end
/-- the colour of a number -/
noncomputable def colN (n : Int) : Col := (n.fmod 9, (n.fdiv 9).fmod 9, (n.fdiv 81).fmod 9)
theorem fmod9 (n : Int) : in9 (n.fmod 9) := by
  rw [Int.fmod_eq_emod_of_nonneg _ (by decide)]
  unfold in9; (first | lia | omega)
theorem colN_ok (n : Int) : colOk (colN n) := ⟨fmod9 _, fmod9 _, fmod9 _⟩
section
variable {w : World} {A : Around} {E : Value → Shared → Prop} {s : Shared} {G : Kn}
theorem palette_spec {v : Value} {ns : List Int} {Q : Value → Shared → Prop} (R : Room 30 A) (W : Wd w G) (I : In G s.heap) (hv : LI G v ns) (hn : ns.length ≤ 9)
    (hQ : ∀ G₂ h₂ tk, Grow G s.heap G₂ h₂ → Q (.bool true) { s with heap := h₂, toks := tk }) :
    wpAny (model PG w) A (call (.ref 112) [v]) Q E s := by
  obtain ⟨a1, vs1, rfl, l1, i1⟩ := hv
  refine callFn (binds := [(Str.ofString "numbers", .ref a1)]) (Post := fun _ v => v = .bool true) R W I (by k_is) (by k_is) (by exact rfl) (by exact BindsTo.of_eq rfl) (by decide) (by exact locs rfl) rfl rfl rfl (fun h₁ L A' S R' => ?_) (fun r G₂ h₂ tk g hp => by subst hp; exact hQ _ _ _ g)
  intro env
  have hl1 := i1.length
  refine wpAny_execs_cons (sassignC (by decide) (by rfl) (by decide) ?_)
  repeat (walk1 <;> try dsimp only)
  refine scompA (Room.hh R') S l1 goes_name (by (first | lia | omega)) (by decide) (by rfl) (fun i G' ys => All2 (fun v c => LI G' v (colL c)) ys ((ns.map colN).take i)) (by simpa using All2.nil) ?_ ?_
  · intro C i v G' ys m' mu' s' hv hk hJ S' hf
    have hi : i < ns.length := by rw [← hl1]; exact (List.getElem?_eq_some_iff.mp hv).1
    obtain ⟨t1, g1⟩ := ints_get i1 (List.getElem?_eq_getElem hi)
    rw [g1] at hv; cases hv
    generalize hcc : ns[i] = n
    obtain ⟨h9, tk9, rfl⟩ := hf.ex
    dsimp only at S' ⊢
    repeat (walk1 <;> try dsimp only)
    refine snl (by assumption) ?_
    intro a3 G3 h3 k3 il3 _ S3
    refine ⟨rfl, G3, _, k3, S3, ?_⟩
    have hi' : i < (ns.map colN).length := by simpa using hi
    rw [List.take_add_one, List.getElem?_eq_getElem hi', List.getElem_map, hcc]
    refine (hJ.mono fun _ _ x => x.mono k3).snoc ⟨a3, _, rfl, il3, .cons _ _ (.cons _ _ (.cons _ _ .nil))⟩
  · intro Dc G1 G2 ys h2 tk2 kk hJ hk2 hLc hys S2
    have hcols : All2 (fun v c => LI G2 v (colL c)) ys (ns.map colN) := by
      have := hJ.mono (F' := fun v c => LI G2 v (colL c)) fun _ _ x => x.mono hk2
      rwa [hl1, List.take_of_length_le (by simp)] at this
    have W2 := W.mono kk
    have hC : LC G2 (.ref Dc) (ns.map colN) := ⟨Dc, ys, rfl, hLc, hcols⟩
    have hok : ∀ c ∈ ns.map colN, colOk c := fun c hc => by obtain ⟨n, _, rfl⟩ := List.mem_map.mp hc; exact colN_ok n
    have hlen : (ns.map colN).length ≤ 9 := by simpa using hn
    generalize ns.map colN = cols at hC hok hlen hcols
    have hlaw := law_perm hok
    have hm : (metL (rowL cols)).length < 128 := by
      rw [hlaw.length_eq]
      have b := tl1 (cols.map ptC) (i := cols.length) (by (first | lia | omega))
      have e : toldL (cols.map ptC) = (List.range cols.length).flatMap (toldThird (cols.map ptC)) := by unfold toldL; rw [List.length_map]
      rw [e]; (first | lia | omega)
    clear hJ hys hcols
    dsimp only
    repeat (walk1 <;> try dsimp only)
    refine met_spec (R'.mono (by decide)) W2 (St.inn (by assumption)) hC hok hlen hm ?_
    intro v3 xss3 G3 h3 tk3 g3 hll3 hp3 hs3
    have S3 := St.grow (by assumption) g3
    have W3 := W2.mono g3.ke
    have hC3 := hC.mono g3.ke
    dsimp only at S3 ⊢
    repeat (walk1 <;> try dsimp only)
    refine apart_spec (R'.mono (by decide)) W3 (St.inn (by assumption)) hC3 hok hlen ?_
    intro v4 xss4 G4 h4 tk4 g4 hll4 hp4 hs4
    have S4 := St.grow (by assumption) g4
    have e34 : xss3 = xss4 := sorted_same ((hp3.trans hlaw).trans hp4.symm) hs3 hs4
    subst e34
    have hll3' := hll3.mono g4.ke
    dsimp only at S4 ⊢
    repeat (walk1 <;> try dsimp only)
    refine seqLL (R'.mono (by decide)) S4.inn hll3' hll4 ?_
    exact ⟨G4, h4, tk4, rfl, S4.gr, rfl⟩
end

end
/-! part Fn7 -/
section
theorem fill10 : (fun (_ : Params → Frag) (_ : OpenLaw) => True) hd.heap_39 PySem.Challenge.rw_pe0118_01 := by k_fill; trivial
section
variable {w : World} {A : Around} {E : Value → Shared → Prop} {s : Shared} {G₀ G : Kn} {h₀ : Heap} {L : Addr} {m : Str → Option Value} {mu : List (Addr × Obj)}
theorem sslice3 {l : Addr} {vs : List Value} {b : Nat} {tb : Tok} {Q : Value → Shared → Prop} (S : St G₀ h₀ G L m mu s.heap) (hl : IsL G l vs) (hz : vs.length ≤ 1000)
    (h : ∀ D G' h', KE G G' → IsL G' D (vs.take b) → St G₀ h₀ G' L m mu h' → Q (.ref D) { s with heap := h' }) : SliceTo Q (.ref l) .none (.int (b : Nat) tb) s := by
  refine ⟨l, vs.toArray, none, some b, rfl, hl.heap S.inn, by rw [List.size_toArray]; unfold sizeLine; (first | lia | omega), .none, .int _ _, ?_⟩
  rw [slicePick_upto' vs.toArray b]
  have S1 := S.ext (Ext.push s.heap { cls := .type "slice", data := .fields #[.none, .int (b : Nat) tb, .none] })
  have hsz : (s.heap.push { cls := .type "slice", data := .fields #[.none, .int (b : Nat) tb, .none] }).objs.size = s.heap.objs.size + 1 := Heap.size_push ..
  rw [← hsz]
  exact h _ _ _ (KE.set (S1.inn.fresh (none_size _))) ⟨_, 0, Kn.set_self _ _ _, rfl, rfl⟩ (S1.alloc (lst (vs.take b)))
end
section
variable {w : World} {A : Around} {E : Value → Shared → Prop} {s : Shared} {G : Kn}
theorem law_spec {v : Value} {ns : List Int} {Q : Value → Shared → Prop} (R : Room 40 A) (W : Wd w G) (I : In G s.heap) (hv : LI G v ns) (hn : ns.length ≤ 63)
    (hQ : ∀ G₂ h₂ tk, Grow G s.heap G₂ h₂ → Q (.bool true) { s with heap := h₂, toks := tk }) :
    wpAny (model PG w) A (call (.ref 117) [v]) Q E s := by
  obtain ⟨a1, vs1, rfl, l1, i1⟩ := hv
  refine callFn (binds := [(Str.ofString "script", .ref a1)]) (Post := fun _ v => v = .bool true) R W I (by k_is) (by k_is) (by exact rfl) (by exact BindsTo.of_eq rfl) (by decide) (by exact locs rfl) rfl rfl rfl (fun h₁ L A' S R' => ?_) (fun r G₂ h₂ tk g hp => by subst hp; exact hQ _ _ _ g)
  intro env
  have hl1 := i1.length
  iterate 7 (walk1 <;> try dsimp only)
  refine wpAny_ListComp (by decide) (by rfl) (by decide) ?_ (by intro _; rfl)
  refine ssub ?_ (by intro _ _; rfl)
  repeat (walk1 <;> try dsimp only)
  refine sslice3 (b := 3) S l1 (by (first | lia | omega)) ?_
  intro aS G2 h2 k2 lS S2
  have W2 := W.mono k2
  dsimp only at S2 ⊢
  have i2 : IntsAre (vs1.take 3) (ns.take 3) := i1.take 3
  have hl2 := i2.length
  have hl3 : (ns.take 3).length ≤ 3 := by rw [List.length_take]; (first | lia | omega)
  generalize vs1.take 3 = vs2 at lS i2 hl2
  generalize ns.take 3 = ns2 at i2 hl2 hl3
  refine scomp (Room.hh R') S2.inn lS goes_name (by (first | lia | omega)) (by decide) (by rfl) (fun i G' ys => IntsAre ys ((ns2.map fun n => n.fmod 1000000).take i)) (by simpa using IntsAre.nil) ?_ ?_
  · intro C i v G' ys m' mu' s' hv hk hJ S' hf
    have hi : i < ns2.length := by rw [← hl2]; exact (List.getElem?_eq_some_iff.mp hv).1
    obtain ⟨t1, g1⟩ := ints_get i2 (List.getElem?_eq_getElem hi)
    rw [g1] at hv; cases hv
    generalize hcc : ns2[i] = n
    obtain ⟨h9, tk9, rfl⟩ := hf.ex
    dsimp only at S' ⊢
    repeat (walk1 <;> try dsimp only)
    rename_i h10 S10
    refine ⟨rfl, G', _, .refl _, S10, ?_⟩
    have hi' : i < (ns2.map fun n => n.fmod 1000000).length := by simpa using hi
    rw [List.take_add_one, List.getElem?_eq_getElem hi', List.getElem_map, hcc]
    exact hJ.append (.cons _ _ .nil)
  · intro Dc G3 G4 ys h4 tk4 hJ hk4 hLc hys g4
    have S4 := S2.grow g4
    have W4 := W2.mono g4.ke
    rw [hl2, List.take_of_length_le (by simp)] at hJ
    dsimp only at S4 ⊢
    repeat (walk1 <;> try dsimp only)
    refine snl S4 ?_
    intro aK G5 h5 k5 ilK _ S5
    dsimp only at S5 ⊢
    refine sadd S5 (hLc.mono k5) ilK (by rw [hys]; simp; (first | lia | omega)) ?_
    intro aN G6 h6 k6 lN S6
    have W6 := (W4.mono k5).mono k6
    dsimp only at S6 ⊢
    repeat (walk1 <;> try dsimp only)
    refine palette_spec (R'.mono (by decide)) W6 S6.inn ⟨aN, _, rfl, lN, hJ.append (.cons _ _ (.cons _ _ (.cons _ _ (.cons _ _ (.cons _ _ (.cons _ _ .nil))))))⟩ (by simp; (first | lia | omega)) ?_
    intro G7 h7 tk7 g7
    exact ⟨G7, h7, tk7, rfl, (S6.grow g7).gr, rfl⟩
end

end
/-! part Jn -/
section
theorem fill11 : (fun (_ : Params → Frag) (_ : OpenLaw) => True) hd.heap_39 PySem.Challenge.rw_pe0118_01 := by k_fill; trivial
theorem law_value (l : OpenLaw) (args : List WData) : l.row.toRowW.post.value l.row.toRowW.records { args := args, res := some (.bool true), after := args } = some (.bool true) := by
  simp [OpenLaw.row, WTm.value]
  simp [PySem.W.same]
theorem law_post (l : OpenLaw) (args : List WData) : l.row.toRowW.claim.post args (.bool true) args = true := by
  exact postW_of (args := args) (by rfl) (law_value l args) rfl
theorem law_raises (l : OpenLaw) (args : List WData) (cls : ExcName) : l.row.claim.raises args cls = false := by rfl
theorem law_holds : PySem.Challenge.rw_pe0118_01.Holds :=
 hd (by
  k_fill
  intro w s₀ s₁ mg mb G Y fa o pm cd doc dV kV ho hd hcd hD hmg hg args vals as hpre hlay hrd hwl hlo
  have KX := kIn_of Y
  refine Ground.open G ?_
  intro T B D TE TW
  have e117 : mg (Str.ofString "law") = some (.ref 117) := mg_of KX T.g (by k_is)
  have hfa : fa = 117 := by
    have h2 : some (Value.ref fa) = some (Value.ref 117) := hmg.symm.trans e117
    cases h2; rfl
  subst hfa
  clear hmg ho hd hcd hD TE TW B D
  wrow_args hpre hlay hrd hwl hlo
  rename_i ns _ _ _ _ _ _ _ a vs _ hL _ _ _ hI _ hle _
  refine law_spec (G := fun b => s₁.heap.get? b) (v := .ref a) (ns := ns) ⟨rfl, by decide, by decide⟩ ⟨s₁.heap, _, _, mg, mb, KX, topRead_of T, fun _ _ e => e⟩ (fun _ _ e => e) ?_ ?_ ?_
  · obtain ⟨o, ho, hc, n, hd⟩ := hL
    exact ⟨a, vs, rfl, ⟨o, n, ho, hc, hd⟩, hI⟩
  · omega
  · intro G₂ h₂ tk g
    exact ⟨.inl ⟨_, _, _, rfl, fun cls => law_raises _ _ cls, .bool true, law_post _ _, unshared_nil⟩, OldK.of_keep g.ext, rfl, .of_eq hg⟩)

end
end Mine
theorem PySem.Challenge.cw_pe0118_01_holds : PySem.Challenge.rw_pe0118_01.Holds :=
  Mine.law_holds
