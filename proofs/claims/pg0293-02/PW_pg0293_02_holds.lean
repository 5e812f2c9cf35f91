import PyProof.Rows.All
import Wide.All
import OpenK.AllK
import Wide.FinOn
import PySem.Challenge.RW_pg0293_02
open PySem PySem.W PyProof.Rows
set_option Elab.async false
set_option maxRecDepth 100000
namespace Mine

/-! ## heaps -/
abbrev Kp (g h : Heap) : Prop := ∀ b o, g.get? b = some o → h.get? b = some o
theorem Kp.tr {g h k : Heap} (x : Kp g h) (y : Kp h k) : Kp g k := fun b o e => y b o (x b o e)
theorem Kp.rf {g : Heap} : Kp g g := fun _ _ e => e
theorem Kp.push (h : Heap) (o : Obj) : Kp h (h.push o) := fun _ _ e => Heap.get?_push_of_some _ e

structure Wld (K : Frag) (mb : Str → Option Value) (h : Heap) : Prop where
  kin : K.In h
  lim : h.NoLimit
  g : ∃ mg, h.Ns mainGlobals mg
  b : h.Ns builtinsNs mb
  bb : ∀ x : Str, x ≠ ("__name__" : Str) → mb x = bootBuiltins x
theorem Wld.up {K : Frag} {mb} {g h : Heap} (W : Wld K mb g) (k : Kp g h) : Wld K mb h :=
  ⟨W.kin.keeps k, W.lim.keeps k, let ⟨mg, x⟩ := W.g; ⟨mg, x.keeps k⟩, W.b.keeps k, W.bb⟩

/-- heap h over the frozen part g, with the mutable objects M -/
structure Hp (g : Heap) (M : List (Addr × (Obj → Prop))) (h : Heap) : Prop where
  keep : Kp g h
  mu : ∀ p ∈ M, (∃ o, h.get? p.1 = some o ∧ p.2 o) ∧ g.get? p.1 = none
  nd : (M.map (·.1)).Nodup
/-- a frame: the locals at L are known to hold l -/
structure Bd (g : Heap) (L : Addr) (l : List (Str × Value)) (M : List (Addr × (Obj → Prop))) (h : Heap) : Prop where
  ns : ∃ m, h.Ns L m ∧ ∀ p ∈ l, m p.1 = some p.2
  off : g.get? L = none
  ne : ∀ p ∈ M, p.1 ≠ L
  hp : Hp g M h

def lst (vs : List Value) : Obj → Prop := fun o => ∃ n, o = { cls := .type "list", dict := none, data := .seq vs.toArray n, slots := #[] }
def cel (v : Option Value) : Obj → Prop := fun o => o.data = .cell v
abbrev IsL (h : Heap) (a : Addr) (vs : List Value) : Prop := ∃ o, h.get? a = some o ∧ lst vs o
theorem IsL.plain {h : Heap} {a : Addr} {vs : List Value} (x : IsL h a vs) : h.PlainList a vs.toArray := let ⟨_, e, n, q⟩ := x; ⟨n, q ▸ e⟩
theorem IsL.of {h : Heap} {a : Addr} {vs : List Value} (x : h.PlainList a vs.toArray) : IsL h a vs := let ⟨n, e⟩ := x; ⟨_, e, n, rfl⟩
theorem IsL.list {h : Heap} {a : Addr} {vs : List Value} (x : IsL h a vs) : h.IsList a vs.toArray := let ⟨_, e, n, q⟩ := x; ⟨_, e, q ▸ rfl, n, q ▸ rfl⟩
theorem IsL.up {h h' : Heap} {a : Addr} {vs : List Value} (x : IsL h a vs) (k : Kp h h') : IsL h' a vs := let ⟨o, e, q⟩ := x; ⟨o, k _ _ e, q⟩

theorem fresh_size (h : Heap) : h.get? h.objs.size = none := by
  cases e : h.get? h.objs.size with
  | none => rfl
  | some o => exact absurd (Heap.lt_size e) (Nat.lt_irrefl _)
theorem Kp.none {g h : Heap} (k : Kp g h) {a : Addr} (e : h.get? a = none) : g.get? a = none := by
  cases q : g.get? a with
  | none => rfl
  | some o => rw [k _ _ q] at e; cases e

section
variable {g g' h h' : Heap} {L : Addr} {l l' : List (Str × Value)} {M M' : List (Addr × (Obj → Prop))}
theorem Hp.kp (b : Hp g M h) (k : Kp h h') : Hp g M h' :=
  ⟨b.keep.tr k, fun p hp => let ⟨⟨o, x, z⟩, y⟩ := b.mu p hp; ⟨⟨o, k _ _ x, z⟩, y⟩, b.nd⟩
theorem Bd.kp (b : Bd g L l M h) (k : Kp h h') : Bd g L l M h' := ⟨let ⟨m, x, y⟩ := b.ns; ⟨m, x.keeps k, y⟩, b.off, b.ne, b.hp.kp k⟩
theorem Bd.keep (b : Bd g L l M h) : Kp g h := b.hp.keep
theorem Bd.forget (b : Bd g L l M h) (s : ∀ p ∈ l', p ∈ l) : Bd g L l' M h := ⟨let ⟨m, x, y⟩ := b.ns; ⟨m, x, fun p hp => y p (s p hp)⟩, b.off, b.ne, b.hp⟩
theorem Hp.sub (b : Hp g M h) (s : M'.Sublist M) : Hp g M' h := ⟨b.keep, fun p hp => b.mu p (s.subset hp), (s.map _).nodup b.nd⟩
theorem Bd.sub (b : Bd g L l M h) (s : M'.Sublist M) : Bd g L l M' h := ⟨b.ns, b.off, fun p hp => b.ne p (s.subset hp), b.hp.sub s⟩
theorem Bd.tail {p} (b : Bd g L l (p :: M) h) : Bd g L l M h := b.sub (List.sublist_cons_self _ _)
theorem Hp.weak {a : Addr} {p q : Obj → Prop} (b : Hp g ((a, p) :: M) h) (w : ∀ o, p o → q o) : Hp g ((a, q) :: M) h :=
  ⟨b.keep, fun r hr => by
    rcases List.mem_cons.mp hr with rfl | hr
    · obtain ⟨⟨o, x, z⟩, y⟩ := b.mu _ (.head _); exact ⟨⟨o, x, w o z⟩, y⟩
    · exact b.mu r (.tail _ hr), b.nd⟩
theorem Bd.lsz (b : Bd g L l M h) : L < h.objs.size := let ⟨_, ⟨_, _, _, e, _⟩, _⟩ := b.ns; Heap.lt_size e
theorem Hp.msz (b : Hp g M h) : ∀ p ∈ M, p.1 < h.objs.size := fun p hp => let ⟨⟨_, e, _⟩, _⟩ := b.mu p hp; Heap.lt_size e
/-- the heap of a frame, its locals one of the mutable objects -/
theorem Bd.out (b : Bd g L l M h) : ∃ oL, Hp g ((L, (· = oL)) :: M) h ∧ (∀ h' M' g', Hp g' ((L, (· = oL)) :: M') h' → Bd g' L l M' h') := by
  obtain ⟨m, ⟨oL, es, ep, e, r⟩, y⟩ := b.ns
  refine ⟨oL, ⟨b.hp.keep, fun p hp => ?_, ?_⟩, fun h' M' g' H => ?_⟩
  · rcases List.mem_cons.mp hp with rfl | hp
    · exact ⟨⟨oL, e, rfl⟩, b.off⟩
    · exact b.hp.mu p hp
  · rw [List.map_cons, List.nodup_cons]
    exact ⟨fun q => by obtain ⟨p, hp, e⟩ := List.mem_map.mp q; exact b.ne p hp e, b.hp.nd⟩
  · obtain ⟨⟨o, e', rfl⟩, hg⟩ := H.mu _ (.head _)
    have nd := H.nd
    rw [List.map_cons, List.nodup_cons] at nd
    exact ⟨⟨m, ⟨o, es, ep, e', r⟩, y⟩, hg, fun p hp q => nd.1 (List.mem_map.mpr ⟨p, hp, q⟩), H.sub (List.sublist_cons_self _ _)⟩
/-- a new object joins the mutable ones -/
theorem Hp.add {a : Addr} {o : Obj} {p : Obj → Prop} (b : Hp g M h) (k : Kp h h') (hf : h.get? a = none) (e : h'.get? a = some o) (hp : p o) : Hp g ((a, p) :: M) h' := by
  have b' := b.kp k
  refine ⟨b'.keep, fun r hr => ?_, ?_⟩
  · rcases List.mem_cons.mp hr with rfl | hr
    · exact ⟨⟨o, e, hp⟩, b.keep.none hf⟩
    · exact b'.mu r hr
  · rw [List.map_cons, List.nodup_cons]
    refine ⟨fun q => ?_, b.nd⟩
    obtain ⟨r, hr, rfl⟩ := List.mem_map.mp q
    obtain ⟨⟨o', e', _⟩, _⟩ := b.mu r hr
    rw [hf] at e'; cases e'
theorem Bd.add {a : Addr} {o : Obj} {p : Obj → Prop} (b : Bd g L l M h) (k : Kp h h') (hf : h.get? a = none) (e : h'.get? a = some o) (hp : p o) : Bd g L l ((a, p) :: M) h' := by
  refine ⟨(b.kp k).ns, b.off, fun r hr => ?_, b.hp.add k hf e hp⟩
  rcases List.mem_cons.mp hr with rfl | hr
  · rintro rfl
    obtain ⟨_, ⟨_, _, _, e', _⟩, _⟩ := b.ns
    rw [hf] at e'; cases e'
  · exact b.ne r hr
/-- all but the mutable objects is frozen -/
theorem Hp.freeze (b : Hp g M h) : ∃ g', Kp g g' ∧ Hp g' M h ∧ ∀ a o, h.get? a = some o → a ∉ M.map (·.1) → g'.get? a = some o := by
  refine ⟨hideAll h (M.map (·.1)), fun a o e => ?_, ⟨fun a o e => of_hideAll _ e, fun p hp => ⟨(b.mu p hp).1, hideAll_none _ (List.mem_map_of_mem hp)⟩, b.nd⟩, fun a o e n => hideAll_get _ e n⟩
  refine hideAll_get _ (b.keep _ _ e) fun q => ?_
  obtain ⟨p, hp, rfl⟩ := List.mem_map.mp q
  rw [(b.mu p hp).2] at e; cases e
/-- new objects are frozen -/
theorem Bd.freeze (b : Bd g L l M h) (k : Kp h h') : ∃ g', Kp g g' ∧ Bd g' L l M h' ∧ ∀ a o, h.get? a = none → h'.get? a = some o → g'.get? a = some o := by
  obtain ⟨oL, H, back⟩ := b.out
  obtain ⟨g', k', H', f⟩ := (H.kp k).freeze
  refine ⟨g', k', back _ _ _ H', fun a o e e' => f a o e' fun q => ?_⟩
  obtain ⟨p, hp, rfl⟩ := List.mem_map.mp q
  obtain ⟨⟨o', e', _⟩, _⟩ := H.mu p hp
  rw [e] at e'; cases e'
/-- a mutable object turns -/
theorem Hp.upd {a : Addr} {o : Obj} {p q : Obj → Prop} (b : Hp g ((a, p) :: M) h) (hs : Heap.ExtBut a h h') (e : h'.get? a = some o) (hq : q o) : Hp g ((a, q) :: M) h' := by
  refine ⟨fun c x ex => hs c x (fun q => ?_) (b.keep c x ex), fun r hr => ?_, b.nd⟩
  · subst q; rw [(b.mu _ (.head _)).2] at ex; cases ex
  · rcases List.mem_cons.mp hr with rfl | hr
    · exact ⟨⟨o, e, hq⟩, (b.mu (a, p) (.head _)).2⟩
    · obtain ⟨⟨o', e', z⟩, y⟩ := b.mu r (.tail _ hr)
      have nd := b.nd
      rw [List.map_cons, List.nodup_cons] at nd
      exact ⟨⟨o', hs _ _ (fun q => nd.1 (List.mem_map.mpr ⟨r, hr, q⟩)) e', z⟩, y⟩
theorem Bd.upd {a : Addr} {o : Obj} {p q : Obj → Prop} (b : Bd g L l ((a, p) :: M) h) (hs : Heap.ExtBut a h h') (e : h'.get? a = some o) (hq : q o) : Bd g L l ((a, q) :: M) h' :=
  ⟨let ⟨m, x, y⟩ := b.ns; ⟨m, x.extBut hs (Ne.symm (b.ne (a, p) (.head _))), y⟩, b.off, fun r hr => by
    rcases List.mem_cons.mp hr with rfl | hr
    · exact b.ne (a, p) (.head _)
    · exact b.ne r (.tail _ hr), b.hp.upd hs e hq⟩
theorem Hp.perm (b : Hp g M h) (s : M.Perm M') : Hp g M' h := ⟨b.keep, fun p hp => b.mu p (s.mem_iff.mpr hp), (s.map _).nodup_iff.mp b.nd⟩
theorem Bd.perm (b : Bd g L l M h) (s : M.Perm M') : Bd g L l M' h := ⟨b.ns, b.off, fun p hp => b.ne p (s.mem_iff.mpr hp), b.hp.perm s⟩
end

inductive Has (x : Str) (v : Value) : List (Str × Value) → Prop
  | hd {r} : Has x v ((x, v) :: r)
  | tl {p r} : Has x v r → Has x v (p :: r)
theorem Has.mem {x : Str} {v : Value} {l : List (Str × Value)} (s : Has x v l) : (x, v) ∈ l := by
  induction s with
  | hd => exact List.mem_cons_self
  | tl _ ih => exact List.mem_cons_of_mem _ ih
/-- the store of a name -/
inductive Sto (x : Str) (v : Value) : List (Str × Value) → List (Str × Value) → Prop
  | nil : Sto x v [] [(x, v)]
  | hit {u l} : (l.all fun p => !(p.1 == x)) = true → Sto x v ((x, u) :: l) ((x, v) :: l)
  | miss {y u l l'} : (y == x) = false → Sto x v l l' → Sto x v ((y, u) :: l) ((y, u) :: l')
theorem Sto.ok {x : Str} {v : Value} {l l' : List (Str × Value)} (s : Sto x v l l') : ∀ p ∈ l', p = (x, v) ∨ (p ∈ l ∧ p.1 ≠ x) := by
  induction s with
  | nil => intro p hp; simp at hp; exact .inl hp
  | @hit u l ha =>
    intro p hp
    rcases List.mem_cons.mp hp with rfl | hp
    · exact .inl rfl
    · refine .inr ⟨.tail _ hp, fun e => ?_⟩
      have := List.all_eq_true.mp ha p hp
      rw [e] at this; simp at this
  | @miss y u l l' hne _ ih =>
    intro p hp
    rcases List.mem_cons.mp hp with rfl | hp
    · exact .inr ⟨.head _, fun e => by simp at hne; exact hne e⟩
    · rcases ih p hp with r | ⟨r1, r2⟩
      · exact .inl r
      · exact .inr ⟨.tail _ r1, r2⟩

theorem Bd.sto {g h h' : Heap} {L : Addr} {l l' : List (Str × Value)} {M : List (Addr × (Obj → Prop))} {x : Str} {v : Value} (b : Bd g L l M h) (s : Sto x v l l')
    {m : Str → Option Value} (hm : ∀ p ∈ l, m p.1 = some p.2) (hn : h'.Ns L (fun y => if y = x then some v else m y)) (hs : Heap.SameBut L h h') : Bd g L l' M h' := by
  refine ⟨⟨_, hn, fun p hp => ?_⟩, b.off, b.ne, fun a o e => hs.extBut a o (fun q => ?_) (b.keep a o e), fun p hp => ?_, b.hp.nd⟩
  · rcases s.ok p hp with rfl | ⟨h1, h2⟩
    · simp
    · simp [h2, hm p h1]
  · subst q; rw [b.off] at e; cases e
  · obtain ⟨⟨o, x1, z⟩, x2⟩ := b.hp.mu p hp
    exact ⟨⟨o, hs.extBut _ _ (b.ne p hp) x1, z⟩, x2⟩

section
variable {prog : Program} {w : World} {A : Around} {E : Value → Shared → Prop} {env : Env} {g h : Heap} {L : Addr} {l : List (Str × Value)} {M : List (Addr × (Obj → Prop))}
  {gs : Array GenState} {dr : Drawn} {tk : Nat} {os : OsState} {x : Str} {pos : Pos} {v : Value}

theorem rLoc {Q : Value → Shared → Prop} (b : Bd g L l M h) (hv : Has x v l) (hk : (env.scope.kind == .function && env.kindOf x == some .local && !(x == ("__debug__" : Str))) = true) (hL : env.locals = L)
    (q : Q v ⟨h, gs, dr, tk, os⟩) : wpAny (model prog w) A (eval (.Name x pos) env) Q E ⟨h, gs, dr, tk, os⟩ := by
  obtain ⟨m, hn, hm⟩ := b.ns
  simp only [Bool.and_eq_true, beq_iff_eq, Bool.not_eq_true'] at hk
  subst hL
  exact wpAny_Name (wpAny_loadName_local hk.1.1 hk.1.2 hn (hm _ hv.mem) q) hk.2

theorem rSto {Q : Unit → Shared → Prop} {l' : List (Str × Value)} (b : Bd g L l M h) (s : Sto x v l l') (hk : (env.scope.kind == .function && env.kindOf x == some .local) = true) (hL : env.locals = L)
    (q : ∀ h' tk', Bd g L l' M h' → Q () ⟨h', gs, dr, tk', os⟩) : wpAny (model prog w) A (storeName env x v) Q E ⟨h, gs, dr, tk, os⟩ := by
  obtain ⟨m, hn, hm⟩ := b.ns
  simp only [Bool.and_eq_true, beq_iff_eq] at hk
  subst hL
  refine wpAny_storeName_local hk.2 hn (fun h' hn' hs => q h' _ (b.sto s hm hn' hs)) ?_
  rw [hk.1]; rfl

/-- a name of the module -/
theorem rGlo {K : Frag} {mb : Str → Option Value} {Q : Value → Shared → Prop} (W : Wld K mb g) (b : Bd g L l M h) (hv : nsIn K mainGlobals x = some (some v))
    (hk : (env.scope.kind == .function && env.kindOf x == some .globalImplicit && !(x == ("__debug__" : Str))) = true) (hg : env.globals = mainGlobals)
    (q : Q v ⟨h, gs, dr, tk, os⟩) : wpAny (model prog w) A (eval (.Name x pos) env) Q E ⟨h, gs, dr, tk, os⟩ := by
  obtain ⟨mg, hn⟩ := W.g
  simp only [Bool.and_eq_true, beq_iff_eq, Bool.not_eq_true'] at hk
  refine Calls.Name_function_global hk.1.1 hk.1.2 (Calls.loadGlobal_global (mg := mg) (by rw [hg]; exact hn.keeps b.keep) (mg_of W.kin hn hv) q) hk.2
/-- a name of the built-ins -/
theorem rBui {K : Frag} {mb : Str → Option Value} {Q : Value → Shared → Prop} (W : Wld K mb g) (b : Bd g L l M h) (hv : nsIn K mainGlobals x = some none) (hb : bootBuiltins x = some v) 
    (hk : (env.scope.kind == .function && env.kindOf x == some .globalImplicit && !(x == ("__debug__" : Str)) && !(x == ("__name__" : Str))) = true) (hg : env.globals = mainGlobals) (hbn : env.builtins = builtinsNs)
    (q : Q v ⟨h, gs, dr, tk, os⟩) : wpAny (model prog w) A (eval (.Name x pos) env) Q E ⟨h, gs, dr, tk, os⟩ := by
  obtain ⟨mg, hn⟩ := W.g
  simp only [Bool.and_eq_true, beq_iff_eq, Bool.not_eq_true', beq_eq_false_iff_ne] at hk
  refine Calls.Name_function_global hk.1.1.1 hk.1.1.2 (Calls.loadGlobal_builtin (mg := mg) (mb := mb) (by rw [hg]; exact hn.keeps b.keep) (mg_none_of W.kin hn hv) (by rw [hbn]; exact W.b.keeps b.keep) ((W.bb _ hk.2).trans hb) q) (by simpa using hk.1.2)
end

section
variable {M : Model} {A : Around} {E : Value → Shared → Prop} {env : Env} {s : Shared}
theorem vNil {Q : List Value → Shared → Prop} (q : Q [] s) : wpAny M A (spliced (starEach [] env)) Q E s := by
  refine Calls.spliced_nil ?_
  exact q
theorem vCons {e : Expr} {r : List Expr} {Q : List Value → Shared → Prop} (hs : starEach (e :: r) env = (false, eval e env) :: starEach r env)
    (q : wpAny M A (eval e env) (fun v s₁ => wpAny M A (spliced (starEach r env)) (fun vs s₂ => Q (v :: vs) s₂) E s₁) E s) : wpAny M A (spliced (starEach (e :: r) env)) Q E s := by
  rw [hs]; exact Calls.spliced_cons q
theorem evalArgs_any {f : Value} {as : List (Bool × Sem Value)} {Q : Args → Shared → Prop} (hn : as.any (·.1) = false) (q : wpAny M A (spliced as) (fun vs s' => Q ⟨vs, []⟩ s') E s) : wpAny M A (evalArgs f true as []) Q E s := by
  cases as with
  | nil => exact fun Γ p hΓ => evalArgs_nil3 (Q := Q) (q Γ p hΓ) Γ p hΓ
  | cons p r =>
    obtain ⟨b, x⟩ := p
    cases b with
    | true => simp at hn
    | false => exact Calls.evalArgs_plain q
theorem evalArgs_one {f : Value} {as : List (Bool × Sem Value)} {k : Str} {x : Sem Value} {Q : Args → Shared → Prop} (hn : as.any (·.1) = false)
    (q : wpAny M A (spliced as) (fun vs s' => wpAny M A x (fun v s₂ => Q ⟨vs, [(k, v)]⟩ s₂) E s') E s) : wpAny M A (evalArgs f true as [(some k, x)]) Q E s := by
  have q' : wpAny M A (spliced as) (fun vs s₁ => wpAny M A (evalAll (([(some k, x)] : List (Option Str × Sem Value)).map (·.2))) (fun ks s₂ => Q ⟨vs, (([(some k, x)] : List (Option Str × Sem Value)).filterMap (·.1)).zip ks⟩ s₂) E s₁) E s :=
    wpAny_mono q (fun vs s' h => wpAny_evalAll_cons (wpAny_mono h (fun v s₂ h₂ => wpAny_evalAll_nil h₂) fun _ _ e => e)) fun _ _ e => e
  cases as with
  | nil => exact evalArgs_kw_nil rfl (by
      have := q'
      unfold spliced at this
      exact fun Γ p hΓ => this Γ p hΓ Γ p hΓ)
  | cons p r =>
    obtain ⟨b, y⟩ := p
    cases b with
    | true => simp at hn
    | false => exact evalArgs_kw rfl q'
theorem backTo_id {pos : Pos} {as : List (Bool × Sem Value)} (hn : as.any (·.1) = false) : backTo pos as = as := by
  unfold backTo
  refine map_eq_self fun x hx => ?_
  obtain ⟨b, t⟩ := x
  cases b with
  | false => rfl
  | true => exfalso; rw [List.any_eq_false] at hn; exact hn _ hx rfl

def Keeps' (M : Model) (f : Value) (P : Heap → Prop) : Prop := ∀ h, P h → ∃ k, (k = Keeper.frame ∨ k = Keeper.machine ∨ k = Keeper.boundFrame) ∧ Looks M h (keeperOf f) k
theorem cw {P : Heap → Prop} {pos : Pos} {f : Value} {first : List Value} {args : List Expr} {Q : Value → Shared → Prop} (hn : (starEach args env).any (·.1) = false) (hk : Keeps' M f P)
    (q : wpAny M A (spliced (starEach args env)) (fun vs s₁ => P s₁.heap ∧ wpAny M A (call f (first ++ vs) []) Q E s₁) E s) : wpAny M A (callWith pos f first (backTo pos (starEach args env)) []) Q E s := by
  rw [backTo_id hn]
  exact callWith_of (by rw [hn]; rfl) hk (evalArgs_any hn q)
theorem cwk {P : Heap → Prop} {pos kp : Pos} {f : Value} {first : List Value} {args : List Expr} {k : Str} {e : Expr} {Q : Value → Shared → Prop} (hn : (starEach args env).any (·.1) = false) (hk : Keeps' M f P)
    (q : wpAny M A (spliced (starEach args env)) (fun vs s₁ => wpAny M A (eval e env) (fun v s₂ => P s₂.heap ∧ wpAny M A (call f (first ++ vs) [(k, v)]) Q E s₂) E s₁) E s) :
    wpAny M A (callWith pos f first (backTo pos (starEach args env)) (backToKw pos (keywordEach [⟨some k, e, kp⟩] env))) Q E s := by
  rw [backTo_id hn]
  refine callWith_of (by rw [hn]; rfl) hk (evalArgs_one hn (wpAny_mono q (fun vs s₁ h₁ => ?_) fun _ _ e => e))
  exact wpAny_bind (wpAny_mono h₁ (fun v s₂ h₂ => wpAny_bind (wpAny_standAt (wpAny_pure h₂))) fun _ _ e => e)
theorem keepFn {K : Frag} {a : Addr} (hf : fnIn K a = true) : Keeps' M (.ref a) (fun h => K.In h) := fun h X => by
  unfold fnIn at hf
  split at hf
  · rename_i e
    exact ⟨.frame, .inl rfl, (Looks.ld (part := none) (X _ _ e)).andThen .now⟩
  · cases hf
theorem keepVal {f : Value} (hf : ∀ a, f ≠ .ref a) : Keeps' M f (fun _ => True) := fun h _ => by
  refine ⟨.machine, .inr (.inl rfl), Looks.of_pure ?_⟩
  cases f <;> first | rfl | exact absurd rfl (hf _)
end

section
variable {prog : Program} {w : World} {A : Around} {E : Value → Shared → Prop} {env : Env} {g h : Heap} {L : Addr} {l : List (Str × Value)} {M : List (Addr × (Obj → Prop))}
  {gs : Array GenState} {dr : Drawn} {tk : Nat} {os : OsState} {x : Str} {pos : Pos} {v : Value} {K : Frag} {mb : Str → Option Value}

/-- a call of a def of the module, by its name -/
theorem rCallG {args : List Expr} {np : Pos} {a : Addr} {Q : Value → Shared → Prop} (W : Wld K mb g) (b : Bd g L l M h) (hv : nsIn K mainGlobals x = some (some (.ref a))) (hf : fnIn K a = true)
    (hk : (env.scope.kind == .function && env.kindOf x == some .globalImplicit && !(x == ("__debug__" : Str))) = true) (hg : env.globals = mainGlobals) (hn : (starEach args env).any (·.1) = false)
    (q : wpAny (model prog w) A (spliced (starEach args env)) (fun vs s₁ => Kp g s₁.heap ∧ wpAny (model prog w) A (call (.ref a) vs []) Q E s₁) E ⟨h, gs, dr, tk, os⟩) :
    wpAny (model prog w) A (eval (.Call (.Name x np) args [] pos) env) Q E ⟨h, gs, dr, tk, os⟩ :=
  wpAny_Call_NameR (rGlo W b hv hk hg (cw hn (keepFn hf) (wpAny_mono q (fun vs s₁ h₁ => ⟨W.kin.keeps h₁.1, by simpa using h₁.2⟩) fun _ _ e => e)))
theorem rCallGk {args : List Expr} {np kp : Pos} {a : Addr} {k : Str} {e : Expr} {Q : Value → Shared → Prop} (W : Wld K mb g) (b : Bd g L l M h) (hv : nsIn K mainGlobals x = some (some (.ref a))) (hf : fnIn K a = true)
    (hk : (env.scope.kind == .function && env.kindOf x == some .globalImplicit && !(x == ("__debug__" : Str))) = true) (hg : env.globals = mainGlobals) (hn : (starEach args env).any (·.1) = false)
    (q : wpAny (model prog w) A (spliced (starEach args env)) (fun vs s₁ => wpAny (model prog w) A (eval e env) (fun v s₂ => Kp g s₂.heap ∧ wpAny (model prog w) A (call (.ref a) vs [(k, v)]) Q E s₂) E s₁) E ⟨h, gs, dr, tk, os⟩) :
    wpAny (model prog w) A (eval (.Call (.Name x np) args [⟨some k, e, kp⟩] pos) env) Q E ⟨h, gs, dr, tk, os⟩ :=
  wpAny_Call_Name_kw (rGlo W b hv hk hg (cwk hn (keepFn hf) (wpAny_mono q (fun vs s₁ h₁ => wpAny_mono h₁ (fun v s₂ h₂ => ⟨W.kin.keeps h₂.1, by simpa using h₂.2⟩) fun _ _ e => e) fun _ _ e => e)))
theorem rCallB {args : List Expr} {np : Pos} {Q : Value → Shared → Prop} (W : Wld K mb g) (b : Bd g L l M h) (hv : nsIn K mainGlobals x = some none) (hb : bootBuiltins x = some v) (hr : (match v with | .ref _ => false | _ => true) = true)
    (hk : (env.scope.kind == .function && env.kindOf x == some .globalImplicit && !(x == ("__debug__" : Str)) && !(x == ("__name__" : Str))) = true) (hg : env.globals = mainGlobals) (hbn : env.builtins = builtinsNs) (hn : (starEach args env).any (·.1) = false)
    (q : wpAny (model prog w) A (spliced (starEach args env)) (fun vs s₁ => wpAny (model prog w) A (call v vs []) Q E s₁) E ⟨h, gs, dr, tk, os⟩) :
    wpAny (model prog w) A (eval (.Call (.Name x np) args [] pos) env) Q E ⟨h, gs, dr, tk, os⟩ :=
  wpAny_Call_NameR (rBui W b hv hb hk hg hbn (cw hn (keepVal (fun a e => by subst e; cases hr)) (wpAny_mono q (fun vs s₁ h₁ => ⟨trivial, by simpa using h₁⟩) fun _ _ e => e)))

/-- a method's call -/
def MQ (M : Model) (A : Around) (env : Env) (pos : Pos) (args : List Expr) (Q : Value → Shared → Prop) (E : Value → Shared → Prop) (fx : Value × List Value) (s : Shared) : Prop := wpAny M A (callWith pos fx.1 fx.2 (backTo pos (starEach args env)) []) Q E s
theorem rMeth {o : Expr} {name : Str} {apos : Pos} {args : List Expr} {Q : Value → Shared → Prop} {s : Shared}
    (hbase : attributeBase o name env (eval o env) = eval o env) (hf : methodCallForm (args.length + ([] : List Keyword).length) (backTo pos (starEach args env)) (backToKw pos (keywordEach [] env)) = true) (hline : (apos.endLine == pos.line) = true)
    (q : wpAny (model prog w) A (eval o env) (fun ov s₁ => wpAny (model prog w) A (getMethod ov name (do return (← importBound o env).getD true)) (MQ (model prog w) A env pos args Q E) E s₁) E s) :
    wpAny (model prog w) A (eval (.Call (.Attribute o name apos) args [] pos) env) Q E s := by
  rw [arm_eval_Call, hbase]
  refine wpAny_bind (wpAny_mono q (fun ov s₁ h₁ => ?_) fun _ _ e => e)
  refine wpAny_bind (wpAny_standAt ?_)
  have hpos : methodCallPos true o env apos pos = pure pos := by unfold methodCallPos; simp [hline]
  unfold methodCall
  rw [hf]
  refine wpAny_bind (wpAny_holding (wpAny_mono h₁ (fun fx s₂ h₂ => ?_) fun _ _ e => e))
  obtain ⟨f, first⟩ := fx
  dsimp only
  rw [hpos]
  exact wpAny_bind (wpAny_pure h₂)
theorem mqB {id : String} {ov : Value} {args : List Expr} {Q : Value → Shared → Prop} {s : Shared} (hn : (starEach args env).any (·.1) = false)
    (q : wpAny (model prog w) A (spliced (starEach args env)) (fun vs s₁ => wpAny (model prog w) A (call (.builtin id) (ov :: vs) []) Q E s₁) E s) : MQ (model prog w) A env pos args Q E (.builtin id, [ov]) s :=
  cw hn (keepVal (fun a e => by cases e)) (wpAny_mono q (fun vs s₁ h₁ => ⟨trivial, h₁⟩) fun _ _ e => e)
theorem mqF {f : Addr} {ov : Value} {args : List Expr} {Q : Value → Shared → Prop} {s : Shared} (W : Wld K mb g) (hf : fnIn K f = true) (hn : (starEach args env).any (·.1) = false)
    (q : wpAny (model prog w) A (spliced (starEach args env)) (fun vs s₁ => Kp g s₁.heap ∧ wpAny (model prog w) A (call (.ref f) (ov :: vs) []) Q E s₁) E s) : MQ (model prog w) A env pos args Q E (.ref f, [ov]) s :=
  cw hn (keepFn hf) (wpAny_mono q (fun vs s₁ h₁ => ⟨W.kin.keeps h₁.1, h₁.2⟩) fun _ _ e => e)
end

/-! ## plain words -/
section
variable {prog : Program} {w : World} {A : Around} {E : Value → Shared → Prop} {env : Env} {g h : Heap} {L : Addr} {l : List (Str × Value)} {M : List (Addr × (Obj → Prop))}
  {gs : Array GenState} {dr : Drawn} {tk : Nat} {os : OsState} {pos : Pos} {k : Nat}
theorem xI {i : Int} {Q : Value → Shared → Prop} (q : ∀ u tk', Q (.int i u) ⟨h, gs, dr, tk', os⟩) : wpAny (model prog w) A (eval (.Constant (.int i) k pos) env) Q E ⟨h, gs, dr, tk, os⟩ := by
  with_reducible refine wpAny_Constant_int ?_
  exact q _ _
theorem xS {x : Str} {Q : Value → Shared → Prop} (q : ∀ u tk', Q (.str x u) ⟨h, gs, dr, tk', os⟩) : wpAny (model prog w) A (eval (.Constant (.str x) k pos) env) Q E ⟨h, gs, dr, tk, os⟩ := by
  with_reducible refine Calls.Constant_str ?_
  exact q _ _
theorem xB {c : Bool} {Q : Value → Shared → Prop} (q : Q (.bool c) ⟨h, gs, dr, tk, os⟩) : wpAny (model prog w) A (eval (.Constant (.bool c) k pos) env) Q E ⟨h, gs, dr, tk, os⟩ := by
  with_reducible refine Constant_bool ?_
  exact q
theorem xN {Q : Value → Shared → Prop} (q : Q .none ⟨h, gs, dr, tk, os⟩) : wpAny (model prog w) A (eval (.Constant .none k pos) env) Q E ⟨h, gs, dr, tk, os⟩ := by
  with_reducible refine Constant_none ?_
  exact q
theorem xCmp {lh op r} {s : Shared} {Q : Value → Shared → Prop} (hm : behindInMarks op r = false)
    (q : wpAny (model prog w) A (eval lh env) (fun a s₁ => wpAny (model prog w) A (eval r env) (fun b s₂ => wpAny (model prog w) A (compareOp op a b) Q E s₂) E s₁) E s) :
    wpAny (model prog w) A (eval (.Compare lh [op] [r] pos) env) Q E s := wpAny_Compare1 q hm
theorem tCmp {lh op r whole} {s : Shared} {Q : Bool → Shared → Prop} (hm : behindInMarks op r = false)
    (q : wpAny (model prog w) A (eval lh env) (fun a s₁ => wpAny (model prog w) A (eval r env) (fun b s₂ => wpAny (model prog w) A (compareOp op a b) (fun c s₃ => wpAny (model prog w) A (truthy c) Q E s₃) E s₂) E s₁) E s) :
    wpAny (model prog w) A (isTrue (.Compare lh [op] [r] pos) env whole) Q E s := wpAny_isTrue_Compare1 q hm
theorem tPlain {e : Expr} {s : Shared} {Q : Bool → Shared → Prop} (he : isTrue e env (eval e env) = (do let v ← eval e env; standAt e.pos; holding [v] (truthy v)))
    (q : wpAny (model prog w) A (eval e env) (fun v s₁ => wpAny (model prog w) A (truthy v) Q E s₁) E s) : wpAny (model prog w) A (isTrue e env (eval e env)) Q E s := isTrue_plain q he
theorem ttB {c : Bool} {s : Shared} {Q : Bool → Shared → Prop} (q : Q c s) : wpAny (model prog w) A (truthy (.bool c)) Q E s := by
  with_reducible refine wpAny_truthy_bool ?_
  exact q
theorem sAsg {x pos' value} {s : Shared} {Q : Flow → Shared → Prop} (hs : swapsWith value (some (.Name x pos')) pos.line env = pure false)
    (q : wpAny (model prog w) A (eval value env) (fun v s₁ => wpAny (model prog w) A (storeName env x v) (fun _ => Q .next) E s₁) E s) : wpAny (model prog w) A (exec (.Assign [.Name x pos'] value pos) env) Q E s := wpAny_Assign_Name q hs
def Nx (M : Model) (A : Around) (env : Env) (rest : List Stmt) (Q : Flow → Shared → Prop) (E : Value → Shared → Prop) (f : Flow) (s' : Shared) : Prop := match f with | .next => wpAny M A (execs rest env) Q E s' | f => Q f s'
theorem sCons {st rest} {s : Shared} {Q : Flow → Shared → Prop} (q : wpAny (model prog w) A (exec st env) (Nx (model prog w) A env rest Q E) E s) : wpAny (model prog w) A (execs (st :: rest) env) Q E s := by
  with_reducible refine wpAny_execs_cons ?_
  exact q
theorem nxN {M : Model} {rest} {s : Shared} {Q : Flow → Shared → Prop} (q : wpAny M A (execs rest env) Q E s) : Nx M A env rest Q E .next s := q
theorem nxR {M : Model} {rest} {s : Shared} {v : Value} {Q : Flow → Shared → Prop} (q : Q (.ret v) s) : Nx M A env rest Q E (.ret v) s := q
theorem sNil {s : Shared} {Q : Flow → Shared → Prop} (q : Q .next s) : wpAny (model prog w) A (execs [] env) Q E s := by
  with_reducible refine wpAny_execs_nil ?_
  exact q
theorem iteT {P P' : Prop} (q : P) : (if true = true then P else P') := by simpa using q
theorem iteF {P P' : Prop} (q : P') : (if false = true then P else P') := by simpa using q
theorem iteC {c : Bool} {P P' : Prop} (q : c = true → P) (q' : c = false → P') : (if c = true then P else P') := by cases c <;> simp_all
theorem iteD {c : Prop} [Decidable c] {P P' : Prop} (q : c → P) (q' : ¬ c → P') : (if decide c = true then P else P') := by by_cases hc : c <;> simp_all

/-! ints -/
variable {a b : Int} {t u : Tok}
theorem oAdd {Q : Value → Shared → Prop} (q : ∀ u tk', Q (.int (a + b) u) ⟨h, gs, dr, tk', os⟩) : wpAny (model prog w) A (binaryOp .Add (.int a t) (.int b u)) Q E ⟨h, gs, dr, tk, os⟩ := by
  with_reducible refine add_int ?_
  exact q _ _
theorem oSub {Q : Value → Shared → Prop} (q : ∀ u tk', Q (.int (a - b) u) ⟨h, gs, dr, tk', os⟩) : wpAny (model prog w) A (binaryOp .Sub (.int a t) (.int b u)) Q E ⟨h, gs, dr, tk, os⟩ := by
  with_reducible refine sub_int ?_
  exact q _ _
theorem oMod {Q : Value → Shared → Prop} (hb : b ≠ 0) (q : ∀ u tk', Q (.int (a.fmod b) u) ⟨h, gs, dr, tk', os⟩) : wpAny (model prog w) A (binaryOp .Mod (.int a t) (.int b u)) Q E ⟨h, gs, dr, tk, os⟩ := by
  with_reducible refine mod_int' hb ?_
  exact q _ _
theorem oLt {Q : Value → Shared → Prop} (q : Q (.bool (decide (a < b))) ⟨h, gs, dr, tk, os⟩) : wpAny (model prog w) A (compareOp .Lt (.int a t) (.int b u)) Q E ⟨h, gs, dr, tk, os⟩ := by
  with_reducible refine lt_int ?_
  exact q
theorem oGt {Q : Value → Shared → Prop} (q : Q (.bool (decide (b < a))) ⟨h, gs, dr, tk, os⟩) : wpAny (model prog w) A (compareOp .Gt (.int a t) (.int b u)) Q E ⟨h, gs, dr, tk, os⟩ := by
  with_reducible refine gt_int ?_
  exact q
theorem oGe {Q : Value → Shared → Prop} (q : Q (.bool (decide (b ≤ a))) ⟨h, gs, dr, tk, os⟩) : wpAny (model prog w) A (compareOp .GtE (.int a t) (.int b u)) Q E ⟨h, gs, dr, tk, os⟩ := by
  with_reducible refine ge_int ?_
  exact q
theorem oLe {Q : Value → Shared → Prop} (q : Q (.bool (decide (a ≤ b))) ⟨h, gs, dr, tk, os⟩) : wpAny (model prog w) A (compareOp .LtE (.int a t) (.int b u)) Q E ⟨h, gs, dr, tk, os⟩ := by
  with_reducible refine le_int ?_
  exact q
theorem oEq {Q : Value → Shared → Prop} (q : Q (.bool (a == b)) ⟨h, gs, dr, tk, os⟩) : wpAny (model prog w) A (compareOp .Eq (.int a t) (.int b u)) Q E ⟨h, gs, dr, tk, os⟩ := by
  with_reducible refine eq_int ?_
  exact q
theorem oNe {Q : Value → Shared → Prop} (q : Q (.bool (a != b)) ⟨h, gs, dr, tk, os⟩) : wpAny (model prog w) A (compareOp .NotEq (.int a t) (.int b u)) Q E ⟨h, gs, dr, tk, os⟩ := by
  with_reducible refine ne_int ?_
  exact q

/-! texts -/
variable {x y : Str}
theorem oNotIn {Q : Value → Shared → Prop} (q : Q (.bool (!(!(Builtin.Str.occurrences x y 0 x.length 1).isEmpty))) ⟨h, gs, dr, tk, os⟩) : wpAny (model prog w) A (compareOp .NotIn (.str y u) (.str x t)) Q E ⟨h, gs, dr, tk, os⟩ := by
  with_reducible refine notIn_str ?_
  exact q
theorem oIn {Q : Value → Shared → Prop} (q : Q (.bool (!(Builtin.Str.occurrences x y 0 x.length 1).isEmpty)) ⟨h, gs, dr, tk, os⟩) : wpAny (model prog w) A (compareOp .In (.str y u) (.str x t)) Q E ⟨h, gs, dr, tk, os⟩ := by
  with_reducible refine PyProof.Rows.in_str ?_
  exact q
theorem oEqS {Q : Value → Shared → Prop} (q : Q (.bool (x == y)) ⟨h, gs, dr, tk, os⟩) : wpAny (model prog w) A (compareOp .Eq (.str x t) (.str y u)) Q E ⟨h, gs, dr, tk, os⟩ := by
  with_reducible refine PyProof.Rows.eq_str ?_
  exact q
theorem oNeS {Q : Value → Shared → Prop} (q : Q (.bool (x != y)) ⟨h, gs, dr, tk, os⟩) : wpAny (model prog w) A (compareOp .NotEq (.str x t) (.str y u)) Q E ⟨h, gs, dr, tk, os⟩ := by
  with_reducible refine PyProof.Rows.ne_str ?_
  exact q
theorem oCat {Q : Value → Shared → Prop} (hz : x.length + y.length ≤ sizeLine) (q : ∀ u tk', Q (.str (x ++ y) u) ⟨h, gs, dr, tk', os⟩) : wpAny (model prog w) A (binaryOp .Add (.str x t) (.str y u)) Q E ⟨h, gs, dr, tk, os⟩ := by
  refine PyProof.Rows.add_str ?_ hz
  exact fun t' k => q t' k
theorem oLenS {Q : Value → Shared → Prop} (hz : x.length ≤ sizeLine) (q : ∀ u tk', Q (.int x.length u) ⟨h, gs, dr, tk', os⟩) : wpAny (model prog w) A (call (.builtin "len") [.str x t] []) Q E ⟨h, gs, dr, tk, os⟩ :=
  PyProof.Rows.len_str (by rw [sizeLine_eq] at hz; omega) (q _ _)
theorem ttS {Q : Bool → Shared → Prop} (hz : x.length ≤ sizeLine) (q : ∀ tk', Q ((x.length : Int) != 0) ⟨h, gs, dr, tk', os⟩) : wpAny (model prog w) A (truthy (.str x t)) Q E ⟨h, gs, dr, tk, os⟩ :=
  P.truthy_str (by rw [sizeLine_eq] at hz; omega) (q _)

theorem oSplit {Q : Value → Shared → Prop} (hz : x.length + 2 ≤ sizeLine) (hy : (y.length == 0) = false)
    (q : ∀ D ls h' tk', ls.map (·.1) = Txt.split x y → Kp h h' → h.get? D = none → IsL h' D (strValues ls) → Q (.ref D) ⟨h', gs, dr, tk', os⟩) :
    wpAny (model prog w) A (call (.builtin "str.split") [.str x t, .str y u] []) Q E ⟨h, gs, dr, tk, os⟩ := by
  have fresh := fresh_size h
  have hn : (Builtin.Str.partsBetween x (Builtin.Str.occurrences x y 0 x.length (x.length + 1)) y.length).length ≤ sizeLine := by
    have e1 := StrLaws.occ_length_le x y 0 x.length (x.length + 1)
    rw [length_partsBetween]; omega
  cases h1 : (decide (x.length < y.length) || decide (Builtin.Str.strKind x < Builtin.Str.strKind y))
  · cases hf : (Builtin.Str.occurrences x y 0 x.length (x.length + 1)).isEmpty
    · refine call_meets F.slot_str_split (typeIs_str _ _ _) F.entry_str_split (F.args_str_split_2 _ _) (meets_str_split_sep x y t u h1 hy hf (by omega) hn) ?_
      rw [strsFrom_eq]
      exact q _ (numbered tk _) _ _ ((numbered_texts _ _).trans ((if_neg (ne_true_of_eq_false h1)).trans (if_neg (ne_true_of_eq_false hf))).symm) (Kp.push _ _) fresh (IsL.of ⟨_, Heap.get?_push_size _ rfl⟩)
    · exact call_meets F.slot_str_split (typeIs_str _ _ _) F.entry_str_split (F.args_str_split_2 _ _) (meets_str_split_not_found x y t u h1 hy hf)
        (q _ [(x, t)] _ tk ((if_neg (ne_true_of_eq_false h1)).trans (if_pos hf)).symm (Kp.push _ _) fresh (IsL.of ⟨_, Heap.get?_push_size _ rfl⟩))
  · exact call_meets F.slot_str_split (typeIs_str _ _ _) F.entry_str_split (F.args_str_split_2 _ _) (meets_str_split_cannot_occur x y t u h1)
      (q _ [(x, t)] _ tk (if_pos h1).symm (Kp.push _ _) fresh (IsL.of ⟨_, Heap.get?_push_size _ rfl⟩))
theorem mSplit {pl} {Q : Value × List Value → Shared → Prop} (q : Q (.builtin "str.split", [.str x t]) ⟨h, gs, dr, tk, os⟩) : wpAny (model prog w) A (getMethod (.str x t) "split" pl) Q E ⟨h, gs, dr, tk, os⟩ := 
  getMethod_builtin (typeIs_str _ _ _) F.plainAttrs_str F.slot_str_split F.type_str_split (fun _ e => nomatch e) q
end

/-! ## calls and frames -/
def Done (gs : Array GenState) (dr : Drawn) (os : OsState) (P : Value → Heap → Prop) (v : Value) (s' : Shared) : Prop := ∃ h' tk', s' = ⟨h', gs, dr, tk', os⟩ ∧ P v h'
theorem Done.mk {gs : Array GenState} {dr : Drawn} {os : OsState} {P : Value → Heap → Prop} {v : Value} {h : Heap} {tk : Nat} (q : P v h) : Done gs dr os P v ⟨h, gs, dr, tk, os⟩ := ⟨_, _, rfl, q⟩
def DoneF (gs : Array GenState) (dr : Drawn) (os : OsState) (P : Value → Heap → Prop) (f : Flow) (s' : Shared) : Prop := Done gs dr os P (match f with | .ret v => v | _ => .none) s'
theorem DoneF.ret {gs : Array GenState} {dr : Drawn} {os : OsState} {P : Value → Heap → Prop} {v : Value} {h : Heap} {tk : Nat} (q : P v h) : DoneF gs dr os P (.ret v) ⟨h, gs, dr, tk, os⟩ := ⟨_, _, rfl, q⟩
theorem DoneF.next {gs : Array GenState} {dr : Drawn} {os : OsState} {P : Value → Heap → Prop} {h : Heap} {tk : Nat} (q : P .none h) : DoneF gs dr os P .next ⟨h, gs, dr, tk, os⟩ := ⟨_, _, rfl, q⟩
def Rt (gs : Array GenState) (dr : Drawn) (os : OsState) (P : Value → Heap → Prop) : Result → Shared → Prop := fun r s' => ∃ v, r = .ok (.ret v) ∧ Done gs dr os P v s'
theorem Rt.mono {prog : Program} {w : World} {A : Around} {c : Code} {gs dr os} {P P' : Value → Heap → Prop} {s} (x : codeAny (model prog w) A c (Rt gs dr os P) s) (i : ∀ v h, P v h → P' v h) : codeAny (model prog w) A c (Rt gs dr os P') s :=
  codeAny_mono x fun _ _ ⟨v, e, h', tk', e', p⟩ => ⟨v, e, h', tk', e', i _ _ p⟩
theorem use {prog : Program} {w : World} {A : Around} {E : Value → Shared → Prop} {f : Value} {vs kws s gs dr os} {P : Value → Heap → Prop} {Q : Value → Shared → Prop} (c : codeAny (model prog w) A (.call f ⟨vs, kws⟩) (Rt gs dr os P) s)
    (q : ∀ v h' tk', P v h' → Q v ⟨h', gs, dr, tk', os⟩) : wpAny (model prog w) A (call f vs kws) Q E s :=
  wpAny_call (codeAny_mono c fun r s' hr => by obtain ⟨v, rfl, h', tk', rfl, p⟩ := hr; exact q v h' tk' p)

def nodupK : List (Str × Value) → Bool
  | [] => true
  | p :: r => (r.all fun q => !(q.1 == p.1)) && nodupK r
theorem lookup_none {x : Str} : ∀ {a : List (Str × Value)}, (a.all fun q => !(q.1 == x)) = true → a.lookup x = none
  | [], _ => rfl
  | (y, v) :: r, h => by
    simp only [List.all_cons, Bool.and_eq_true, Bool.not_eq_true', beq_eq_false_iff_ne, ne_eq] at h
    rw [List.lookup_cons]
    have : (x == y) = false := by simpa [beq_eq_false_iff_ne] using fun e : x = y => h.1 e.symm
    rw [this]
    exact lookup_none (by simpa using h.2)
theorem nodupK_ok : ∀ {bs : List (Str × Value)}, nodupK bs = true → ∀ p ∈ bs, bs.reverse.lookup p.1 = some p.2
  | [], _, _, hp => nomatch hp
  | q :: r, hn, p, hp => by
    simp only [nodupK, Bool.and_eq_true] at hn
    rw [List.reverse_cons, List.lookup_append]
    rcases List.mem_cons.mp hp with rfl | hp
    · rw [lookup_none (by simpa using hn.1)]; simp [List.lookup]
    · rw [nodupK_ok hn.2 p hp]; rfl
theorem Bd.enter {g h h0 : Heap} {M : List (Addr × (Obj → Prop))} {bs : List (Str × Value)} (H : Hp g M h) (hn : h0.Ns h.objs.size (fun x => bs.reverse.lookup x)) (hk : Kp h h0) (hd : nodupK bs = true) : Bd g h.objs.size bs M h0 :=
  ⟨⟨_, hn, nodupK_ok hd⟩, H.keep.none (fresh_size h), fun p hp => Nat.ne_of_lt (H.msz p hp), H.kp hk⟩

/-- a def's body, from its call -/
theorem enter {K : Frag} {mb} {prog : Program} {w : World} {A : Around} {g h : Heap} {M : List (Addr × (Obj → Prop))} {gs dr tk os} {P : Value → Heap → Prop} {f : Addr} {o : Obj} {fd : FuncData} {body : List Stmt} {args : Args} (binds : List (Str × Value)) (W : Wld K mb g) (H : Hp g M h)
    (hroom : A.depth < 1000) (ho : K.lookup f = some o) (hdata : o.data = .func fd) (hcd : codeIn K fd.code fd.qualname = true)
    (hbody : fd.body = .stmts body) (hbind : BindsTo ⟨h, gs, dr, tk, os⟩ fd args binds)
    (hcell : (fd.scope.names.all fun x => x.2 != .cell) = true) (hloc : (binds.all fun x => decide (fd.scope.names.lookup x.1 = some .local)) = true) (hnd : nodupK binds = true)
    (hco : fd.scope.isCoroutine = false) (hgen : fd.scope.isGenerator = false) (hk : fd.scope.kind = .function)
    (q : ∀ L h0 tk0, Bd g L binds M h0 → wpAny (model prog w) (A.deeper (callEnv fd L f)) (execs body (callEnv fd L f)) (DoneF gs dr os P) (fun _ _ => False) ⟨h0, gs, dr, tk0, os⟩) :
    codeAny (model prog w) A (.call (.ref f) args) (Rt gs dr os P) ⟨h, gs, dr, tk, os⟩ := by
  have W' := W.up H.keep
  refine codeAny_call_def hroom (W'.kin f _ ho) hdata W'.lim (codeRec_of W'.kin hcd) hbody hbind (fun x hx => by simpa using List.all_eq_true.mp hcell x hx) (locs hloc) (fun h0 hn hk => ?_) hco hgen hk
  exact wpAny_mono (q _ h0 _ (Bd.enter H hn hk hnd)) (fun fl s' hd => ⟨_, rfl, hd⟩) fun _ _ x => x.elim

/-! ## for -/
section
variable {prog : Program} {w : World} {A : Around} {E : Value → Shared → Prop} {env : Env} {g h : Heap} {L : Addr} {l : List (Str × Value)} {M : List (Addr × (Obj → Prop))}
  {gs : Array GenState} {dr : Drawn} {tk : Nat} {os : OsState}
abbrev Inv := Heap → List (Str × Value) → List (Addr × (Obj → Prop)) → Prop
def BEnd (gs : Array GenState) (dr : Drawn) (os : OsState) (L I : Addr) (o : Obj) (g : Heap) (Jn : Inv) (Q : Flow → Shared → Prop) (f : Flow) (s' : Shared) : Prop := match f with
  | .next | .cont => ∃ g' l' M' h' tk', s' = ⟨h', gs, dr, tk', os⟩ ∧ Kp g g' ∧ Bd g' L l' ((I, (· = o)) :: M') h' ∧ Jn g' l' M'
  | .brk => Q .next s'
  | .ret v => Q (.ret v) s'
theorem BEnd.nxt {I : Addr} {o : Obj} {Jn : Inv} {Q : Flow → Shared → Prop} {g' h' : Heap} {l'} {M'} {tk'} (k : Kp g g') (b : Bd g' L l' ((I, (· = o)) :: M') h') (j : Jn g' l' M') : BEnd gs dr os L I o g Jn Q .next ⟨h', gs, dr, tk', os⟩ :=
  ⟨g', l', M', h', tk', rfl, k, b, j⟩
theorem BEnd.ret {I : Addr} {o : Obj} {Jn : Inv} {Q : Flow → Shared → Prop} {v : Value} {s' : Shared} (q : Q (.ret v) s') : BEnd gs dr os L I o g Jn Q (.ret v) s' := q
def forR (Q : Flow → Shared → Prop) (r : Result) (s' : Shared) : Prop := match r with | .ok f => Q f s' | .error _ => False

theorem forW {target : Expr} {body : List Stmt} {I : Addr} {fp wr : List Addr} {n : Nat} {P : Nat → Value → Prop} {St : Nat → Heap → Prop} {Q : Flow → Shared → Prop}
    (W : Walks prog w A I fp wr n P St) {Po : Obj → Prop} (hI : ∀ i h, St i h → ∃ o, h.get? I = some o ∧ Po o) (hwr : ∀ b ∈ wr, b = I) (hfp : ∀ b ∈ fp, b = I ∨ ∃ o, g.get? b = some o)
    (J : Nat → Inv) {h₀ : Heap} (b : Bd g L l M h₀) (hk : Kp h₀ h) (hf : h₀.get? I = none) (hst : St 0 h) (j0 : J 0 g l M)
    (turn : ∀ i v g' l' M' h' tk' o, i < n → P i v → Po o → Kp g g' → J i g' l' M' → Bd g' L l' ((I, (· = o)) :: M') h' →
      wpAny (model prog w) A (letOwnedTupleGo target (.ref I) v) (fun _ s₁ => wpAny (model prog w) A (assign target env v) (fun _ s₂ => wpAny (model prog w) A (execs body env) (BEnd gs dr os L I o g' (J (i + 1)) Q) (fun _ _ => False) s₂) (fun _ _ => False) s₁) (fun _ _ => False) ⟨h', gs, dr, tk', os⟩)
    (done : ∀ g' l' M' h' tk', Kp g g' → J n g' l' M' → Bd g' L l' M' h' → Q .next ⟨h', gs, dr, tk', os⟩) :
    codeAny (model prog w) A (.forLoop target (.ref I) body [] env) (forR Q) ⟨h, gs, dr, tk, os⟩ := by
  obtain ⟨o₀, ho₀, _⟩ := hI _ _ hst
  refine codeAny_forLoop_any
    (fun k s' => ∃ i g' l' M' h' tk' o, s' = ⟨h', gs, dr, tk', os⟩ ∧ i ≤ n ∧ k = n + 1 - i ∧ Kp g g' ∧ J i g' l' M' ∧ Bd g' L l' ((I, (· = o)) :: M') h' ∧ St i h') ?_ (n + 1)
    ⟨0, g, l, M, h, tk, o₀, rfl, Nat.zero_le _, rfl, Kp.rf, j0, b.add hk hf ho₀ rfl, hst⟩
  rintro k s' ⟨i, g', l', M', h', tk', o, rfl, hi, rfl, kg, j, b', st⟩
  by_cases hlt : i < n
  · refine W.item i _ _ _ hlt st fun v h₁ tk₁ hP st₁ hk₁ => ?_
    obtain ⟨o₁, ho₁, po₁⟩ := hI _ _ st₁
    have b₁ : Bd g' L l' ((I, (· = o₁)) :: M') h₁ := b'.upd (fun c x hc e => hk₁ c x (fun q => hc (hwr c q)) e) ho₁ rfl
    refine wpAny_mono (turn i v g' l' M' h₁ tk₁ o₁ hlt hP po₁ kg j b₁) (fun _ s₁ h₁' => wpAny_mono h₁' (fun _ s₂ h₂ => wpAny_mono h₂ (fun f s₃ h₃ => ?_) fun _ _ e => e.elim) fun _ _ e => e.elim) fun _ _ e => e.elim
    have fin : BEnd gs dr os L I o₁ g' (J (i + 1)) Q .next s₃ → ∃ m, m < n + 1 - i ∧ ∃ i g' l' M' h' tk' o, s₃ = ⟨h', gs, dr, tk', os⟩ ∧ i ≤ n ∧ m = n + 1 - i ∧ Kp g g' ∧ J i g' l' M' ∧ Bd g' L l' ((I, (· = o)) :: M') h' ∧ St i h' := by
      rintro ⟨g'', l'', M'', h'', tk'', rfl, k'', b'', j''⟩
      refine ⟨n + 1 - (i + 1), by omega, i + 1, g'', l'', M'', h'', tk'', o₁, rfl, hlt, rfl, kg.tr k'', j'', b'', W.frame _ _ _ st₁ fun c hc x e => ?_⟩
      rcases hfp c hc with rfl | ⟨oc, hoc⟩
      · obtain ⟨⟨o', e', rfl⟩, _⟩ := b''.hp.mu _ (.head _)
        rw [ho₁] at e; cases e; exact e'
      · have e1 := b₁.keep _ _ (kg _ _ hoc)
        rw [e] at e1; cases e1
        exact b''.keep _ _ (k'' _ _ (kg _ _ hoc))
    cases f with
    | next => exact fin h₃
    | cont => exact fin h₃
    | brk => exact h₃
    | ret v => exact h₃
  · have : i = n := by omega
    subst this
    refine W.done _ _ _ st fun h₁ tk₁ hk₁ => wpAny_execs_nil ?_
    refine done g' l' M' h₁ tk₁ kg j ?_
    have b₁ := b'.tail
    obtain ⟨m, x, y⟩ := b'.ns
    have eI : ∀ c x, c ≠ I → h'.get? c = some x → h₁.get? c = some x := fun c x hc e => hk₁ c x (fun q => hc (hwr c q)) e
    have nL : L ≠ I := fun q => b'.ne _ (.head _) q.symm
    have nd := b'.hp.nd
    rw [List.map_cons, List.nodup_cons] at nd
    refine ⟨⟨m, x.extBut eI nL, y⟩, b'.off, b₁.ne, fun c x e => eI c x (fun q => ?_) (b'.keep _ _ e), fun p hp => ?_, nd.2⟩
    · subst q; rw [(b'.hp.mu _ (.head _)).2] at e; cases e
    · obtain ⟨⟨o', e', z⟩, y⟩ := b₁.hp.mu p hp
      exact ⟨⟨o', eI _ _ (fun q => nd.1 (List.mem_map.mpr ⟨p, hp, q⟩)) e', z⟩, y⟩

theorem sFor {target iter body pos} {Q : Flow → Shared → Prop} {s : Shared} (hs : ∀ x, foldedSetIterable iter env x = pure x)
    (q : wpAny (model prog w) A (eval iter env) (fun x s₁ => wpAny (model prog w) A (pyIter x) (fun it s₂ => codeAny (model prog w) A (.forLoop target it body [] env) (forR Q) s₂) E s₁) E s) :
    wpAny (model prog w) A (exec (.For target iter body [] pos) env) Q E s :=
  wpAny_For (wpAny_mono q (fun _ _ h₁ => wpAny_mono h₁ (fun _ _ h₂ => codeAny_mono h₂ fun r s' hr => by cases r with | ok f => exact hr | error e => exact hr.elim) fun _ _ e => e) fun _ _ e => e) hs

/-- one name for the items: what holds when the turn begins -/
theorem asgName {x : Str} {px : Pos} {I : Addr} {v : Value} {body : List Stmt} {R : Flow → Shared → Prop} (hk : (env.scope.kind == .function && env.kindOf x == some .local) = true) (hL : env.locals = L) (b : Bd g L l M h)
    (q : ∀ h' tk', (∀ l', Sto x v l l' → Bd g L l' M h') → wpAny (model prog w) A (execs body env) R (fun _ _ => False) ⟨h', gs, dr, tk', os⟩) :
    wpAny (model prog w) A (letOwnedTupleGo (.Name x px) (.ref I) v) (fun _ s₁ => wpAny (model prog w) A (assign (.Name x px) env v) (fun _ s₂ => wpAny (model prog w) A (execs body env) R (fun _ _ => False) s₂) (fun _ _ => False) s₁) (fun _ _ => False) ⟨h, gs, dr, tk, os⟩ := by
  refine wpAny_of_eq (show letOwnedTupleGo (.Name x px) (.ref I) v = pure () from rfl) ?_
  refine wpAny_assign_Name ?_
  obtain ⟨m, hn, hm⟩ := b.ns
  simp only [Bool.and_eq_true, beq_iff_eq] at hk
  subst hL
  refine wpAny_storeName_local hk.2 hn (fun h' hn' hs => q h' _ fun l' st => b.sto st hm hn' hs) ?_
  rw [hk.1]; rfl

theorem fList {x : Str} {px : Pos} {a : Addr} {vs : List Value} {body : List Stmt} {Q : Flow → Shared → Prop} (hh : A.handled = none) (b : Bd g L l M h) (hl : IsL g a vs) 
    (hk : (env.scope.kind == .function && env.kindOf x == some .local) = true) (hL : env.locals = L) (J : Nat → Inv) (j0 : J 0 g l M)
    (turn : ∀ i v g' l' M' h' tk' I o, vs[i]? = some v → Kp g g' → J i g' l' M' → (∀ l'', Sto x v l' l'' → Bd g' L l'' ((I, (· = o)) :: M') h') →
      wpAny (model prog w) A (execs body env) (BEnd gs dr os L I o g' (J (i + 1)) Q) (fun _ _ => False) ⟨h', gs, dr, tk', os⟩)
    (done : ∀ g' l' M' h' tk', Kp g g' → J vs.length g' l' M' → Bd g' L l' M' h' → Q .next ⟨h', gs, dr, tk', os⟩) :
    wpAny (model prog w) A (pyIter (.ref a)) (fun it s₂ => codeAny (model prog w) A (.forLoop (.Name x px) it body [] env) (forR Q) s₂) E ⟨h, gs, dr, tk, os⟩ := by
  have hl' := hl.up b.keep
  refine wpAny_pyIter_list hl'.list ?_
  obtain ⟨oa, ha, _⟩ := id hl
  have hne : a ≠ h.objs.size := Nat.ne_of_lt (Heap.lt_size (b.keep _ _ ha))
  refine forW (Walks.list hh _ a hne vs.toArray) (Po := fun _ => True) (fun i h st => let ⟨o, e, _⟩ := st.1; ⟨o, e, trivial⟩) (fun c hc => List.mem_singleton.mp hc) (fun c hc => ?_) J b (Kp.push _ _) (fresh_size h)
    ⟨⟨_, Heap.get?_push_size _ rfl, rfl, rfl⟩, hl'.list.push _⟩ j0 (fun i v g' l' M' h' tk' o hi hP _ kg j b' => ?_) (fun g' l' M' h' tk' kg j b' => done g' l' M' h' tk' kg (by simpa using j) b')
  · simp only [List.mem_cons, List.not_mem_nil, or_false] at hc
    rcases hc with rfl | rfl
    · exact .inl rfl
    · exact .inr ⟨_, ha⟩
  · exact asgName hk hL b' fun h'' tk'' hb => turn i v g' l' M' h'' tk'' _ o (by simpa using hP) kg j hb
end
end Mine
open PySem PySem.W PyProof.Rows
set_option Elab.async false
set_option maxRecDepth 100000
namespace Mine
theorem sz_line {n : Nat} (h : n ≤ 1000000) : n ≤ sizeLine := by rw [sizeLine_eq]; omega
section
variable {prog : Program} {w : World} {A : Around} {E : Value → Shared → Prop} {env : Env} {g h : Heap} {L : Addr} {l : List (Str × Value)} {M : List (Addr × (Obj → Prop))}
  {gs : Array GenState} {dr : Drawn} {tk : Nat} {os : OsState} {pos : Pos} {a : Addr} {vs : List Value} {k : Int} {t u : Tok} {v : Value} {value slice : Expr} {x y : Str}

theorem Hp.lst (b : Hp g M h) (hm : (a, lst vs) ∈ M) : IsL h a vs := (b.mu _ hm).1
/-! items and cuts -/
theorem gIdx {Q : Value → Shared → Prop} (hl : IsL h a vs) (h0 : 0 ≤ k) (h1 : k < 2 ^ 63) (hx : vs[k.toNat]? = some v) (hs : subscripted slice false (.ref a) (.int k u) = operate [.ref a, .int k u] (getItem (.ref a) (.int k u)))
    (q : Q v ⟨h, gs, dr, tk, os⟩) : wpAny (model prog w) A (subscriptTail value slice (.ref a) (.int k u)) Q E ⟨h, gs, dr, tk, os⟩ :=
  tail_any (show Shared.TypeIs ⟨h, gs, dr, tk, os⟩ (.ref a) "list" from hl.list.typeIs) F.slot_list_getitem.lookup (wpAny_getItem_list hl.list h0 h1 (by simpa using hx) q) hs
theorem gIdxN {Q : Value → Shared → Prop} (hl : IsL h a vs) (h0 : k < 0) (h1 : -(vs.length : Int) ≤ k) (hz : vs.length ≤ 1000000) (hx : vs[(k + vs.length).toNat]? = some v) (hs : subscripted slice false (.ref a) (.int k u) = operate [.ref a, .int k u] (getItem (.ref a) (.int k u)))
    (q : Q v ⟨h, gs, dr, tk, os⟩) : wpAny (model prog w) A (subscriptTail value slice (.ref a) (.int k u)) Q E ⟨h, gs, dr, tk, os⟩ :=
  tail_any (show Shared.TypeIs ⟨h, gs, dr, tk, os⟩ (.ref a) "list" from hl.list.typeIs) F.slot_list_getitem.lookup (wpAny_getItem_list_neg hl.list h0 (by simpa using h1) (by omega) (by simpa using hx) q) hs
theorem gIdxS {Q : Value → Shared → Prop} {c : Nat} (h0 : -(2 ^ 63) ≤ k) (h1 : k < 2 ^ 63) (hc : (seqIndex? k x.length).bind (x.cps[·]?) = some c) (hs : subscripted slice false (.str x t) (.int k u) = operate [.str x t, .int k u] (getItem (.str x t) (.int k u)))
    (q : ∀ u tk', Q (.str ⟨#[c]⟩ u) ⟨h, gs, dr, tk', os⟩) : wpAny (model prog w) A (subscriptTail value slice (.str x t) (.int k u)) Q E ⟨h, gs, dr, tk, os⟩ :=
  tail_any (typeIs_str _ _ _) F.slot_str_getitem.lookup (PyProof.Rows.getItem_str (by simp; omega) hc (q _ _)) hs
theorem xSub {s : Shared} {Q : Value → Shared → Prop} (q : wpAny (model prog w) A (eval value env) (fun o s₁ => wpAny (model prog w) A (eval slice env) (fun i s₂ => wpAny (model prog w) A (subscriptTail value slice o i) Q E s₂) E s₁) E s) :
    wpAny (model prog w) A (eval (.Subscript value slice pos) env) Q E s := Subscript_ q
theorem xPartN {s : Shared} {Q : Value → Shared → Prop} (q : Q .none s) : wpAny (model prog w) A (evalPart none env) Q E s := by
  with_reducible refine wpAny_evalPart_none ?_
  exact q
theorem xPart {e : Expr} {s : Shared} {Q : Value → Shared → Prop} (q : wpAny (model prog w) A (eval e env) Q E s) : wpAny (model prog w) A (evalPart (some e) env) Q E s := by
  with_reducible refine wpAny_evalPart_some ?_
  exact q
/-- the cut's object -/
def Cut (M : Model) (A : Around) (Q : Value → Shared → Prop) (E : Value → Shared → Prop) (lo up st : Value) (s : Shared) : Prop := Q (.ref s.heap.objs.size) { s with heap := s.heap.push { cls := .type "slice", data := .fields #[lo, up, st] } }
theorem xCut {lo up st : Option Expr} {s : Shared} {Q : Value → Shared → Prop} (q : wpAny (model prog w) A (evalPart lo env) (fun l s₁ => wpAny (model prog w) A (evalPart up env) (fun u s₂ => wpAny (model prog w) A (evalPart st env) (Cut (model prog w) A Q E l u) E s₂) E s₁) E s) :
    wpAny (model prog w) A (eval (.Slice lo up st pos) env) Q E s := wpAny_Slice q
theorem Cut.mk {M : Model} {lo up st : Value} {Q : Value → Shared → Prop} (q : ∀ sl h', Kp h h' → h'.IsSliceOf sl lo up st → Q (.ref sl) ⟨h', gs, dr, tk, os⟩) : Cut M A Q E lo up st ⟨h, gs, dr, tk, os⟩ :=
  q _ _ (Kp.push _ _) ⟨_, Heap.get?_push_size _ rfl, rfl, rfl⟩
theorem gCutL {Q : Value → Shared → Prop} {sl : Addr} {vl vu vst : Value} {lo hi st : Option Int} (hl : IsL h a vs) (hz : vs.length ≤ 1000000) (hc : h.IsSliceOf sl vl vu vst) (pl : IsPart vl lo) (pu : IsPart vu hi) (ps : IsPart vst st) (h0 : st ≠ some 0)
    (hs : ∃ ops, subscripted slice false (.ref a) (.ref sl) = operate ops (getItem (.ref a) (.ref sl)))
    (q : ∀ D h', Kp h h' → h.get? D = none → IsL h' D (slicePick vs.toArray lo hi st).toList → Q (.ref D) ⟨h', gs, dr, tk, os⟩) : wpAny (model prog w) A (subscriptTail value slice (.ref a) (.ref sl)) Q E ⟨h, gs, dr, tk, os⟩ :=
  let ⟨_, hs⟩ := hs
  tail_any (show Shared.TypeIs ⟨h, gs, dr, tk, os⟩ (.ref a) "list" from hl.list.typeIs) F.slot_list_getitem.lookup
    (wpAny_getItem_list_slice hl.list hc pl pu ps h0 (q _ _ (Kp.push _ _) (fresh_size h) (IsL.of (by rw [Array.toArray_toList]; exact ⟨0, Heap.get?_push_size _ rfl⟩))) (by rw [List.size_toArray]; exact sz_line hz)) hs
def slS (x : Str) (lo hi st : Option Int) : Str :=
  if ((st.getD 1) == 1 && (Builtin.Str.strSliceIndices lo hi (st.getD 1) x.length).length == x.length) = true then x else ⟨((Builtin.Str.strSliceIndices lo hi (st.getD 1) x.length).filterMap (x.cps[·]?)).toArray⟩
inductive IsP : Value → Option Int → Option (Int × Tok) → Prop
  | none : IsP .none none none
  | int (i : Int) (t : Tok) : IsP (.int i t) (some i) (some (i, t))
theorem gCutS {Q : Value → Shared → Prop} {sl : Addr} {vl vu vst : Value} {lo hi st : Option Int} {pl pu ps} (hz : (slS x lo hi st).length ≤ 1000000) (hc : h.IsSliceOf sl vl vu vst) (il : IsP vl lo pl) (iu : IsP vu hi pu) (is : IsP vst st ps) (h0 : st ≠ some 0)
    (hs : ∃ ops, subscripted slice false (.str x t) (.ref sl) = operate ops (getItem (.str x t) (.ref sl)))
    (q : ∀ u tk', Q (.str (slS x lo hi st) u) ⟨h, gs, dr, tk', os⟩) : wpAny (model prog w) A (subscriptTail value slice (.str x t) (.ref sl)) Q E ⟨h, gs, dr, tk, os⟩ := by
  obtain ⟨ops, hs⟩ := hs
  have hl : vl = partValue pl := by cases il <;> rfl
  have hu : vu = partValue pu := by cases iu <;> rfl
  have hst : vst = partValue ps := by cases is <;> rfl
  have el : pl.map (·.1) = lo := by cases il <;> rfl
  have eu : pu.map (·.1) = hi := by cases iu <;> rfl
  have es : ps.map (·.1) = st := by cases is <;> rfl
  refine tail_any (typeIs_str _ _ _) F.slot_str_getitem.lookup (wpAny_getItem_str_slice (l := pl) (u := pu) (st := ps) (by subst hl hu hst; exact hc) (by rw [es]; cases st with | none => rfl | some k => simp at h0 ⊢; exact h0) ?_) hs
  unfold sliceMade slicePicked
  rw [es, el, eu]
  unfold slS at q hz
  split
  · rename_i hc; rw [if_pos hc] at q; exact q _ _
  · rename_i hc; rw [if_neg hc] at q hz; exact ⟨sz_line hz, q _ _⟩

/-! lists -/
theorem oLenL {Q : Value → Shared → Prop} (hl : IsL h a vs) (hz : vs.length ≤ 1000000) (q : ∀ u tk', Q (.int vs.length u) ⟨h, gs, dr, tk', os⟩) : wpAny (model prog w) A (call (.builtin "len") [.ref a] []) Q E ⟨h, gs, dr, tk, os⟩ := by
  refine PyProof.Rows.len_list hl.list (by simp; omega) ?_
  rw [List.size_toArray]; exact q _ _
theorem ttL {Q : Bool → Shared → Prop} (hl : IsL h a vs) (hz : vs.length ≤ 1000000) (q : ∀ tk', Q (!vs.isEmpty) ⟨h, gs, dr, tk', os⟩) : wpAny (model prog w) A (truthy (.ref a)) Q E ⟨h, gs, dr, tk, os⟩ := by
  refine wpAny_truthy_list hl.list (by simp; omega) ?_
  have : vs.toArray.isEmpty = vs.isEmpty := by cases vs <;> rfl
  rw [this]; exact q _
theorem mApp {pl} {Q : Value × List Value → Shared → Prop} (hl : IsL h a vs) (q : Q (.builtin "list.append", [.ref a]) ⟨h, gs, dr, tk, os⟩) : wpAny (model prog w) A (getMethod (.ref a) "append" pl) Q E ⟨h, gs, dr, tk, os⟩ := by
  obtain ⟨o, ho, n, rfl⟩ := hl
  exact Calls.getMethod_list_append ho rfl rfl q
theorem oApp {Q : Value → Shared → Prop} (hl : IsL h a vs) (hz : vs.length ≤ 1000000) (q : ∀ h' o, Heap.ExtBut a h h' → h'.get? a = some o → lst (vs ++ [v]) o → Q .none ⟨h', gs, dr, tk, os⟩) : wpAny (model prog w) A (call (.builtin "list.append") [.ref a, v] []) Q E ⟨h, gs, dr, tk, os⟩ := by
  have hT : Shared.TypeIs ⟨h, gs, dr, tk, os⟩ (.ref a) "list" := hl.list.typeIs
  obtain ⟨o, ho, n, rfl⟩ := hl
  refine wpAny_call_entry slot_list_append hT entry_list_append ?_ (args_list_append _ _)
  show wpAny _ _ (updateSeq a (·.push v) >>= fun _ => ret .none) _ _ _
  refine wpAny_bind (wpAny_updateSeq ho rfl (wpAny_pure ⟨.none, rfl, ?_⟩) (by rw [List.size_toArray]; exact sz_line hz) (by rw [Array.size_push, List.size_toArray]; exact Nat.succ_le_succ (sz_line hz)))
  refine q _ _ (Heap.SameBut.update h a _).extBut (Heap.get?_update_self _ ho rfl) ⟨n + 1, ?_⟩
  simp [Obj.mapSeq]
theorem sDel {ts : List Expr} {s : Shared} {Q : Flow → Shared → Prop} (q : wpAny (model prog w) A (deleteEach ts env) (fun _ s₁ => Q .next s₁) E s) : wpAny (model prog w) A (exec (.Delete ts pos) env) Q E s := by
  with_reducible refine wpAny_Delete ?_
  exact q
theorem dOne {o i : Expr} {s : Shared} {Q : Unit → Shared → Prop} (q : wpAny (model prog w) A (eval o env) (fun ov s₁ => wpAny (model prog w) A (eval i env) (fun iv s₂ => wpAny (model prog w) A (delItem ov iv) Q E s₂) E s₁) E s) :
    wpAny (model prog w) A (deleteEach [.Subscript o i pos] env) Q E s :=
  wpAny_deleteEach_cons (wpAny_delete_Subscript (wpAny_mono q (fun _ _ h₁ => wpAny_mono h₁ (fun _ _ h₂ => wpAny_mono h₂ (fun _ _ h₃ => wpAny_deleteEach_nil h₃) fun _ _ e => e) fun _ _ e => e) fun _ _ e => e))
theorem oDel {i : Nat} {Q : Unit → Shared → Prop} (hl : IsL h a vs) (hz : vs.length ≤ 1000000) (hf : Builtin.List.listFitsIndex k = true) (hk : seqIndex? k vs.length = some i)
    (q : ∀ h' o, Heap.ExtBut a h h' → h'.get? a = some o → lst (vs.eraseIdx i) o → Q () ⟨h', gs, dr, tk, os⟩) : wpAny (model prog w) A (delItem (.ref a) (.int k u)) Q E ⟨h, gs, dr, tk, os⟩ := by
  refine wpAny_delItem_plain hl.plain hf (by simpa using hk) (fun h' hp hs => ?_) (by rw [List.size_toArray]; exact sz_line hz)
  obtain ⟨n, e⟩ := hp
  refine q h' _ hs.extBut e ⟨n, ?_⟩
  simp

/-! texts -/
theorem mStr {name : Str} {id : String} {pl} {Q : Value × List Value → Shared → Prop} (slot : Slot "str" name id) (ty : typeOf (.builtin id) = pure (.type "method_descriptor")) (q : Q (.builtin id, [.str x t]) ⟨h, gs, dr, tk, os⟩) : wpAny (model prog w) A (getMethod (.str x t) name pl) Q E ⟨h, gs, dr, tk, os⟩ :=
  getMethod_builtin (typeIs_str _ _ _) F.plainAttrs_str slot ty (fun _ e => nomatch e) q
theorem mStart {pl} {Q : Value × List Value → Shared → Prop} (q : Q (.builtin "str.startswith", [.str x t]) ⟨h, gs, dr, tk, os⟩) : wpAny (model prog w) A (getMethod (.str x t) "startswith" pl) Q E ⟨h, gs, dr, tk, os⟩ := by
  with_reducible refine mStr F.slot_str_startswith F.type_str_startswith ?_
  exact q
theorem mEnd {pl} {Q : Value × List Value → Shared → Prop} (q : Q (.builtin "str.endswith", [.str x t]) ⟨h, gs, dr, tk, os⟩) : wpAny (model prog w) A (getMethod (.str x t) "endswith" pl) Q E ⟨h, gs, dr, tk, os⟩ := by
  with_reducible refine mStr F.slot_str_endswith F.type_str_endswith ?_
  exact q
theorem mFind {pl} {Q : Value × List Value → Shared → Prop} (q : Q (.builtin "str.find", [.str x t]) ⟨h, gs, dr, tk, os⟩) : wpAny (model prog w) A (getMethod (.str x t) "find" pl) Q E ⟨h, gs, dr, tk, os⟩ := by
  with_reducible refine mStr F.slot_str_find F.type_str_find ?_
  exact q
theorem mLow {pl} {Q : Value × List Value → Shared → Prop} (q : Q (.builtin "str.lower", [.str x t]) ⟨h, gs, dr, tk, os⟩) : wpAny (model prog w) A (getMethod (.str x t) "lower" pl) Q E ⟨h, gs, dr, tk, os⟩ := by
  with_reducible refine mStr F.slot_str_lower F.type_str_lower ?_
  exact q
theorem mJoin {pl} {Q : Value × List Value → Shared → Prop} (q : Q (.builtin "str.join", [.str x t]) ⟨h, gs, dr, tk, os⟩) : wpAny (model prog w) A (getMethod (.str x t) "join" pl) Q E ⟨h, gs, dr, tk, os⟩ := by
  with_reducible refine mStr F.slot_str_join F.type_str_join ?_
  exact q
theorem oStart {Q : Value → Shared → Prop} (q : Q (.bool (Txt.startswith x y)) ⟨h, gs, dr, tk, os⟩) : wpAny (model prog w) A (call (.builtin "str.startswith") [.str x t, .str y u] []) Q E ⟨h, gs, dr, tk, os⟩ := by
  with_reducible refine call_gives F.slot_str_startswith (typeIs_str _ _ _) F.entry_str_startswith (F.args_str_startswith_2 _ _) (gives_str_startswith x y t u) ?_
  exact q
theorem oEnd {Q : Value → Shared → Prop} (q : Q (.bool (Txt.endswith x y)) ⟨h, gs, dr, tk, os⟩) : wpAny (model prog w) A (call (.builtin "str.endswith") [.str x t, .str y u] []) Q E ⟨h, gs, dr, tk, os⟩ := by
  with_reducible refine call_gives F.slot_str_endswith (typeIs_str _ _ _) F.entry_str_endswith (F.args_str_endswith_2 _ _) (gives_str_endswith x y t u) ?_
  exact q
theorem oFind {Q : Value → Shared → Prop} (q : ∀ u tk', Q (.int (Txt.find x y) u) ⟨h, gs, dr, tk', os⟩) : wpAny (model prog w) A (call (.builtin "str.find") [.str x t, .str y u] []) Q E ⟨h, gs, dr, tk, os⟩ := by
  with_reducible refine call_gives F.slot_str_find (typeIs_str _ _ _) F.entry_str_find (F.args_str_find_2 _ _) (gives_str_find x y t u) ?_
  exact q _ _
def find4 (x y : Str) (i j : Int) : Int := match Builtin.Str.occurrences x y (fromIndex x.length i) (min (fromIndex x.length j) x.length) 1 with | k :: _ => (k : Int) | [] => -1
theorem oFind4 {i j : Int} {v' w' : Tok} {Q : Value → Shared → Prop} (q : ∀ u tk', Q (.int (find4 x y i j) u) ⟨h, gs, dr, tk', os⟩) : wpAny (model prog w) A (call (.builtin "str.find") [.str x t, .str y u, .int i v', .int j w'] []) Q E ⟨h, gs, dr, tk, os⟩ := by
  refine call_gives F.slot_str_find (typeIs_str _ _ _) F.entry_str_find (F.args_str_find_4 _ _ _ _) (m := .int (find4 x y i j)) ?_ ?_
  · show Gives (match Builtin.Str.occurrences x y (fromIndex x.length i) (min (fromIndex x.length j) x.length) 1 with | k :: _ => retInt k | [] => (do rule "str.find.not-found"; retInt (-1))) _
    unfold find4
    cases Builtin.Str.occurrences x y (fromIndex x.length i) (min (fromIndex x.length j) x.length) 1 with
    | nil => exact .rule (.of_eq rfl)
    | cons k _ => exact .of_eq rfl
  · exact q _ _

/-! several names at once -/
theorem sAsgT {elts k tpos value} {s : Shared} {Q : Flow → Shared → Prop} (hs : swapsWithSole [.Tuple elts k tpos] value pos.line env = pure false) (hw : swappedStores [.Tuple elts k tpos] value env = pure none)
    (q : wpAny (model prog w) A (eval value env) (fun v s₁ => wpAny (model prog w) A (assign (.Tuple elts k tpos) env v) (fun _ => Q .next) E s₁) E s) : wpAny (model prog w) A (exec (.Assign [.Tuple elts k tpos] value pos) env) Q E s := Assign_Tuple q hs hw
theorem xTup {elts k} {s : Shared} {Q : Value → Shared → Prop} (hn : (starEach elts env).any (·.1) = false) (q : wpAny (model prog w) A (spliced (starEach elts env)) (fun vs s₁ => wpAny (model prog w) A (newTuple vs) Q E s₁) E s) : wpAny (model prog w) A (eval (.Tuple elts k pos) env) Q E s :=
  PyProof.Rows.Tuple_ (by rw [backTo_id hn]; exact q)
theorem xLst {elts} {s : Shared} {Q : Value → Shared → Prop} (hn : (starEach elts env).any (·.1) = false) (q : wpAny (model prog w) A (spliced (starEach elts env)) (fun vs s₁ => wpAny (model prog w) A (newList vs) Q E s₁) E s) : wpAny (model prog w) A (eval (.List elts pos) env) Q E s :=
  PyProof.Rows.List_ (by rw [backTo_id hn]; exact q)
theorem oNewL {M : Model} {Q : Value → Shared → Prop} (hz : vs.length ≤ 1000000) (q : ∀ D h', Kp h h' → h.get? D = none → IsL h' D vs → Q (.ref D) ⟨h', gs, dr, tk, os⟩) : wpAny M A (newList vs) Q E ⟨h, gs, dr, tk, os⟩ :=
  wpAny_newList (q _ _ (Kp.push _ _) (fresh_size h) (IsL.of ⟨0, Heap.get?_push_size _ rfl⟩)) (sz_line hz)
abbrev IsT (h : Heap) (a : Addr) (vs : List Value) : Prop := h.get? a = some { cls := .type "tuple", data := .seq vs.toArray }
theorem IsT.tup {h : Heap} {a : Addr} {vs : List Value} (x : IsT h a vs) : h.IsTuple a vs.toArray := ⟨_, x, rfl, _, rfl⟩
theorem oNewT {M : Model} {Q : Value → Shared → Prop} (hz : vs.length ≤ 1000000) (q : ∀ D h', Kp h h' → h.get? D = none → IsT h' D vs → Q (.ref D) ⟨h', gs, dr, tk, os⟩) : wpAny M A (newTuple vs) Q E ⟨h, gs, dr, tk, os⟩ :=
  wpAny_newTuple (q _ _ (Kp.push _ _) (fresh_size h) (Heap.get?_push_size _ rfl)) (sz_line hz)
theorem Kp.ext {h h' : Heap} (x : Heap.ExtBut h.objs.size h h') : Kp h h' := fun b o e => x b o (Nat.ne_of_lt (Heap.lt_size e)) e
theorem assignEach_names (x y : Str) (px py : Pos) (env : Env) : assignEach [.Name x px, .Name y py] env = [(false, assign (.Name x px) env), (false, assign (.Name y py) env)] := rfl
theorem asg2 {v1 v2 : Value} {px py tpos : Pos} {kk : Nat} {T : Addr} {Q : Unit → Shared → Prop} (hh : A.handled = none) (b : Bd g L l M h) (ht : IsT h T [v1, v2])
    (hk : (env.scope.kind == .function && env.kindOf x == some .local) = true) (hk' : (env.scope.kind == .function && env.kindOf y == some .local) = true) (hL : env.locals = L)
    (q : ∀ h' tk', (∀ l1 l2, Sto x v1 l l1 → Sto y v2 l1 l2 → Bd g L l2 M h') → Q () ⟨h', gs, dr, tk', os⟩) :
    wpAny (model prog w) A (assign (.Tuple [.Name x px, .Name y py] kk tpos) env (.ref T)) Q E ⟨h, gs, dr, tk, os⟩ := by
  refine wpAny_assign_Tuple (items := [v1, v2].toArray) hh ht.tup (by rw [assignEach_names]; rfl) (by rw [assignEach_names]; rfl) fun h1 hx => ?_
  have b1 := b.kp (Kp.ext hx)
  rw [assignEach_names]
  simp only [Bool.and_eq_true, beq_iff_eq] at hk hk'
  subst hL
  obtain ⟨m, hn, hm⟩ := b1.ns
  refine wpAny_assignInOrder_more (wpAny_assign_Name (wpAny_storeName_local hk.2 hn (fun h2 hn2 hs2 => ?_) (by rw [hk.1]; rfl)))
  refine wpAny_assignInOrder_more (wpAny_assign_Name (wpAny_storeName_local hk'.2 hn2 (fun h3 hn3 hs3 => ?_) (by rw [hk.1]; rfl)))
  refine wpAny_assignInOrder_none (q _ _ fun l1 l2 s1 s2 => ?_)
  have b2 := b1.sto s1 hm hn2 hs2
  refine b2.sto s2 (fun p hp => ?_) hn3 hs3
  rcases s1.ok p hp with rfl | ⟨h1, h2⟩
  · simp
  · simp [h2, hm p h1]

theorem sAug {op value pos'} {s : Shared} {Q : Flow → Shared → Prop} (q : wpAny (model prog w) A (loadName env x) (fun old s₁ => wpAny (model prog w) A (eval value env) (fun v s₂ => wpAny (model prog w) A (inplaceOp op old v)
      (fun r s₃ => wpAny (model prog w) A (storeName env x r) (fun _ => Q .next) E s₃) E s₂) E s₁) E s) : wpAny (model prog w) A (exec (.AugAssign (.Name x pos') op value pos) env) Q E s := wpAny_AugAssign_Name q
theorem nLoc {Q : Value → Shared → Prop} (b : Bd g L l M h) (hv : Has x v l) (hk : (env.scope.kind == .function && env.kindOf x == some .local) = true) (hL : env.locals = L) (q : Q v ⟨h, gs, dr, tk, os⟩) : wpAny (model prog w) A (loadName env x) Q E ⟨h, gs, dr, tk, os⟩ := by
  obtain ⟨m, hn, hm⟩ := b.ns
  simp only [Bool.and_eq_true, beq_iff_eq] at hk
  subst hL
  exact wpAny_loadName_local hk.1 hk.2 hn (hm _ hv.mem) q
theorem iAdd {a b : Int} {Q : Value → Shared → Prop} (q : ∀ u tk', Q (.int (a + b) u) ⟨h, gs, dr, tk', os⟩) : wpAny (model prog w) A (inplaceOp .Add (.int a t) (.int b u)) Q E ⟨h, gs, dr, tk, os⟩ := by
  with_reducible refine PyProof.Rows.iadd_int ?_
  exact q _ _
theorem sRet {e} {s : Shared} {Q : Flow → Shared → Prop} (q : wpAny (model prog w) A (eval e env) (fun v => Q (.ret v)) E s) : wpAny (model prog w) A (exec (.Return (some e) pos) env) Q E s := wpAny_Return_some q
theorem sIf {test body orelse} {s : Shared} {Q : Flow → Shared → Prop} (q : wpAny (model prog w) A (isTrue test env (eval test env)) (fun b s₂ => if b then wpAny (model prog w) A (execs body env) Q E s₂ else wpAny (model prog w) A (execs orelse env) Q E s₂) E s) :
    wpAny (model prog w) A (exec (.If test body orelse pos) env) Q E s := wpAny_If q
theorem sAss {test msg} {s : Shared} {Q : Flow → Shared → Prop} (q : wpAny (model prog w) A (isTrue test env (eval test env)) (fun b s₁ => b = true ∧ Q .next s₁) E s) : wpAny (model prog w) A (exec (.Assert test msg pos) env) Q E s := wpAny_Assert_holds q
theorem xUn {op : UnaryOp} {e} {s : Shared} {Q : Value → Shared → Prop} (q : wpAny (model prog w) A (eval e env) (fun v s₁ => wpAny (model prog w) A (unaryOp op v) Q E s₁) E s) : wpAny (model prog w) A (eval (.UnaryOp op e pos) env) Q E s := UnaryOp_ q
theorem xIfE {test body orelse} {s : Shared} {Q : Value → Shared → Prop} (q : wpAny (model prog w) A (isTrue test env (eval test env)) (fun b s₁ => if b then wpAny (model prog w) A (eval body env) Q E s₁ else wpAny (model prog w) A (eval orelse env) Q E s₁) E s) : wpAny (model prog w) A (eval (.IfExp test body orelse pos) env) Q E s := wpAny_IfExp q

/-! while -/
def WEnd (gs : Array GenState) (dr : Drawn) (os : OsState) (L : Addr) (g : Heap) (J : Nat → Inv) (n : Nat) (Q : Flow → Shared → Prop) (f : Flow) (s' : Shared) : Prop := match f with
  | .next | .cont => ∃ m g' l' M' h' tk', m < n ∧ s' = ⟨h', gs, dr, tk', os⟩ ∧ Kp g g' ∧ Bd g' L l' M' h' ∧ J m g' l' M'
  | .brk => Q .next s'
  | .ret v => Q (.ret v) s'
theorem WEnd.nxt {J : Nat → Inv} {n : Nat} {Q : Flow → Shared → Prop} (m : Nat) {g' h' : Heap} {l'} {M'} {tk'} (k : Kp g g') (b : Bd g' L l' M' h') (lt : m < n) (j : J m g' l' M') : WEnd gs dr os L g J n Q .next ⟨h', gs, dr, tk', os⟩ :=
  ⟨m, g', l', M', h', tk', lt, rfl, k, b, j⟩
theorem WEnd.ret {J : Nat → Inv} {n : Nat} {Q : Flow → Shared → Prop} {v : Value} {s' : Shared} (q : Q (.ret v) s') : WEnd gs dr os L g J n Q (.ret v) s' := q
theorem sWhile {test body} {Q : Flow → Shared → Prop} (b : Bd g L l M h) (J : Nat → Inv) (n : Nat) (j0 : J n g l M)
    (turn : ∀ n g' l' M' h' tk', Kp g g' → J n g' l' M' → Bd g' L l' M' h' → wpAny (model prog w) A (isTrue test env (eval test env)) (fun c s₂ => if c = true then wpAny (model prog w) A (execs body env) (WEnd gs dr os L g' J n Q) (fun _ _ => False) s₂ else Q .next s₂) (fun _ _ => False) ⟨h', gs, dr, tk', os⟩) :
    wpAny (model prog w) A (exec (.While test body [] pos) env) Q E ⟨h, gs, dr, tk, os⟩ := by
  refine wpAny_While (codeAny_mono (R := forR Q) ?_ fun r s' hr => by cases r with | ok f => exact hr | error e => exact hr.elim)
  refine codeAny_whileLoop (fun n s' => ∃ g' l' M' h' tk', s' = ⟨h', gs, dr, tk', os⟩ ∧ Kp g g' ∧ J n g' l' M' ∧ Bd g' L l' M' h') ?_ n ⟨g, l, M, h, tk, rfl, Kp.rf, j0, b⟩
  rintro n s' ⟨g', l', M', h', tk', rfl, kg, j, b'⟩
  refine wpAny_mono (turn n g' l' M' h' tk' kg j b') (fun c s₂ h₂ => ?_) fun _ _ e => e.elim
  cases c with
  | false => simp only [Bool.false_eq_true, if_false] at h₂ ⊢; exact wpAny_execs_nil h₂
  | true =>
    simp only [if_true] at h₂ ⊢
    refine wpAny_mono h₂ (fun f s₃ h₃ => ?_) fun _ _ e => e.elim
    have fin : WEnd gs dr os L g' J n Q .next s₃ → ∃ m, m < n ∧ ∃ g' l' M' h' tk', s₃ = ⟨h', gs, dr, tk', os⟩ ∧ Kp g g' ∧ J m g' l' M' ∧ Bd g' L l' M' h' := by
      rintro ⟨m, g'', l'', M'', h'', tk'', lt, rfl, k'', b'', j''⟩
      exact ⟨m, lt, g'', l'', M'', h'', tk'', rfl, kg.tr k'', j'', b''⟩
    cases f with
    | next => exact fin h₃
    | cont => exact fin h₃
    | brk => exact h₃
    | ret v => exact h₃

/-! more loops -/
theorem asgPair {v1 v2 : Value} {px py tpos : Pos} {kk : Nat} {T I : Addr} {body : List Stmt} {R : Flow → Shared → Prop} {o : Obj} (hh : A.handled = none) (ho : o.cls = .type "list_iterator") (b : Bd g L l ((I, (· = o)) :: M) h) (ht : IsT g T [v1, v2])
    (hk : (env.scope.kind == .function && env.kindOf x == some .local) = true) (hk' : (env.scope.kind == .function && env.kindOf y == some .local) = true) (hL : env.locals = L)
    (q : ∀ h' tk', (∀ l1 l2, Sto x v1 l l1 → Sto y v2 l1 l2 → Bd g L l2 ((I, (· = o)) :: M) h') → wpAny (model prog w) A (execs body env) R (fun _ _ => False) ⟨h', gs, dr, tk', os⟩) :
    wpAny (model prog w) A (letOwnedTupleGo (.Tuple [.Name x px, .Name y py] kk tpos) (.ref I) (.ref T)) (fun _ s₁ => wpAny (model prog w) A (assign (.Tuple [.Name x px, .Name y py] kk tpos) env (.ref T)) (fun _ s₂ => wpAny (model prog w) A (execs body env) R (fun _ _ => False) s₂) (fun _ _ => False) s₁) (fun _ _ => False) ⟨h, gs, dr, tk, os⟩ := by
  obtain ⟨⟨o', e, rfl⟩, _⟩ := b.hp.mu _ (.head _)
  have step : ∀ {Q : Unit → Shared → Prop}, Q () ⟨h, gs, dr, tk, os⟩ → wpAny (model prog w) A (letOwnedTupleGo (.Tuple [.Name x px, .Name y py] kk tpos) (.ref I) (.ref T)) Q (fun _ _ => False) ⟨h, gs, dr, tk, os⟩ := by
    intro Q hQ
    show wpAny _ A (load I >>= _) _ _ _
    refine wpAny_bind (wpAny_load e ?_)
    rw [ho]
    split
    · rename_i n vs q1 q2
      cases q1
      split
      · rename_i hc
        simp at hc
      · exact wpAny_pure hQ
    · exact wpAny_pure hQ
  refine step ?_
  exact asg2 hh b (b.keep _ _ ht) hk hk' hL fun h' tk' hb => q h' tk' hb

theorem fList2 {px py tpos : Pos} {kk : Nat} {body : List Stmt} {Q : Flow → Shared → Prop} (hh : A.handled = none) (b : Bd g L l M h) (hl : IsL g a vs) (hT : ∀ (i : Nat) (v : Value), vs[i]? = some v → ∃ T v1 v2, v = Value.ref T ∧ IsT g T [v1, v2])
    (hk : (env.scope.kind == .function && env.kindOf x == some .local) = true) (hk' : (env.scope.kind == .function && env.kindOf y == some .local) = true) (hL : env.locals = L) (J : Nat → Inv) (j0 : J 0 g l M)
    (turn : ∀ i T v1 v2 g' l' M' h' tk' I o, vs[i]? = some (.ref T) → IsT g T [v1, v2] → Kp g g' → J i g' l' M' → (∀ l1 l2, Sto x v1 l' l1 → Sto y v2 l1 l2 → Bd g' L l2 ((I, (· = o)) :: M') h') →
      wpAny (model prog w) A (execs body env) (BEnd gs dr os L I o g' (J (i + 1)) Q) (fun _ _ => False) ⟨h', gs, dr, tk', os⟩)
    (done : ∀ g' l' M' h' tk', Kp g g' → J vs.length g' l' M' → Bd g' L l' M' h' → Q .next ⟨h', gs, dr, tk', os⟩) :
    wpAny (model prog w) A (pyIter (.ref a)) (fun it s₂ => codeAny (model prog w) A (.forLoop (.Tuple [.Name x px, .Name y py] kk tpos) it body [] env) (forR Q) s₂) E ⟨h, gs, dr, tk, os⟩ := by
  have hl' := hl.up b.keep
  refine wpAny_pyIter_list hl'.list ?_
  obtain ⟨oa, ha, _⟩ := id hl
  have hne : a ≠ h.objs.size := Nat.ne_of_lt (Heap.lt_size (b.keep _ _ ha))
  refine forW (Walks.list hh _ a hne vs.toArray) (Po := fun o => o.cls = .type "list_iterator") (fun i h st => let ⟨o, e, c, _⟩ := st.1; ⟨o, e, c⟩) (fun c hc => List.mem_singleton.mp hc) (fun c hc => ?_) (fun i g' l' M' => J i g' l' M') b (Kp.push _ _) (fresh_size h)
    ⟨⟨_, Heap.get?_push_size _ rfl, rfl, rfl⟩, hl'.list.push _⟩ j0 (fun i v g' l' M' h' tk' o hi hP po kg j b' => ?_) (fun g' l' M' h' tk' kg j b' => done g' l' M' h' tk' kg (by simpa using j) b')
  · simp only [List.mem_cons, List.not_mem_nil, or_false] at hc
    rcases hc with rfl | rfl
    · exact .inl rfl
    · exact .inr ⟨_, ha⟩
  · have hv : vs[i]? = some v := by simpa using hP
    obtain ⟨T, v1, v2, rfl, ht⟩ := hT i v hv
    exact asgPair hh po b' (kg _ _ ht) hk hk' hL fun h'' tk'' hb => turn i T v1 v2 g' l' M' h'' tk'' _ o hv ht kg j hb

theorem fRange {x : Str} {px : Pos} {r : Addr} {i0 i1 c : Int} {t0 u0 v0 : Tok} {n : Nat} {body : List Stmt} {Q : Flow → Shared → Prop} (hh : A.handled = none) (b : Bd g L l M h) (hr : IsRange h r i0 i1 c t0 u0 v0) (hs : Builtin.Range.small i0 i1 c = true) (hn : Builtin.Range.rangeSize i0 i1 c = (n : Int))
    (hk : (env.scope.kind == .function && env.kindOf x == some .local) = true) (hL : env.locals = L) (J : Nat → Inv) (j0 : J 0 g l M)
    (turn : ∀ i t g' l' M' h' tk' I o, i < n → Kp g g' → J i g' l' M' → (∀ l'', Sto x (.int (i0 + i * c) t) l' l'' → Bd g' L l'' ((I, (· = o)) :: M') h') →
      wpAny (model prog w) A (execs body env) (BEnd gs dr os L I o g' (J (i + 1)) Q) (fun _ _ => False) ⟨h', gs, dr, tk', os⟩)
    (done : ∀ g' l' M' h' tk', Kp g g' → J n g' l' M' → Bd g' L l' M' h' → Q .next ⟨h', gs, dr, tk', os⟩) :
    wpAny (model prog w) A (pyIter (.ref r)) (fun it s₂ => codeAny (model prog w) A (.forLoop (.Name x px) it body [] env) (forR Q) s₂) E ⟨h, gs, dr, tk, os⟩ := by
  refine wpAny_pyIter_range hr hs ?_
  refine forW (Walks.range hh _ i0 c n) (Po := fun _ => True) (fun i h st => ⟨_, st, trivial⟩) (fun c hc => List.mem_singleton.mp hc) (fun c hc => .inl (List.mem_singleton.mp hc)) J b (Kp.push _ _) (fresh_size h)
    (by show IsRangeIter _ _ _ _ _; rw [hn]; simpa using Heap.get?_push_size _ rfl) j0 (fun i v g' l' M' h' tk' o hi hP _ kg j b' => ?_) done
  obtain ⟨t, rfl⟩ := hP
  exact asgName hk hL b' fun h'' tk'' hb => turn i t g' l' M' h'' tk'' _ o hi kg j hb
theorem fStr {x : Str} {px : Pos} {y : Str} {body : List Stmt} {Q : Flow → Shared → Prop} (hh : A.handled = none) (b : Bd g L l M h) (ha : y.cps.all (· < 128) = true)
    (hk : (env.scope.kind == .function && env.kindOf x == some .local) = true) (hL : env.locals = L) (J : Nat → Inv) (j0 : J 0 g l M)
    (turn : ∀ (i : Nat) (c : Nat) t g' l' M' h' tk' I o, y.cps[i]? = some c → Kp g g' → J i g' l' M' → (∀ l'', Sto x (.str ⟨#[c]⟩ t) l' l'' → Bd g' L l'' ((I, (· = o)) :: M') h') →
      wpAny (model prog w) A (execs body env) (BEnd gs dr os L I o g' (J (i + 1)) Q) (fun _ _ => False) ⟨h', gs, dr, tk', os⟩)
    (done : ∀ g' l' M' h' tk', Kp g g' → J y.cps.size g' l' M' → Bd g' L l' M' h' → Q .next ⟨h', gs, dr, tk', os⟩) :
    wpAny (model prog w) A (pyIter (.str y t)) (fun it s₂ => codeAny (model prog w) A (.forLoop (.Name x px) it body [] env) (forR Q) s₂) E ⟨h, gs, dr, tk, os⟩ := by
  refine wpAny_pyIter_ascii ha ?_
  refine forW (Walks.strAscii hh _ y t) (Po := fun _ => True) (fun i h st => let ⟨o, e, _⟩ := st; ⟨o, e, trivial⟩) (fun c hc => List.mem_singleton.mp hc) (fun c hc => .inl (List.mem_singleton.mp hc)) J b (Kp.push _ _) (fresh_size h)
    ⟨_, Heap.get?_push_size _ rfl, rfl, rfl⟩ j0 (fun i v g' l' M' h' tk' o hi hP _ kg j b' => ?_) done
  obtain ⟨c, u, hc, rfl⟩ := hP
  exact asgName hk hL b' fun h'' tk'' hb => turn i c u g' l' M' h'' tk'' _ o hc kg j hb
theorem oRange1 {n : Int} {Q : Value → Shared → Prop} (q : ∀ r h' tk' t0 u0 v0, Kp h h' → IsRange h' r 0 n 1 t0 u0 v0 → Q (.ref r) ⟨h', gs, dr, tk', os⟩) : wpAny (model prog w) A (call (.type "range") [.int n t] []) Q E ⟨h, gs, dr, tk, os⟩ :=
  call_range_1 (q _ _ _ _ _ _ (Kp.push _ _) (Heap.get?_push_size _ rfl))
theorem oRange3 {i0 i1 c : Int} {v' : Tok} {Q : Value → Shared → Prop} (hc : c ≠ 0) (hp : Builtin.divisionGoesByPylong (i1 - i0) c = false) (q : ∀ r h' tk' t0 u0 v0, Kp h h' → IsRange h' r i0 i1 c t0 u0 v0 → Q (.ref r) ⟨h', gs, dr, tk', os⟩) : wpAny (model prog w) A (call (.type "range") [.int i0 t, .int i1 u, .int c v'] []) Q E ⟨h, gs, dr, tk, os⟩ :=
  call_range_3 hc (q _ _ _ _ _ _ (Kp.push _ _) (Heap.get?_push_size _ rfl)) (.inl hp)
def Swp (M : Model) (A : Around) (env : Env) (x y : Str) (Q : Flow → Shared → Prop) (E : Value → Shared → Prop) (v : Value) (s : Shared) : Prop := wpAny M A (unpackItems v ([x, y] : List Str).length none) (fun items s₂ => wpAny M A (assignInOrder (([x, y] : List Str).reverse.map fun n => bindName env n) items.reverse) (fun _ => Q .next) E s₂) E s
theorem sAsgS {elts k tpos value} {s : Shared} {Q : Flow → Shared → Prop} (hs : swapsWithSole [.Tuple elts k tpos] value pos.line env = pure false) (hw : swappedStores [.Tuple elts k tpos] value env = pure (some [x, y]))
    (q : wpAny (model prog w) A (eval value env) (Swp (model prog w) A env x y Q E) E s) : wpAny (model prog w) A (exec (.Assign [.Tuple elts k tpos] value pos) env) Q E s := Assign_Tuple_swapped q hs hw
theorem Swp.mk {v1 v2 : Value} {T : Addr} {l1 l2} {Q : Flow → Shared → Prop} (hh : A.handled = none) (b : Bd g L l M h) (ht : IsT h T [v1, v2])
    (s1 : Sto y v2 l l1) (s2 : Sto x v1 l1 l2) (hk : (env.scope.kind == .function && env.kindOf x == some .local && env.kindOf y == some .local) = true) (hL : env.locals = L)
    (q : ∀ h' tk', Bd g L l2 M h' → Q .next ⟨h', gs, dr, tk', os⟩) : Swp (model prog w) A env x y Q E (.ref T) ⟨h, gs, dr, tk, os⟩ := by
  unfold Swp
  refine wpAny_unpackItems_tuple (items := [v1, v2].toArray) hh ht.tup fun h1 hx => ?_
  have b1 := b.kp (Kp.ext hx)
  simp only [Bool.and_eq_true, beq_iff_eq] at hk
  subst hL
  obtain ⟨m, hn, hm⟩ := b1.ns
  refine wpAny_assignInOrder_more (wpAny_bindName (wpAny_storeName_local hk.2 hn (fun h2 hn2 hs2 => ?_) (by rw [hk.1.1]; rfl)))
  refine wpAny_assignInOrder_more (wpAny_bindName (wpAny_storeName_local hk.1.2 hn2 (fun h3 hn3 hs3 => ?_) (by rw [hk.1.1]; rfl)))
  refine wpAny_assignInOrder_none (q _ _ ?_)
  have b2 := b1.sto s1 hm hn2 hs2
  refine b2.sto s2 (fun p hp => ?_) hn3 hs3
  rcases s1.ok p hp with rfl | ⟨h1, h2⟩
  · simp
  · simp [h2, hm p h1]
/-! one statement, then the rest once -/
def CutQ (Post : Shared → Prop) (Q : Flow → Shared → Prop) (f : Flow) (s' : Shared) : Prop := match f with | .next => Post s' | f => Q f s'
theorem cutN {Post : Shared → Prop} {Q : Flow → Shared → Prop} {s : Shared} (q : Post s) : CutQ Post Q .next s := q
theorem cutR {Post : Shared → Prop} {Q : Flow → Shared → Prop} {v : Value} {s : Shared} (q : Q (.ret v) s) : CutQ Post Q (.ret v) s := q
theorem cutB {Post : Shared → Prop} {Q : Flow → Shared → Prop} {s : Shared} (q : Q .brk s) : CutQ Post Q .brk s := q
theorem cut {M : Model} {st rest} {s : Shared} {Q : Flow → Shared → Prop} (Post : Shared → Prop) (head : wpAny M A (exec st env) (CutQ Post Q) E s) (tail : ∀ s', Post s' → wpAny M A (execs rest env) Q E s') :
    wpAny M A (exec st env) (Nx M A env rest Q E) E s := wpAny_mono head (fun f s' h => by cases f with | next => exact tail s' h | _ => exact h) fun _ _ e => e
theorem Hp.low {g0 : Heap} (b : Hp g M h) (k : Kp g0 g) : Hp g0 M h := ⟨k.tr b.keep, fun p hp => ⟨(b.mu p hp).1, k.none (b.mu p hp).2⟩, b.nd⟩
theorem Bd.fix {D : Addr} {p : Obj → Prop} (b : Bd g L l ((D, p) :: M) h) : ∃ g', Kp g g' ∧ Bd g' L l M h ∧ ∃ o, g'.get? D = some o ∧ p o := by
  obtain ⟨oL, H, back⟩ := b.tail.out
  obtain ⟨g', k', H', f⟩ := H.freeze
  obtain ⟨⟨o, e, z⟩, _⟩ := b.hp.mu _ (.head _)
  refine ⟨g', k', back _ _ _ H', o, f _ _ e fun q => ?_, z⟩
  have nd := b.hp.nd
  rw [List.map_cons, List.nodup_cons] at nd
  rcases List.mem_cons.mp q with q | q
  · exact b.ne _ (.head _) q
  · exact nd.1 q
theorem oNeg {a : Int} {Q : Value → Shared → Prop} (q : ∀ u tk', Q (.int (-a) u) ⟨h, gs, dr, tk', os⟩) : wpAny (model prog w) A (unaryOp .USub (.int a t)) Q E ⟨h, gs, dr, tk, os⟩ := by
  with_reducible refine PyProof.Rows.neg_int ?_
  exact q _ _
theorem iSub {a b : Int} {Q : Value → Shared → Prop} (q : ∀ u tk', Q (.int (a - b) u) ⟨h, gs, dr, tk', os⟩) : wpAny (model prog w) A (inplaceOp .Sub (.int a t) (.int b u)) Q E ⟨h, gs, dr, tk, os⟩ := by
  with_reducible refine PyProof.Rows.isub_int ?_
  exact q _ _
theorem oMul {a b : Int} {Q : Value → Shared → Prop} (hm : IntMulOk a b) (q : ∀ u tk', Q (.int (a * b) u) ⟨h, gs, dr, tk', os⟩) : wpAny (model prog w) A (binaryOp .Mult (.int a t) (.int b u)) Q E ⟨h, gs, dr, tk, os⟩ := by
  with_reducible refine PyProof.Rows.mul_int ?_ hm
  exact q _ _
theorem oDiv {a b : Int} {Q : Value → Shared → Prop} (hb : b ≠ 0) (hp : Builtin.divisionGoesByPylong a b = false) (q : ∀ u tk', Q (.int (a.fdiv b) u) ⟨h, gs, dr, tk', os⟩) : wpAny (model prog w) A (binaryOp .FloorDiv (.int a t) (.int b u)) Q E ⟨h, gs, dr, tk, os⟩ := by
  refine PyProof.Rows.floordiv_int hb ?_ (.inl hp)
  exact q _ _
theorem idx0 {n : Nat} (h : 0 < n) : seqIndex? 0 n = some 0 := by simp [seqIndex?, h]
theorem idxN {n : Nat} (h : 0 < n) : seqIndex? (-1) n = some (n - 1) := by
  have e : (if (-1 : Int) < 0 then -1 + (n : Int) else -1) = -1 + (n : Int) := if_pos (by decide)
  unfold seqIndex?
  dsimp only
  rw [e, if_pos (by simp; omega)]
  congr 1; omega
theorem oIsNN {Q : Value → Shared → Prop} {s : Shared} (q : Q (.bool true) s) : wpAny (model prog w) A (compareOp .Is .none .none) Q E s := is_none_none q
theorem oIsRN {Q : Value → Shared → Prop} {s : Shared} (q : Q (.bool false) s) : wpAny (model prog w) A (compareOp .Is (.ref a) .none) Q E s := is_ref_none q
theorem oIsIN {i : Int} {Q : Value → Shared → Prop} {s : Shared} (q : Q (.bool false) s) : wpAny (model prog w) A (compareOp .Is (.int i t) .none) Q E s := is_int_none q
theorem oIsSN {Q : Value → Shared → Prop} {s : Shared} (q : Q (.bool false) s) : wpAny (model prog w) A (compareOp .Is (.str x t) .none) Q E s := is_str_none q
theorem oNotNN {Q : Value → Shared → Prop} {s : Shared} (q : Q (.bool false) s) : wpAny (model prog w) A (compareOp .IsNot .none .none) Q E s := isnot_none_none q
theorem oNotRN {Q : Value → Shared → Prop} {s : Shared} (q : Q (.bool true) s) : wpAny (model prog w) A (compareOp .IsNot (.ref a) .none) Q E s := isnot_ref_none q
theorem oNotSN {Q : Value → Shared → Prop} {s : Shared} (q : Q (.bool true) s) : wpAny (model prog w) A (compareOp .IsNot (.str x t) .none) Q E s := isnot_str_none q
theorem oIsB {c d : Bool} {Q : Value → Shared → Prop} {s : Shared} (q : Q (.bool (c == d)) s) : wpAny (model prog w) A (compareOp .Is (.bool c) (.bool d)) Q E s := is_bool q
theorem oNotB {c d : Bool} {Q : Value → Shared → Prop} {s : Shared} (q : Q (.bool (c != d)) s) : wpAny (model prog w) A (compareOp .IsNot (.bool c) (.bool d)) Q E s := isnot_bool q
/-- a call of what a local name holds -/
theorem rCallL {P : Heap → Prop} {args : List Expr} {np : Pos} {f : Value} {Q : Value → Shared → Prop} (b : Bd g L l M h) (hv : Has x f l) (hk : (env.scope.kind == .function && env.kindOf x == some .local && !(x == ("__debug__" : Str))) = true) (hL : env.locals = L)
    (hP : Keeps' (model prog w) f P) (hn : (starEach args env).any (·.1) = false)
    (q : wpAny (model prog w) A (spliced (starEach args env)) (fun vs s₁ => P s₁.heap ∧ wpAny (model prog w) A (call f vs []) Q E s₁) E ⟨h, gs, dr, tk, os⟩) :
    wpAny (model prog w) A (eval (.Call (.Name x np) args [] pos) env) Q E ⟨h, gs, dr, tk, os⟩ :=
  wpAny_Call_NameR (rLoc b hv hk hL (cw hn hP (wpAny_mono q (fun vs s₁ h₁ => ⟨h₁.1, by simpa using h₁.2⟩) fun _ _ e => e)))
theorem binds_peek {K : Frag} {mb} {fd : FuncData} {args : Args} {binds : List (Str × Value)} (W : Wld K mb g) (k : Kp g h)
    (e : ∀ S, peek K S (bindArgs fd args) = some binds) : BindsTo ⟨h, gs, dr, tk, os⟩ fd args binds := fun M A E Q q =>
  (Looks.of_peek (M := M) (h := h) (W.kin.keeps k) (e _)).here q
theorem Bd.fg {l' : List (Str × Value)} (b : Bd g L l M h) (s : l'.Sublist l) : Bd g L l' M h := b.forget fun _ hp => s.subset hp
end
end Mine
open PySem PySem.W PyProof.Rows
set_option Elab.async false
set_option maxRecDepth 100000
namespace Mine
/-! ## a mutable object in the middle -/
inductive MSet (c : Addr) (q : Obj → Prop) : List (Addr × (Obj → Prop)) → List (Addr × (Obj → Prop)) → Prop
  | hd {p r} : MSet c q ((c, p) :: r) ((c, q) :: r)
  | tl {p r r'} : MSet c q r r' → MSet c q (p :: r) (p :: r')
theorem MSet.split {c : Addr} {q : Obj → Prop} {M M' : List (Addr × (Obj → Prop))} (s : MSet c q M M') : ∃ p pre post, M = pre ++ (c, p) :: post ∧ M' = pre ++ (c, q) :: post := by
  induction s with
  | hd => exact ⟨_, [], _, rfl, rfl⟩
  | @tl p r r' _ ih => obtain ⟨p', pre, post, rfl, rfl⟩ := ih; exact ⟨p', p :: pre, post, rfl, rfl⟩
section
variable {g g' h h' : Heap} {L c : Addr} {l l' : List (Str × Value)} {M M' : List (Addr × (Obj → Prop))} {o : Obj} {q : Obj → Prop}
theorem Hp.mset (b : Hp g M h) (s : MSet c q M M') (hs : Heap.ExtBut c h h') (e : h'.get? c = some o) (hq : q o) : Hp g M' h' := by
  obtain ⟨p, pre, post, rfl, rfl⟩ := s.split
  exact ((b.perm List.perm_middle).upd hs e hq).perm List.perm_middle.symm
theorem Bd.mset (b : Bd g L l M h) (s : MSet c q M M') (hs : Heap.ExtBut c h h') (e : h'.get? c = some o) (hq : q o) : Bd g L l M' h' := by
  obtain ⟨p, pre, post, rfl, rfl⟩ := s.split
  exact ((b.perm List.perm_middle).upd hs e hq).perm List.perm_middle.symm
theorem Hp.at_ {p : Obj → Prop} (b : Hp g M h) (hm : (c, p) ∈ M) : ∃ o, h.get? c = some o ∧ p o := (b.mu _ hm).1
theorem Hp.cell {v : Option Value} (b : Hp g M h) (hm : (c, cel v) ∈ M) : h.IsCell c v := (b.mu _ hm).1
/-- all but a change at one fresh namespace -/
theorem Hp.sameBut (b : Hp g M h) (hc : g.get? c = none) (hn : ∀ p ∈ M, p.1 ≠ c) (hs : Heap.SameBut c h h') : Hp g M h' :=
  ⟨fun a o e => hs.extBut a o (fun q => by subst q; rw [hc] at e; cases e) (b.keep a o e), fun p hp => let ⟨⟨o, x, z⟩, y⟩ := b.mu p hp; ⟨⟨o, hs.extBut _ _ (hn p hp) x, z⟩, y⟩, b.nd⟩
end

section
variable {prog : Program} {w : World} {A : Around} {E : Value → Shared → Prop} {env : Env} {g h : Heap} {L : Addr} {l : List (Str × Value)} {M M' : List (Addr × (Obj → Prop))}
  {gs : Array GenState} {dr : Drawn} {tk : Nat} {os : OsState} {x y : Str} {pos : Pos} {v : Value} {c : Addr}
/-! ## cells -/
theorem rCel {Q : Value → Shared → Prop} (b : Bd g L l M h) (hc : env.cells.lookup x = some c) (hm : (c, cel (some v)) ∈ M) (hk : (env.scope.kind == .function && env.kindOf x == some .cell && !(x == ("__debug__" : Str))) = true)
    (q : Q v ⟨h, gs, dr, tk, os⟩) : wpAny (model prog w) A (eval (.Name x pos) env) Q E ⟨h, gs, dr, tk, os⟩ := by
  simp only [Bool.and_eq_true, beq_iff_eq, Bool.not_eq_true'] at hk
  exact wpAny_Name (wpAny_loadName_cell hk.1.1 hk.1.2 hc (b.hp.cell hm) q) hk.2
theorem rFre {Q : Value → Shared → Prop} (b : Bd g L l M h) (hc : env.cells.lookup x = some c) (hm : (c, cel (some v)) ∈ M) (hk : (env.scope.kind == .function && env.kindOf x == some .free && !(x == ("__debug__" : Str)) && !(x == ("__classdict__" : Str))) = true)
    (q : Q v ⟨h, gs, dr, tk, os⟩) : wpAny (model prog w) A (eval (.Name x pos) env) Q E ⟨h, gs, dr, tk, os⟩ := by
  simp only [Bool.and_eq_true, beq_iff_eq, Bool.not_eq_true'] at hk
  exact wpAny_Name (wpAny_loadName_free hk.1.1.1 hk.1.1.2 hc (b.hp.cell hm) q hk.2) hk.1.2
theorem nCel {Q : Value → Shared → Prop} (b : Bd g L l M h) (hc : env.cells.lookup x = some c) (hm : (c, cel (some v)) ∈ M) (hk : (env.scope.kind == .function && env.kindOf x == some .cell) = true)
    (q : Q v ⟨h, gs, dr, tk, os⟩) : wpAny (model prog w) A (loadName env x) Q E ⟨h, gs, dr, tk, os⟩ := by
  simp only [Bool.and_eq_true, beq_iff_eq] at hk
  exact wpAny_loadName_cell hk.1 hk.2 hc (b.hp.cell hm) q
theorem rStoC {Q : Unit → Shared → Prop} (b : Bd g L l M h) {v₀ : Option Value} (hc : env.cells.lookup x = some c) (hm : (c, cel v₀) ∈ M) (s : MSet c (cel (some v)) M M') (hk : (env.scope.kind == .function && env.kindOf x == some .cell) = true)
    (q : ∀ h', Bd g L l M' h' → Q () ⟨h', gs, dr, tk, os⟩) : wpAny (model prog w) A (storeName env x v) Q E ⟨h, gs, dr, tk, os⟩ := by
  simp only [Bool.and_eq_true, beq_iff_eq] at hk
  refine wpAny_storeName_cell hk.1 hk.2 hc (b.hp.cell hm) fun h' ⟨o, e, z⟩ hs => q h' (b.mset s hs.extBut e z)

/-! ## a frame with cells -/
theorem bindL_other {kf : Str → Option NameKind} : ∀ {bs : List (Str × Value)} {m : Str → Option Value} {n : Str}, (bs.all fun q => !(q.1 == n)) = true → bindL kf bs m n = m n
  | [], _, _, _ => rfl
  | (y, u) :: r, m, n, hn => by
    simp only [List.all_cons, Bool.and_eq_true, Bool.not_eq_true', beq_eq_false_iff_ne, ne_eq] at hn
    unfold bindL
    rw [bindL_other (by simpa using hn.2)]
    split
    · show (if n = y then some u else m n) = m n
      rw [if_neg (fun e => hn.1 e.symm)]
    · rfl
theorem bindL_at {kf : Str → Option NameKind} : ∀ {bs : List (Str × Value)} {m : Str → Option Value}, nodupK bs = true → ∀ p ∈ bs, kf p.1 = some .local → bindL kf bs m p.1 = some p.2
  | [], _, _, _, hp, _ => nomatch hp
  | (y, u) :: r, m, hn, p, hp, hk => by
    simp only [nodupK, Bool.and_eq_true] at hn
    unfold bindL
    rcases List.mem_cons.mp hp with rfl | hp
    · rw [bindL_other hn.1, if_pos hk, if_pos rfl]
    · exact bindL_at hn.2 p hp hk

def nodupA : List (Str × Addr) → Bool
  | [] => true
  | p :: r => (r.all fun q => !(q.1 == p.1)) && nodupA r
theorem nodupA_ok : ∀ {bs : List (Str × Addr)}, nodupA bs = true → ∀ p ∈ bs, bs.lookup p.1 = some p.2
  | [], _, _, hp => nomatch hp
  | q :: r, hn, p, hp => by
    simp only [nodupA, Bool.and_eq_true] at hn
    rcases List.mem_cons.mp hp with rfl | hp'
    · rw [show p = (p.1, p.2) from rfl, List.lookup_cons, beq_self_eq_true]
    · have this := List.all_eq_true.mp hn.1 p hp'
      obtain ⟨qn, qa⟩ := q
      rw [Bool.not_eq_true'] at this
      rw [List.lookup_cons, this]
      exact nodupA_ok hn.2 p hp'
theorem enterC {K : Frag} {mb} {P : Value → Heap → Prop} {f : Addr} {o : Obj} {fd : FuncData} {body : List Stmt} {vals : List Value} (binds : List (Str × Value)) (lb : List (Str × Value)) (W : Wld K mb g) (H : Hp g M h)
    (hroom : A.depth < 1000) (ho : K.lookup f = some o) (hdata : o.data = .func fd) (hcd : codeIn K fd.code fd.qualname = true)
    (hbody : fd.body = .stmts body) (hbind : bindArgs fd ⟨vals, []⟩ = pure binds) (hclo : fd.closure = []) (hnd : nodupK binds = true)
    (hkind : ∀ L, (binds.all fun x => decide (fd.scope.names.lookup x.1 = some .local) || (decide (fd.scope.names.lookup x.1 = some .cell) && ((cellsFrom (L + 1) fd.scope.names []).lookup x.1).isSome)) = true)
    (hlb : ∀ p ∈ lb, p ∈ binds) (hll : (lb.all fun x => decide (fd.scope.names.lookup x.1 = some .local)) = true)
    (hcs : ∀ L, nodupA (cellsFrom (L + 1) fd.scope.names []) = true)
    (hco : fd.scope.isCoroutine = false) (hgen : fd.scope.isGenerator = false) (hk : fd.scope.kind = .function)
    (q : ∀ L h0 tk0, Bd g L lb (((cellsFrom (L + 1) fd.scope.names []).map fun p => (p.2, cel (bindC (fun x => fd.scope.names.lookup x) binds (fun _ => none) p.1))) ++ M) h0 →
      wpAny (model prog w) (A.deeper (callEnvC fd L f)) (execs body (callEnvC fd L f)) (DoneF gs dr os P) (fun _ _ => False) ⟨h0, gs, dr, tk0, os⟩) :
    codeAny (model prog w) A (.call (.ref f) ⟨vals, []⟩) (Rt gs dr os P) ⟨h, gs, dr, tk, os⟩ := by
  have W' := W.up H.keep
  refine codeAny_call_cells hroom (W'.kin f _ ho) hdata W'.lim (codeRec_of W'.kin hcd) hbody hbind hclo (fun x hx => ?_) (fun s₁ X => ?_) hco hgen hk
  · have := List.all_eq_true.mp (hkind h.objs.size) x hx
    simpa using this
  · obtain ⟨⟨⟨h', tk', rfl⟩, ns, keep, fresh⟩, cell, apart, above⟩ := X
    refine wpAny_mono (q h.objs.size h' tk' ⟨⟨_, ns, fun p hp => ?_⟩, H.keep.none (fresh_size h), fun p hp => ?_, keep' keep, fun p hp => ?_, ?_⟩) (fun fl s' hd => ⟨_, rfl, hd⟩) fun _ _ x => x.elim
    · refine bindL_at hnd p (hlb p hp) ?_
      show fd.scope.names.lookup p.1 = some .local
      simpa using List.all_eq_true.mp hll p hp
    · rcases List.mem_append.mp hp with hp | hp
      · obtain ⟨r, hr, rfl⟩ := List.mem_map.mp hp
        exact Nat.ne_of_gt (above r.1 r.2 hr)
      · exact Nat.ne_of_lt (H.msz p hp)
    · rcases List.mem_append.mp hp with hp | hp
      · obtain ⟨r, hr, rfl⟩ := List.mem_map.mp hp
        have hl : (cellsFrom (h.objs.size + 1) fd.scope.names []).lookup r.1 = some r.2 := nodupA_ok (hcs _) r hr
        refine ⟨cell r.1 r.2 hl, H.keep.none ?_⟩
        cases e : h.get? r.2 with
        | none => rfl
        | some o' => exact absurd (Nat.lt_trans (Heap.lt_size e) (above r.1 r.2 hr)) (Nat.lt_irrefl _)
      · exact ⟨let ⟨⟨o, e, z⟩, _⟩ := H.mu p hp; ⟨o, keep _ _ e, z⟩, (H.mu p hp).2⟩
    · rw [List.map_append, List.map_map]
      refine List.nodup_append.mpr ⟨?_, H.nd, fun a ha b hb e => ?_⟩
      · refine (List.pairwise_map.mpr ?_)
        exact apart.imp fun z => z
      · subst e
        obtain ⟨r, hr, rfl⟩ := List.mem_map.mp ha
        obtain ⟨p, hp, e⟩ := List.mem_map.mp hb
        have h1 := H.msz p hp
        rw [e] at h1
        exact Nat.lt_irrefl _ (Nat.lt_trans (above r.1 r.2 hr) h1)
where keep' {h' : Heap} (k : ∀ b o, h.get? b = some o → h'.get? b = some o) : Kp g h' := H.keep.tr k

/-! ## comprehensions -/
theorem asgNK {px : Pos} {I : Addr} {R : Shared → Prop} (hk : (env.scope.kind == .function && env.kindOf x == some .local) = true) (hL : env.locals = L) (b : Bd g L l M h)
    (q : ∀ h' tk', (∀ l', Sto x v l l' → Bd g L l' M h') → R ⟨h', gs, dr, tk', os⟩) :
    wpAny (model prog w) A (letOwnedTupleGo (.Name x px) (.ref I) v) (fun _ s₁ => wpAny (model prog w) A (assign (.Name x px) env v) (fun _ s₂ => R s₂) E s₁) E ⟨h, gs, dr, tk, os⟩ := by
  refine wpAny_of_eq (show letOwnedTupleGo (.Name x px) (.ref I) v = pure () from rfl) ?_
  refine wpAny_assign_Name ?_
  obtain ⟨m, hn, hm⟩ := b.ns
  simp only [Bool.and_eq_true, beq_iff_eq] at hk
  subst hL
  refine wpAny_storeName_local hk.2 hn (fun h' hn' hs => q h' _ fun l' st => b.sto st hm hn' hs) ?_
  rw [hk.1]; rfl
theorem asgPK {v1 v2 : Value} {px py tpos : Pos} {kk : Nat} {T I : Addr} {R : Shared → Prop} {o : Obj} (hh : A.handled = none) (ho : o.cls = .type "list_iterator") (b : Bd g L l ((I, (· = o)) :: M) h) (ht : IsT g T [v1, v2])
    (hk : (env.scope.kind == .function && env.kindOf x == some .local) = true) (hk' : (env.scope.kind == .function && env.kindOf y == some .local) = true) (hL : env.locals = L)
    (q : ∀ h' tk', (∀ l1 l2, Sto x v1 l l1 → Sto y v2 l1 l2 → Bd g L l2 ((I, (· = o)) :: M) h') → R ⟨h', gs, dr, tk', os⟩) :
    wpAny (model prog w) A (letOwnedTupleGo (.Tuple [.Name x px, .Name y py] kk tpos) (.ref I) (.ref T)) (fun _ s₁ => wpAny (model prog w) A (assign (.Tuple [.Name x px, .Name y py] kk tpos) env (.ref T)) (fun _ s₂ => R s₂) E s₁) E ⟨h, gs, dr, tk, os⟩ := by
  obtain ⟨⟨o', e, rfl⟩, _⟩ := b.hp.mu _ (.head _)
  have step : ∀ {Q : Unit → Shared → Prop}, Q () ⟨h, gs, dr, tk, os⟩ → wpAny (model prog w) A (letOwnedTupleGo (.Tuple [.Name x px, .Name y py] kk tpos) (.ref I) (.ref T)) Q E ⟨h, gs, dr, tk, os⟩ := by
    intro Q hQ
    show wpAny _ A (load I >>= _) _ _ _
    refine wpAny_bind (wpAny_load e ?_)
    rw [ho]
    split
    · rename_i n vs q1 q2
      cases q1
      split
      · rename_i hc
        simp at hc
      · exact wpAny_pure hQ
    · exact wpAny_pure hQ
  refine step ?_
  exact asg2 hh b (b.keep _ _ ht) hk hk' hL fun h' tk' hb => q h' tk' hb

def lcTests (M : Model) (A : Around) (env : Env) (ifs : List Expr) (Q : Bool → Shared → Prop) (E : Value → Shared → Prop) (s : Shared) : Prop := match ifs with
  | [] => Q true s
  | [c] => wpAny M A (isTrue c env (eval c env)) Q E s
  | _ => False
theorem lcTests_ok {ifs : List Expr} {Q : Bool → Shared → Prop} {s : Shared} (q : lcTests (model prog w) A env ifs Q E s) :
    wpAny (model prog w) A (forIn ifs true fun c r => if r = true then do let ok ← isTrue c env (eval c env); pure (ForInStep.yield ok) else pure (ForInStep.yield r)) Q E s := by
  match ifs, q with
  | [], q => exact wpAny_tests_nil q
  | [c], q => exact wpAny_tests_one q

theorem compLoop_any {elt target iter : Expr} {ifs : List Expr} {scope : Scope} {it acc : Value} {R : Result → Shared → Prop} (I : Nat → Shared → Prop)
    (turn : ∀ n s E, I n s → wpAny (model prog w) A (pyNext it) (fun r s₁ => match r with
      | none => R (.ok .next) s₁
      | some v => wpAny (model prog w) A (letOwnedTupleGo target it v) (fun _ s₁' => wpAny (model prog w) A (assign target env v) (fun _ s₂ =>
          lcTests (model prog w) A env ifs (fun ok s₃ => if ok = true then wpAny (model prog w) A (eval elt env) (fun x s₄ =>
              wpAny (model prog w) A (call (.builtin "list.append") [acc, x]) (fun _ s₅ => ∃ m, m < n ∧ I m s₅) E s₄) E s₃ else ∃ m, m < n ∧ I m s₃) E s₂) E s₁') E s₁) E s)
    (n : Nat) {s : Shared} (h : I n s) : codeAny (model prog w) A (.compLoop (.ListComp elt [⟨target, iter, ifs, 0⟩] scope pos) 0 it acc env) R s := by
  refine codeAny_loop rfl I (fun n s hI => ?_) n h
  show wpAny _ A ((compTurn (.ListComp elt [⟨target, iter, ifs, 0⟩] scope pos) 0 it acc env).onRaise (fun x => do noteFrame x env; theTreesLotGoes x)) _ _ s
  refine wpAny_noted ?_
  rw [compTurn_list]
  refine wpAny_bind (wpAny_standAt (wpAny_bind (wpAny_mono (turn n s _ hI) (fun r s₁ h₁ => ?_) fun _ _ h' => h')))
  cases r with
  | none => exact wpAny_pure h₁
  | some v =>
    refine wpAny_bind (wpAny_mono h₁ (fun _ s₁' h₁' => ?_) fun _ _ h' => h')
    refine wpAny_bind (wpAny_mono h₁' (fun _ s₂ h₂ => wpAny_bind (wpAny_mono (lcTests_ok h₂) (fun ok s₃ h₃ => ?_) fun _ _ h' => h')) fun _ _ h' => h')
    cases ok with
    | false => exact wpAny_pure ⟨rfl, h₃⟩
    | true =>
      exact wpAny_bind (wpAny_bind (wpAny_mono h₃ (fun x s₄ h₄ => wpAny_bind (wpAny_mono h₄ (fun _ s₅ h₅ => wpAny_pure (wpAny_pure ⟨rfl, h₅⟩)) fun _ _ h' => h')) fun _ _ h' => h'))

/-- a turn's end -/
def LcE (gs : Array GenState) (dr : Drawn) (os : OsState) (g' : Heap) (C I D L : Addr) (o oL : Obj) (ys : List Value) (M : List (Addr × (Obj → Prop))) (J : Heap → List Value → Prop) (ys' : List Value) (s : Shared) : Prop :=
  ∃ g'' h'' tk'' lc, s = ⟨h'', gs, dr, tk'', os⟩ ∧ Kp g' g'' ∧ Bd g'' C lc ((I, (· = o)) :: (D, lst ys) :: (L, (· = oL)) :: M) h'' ∧ J g'' ys'
theorem LcE.mk {C I D L : Addr} {o oL : Obj} {ys ys' : List Value} {J : Heap → List Value → Prop} {g' g'' h'' : Heap} {lc} (k : Kp g' g'') (b : Bd g'' C lc ((I, (· = o)) :: (D, lst ys) :: (L, (· = oL)) :: M) h'') (j : J g'' ys') :
    LcE gs dr os g' C I D L o oL ys M J ys' ⟨h'', gs, dr, tk, os⟩ := ⟨g'', h'', tk, lc, rfl, k, b, j⟩
/-- what a turn of the comprehension asks -/
def LcT (M : Model) (A : Around) (env : Env) (elt : Expr) (ifs : List Expr) (EndY : List Value → Shared → Prop) (ys : List Value) (E : Value → Shared → Prop) (s : Shared) : Prop :=
  lcTests M A env ifs (fun ok s₃ => if ok = true then wpAny M A (eval elt env) (fun y s₄ => EndY (ys ++ [y]) s₄) E s₃ else EndY ys s₃) E s

def LcK (M : Model) (A : Around) (E : Value → Shared → Prop) (env : Env) (e : Expr) (scope : Scope) (cl : List (Str × Addr)) (use : Option (Str × Pos)) (Q : Value → Shared → Prop) (it : Value) (s₂ : Shared) : Prop :=
  wpAny M A (newList []) (fun acc s₃ => wpAny M A (newFunctionEnv scope env.globals cl [] env.qual none .none (some env)) (fun cenv s₄ => codeAny M A (.compStart e 0 it acc { cenv with scope := relabel scope env }) (compPost M A E (use.map fun p => assign (.Name p.1 p.2) env) Q acc cenv.locals) s₄) E s₃) E s₂
/-- where the new list goes -/
inductive UseR (D : Addr) : Option (Str × Pos) → List (Str × Value) → List (Str × Value) → Prop
  | none (k : List (Str × Value)) : UseR D none k k
  | name {n : Str} {pn : Pos} {k k' : List (Str × Value)} : Sto n (.ref D) k k' → UseR D (some (n, pn)) k k'
def useOk (env : Env) (use : Option (Str × Pos)) : Prop := use = none ∨ ∃ y py, use = some (y, py) ∧ (env.scope.kind == .function && env.kindOf y == some .local) = true
def UseQ (use : Option (Str × Pos)) (Q : Value → Shared → Prop) (D : Addr) (s : Shared) : Prop := match use with | none => Q (.ref D) s | some _ => Q .none s

theorem lcBlock {elt target iter : Expr} {ifs : List Expr} {scope : Scope} {cl : List (Str × Addr)} {use : Option (Str × Pos)} {Q : Value → Shared → Prop} {I : Addr} {fp : List Addr} {n : Nat} {P : Nat → Value → Prop} {St : Nat → Heap → Prop} {Po : Obj → Prop}
    (W : Walks prog w A I fp [I] n P St) (hn : n ≤ 1000000) (hI : ∀ i h, St i h → ∃ o, h.get? I = some o ∧ Po o)
    (hSt : ∀ i h₁ h₂ o g', St i h₁ → h₁.get? I = some o → h₂.get? I = some o → Kp g g' → Hp g' M h₂ → St i h₂)
    (hcell : (scope.names.all fun y => y.2 != .cell) = true) (hkind : scope.kind = .function) (hL : env.locals = L) (hu : useOk env use)
    {h₀ : Heap} (b : Bd g L l M h₀) (hk : Kp h₀ h) (hf : h₀.get? I = none) (hst : St 0 h) (J : Nat → Heap → List Value → Prop) (j0 : J 0 g []) (jn : ∀ i g' ys, J i g' ys → ys.length ≤ i)
    (turn : ∀ i v g' ys h' tk' C D o oL (E : Value → Shared → Prop), i < n → P i v → Po o → Kp g g' → J i g' ys → Bd g' C [] ((I, (· = o)) :: (D, lst ys) :: (L, (· = oL)) :: M) h' →
      wpAny (model prog w) A (letOwnedTupleGo target (.ref I) v) (fun _ s₁ => wpAny (model prog w) A (assign target (compEnvC scope cl C env) v) (fun _ s₂ =>
        LcT (model prog w) A (compEnvC scope cl C env) elt ifs (LcE gs dr os g' C I D L o oL ys M (J (i + 1))) ys E s₂) E s₁) E ⟨h', gs, dr, tk', os⟩)
    (done : ∀ g' ys D h' tk', Kp g g' → J n g' ys → (∀ l', UseR D use l l' → Bd g' L l' ((D, lst ys) :: M) h') → UseQ use Q D ⟨h', gs, dr, tk', os⟩) :
    LcK (model prog w) A E env (.ListComp elt [⟨target, iter, ifs, 0⟩] scope pos) scope cl use Q (.ref I) ⟨h, gs, dr, tk, os⟩ := by
  subst hL
  obtain ⟨o₀, ho₀, hpo₀⟩ := hI _ _ hst
  have bI : Bd g env.locals l ((I, (· = o₀)) :: M) h := b.add hk hf ho₀ rfl
  unfold LcK
  refine wpAny_newObj_type (wpAny_newFunctionEnv (fun x hx => by simpa using List.all_eq_true.mp hcell x hx) (by intro y hy; simp at hy) (fun h₁ hns₁ hsb₁ => ?_) hkind)
  dsimp only at hns₁ hsb₁ ⊢
  generalize hH2 : h.push { cls := .type "list", dict := none, data := .seq ([] : List Value).toArray } = H2 at hns₁ hsb₁ ⊢
  have hfD : h.get? h.objs.size = none := fresh_size h
  have hD2 : H2.get? h.objs.size = some { cls := .type "list", dict := none, data := .seq ([] : List Value).toArray } := hH2 ▸ Heap.get?_push_size _ rfl
  have k2 : Kp h H2 := hH2 ▸ Kp.push _ _
  have bD : Bd g env.locals l ((h.objs.size, lst []) :: (I, (· = o₀)) :: M) H2 := bI.add k2 hfD hD2 ⟨_, rfl⟩
  have hCf : H2.get? H2.objs.size = none := fresh_size H2
  have kC : Kp H2 h₁ := fun a o e => hsb₁.extBut a o (fun q => by subst q; rw [hCf] at e; cases e) (Heap.get?_push_of_some _ e)
  have bC := bD.kp kC
  generalize hD : h.objs.size = D at *
  generalize hC : H2.objs.size = C at *
  obtain ⟨oL, HL, back⟩ := bC.out
  have HL2 : Hp g ((I, (· = o₀)) :: (D, lst []) :: (env.locals, (· = oL)) :: M) h₁ := by
    refine HL.perm ?_
    exact ((List.Perm.swap _ _ _).trans ((List.Perm.swap _ _ _).cons _)).trans (List.Perm.swap _ _ _)
  have gC : g.get? C = none := by
    have : Kp g H2 := bD.keep
    exact this.none hCf
  have hne : ∀ p ∈ ((I, (· = o₀)) :: (D, lst []) :: (env.locals, (· = oL)) :: M), p.1 ≠ C := by
    intro p hp q
    have : H2.get? p.1 = none := by rw [q]; exact hCf
    obtain ⟨_, H2p, _⟩ := bD.out
    have h3 : ∃ o, H2.get? p.1 = some o := by
      rcases List.mem_cons.mp hp with rfl | hp
      · obtain ⟨⟨o, e, _⟩, _⟩ := bD.hp.mu (I, (· = o₀)) (.tail _ (.head _)); exact ⟨o, e⟩
      · rcases List.mem_cons.mp hp with rfl | hp
        · exact ⟨_, hD2⟩
        · rcases List.mem_cons.mp hp with rfl | hp
          · obtain ⟨⟨o, e, _⟩, _⟩ := H2p.mu _ (.head _); exact ⟨o, e⟩
          · obtain ⟨⟨o, e, _⟩, _⟩ := bD.hp.mu p (.tail _ (.tail _ hp)); exact ⟨o, e⟩
    obtain ⟨o, e⟩ := h3
    rw [this] at e; cases e
  have B0 : Bd g C [] ((I, (· = o₀)) :: (D, lst []) :: (env.locals, (· = oL)) :: M) h₁ := ⟨⟨_, hns₁, fun _ hp => nomatch hp⟩, gC, hne, HL2⟩
  have hst₁ : St 0 h₁ := W.frame _ _ _ hst fun b _ o e => kC _ _ (k2 _ _ e)
  have loop : ∀ tk₁, codeAny (model prog w) A (.compLoop (.ListComp elt [⟨target, iter, ifs, 0⟩] scope pos) 0 (.ref I) (.ref D) (compEnvC scope cl C env)) (compPost (model prog w) A E (use.map fun p => assign (.Name p.1 p.2) env) Q (.ref D) C) ⟨h₁, gs, dr, tk₁, os⟩ := by
    intro tk₁
    refine compLoop_any (fun k s' => ∃ i g' h' tk' o ys lc, s' = ⟨h', gs, dr, tk', os⟩ ∧ i ≤ n ∧ k = n + 1 - i ∧ Kp g g' ∧ J i g' ys ∧ Po o ∧ Bd g' C lc ((I, (· = o)) :: (D, lst ys) :: (env.locals, (· = oL)) :: M) h' ∧ St i h') ?_ (n + 1)
      ⟨0, g, h₁, _, o₀, [], [], rfl, Nat.zero_le _, rfl, Kp.rf, j0, hpo₀, B0, hst₁⟩
    rintro k s' E' ⟨i, g', h', tk', o, ys, lc, rfl, hi, rfl, kg, j, hpo, B, st⟩
    by_cases hlt : i < n
    · refine W.item i _ _ _ hlt st fun v h₂ tk₂ hP st₂ hk₂ => ?_
      obtain ⟨o₂, ho₂, po₂⟩ := hI _ _ st₂
      have B₂ : Bd g' C lc ((I, (· = o₂)) :: (D, lst ys) :: (env.locals, (· = oL)) :: M) h₂ := B.upd (fun c x hc e => hk₂ c x (fun q => hc (List.mem_singleton.mp q)) e) ho₂ rfl
      have hys : ys.length ≤ 1000000 := Nat.le_trans (jn _ _ _ j) (Nat.le_trans hi hn)
      have fin : ∀ (ys' : List Value) (s₃ : Shared), LcE gs dr os g' C I D env.locals o₂ oL ys M (J (i + 1)) ys' s₃ → (ys' = ys → ∃ m, m < n + 1 - i ∧ ∃ i g' h' tk' o ys lc, s₃ = ⟨h', gs, dr, tk', os⟩ ∧ i ≤ n ∧ m = n + 1 - i ∧ Kp g g' ∧ J i g' ys ∧ Po o ∧
          Bd g' C lc ((I, (· = o)) :: (D, lst ys) :: (env.locals, (· = oL)) :: M) h' ∧ St i h') ∧
          ∀ y, ys' = ys ++ [y] → wpAny (model prog w) A (call (.builtin "list.append") [.ref D, y]) (fun _ s₅ => ∃ m, m < n + 1 - i ∧ ∃ i g' h' tk' o ys lc, s₅ = ⟨h', gs, dr, tk', os⟩ ∧ i ≤ n ∧ m = n + 1 - i ∧ Kp g g' ∧ J i g' ys ∧ Po o ∧
          Bd g' C lc ((I, (· = o)) :: (D, lst ys) :: (env.locals, (· = oL)) :: M) h' ∧ St i h') E' s₃ := by
        rintro ys' s₃ ⟨g'', h'', tk'', lc'', rfl, k'', B'', j''⟩
        obtain ⟨⟨oI, eI, rfl⟩, _⟩ := B''.hp.mu _ (.head _)
        have st'' : St (i + 1) h'' := hSt _ _ _ _ g'' st₂ ho₂ eI (kg.tr k'') (B''.hp.sub ((List.sublist_cons_self _ _).trans ((List.sublist_cons_self _ _).trans (List.sublist_cons_self _ _))))
        refine ⟨fun e => ?_, fun y e => ?_⟩
        · subst e
          exact ⟨n + 1 - (i + 1), by omega, i + 1, g'', h'', tk'', _, _, lc'', rfl, hlt, rfl, kg.tr k'', j'', po₂, B'', st''⟩
        · subst e
          refine oApp (B''.hp.lst (.tail _ (.head _))) hys fun h₅ o₅ x₅ e₅ l₅ => ?_
          have B₅ := B''.mset (q := lst (ys ++ [y])) (M' := (I, (· = oI)) :: (D, lst (ys ++ [y])) :: (env.locals, (· = oL)) :: M) (.tl .hd) x₅ e₅ l₅
          obtain ⟨⟨o₆, e₆, rfl⟩, _⟩ := B₅.hp.mu _ (.head _)
          exact ⟨n + 1 - (i + 1), by omega, i + 1, g'', h₅, tk'', _, _, lc'', rfl, hlt, rfl, kg.tr k'', j'', po₂, B₅,
            hSt _ _ _ _ g'' st'' eI e₆ (kg.tr k'') (B₅.hp.sub ((List.sublist_cons_self _ _).trans ((List.sublist_cons_self _ _).trans (List.sublist_cons_self _ _))))⟩
      refine wpAny_mono (turn i v g' ys h₂ tk₂ C D o₂ oL E' hlt hP po₂ kg j (B₂.forget fun _ hp => nomatch hp)) (fun _ s₁ h₁' => wpAny_mono h₁' (fun _ s₂ h₂ => ?_) fun _ _ e => e) fun _ _ e => e
      unfold LcT at h₂
      have conv : ∀ (ok : Bool) (s₃ : Shared), (if ok = true then wpAny (model prog w) A (eval elt (compEnvC scope cl C env)) (fun y s₄ => LcE gs dr os g' C I D env.locals o₂ oL ys M (J (i + 1)) (ys ++ [y]) s₄) E' s₃ else LcE gs dr os g' C I D env.locals o₂ oL ys M (J (i + 1)) ys s₃) →
          (if ok = true then wpAny (model prog w) A (eval elt (compEnvC scope cl C env)) (fun x s₄ => wpAny (model prog w) A (call (.builtin "list.append") [.ref D, x]) (fun _ s₅ => ∃ m, m < n + 1 - i ∧ ∃ i g' h' tk' o ys lc, s₅ = ⟨h', gs, dr, tk', os⟩ ∧ i ≤ n ∧ m = n + 1 - i ∧ Kp g g' ∧ J i g' ys ∧ Po o ∧
          Bd g' C lc ((I, (· = o)) :: (D, lst ys) :: (env.locals, (· = oL)) :: M) h' ∧ St i h') E' s₄) E' s₃ else ∃ m, m < n + 1 - i ∧ ∃ i g' h' tk' o ys lc, s₃ = ⟨h', gs, dr, tk', os⟩ ∧ i ≤ n ∧ m = n + 1 - i ∧ Kp g g' ∧ J i g' ys ∧ Po o ∧
          Bd g' C lc ((I, (· = o)) :: (D, lst ys) :: (env.locals, (· = oL)) :: M) h' ∧ St i h') := by
        intro ok s₃ z
        cases ok with
        | false => simp only [Bool.false_eq_true, if_false] at z ⊢; exact (fin _ _ z).1 rfl
        | true => simp only [if_true] at z ⊢; exact wpAny_mono z (fun y s₄ z => (fin _ _ z).2 y rfl) fun _ _ e => e
      match ifs, h₂ with
      | [], h₂ => exact conv true _ h₂
      | [c], h₂ => exact wpAny_mono h₂ (fun ok s₃ z => conv _ _ z) fun _ _ e => e
    · have : i = n := by omega
      subst this
      refine W.done _ _ _ st fun h₂ tk₂ hk₂ => ?_
      have xI : Heap.ExtBut I h' h₂ := fun c x hc e => hk₂ c x (fun q => hc (List.mem_singleton.mp q)) e
      -- the frame's heap without the walk's object
      have nIC : C ≠ I := fun q => B.ne _ (.head _) q.symm
      have nd := B.hp.nd
      rw [List.map_cons, List.nodup_cons] at nd
      have B₂ : Bd g' C lc ((D, lst ys) :: (env.locals, (· = oL)) :: M) h₂ := by
        have b₁ := B.tail
        obtain ⟨m, x, y⟩ := B.ns
        refine ⟨⟨m, x.extBut xI nIC, y⟩, B.off, b₁.ne, fun c x e => xI c x (fun q => ?_) (B.keep _ _ e), fun p hp => ?_, nd.2⟩
        · subst q; rw [(B.hp.mu _ (.head _)).2] at e; cases e
        · obtain ⟨⟨o', e', z⟩, y⟩ := b₁.hp.mu p hp
          exact ⟨⟨o', xI _ _ (fun q => nd.1 (List.mem_map.mpr ⟨p, hp, q⟩)) e', z⟩, y⟩
      rcases hu with rfl | ⟨y, py, rfl, hky⟩
      · obtain ⟨m, x, _⟩ := B₂.ns
        refine ⟨m, x, fun h₃ hs₃ => ?_⟩
        have H₃ : Hp g' ((D, lst ys) :: (env.locals, (· = oL)) :: M) h₃ := B₂.hp.sameBut B₂.off B₂.ne hs₃
        refine done g' ys D h₃ tk₂ kg j fun l' u => ?_
        cases u
        exact back _ _ _ (H₃.perm (List.Perm.swap _ _ _))
      · obtain ⟨oC, HC, _⟩ := B₂.out
        have BL : Bd g' env.locals l ((D, lst ys) :: (C, (· = oC)) :: M) h₂ := back _ _ _ (HC.perm (((List.Perm.swap _ _ _).trans ((List.Perm.swap _ _ _).cons _)).trans (List.Perm.swap _ _ _)))
        obtain ⟨mL, hnL, hmL⟩ := BL.ns
        simp only [Bool.and_eq_true, beq_iff_eq] at hky
        show wpAny _ A (assign (.Name y py) env (.ref D)) _ _ _
        refine wpAny_assign_Name (wpAny_storeName_local hky.2 hnL (fun h₃ hn₃ hs₃ => ?_) (by rw [hky.1]; rfl))
        have nCL : C ≠ env.locals := fun q => BL.ne (C, (· = oC)) (.tail _ (.head _)) q
        obtain ⟨mC, hnC, _⟩ := B₂.ns
        refine ⟨mC, hnC.extBut hs₃.extBut nCL, fun h₄ hs₄ => ?_⟩
        refine done g' ys D h₄ _ kg j fun l' u => ?_
        cases u with
        | name st =>
          have BL₃ := BL.sto st hmL hn₃ hs₃
          have nd₃ := BL₃.hp.nd
          have BL₄ : Bd g' env.locals l' ((D, lst ys) :: M) h₃ := BL₃.sub ((List.sublist_cons_self _ _).cons_cons _)
          obtain ⟨m₄, x₄, y₄⟩ := BL₄.ns
          have ndm : ∀ p ∈ ((D, lst ys) :: M), p.1 ≠ C := by
            intro p hp q
            simp only [List.map_cons, List.nodup_cons, List.mem_cons, not_or] at nd₃
            rcases List.mem_cons.mp hp with rfl | hp
            · exact nd₃.1.1 q
            · exact nd₃.2.1 (List.mem_map.mpr ⟨p, hp, q⟩)
          exact ⟨⟨m₄, x₄.sameBut hs₄ (Ne.symm nCL), y₄⟩, BL₄.off, BL₄.ne, BL₄.hp.sameBut B₂.off ndm hs₄⟩
  exact codeAny_compStart_list (loop _) (W.self 0 _ _ _ hst₁ (loop _))

/-! ### where the items come from -/
theorem xLC {elt target iter : Expr} {ifs : List Expr} {scope : Scope} {Q : Value → Shared → Prop} {s : Shared} (cl : List (Str × Addr)) (hclos : closureFor scope env = pure cl) (hkind : scope.kind = .function)
    (hnames : (scope.names.all fun y => y.2 != .local || decide (scope.names.lookup y.1 = some .local)) = true) (hs : ∀ x, foldedSetIterable iter env x = pure x)
    (q : wpAny (model prog w) A (eval iter env) (fun xv s₁ => wpAny (model prog w) A (pyIter xv) (LcK (model prog w) A E env (.ListComp elt [⟨target, iter, ifs, 0⟩] scope pos) scope cl none Q) E s₁) E s) :
    wpAny (model prog w) A (eval (.ListComp elt [⟨target, iter, ifs, 0⟩] scope pos) env) Q E s := by
  rw [eval_ListComp]
  exact wpAny_comprehension_free (use := none) rfl hs hclos hkind (fun y hy hl => by have := List.all_eq_true.mp hnames y hy; rw [hl] at this; simpa using this) q
theorem sLC {elt target iter : Expr} {ifs : List Expr} {scope : Scope} {y : Str} {py spos : Pos} {Q : Flow → Shared → Prop} {s : Shared} (cl : List (Str × Addr))
    (hsw : swapsWith (.ListComp elt [⟨target, iter, ifs, 0⟩] scope pos) (some (.Name y py)) spos.line env = pure true) (hclos : closureFor scope env = pure cl) (hkind : scope.kind = .function)
    (hnames : (scope.names.all fun y => y.2 != .local || decide (scope.names.lookup y.1 = some .local)) = true) (hs : ∀ x, foldedSetIterable iter env x = pure x)
    (q : wpAny (model prog w) A (eval iter env) (fun xv s₁ => wpAny (model prog w) A (pyIter xv) (LcK (model prog w) A E env (.ListComp elt [⟨target, iter, ifs, 0⟩] scope pos) scope cl (some (y, py)) (fun _ => Q .next)) E s₁) E s) :
    wpAny (model prog w) A (exec (.Assign [.Name y py] (.ListComp elt [⟨target, iter, ifs, 0⟩] scope pos) spos) env) Q E s := by
  rw [exec_Assign_Name_used _ _ _ _ hsw]
  refine wpAny_bind (wpAny_standAt (wpAny_bind ?_))
  show wpAny _ A (do let _ ← comprehension (.ListComp elt [⟨target, iter, ifs, 0⟩] scope pos) scope env _ (newList []) false (eval iter env) (some (assign (.Name y py) env))) _ _ s
  refine wpAny_bind (wpAny_mono (wpAny_comprehension_free (use := some (assign (.Name y py) env)) (Q := fun _ s' => Q .next s') rfl hs hclos hkind (fun y hy hl => by have := List.all_eq_true.mp hnames y hy; rw [hl] at this; simpa using this) q) (fun _ _ hq => wpAny_pure (wpAny_pure hq)) fun _ _ e => e)

variable {elt iter : Expr} {ifs : List Expr} {scope : Scope} {cl : List (Str × Addr)} {use : Option (Str × Pos)} {Q : Value → Shared → Prop} {px : Pos} {a : Addr} {vs : List Value}
def locOk (scope : Scope) (env : Env) (cl : List (Str × Addr)) (x : Str) : Prop := ∀ C, ((compEnvC scope cl C env).scope.kind == .function && (compEnvC scope cl C env).kindOf x == some .local) = true
/-- a frozen list, one name -/
theorem lcL (hh : A.handled = none) (b : Bd g L l M h) (hl : IsL g a vs) (hz : vs.length ≤ 1000000) (hcell : (scope.names.all fun y => y.2 != .cell) = true) (hkind : scope.kind = .function) (hL : env.locals = L) (hu : useOk env use)
    (hx : locOk scope env cl x) (J : Nat → Heap → List Value → Prop) (j0 : J 0 g []) (jn : ∀ i g' ys, J i g' ys → ys.length ≤ i)
    (turn : ∀ i v g' ys h' tk' C D I o oL (E : Value → Shared → Prop), vs[i]? = some v → Kp g g' → J i g' ys → Bd g' C [(x, v)] ((I, (· = o)) :: (D, lst ys) :: (L, (· = oL)) :: M) h' →
      LcT (model prog w) A (compEnvC scope cl C env) elt ifs (LcE gs dr os g' C I D L o oL ys M (J (i + 1))) ys E ⟨h', gs, dr, tk', os⟩)
    (done : ∀ g' ys D h' tk', Kp g g' → J vs.length g' ys → (∀ l', UseR D use l l' → Bd g' L l' ((D, lst ys) :: M) h') → UseQ use Q D ⟨h', gs, dr, tk', os⟩) :
    wpAny (model prog w) A (pyIter (.ref a)) (LcK (model prog w) A E env (.ListComp elt [⟨.Name x px, iter, ifs, 0⟩] scope pos) scope cl use Q) E ⟨h, gs, dr, tk, os⟩ := by
  have hl' := hl.up b.keep
  refine wpAny_pyIter_list hl'.list ?_
  obtain ⟨oa, ha, _⟩ := id hl
  have hne : a ≠ h.objs.size := Nat.ne_of_lt (Heap.lt_size (b.keep _ _ ha))
  refine lcBlock (Walks.list hh _ a hne vs.toArray) (by simpa using hz) (Po := fun _ => True) (fun i h st => let ⟨o, e, _⟩ := st.1; ⟨o, e, trivial⟩) (fun i h₁ h₂ o g' st e1 e2 k H => ⟨st.1.at fun o' e => by rw [e1] at e; cases e; exact e2, (hl.up (k.tr H.keep)).list⟩)
    hcell hkind hL hu b (Kp.push _ _) (fresh_size h) ⟨⟨_, Heap.get?_push_size _ rfl, rfl, rfl⟩, hl'.list.push _⟩ J j0 jn (fun i v g' ys h' tk' C D o oL E hi hP _ kg j B => ?_) (fun g' ys D h' tk' kg j hb => done g' ys D h' tk' kg (by simpa using j) hb)
  exact asgNK (hx C) rfl B fun h'' tk'' hb => turn i v g' ys h'' tk'' C D _ o oL E (by simpa using hP) kg j (hb _ .nil)
/-- a list among the mutable objects, one name -/
theorem lcLM (hh : A.handled = none) (b : Bd g L l M h) (hl : (a, lst vs) ∈ M) (hz : vs.length ≤ 1000000) (hcell : (scope.names.all fun y => y.2 != .cell) = true) (hkind : scope.kind = .function) (hL : env.locals = L) (hu : useOk env use)
    (hx : locOk scope env cl x) (J : Nat → Heap → List Value → Prop) (j0 : J 0 g []) (jn : ∀ i g' ys, J i g' ys → ys.length ≤ i)
    (turn : ∀ i v g' ys h' tk' C D I o oL (E : Value → Shared → Prop), vs[i]? = some v → Kp g g' → J i g' ys → Bd g' C [(x, v)] ((I, (· = o)) :: (D, lst ys) :: (L, (· = oL)) :: M) h' →
      LcT (model prog w) A (compEnvC scope cl C env) elt ifs (LcE gs dr os g' C I D L o oL ys M (J (i + 1))) ys E ⟨h', gs, dr, tk', os⟩)
    (done : ∀ g' ys D h' tk', Kp g g' → J vs.length g' ys → (∀ l', UseR D use l l' → Bd g' L l' ((D, lst ys) :: M) h') → UseQ use Q D ⟨h', gs, dr, tk', os⟩) :
    wpAny (model prog w) A (pyIter (.ref a)) (LcK (model prog w) A E env (.ListComp elt [⟨.Name x px, iter, ifs, 0⟩] scope pos) scope cl use Q) E ⟨h, gs, dr, tk, os⟩ := by
  have hl' := b.hp.lst hl
  refine wpAny_pyIter_list hl'.list ?_
  obtain ⟨oa, ha, _⟩ := id hl'
  have hne : a ≠ h.objs.size := Nat.ne_of_lt (Heap.lt_size ha)
  refine lcBlock (Walks.list hh _ a hne vs.toArray) (by simpa using hz) (Po := fun _ => True) (fun i h st => let ⟨o, e, _⟩ := st.1; ⟨o, e, trivial⟩) (fun i h₁ h₂ o g' st e1 e2 k H => ⟨st.1.at fun o' e => by rw [e1] at e; cases e; exact e2, (H.lst hl).list⟩)
    hcell hkind hL hu b (Kp.push _ _) (fresh_size h) ⟨⟨_, Heap.get?_push_size _ rfl, rfl, rfl⟩, hl'.list.push _⟩ J j0 jn (fun i v g' ys h' tk' C D o oL E hi hP _ kg j B => ?_) (fun g' ys D h' tk' kg j hb => done g' ys D h' tk' kg (by simpa using j) hb)
  exact asgNK (hx C) rfl B fun h'' tk'' hb => turn i v g' ys h'' tk'' C D _ o oL E (by simpa using hP) kg j (hb _ .nil)
/-- a list among the mutable objects, pairs -/
theorem lcPM {py tpos : Pos} {kk : Nat} (hh : A.handled = none) (b : Bd g L l M h) (hl : (a, lst vs) ∈ M) (hz : vs.length ≤ 1000000) (hT : ∀ (i : Nat) (v : Value), vs[i]? = some v → ∃ T v1 v2, v = Value.ref T ∧ IsT g T [v1, v2]) (hcell : (scope.names.all fun y => y.2 != .cell) = true) (hkind : scope.kind = .function) (hL : env.locals = L) (hu : useOk env use)
    (hx : locOk scope env cl x) (hy : locOk scope env cl y) (hxy : (x == y) = false) (J : Nat → Heap → List Value → Prop) (j0 : J 0 g []) (jn : ∀ i g' ys, J i g' ys → ys.length ≤ i)
    (turn : ∀ i T v1 v2 g' ys h' tk' C D I o oL (E : Value → Shared → Prop), vs[i]? = some (.ref T) → IsT g T [v1, v2] → Kp g g' → J i g' ys → Bd g' C [(x, v1), (y, v2)] ((I, (· = o)) :: (D, lst ys) :: (L, (· = oL)) :: M) h' →
      LcT (model prog w) A (compEnvC scope cl C env) elt ifs (LcE gs dr os g' C I D L o oL ys M (J (i + 1))) ys E ⟨h', gs, dr, tk', os⟩)
    (done : ∀ g' ys D h' tk', Kp g g' → J vs.length g' ys → (∀ l', UseR D use l l' → Bd g' L l' ((D, lst ys) :: M) h') → UseQ use Q D ⟨h', gs, dr, tk', os⟩) :
    wpAny (model prog w) A (pyIter (.ref a)) (LcK (model prog w) A E env (.ListComp elt [⟨.Tuple [.Name x px, .Name y py] kk tpos, iter, ifs, 0⟩] scope pos) scope cl use Q) E ⟨h, gs, dr, tk, os⟩ := by
  have hl' := b.hp.lst hl
  refine wpAny_pyIter_list hl'.list ?_
  obtain ⟨oa, ha, _⟩ := id hl'
  have hne : a ≠ h.objs.size := Nat.ne_of_lt (Heap.lt_size ha)
  refine lcBlock (Walks.list hh _ a hne vs.toArray) (by simpa using hz) (Po := fun o => o.cls = .type "list_iterator") (fun i h st => let ⟨o, e, c, _⟩ := st.1; ⟨o, e, c⟩) (fun i h₁ h₂ o g' st e1 e2 k H => ⟨st.1.at fun o' e => by rw [e1] at e; cases e; exact e2, (H.lst hl).list⟩)
    hcell hkind hL hu b (Kp.push _ _) (fresh_size h) ⟨⟨_, Heap.get?_push_size _ rfl, rfl, rfl⟩, hl'.list.push _⟩ J j0 jn (fun i v g' ys h' tk' C D o oL E hi hP po kg j B => ?_) (fun g' ys D h' tk' kg j hb => done g' ys D h' tk' kg (by simpa using j) hb)
  have hv : vs[i]? = some v := by simpa using hP
  obtain ⟨T, v1, v2, rfl, ht⟩ := hT i v hv
  exact asgPK hh po B (kg _ _ ht) (hx C) (hy C) rfl fun h'' tk'' hb => turn i T v1 v2 g' ys h'' tk'' C D _ o oL E hv ht kg j (hb _ _ .nil (.miss hxy .nil))
/-- a text -/
theorem lcS {z : Str} {t : Tok} (hh : A.handled = none) (b : Bd g L l M h) (ha : z.cps.all (· < 128) = true) (hz : z.cps.size ≤ 1000000) (hcell : (scope.names.all fun y => y.2 != .cell) = true) (hkind : scope.kind = .function) (hL : env.locals = L) (hu : useOk env use)
    (hx : locOk scope env cl x) (J : Nat → Heap → List Value → Prop) (j0 : J 0 g []) (jn : ∀ i g' ys, J i g' ys → ys.length ≤ i)
    (turn : ∀ (i : Nat) (c : Nat) u g' ys h' tk' C D I o oL (E : Value → Shared → Prop), z.cps[i]? = some c → Kp g g' → J i g' ys → Bd g' C [(x, .str ⟨#[c]⟩ u)] ((I, (· = o)) :: (D, lst ys) :: (L, (· = oL)) :: M) h' →
      LcT (model prog w) A (compEnvC scope cl C env) elt ifs (LcE gs dr os g' C I D L o oL ys M (J (i + 1))) ys E ⟨h', gs, dr, tk', os⟩)
    (done : ∀ g' ys D h' tk', Kp g g' → J z.cps.size g' ys → (∀ l', UseR D use l l' → Bd g' L l' ((D, lst ys) :: M) h') → UseQ use Q D ⟨h', gs, dr, tk', os⟩) :
    wpAny (model prog w) A (pyIter (.str z t)) (LcK (model prog w) A E env (.ListComp elt [⟨.Name x px, iter, ifs, 0⟩] scope pos) scope cl use Q) E ⟨h, gs, dr, tk, os⟩ := by
  refine wpAny_pyIter_ascii ha ?_
  refine lcBlock (Walks.strAscii hh _ z t) hz (Po := fun _ => True) (fun i h st => let ⟨o, e, _⟩ := st; ⟨o, e, trivial⟩) (fun i h₁ h₂ o g' st e1 e2 k H => let ⟨o', e, r⟩ := st; ⟨o', by rw [e1] at e; cases e; exact e2, r⟩)
    hcell hkind hL hu b (Kp.push _ _) (fresh_size h) ⟨_, Heap.get?_push_size _ rfl, rfl, rfl⟩ J j0 jn (fun i v g' ys h' tk' C D o oL E hi hP _ kg j B => ?_) done
  obtain ⟨c, u, hc, rfl⟩ := hP
  exact asgNK (hx C) rfl B fun h'' tk'' hb => turn i c u g' ys h'' tk'' C D _ o oL E hc kg j (hb _ .nil)
/-- a range -/
theorem lcR {r : Addr} {i0 i1 c : Int} {t0 u0 v0 : Tok} {n : Nat} (hh : A.handled = none) (b : Bd g L l M h) (hr : IsRange h r i0 i1 c t0 u0 v0) (hs : Builtin.Range.small i0 i1 c = true) (hn : Builtin.Range.rangeSize i0 i1 c = (n : Int)) (hz : n ≤ 1000000)
    (hcell : (scope.names.all fun y => y.2 != .cell) = true) (hkind : scope.kind = .function) (hL : env.locals = L) (hu : useOk env use)
    (hx : locOk scope env cl x) (J : Nat → Heap → List Value → Prop) (j0 : J 0 g []) (jn : ∀ i g' ys, J i g' ys → ys.length ≤ i)
    (turn : ∀ i t g' ys h' tk' C D I o oL (E : Value → Shared → Prop), i < n → Kp g g' → J i g' ys → Bd g' C [(x, .int (i0 + i * c) t)] ((I, (· = o)) :: (D, lst ys) :: (L, (· = oL)) :: M) h' →
      LcT (model prog w) A (compEnvC scope cl C env) elt ifs (LcE gs dr os g' C I D L o oL ys M (J (i + 1))) ys E ⟨h', gs, dr, tk', os⟩)
    (done : ∀ g' ys D h' tk', Kp g g' → J n g' ys → (∀ l', UseR D use l l' → Bd g' L l' ((D, lst ys) :: M) h') → UseQ use Q D ⟨h', gs, dr, tk', os⟩) :
    wpAny (model prog w) A (pyIter (.ref r)) (LcK (model prog w) A E env (.ListComp elt [⟨.Name x px, iter, ifs, 0⟩] scope pos) scope cl use Q) E ⟨h, gs, dr, tk, os⟩ := by
  refine wpAny_pyIter_range hr hs ?_
  refine lcBlock (Walks.range hh _ i0 c n) hz (Po := fun _ => True) (fun i h st => ⟨_, st, trivial⟩) (fun i h₁ h₂ o g' st e1 e2 k H => by show h₂.get? _ = _; rw [e2, ← e1]; exact st)
    hcell hkind hL hu b (Kp.push _ _) (fresh_size h) (by show IsRangeIter _ _ _ _ _; rw [hn]; simpa using Heap.get?_push_size _ rfl) J j0 jn (fun i v g' ys h' tk' C D o oL E hi hP _ kg j B => ?_) done
  obtain ⟨t, rfl⟩ := hP
  exact asgNK (hx C) rfl B fun h'' tk'' hb => turn i t g' ys h'' tk'' C D _ o oL E hi kg j (hb _ .nil)
/-- a turn without a test, and with one -/
theorem LcT.bare {M : Model} {EndY : List Value → Shared → Prop} {ys : List Value} {s : Shared} (q : wpAny M A (eval elt env) (fun y s₄ => EndY (ys ++ [y]) s₄) E s) : LcT M A env elt [] EndY ys E s := by
  unfold LcT lcTests; dsimp only; rw [if_pos rfl]; exact q
theorem LcT.test {M : Model} {c : Expr} {EndY : List Value → Shared → Prop} {ys : List Value} {s : Shared} (q : wpAny M A (isTrue c env (eval c env)) (fun ok s₃ => if ok = true then wpAny M A (eval elt env) (fun y s₄ => EndY (ys ++ [y]) s₄) E s₃ else EndY ys s₃) E s) : LcT M A env elt [c] EndY ys E s := q
end
end Mine
open PySem PySem.W PyProof.Rows
set_option Elab.async false
set_option maxRecDepth 100000
namespace Mine
section
variable {prog : Program} {w : World} {A : Around} {E : Value → Shared → Prop} {env : Env} {g h : Heap} {L : Addr} {l : List (Str × Value)} {M M' : List (Addr × (Obj → Prop))}
  {gs : Array GenState} {dr : Drawn} {tk : Nat} {os : OsState} {x y : Str} {pos : Pos} {v : Value} {c a : Addr} {t u : Tok} {vs : List Value} {K : Frag} {mb : Str → Option Value}
/-! ## what the frozen part alone tells -/
theorem mPeek {self f : Value} {fs : List Value} {name : Str} {pl} {Q : Value × List Value → Shared → Prop} (W : Wld K mb g) (k : Kp g h) (e : ∀ S, peek K S (getMethod self name pl) = some (f, fs)) (q : Q (f, fs) ⟨h, gs, dr, tk, os⟩) :
    wpAny (model prog w) A (getMethod self name pl) Q E ⟨h, gs, dr, tk, os⟩ := (Looks.of_peek (W.kin.keeps k) (e _)).here q
theorem call_peek {i : String} {b : Builtin} {vs : List Value} {r : Value} {Q : Value → Shared → Prop} (hp : plainId i = true) (he : entryFor table i = some b) (W : Wld K mb g) (k : Kp g h)
    (hc : ∀ S, peek K S (checkBuiltinCall i ⟨vs, []⟩) = some ()) (e : ∀ S, peek K S (b ⟨vs, []⟩) = some (.done (.ret r))) (q : Q r ⟨h, gs, dr, tk, os⟩) : wpAny (model prog w) A (call (.builtin i) vs []) Q E ⟨h, gs, dr, tk, os⟩ := by
  refine wpAny_call (codeAny_call_builtin hp he ((Looks.of_peek (W.kin.keeps k) (hc _)).here ?_))
  exact (Looks.of_peek (W.kin.keeps k) (e _)).here q
/-! ## own instances -/
structure Tab (g : Heap) (C T H : Addr) : Prop where
  is : ∃ dx hs tk n, g.get? T = some (instObj C dx) ∧ g.get? dx = some (dictOf [⟨hs, .str (Str.ofString "_headers") tk, .ref H⟩] n)
theorem Tab.up {g g' : Heap} {C T H : Addr} (x : Tab g C T H) (k : Kp g g') : Tab g' C T H := let ⟨dx, hs, tk, n, a, b⟩ := x.is; ⟨dx, hs, tk, n, k _ _ a, k _ _ b⟩
variable {C T H : Addr}
theorem mInst {name : Str} {pl} {f : Addr} {Q : Value × List Value → Shared → Prop} (W : Wld K mb g) (k : Kp g h) (t : Tab g C T H) (hg : plainGet K C name = true)
    (hf : findIn K (.ref C) name = some (some (.ref f))) (ht : isFn K (.ref f) = true) (hn : (name == Str.ofString "_headers") = false) (q : Q (.ref f, [.ref T]) ⟨h, gs, dr, tk, os⟩) : wpAny (model prog w) A (getMethod (.ref T) name pl) Q E ⟨h, gs, dr, tk, os⟩ := by
  obtain ⟨dx, hs, tk', n, e1, e2⟩ := t.is
  refine method_fn (od := some (dictOf [⟨hs, .str (Str.ofString "_headers") tk', .ref H⟩] n)) (W.kin.keeps k) ⟨k _ _ e1, rfl, rfl, k _ _ e2⟩ (plainGet_of hg).1 (plainGet_of hg).2 hf (beq_iff_eq.mp ht) ?_ q
  show (lookIn name (dictOf _ n)).map _ = _
  rw [lookIn_dict]
  have e : ((Str.ofString "_headers") == name) = false := by rw [beq_eq_false_iff_ne] at hn ⊢; exact fun q => hn q.symm
  simp [getL, Value.isStr, e, DictEntry.refKey]

theorem gAttr {expr : Bool} {attr : Option Value} {Q : Value → Shared → Prop} (W : Wld K mb g) (k : Kp g h) (t : Tab g C T H) (hg : plainGet K C (Str.ofString "_headers") = true) (hh : hasDictIn K C = true)
    (ha : findIn K (.ref C) (Str.ofString "_headers") = some attr) (hn : noGet K attr = true) (q : ∀ tk', Q (.ref H) ⟨h, gs, dr, tk', os⟩) : wpAny (model prog w) A (getAttr (.ref T) (Str.ofString "_headers") expr) Q E ⟨h, gs, dr, tk, os⟩ := by
  obtain ⟨dx, hs, tk', n, e1, e2⟩ := t.is
  refine get_value (od := some (dictOf [⟨hs, .str (Str.ofString "_headers") tk', .ref H⟩] n)) (v := .ref H) (W.kin.keeps k) ⟨k _ _ e1, rfl, rfl, k _ _ e2⟩ (plainGet_of hg).1 (findObj_own hh ha hn ?_) rfl (q _)
  rw [lookIn_dict]
  rfl
theorem xAttrN {n attr : Str} {np : Pos} {Q : Value → Shared → Prop} {s : Shared} (q : wpAny (model prog w) A (eval (.Name n np) env) (fun o s₁ => wpAny (model prog w) A (getAttr o attr true) Q E s₁) E s) :
    wpAny (model prog w) A (eval (.Attribute (.Name n np) attr pos) env) Q E s := Attribute_name q
theorem oSetA {name : Str} {dx : Addr} {od : Obj} {Q : Unit → Shared → Prop} (W : Wld K mb g) (k : Kp g h) (e1 : h.get? T = some (instObj C dx)) (e2 : h.get? dx = some od)
    (hs : findIn K (.ref C) "__setattr__" = some (some (.builtin "object.__setattr__"))) (hp : plainOver K C = true) (ht : takerIn K C name = some none) (hh : (clsIn K C).any (·.hasDict) = true)
    (hl : (lookIn name od).isSome = true) (e' : ∀ tk, ∃ es n, (Obj.putName name (PyData.keyHash w.params name) (.str name tk) v od).data = .dict (List.toArray es) n ∧ es.length ≤ 1000) (hf : ∀ tk, (Obj.putName name (PyData.keyHash w.params name) (.str name tk) v od).isFreed = false)
    (q : ∀ h' tk' tk'', Heap.ExtBut dx h h' → h'.get? dx = some (Obj.putName name (PyData.keyHash w.params name) (.str name tk'') v od) → Q () ⟨h', gs, dr, tk', os⟩) : wpAny (model prog w) A (setAttr (.ref T) name v) Q E ⟨h, gs, dr, tk, os⟩ := by
  have X := W.kin.keeps k
  have I : InstAt h T (instObj C dx) C (some od) := ⟨e1, rfl, rfl, e2⟩
  refine set_plain X I hs ?_
  refine osa_open (s := ⟨h, gs, dr, tk + 1, os⟩) X I hp ht fun b => ?_
  obtain ⟨cd, hc, hd'⟩ := any_some hh
  have D := e2
  obtain ⟨es, n, e', hz⟩ := e' (tk + 1)
  have D' : (h.update dx (Obj.putName name (PyData.keyHash w.params name) (.str name (tk + 1)) v)).get? dx = some (Obj.putName name (PyData.keyHash w.params name) (.str name (tk + 1)) v od) := Heap.get?_update_self _ D (hf _)
  refine wpAny_bind (wpAny_pure (wpAny_bind (wpAny_bind (wpAny_loadPart e1 (wpAny_bind ((looks_clsIn X hc).here ?_))))))
  rw [hd']
  refine wpAny_pure (a := some dx) (wpAny_bind (wpAny_pure (wpAny_bind ?_)))
  unfold nsSet
  refine wpAny_bind (wpAny_bind (wpAny_askSetting (wpAny_pure (wpAny_bind (wpAny_mkText (wpAny_bind (wpAny_loadPart D ?_)))))))
  unfold lookIn at hl
  split at hl
  · rename_i es₀ n₀ qd
    rw [qd]
    dsimp only
    have c : (!es₀.any (·.key.isStr name) && es₀.any (·.refKey)) = false := by
      rw [← Array.any_toList, ← Array.any_toList]
      split at hl
      · rename_i en he
        rw [List.any_eq_true.mpr ⟨en, List.mem_of_find?_eq_some he, List.find?_some he⟩]; rfl
      · split at hl
        · cases hl
        · rename_i z; rw [Bool.not_eq_true] at z; rw [z, Bool.and_false]
    rw [aRefKeyMayBeTheName_at, c]
    refine wpAny_updatePart D ?_
    refine wpAny_bind (wpAny_lookBehind D' (by rw [e']; exact pastItsLine_dict (by rw [List.size_toArray, sizeLine_eq]; omega)) ?_)
    exact wpAny_pure (q _ _ _ (Heap.SameBut.update _ _ _).extBut D')
  · cases hl
theorem sSetA {o attr pos' value} {Q : Flow → Shared → Prop} {s : Shared} (hs : swapsWith value (some (.Attribute o attr pos')) pos.line env = pure false)
    (q : wpAny (model prog w) A (eval value env) (fun v s₁ => wpAny (model prog w) A (eval o env) (fun ov s₂ => wpAny (model prog w) A (setAttr ov attr v) (fun _ => Q .next) E s₂) E s₁) E s) :
    wpAny (model prog w) A (exec (.Assign [.Attribute o attr pos'] value pos) env) Q E s := plainObj_wpAny_Assign_Attribute q hs
theorem sSetI {o i pos' value} {Q : Flow → Shared → Prop} {s : Shared} (hs : swapsWith value (some (.Subscript o i pos')) pos.line env = pure false)
    (q : wpAny (model prog w) A (eval value env) (fun v s₁ => wpAny (model prog w) A (eval o env) (fun ov s₂ => wpAny (model prog w) A (eval i env) (fun iv s₃ => wpAny (model prog w) A (setItem ov iv v) (fun _ => Q .next) E s₃) E s₂) E s₁) E s) :
    wpAny (model prog w) A (exec (.Assign [.Subscript o i pos'] value pos) env) Q E s := wpAny_Assign_Subscript q hs
theorem Tab.inst {h : Heap} (t : Tab h C T H) : ∃ dx od, InstAt h T (instObj C dx) C (some od) := let ⟨_, _, _, _, e1, e2⟩ := t.is; ⟨_, _, e1, rfl, rfl, e2⟩
theorem oSetI {i : Value} {f : Addr} {Q : Unit → Shared → Prop} (W : Wld K mb g) (k : Kp g h) (t : Tab g C T H) (hq : noSeq K C = true) (hs : findIn K (.ref C) "__setitem__" = some (some (.ref f))) (hf : isFn K (.ref f) = true)
    (q : wpAny (model prog w) A (call (.ref f) [.ref T, i, v] []) (fun _ s' => Q () s') E ⟨h, gs, dr, tk, os⟩) : wpAny (model prog w) A (setItem (.ref T) i v) Q E ⟨h, gs, dr, tk, os⟩ := by
  obtain ⟨dx, od, I⟩ := (t.up k).inst
  have X := W.kin.keeps k
  unfold setItem sequenceKey
  refine wpAny_holding (wpAny_bind (wpAny_bind (I.type.here ?_)))
  refine wpAny_bind ((anyM_none X hq).here ?_)
  rw [if_pos (show (!false) = true from rfl)]
  exact wpAny_pure (wpAny_bind (special_fn X I hs (beq_iff_eq.mp hf) (wpAny_mono q (fun _ _ z => wpAny_pure z) fun _ _ z => z)))
theorem oDelI {i : Value} {f : Addr} {Q : Unit → Shared → Prop} (W : Wld K mb g) (k : Kp g h) (t : Tab g C T H) (hq : noSeq K C = true) (hs : findIn K (.ref C) "__delitem__" = some (some (.ref f))) (hf : isFn K (.ref f) = true)
    (q : wpAny (model prog w) A (call (.ref f) [.ref T, i] []) (fun _ s' => Q () s') E ⟨h, gs, dr, tk, os⟩) : wpAny (model prog w) A (delItem (.ref T) i) Q E ⟨h, gs, dr, tk, os⟩ := by
  obtain ⟨dx, od, I⟩ := (t.up k).inst
  have X := W.kin.keeps k
  unfold delItem sequenceKey
  refine wpAny_holding (wpAny_bind (wpAny_bind (I.type.here ?_)))
  refine wpAny_bind ((anyM_none X hq).here ?_)
  rw [if_pos (show (!false) = true from rfl)]
  exact wpAny_pure (wpAny_bind (special_fn X I hs (beq_iff_eq.mp hf) (wpAny_mono q (fun _ _ z => wpAny_pure z) fun _ _ z => z)))
/-- a new instance, by its __init__ -/
theorem oMake {fI : Addr} {rest : List Value} {kw : List (Str × Value)} {P : Value → Heap → Prop} {Q : Value → Shared → Prop} (W : Wld K mb g) (k : Kp g h) (hm : makesIn K C = true)
    (hi : findIn K (.ref C) "__init__" = some (some (.ref fI))) (hf : typeIn K (.ref fI) = some (.type "function"))
    (ci : ∀ x dx h', Kp h h' → h.get? x = none → h.get? dx = none → h'.get? x = some (instObj C dx) → h'.get? dx = some emptyDict → dx ≠ x →
      codeAny (model prog w) (A.under (.builtin "type.__call__" ⟨.ref C :: rest, kw⟩)) (.call (.ref fI) ⟨.ref x :: rest, kw⟩) (Rt gs dr os fun v h'' => v = .none ∧ P (.ref x) h'') ⟨h', gs, dr, tk, os⟩)
    (q : ∀ v h' tk', P v h' → Q v ⟨h', gs, dr, tk', os⟩) : wpAny (model prog w) A (call (.ref C) rest kw) Q E ⟨h, gs, dr, tk, os⟩ := by
  have X := W.kin.keeps k
  refine wpAny_call ?_
  refine make_core (makes_of X hm) (looks_findIn X hi) (fun self => bind_fn X self hf) (.inl rfl) ?_
  have hx : ((h.push emptyDict).push (instObj C h.objs.size)).get? (h.objs.size + 1) = some (instObj C h.objs.size) := by heap_get
  have hdx : ((h.push emptyDict).push (instObj C h.objs.size)).get? h.objs.size = some emptyDict := by heap_get
  refine codeAny_mono (ci _ h.objs.size _ (fun b o e => Heap.get?_push_of_some _ (Heap.get?_push_of_some _ e)) ?_ (fresh_size h) hx hdx (Nat.ne_of_lt (Nat.lt_succ_self _))) fun r s' hr => ?_
  · cases e : h.get? (h.objs.size + 1) with
    | none => rfl
    | some o => exact absurd (Heap.lt_size e) (Nat.not_lt.mpr (Nat.le_succ _))
  · obtain ⟨v, rfl, h', tk', rfl, rfl, p⟩ := hr
    exact ⟨rfl, q _ _ _ p⟩
/-- a method's call with one keyword -/
def MQk (M : Model) (A : Around) (env : Env) (pos : Pos) (args : List Expr) (kws : List Keyword) (Q : Value → Shared → Prop) (E : Value → Shared → Prop) (fx : Value × List Value) (s : Shared) : Prop := wpAny M A (callWith pos fx.1 fx.2 (backTo pos (starEach args env)) (backToKw pos (keywordEach kws env))) Q E s
theorem rMethK {o : Expr} {name : Str} {apos : Pos} {args : List Expr} {kws : List Keyword} {pl : Sem Bool} {Q : Value → Shared → Prop} {s : Shared}
    (he : eval (.Call (.Attribute o name apos) args kws pos) env = (do
      let ov ← eval o env
      standAt apos.atName
      let (f, first) ← holding [ov] (getMethod ov name pl)
      callWith pos f first (backTo pos (starEach args env)) (backToKw pos (keywordEach kws env))))
    (q : wpAny (model prog w) A (eval o env) (fun ov s₁ => wpAny (model prog w) A (getMethod ov name pl) (MQk (model prog w) A env pos args kws Q E) E s₁) E s) :
    wpAny (model prog w) A (eval (.Call (.Attribute o name apos) args kws pos) env) Q E s := methodCall_KW q he
theorem mqFk {f : Addr} {ov : Value} {args : List Expr} {kn : Str} {e : Expr} {kp : Pos} {Q : Value → Shared → Prop} {s : Shared} (W : Wld K mb g) (hf : fnIn K f = true) (hn : (starEach args env).any (·.1) = false)
    (q : wpAny (model prog w) A (spliced (starEach args env)) (fun vs s₁ => wpAny (model prog w) A (eval e env) (fun v s₂ => Kp g s₂.heap ∧ wpAny (model prog w) A (call (.ref f) (ov :: vs) [(kn, v)]) Q E s₂) E s₁) E s) : MQk (model prog w) A env pos args [⟨some kn, e, kp⟩] Q E (.ref f, [ov]) s :=
  cwk hn (keepFn hf) (wpAny_mono q (fun vs s₁ h₁ => wpAny_mono h₁ (fun v s₂ h₂ => ⟨W.kin.keeps h₂.1, h₂.2⟩) fun _ _ e => e) fun _ _ e => e)
theorem ttDebug {px : Pos} {Q : Bool → Shared → Prop} {s : Shared} (he : isTrue (.Name "__debug__" px) env (eval (.Name "__debug__" px) env) = (do let v ← eval (.Name "__debug__" px) env; standAt px; holding [v] (truthy v))) (q : Q true s) : wpAny (model prog w) A (isTrue (.Name "__debug__" px) env (eval (.Name "__debug__" px) env)) Q E s := by
  refine isTrue_plain ?_ he
  rw [arm_eval_Name]
  refine wpAny_bind (wpAny_standAt ?_)
  show wpAny _ _ debugConstant _ _ _
  exact wpAny_bind (wpAny_rule (wpAny_pure (wpAny_truthy_bool q)))
def ExQ (Q : Flow → Shared → Prop) (v : Value) (s' : Shared) : Prop := match v with | .ref _ => False | _ => Q .next s'
theorem exN {Q : Flow → Shared → Prop} {s : Shared} (q : Q .next s) : ExQ Q .none s := q
theorem sExp {Q : Flow → Shared → Prop} {e : Expr} {s : Shared} (hi : interactive env = false) (hs : swapsWith e none pos.line env = pure false) (q : wpAny (model prog w) A (eval e env) (ExQ Q) E s) : wpAny (model prog w) A (exec (.Expr e pos) env) Q E s :=
  wpAny_Expr q hi hs

/-! ## lists of texts -/
theorem SS.len : ∀ {vs : List Value} {ys : List Str}, StrsAre vs ys → vs.length = ys.length
  | _, _, .nil => rfl
  | _, _, .cons _ _ h => by simp [SS.len h]
theorem SS.at' : ∀ {vs : List Value} {ys : List Str}, StrsAre vs ys → ∀ {i : Nat} {y}, ys[i]? = some y → ∃ t, vs[i]? = some (.str y t)
  | _, _, .nil, _, _, e => by simp at e
  | _, _, .cons y t h, 0, _, e => by simp at e; subst e; exact ⟨t, rfl⟩
  | _, _, .cons y t h, i + 1, _, e => by simp at e ⊢; exact SS.at' h e
theorem SS.append : ∀ {vs : List Value} {ys : List Str} {us zs}, StrsAre vs ys → StrsAre us zs → StrsAre (vs ++ us) (ys ++ zs)
  | _, _, _, _, .nil, h => h
  | _, _, _, _, .cons y t h, h' => .cons y t (SS.append h h')
theorem SS.snoc {vs : List Value} {ys : List Str} {y : Str} {t : Tok} (h : StrsAre vs ys) : StrsAre (vs ++ [.str y t]) (ys ++ [y]) := SS.append h (.cons _ _ .nil)
theorem SS.take : ∀ {vs : List Value} {ys : List Str}, StrsAre vs ys → ∀ n, StrsAre (vs.take n) (ys.take n)
  | _, _, .nil, n => by simp; exact .nil
  | _, _, .cons y t h, 0 => .nil
  | _, _, .cons y t h, n + 1 => .cons y t (SS.take h n)
theorem SS.drop : ∀ {vs : List Value} {ys : List Str}, StrsAre vs ys → ∀ n, StrsAre (vs.drop n) (ys.drop n)
  | _, _, .nil, n => by simp; exact .nil
  | _, _, .cons y t h, 0 => .cons y t h
  | _, _, .cons y t h, n + 1 => by simp; exact SS.drop h n
theorem SS.rev : ∀ {vs : List Value} {ys : List Str}, StrsAre vs ys → StrsAre vs.reverse ys.reverse
  | _, _, .nil => .nil
  | _, _, .cons y t h => by simp; exact SS.snoc (SS.rev h)
theorem SS.vals : ∀ {vs : List Value} {ys : List Str}, StrsAre vs ys → ∃ l : List (Str × Tok), vs = strValues l ∧ l.map (·.1) = ys
  | _, _, .nil => ⟨[], rfl, rfl⟩
  | _, _, .cons y t h => let ⟨l, a, b⟩ := SS.vals h; ⟨(y, t) :: l, by rw [a]; rfl, by rw [List.map_cons, b]⟩
theorem oJoin {D : Addr} {ys : List Str} {Q : Value → Shared → Prop} (hl : IsL h D vs) (hs : StrsAre vs ys) (hok : JoinOk x ys = true) (q : ∀ u tk', Q (.str (Txt.join x ys) u) ⟨h, gs, dr, tk', os⟩) :
    wpAny (model prog w) A (call (.builtin "str.join") [.str x t, .ref D] []) Q E ⟨h, gs, dr, tk, os⟩ := by
  obtain ⟨l, rfl, e⟩ := SS.vals hs
  exact SC.join hl.list e hok fun t' k => q t' k
theorem oInL {ys : List Str} {Q : Value → Shared → Prop} (hl : IsL h a vs) (hs : StrsAre vs ys) (q : Q (.bool (ys.any (· == x))) ⟨h, gs, dr, tk, os⟩) : wpAny (model prog w) A (compareOp .In (.str x t) (.ref a)) Q E ⟨h, gs, dr, tk, os⟩ := in_list_strs hl.list hs q
theorem oNotInL {ys : List Str} {Q : Value → Shared → Prop} (hl : IsL h a vs) (hs : StrsAre vs ys) (q : Q (.bool (!(ys.any (· == x)))) ⟨h, gs, dr, tk, os⟩) : wpAny (model prog w) A (compareOp .NotIn (.str x t) (.ref a)) Q E ⟨h, gs, dr, tk, os⟩ := notin_list_strs hl.list hs q
theorem readsAll_strs : ∀ {vs : List Value} {ys : List Str}, StrsAre vs ys → ReadsAll h vs (ys.map PyData.str) []
  | _, _, .nil => .nil
  | _, _, .cons y t r => by
    have := ReadsAll.cons (Reads.str (h := h) y t) (readsAll_strs r)
    simpa using this
theorem reads_strs {ys : List Str} (hl : IsL h a vs) (hs : StrsAre vs ys) : Reads h (.ref a) (.list (ys.map PyData.str)) [a] := by
  obtain ⟨o, ho, hc, n, hd⟩ := hl.list
  exact Reads.list ho hc hd (by simpa using readsAll_strs hs)
theorem canLayAll0_strs : ∀ ys : List Str, ys.all PyData.strOk = true → PyData.canLayAll0 (ys.map PyData.str) = true
  | [], _ => by simp [PyData.canLayAll0]
  | n :: r, h => by
    rw [List.all_cons, Bool.and_eq_true] at h
    simp [PyData.canLayAll0, PyData.canLay0, canLayAll0_strs r h.2, h.1]
theorem depthAll_strs : ∀ ys : List Str, PyData.depthAll (ys.map PyData.str) ≤ 1
  | [] => by simp [PyData.depthAll]
  | n :: r => by
    have := depthAll_strs r
    simp only [List.map_cons, PyData.depthAll, PyData.depth]
    omega
theorem shaped_strs (ys : List Str) (hok : ys.all PyData.strOk = true) : PySem.SeqAt.shaped (.list (ys.map PyData.str)) = true := by
  have h1 := depthAll_strs ys
  have h2 : PyData.depth (.list (ys.map PyData.str)) ≤ 64 := by simp only [PyData.depth]; omega
  show (PyData.canLay0 (.list (ys.map PyData.str)) && decide (PyData.depth (.list (ys.map PyData.str)) ≤ 64)) = true
  rw [Bool.and_eq_true]
  exact ⟨by simp only [PyData.canLay0]; exact canLayAll0_strs ys hok, decide_eq_true h2⟩
theorem noMix_strs : ∀ ns ms : List Str, PySem.SeqAt.noMixAll (ns.map PyData.str) (ms.map PyData.str) = true
  | [], [] => by simp [PySem.SeqAt.noMixAll]
  | [], _ :: _ => by simp [PySem.SeqAt.noMixAll]
  | _ :: _, [] => by simp [PySem.SeqAt.noMixAll]
  | _ :: r, _ :: q => by simp [PySem.SeqAt.noMixAll, PySem.SeqAt.noMix, noMix_strs r q]
theorem same_strs : ∀ ns ms : List Str, PySem.Spec.sameAll (ns.map PyData.str) (ms.map PyData.str) = (ns == ms)
  | [], [] => by simp [PySem.Spec.sameAll]
  | [], _ :: _ => by simp [PySem.Spec.sameAll]
  | _ :: _, [] => by simp [PySem.Spec.sameAll]
  | n :: r, k :: q => by
    simp only [List.map_cons, PySem.Spec.sameAll, PySem.Spec.same, same_strs r q]
    rfl
theorem oEqL {b : Addr} {us : List Value} {ns ms : List Str} {Q : Value → Shared → Prop} (hl : IsL h a vs) (hi : StrsAre vs ns) (hl' : IsL h b us) (hi' : StrsAre us ms) (hu : A.units + 64 < cLine) (k1 : ns.all PyData.strOk = true) (k2 : ms.all PyData.strOk = true) (q : Q (.bool (ns == ms)) ⟨h, gs, dr, tk, os⟩) :
    wpAny (model prog w) A (compareOp .Eq (.ref a) (.ref b)) Q E ⟨h, gs, dr, tk, os⟩ :=
  eq_dataH_same (reads_strs hl hi) (reads_strs hl' hi') (shaped_strs ns k1) (shaped_strs ms k2) hu (by simp only [PySem.SeqAt.noMix]; exact noMix_strs ns ms) (by simp only [PySem.Spec.same]; rw [same_strs]; exact q)
theorem oNeL {b : Addr} {us : List Value} {ns ms : List Str} {Q : Value → Shared → Prop} (hl : IsL h a vs) (hi : StrsAre vs ns) (hl' : IsL h b us) (hi' : StrsAre us ms) (hu : A.units + 64 < cLine) (k1 : ns.all PyData.strOk = true) (k2 : ms.all PyData.strOk = true) (q : Q (.bool (!(ns == ms))) ⟨h, gs, dr, tk, os⟩) :
    wpAny (model prog w) A (compareOp .NotEq (.ref a) (.ref b)) Q E ⟨h, gs, dr, tk, os⟩ :=
  ne_dataH_same (reads_strs hl hi) (reads_strs hl' hi') (shaped_strs ns k1) (shaped_strs ms k2) hu (by simp only [PySem.SeqAt.noMix]; exact noMix_strs ns ms) (by simp only [PySem.Spec.same]; rw [same_strs]; exact q)
theorem oAddL {b : Addr} {us : List Value} {Q : Value → Shared → Prop} (hl : IsL h a vs) (hl' : IsL h b us) (hz : vs.length + us.length ≤ 1000000) (q : ∀ D h', Kp h h' → h.get? D = none → IsL h' D (vs ++ us) → Q (.ref D) ⟨h', gs, dr, tk, os⟩) :
    wpAny (model prog w) A (binaryOp .Add (.ref a) (.ref b)) Q E ⟨h, gs, dr, tk, os⟩ := by
  obtain ⟨n, e⟩ := hl.plain
  obtain ⟨n', e'⟩ := hl'.plain
  refine P.add_list e e' (q _ _ (Kp.push _ _) (fresh_size h) (IsL.of ⟨0, ?_⟩)) (by rw [List.size_toArray, List.size_toArray]; exact sz_line hz)
  rw [← List.append_toArray]
  exact Heap.get?_push_size _ rfl

/-! ## own types -/
theorem oTypeS {Q : Value → Shared → Prop} (q : Q (.type "str") ⟨h, gs, dr, tk, os⟩) : wpAny (model prog w) A (call (.type "type") [.str x t] []) Q E ⟨h, gs, dr, tk, os⟩ := call_type_of (typeIs_str _ _ _) (by decide) q
theorem oTypeL {Q : Value → Shared → Prop} (hl : IsL h a vs) (q : Q (.type "list") ⟨h, gs, dr, tk, os⟩) : wpAny (model prog w) A (call (.type "type") [.ref a] []) Q E ⟨h, gs, dr, tk, os⟩ := call_type_of (show Shared.TypeIs ⟨h, gs, dr, tk, os⟩ (.ref a) "list" from hl.list.typeIs) (by decide) q
theorem oIsT {X : String} {Q : Value → Shared → Prop} {s : Shared} (q : Q (.bool true) s) : wpAny (model prog w) A (compareOp .Is (.type X) (.type X)) Q E s := by
  have e : (Value.type X == Value.type X) = true := by simp
  exact wpAny_pure (a := Value.bool (Value.type X == Value.type X)) (by rw [e]; exact q)
theorem oNotT {X : String} {Q : Value → Shared → Prop} {s : Shared} (q : Q (.bool false) s) : wpAny (model prog w) A (compareOp .IsNot (.type X) (.type X)) Q E s := isnot_type_same q
theorem oInt {n : Int} {Q : Value → Shared → Prop} (hn : PySem.intText? x = some n) (hl : x.length ≤ 640) (q : ∀ u tk', Q (.int n u) ⟨h, gs, dr, tk', os⟩) : wpAny (model prog w) A (call (.type "int") [.str x t] []) Q E ⟨h, gs, dr, tk, os⟩ := KIN.call_text hn hl (q _ _)
theorem oStrI {n : Int} {Q : Value → Shared → Prop} (ha : n.natAbs.log2 < 1920) (q : ∀ u tk', Q (.str (Str.ofString (toString n)) u) ⟨h, gs, dr, tk', os⟩) : wpAny (model prog w) A (call (.type "str") [.int n t] []) Q E ⟨h, gs, dr, tk, os⟩ := P.str_of_int ha (q _ _)
theorem oLow {Q : Value → Shared → Prop} (hz : x.length ≤ 1000) (q : ∀ u tk', Q (.str (Txt.lower x) u) ⟨h, gs, dr, tk', os⟩) : wpAny (model prog w) A (call (.builtin "str.lower") [.str x t] []) Q E ⟨h, gs, dr, tk, os⟩ := by
  refine call_gives F.slot_str_lower (typeIs_str _ _ _) F.entry_str_lower (F.args_str_lower_1 _) (gives_str_lower x t (fit_lower (by omega))) ?_
  exact ⟨fit_le (fit_lower (by omega)), q _ _⟩
theorem ttN {Q : Bool → Shared → Prop} {s : Shared} (q : Q false s) : wpAny (model prog w) A (truthy .none) Q E s := PyProof.Rows.truthy_none q

/-! ## all of a list at once -/
theorem lst_map {c : Value} {xs : Array Value} {n : Nat} {sl : Array (Option Value)} (f : Array Value → Array Value) (hf : f xs = us.toArray) (hc : c = .type "list" := by rfl) (hs : sl = #[] := by rfl) : lst us (Obj.mapSeq f { cls := c, dict := none, data := .seq xs n, slots := sl }) := by
  subst hc hs
  unfold Obj.mapSeq lst
  dsimp only
  rw [hf]
  exact ⟨_, rfl⟩
theorem oSetSl {sl b : Addr} {us : List Value} {Q : Unit → Shared → Prop} (hl : IsL h a vs) (hb : IsL h b us) (hab : a ≠ b) (hc : h.IsSliceOf sl .none .none .none) (hz : vs.length ≤ 1000) (hz' : us.length ≤ 1000)
    (q : ∀ h' o, Heap.ExtBut a h h' → h'.get? a = some o → lst us o → Q () ⟨h', gs, dr, tk, os⟩) : wpAny (model prog w) A (setItem (.ref a) (.ref sl) (.ref b)) Q E ⟨h, gs, dr, tk, os⟩ := by
  obtain ⟨o, ho, n, rfl⟩ := hl
  obtain ⟨os', hos, hcs, hds⟩ := id hc
  have hT : Shared.TypeIs ⟨h, gs, dr, tk, os⟩ (.ref a) "list" := ⟨_, ho, rfl⟩
  have hTb : Shared.TypeIs ⟨h, gs, dr, tk, os⟩ (.ref b) "list" := hb.list.typeIs
  have hTs : Shared.TypeIs ⟨h, gs, dr, tk, os⟩ (.ref sl) "slice" := ⟨os', hos, hcs⟩
  obtain ⟨ob, hob, hcb, nb, hdb⟩ := hb.list
  unfold setItem
  try with_reducible refine wpAny_holding ?_
  refine wpAny_bind (wpAny_sequenceKey hT (by decide) ?_)
  refine wpAny_bind (wpAny_callSpecial?_slot (name := Str.ofString "__setitem__") hT slot_list_setitem
    (wpAny_call_entry slot_list_setitem hT entry_list_setitem ?_ (args_list_setitem _ _ _)))
  show wpAny _ _ (Builtin.List.listSubscript? (.ref sl) >>= _) _ _ _
  refine wpAny_bind ?_
  unfold Builtin.List.listSubscript?
  refine wpAny_bind (wpAny_specialOf hTs slice_no_index ?_)
  simp only [Option.isNone_none, if_true]
  refine wpAny_pure ?_
  show wpAny _ _ (typeOf (.ref sl) >>= _) _ _ _
  refine wpAny_bind (wpAny_typeOf hTs ?_)
  rw [if_neg (by decide)]
  rw [listSliceParts_eq]
  refine wpAny_bind (wpAny_bind (wpAny_field hos hds (x := .none) rfl (wpAny_bind (wpAny_listPart IsPart.none ?_))))
  rw [if_neg (by decide)]
  refine wpAny_bind (wpAny_field hos hds (x := .none) rfl (wpAny_bind (wpAny_listPart IsPart.none ?_)))
  refine wpAny_bind (wpAny_field hos hds (x := .none) rfl (wpAny_bind (wpAny_listPart IsPart.none (wpAny_pure ?_))))
  dsimp only
  have hne : Builtin.List.listSameRef (.ref a) (.ref b) = false := by simp [Builtin.List.listSameRef, hab]
  rw [if_neg (by rw [hne]; decide)]
  refine wpAny_bind ?_
  unfold Builtin.List.listAllItems
  refine wpAny_bind (wpAny_typeOf hTb ?_)
  rw [if_pos (by decide)]
  unfold Builtin.List.listItems
  refine wpAny_bind (wpAny_seqItems hob hdb (wpAny_pure ?_))
  dsimp only
  refine wpAny_bind (wpAny_bind (wpAny_seqItems ho rfl (wpAny_pure ?_)))
  refine wpAny_bind (wpAny_of_eq (sliceIndices_raw none none none _ (by simp)) ?_)
  have eb : sliceBounds none none none vs.toArray.size = (0, (vs.length : Int), 1) := by simp [sliceBounds]
  have hu : us.toArray.size = us.length := by simp
  simp only [Option.getD_some, eb]
  rw [if_pos (by decide)]
  refine wpAny_bind (wpAny_rule ?_)
  rw [if_neg (by simp [Builtin.List.listTooLong, sizeLine_eq]; omega)]
  have hmax : (max (0 : Int) (vs.length : Int)).toNat = vs.length := by omega
  have hf : vs.toArray.extract 0 (Int.toNat 0) ++ us.toArray ++ vs.toArray.extract vs.length = us.toArray := by simp
  rw [hmax]
  refine wpAny_bind (wpAny_updateSeq ho rfl (wpAny_bind (wpAny_letGo (wpAny_pure ⟨.none, rfl, wpAny_pure (q _ _ (Heap.SameBut.update _ _ _).extBut (Heap.get?_update_self _ ho rfl) ?_)⟩))) ?_ ?_)
  · exact lst_map _ hf
  · rw [List.size_toArray, sizeLine_eq]; omega
  · simp [sizeLine_eq]; omega
end
end Mine
open PySem PySem.W PyProof.Rows
set_option Elab.async false
set_option maxRecDepth 100000
namespace Mine
theorem pat_plain : PlainAttrs "re.Pattern" :=
  ⟨⟨"object.__getattribute__", by rw [typeLookup_type, builtinLookup_eq_fast]; kernel_rfl, by decide +kernel⟩, by rw [typeLookup_type, builtinLookup_eq_fast]; kernel_rfl⟩
theorem pat_slot : Slot "re.Pattern" "search" "re.Pattern.search" :=
  .of (owner := "re.Pattern") (n := "search") (by rw [typeLookup_type, builtinLookup_eq_fast]; kernel_rfl) (by decide +kernel) (by decide +kernel) (by decide +kernel)
    (by first | exact .inl (by decide +kernel) | exact .inr (by decide +kernel)) (by rw [isSubtype_type]; kernel_rfl)
theorem pat_type : typeOf (.builtin "re.Pattern.search") = pure (.type "method_descriptor") := by show builtinType _ = _; rw [builtinType_eq_fast]; kernel_rfl
theorem pat_entry : entryFor table "re.Pattern.search" = some Builtin.«re.Pattern.search» := entryFor_of_tree (by kernel_rfl)
theorem pat_args (a b : Value) : argsOk "re.Pattern.search" ⟨[a, b], []⟩ := by
  unfold argsOk
  kernel_rfl
section
variable {prog : Program} {w : World} {A : Around} {E : Value → Shared → Prop} {g h : Heap} {gs : Array GenState} {dr : Drawn} {tk : Nat} {os : OsState} {x : Str} {a : Addr} {t : Tok} {K : Frag} {mb : Str → Option Value}
def patIn (K : Frag) (a : Addr) : Bool := match K.lookup a with
  | some ⟨.type T, none, _, _⟩ => T == "re.Pattern"
  | _ => false
theorem patIn_ok (X : K.In h) (e : patIn K a = true) : ∃ o, h.get? a = some o ∧ o.cls = .type "re.Pattern" ∧ o.dict = none := by
  unfold patIn at e
  split at e
  · rename_i T d sl q
    exact ⟨_, X _ _ q, by rw [beq_iff_eq.mp e], rfl⟩
  · cases e
theorem mSearch {pl} {Q : Value × List Value → Shared → Prop} (W : Wld K mb g) (k : Kp g h) (e : patIn K a = true) (q : Q (.builtin "re.Pattern.search", [.ref a]) ⟨h, gs, dr, tk, os⟩) :
    wpAny (model prog w) A (getMethod (.ref a) "search" pl) Q E ⟨h, gs, dr, tk, os⟩ := by
  obtain ⟨o, ho, hc, hd⟩ := patIn_ok (W.kin.keeps k) e
  exact getMethod_builtin ⟨o, ho, hc⟩ pat_plain pat_slot pat_type (fun b q => by cases q; exact ⟨o, ho, hd⟩) q
/-- the search finds nothing -/
def ReNo (K : Frag) (a : Addr) (x : Str) : Prop := ∀ t S, peek K S (Builtin.«re.Pattern.search» ⟨[.ref a, .str x t], []⟩) = some (.done (.ret .none))
theorem oSearch {Q : Value → Shared → Prop} (W : Wld K mb g) (k : Kp g h) (e : patIn K a = true) (hr : ReNo K a x) (q : Q .none ⟨h, gs, dr, tk, os⟩) : wpAny (model prog w) A (call (.builtin "re.Pattern.search") [.ref a, .str x t] []) Q E ⟨h, gs, dr, tk, os⟩ := by
  obtain ⟨o, ho, hc, hd⟩ := patIn_ok (W.kin.keeps k) e
  exact wpAny_call_entry pat_slot ⟨o, ho, hc⟩ pat_entry ((Looks.of_peek (W.kin.keeps k) (hr t _)).here ⟨_, rfl, q⟩) (pat_args _ _)
end
end Mine
open PySem PySem.W PyProof.Rows
set_option Elab.async false
set_option maxRecDepth 100000
namespace Mine
/-- a list of pairs of texts -/
inductive Prs (g : Heap) : List Value → List (Str × Str) → Prop
  | nil : Prs g [] []
  | cons {T : Addr} {k v : Str} {t u : Tok} {vs es} : IsT g T [.str k t, .str v u] → Prs g vs es → Prs g (.ref T :: vs) ((k, v) :: es)
namespace Prs
variable {g g' : Heap} {vs us : List Value} {es fs : List (Str × Str)}
theorem up (k : Kp g g') (x : Prs g vs es) : Prs g' vs es := by
  induction x with
  | nil => exact .nil
  | cons a _ ih => exact .cons (k _ _ a) ih
theorem len (x : Prs g vs es) : vs.length = es.length := by
  induction x with
  | nil => rfl
  | cons _ _ ih => simp [ih]
theorem at_ (x : Prs g vs es) : ∀ {i : Nat} {v}, vs[i]? = some v → ∃ T k t w u, v = .ref T ∧ es[i]? = some (k, w) ∧ IsT g T [.str k t, .str w u] := by
  induction x with
  | nil => intro i v e; simp at e
  | @cons T k w t u vs es a _ ih =>
    intro i v e
    cases i with
    | zero => simp at e; exact ⟨T, k, t, w, u, e.symm, rfl, a⟩
    | succ i => rw [List.getElem?_cons_succ] at e; exact ih e
theorem pair (x : Prs g vs es) (i : Nat) (v : Value) (e : vs[i]? = some v) : ∃ T v1 v2, v = Value.ref T ∧ IsT g T [v1, v2] := let ⟨T, _, _, _, _, e1, _, a⟩ := x.at_ e; ⟨T, _, _, e1, a⟩
theorem append (x : Prs g vs es) (y : Prs g us fs) : Prs g (vs ++ us) (es ++ fs) := by
  induction x with
  | nil => exact y
  | cons a _ ih => exact .cons a ih
theorem snoc {T : Addr} {k v : Str} {t u : Tok} (x : Prs g vs es) (a : IsT g T [.str k t, .str v u]) : Prs g (vs ++ [.ref T]) (es ++ [(k, v)]) := x.append (.cons a .nil)
end Prs
section
variable {prog : Program} {w : World} {A : Around} {E : Value → Shared → Prop} {env : Env} {g h : Heap} {gs : Array GenState} {dr : Drawn} {tk : Nat} {os : OsState} {a : Addr} {vs : List Value} {k : Int} {u : Tok} {v : Value} {value slice : Expr}
theorem gIdxT {Q : Value → Shared → Prop} (hl : IsT h a vs) (h0 : 0 ≤ k) (h1 : k < 1000) (hx : vs[k.toNat]? = some v) (hs : subscripted slice false (.ref a) (.int k u) = operate [.ref a, .int k u] (getItem (.ref a) (.int k u)))
    (q : Q v ⟨h, gs, dr, tk, os⟩) : wpAny (model prog w) A (subscriptTail value slice (.ref a) (.int k u)) Q E ⟨h, gs, dr, tk, os⟩ := by
  refine tail_any (show Shared.TypeIs ⟨h, gs, dr, tk, os⟩ (.ref a) "tuple" from ⟨_, hl, rfl⟩) F.slot_tuple_getitem.lookup ?_ hs
  have hlt : k.toNat < vs.length := (List.getElem?_eq_some_iff.mp hx).1
  refine PyProof.Rows.getItem_tuple (IsT.tup hl) (by omega) (by omega) (j := k.toNat) ?_ (by simpa using hx) q
  obtain ⟨n, rfl⟩ := Int.eq_ofNat_of_zero_le h0
  have hn : ¬ ((n : Int) < 0) := by omega
  simp only [seqIndex?, List.size_toArray, hn, if_false]
  rw [if_pos (by simp; omega)]
theorem take_filter_succ {α : Type} (p : α → Bool) {l : List α} {i : Nat} {x : α} (h : l[i]? = some x) : (l.take (i + 1)).filter p = (l.take i).filter p ++ (if p x then [x] else []) := take_succ_filter p l i x h
theorem take_map_succ {α β : Type} (f : α → β) {l : List α} {i : Nat} {x : α} (h : l[i]? = some x) : (l.take (i + 1)).map f = (l.take i).map f ++ [f x] := by
  rw [List.take_add_one, h]; simp
end
theorem UseQ.val {Q : Value → Shared → Prop} {D : Addr} {s : Shared} (q : Q (.ref D) s) : UseQ none Q D s := q
theorem UseQ.put {Q : Value → Shared → Prop} {D : Addr} {s : Shared} {p} (q : Q .none s) : UseQ (some p) Q D s := q
theorem ist_inj {g : Heap} {T : Addr} {a b c d : Value} (x : IsT g T [a, b]) (y : IsT g T [c, d]) : a = c ∧ b = d := by
  have e := x.symm.trans y
  simpa using e
section
variable {prog : Program} {w : World} {A : Around} {E : Value → Shared → Prop} {env : Env} {g h : Heap} {L : Addr} {l : List (Str × Value)} {M : List (Addr × (Obj → Prop))}
  {gs : Array GenState} {dr : Drawn} {tk : Nat} {os : OsState} {x y : Str} {a : Addr} {vs : List Value}
theorem forWM {target : Expr} {body : List Stmt} {I : Addr} {fp wr : List Addr} {n : Nat} {P : Nat → Value → Prop} {St : Nat → Heap → Prop} {Q : Flow → Shared → Prop}
    (W : Walks prog w A I fp wr n P St) {Po : Obj → Prop} (hI : ∀ i h, St i h → ∃ o, h.get? I = some o ∧ Po o) (hwr : ∀ b ∈ wr, b = I) (J : Nat → Inv) (hSt : ∀ i h₁ h₂ o g' l' M', St i h₁ → h₁.get? I = some o → h₂.get? I = some o → Kp g g' → J i g' l' M' → Hp g' M' h₂ → St i h₂)
    {h₀ : Heap} (b : Bd g L l M h₀) (hk : Kp h₀ h) (hf : h₀.get? I = none) (hst : St 0 h) (j0 : J 0 g l M)
    (turn : ∀ i v g' l' M' h' tk' o, i < n → P i v → Po o → Kp g g' → J i g' l' M' → Bd g' L l' ((I, (· = o)) :: M') h' →
      wpAny (model prog w) A (letOwnedTupleGo target (.ref I) v) (fun _ s₁ => wpAny (model prog w) A (assign target env v) (fun _ s₂ => wpAny (model prog w) A (execs body env) (BEnd gs dr os L I o g' (J (i + 1)) Q) (fun _ _ => False) s₂) (fun _ _ => False) s₁) (fun _ _ => False) ⟨h', gs, dr, tk', os⟩)
    (done : ∀ g' l' M' h' tk', Kp g g' → J n g' l' M' → Bd g' L l' M' h' → Q .next ⟨h', gs, dr, tk', os⟩) :
    codeAny (model prog w) A (.forLoop target (.ref I) body [] env) (forR Q) ⟨h, gs, dr, tk, os⟩ := by
  obtain ⟨o₀, ho₀, _⟩ := hI _ _ hst
  refine codeAny_forLoop_any
    (fun k s' => ∃ i g' l' M' h' tk' o, s' = ⟨h', gs, dr, tk', os⟩ ∧ i ≤ n ∧ k = n + 1 - i ∧ Kp g g' ∧ J i g' l' M' ∧ Bd g' L l' ((I, (· = o)) :: M') h' ∧ St i h') ?_ (n + 1)
    ⟨0, g, l, M, h, tk, o₀, rfl, Nat.zero_le _, rfl, Kp.rf, j0, b.add hk hf ho₀ rfl, hst⟩
  rintro k s' ⟨i, g', l', M', h', tk', o, rfl, hi, rfl, kg, j, b', st⟩
  by_cases hlt : i < n
  · refine W.item i _ _ _ hlt st fun v h₁ tk₁ hP st₁ hk₁ => ?_
    obtain ⟨o₁, ho₁, po₁⟩ := hI _ _ st₁
    have b₁ : Bd g' L l' ((I, (· = o₁)) :: M') h₁ := b'.upd (fun c x hc e => hk₁ c x (fun q => hc (hwr c q)) e) ho₁ rfl
    refine wpAny_mono (turn i v g' l' M' h₁ tk₁ o₁ hlt hP po₁ kg j b₁) (fun _ s₁ h₁' => wpAny_mono h₁' (fun _ s₂ h₂ => wpAny_mono h₂ (fun f s₃ h₃ => ?_) fun _ _ e => e.elim) fun _ _ e => e.elim) fun _ _ e => e.elim
    have fin : BEnd gs dr os L I o₁ g' (J (i + 1)) Q .next s₃ → ∃ m, m < n + 1 - i ∧ ∃ i g' l' M' h' tk' o, s₃ = ⟨h', gs, dr, tk', os⟩ ∧ i ≤ n ∧ m = n + 1 - i ∧ Kp g g' ∧ J i g' l' M' ∧ Bd g' L l' ((I, (· = o)) :: M') h' ∧ St i h' := by
      rintro ⟨g'', l'', M'', h'', tk'', rfl, k'', b'', j''⟩
      refine ⟨n + 1 - (i + 1), by omega, i + 1, g'', l'', M'', h'', tk'', o₁, rfl, hlt, rfl, kg.tr k'', j'', b'', ?_⟩
      obtain ⟨⟨oI, eI, rfl⟩, _⟩ := b''.hp.mu _ (.head _)
      exact hSt _ _ _ _ _ _ _ st₁ ho₁ eI (kg.tr k'') j'' b''.tail.hp
    cases f with
    | next => exact fin h₃
    | cont => exact fin h₃
    | brk => exact h₃
    | ret v => exact h₃
  · have : i = n := by omega
    subst this
    refine W.done _ _ _ st fun h₁ tk₁ hk₁ => wpAny_execs_nil ?_
    refine done g' l' M' h₁ tk₁ kg j ?_
    have b₁ := b'.tail
    obtain ⟨m, x, y⟩ := b'.ns
    have eI : ∀ c x, c ≠ I → h'.get? c = some x → h₁.get? c = some x := fun c x hc e => hk₁ c x (fun q => hc (hwr c q)) e
    have nL : L ≠ I := fun q => b'.ne _ (.head _) q.symm
    have nd := b'.hp.nd
    rw [List.map_cons, List.nodup_cons] at nd
    refine ⟨⟨m, x.extBut eI nL, y⟩, b'.off, b₁.ne, fun c x e => eI c x (fun q => ?_) (b'.keep _ _ e), fun p hp => ?_, nd.2⟩
    · subst q; rw [(b'.hp.mu _ (.head _)).2] at e; cases e
    · obtain ⟨⟨o', e', z⟩, y⟩ := b₁.hp.mu p hp
      exact ⟨⟨o', eI _ _ (fun q => nd.1 (List.mem_map.mpr ⟨p, hp, q⟩)) e', z⟩, y⟩

theorem fListM2 {px py tpos : Pos} {kk : Nat} {body : List Stmt} {Q : Flow → Shared → Prop} (hh : A.handled = none) (b : Bd g L l M h) (hl : (a, lst vs) ∈ M) (hT : ∀ (i : Nat) (v : Value), vs[i]? = some v → ∃ T v1 v2, v = Value.ref T ∧ IsT g T [v1, v2])
    (hk : (env.scope.kind == .function && env.kindOf x == some .local) = true) (hk' : (env.scope.kind == .function && env.kindOf y == some .local) = true) (hL : env.locals = L) (J : Nat → Inv) (j0 : J 0 g l M) (jm : ∀ i g' l' M', J i g' l' M' → (a, lst vs) ∈ M')
    (turn : ∀ i T v1 v2 g' l' M' h' tk' I o, vs[i]? = some (.ref T) → IsT g T [v1, v2] → Kp g g' → J i g' l' M' → (∀ l1 l2, Sto x v1 l' l1 → Sto y v2 l1 l2 → Bd g' L l2 ((I, (· = o)) :: M') h') →
      wpAny (model prog w) A (execs body env) (BEnd gs dr os L I o g' (J (i + 1)) Q) (fun _ _ => False) ⟨h', gs, dr, tk', os⟩)
    (done : ∀ g' l' M' h' tk', Kp g g' → J vs.length g' l' M' → Bd g' L l' M' h' → Q .next ⟨h', gs, dr, tk', os⟩) :
    wpAny (model prog w) A (pyIter (.ref a)) (fun it s₂ => codeAny (model prog w) A (.forLoop (.Tuple [.Name x px, .Name y py] kk tpos) it body [] env) (forR Q) s₂) E ⟨h, gs, dr, tk, os⟩ := by
  have hl' := b.hp.lst hl
  refine wpAny_pyIter_list hl'.list ?_
  obtain ⟨oa, ha, _⟩ := id hl'
  have hne : a ≠ h.objs.size := Nat.ne_of_lt (Heap.lt_size ha)
  refine forWM (Walks.list hh _ a hne vs.toArray) (Po := fun o => o.cls = .type "list_iterator") (fun i h st => let ⟨o, e, c, _⟩ := st.1; ⟨o, e, c⟩) (fun c hc => List.mem_singleton.mp hc) (fun i g' l' M' => J i g' l' M')
    (fun i h₁ h₂ o g' l' M' st e1 e2 k j H => ⟨st.1.at fun o' e => by rw [e1] at e; cases e; exact e2, (H.lst (jm _ _ _ _ j)).list⟩) b (Kp.push _ _) (fresh_size h)
    ⟨⟨_, Heap.get?_push_size _ rfl, rfl, rfl⟩, hl'.list.push _⟩ j0 (fun i v g' l' M' h' tk' o hi hP po kg j b' => ?_) (fun g' l' M' h' tk' kg j b' => done g' l' M' h' tk' kg (by simpa using j) b')
  have hv : vs[i]? = some v := by simpa using hP
  obtain ⟨T, v1, v2, rfl, ht⟩ := hT i v hv
  exact asgPair hh po b' (kg _ _ ht) hk hk' hL fun h'' tk'' hb => turn i T v1 v2 g' l' M' h'' tk'' _ o hv ht kg j hb
end
theorem Hp.add2 {g h h' : Heap} {M : List (Addr × (Obj → Prop))} {a c : Addr} {o o' : Obj} {p q : Obj → Prop} (b : Hp g M h) (k : Kp h h') (ha : h.get? a = none) (hc : h.get? c = none) (hac : c ≠ a) (e : h'.get? a = some o) (e' : h'.get? c = some o') (hp : p o) (hq : q o') : Hp g ((a, p) :: (c, q) :: M) h' := by
  have b1 := b.add (p := q) k hc e' hq
  refine ⟨b1.keep, fun r hr => ?_, ?_⟩
  · rcases List.mem_cons.mp hr with rfl | hr
    · exact ⟨⟨o, e, hp⟩, b.keep.none ha⟩
    · exact b1.mu r hr
  · rw [List.map_cons, List.nodup_cons]
    refine ⟨fun z => ?_, b1.nd⟩
    obtain ⟨r, hr, e2⟩ := List.mem_map.mp z
    rcases List.mem_cons.mp hr with rfl | hr
    · exact hac e2
    · obtain ⟨⟨o2, e3, _⟩, _⟩ := b.mu r hr
      rw [e2, ha] at e3; cases e3
end Mine
open PySem PySem.W PyProof.Rows
set_option Elab.async false
set_option maxRecDepth 100000
namespace Mine
section
variable {prog : Program} {w : World} {A : Around} {E : Value → Shared → Prop} {env : Env} {g h : Heap} {L : Addr} {l : List (Str × Value)} {M : List (Addr × (Obj → Prop))}
  {gs : Array GenState} {dr : Drawn} {tk : Nat} {os : OsState} {x y : Str} {pos : Pos}
/-! ## two clauses -/
theorem compTurn_in (elt t0 i0 t1 i1 : Expr) (ifs0 : List Expr) (scope : Scope) (pos : Pos) (it acc : Value) (env : Env) :
    compTurn (.ListComp elt [⟨t0, i0, ifs0, 0⟩, ⟨t1, i1, [], 0⟩] scope pos) 1 it acc env = (do
      standAt i1.pos
      match ← pyNext it with
      | none => pure (.done .next)
      | some v =>
        letOwnedTupleGo t1 it v
        assign t1 env v
        (do let _ ← call (.builtin "list.append") [acc, ← eval elt env])
        again (.compLoop (.ListComp elt [⟨t0, i0, ifs0, 0⟩, ⟨t1, i1, [], 0⟩] scope pos) 1 it acc env)) := by rfl
theorem compTurn_out (elt t0 i0 t1 i1 : Expr) (scope : Scope) (pos : Pos) (it acc : Value) (env : Env) :
    compTurn (.ListComp elt [⟨t0, i0, [], 0⟩, ⟨t1, i1, [], 0⟩] scope pos) 0 it acc env = (do
      standAt i0.pos
      match ← pyNext it with
      | none => pure (.done .next)
      | some v =>
        letOwnedTupleGo t0 it v
        assign t0 env v
        let x ← eval i1 env
        standAt i1.pos
        let x ← foldedSetIterable i1 env x
        let it' ← holding [x] (pyIter x)
        let _ ← runOwn (.compStart (.ListComp elt [⟨t0, i0, [], 0⟩, ⟨t1, i1, [], 0⟩] scope pos) 1 it' acc env) env
        again (.compLoop (.ListComp elt [⟨t0, i0, [], 0⟩, ⟨t1, i1, [], 0⟩] scope pos) 0 it acc env)) := by rfl
theorem compLoop_in {elt t0 i0 target i1 : Expr} {ifs0 : List Expr} {scope : Scope} {it acc : Value} {R : Result → Shared → Prop} (I : Nat → Shared → Prop)
    (turn : ∀ n s E, I n s → wpAny (model prog w) A (pyNext it) (fun r s₁ => match r with
      | none => R (.ok .next) s₁
      | some v => wpAny (model prog w) A (letOwnedTupleGo target it v) (fun _ s₁' => wpAny (model prog w) A (assign target env v) (fun _ s₂ =>
          wpAny (model prog w) A (eval elt env) (fun x s₄ => wpAny (model prog w) A (call (.builtin "list.append") [acc, x]) (fun _ s₅ => ∃ m, m < n ∧ I m s₅) E s₄) E s₂) E s₁') E s₁) E s)
    (n : Nat) {s : Shared} (h : I n s) : codeAny (model prog w) A (.compLoop (.ListComp elt [⟨t0, i0, ifs0, 0⟩, ⟨target, i1, [], 0⟩] scope pos) 1 it acc env) R s := by
  refine codeAny_loop rfl I (fun n s hI => ?_) n h
  show wpAny _ A ((compTurn (.ListComp elt [⟨t0, i0, ifs0, 0⟩, ⟨target, i1, [], 0⟩] scope pos) 1 it acc env).onRaise (fun x => do noteFrame x env; theTreesLotGoes x)) _ _ s
  refine wpAny_noted ?_
  rw [compTurn_in]
  refine wpAny_bind (wpAny_standAt (wpAny_bind (wpAny_mono (turn n s _ hI) (fun r s₁ h₁ => ?_) fun _ _ h' => h')))
  cases r with
  | none => exact wpAny_pure h₁
  | some v =>
    refine wpAny_bind (wpAny_mono h₁ (fun _ s₁' h₁' => ?_) fun _ _ h' => h')
    refine wpAny_bind (wpAny_mono h₁' (fun _ s₂ h₂ => ?_) fun _ _ h' => h')
    exact wpAny_bind (wpAny_bind (wpAny_mono h₂ (fun x s₄ h₄ => wpAny_bind (wpAny_mono h₄ (fun _ s₅ h₅ => wpAny_pure (wpAny_pure ⟨rfl, h₅⟩)) fun _ _ h' => h')) fun _ _ h' => h'))
theorem compLoop_out {elt target iter t1 i1 : Expr} {scope : Scope} {it acc : Value} {R : Result → Shared → Prop} (hs1 : ∀ x, foldedSetIterable i1 env x = pure x) (I : Nat → Shared → Prop)
    (turn : ∀ n s E, I n s → wpAny (model prog w) A (pyNext it) (fun r s₁ => match r with
      | none => R (.ok .next) s₁
      | some v => wpAny (model prog w) A (letOwnedTupleGo target it v) (fun _ s₁' => wpAny (model prog w) A (assign target env v) (fun _ s₂ =>
          wpAny (model prog w) A (eval i1 env) (fun x s₃ => wpAny (model prog w) A (pyIter x) (fun it' s₄ => codeAny (model prog w) (A.mark none) (.compStart (.ListComp elt [⟨target, iter, [], 0⟩, ⟨t1, i1, [], 0⟩] scope pos) 1 it' acc env)
            (fun r s₅ => match r with | .ok _ => ∃ m, m < n ∧ I m s₅ | .error _ => False) s₄) E s₃) E s₂) E s₁') E s₁) E s)
    (n : Nat) {s : Shared} (h : I n s) : codeAny (model prog w) A (.compLoop (.ListComp elt [⟨target, iter, [], 0⟩, ⟨t1, i1, [], 0⟩] scope pos) 0 it acc env) R s := by
  refine codeAny_loop rfl I (fun n s hI => ?_) n h
  show wpAny _ A ((compTurn (.ListComp elt [⟨target, iter, [], 0⟩, ⟨t1, i1, [], 0⟩] scope pos) 0 it acc env).onRaise (fun x => do noteFrame x env; theTreesLotGoes x)) _ _ s
  refine wpAny_noted ?_
  rw [compTurn_out]
  refine wpAny_bind (wpAny_standAt (wpAny_bind (wpAny_mono (turn n s _ hI) (fun r s₁ h₁ => ?_) fun _ _ h' => h')))
  cases r with
  | none => exact wpAny_pure h₁
  | some v =>
    refine wpAny_bind (wpAny_mono h₁ (fun _ s₁' h₁' => ?_) fun _ _ h' => h')
    refine wpAny_bind (wpAny_mono h₁' (fun _ s₂ h₂ => ?_) fun _ _ h' => h')
    refine wpAny_bind (wpAny_mono h₂ (fun x s₃ h₃ => wpAny_bind (wpAny_standAt (wpAny_bind (wpAny_of_eq (hs1 x) (wpAny_bind (wpAny_holding (wpAny_mono h₃ (fun it' s₄ h₄ => ?_) fun _ _ h' => h'))))))) fun _ _ h' => h')
    refine wpAny_bind (wpAny_runOwn (codeAny_mono h₄ fun r s₅ hr => ?_))
    cases r with
    | error e => exact hr.elim
    | ok f => exact wpAny_pure ⟨rfl, hr⟩
theorem compStart_in {elt c0 target i1 ifs rest scope pos it acc env} {R : Result → Shared → Prop} {s : Shared}
    (h0 : codeAny (model prog w) A (.compLoop (.ListComp elt (c0 :: ⟨target, i1, ifs, 0⟩ :: rest) scope pos) 1 it acc env) R s)
    (h : wpAny (model prog w) A (pyIter it) (fun it' s' => codeAny (model prog w) A (.compLoop (.ListComp elt (c0 :: ⟨target, i1, ifs, 0⟩ :: rest) scope pos) 1 it' acc env) R s')
      (notedBy (model prog w) A env fun x s' => R (.error x) s') s) :
    codeAny (model prog w) A (.compStart (.ListComp elt (c0 :: ⟨target, i1, ifs, 0⟩ :: rest) scope pos) 1 it acc env) R s := by
  refine codeAny_of_tree ?_
  show wpAny _ _ ((compStart (.ListComp elt (c0 :: ⟨target, i1, ifs, 0⟩ :: rest) scope pos) 1 it acc env).onRaise (fun x => do noteFrame x env; standAt theWindowsPlace)) _ _ s
  refine wpAny_notedAt ?_
  unfold compStart
  show wpAny _ _ (ask >>= _) _ _ s
  refine wpAny_bind (wpAny_askSetting (wpAny_ite ?_))
  split
  · first
      | exact wpAny_bind (wpAny_pure (wpAny_pure (And.intro rfl h0)))
      | exact wpAny_pure (And.intro rfl h0)
  · first
      | exact wpAny_bind (wpAny_rule (wpAny_bind (wpAny_standAt (wpAny_bind (wpAny_mono h (fun it' s' h' => wpAny_pure (And.intro rfl h')) fun _ _ x => x)))))
      | (refine wpAny_bind (wpAny_rule ?_); show wpAny _ _ (standAt i1.pos >>= _) _ _ s; exact wpAny_bind (wpAny_standAt (wpAny_bind (wpAny_mono h (fun it' s' h' => wpAny_pure (And.intro rfl h')) fun _ _ x => x))))
def BEndA (gs : Array GenState) (dr : Drawn) (os : OsState) (L I : Addr) (o : Obj) (g : Heap) (Jn : Inv) (_ : Value) (s' : Shared) : Prop :=
  ∃ g' l' M' h' tk', s' = ⟨h', gs, dr, tk', os⟩ ∧ Kp g g' ∧ Bd g' L l' ((I, (· = o)) :: M') h' ∧ Jn g' l' M'
theorem BEndA.mk {I : Addr} {o : Obj} {Jn : Inv} {g' h' : Heap} {l'} {M'} {tk'} {v : Value} (k : Kp g g') (b : Bd g' L l' ((I, (· = o)) :: M') h') (j : Jn g' l' M') : BEndA gs dr os L I o g Jn v ⟨h', gs, dr, tk', os⟩ := ⟨g', l', M', h', tk', rfl, k, b, j⟩
theorem lcIn {elt target t0 i0 i1 : Expr} {ifs0 : List Expr} {scope : Scope} {acc : Value} {I : Addr} {fp wr : List Addr} {n : Nat} {P : Nat → Value → Prop} {St : Nat → Heap → Prop} {Q : Flow → Shared → Prop}
    (W : Walks prog w A I fp wr n P St) {Po : Obj → Prop} (hI : ∀ i h, St i h → ∃ o, h.get? I = some o ∧ Po o) (hwr : ∀ b ∈ wr, b = I) (hfp : ∀ b ∈ fp, b = I ∨ ∃ o, g.get? b = some o)
    (J : Nat → Inv) {h₀ : Heap} (b : Bd g L l M h₀) (hk : Kp h₀ h) (hf : h₀.get? I = none) (hst : St 0 h) (j0 : J 0 g l M)
    (turn : ∀ i v g' l' M' h' tk' o (E : Value → Shared → Prop), i < n → P i v → Po o → Kp g g' → J i g' l' M' → Bd g' L l' ((I, (· = o)) :: M') h' →
      wpAny (model prog w) A (letOwnedTupleGo target (.ref I) v) (fun _ s₁ => wpAny (model prog w) A (assign target env v) (fun _ s₂ => wpAny (model prog w) A (eval elt env) (fun y s₃ => wpAny (model prog w) A (call (.builtin "list.append") [acc, y]) (BEndA gs dr os L I o g' (J (i + 1))) E s₃) E s₂) E s₁) E ⟨h', gs, dr, tk', os⟩)
    (done : ∀ g' l' M' h' tk', Kp g g' → J n g' l' M' → Bd g' L l' M' h' → Q .next ⟨h', gs, dr, tk', os⟩) :
    codeAny (model prog w) A (.compLoop (.ListComp elt [⟨t0, i0, ifs0, 0⟩, ⟨target, i1, [], 0⟩] scope pos) 1 (.ref I) acc env) (forR Q) ⟨h, gs, dr, tk, os⟩ := by
  obtain ⟨o₀, ho₀, _⟩ := hI _ _ hst
  refine compLoop_in
    (fun k s' => ∃ i g' l' M' h' tk' o, s' = ⟨h', gs, dr, tk', os⟩ ∧ i ≤ n ∧ k = n + 1 - i ∧ Kp g g' ∧ J i g' l' M' ∧ Bd g' L l' ((I, (· = o)) :: M') h' ∧ St i h') ?_ (n + 1)
    ⟨0, g, l, M, h, tk, o₀, rfl, Nat.zero_le _, rfl, Kp.rf, j0, b.add hk hf ho₀ rfl, hst⟩
  rintro k s' E' ⟨i, g', l', M', h', tk', o, rfl, hi, rfl, kg, j, b', st⟩
  by_cases hlt : i < n
  · refine W.item i _ _ _ hlt st fun v h₁ tk₁ hP st₁ hk₁ => ?_
    obtain ⟨o₁, ho₁, po₁⟩ := hI _ _ st₁
    have b₁ : Bd g' L l' ((I, (· = o₁)) :: M') h₁ := b'.upd (fun c x hc e => hk₁ c x (fun q => hc (hwr c q)) e) ho₁ rfl
    refine wpAny_mono (turn i v g' l' M' h₁ tk₁ o₁ E' hlt hP po₁ kg j b₁) (fun _ s₁ h₁' => wpAny_mono h₁' (fun _ s₂ h₂ => wpAny_mono h₂ (fun y s₃ h₃ => wpAny_mono h₃ (fun _ s₄ h₄ => ?_) fun _ _ e => e) fun _ _ e => e) fun _ _ e => e) fun _ _ e => e
    obtain ⟨g'', l'', M'', h'', tk'', rfl, k'', b'', j''⟩ := h₄
    refine ⟨n + 1 - (i + 1), by omega, i + 1, g'', l'', M'', h'', tk'', o₁, rfl, hlt, rfl, kg.tr k'', j'', b'', W.frame _ _ _ st₁ fun c hc x e => ?_⟩
    rcases hfp c hc with rfl | ⟨oc, hoc⟩
    · obtain ⟨⟨o', e', rfl⟩, _⟩ := b''.hp.mu _ (.head _)
      rw [ho₁] at e; cases e; exact e'
    · have e1 := b₁.keep _ _ (kg _ _ hoc)
      rw [e] at e1; cases e1
      exact b''.keep _ _ (k'' _ _ (kg _ _ hoc))
  · have : i = n := by omega
    subst this
    refine W.done _ _ _ st fun h₁ tk₁ hk₁ => ?_
    refine done g' l' M' h₁ tk₁ kg j ?_
    have b₁ := b'.tail
    obtain ⟨m, x, y⟩ := b'.ns
    have eI : ∀ c x, c ≠ I → h'.get? c = some x → h₁.get? c = some x := fun c x hc e => hk₁ c x (fun q => hc (hwr c q)) e
    have nL : L ≠ I := fun q => b'.ne _ (.head _) q.symm
    have nd := b'.hp.nd
    rw [List.map_cons, List.nodup_cons] at nd
    refine ⟨⟨m, x.extBut eI nL, y⟩, b'.off, b₁.ne, fun c x e => eI c x (fun q => ?_) (b'.keep _ _ e), fun p hp => ?_, nd.2⟩
    · subst q; rw [(b'.hp.mu _ (.head _)).2] at e; cases e
    · obtain ⟨⟨o', e', z⟩, y⟩ := b₁.hp.mu p hp
      exact ⟨⟨o', eI _ _ (fun q => nd.1 (List.mem_map.mpr ⟨p, hp, q⟩)) e', z⟩, y⟩

def LcE2 (gs : Array GenState) (dr : Drawn) (os : OsState) (g' : Heap) (C I D L : Addr) (o oL : Obj) (M : List (Addr × (Obj → Prop))) (J : Heap → List Value → Prop) (s : Shared) : Prop :=
  ∃ g'' h'' tk'' lc ys', s = ⟨h'', gs, dr, tk'', os⟩ ∧ Kp g' g'' ∧ Bd g'' C lc ((I, (· = o)) :: (D, lst ys') :: (L, (· = oL)) :: M) h'' ∧ J g'' ys'
theorem lcBlock2 {elt target iter t1 i1 : Expr} {scope : Scope} {cl : List (Str × Addr)} {use : Option (Str × Pos)} {Q : Value → Shared → Prop} {I : Addr} {fp : List Addr} {n : Nat} {P : Nat → Value → Prop} {St : Nat → Heap → Prop} {Po : Obj → Prop}
    (W : Walks prog w A I fp [I] n P St) (hn : n ≤ 1000000) (hI : ∀ i h, St i h → ∃ o, h.get? I = some o ∧ Po o)
    (hSt : ∀ i h₁ h₂ o g', St i h₁ → h₁.get? I = some o → h₂.get? I = some o → Kp g g' → Hp g' M h₂ → St i h₂)
    (hcell : (scope.names.all fun y => y.2 != .cell) = true) (hkind : scope.kind = .function) (hs1 : ∀ C x, foldedSetIterable i1 (compEnvC scope cl C env) x = pure x) (hL : env.locals = L) (hu : useOk env use)
    {h₀ : Heap} (b : Bd g L l M h₀) (hk : Kp h₀ h) (hf : h₀.get? I = none) (hst : St 0 h) (J : Nat → Heap → List Value → Prop) (j0 : J 0 g []) 
    (turn : ∀ i v g' ys h' tk' C D o oL (E : Value → Shared → Prop), i < n → P i v → Po o → Kp g g' → J i g' ys → Bd g' C [] ((I, (· = o)) :: (D, lst ys) :: (L, (· = oL)) :: M) h' →
      wpAny (model prog w) A (letOwnedTupleGo target (.ref I) v) (fun _ s₁ => wpAny (model prog w) A (assign target (compEnvC scope cl C env) v) (fun _ s₂ =>
        wpAny (model prog w) A (eval i1 (compEnvC scope cl C env)) (fun x s₃ => wpAny (model prog w) A (pyIter x) (fun it' s₄ => codeAny (model prog w) (A.mark none) (.compStart (.ListComp elt [⟨target, iter, [], 0⟩, ⟨t1, i1, [], 0⟩] scope pos) 1 it' (.ref D) (compEnvC scope cl C env)) (forR fun _ s₅ => LcE2 gs dr os g' C I D L o oL M (J (i + 1)) s₅) s₄) E s₃) E s₂) E s₁) E ⟨h', gs, dr, tk', os⟩)
    (done : ∀ g' ys D h' tk', Kp g g' → J n g' ys → (∀ l', UseR D use l l' → Bd g' L l' ((D, lst ys) :: M) h') → UseQ use Q D ⟨h', gs, dr, tk', os⟩) :
    LcK (model prog w) A E env (.ListComp elt [⟨target, iter, [], 0⟩, ⟨t1, i1, [], 0⟩] scope pos) scope cl use Q (.ref I) ⟨h, gs, dr, tk, os⟩ := by
  subst hL
  obtain ⟨o₀, ho₀, hpo₀⟩ := hI _ _ hst
  have bI : Bd g env.locals l ((I, (· = o₀)) :: M) h := b.add hk hf ho₀ rfl
  unfold LcK
  refine wpAny_newObj_type (wpAny_newFunctionEnv (fun x hx => by simpa using List.all_eq_true.mp hcell x hx) (by intro y hy; simp at hy) (fun h₁ hns₁ hsb₁ => ?_) hkind)
  dsimp only at hns₁ hsb₁ ⊢
  generalize hH2 : h.push { cls := .type "list", dict := none, data := .seq ([] : List Value).toArray } = H2 at hns₁ hsb₁ ⊢
  have hfD : h.get? h.objs.size = none := fresh_size h
  have hD2 : H2.get? h.objs.size = some { cls := .type "list", dict := none, data := .seq ([] : List Value).toArray } := hH2 ▸ Heap.get?_push_size _ rfl
  have k2 : Kp h H2 := hH2 ▸ Kp.push _ _
  have bD : Bd g env.locals l ((h.objs.size, lst []) :: (I, (· = o₀)) :: M) H2 := bI.add k2 hfD hD2 ⟨_, rfl⟩
  have hCf : H2.get? H2.objs.size = none := fresh_size H2
  have kC : Kp H2 h₁ := fun a o e => hsb₁.extBut a o (fun q => by subst q; rw [hCf] at e; cases e) (Heap.get?_push_of_some _ e)
  have bC := bD.kp kC
  generalize hD : h.objs.size = D at *
  generalize hC : H2.objs.size = C at *
  obtain ⟨oL, HL, back⟩ := bC.out
  have HL2 : Hp g ((I, (· = o₀)) :: (D, lst []) :: (env.locals, (· = oL)) :: M) h₁ := by
    refine HL.perm ?_
    exact ((List.Perm.swap _ _ _).trans ((List.Perm.swap _ _ _).cons _)).trans (List.Perm.swap _ _ _)
  have gC : g.get? C = none := by
    have : Kp g H2 := bD.keep
    exact this.none hCf
  have hne : ∀ p ∈ ((I, (· = o₀)) :: (D, lst []) :: (env.locals, (· = oL)) :: M), p.1 ≠ C := by
    intro p hp q
    have : H2.get? p.1 = none := by rw [q]; exact hCf
    obtain ⟨_, H2p, _⟩ := bD.out
    have h3 : ∃ o, H2.get? p.1 = some o := by
      rcases List.mem_cons.mp hp with rfl | hp
      · obtain ⟨⟨o, e, _⟩, _⟩ := bD.hp.mu (I, (· = o₀)) (.tail _ (.head _)); exact ⟨o, e⟩
      · rcases List.mem_cons.mp hp with rfl | hp
        · exact ⟨_, hD2⟩
        · rcases List.mem_cons.mp hp with rfl | hp
          · obtain ⟨⟨o, e, _⟩, _⟩ := H2p.mu _ (.head _); exact ⟨o, e⟩
          · obtain ⟨⟨o, e, _⟩, _⟩ := bD.hp.mu p (.tail _ (.tail _ hp)); exact ⟨o, e⟩
    obtain ⟨o, e⟩ := h3
    rw [this] at e; cases e
  have B0 : Bd g C [] ((I, (· = o₀)) :: (D, lst []) :: (env.locals, (· = oL)) :: M) h₁ := ⟨⟨_, hns₁, fun _ hp => nomatch hp⟩, gC, hne, HL2⟩
  have hst₁ : St 0 h₁ := W.frame _ _ _ hst fun b _ o e => kC _ _ (k2 _ _ e)
  have loop : ∀ tk₁, codeAny (model prog w) A (.compLoop (.ListComp elt [⟨target, iter, [], 0⟩, ⟨t1, i1, [], 0⟩] scope pos) 0 (.ref I) (.ref D) (compEnvC scope cl C env)) (compPost (model prog w) A E (use.map fun p => assign (.Name p.1 p.2) env) Q (.ref D) C) ⟨h₁, gs, dr, tk₁, os⟩ := by
    intro tk₁
    refine compLoop_out (hs1 := hs1 C) (fun k s' => ∃ i g' h' tk' o ys lc, s' = ⟨h', gs, dr, tk', os⟩ ∧ i ≤ n ∧ k = n + 1 - i ∧ Kp g g' ∧ J i g' ys ∧ Po o ∧ Bd g' C lc ((I, (· = o)) :: (D, lst ys) :: (env.locals, (· = oL)) :: M) h' ∧ St i h') ?_ (n + 1)
      ⟨0, g, h₁, _, o₀, [], [], rfl, Nat.zero_le _, rfl, Kp.rf, j0, hpo₀, B0, hst₁⟩
    rintro k s' E' ⟨i, g', h', tk', o, ys, lc, rfl, hi, rfl, kg, j, hpo, B, st⟩
    by_cases hlt : i < n
    · refine W.item i _ _ _ hlt st fun v h₂ tk₂ hP st₂ hk₂ => ?_
      obtain ⟨o₂, ho₂, po₂⟩ := hI _ _ st₂
      have B₂ : Bd g' C lc ((I, (· = o₂)) :: (D, lst ys) :: (env.locals, (· = oL)) :: M) h₂ := B.upd (fun c x hc e => hk₂ c x (fun q => hc (List.mem_singleton.mp q)) e) ho₂ rfl
      refine wpAny_mono (turn i v g' ys h₂ tk₂ C D o₂ oL E' hlt hP po₂ kg j (B₂.forget fun _ hp => nomatch hp)) (fun _ s₁ h₁' => wpAny_mono h₁' (fun _ s₂ h₂ => wpAny_mono h₂ (fun _ s₃ h₃ => wpAny_mono h₃ (fun _ s₄ h₄ => codeAny_mono h₄ fun r s₅ hr => ?_) fun _ _ e => e) fun _ _ e => e) fun _ _ e => e) fun _ _ e => e
      cases r with
      | error e => exact hr.elim
      | ok f =>
        obtain ⟨g'', h'', tk'', lc'', ys', rfl, k'', B'', j''⟩ := hr
        obtain ⟨⟨oI, eI, rfl⟩, _⟩ := B''.hp.mu _ (.head _)
        have st'' : St (i + 1) h'' := hSt _ _ _ _ g'' st₂ ho₂ eI (kg.tr k'') (B''.hp.sub ((List.sublist_cons_self _ _).trans ((List.sublist_cons_self _ _).trans (List.sublist_cons_self _ _))))
        exact ⟨n + 1 - (i + 1), by omega, i + 1, g'', h'', tk'', _, _, lc'', rfl, hlt, rfl, kg.tr k'', j'', po₂, B'', st''⟩
    · have : i = n := by omega
      subst this
      refine W.done _ _ _ st fun h₂ tk₂ hk₂ => ?_
      have xI : Heap.ExtBut I h' h₂ := fun c x hc e => hk₂ c x (fun q => hc (List.mem_singleton.mp q)) e
      -- the frame's heap without the walk's object
      have nIC : C ≠ I := fun q => B.ne _ (.head _) q.symm
      have nd := B.hp.nd
      rw [List.map_cons, List.nodup_cons] at nd
      have B₂ : Bd g' C lc ((D, lst ys) :: (env.locals, (· = oL)) :: M) h₂ := by
        have b₁ := B.tail
        obtain ⟨m, x, y⟩ := B.ns
        refine ⟨⟨m, x.extBut xI nIC, y⟩, B.off, b₁.ne, fun c x e => xI c x (fun q => ?_) (B.keep _ _ e), fun p hp => ?_, nd.2⟩
        · subst q; rw [(B.hp.mu _ (.head _)).2] at e; cases e
        · obtain ⟨⟨o', e', z⟩, y⟩ := b₁.hp.mu p hp
          exact ⟨⟨o', xI _ _ (fun q => nd.1 (List.mem_map.mpr ⟨p, hp, q⟩)) e', z⟩, y⟩
      rcases hu with rfl | ⟨y, py, rfl, hky⟩
      · obtain ⟨m, x, _⟩ := B₂.ns
        refine ⟨m, x, fun h₃ hs₃ => ?_⟩
        have H₃ : Hp g' ((D, lst ys) :: (env.locals, (· = oL)) :: M) h₃ := B₂.hp.sameBut B₂.off B₂.ne hs₃
        refine done g' ys D h₃ tk₂ kg j fun l' u => ?_
        cases u
        exact back _ _ _ (H₃.perm (List.Perm.swap _ _ _))
      · obtain ⟨oC, HC, _⟩ := B₂.out
        have BL : Bd g' env.locals l ((D, lst ys) :: (C, (· = oC)) :: M) h₂ := back _ _ _ (HC.perm (((List.Perm.swap _ _ _).trans ((List.Perm.swap _ _ _).cons _)).trans (List.Perm.swap _ _ _)))
        obtain ⟨mL, hnL, hmL⟩ := BL.ns
        simp only [Bool.and_eq_true, beq_iff_eq] at hky
        show wpAny _ A (assign (.Name y py) env (.ref D)) _ _ _
        refine wpAny_assign_Name (wpAny_storeName_local hky.2 hnL (fun h₃ hn₃ hs₃ => ?_) (by rw [hky.1]; rfl))
        have nCL : C ≠ env.locals := fun q => BL.ne (C, (· = oC)) (.tail _ (.head _)) q
        obtain ⟨mC, hnC, _⟩ := B₂.ns
        refine ⟨mC, hnC.extBut hs₃.extBut nCL, fun h₄ hs₄ => ?_⟩
        refine done g' ys D h₄ _ kg j fun l' u => ?_
        cases u with
        | name st =>
          have BL₃ := BL.sto st hmL hn₃ hs₃
          have nd₃ := BL₃.hp.nd
          have BL₄ : Bd g' env.locals l' ((D, lst ys) :: M) h₃ := BL₃.sub ((List.sublist_cons_self _ _).cons_cons _)
          obtain ⟨m₄, x₄, y₄⟩ := BL₄.ns
          have ndm : ∀ p ∈ ((D, lst ys) :: M), p.1 ≠ C := by
            intro p hp q
            simp only [List.map_cons, List.nodup_cons, List.mem_cons, not_or] at nd₃
            rcases List.mem_cons.mp hp with rfl | hp
            · exact nd₃.1.1 q
            · exact nd₃.2.1 (List.mem_map.mpr ⟨p, hp, q⟩)
          exact ⟨⟨m₄, x₄.sameBut hs₄ (Ne.symm nCL), y₄⟩, BL₄.off, BL₄.ne, BL₄.hp.sameBut B₂.off ndm hs₄⟩
  exact codeAny_compStart_list (loop _) (W.self 0 _ _ _ hst₁ (loop _))

theorem sLC2 {elt target iter t1 i1 : Expr} {scope : Scope} {y : Str} {py spos : Pos} {Q : Flow → Shared → Prop} {s : Shared} (cl : List (Str × Addr))
    (hsw : swapsWith (.ListComp elt [⟨target, iter, [], 0⟩, ⟨t1, i1, [], 0⟩] scope pos) (some (.Name y py)) spos.line env = pure true) (hclos : closureFor scope env = pure cl) (hkind : scope.kind = .function)
    (hnames : (scope.names.all fun y => y.2 != .local || decide (scope.names.lookup y.1 = some .local)) = true) (hs : ∀ x, foldedSetIterable iter env x = pure x)
    (q : wpAny (model prog w) A (eval iter env) (fun xv s₁ => wpAny (model prog w) A (pyIter xv) (LcK (model prog w) A E env (.ListComp elt [⟨target, iter, [], 0⟩, ⟨t1, i1, [], 0⟩] scope pos) scope cl (some (y, py)) (fun _ => Q .next)) E s₁) E s) :
    wpAny (model prog w) A (exec (.Assign [.Name y py] (.ListComp elt [⟨target, iter, [], 0⟩, ⟨t1, i1, [], 0⟩] scope pos) spos) env) Q E s := by
  rw [exec_Assign_Name_used _ _ _ _ hsw]
  refine wpAny_bind (wpAny_standAt (wpAny_bind ?_))
  show wpAny _ A (do let _ ← comprehension (.ListComp elt [⟨target, iter, [], 0⟩, ⟨t1, i1, [], 0⟩] scope pos) scope env _ (newList []) false (eval iter env) (some (assign (.Name y py) env))) _ _ s
  refine wpAny_bind (wpAny_mono (wpAny_comprehension_free (use := some (assign (.Name y py) env)) (Q := fun _ s' => Q .next s') rfl hs hclos hkind (fun y hy hl => by have := List.all_eq_true.mp hnames y hy; rw [hl] at this; simpa using this) q) (fun _ _ hq => wpAny_pure (wpAny_pure hq)) fun _ _ e => e)
variable {elt iter i1 t1 : Expr} {scope : Scope} {cl : List (Str × Addr)} {use : Option (Str × Pos)} {Q : Value → Shared → Prop} {px : Pos} {a : Addr} {vs : List Value}
/-- pairs of a frozen list, then a text's signs -/
theorem lcP2 {z : Str} {tz : Tok} {py pz tpos zpos : Pos} {kk zk : Nat} {zn : Str} (hh : A.handled = none) (b : Bd g L l M h) (hl : IsL g a vs) (hz : vs.length ≤ 1000000) (hT : ∀ (i : Nat) (v : Value), vs[i]? = some v → ∃ T v1 v2, v = Value.ref T ∧ IsT g T [v1, v2]) (ha : z.cps.all (· < 128) = true)
    (hcell : (scope.names.all fun y => y.2 != .cell) = true) (hkind : scope.kind = .function) (hL : env.locals = L) (hu : useOk env use)
    (hx : locOk scope env cl x) (hy : locOk scope env cl y) (hzl : locOk scope env cl zn) (hxy : (x == y) = false) (hxz : (x == zn) = false) (hyz : (y == zn) = false) (J : Nat → Heap → List Value → Prop) (j0 : J 0 g [])
    (K : Nat → Nat → Heap → List Value → Prop) (k0 : ∀ i g' ys, i < vs.length → J i g' ys → K i 0 g' ys) (kn : ∀ i g' ys, K i z.cps.size g' ys → J (i + 1) g' ys) (kl : ∀ i k g' ys, K i k g' ys → ys.length ≤ 1000000)
    (turn : ∀ i T v1 v2 (k c : Nat) u g' ys h' tk' C D I I1 o o1 oL (A' : Around) (E : Value → Shared → Prop), A'.handled = none → vs[i]? = some (.ref T) → IsT g T [v1, v2] → z.cps[k]? = some c → Kp g g' → K i k g' ys →
      Bd g' C [(x, v1), (y, v2), (zn, .str ⟨#[c]⟩ u)] ((I1, (· = o1)) :: (I, (· = o)) :: (D, lst ys) :: (L, (· = oL)) :: M) h' →
      wpAny (model prog w) A' (eval elt (compEnvC scope cl C env)) (fun e s₃ => ∃ g'' h'' tk'' lc, s₃ = ⟨h'', gs, dr, tk'', os⟩ ∧ Kp g' g'' ∧ Bd g'' C ((x, v1) :: (y, v2) :: lc) ((I1, (· = o1)) :: (I, (· = o)) :: (D, lst ys) :: (L, (· = oL)) :: M) h'' ∧ K i (k + 1) g'' (ys ++ [e])) E ⟨h', gs, dr, tk', os⟩)
    (done : ∀ g' ys D h' tk', Kp g g' → J vs.length g' ys → (∀ l', UseR D use l l' → Bd g' L l' ((D, lst ys) :: M) h') → UseQ use Q D ⟨h', gs, dr, tk', os⟩) :
    wpAny (model prog w) A (pyIter (.ref a)) (LcK (model prog w) A E env (.ListComp elt [⟨.Tuple [.Name x px, .Name y py] kk tpos, iter, [], 0⟩, ⟨.Name zn pz, .Constant (.str z) zk zpos, [], 0⟩] scope pos) scope cl use Q) E ⟨h, gs, dr, tk, os⟩ := by
  have hl' := hl.up b.keep
  refine wpAny_pyIter_list hl'.list ?_
  obtain ⟨oa, ha', _⟩ := id hl
  have hne : a ≠ h.objs.size := Nat.ne_of_lt (Heap.lt_size (b.keep _ _ ha'))
  refine lcBlock2 (Walks.list hh _ a hne vs.toArray) (by simpa using hz) (Po := fun o => o.cls = .type "list_iterator") (fun i h st => let ⟨o, e, c, _⟩ := st.1; ⟨o, e, c⟩) (fun i h₁ h₂ o g' st e1 e2 k H => ⟨st.1.at fun o' e => by rw [e1] at e; cases e; exact e2, (hl.up (k.tr H.keep)).list⟩)
    hcell hkind (fun _ _ => rfl) hL hu b (Kp.push _ _) (fresh_size h) ⟨⟨_, Heap.get?_push_size _ rfl, rfl, rfl⟩, hl'.list.push _⟩ J j0 (fun i v g' ys h' tk' C D o oL E hi hP po kg j B => ?_) (fun g' ys D h' tk' kg j hb => done g' ys D h' tk' kg (by simpa using j) hb)
  have hv : vs[i]? = some v := by simpa using hP
  obtain ⟨T, v1, v2, rfl, ht⟩ := hT i v hv
  refine asgPK hh po B (kg _ _ ht) (hx C) (hy C) rfl fun h'' tk'' hb => ?_
  have B1 := hb _ _ .nil (.miss hxy .nil)
  refine Calls.Constant_str ?_
  have hA : (A.mark none).handled = none := hh
  refine wpAny_pyIter_ascii ha ?_
  have loop : ∀ (I1 : Addr) (h1 : Heap), I1 = h''.objs.size → Kp h'' h1 → (∃ o, h1.get? I1 = some o ∧ o.cls = .type "str_ascii_iterator" ∧ o.data = .fields #[.str z tk'', .int 0 0]) → codeAny (model prog w) (A.mark none) (.compLoop (.ListComp elt [⟨.Tuple [.Name x px, .Name y py] kk tpos, iter, [], 0⟩, ⟨.Name zn pz, .Constant (.str z) zk zpos, [], 0⟩] scope pos) 1 (.ref I1) (.ref D) (compEnvC scope cl C env))
      (forR fun _ s₅ => LcE2 gs dr os g' C h.objs.size D L o oL M (J (i + 1)) s₅) ⟨h1, gs, dr, tk'' + 1, os⟩ := by
    rintro I1 h1 rfl hk1 hst
    refine lcIn (L := C) (l := [(x, v1), (y, v2)]) (Walks.strAscii hA _ z tk'') (Po := fun _ => True) (fun i h st => let ⟨o, e, _⟩ := st; ⟨o, e, trivial⟩) (fun c hc => List.mem_singleton.mp hc) (fun c hc => .inl (List.mem_singleton.mp hc))
      (fun k g2 l2 M2 => ∃ lc ys2, l2 = (x, v1) :: (y, v2) :: lc ∧ M2 = (h.objs.size, (· = o)) :: (D, lst ys2) :: (L, (· = oL)) :: M ∧ K i k g2 ys2) B1 hk1 (fresh_size _) hst ⟨[], ys, rfl, rfl, k0 _ _ _ (by simpa using hi) j⟩ ?_ ?_
    · rintro k v g2 l2 M2 h2 t2 o2 E2 hk hP _ kg2 ⟨lc, ys2, rfl, rfl, hK⟩ B2
      obtain ⟨c, u, hc, rfl⟩ := hP
      have B3 := B2.fg (l' := [(x, v1), (y, v2)]) (by exact (List.nil_sublist lc).cons_cons _ |>.cons_cons _)
      refine asgNK (hzl C) rfl B3 fun h3 t3 hb3 => ?_
      refine wpAny_mono (turn i T v1 v2 k c u g2 ys2 h3 t3 C D _ _ o o2 oL _ E2 hA hv ht hc (kg.tr kg2) hK (hb3 _ (.miss hxz (.miss hyz .nil)))) (fun e s₃ h₃ => ?_) fun _ _ e => e
      obtain ⟨g4, h4, t4, lc4, rfl, k4, B4, hK4⟩ := h₃
      refine oApp (B4.hp.lst (.tail _ (.tail _ (.head _)))) (kl _ _ _ _ hK) fun h5 o5 x5 e5 l5 => ?_
      have B5 := B4.mset (q := lst (ys2 ++ [e])) (M' := (h''.objs.size, (· = o2)) :: (h.objs.size, (· = o)) :: (D, lst (ys2 ++ [e])) :: (L, (· = oL)) :: M) (.tl (.tl .hd)) x5 e5 l5
      exact BEndA.mk k4 B5 ⟨lc4, _, rfl, rfl, hK4⟩
    · rintro g2 l2 M2 h2 t2 kg2 ⟨lc, ys2, rfl, rfl, hK⟩ B2
      exact ⟨g2, h2, t2, _, ys2, rfl, kg2, B2, kn _ _ _ hK⟩
  have hst : ∃ o, (h''.push { cls := .type "str_ascii_iterator", data := .fields #[.str z tk'', .int 0 0] }).get? h''.objs.size = some o ∧ o.cls = .type "str_ascii_iterator" ∧ o.data = .fields #[.str z tk'', .int 0 0] := ⟨_, Heap.get?_push_size _ rfl, rfl, rfl⟩
  refine compStart_in (loop _ _ rfl (Kp.push _ _) hst) ?_
  exact (Walks.strAscii (prog := prog) (w := w) (A := A.mark none) hA h''.objs.size z tk'').self 0 _ _ _ hst (loop _ _ rfl (Kp.push _ _) hst)
theorem rCallC {args : List Expr} {np : Pos} {n : Str} {c : Addr} {K : Frag} {mb : Str → Option Value} (W : Wld K mb g) (b : Bd g L l M h) (hv : nsIn K mainGlobals n = some (some (.ref c))) (hf : keepIn K (.ref c) = true)
    (hk : (env.scope.kind == .function && env.kindOf n == some .globalImplicit && !(n == ("__debug__" : Str))) = true) (hg : env.globals = mainGlobals) (hn : (starEach args env).any (·.1) = false)
    (q : wpAny (model prog w) A (spliced (starEach args env)) (fun vs s₁ => Kp g s₁.heap ∧ wpAny (model prog w) A (call (.ref c) vs []) Q E s₁) E ⟨h, gs, dr, tk, os⟩) :
    wpAny (model prog w) A (eval (.Call (.Name n np) args [] pos) env) Q E ⟨h, gs, dr, tk, os⟩ :=
  wpAny_Call_NameR (rGlo W b hv hk hg (cw hn (P := fun h => K.In h) (fun h X => keeps_K hf h X) (wpAny_mono q (fun vs s₁ h₁ => ⟨W.kin.keeps h₁.1, by simpa using h₁.2⟩) fun _ _ e => e)))
theorem IsL.dropK {g g' : Heap} {a : Addr} {vs : List Value} (x : IsL g a vs) (k : Kp g g') : IsL g' a vs := x.up k
end
end Mine
open PySem PySem.W PyProof.Rows
set_option Elab.async false
namespace Mine
set_option maxRecDepth 100000 in
set_option maxHeartbeats 8000000 in
open_top hd for PySem.Challenge.rw_pg0293_02
end Mine
open PySem PySem.W PyProof.Rows
set_option Elab.async false
set_option maxRecDepth 100000
namespace Mine
noncomputable abbrev KK (w : World) : Frag := hd.heap_39 w.params
section
variable (w : World)
theorem g_Headers : nsIn (KK w) mainGlobals (Str.ofString "Headers") = some (some (.ref 171)) := by kernel_rfl!
theorem g_bisect_left : nsIn (KK w) mainGlobals (Str.ofString "bisect_left") = some (some (.ref 193)) := by kernel_rfl!
theorem g_bisect_right : nsIn (KK w) mainGlobals (Str.ofString "bisect_right") = some (some (.ref 184)) := by kernel_rfl!
theorem g_ellipsis_match : nsIn (KK w) mainGlobals (Str.ofString "_ellipsis_match") = some (some (.ref 200)) := by kernel_rfl!
theorem g_law_store : nsIn (KK w) mainGlobals (Str.ofString "_law_store") = some (some (.ref 207)) := by kernel_rfl!
theorem g_law_name : nsIn (KK w) mainGlobals (Str.ofString "_law_name") = some (some (.ref 214)) := by kernel_rfl!
theorem g_law_number : nsIn (KK w) mainGlobals (Str.ofString "_law_number") = some (some (.ref 221)) := by kernel_rfl!
theorem g_law_turned : nsIn (KK w) mainGlobals (Str.ofString "_law_turned") = some (some (.ref 228)) := by kernel_rfl!
theorem g_law_walk_of_fronts : nsIn (KK w) mainGlobals (Str.ofString "_law_walk_of_fronts") = some (some (.ref 235)) := by kernel_rfl!
theorem g_law_begins : nsIn (KK w) mainGlobals (Str.ofString "_law_begins") = some (some (.ref 242)) := by kernel_rfl!
theorem g_law_words : nsIn (KK w) mainGlobals (Str.ofString "_law_words") = some (some (.ref 247)) := by kernel_rfl!
theorem g_name_disallowed_re : nsIn (KK w) mainGlobals (Str.ofString "_name_disallowed_re") = some (some (.ref 43)) := by kernel_rfl!
theorem g_value_disallowed_re : nsIn (KK w) mainGlobals (Str.ofString "_value_disallowed_re") = some (some (.ref 48)) := by kernel_rfl!
theorem g_ELL : nsIn (KK w) mainGlobals (Str.ofString "ELLIPSIS_MARKER") = some (some (.str (Str.ofString "...") 539)) := by kernel_rfl!
theorem n_len : nsIn (KK w) mainGlobals (Str.ofString "len") = some none := by kernel_rfl!
theorem n_range : nsIn (KK w) mainGlobals (Str.ofString "range") = some none := by kernel_rfl!
theorem n_str : nsIn (KK w) mainGlobals (Str.ofString "str") = some none := by kernel_rfl!
theorem n_int : nsIn (KK w) mainGlobals (Str.ofString "int") = some none := by kernel_rfl!
theorem n_type : nsIn (KK w) mainGlobals (Str.ofString "type") = some none := by kernel_rfl!
theorem n_list : nsIn (KK w) mainGlobals (Str.ofString "list") = some none := by kernel_rfl!
theorem n_max : nsIn (KK w) mainGlobals (Str.ofString "max") = some none := by kernel_rfl!
theorem n_min : nsIn (KK w) mainGlobals (Str.ofString "min") = some none := by kernel_rfl!
end
theorem b_len : bootBuiltins (Str.ofString "len") = some (.builtin "len") := by kernel_rfl!
theorem b_range : bootBuiltins (Str.ofString "range") = some (.type "range") := by kernel_rfl!
theorem b_str : bootBuiltins (Str.ofString "str") = some (.type "str") := by kernel_rfl!
theorem b_int : bootBuiltins (Str.ofString "int") = some (.type "int") := by kernel_rfl!
theorem b_type : bootBuiltins (Str.ofString "type") = some (.type "type") := by kernel_rfl!
theorem b_list : bootBuiltins (Str.ofString "list") = some (.type "list") := by kernel_rfl!
theorem b_max : bootBuiltins (Str.ofString "max") = some (.builtin "max") := by kernel_rfl!
theorem b_min : bootBuiltins (Str.ofString "min") = some (.builtin "min") := by kernel_rfl!
end Mine
open PySem PySem.W PyProof.Rows
set_option Elab.async false
set_option maxRecDepth 100000
namespace Mine
local macro_rules | `(tactic| walk_at "sub") => `(tactic| first | with_reducible exact List.Sublist.refl _ | ((with_reducible apply List.Sublist.cons_cons); walk_at "sub") | ((with_reducible apply List.Sublist.cons); walk_at "sub") | exact List.nil_sublist _)
local macro_rules | `(tactic| walk_at "has") => `(tactic| first | with_reducible exact Has.hd | ((with_reducible apply Has.tl); walk_at "has"))
local macro_rules | `(tactic| walk_at "sto") => `(tactic| first | with_reducible exact Sto.nil | with_reducible exact Sto.hit (by kernel_rfl!) | ((with_reducible apply Sto.miss); (case a => kernel_rfl!); walk_at "sto"))
local macro_rules | `(tactic| walk_at "mem") => `(tactic| first | with_reducible exact List.mem_cons_self | ((with_reducible refine List.mem_cons_of_mem _ ?_); walk_at "mem"))
local macro_rules | `(tactic| walk_at "mset") => `(tactic| first | with_reducible exact MSet.hd | ((with_reducible apply MSet.tl); walk_at "mset"))
local macro_rules | `(tactic| walk_at "glo") => `(tactic| first | with_reducible exact g_ELL _ | with_reducible exact g_bisect_left _ | with_reducible exact g_bisect_right _ | with_reducible exact g_ellipsis_match _ | with_reducible exact g_name_disallowed_re _ | with_reducible exact g_value_disallowed_re _ | with_reducible exact g_Headers _ | with_reducible exact g_law_name _ | walk_at "glow")
local macro_rules | `(tactic| walk_at "glb") => `(tactic| first | with_reducible exact n_len _ | with_reducible exact n_range _ | with_reducible exact n_str _ | with_reducible exact n_int _ | with_reducible exact n_type _ | with_reducible exact n_list _ | with_reducible exact n_max _ | with_reducible exact n_min _)
local macro_rules | `(tactic| walk_at "bui") => `(tactic| first | with_reducible exact b_len | with_reducible exact b_range | with_reducible exact b_str | with_reducible exact b_int | with_reducible exact b_type | with_reducible exact b_list | with_reducible exact b_max | with_reducible exact b_min)
local macro_rules | `(tactic| walk_at "st") => `(tactic| first | with_reducible refine sIf ?_ | walk_at "st0")
local macro_rules | `(tactic| walk_at "st0") => `(tactic| first
  | with_reducible refine sCons ?_
  | with_reducible refine nxN ?_
  | with_reducible refine nxR ?_
  | with_reducible refine sNil ?_
  | with_reducible refine cutN ?_
  | with_reducible refine cutR ?_
  | ((with_reducible refine' rLoc (by assumption) ?k1 ?k2 ?k3 ?_); (case k1 => walk_at "has"); (case k2 => kernel_rfl!); (case k3 => rfl))
  | ((with_reducible refine' rGlo (by assumption) (by assumption) ?k1 ?k2 ?k3 ?_); (case k1 => walk_at "glo"); (case k2 => kernel_rfl!); (case k3 => rfl))
  | ((with_reducible refine' rCallG (by assumption) (by assumption) ?k1 ?k2 ?k3 ?k4 ?k5 ?_); (case k1 => walk_at "glo"); (case k2 => kernel_rfl!); (case k3 => kernel_rfl!); (case k4 => rfl); (case k5 => kernel_rfl!))
  | ((with_reducible refine' rCallGk (by assumption) (by assumption) ?k1 ?k2 ?k3 ?k4 ?k5 ?_); (case k1 => walk_at "glo"); (case k2 => kernel_rfl!); (case k3 => kernel_rfl!); (case k4 => rfl); (case k5 => kernel_rfl!))
  | ((with_reducible refine' rCallB (by assumption) (by assumption) ?k1 ?k2 ?k3 ?k4 ?k5 ?k6 ?k7 ?_); (case k1 => walk_at "glb"); (case k2 => walk_at "bui"); (case k3 => rfl); (case k4 => kernel_rfl!); (case k5 => rfl); (case k6 => rfl); (case k7 => kernel_rfl!))
  | ((with_reducible refine' rBui (by assumption) (by assumption) ?k1 ?k2 ?k3 ?k4 ?k5 ?_); (case k1 => walk_at "glb"); (case k2 => walk_at "bui"); (case k3 => kernel_rfl!); (case k4 => rfl); (case k5 => rfl))
  | ((with_reducible refine' rMeth ?k1 ?k2 ?k3 ?_); (case k1 => kernel_rfl!); (case k2 => kernel_rfl!); (case k3 => kernel_rfl!))
  | ((with_reducible refine' mqB ?k1 ?_); (case k1 => kernel_rfl!))
  | ((with_reducible refine' vCons ?k1 ?_); (case k1 => kernel_rfl!))
  | with_reducible refine vNil ?_
  | ((with_reducible refine xI ?_); intro _ _)
  | ((with_reducible refine xS ?_); intro _ _)
  | with_reducible refine xB ?_
  | with_reducible refine xN ?_
  | with_reducible refine wpAny_BinOp ?_
  | with_reducible refine xSub ?_
  | with_reducible refine xCut ?_
  | with_reducible refine xPartN ?_
  | with_reducible refine xPart ?_
  | ((with_reducible refine Cut.mk ?_); intro _ _ _ _)
  | ((with_reducible refine' xCmp ?k1 ?_); (case k1 => kernel_rfl!))
  | ((with_reducible refine' tCmp ?k1 ?_); (case k1 => kernel_rfl!))
  | with_reducible refine wpAny_isTrue_Not ?_
  | ((with_reducible refine' tPlain ?k1 ?_); (case k1 => kernel_rfl!))
  | with_reducible refine ttB ?_
  | ((with_reducible refine' sAsg ?k1 ?_); (case k1 => kernel_rfl!))
  | ((with_reducible refine' sAsgT ?k1 ?k2 ?_); (case k1 => kernel_rfl!); (case k2 => kernel_rfl!))
  | ((with_reducible refine' sAsgS ?k1 ?k2 ?_); (case k1 => kernel_rfl!); (case k2 => rfl))
  | ((with_reducible refine' xTup ?k1 ?_); (case k1 => kernel_rfl!))
  | ((with_reducible refine' xLst ?k1 ?_); (case k1 => kernel_rfl!))
  | ((with_reducible refine' rSto (by assumption) ?k1 ?k2 ?k3 ?_); (case k1 => walk_at "sto"); (case k2 => kernel_rfl!); (case k3 => rfl); intro _ _ _)
  | with_reducible refine sRet ?_
  | with_reducible refine sAug ?_
  | with_reducible refine xUn ?_
  | with_reducible refine xIfE ?_
  | ((with_reducible refine' nLoc (by assumption) ?k1 ?k2 ?k3 ?_); (case k1 => walk_at "has"); (case k2 => kernel_rfl!); (case k3 => rfl))
  | with_reducible refine oNotIn ?_
  | with_reducible refine oIn ?_
  | with_reducible refine oEqS ?_
  | with_reducible refine oNeS ?_
  | ((with_reducible refine oAdd ?_); intro _ _)
  | ((with_reducible refine oSub ?_); intro _ _)
  | ((with_reducible refine' oDiv ?k1 ?k2 ?_); (case k1 => decide); (case k2 => exact PyProof.noPylong_small (by decide)); intro _ _)
  | ((with_reducible refine' oMod ?k1 ?_); (case k1 => decide); intro _ _)
  | ((with_reducible refine iAdd ?_); intro _ _)
  | ((with_reducible refine iSub ?_); intro _ _)
  | ((with_reducible refine oNeg ?_); intro _ _)
  | with_reducible refine oLt ?_
  | with_reducible refine oGe ?_
  | with_reducible refine oGt ?_
  | with_reducible refine oLe ?_
  | with_reducible refine oEq ?_
  | with_reducible refine oNe ?_
  | with_reducible refine oIsNN ?_
  | with_reducible refine oIsRN ?_
  | with_reducible refine oIsIN ?_
  | with_reducible refine oIsSN ?_
  | with_reducible refine oNotNN ?_
  | with_reducible refine oNotRN ?_
  | with_reducible refine oNotSN ?_
  | with_reducible refine oIsB ?_
  | with_reducible refine oNotB ?_
  | with_reducible refine mSplit ?_
  | with_reducible refine mStart ?_
  | with_reducible refine mEnd ?_
  | with_reducible refine mFind ?_
  | with_reducible refine mLow ?_
  | with_reducible refine mJoin ?_
  | with_reducible refine oStart ?_
  | with_reducible refine oEnd ?_
  | ((with_reducible refine oFind4 ?_); intro _ _)
  | ((with_reducible refine oFind ?_); intro _ _)
  | with_reducible refine sDel ?_
  | ((with_reducible refine' rCel (by assumption) ?k1 ?k2 ?k3 ?_); (case k3 => kernel_rfl!); (case k1 => exact rfl); (case k2 => walk_at "mem"))
  | ((with_reducible refine' rFre (by assumption) ?k1 ?k2 ?k3 ?_); (case k3 => kernel_rfl!); (case k1 => exact rfl); (case k2 => walk_at "mem"))
  | ((with_reducible refine' rStoC (by assumption) ?k1 ?k2 ?k3 ?k4 ?_); (case k4 => kernel_rfl!); (case k1 => exact rfl); (case k2 => walk_at "mem"); (case k3 => walk_at "mset"); intro _ _)
  | ((with_reducible refine' xLC [] ?k1 ?k2 ?k3 ?k4 ?_); (case k1 => kernel_rfl!); (case k2 => rfl); (case k3 => kernel_rfl!); (case k4 => exact fun _ => rfl))
  | ((with_reducible refine' sLC [] ?k0 ?k1 ?k2 ?k3 ?k4 ?_); (case k0 => kernel_rfl!); (case k1 => kernel_rfl!); (case k2 => rfl); (case k3 => kernel_rfl!); (case k4 => exact fun _ => rfl))
  | with_reducible refine xAttrN ?_
  | ((with_reducible refine' sSetA ?k1 ?_); (case k1 => kernel_rfl!))
  | ((with_reducible refine' sSetI ?k1 ?_); (case k1 => kernel_rfl!))
  | ((with_reducible refine' sExp ?k1 ?k2 ?_); (case k1 => kernel_rfl!); (case k2 => kernel_rfl!))
  | with_reducible refine exN ?_
  | ((with_reducible refine' rMethK ?k1 ?_); (case k1 => exact rfl))
  | with_reducible refine oTypeS ?_
  | with_reducible refine oIsT ?_
  | with_reducible refine oNotT ?_
  | with_reducible refine ttN ?_
  | with_reducible refine LcT.bare ?_
  | with_reducible refine LcT.test ?_
  | with_reducible refine dOne ?_
  | with_reducible refine sAss ?_
  | walk_at "stw"
  )
local macro_rules | `(tactic| walk_at "glow") => `(tactic| first | with_reducible exact g_law_store _ | with_reducible exact g_law_number _ | with_reducible exact g_law_turned _ | with_reducible exact g_law_walk_of_fronts _ | with_reducible exact g_law_begins _ | with_reducible exact g_law_words _)
def ellLoop (got : Str) (ep : Int) : List Str → Int → Bool
  | [], _ => true
  | x :: r, sp => if find4 got x sp ep < 0 then false else ellLoop got ep r (find4 got x sp ep + x.length)
def ell2 (got : Str) (ws : List Str) (sp ep : Int) : Bool := if ep < sp then false else ellLoop got ep ws sp
def ell1 (got : Str) (ws : List Str) (sp : Int) : Bool :=
  if (ws.getLastD Str.empty).length = 0 then ell2 got ws sp got.length
  else if Txt.endswith got (ws.getLastD Str.empty) then ell2 got ws.dropLast sp (got.length - (ws.getLastD Str.empty).length) else false
def ellP (ws : List Str) (got : Str) : Bool :=
  if (ws.headD Str.empty).length = 0 then ell1 got ws 0
  else if Txt.startswith got (ws.headD Str.empty) then ell1 got ws.tail (ws.headD Str.empty).length else false
def dots : Str := Str.ofString "..."
local macro_rules | `(tactic| walk_at "stw") => `(tactic| fail "no step")
local macro_rules | `(tactic| walk_at "glow") => `(tactic| fail "no name")
theorem ell_plain (w : World) (prog : Program) (A : Around) (mb) (g h : Heap) (M) (gs dr tk os) (W : Wld (KK w) mb g) (H : Hp g M h) (want got : Str) (t u : Tok) (hd : A.depth < 900)
    (hc : (Builtin.Str.occurrences want dots 0 want.length 1).isEmpty = true) :
    codeAny (model prog w) A (.call (.ref 200) ⟨[.str want t, .str got u], []⟩) (Rt gs dr os fun v h' => v = .bool (want == got) ∧ Hp g M h') ⟨h, gs, dr, tk, os⟩ := by
  refine enter [(Str.ofString "want", .str want t), (Str.ofString "got", .str got u)] W H (by omega) rfl rfl (by kernel_rfl!) rfl (BindsTo.of_eq (by kernel_rfl!)) (by kernel_rfl!) (by kernel_rfl!) (by kernel_rfl!) rfl rfl rfl (fun L h0 tk0 b => ?_)
  repeat' walk_at "st"
  refine iteC (fun _ => ?_) (fun q => ?_)
  · repeat' walk_at "st"
    refine DoneF.ret ?_
    exact ⟨rfl, b.hp⟩
  · exfalso
    unfold dots at hc
    rw [hc] at q; exact absurd q (by decide)


def SV (vs : List Value) (ss : List Str) : Prop := vs.length = ss.length ∧ ∀ (i : Nat) s, ss[i]? = some s → ∃ t, vs[i]? = some (.str s t)
theorem SV.of (ls : List (Str × Tok)) : SV (strValues ls) (ls.map (·.1)) := by
  refine ⟨by simp [strValues], fun i s h => ?_⟩
  simp only [List.getElem?_map, Option.map_eq_some_iff] at h
  obtain ⟨p, hp, rfl⟩ := h
  exact ⟨p.2, by simp [strValues, hp]⟩
theorem SV.tail {vs ss} (x : SV vs ss) : SV (vs.eraseIdx 0) ss.tail := by
  refine ⟨by simp [x.1], fun i s h => ?_⟩
  rw [List.eraseIdx_zero]
  rw [List.getElem?_tail] at h ⊢
  exact x.2 _ _ h
theorem SV.last {vs ss} (x : SV vs ss) (h : 1 ≤ ss.length) : SV (vs.eraseIdx (ss.length - 1)) ss.dropLast := by
  have e : vs.eraseIdx (ss.length - 1) = vs.dropLast := by rw [← x.1]; exact List.eraseIdx_length_sub_one
  rw [e]
  refine ⟨by simp [x.1], fun i s hs => ?_⟩
  rw [List.getElem?_dropLast] at hs ⊢
  split at hs
  · rename_i hi; rw [if_pos (by have := x.1; omega)]; exact x.2 _ _ hs
  · cases hs
def Smalls (ss : List Str) : Prop := ss.length ≤ 1000 ∧ ∀ p ∈ ss, p.length ≤ 1000
theorem ell_dots (w : World) (prog : Program) (A : Around) (mb) (g h : Heap) (M) (gs dr tk os) (W : Wld (KK w) mb g) (H : Hp g M h) (want got : Str) (t u : Tok) (ps : List Str) (hh : A.handled = none) (hd : A.depth < 900)
    (hc : (Builtin.Str.occurrences want dots 0 want.length 1).isEmpty = false) (hp : Txt.split want dots = ps) (hl : 2 ≤ ps.length) (hz : want.length ≤ 1000) (hz' : got.length ≤ 1000) (hps : Smalls ps) :
    codeAny (model prog w) A (.call (.ref 200) ⟨[.str want t, .str got u], []⟩) (Rt gs dr os fun v h' => v = .bool (ellP ps got) ∧ Hp g M h') ⟨h, gs, dr, tk, os⟩ := by
  refine enter [(Str.ofString "want", .str want t), (Str.ofString "got", .str got u)] W H (by omega) rfl rfl (by kernel_rfl!) rfl (BindsTo.of_eq (by kernel_rfl!)) (by kernel_rfl!) (by kernel_rfl!) (by kernel_rfl!) rfl rfl rfl (fun L h0 tk0 b => ?_)
  repeat' walk_at "st"
  refine iteC (fun q => ?_) (fun _ => ?_)
  · exfalso
    unfold dots at hc
    rw [hc] at q; exact absurd q (by decide)
  repeat' walk_at "st"
  refine oSplit (sz_line (by omega)) (by decide) (fun D ls h' tk' e k f il => ?_)
  have sv := SV.of ls
  rw [show ls.map (·.1) = ps from e.trans hp] at sv
  generalize strValues ls = vs at il sv
  obtain ⟨oD, eD, lD⟩ := il
  have b1 := b.add k f eD lD
  clear b e f eD lD k
  have hvs : vs.length ≤ 1000 := by have := sv.1; have := hps.1; omega
  repeat' walk_at "st"
  rename_i h2 t2 b2
  refine oLenL (b2.hp.lst (.head _)) (by omega) (fun _ _ => ?_)
  repeat' walk_at "st"
  refine ⟨by have := sv.1; simp; omega, ?_⟩
  repeat' walk_at "st"
  refine oLenS (sz_line (by omega)) (fun _ _ => ?_)
  repeat' walk_at "st"
  refine oNewT (by simp) (fun T h3 k3 _ hT => ?_)
  have b3 := b2.kp k3
  refine Swp.mk hh b3 hT (by walk_at "sto") (by walk_at "sto") (by kernel_rfl!) rfl (fun h4 t4 b4 => ?_)
  clear b3 b2 b1
  obtain ⟨p0, pr, rfl⟩ : ∃ p r, ps = p :: r := by cases ps with | nil => simp at hl | cons p r => exact ⟨p, r, rfl⟩
  obtain ⟨tp, hv0⟩ := sv.2 0 p0 rfl
  repeat' walk_at "st"
  refine gIdx (b4.hp.lst (.head _)) (by decide) (by decide) hv0 (by kernel_rfl!) ?_
  repeat' walk_at "st0"
  have hp0 : p0.length ≤ 1000 := hps.2 _ (.head _)
  refine cut (fun s' => ∃ h' tk' vs' ws' sp t1 t2 p t3, s' = ⟨h', gs, dr, tk', os⟩ ∧ SV vs' ws' ∧ 1 ≤ ws'.length ∧ Smalls ws' ∧ ellP (p0 :: pr) got = ell1 got ws' sp ∧
    Bd g L [(Str.ofString "want", .str want t), (Str.ofString "got", .str got u), (Str.ofString "ws", .ref D), (Str.ofString "endpos", .int got.length t1), (Str.ofString "startpos", .int sp t2), (Str.ofString "w", .str p t3)] ((D, lst vs') :: M) h') ?_ ?_
  · repeat' walk_at "st"
    refine ttS (sz_line (by omega)) (fun _ => ?_)
    refine iteC (fun q => ?_) (fun q => ?_)
    · have q0 : ¬ p0.length = 0 := by simpa using q
      repeat' walk_at "st"
      refine iteC (fun q1 => ?_) (fun q1 => ?_)
      · repeat' walk_at "st"
        refine oLenS (sz_line (by omega)) (fun _ _ => ?_)
        repeat' walk_at "st"
        rename Bd _ _ _ _ _ => b5
        refine oDel (b5.hp.lst (.head _)) (by omega) (by decide) (i := 0) (by rw [sv.1]; exact idx0 (by simp)) (fun h6 o6 x6 e6 l6 => ?_)
        repeat' walk_at "st"
        refine ⟨_, _, _, pr, _, _, _, _, _, rfl, sv.tail, by simp at hl; omega, ⟨by have := hps.1; simp at this; omega, fun p hp => hps.2 _ (.tail _ hp)⟩, ?_, b5.upd x6 e6 l6⟩
        simp [ellP, q0, q1]
      · repeat' walk_at "st"
        refine DoneF.ret ?_
        rename Bd _ _ _ _ _ => b5
        refine ⟨?_, b5.tail.hp⟩
        simp [ellP, q0, q1]
    · have q0 : p0.length = 0 := by simpa using q
      repeat' walk_at "st"
      refine ⟨_, _, _, _, _, _, _, _, _, rfl, sv, by simp, hps, ?_, by assumption⟩
      simp [ellP, q0]
  rintro _ ⟨h5, t5, vs5, ws5, sp5, _, _, _, _, rfl, sv5, n5, s5, e5, b5⟩
  rw [e5]
  clear e5 sv hps hl hv0 hvs
  obtain ⟨z, hz5⟩ : ∃ z, ws5[ws5.length - 1]? = some z := ⟨_, List.getElem?_eq_getElem (by omega)⟩
  have hzl : ws5.getLastD Str.empty = z := by
    rw [List.getLastD_eq_getLast?, List.getLast?_eq_getElem?, hz5]; rfl
  have zs : z.length ≤ 1000 := s5.2 _ (List.mem_of_getElem? hz5)
  have vl : vs5.length ≤ 1000 := by have := sv5.1; have := s5.1; omega
  obtain ⟨tz, hvz⟩ := sv5.2 _ _ hz5
  repeat' walk_at "st0"
  rename Bd _ _ _ _ _ => b6
  refine gIdxN (b6.hp.lst (.head _)) (by decide) (by have := sv5.1; omega) (by omega) (v := .str z tz) (by rw [← hvz]; congr 1; have := sv5.1; omega) (by kernel_rfl!) ?_
  repeat' walk_at "st0"
  refine cut (fun s' => ∃ h' tk' vs' ws' ep t1 t2 p t3, s' = ⟨h', gs, dr, tk', os⟩ ∧ SV vs' ws' ∧ Smalls ws' ∧ ell1 got ws5 sp5 = ell2 got ws' sp5 ep ∧
    Bd g L [(Str.ofString "want", .str want t), (Str.ofString "got", .str got u), (Str.ofString "ws", .ref D), (Str.ofString "endpos", .int ep t1), (Str.ofString "startpos", .int sp5 t2), (Str.ofString "w", .str p t3)] ((D, lst vs') :: M) h') ?_ ?_
  · repeat' walk_at "st"
    refine ttS (sz_line (by omega)) (fun _ => ?_)
    refine iteC (fun q => ?_) (fun q => ?_)
    · have q0 : ¬ z.length = 0 := by simpa using q
      repeat' walk_at "st"
      refine iteC (fun q1 => ?_) (fun q1 => ?_)
      · repeat' walk_at "st"
        refine oLenS (sz_line (by omega)) (fun _ _ => ?_)
        repeat' walk_at "st"
        rename Bd _ _ _ _ _ => b7
        refine oDel (b7.hp.lst (.head _)) (by omega) (by decide) (i := ws5.length - 1) (by rw [sv5.1]; exact idxN (by omega)) (fun h8 o8 x8 e8 l8 => ?_)
        repeat' walk_at "st"
        refine ⟨_, _, _, ws5.dropLast, _, _, _, _, _, rfl, sv5.last n5, ⟨by have := s5.1; simp; omega, fun p hp => s5.2 _ (List.dropLast_subset _ hp)⟩, ?_, b7.upd x8 e8 l8⟩
        unfold ell1; rw [hzl, if_neg q0, if_pos q1]
      · repeat' walk_at "st"
        refine DoneF.ret ?_
        rename Bd _ _ _ _ _ => b7
        refine ⟨?_, b7.tail.hp⟩
        unfold ell1; rw [hzl, if_neg q0, q1]; rfl
    · have q0 : z.length = 0 := by simpa using q
      repeat' walk_at "st"
      refine ⟨_, _, _, _, _, _, _, _, _, rfl, sv5, s5, ?_, by assumption⟩
      unfold ell1; rw [hzl, if_pos q0]
  rintro _ ⟨h9, t9, vs9, ws9, ep9, _, _, _, _, rfl, sv9, s9, e9, b9⟩
  rw [e9]
  clear e9 sv5 s5 hzl hvz hz5 zs b6 b4 n5 vl
  have vl : vs9.length ≤ 1000 := by have := sv9.1; have := s9.1; omega
  repeat' walk_at "st"
  refine iteD (fun q => ?_) (fun q => ?_)
  · repeat' walk_at "st"
    refine DoneF.ret ?_
    refine ⟨?_, b9.tail.hp⟩
    unfold ell2; rw [if_pos q]
  repeat' walk_at "st"
  obtain ⟨g', kg, b10, il⟩ := b9.fix
  have W' := W.up kg
  refine sFor (fun _ => rfl) ?_
  repeat' walk_at "st"
  refine fList hh b10 il (by kernel_rfl!) rfl (fun i g1 l1 M1 => M1 = M ∧ ∃ sp t1 t2 p t3, l1 = [(Str.ofString "want", .str want t), (Str.ofString "got", .str got u), (Str.ofString "ws", .ref D), (Str.ofString "endpos", .int ep9 t1), (Str.ofString "startpos", .int sp t2), (Str.ofString "w", .str p t3)] ∧
    ell2 got ws9 sp5 ep9 = ellLoop got ep9 (ws9.drop i) sp) ⟨rfl, _, _, _, _, _, rfl, ?_⟩ ?_ ?_
  · unfold ell2; rw [if_neg q]; rfl
  · rintro i v g1 l1 M1 h1 t1 I o hv k1 ⟨rfl, sp, _, _, _, _, rfl, e⟩ hb
    have W1 := W'.up k1
    have hi : i < ws9.length := by rw [← sv9.1]; exact (List.getElem?_eq_some_iff.mp hv).1
    obtain ⟨y, hy⟩ : ∃ y, ws9[i]? = some y := ⟨_, List.getElem?_eq_getElem hi⟩
    obtain ⟨ty, hv'⟩ := sv9.2 _ _ hy
    have ev := hv.symm.trans hv'
    cases ev
    have ys : y.length ≤ 1000 := s9.2 _ (List.mem_of_getElem? hy)
    have ed : ws9.drop i = y :: ws9.drop (i + 1) := by
      rw [List.drop_eq_getElem_cons hi]
      congr 1
      rw [List.getElem?_eq_getElem hi] at hy
      exact Option.some.inj hy
    rw [ed] at e
    have b11 := hb _ (by walk_at "sto")
    clear hb
    repeat' walk_at "st"
    refine iteD (fun q1 => ?_) (fun q1 => ?_)
    · repeat' walk_at "st"
      refine BEnd.ret (DoneF.ret ?_)
      rename Bd _ _ _ _ _ => b12
      refine ⟨?_, (b12.tail.hp.low k1).low kg⟩
      rw [e]; unfold ellLoop; rw [if_pos q1]
    · repeat' walk_at "st"
      refine oLenS (sz_line (by omega)) (fun _ _ => ?_)
      repeat' walk_at "st"
      rename Bd _ _ _ _ _ => b12
      refine BEnd.nxt Kp.rf b12 ⟨rfl, _, _, _, _, _, rfl, ?_⟩
      rw [e]; conv => lhs; unfold ellLoop
      rw [if_neg q1]
  · rintro g1 l1 M1 h1 t1 k1 ⟨rfl, sp, _, _, _, _, rfl, e⟩ b11
    repeat' walk_at "st"
    refine DoneF.ret ?_
    refine ⟨?_, (b11.hp.low k1).low kg⟩
    rw [e, List.drop_of_length_le (by have := sv9.1; omega)]; rfl
/-- what the search asks: the keys' values -/
structure KeyOk (w : World) (prog : Program) (gs : Array GenState) (dr : Drawn) (os : OsState) (g : Heap) (dep : Nat) (f : Addr) (as : List Value) (x : Value) (left : Bool) (p : Nat → Bool) : Prop where
  fn : ∃ o fd, g.get? f = some o ∧ o.data = .func fd
  ask : ∀ (i : Nat) v (A : Around) g' M h tk, A.handled = none → A.depth < dep → as[i]? = some v → Kp g g' → Hp g' M h →
    codeAny (model prog w) A (.call (.ref f) ⟨[v], []⟩) (Rt gs dr os fun r h' => ∃ g'', Kp g' g'' ∧ Hp g'' M h' ∧ ∀ (A : Around) (E : Value → Shared → Prop) (Q : Value → Shared → Prop) s, Q (.bool (p i)) s → wpAny (model prog w) A (if left then compareOp .Lt r x else compareOp .Lt x r) Q E s) ⟨h, gs, dr, tk, os⟩
theorem keepFnG {M : Model} {g : Heap} {a : Addr} (hf : ∃ o fd, g.get? a = some o ∧ o.data = .func fd) : Keeps' M (.ref a) (fun h => Kp g h) := fun h X => by
  obtain ⟨o, fd, e, d⟩ := hf
  refine ⟨.frame, .inl rfl, fun A Q E s k q => ?_⟩
  show wpAny M A (load a >>= _) Q E s
  refine wpAny_bind (wpAny_load (k _ _ (X _ _ e)) ?_)
  rw [d]; exact wpAny_pure q
/-- the items themselves are asked -/
structure CmpOk (w : World) (prog : Program) (as : List Value) (x : Value) (left : Bool) (p : Nat → Bool) : Prop where
  ask : ∀ (i : Nat) v, as[i]? = some v → ∀ (A : Around) (E : Value → Shared → Prop) (Q : Value → Shared → Prop) s, Q (.bool (p i)) s → wpAny (model prog w) A (if left then compareOp .Lt v x else compareOp .Lt x v) Q E s
local macro_rules | `(tactic| walk_at "stw") => `(tactic| fail "no step")
local macro_rules | `(tactic| walk_at "glow") => `(tactic| fail "no name")
theorem bisL_key (w : World) (prog : Program) (A : Around) (mb) (g h : Heap) (M) (gs dr tk os) (W : Wld (KK w) mb g) (H : Hp g M h) (hh : A.handled = none) (dep : Nat) (hd : A.depth + 1 < dep) (hdep : dep ≤ 900) (ad : Addr) (f : Addr) (as : List Value) (x : Value) (p : Nat → Bool) (hl : IsL g ad as) (hz : as.length ≤ 1000)
    (hk : KeyOk w prog gs dr os g dep f as x true p) (mono : ∀ i j, i ≤ j → j < as.length → p j = true → p i = true) :
    codeAny (model prog w) A (.call (.ref 193) ⟨[.ref ad, x], [(Str.ofString "key", .ref f)]⟩) (Rt gs dr os fun v h' => ∃ (r : Nat) (t : Tok) (g' : Heap), v = .int r t ∧ 0 ≤ r ∧ r ≤ as.length ∧ (∀ i, 0 ≤ i → i < r → p i = true) ∧ (∀ i, r ≤ i → i < as.length → p i = false) ∧ Kp g g' ∧ Hp g' M h') ⟨h, gs, dr, tk, os⟩ := by
  refine enter [(Str.ofString "a", .ref ad), (Str.ofString "x", x), (Str.ofString "lo", .int 0 523), (Str.ofString "hi", .none), (Str.ofString "key", .ref f)] W H (by omega) rfl rfl (by kernel_rfl!) rfl (binds_peek W H.keep fun S => by kernel_rfl!) (by kernel_rfl!) (by kernel_rfl!) (by kernel_rfl!) rfl rfl rfl (fun L h0 tk0 b => ?_)
  repeat' walk_at "st"
  refine iteD (fun q => absurd q (by omega)) (fun _ => ?_)
  repeat' walk_at "st"
  refine iteT ?_
  repeat' walk_at "st"
  refine oLenL (hl.up b.keep) (by omega) (fun _ _ => ?_)
  repeat' walk_at "st"
  refine iteF ?_
  repeat' walk_at "st"
  rename Bd _ _ _ _ _ => b1
  refine sWhile b1 (fun n g1 l1 M1 => M1 = M ∧ ∃ (lo hi : Nat) (t1 t2 : Tok), l1 = [(Str.ofString "a", .ref ad), (Str.ofString "x", x), (Str.ofString "lo", .int lo t1), (Str.ofString "hi", .int hi t2), (Str.ofString "key", .ref f)] ∧
    n = hi - lo ∧ 0 ≤ lo ∧ lo ≤ hi ∧ hi ≤ as.length ∧ (∀ i, 0 ≤ i → i < lo → p i = true) ∧ (∀ i, hi ≤ i → i < as.length → p i = false)) (as.length - 0)
    ⟨rfl, 0, as.length, _, _, rfl, rfl, Nat.le_refl _, by omega, Nat.le_refl _, fun i h1 h2 => absurd h2 (Nat.not_lt.mpr h1), fun i h1 h2 => absurd h2 (Nat.not_lt.mpr h1)⟩ ?_
  rintro n g1 l1 M1 h1 t1 k1 ⟨rfl, lo, hi, _, _, rfl, rfl, hl0, hlo, hhi, pl, ph⟩ b2
  have W1 := W.up k1
  have hl1 := hl.up k1
  repeat' walk_at "st"
  refine iteD (fun q => ?_) (fun q => ?_)
  · have q' : lo < hi := by omega
    repeat' walk_at "st"
    have em : ((lo : Int) + (hi : Int)).fdiv 2 = ((lo + hi) / 2 : Nat) := by
      rw [Int.fdiv_eq_ediv_of_nonneg _ (by decide)]; omega
    rename Bd _ _ _ _ _ => b3
    rw [em] at b3
    have m1 : (lo + hi) / 2 < hi := by omega
    have m0 : lo ≤ (lo + hi) / 2 := by omega
    generalize (lo + hi) / 2 = mid at *
    obtain ⟨v, hv⟩ : ∃ v, as[mid]? = some v := ⟨_, List.getElem?_eq_getElem (by omega)⟩
    refine rCallL b3 (by walk_at "has") (by kernel_rfl!) rfl (keepFnG (g := g1) (by obtain ⟨o, fd, e, d⟩ := hk.fn; exact ⟨o, fd, k1 _ _ e, d⟩)) (by kernel_rfl!) ?_
    repeat' walk_at "st"
    refine gIdx (hl1.up b3.keep) (by omega) (by omega) (by simpa using hv) (by kernel_rfl!) ?_
    repeat' walk_at "st"
    refine ⟨b3.keep, ?_⟩
    obtain ⟨oL, HL, back⟩ := b3.out
    refine use (hk.ask mid v _ g1 _ _ _ hh hd hv k1 HL) (fun r h4 t4 ⟨g2, k2, H2, cmp⟩ => ?_)
    have b4 := back _ _ _ H2
    have W2 := W1.up k2
    clear HL back H2 b3
    repeat' walk_at "st"
    refine cmp _ _ _ _ ?_
    repeat' walk_at "st"
    refine iteC (fun c => ?_) (fun c => ?_)
    · repeat' walk_at "st"
      rename Bd _ _ _ _ _ => b5
      rw [show (mid : Int) + 1 = ((mid + 1 : Nat) : Int) by omega] at b5
      have b6 := b5.fg (l' := [_, _, _, _, _]) (by walk_at "sub")
      refine WEnd.nxt (hi - (mid + 1)) k2 b6 (by omega) ⟨rfl, mid + 1, hi, _, _, rfl, rfl, by omega, by omega, hhi, fun i h0 hi' => ?_, ph⟩
      exact mono i mid (by omega) (by omega) c
    · repeat' walk_at "st"
      rename Bd _ _ _ _ _ => b5
      have b6 := b5.fg (l' := [_, _, _, _, _]) (by walk_at "sub")
      refine WEnd.nxt (mid - lo) k2 b6 (by omega) ⟨rfl, lo, mid, _, _, rfl, rfl, by omega, by omega, by omega, pl, fun i h1 h2 => ?_⟩
      cases e : p i with
      | false => rfl
      | true => rw [mono mid i h1 (by omega) e] at c; cases c
  · have q' : lo = hi := by omega
    subst q'
    repeat' walk_at "st"
    refine DoneF.ret ?_
    exact ⟨lo, _, g1, rfl, hl0, hhi, pl, ph, k1, b2.hp⟩

theorem bisR_key (w : World) (prog : Program) (A : Around) (mb) (g h : Heap) (M) (gs dr tk os) (W : Wld (KK w) mb g) (H : Hp g M h) (hh : A.handled = none) (dep : Nat) (hd : A.depth + 1 < dep) (hdep : dep ≤ 900) (ad : Addr) (f : Addr) (as : List Value) (x : Value) (p : Nat → Bool) (hl : IsL g ad as) (hz : as.length ≤ 1000)
    (hk : KeyOk w prog gs dr os g dep f as x false p) (mono : ∀ i j, i ≤ j → j < as.length → p i = true → p j = true) :
    codeAny (model prog w) A (.call (.ref 184) ⟨[.ref ad, x], [(Str.ofString "key", .ref f)]⟩) (Rt gs dr os fun v h' => ∃ (r : Nat) (t : Tok) (g' : Heap), v = .int r t ∧ 0 ≤ r ∧ r ≤ as.length ∧ (∀ i, 0 ≤ i → i < r → p i = false) ∧ (∀ i, r ≤ i → i < as.length → p i = true) ∧ Kp g g' ∧ Hp g' M h') ⟨h, gs, dr, tk, os⟩ := by
  refine enter [(Str.ofString "a", .ref ad), (Str.ofString "x", x), (Str.ofString "lo", .int 0 509), (Str.ofString "hi", .none), (Str.ofString "key", .ref f)] W H (by omega) rfl rfl (by kernel_rfl!) rfl (binds_peek W H.keep fun S => by kernel_rfl!) (by kernel_rfl!) (by kernel_rfl!) (by kernel_rfl!) rfl rfl rfl (fun L h0 tk0 b => ?_)
  repeat' walk_at "st"
  refine iteD (fun q => absurd q (by omega)) (fun _ => ?_)
  repeat' walk_at "st"
  refine iteT ?_
  repeat' walk_at "st"
  refine oLenL (hl.up b.keep) (by omega) (fun _ _ => ?_)
  repeat' walk_at "st"
  refine iteF ?_
  repeat' walk_at "st"
  rename Bd _ _ _ _ _ => b1
  refine sWhile b1 (fun n g1 l1 M1 => M1 = M ∧ ∃ (lo hi : Nat) (t1 t2 : Tok), l1 = [(Str.ofString "a", .ref ad), (Str.ofString "x", x), (Str.ofString "lo", .int lo t1), (Str.ofString "hi", .int hi t2), (Str.ofString "key", .ref f)] ∧
    n = hi - lo ∧ 0 ≤ lo ∧ lo ≤ hi ∧ hi ≤ as.length ∧ (∀ i, 0 ≤ i → i < lo → p i = false) ∧ (∀ i, hi ≤ i → i < as.length → p i = true)) (as.length - 0)
    ⟨rfl, 0, as.length, _, _, rfl, rfl, Nat.le_refl _, by omega, Nat.le_refl _, fun i h1 h2 => absurd h2 (Nat.not_lt.mpr h1), fun i h1 h2 => absurd h2 (Nat.not_lt.mpr h1)⟩ ?_
  rintro n g1 l1 M1 h1 t1 k1 ⟨rfl, lo, hi, _, _, rfl, rfl, hl0, hlo, hhi, pl, ph⟩ b2
  have W1 := W.up k1
  have hl1 := hl.up k1
  repeat' walk_at "st"
  refine iteD (fun q => ?_) (fun q => ?_)
  · have q' : lo < hi := by omega
    repeat' walk_at "st"
    have em : ((lo : Int) + (hi : Int)).fdiv 2 = ((lo + hi) / 2 : Nat) := by
      rw [Int.fdiv_eq_ediv_of_nonneg _ (by decide)]; omega
    rename Bd _ _ _ _ _ => b3
    rw [em] at b3
    have m1 : (lo + hi) / 2 < hi := by omega
    have m0 : lo ≤ (lo + hi) / 2 := by omega
    generalize (lo + hi) / 2 = mid at *
    obtain ⟨v, hv⟩ : ∃ v, as[mid]? = some v := ⟨_, List.getElem?_eq_getElem (by omega)⟩
    refine rCallL b3 (by walk_at "has") (by kernel_rfl!) rfl (keepFnG (g := g1) (by obtain ⟨o, fd, e, d⟩ := hk.fn; exact ⟨o, fd, k1 _ _ e, d⟩)) (by kernel_rfl!) ?_
    repeat' walk_at "st"
    refine gIdx (hl1.up b3.keep) (by omega) (by omega) (by simpa using hv) (by kernel_rfl!) ?_
    repeat' walk_at "st"
    refine ⟨b3.keep, ?_⟩
    obtain ⟨oL, HL, back⟩ := b3.out
    refine use (hk.ask mid v _ g1 _ _ _ hh hd hv k1 HL) (fun r h4 t4 ⟨g2, k2, H2, cmp⟩ => ?_)
    have b4 := back _ _ _ H2
    have W2 := W1.up k2
    clear HL back H2 b3
    repeat' walk_at "st"
    refine cmp _ _ _ _ ?_
    repeat' walk_at "st"
    refine iteC (fun c => ?_) (fun c => ?_)
    · repeat' walk_at "st"
      rename Bd _ _ _ _ _ => b5
      have b6 := b5.fg (l' := [_, _, _, _, _]) (by walk_at "sub")
      refine WEnd.nxt (mid - lo) k2 b6 (by omega) ⟨rfl, lo, mid, _, _, rfl, rfl, by omega, by omega, by omega, pl, fun i h1 h2 => ?_⟩
      exact mono mid i (by omega) (by omega) c
    · repeat' walk_at "st"
      rename Bd _ _ _ _ _ => b5
      rw [show (mid : Int) + 1 = ((mid + 1 : Nat) : Int) by omega] at b5
      have b6 := b5.fg (l' := [_, _, _, _, _]) (by walk_at "sub")
      refine WEnd.nxt (hi - (mid + 1)) k2 b6 (by omega) ⟨rfl, mid + 1, hi, _, _, rfl, rfl, by omega, by omega, hhi, fun i h0 hi' => ?_, ph⟩
      cases e : p i with
      | false => rfl
      | true => rw [mono i mid (by omega) (by omega) e] at c; cases c
  · have q' : lo = hi := by omega
    subst q'
    repeat' walk_at "st"
    refine DoneF.ret ?_
    exact ⟨lo, _, g1, rfl, hl0, hhi, pl, ph, k1, b2.hp⟩
local macro_rules | `(tactic| walk_at "glow") => `(tactic| fail "no name")
local macro_rules | `(tactic| walk_at "stw") => `(tactic| fail "no step")
theorem conv_n (w : World) (prog : Program) (A : Around) (mb) (g h : Heap) (M) (gs dr tk os) (W : Wld (KK w) mb g) (H : Hp g M h) (hd : A.depth < 990) (self : Value) (x : Str) (t : Tok) (hr : ReNo (KK w) 43 x) :
    codeAny (model prog w) A (.call (.ref 70) ⟨[self, .str x t], [(Str.ofString "name", .bool true)]⟩) (Rt gs dr os fun v h' => v = .str x t ∧ Hp g M h') ⟨h, gs, dr, tk, os⟩ := by
  refine enter [(Str.ofString "self", self), (Str.ofString "value", .str x t), (Str.ofString "name", .bool true)] W H (by omega) rfl rfl (by kernel_rfl!) rfl (binds_peek W H.keep fun S => by kernel_rfl!) (by kernel_rfl!) (by kernel_rfl!) (by kernel_rfl!) rfl rfl rfl (fun L h0 tk0 b => ?_)
  repeat' walk_at "st"
  refine iteT ?_
  repeat' walk_at "st"
  refine iteT ?_
  repeat' walk_at "st"
  rename Bd _ _ _ _ _ => b1
  refine mSearch W b1.keep (by kernel_rfl!) ?_
  repeat' walk_at "st"
  refine oSearch W b1.keep (by kernel_rfl!) hr ?_
  repeat' walk_at "st"
  refine iteF ?_
  repeat' walk_at "st"
  exact DoneF.ret ⟨rfl, b1.hp⟩
theorem conv_v (w : World) (prog : Program) (A : Around) (mb) (g h : Heap) (M) (gs dr tk os) (W : Wld (KK w) mb g) (H : Hp g M h) (hd : A.depth < 990) (self : Value) (x : Str) (t : Tok) (hr : ReNo (KK w) 48 x) :
    codeAny (model prog w) A (.call (.ref 70) ⟨[self, .str x t], [(Str.ofString "name", .bool false)]⟩) (Rt gs dr os fun v h' => v = .str x t ∧ Hp g M h') ⟨h, gs, dr, tk, os⟩ := by
  refine enter [(Str.ofString "self", self), (Str.ofString "value", .str x t), (Str.ofString "name", .bool false)] W H (by omega) rfl rfl (by kernel_rfl!) rfl (binds_peek W H.keep fun S => by kernel_rfl!) (by kernel_rfl!) (by kernel_rfl!) (by kernel_rfl!) rfl rfl rfl (fun L h0 tk0 b => ?_)
  repeat' walk_at "st"
  refine iteT ?_
  repeat' walk_at "st"
  refine iteF ?_
  repeat' walk_at "st"
  rename Bd _ _ _ _ _ => b1
  refine mSearch W b1.keep (by kernel_rfl!) ?_
  repeat' walk_at "st"
  refine oSearch W b1.keep (by kernel_rfl!) hr ?_
  repeat' walk_at "st"
  refine iteF ?_
  repeat' walk_at "st"
  exact DoneF.ret ⟨rfl, b1.hp⟩
theorem m_conv (w : World) : findIn (KK w) (.ref 171) (Str.ofString "_convert_string_type") = some (some (.ref 70)) := by kernel_rfl!
theorem m_head (w : World) : findIn (KK w) (.ref 171) (Str.ofString "_headers") = some none := by kernel_rfl!
local macro_rules | `(tactic| walk_at "meth") => `(tactic| first | with_reducible exact m_conv _ | walk_at "methw")
local macro_rules | `(tactic| walk_at "methw") => `(tactic| fail "no method")
local macro_rules | `(tactic| walk_at "stw") => `(tactic| first
  | ((with_reducible refine' mInst (by assumption) ?k0 (by assumption) ?k1 ?k2 ?k3 ?k4 ?_); (case k1 => kernel_rfl!); (case k2 => walk_at "meth"); (case k3 => kernel_rfl!); (case k4 => kernel_rfl!); (case k0 => (exact Bd.keep (by assumption))))
  | ((with_reducible refine' gAttr (by assumption) ?k0 (by assumption) ?k1 ?k2 ?k3 ?k4 ?_); (case k1 => kernel_rfl!); (case k2 => kernel_rfl!); (case k3 => exact m_head _); (case k4 => kernel_rfl!); (case k0 => (exact Bd.keep (by assumption))); intro _)
  | ((with_reducible refine' mqFk (by assumption) ?k1 ?k2 ?_); (case k1 => kernel_rfl!); (case k2 => kernel_rfl!))
  | ((with_reducible refine' mqF (by assumption) ?k1 ?k2 ?_); (case k1 => kernel_rfl!); (case k2 => kernel_rfl!)))
theorem delitem (w : World) (prog : Program) (A : Around) (mb) (g h : Heap) (M) (gs dr tk os) (W : Wld (KK w) mb g) (vs : List Value) (es : List (Str × Str)) (T Hd : Addr) (H : Hp g ((Hd, lst vs) :: M) h) (hh : A.handled = none) (hd : A.depth < 980) (t : Tab g 171 T Hd)
    (hp : Prs g vs es) (hz : es.length ≤ 100) (hk : ∀ e ∈ es, e.1.length ≤ 100) (x : Str) (u : Tok) (hx : x.length ≤ 100) (hr : ReNo (KK w) 43 (Txt.lower x)) :
    codeAny (model prog w) A (.call (.ref 89) ⟨[.ref T, .str x u], []⟩) (Rt gs dr os fun v h' => v = .none ∧ ∃ g' vs', Kp g g' ∧ Hp g' ((Hd, lst vs') :: M) h' ∧ Prs g' vs' (es.filter fun e => Txt.lower e.1 != Txt.lower x)) ⟨h, gs, dr, tk, os⟩ := by
  refine enterC [(Str.ofString "self", .ref T), (Str.ofString "name", .str x u)] [(Str.ofString "self", .ref T)] W H (by omega) rfl rfl (by kernel_rfl!) rfl (by kernel_rfl!) rfl (by kernel_rfl!) (fun L => by kernel_rfl!) (by simp) (by kernel_rfl!) (fun L => by kernel_rfl!) rfl rfl rfl (fun L h0 tk0 b => ?_)
  have b0 : Bd g L [(Str.ofString "self", .ref T)] ((L + 1, cel (some (.str x u))) :: (Hd, lst vs) :: M) h0 := b
  clear b
  repeat' walk_at "st"
  refine oLow (by omega) (fun _ _ => ?_)
  repeat' walk_at "st"
  rename Bd _ _ _ _ _ => b1
  refine ⟨b1.keep, ?_⟩
  obtain ⟨oL, HL, back⟩ := b1.out
  refine use (conv_n w prog _ mb _ _ _ _ _ _ _ W HL (by show A.depth + 1 < 990; omega) _ _ _ hr) (fun v h2 t2 ⟨ev, H2⟩ => ?_)
  subst ev
  have b2 := back _ _ _ H2
  clear HL H2 back b1
  repeat' walk_at "st"
  rename Bd _ _ _ _ _ => b3
  clear b2
  have elow : Txt.lower x = Txt.lower x := rfl
  refine xLC [(Str.ofString "name", L + 1)] rfl rfl (by kernel_rfl!) (fun _ => rfl) ?_
  repeat' walk_at "st"
  refine lcLM hh b3 (a := Hd) (vs := vs) (by walk_at "mem") (by rw [hp.len]; omega) (by kernel_rfl!) rfl rfl (.inl rfl) (fun C => by kernel_rfl!)
    (fun i g1 ys => Prs g1 ys ((es.take i).filter fun e => Txt.lower e.1 != Txt.lower x) ∧ ys.length ≤ i) ⟨.nil, Nat.le_refl _⟩ (fun _ _ _ j => j.2) ?_ ?_
  · intro i v g1 ys h1 t1 C D I o oL E1 hv k1 ⟨j1, j2⟩ b4
    have W1 := W.up k1
    obtain ⟨Ta, kn, tn, vn, tv, rfl, he, ht⟩ := hp.at_ hv
    have hkn : kn.length ≤ 100 := hk _ (List.mem_of_getElem? he)
    repeat' walk_at "st"
    refine gIdxT (b4.keep _ _ (k1 _ _ ht)) (by decide) (by decide) rfl (by kernel_rfl!) ?_
    repeat' walk_at "st"
    refine oLow (by omega) (fun _ _ => ?_)
    repeat' walk_at "st"
    rw [take_filter_succ _ he]
    refine iteC (fun q => ?_) (fun q => ?_)
    · repeat' walk_at "st"
      rename Bd _ _ _ _ _ => b5
      refine LcE.mk Kp.rf b5 ⟨?_, by simp; omega⟩
      rw [if_pos q]
      exact j1.snoc (k1 _ _ ht)
    · rename Bd _ _ _ _ _ => b5
      refine LcE.mk Kp.rf b5 ⟨?_, by omega⟩
      rw [if_neg (by simp [q]), List.append_nil]
      exact j1
  · intro g1 ys D h1 t1 k1 ⟨j1, j2⟩ hb
    have b4 := hb _ (.none _)
    clear hb
    show wpAny _ _ _ _ _ _
    have W1 := W.up k1
    obtain ⟨g2, k2, b5, il⟩ := b4.fix
    have W2 := W1.up k2
    have tb2 := (t.up k1).up k2
    repeat' walk_at "st"
    rename Bd _ _ _ _ _ => b6
    rename Heap.IsSliceOf _ _ _ _ _ => hsl
    rename Kp _ _ => ksl
    have b7 := b6.kp ksl
    have hne : Hd ≠ D := by
      rintro rfl
      obtain ⟨o, e, _⟩ := il
      have := (b7.hp.mu (Hd, lst vs) (by walk_at "mem")).2
      rw [e] at this; cases this
    have hys : ys.length ≤ 100 := by rw [hp.len] at j2; omega
    refine oSetSl (b7.hp.lst (a := Hd) (by walk_at "mem")) (IsL.up il b7.keep) hne hsl (by rw [hp.len]; omega) (by omega) (fun h3 o3 x3 e3 l3 => ?_)
    have b8 := b7.mset (by walk_at "mset") x3 e3 l3
    repeat' walk_at "st"
    refine DoneF.next ⟨rfl, g2, ys, k1.tr k2, b8.tail.hp, ?_⟩
    rw [hp.len, List.take_length] at j1
    exact j1.up k2
theorem setitem (w : World) (prog : Program) (A : Around) (mb) (g h : Heap) (M) (gs dr tk os) (W : Wld (KK w) mb g) (vs : List Value) (es : List (Str × Str)) (T Hd : Addr) (H : Hp g ((Hd, lst vs) :: M) h) (hh : A.handled = none) (hd : A.depth < 970) (t : Tab g 171 T Hd)
    (hp : Prs g vs es) (hz : es.length ≤ 90) (hk : ∀ e ∈ es, e.1.length ≤ 100) (x : Str) (u : Tok) (hx : x.length ≤ 100) (hr : ReNo (KK w) 43 (Txt.lower x)) (hr' : ReNo (KK w) 43 x) (y : Str) (u' : Tok) (hry : ReNo (KK w) 48 y) :
    codeAny (model prog w) A (.call (.ref 84) ⟨[.ref T, .str x u, .str y u'], []⟩) (Rt gs dr os fun v h' => v = .none ∧ ∃ g' vs', Kp g g' ∧ Hp g' ((Hd, lst vs') :: M) h' ∧ Prs g' vs' ((es.filter fun e => Txt.lower e.1 != Txt.lower x) ++ [(x, y)])) ⟨h, gs, dr, tk, os⟩ := by
  refine enter [(Str.ofString "self", .ref T), (Str.ofString "name", .str x u), (Str.ofString "val", .str y u')] W H (by omega) rfl rfl (by kernel_rfl!) rfl (binds_peek W H.keep fun S => by kernel_rfl!) (by kernel_rfl!) (by kernel_rfl!) (by kernel_rfl!) rfl rfl rfl (fun L h0 tk0 b => ?_)
  repeat' walk_at "st"
  rename Bd _ _ _ _ _ => b1
  refine oDelI W b1.keep t (f := 89) (by kernel_rfl!) (by kernel_rfl!) (by kernel_rfl!) ?_
  obtain ⟨oL, HL, back⟩ := b1.out
  refine use (delitem w prog (A.deeper _) mb _ _ _ _ _ _ _ W vs es T Hd (HL.perm (List.Perm.swap _ _ _)) hh (by show A.depth + 1 < 980; omega) t hp (by omega) hk x u hx hr) (fun v h2 t2 ⟨ev, g2, vs2, k2, H2, p2⟩ => ?_)
  subst ev
  have b2 := back _ _ _ (H2.perm (List.Perm.swap _ _ _))
  clear HL H2 back b1
  have W2 := W.up k2
  have tb2 := t.up k2
  repeat' walk_at "st"
  refine mApp (b2.hp.lst (.head _)) ?_
  repeat' walk_at "st"
  refine ⟨b2.keep, ?_⟩
  obtain ⟨oL, HL, back⟩ := b2.out
  refine use (conv_n w prog _ mb _ _ _ _ _ _ _ W2 HL (by show A.depth + 1 < 990; omega) _ _ _ hr') (fun v h3 t3 ⟨ev, H3⟩ => ?_)
  subst ev
  have b3 := back _ _ _ H3
  clear HL H3 back
  repeat' walk_at "st"
  refine ⟨b3.keep, ?_⟩
  obtain ⟨oL, HL, back⟩ := b3.out
  refine use (conv_v w prog _ mb _ _ _ _ _ _ _ W2 HL (by show A.depth + 1 < 990; omega) _ _ _ hry) (fun v h4 t4 ⟨ev, H4⟩ => ?_)
  subst ev
  have b4 := back _ _ _ H4
  clear HL H4 back b3 b2
  repeat' walk_at "st"
  refine oNewT (by simp) (fun D h5 k5 f5 d5 => ?_)
  obtain ⟨g6, k6, b6, fr⟩ := b4.freeze k5
  have dT := fr _ _ f5 d5
  have W6 := W2.up k6
  repeat' walk_at "st"
  have hf : (es.filter fun e => Txt.lower e.1 != Txt.lower x).length ≤ es.length := List.length_filter_le _ _
  refine oApp (b6.hp.lst (.head _)) (by rw [p2.len]; omega) (fun h7 o7 x7 e7 l7 => ?_)
  have b7 := b6.upd x7 e7 l7
  repeat' walk_at "st"
  exact DoneF.next ⟨rfl, g6, _, k2.tr k6, b7.hp, (p2.up k6).snoc dT⟩
theorem law_store (w : World) (prog : Program) (A : Around) (mb) (g h : Heap) (M) (gs dr tk os) (W : Wld (KK w) mb g) (vs : List Value) (es : List (Str × Str)) (T Hd : Addr) (H : Hp g ((Hd, lst vs) :: M) h) (hh : A.handled = none) (hd : A.depth < 960) (t : Tab g 171 T Hd)
    (hp : Prs g vs es) (hz : es.length ≤ 90) (hk : ∀ e ∈ es, e.1.length ≤ 100) (x : Str) (u : Tok) (hx : x.length ≤ 100) (hr : ReNo (KK w) 43 (Txt.lower x)) (hr' : ReNo (KK w) 43 x) (y : Str) (u' : Tok) (hry : ReNo (KK w) 48 y) :
    codeAny (model prog w) A (.call (.ref 207) ⟨[.ref T, .str x u, .str y u'], []⟩) (Rt gs dr os fun v h' => v = .none ∧ ∃ g' vs', Kp g g' ∧ Hp g' ((Hd, lst vs') :: M) h' ∧ Prs g' vs' ((es.filter fun e => Txt.lower e.1 != Txt.lower x) ++ [(x, y)])) ⟨h, gs, dr, tk, os⟩ := by
  refine enter [(Str.ofString "table", .ref T), (Str.ofString "name", .str x u), (Str.ofString "value", .str y u')] W H (by omega) rfl rfl (by kernel_rfl!) rfl (binds_peek W H.keep fun S => by kernel_rfl!) (by kernel_rfl!) (by kernel_rfl!) (by kernel_rfl!) rfl rfl rfl (fun L h0 tk0 b => ?_)
  repeat' walk_at "st"
  rename Bd _ _ _ _ _ => b1
  refine oSetI W b1.keep t (f := 84) (by kernel_rfl!) (by kernel_rfl!) (by kernel_rfl!) ?_
  obtain ⟨oL, HL, back⟩ := b1.out
  refine use (setitem w prog (A.deeper _) mb _ _ _ _ _ _ _ W vs es T Hd (HL.perm (List.Perm.swap _ _ _)) hh (by show A.depth + 1 < 970; omega) t hp (by omega) hk x u hx hr hr' y u' hry) (fun v h2 t2 ⟨ev, g2, vs2, k2, H2, p2⟩ => ?_)
  have b2 := back _ _ _ (H2.perm (List.Perm.swap _ _ _))
  repeat' walk_at "st"
  exact DoneF.next ⟨rfl, g2, _, k2, b2.hp, p2⟩
theorem keys_ (w : World) (prog : Program) (A : Around) (mb) (g h : Heap) (M) (gs dr tk os) (W : Wld (KK w) mb g) (vs : List Value) (es : List (Str × Str)) (T Hd : Addr) (H : Hp g ((Hd, lst vs) :: M) h) (hh : A.handled = none) (hd : A.depth < 980) (t : Tab g 171 T Hd)
    (hp : Prs g vs es) (hz : es.length ≤ 100) :
    codeAny (model prog w) A (.call (.ref 123) ⟨[.ref T], []⟩) (Rt gs dr os fun v h' => ∃ D g' ys, v = .ref D ∧ Kp g g' ∧ IsL g' D ys ∧ Hp g' ((Hd, lst vs) :: M) h' ∧ StrsAre ys (es.map (·.1))) ⟨h, gs, dr, tk, os⟩ := by
  refine enter [(Str.ofString "self", .ref T)] W H (by omega) rfl rfl (by kernel_rfl!) rfl (binds_peek W H.keep fun S => by kernel_rfl!) (by kernel_rfl!) (by kernel_rfl!) (by kernel_rfl!) rfl rfl rfl (fun L h0 tk0 b => ?_)
  repeat' walk_at "st"
  rename Bd _ _ _ _ _ => b3
  refine lcPM hh b3 (a := Hd) (vs := vs) (by walk_at "mem") (by rw [hp.len]; omega) hp.pair (by kernel_rfl!) rfl rfl (.inl rfl) (fun C => by kernel_rfl!) (fun C => by kernel_rfl!) (by kernel_rfl!)
    (fun i g1 ys => StrsAre ys ((es.take i).map (·.1)) ∧ ys.length ≤ i) ⟨.nil, Nat.le_refl _⟩ (fun _ _ _ j => j.2) ?_ ?_
  · intro i Ta v1 v2 g1 ys h1 t1 C D I o oL E1 hv ht k1 ⟨j1, j2⟩ b4
    have W1 := W.up k1
    obtain ⟨Tb, kn, tn, vn, tv, e1, he, ht'⟩ := hp.at_ hv
    cases e1
    obtain ⟨rfl, rfl⟩ := ist_inj ht ht'
    repeat' walk_at "st"
    rename Bd _ _ _ _ _ => b5
    refine LcE.mk Kp.rf b5 ⟨?_, by simp; omega⟩
    rw [take_map_succ _ he]
    exact SS.snoc j1
  · intro g1 ys D h1 t1 k1 ⟨j1, j2⟩ hb
    have b4 := hb _ (.none _)
    obtain ⟨g2, k2, b5, il⟩ := b4.fix
    refine UseQ.val (DoneF.ret ⟨D, g2, ys, rfl, k1.tr k2, il, b5.hp, ?_⟩)
    rw [hp.len, List.take_length] at j1
    exact j1
theorem values_ (w : World) (prog : Program) (A : Around) (mb) (g h : Heap) (M) (gs dr tk os) (W : Wld (KK w) mb g) (vs : List Value) (es : List (Str × Str)) (T Hd : Addr) (H : Hp g ((Hd, lst vs) :: M) h) (hh : A.handled = none) (hd : A.depth < 980) (t : Tab g 171 T Hd)
    (hp : Prs g vs es) (hz : es.length ≤ 100) :
    codeAny (model prog w) A (.call (.ref 128) ⟨[.ref T], []⟩) (Rt gs dr os fun v h' => ∃ D g' ys, v = .ref D ∧ Kp g g' ∧ IsL g' D ys ∧ Hp g' ((Hd, lst vs) :: M) h' ∧ StrsAre ys (es.map (·.2))) ⟨h, gs, dr, tk, os⟩ := by
  refine enter [(Str.ofString "self", .ref T)] W H (by omega) rfl rfl (by kernel_rfl!) rfl (binds_peek W H.keep fun S => by kernel_rfl!) (by kernel_rfl!) (by kernel_rfl!) (by kernel_rfl!) rfl rfl rfl (fun L h0 tk0 b => ?_)
  repeat' walk_at "st"
  rename Bd _ _ _ _ _ => b3
  refine lcPM hh b3 (a := Hd) (vs := vs) (by walk_at "mem") (by rw [hp.len]; omega) hp.pair (by kernel_rfl!) rfl rfl (.inl rfl) (fun C => by kernel_rfl!) (fun C => by kernel_rfl!) (by kernel_rfl!)
    (fun i g1 ys => StrsAre ys ((es.take i).map (·.2)) ∧ ys.length ≤ i) ⟨.nil, Nat.le_refl _⟩ (fun _ _ _ j => j.2) ?_ ?_
  · intro i Ta v1 v2 g1 ys h1 t1 C D I o oL E1 hv ht k1 ⟨j1, j2⟩ b4
    have W1 := W.up k1
    obtain ⟨Tb, kn, tn, vn, tv, e1, he, ht'⟩ := hp.at_ hv
    cases e1
    obtain ⟨rfl, rfl⟩ := ist_inj ht ht'
    repeat' walk_at "st"
    rename Bd _ _ _ _ _ => b5
    refine LcE.mk Kp.rf b5 ⟨?_, by simp; omega⟩
    rw [take_map_succ _ he]
    exact SS.snoc j1
  · intro g1 ys D h1 t1 k1 ⟨j1, j2⟩ hb
    have b4 := hb _ (.none _)
    obtain ⟨g2, k2, b5, il⟩ := b4.fix
    refine UseQ.val (DoneF.ret ⟨D, g2, ys, rfl, k1.tr k2, il, b5.hp, ?_⟩)
    rw [hp.len, List.take_length] at j1
    exact j1
/-- what get tells -/
def getOf (es : List (Str × Str)) (x : Str) : Option Str := (es.find? fun e => Txt.lower e.1 == x).map (·.2)
inductive OptS : Value → Option Str → Prop
  | none : OptS .none none
  | some (x : Str) (t : Tok) : OptS (.str x t) (some x)
theorem get_ (w : World) (prog : Program) (A : Around) (mb) (g h : Heap) (M) (gs dr tk os) (W : Wld (KK w) mb g) (vs : List Value) (es : List (Str × Str)) (T Hd : Addr) (H : Hp g ((Hd, lst vs) :: M) h) (hh : A.handled = none) (hd : A.depth < 980) (t : Tab g 171 T Hd)
    (hp : Prs g vs es) (hz : es.length ≤ 100) (hk : ∀ e ∈ es, e.1.length ≤ 100) (x : Str) (u : Tok) (hx : x.length ≤ 100) (hr : ReNo (KK w) 43 (Txt.lower x)) :
    codeAny (model prog w) A (.call (.ref 118) ⟨[.ref T, .str x u], []⟩) (Rt gs dr os fun v h' => ∃ g', Kp g g' ∧ Hp g' ((Hd, lst vs) :: M) h' ∧ OptS v (getOf es (Txt.lower x))) ⟨h, gs, dr, tk, os⟩ := by
  refine enter [(Str.ofString "self", .ref T), (Str.ofString "name", .str x u), (Str.ofString "default", .none)] W H (by omega) rfl rfl (by kernel_rfl!) rfl (binds_peek W H.keep fun S => by kernel_rfl!) (by kernel_rfl!) (by kernel_rfl!) (by kernel_rfl!) rfl rfl rfl (fun L h0 tk0 b => ?_)
  repeat' walk_at "st"
  refine oLow (by omega) (fun _ _ => ?_)
  repeat' walk_at "st"
  rename Bd _ _ _ _ _ => b1
  refine ⟨b1.keep, ?_⟩
  obtain ⟨oL, HL, back⟩ := b1.out
  refine use (conv_n w prog _ mb _ _ _ _ _ _ _ W HL (by show A.depth + 1 < 990; omega) _ _ _ hr) (fun v h2 t2 ⟨ev, H2⟩ => ?_)
  subst ev
  have b2 := back _ _ _ H2
  clear HL H2 back b1
  repeat' walk_at "st"
  rename Bd _ _ _ _ _ => b3
  refine sFor (fun _ => rfl) ?_
  repeat' walk_at "st"
  refine fListM2 hh b3 (a := Hd) (vs := vs) (by walk_at "mem") hp.pair (by kernel_rfl!) (by kernel_rfl!) rfl
    (fun i g1 l1 M1 => M1 = (Hd, lst vs) :: M ∧ (∃ tx, l1 = [(Str.ofString "self", .ref T), (Str.ofString "name", .str (Txt.lower x) tx), (Str.ofString "default", .none)]) ∧ getOf es (Txt.lower x) = getOf (es.drop i) (Txt.lower x))
    ⟨rfl, ⟨_, rfl⟩, rfl⟩ (fun i g' l' M' j => by rw [j.1]; walk_at "mem") ?_ ?_
  · rintro i Ta v1 v2 g1 l1 M1 h1 t1 I o hv ht k1 ⟨rfl, ⟨tx, rfl⟩, e⟩ hb
    have W1 := W.up k1
    obtain ⟨Tb, kn, tn, vn, tv, e1, he, ht'⟩ := hp.at_ hv
    cases e1
    obtain ⟨rfl, rfl⟩ := ist_inj ht ht'
    have hkn : kn.length ≤ 100 := hk _ (List.mem_of_getElem? he)
    have b4 := hb _ _ (by walk_at "sto") (by walk_at "sto")
    clear hb
    have hi : i < es.length := (List.getElem?_eq_some_iff.mp he).1
    have ed : es.drop i = (kn, vn) :: es.drop (i + 1) := by
      rw [List.drop_eq_getElem_cons hi]
      congr 1
      rw [List.getElem?_eq_getElem hi] at he
      exact Option.some.inj he
    repeat' walk_at "st"
    refine oLow (by omega) (fun _ _ => ?_)
    repeat' walk_at "st"
    refine iteC (fun q => ?_) (fun q => ?_)
    · repeat' walk_at "st"
      rename Bd _ _ _ _ _ => b5
      refine BEnd.ret (DoneF.ret ⟨g1, k1, b5.tail.hp, ?_⟩)
      rw [e, ed]
      unfold getOf
      rw [List.find?_cons_of_pos (by simpa using q)]
      exact .some _ _
    · repeat' walk_at "st"
      rename Bd _ _ _ _ _ => b5
      have b6 := b5.fg (l' := [(Str.ofString "self", .ref T), (Str.ofString "name", _), (Str.ofString "default", .none)]) (by walk_at "sub")
      refine BEnd.nxt Kp.rf b6 ⟨rfl, ⟨_, rfl⟩, ?_⟩
      rw [e, ed]
      unfold getOf
      rw [List.find?_cons_of_neg (by simpa using q)]
  · rintro g1 l1 M1 h1 t1 k1 ⟨rfl, ⟨tx, rfl⟩, e⟩ b4
    have W1 := W.up k1
    repeat' walk_at "st"
    refine DoneF.ret ⟨g1, k1, b4.hp, ?_⟩
    rw [e, List.drop_of_length_le (by rw [hp.len]; exact Nat.le_refl _)]
    exact .none
theorem init_ (w : World) (prog : Program) (A : Around) (mb) (g h : Heap) (M) (gs dr tk os) (W : Wld (KK w) mb g) (T dx : Addr) (H : Hp g ((T, (· = instObj 171 dx)) :: (dx, (· = emptyDict)) :: M) h) (hh : A.handled = none) (hd : A.depth < 980) :
    codeAny (model prog w) A (.call (.ref 63) ⟨[.ref T], []⟩) (Rt gs dr os fun v h' => v = .none ∧ ∃ g' Hd, Kp g g' ∧ Tab g' 171 T Hd ∧ Hp g' ((Hd, lst []) :: M) h') ⟨h, gs, dr, tk, os⟩ := by
  refine enter [(Str.ofString "self", .ref T), (Str.ofString "headers", .none)] W H (by omega) rfl rfl (by kernel_rfl!) rfl (binds_peek W H.keep fun S => by kernel_rfl!) (by kernel_rfl!) (by kernel_rfl!) (by kernel_rfl!) rfl rfl rfl (fun L h0 tk0 b => ?_)
  repeat' walk_at "st"
  refine iteF ?_
  repeat' walk_at "st"
  rename Bd _ _ _ _ _ => b1
  refine oNewL (by decide) (fun D h2 k2 f2 il => ?_)
  obtain ⟨oD, eD, lD⟩ := il
  have b2 := b1.add k2 f2 eD lD
  repeat' walk_at "st"
  rename Bd _ _ _ _ _ => b3
  refine oTypeL (b3.hp.lst (.head _)) ?_
  repeat' walk_at "st"
  refine iteF ?_
  repeat' walk_at "st"
  obtain ⟨⟨o1, e1, rfl⟩, _⟩ := b3.hp.mu (T, (· = instObj 171 dx)) (by walk_at "mem")
  obtain ⟨⟨o2, e2, rfl⟩, _⟩ := b3.hp.mu (dx, (· = emptyDict)) (by walk_at "mem")
  have ep : ∀ tk, Obj.putName (Str.ofString "_headers") (PyData.keyHash w.params (Str.ofString "_headers")) (.str (Str.ofString "_headers") tk) (.ref D) emptyDict = dictOf [⟨PyData.keyHash w.params (Str.ofString "_headers"), .str (Str.ofString "_headers") tk, .ref D⟩] 1 := fun tk => putName_dict _ _ _ _ [] 0
  refine oSetA W b3.keep e1 e2 (by kernel_rfl!) (by kernel_rfl!) (by kernel_rfl!) (by kernel_rfl!) (by rfl) (fun tk => ⟨_, _, congrArg Obj.data (ep tk), by simp⟩) (fun tk => by rw [ep]; rfl) (fun h4 t4 tk4 x4 e4 => ?_)
  have b4 := b3.mset (q := (· = dictOf [⟨PyData.keyHash w.params (Str.ofString "_headers"), .str (Str.ofString "_headers") tk4, .ref D⟩] 1)) (by walk_at "mset") x4 e4 (ep tk4)
  repeat' walk_at "st"
  refine iteT ?_
  repeat' walk_at "st"
  refine sFor (fun _ => rfl) ?_
  repeat' walk_at "st"
  refine fListM2 hh b4 (a := D) (vs := []) (by walk_at "mem") (fun i v e => by simp at e) (by kernel_rfl!) (by kernel_rfl!) rfl (fun i g1 l1 M1 => M1 = (D, lst []) :: (T, (· = instObj 171 dx)) :: (dx, (· = dictOf [⟨PyData.keyHash w.params (Str.ofString "_headers"), .str (Str.ofString "_headers") tk4, .ref D⟩] 1)) :: M) rfl
    (fun i g' l' M' j => by rw [j]; walk_at "mem") (fun i Ta v1 v2 g' l' M' h' tk' I o hv => by simp at hv) ?_
  rintro g5 l5 _ h5 t5 k5 rfl b5
  repeat' walk_at "st"
  have H5 := b5.hp
  obtain ⟨⟨o6, e6, rfl⟩, _⟩ := H5.mu (T, (· = instObj 171 dx)) (by walk_at "mem")
  obtain ⟨⟨o7, e7, rfl⟩, _⟩ := H5.mu (dx, (· = dictOf [⟨PyData.keyHash w.params (Str.ofString "_headers"), .str (Str.ofString "_headers") tk4, .ref D⟩] 1)) (by walk_at "mem")
  have nd := H5.nd
  simp only [List.map_cons, List.nodup_cons, List.mem_cons, not_or] at nd
  obtain ⟨g6, k6, H6, fr⟩ := (H5.sub (M' := (D, lst []) :: M) (.cons_cons _ (.cons _ (.cons _ (.refl _))))).freeze
  have n1 : T ∉ ((D, lst []) :: M).map (·.1) := by
    simp only [List.map_cons, List.mem_cons, not_or]
    exact ⟨fun q => nd.1.1 q.symm, nd.2.1.2⟩
  have n2 : dx ∉ ((D, lst []) :: M).map (·.1) := by
    simp only [List.map_cons, List.mem_cons, not_or]
    exact ⟨fun q => nd.1.2.1 q.symm, nd.2.2.1⟩
  exact DoneF.next ⟨rfl, g6, D, k5.tr k6, ⟨_, _, _, _, fr _ _ e6 n1, fr _ _ e7 n2⟩, H6⟩
theorem make_ (w : World) (prog : Program) (A : Around) (mb) (g h : Heap) (M) (gs dr tk os) (W : Wld (KK w) mb g) (H : Hp g M h) (hh : A.handled = none) (hd : A.depth < 970) {E : Value → Shared → Prop} {Q : Value → Shared → Prop}
    (q : ∀ T Hd g' h' tk', Kp g g' → Tab g' 171 T Hd → Hp g' ((Hd, lst []) :: M) h' → Q (.ref T) ⟨h', gs, dr, tk', os⟩) : wpAny (model prog w) A (call (.ref 171) [] []) Q E ⟨h, gs, dr, tk, os⟩ := by
  refine oMake (fI := 63) (P := fun v h' => ∃ T g' Hd, v = .ref T ∧ Kp g g' ∧ Tab g' 171 T Hd ∧ Hp g' ((Hd, lst []) :: M) h') W H.keep (by kernel_rfl!) (by kernel_rfl!) (by kernel_rfl!) (fun x dx h' k f1 f2 e1 e2 hne => ?_) (fun v h' tk' ⟨T, g', Hd, ev, k', t', H'⟩ => by subst ev; exact q T Hd g' h' tk' k' t' H')
  have H1 : Hp g ((x, (· = instObj 171 dx)) :: (dx, (· = emptyDict)) :: M) h' := H.add2 k f1 f2 hne e1 e2 rfl rfl
  refine Rt.mono (init_ w prog _ mb _ _ _ _ _ _ _ W x dx H1 hh (by show A.depth + 1 < 980; omega)) fun v h'' ⟨ev, g', Hd, k', t', H'⟩ => ⟨ev, x, g', Hd, rfl, k', t', H'⟩
/-! ## the plain law -/
namespace Pl
def ent (xs : List Nat) : Nat → List (Nat × Nat)
  | 0 => []
  | i + 1 => (ent xs i).filter (fun e => !(Nat.beq e.1 (xs.getD i 0))) ++ [(xs.getD i 0, i)]
def walkF (xs : List Nat) : Nat → Nat → List Nat
  | 0, _ => []
  | f + 1, i => match ent xs i with
    | [e, _, _] => e.2 :: walkF xs f e.2
    | _ => []
def fr (xs : List Nat) (i : Nat) : List Nat := walkF xs (i + 1) i
def cnt (xs : List Nat) (i p : Nat) : Nat := ((ent xs i).filter fun e => Nat.blt e.2 p).length
def dep (xs : List Nat) (i p : Nat) : Nat := ((fr xs i).filter fun f => Nat.ble p f).length
def str (xs : List Nat) (i p : Nat) : List Nat := (xs.take i).drop p
def sub : List Nat → List Nat → Bool
  | [], _ => true
  | _ :: _, [] => false
  | a :: as, b :: bs => if Nat.beq a b then sub as bs else sub (a :: as) bs
def words : Nat → List (List Nat)
  | 0 => [[]]
  | n + 1 => (words n).flatMap fun w => [w ++ [0], w ++ [1], w ++ [2]]
def lastOf (xs : List Nat) (i c : Nat) : Option Nat := ((ent xs i).find? (fun e => Nat.beq e.1 c)).map (·.2)
def beg (xs : List Nat) : Nat → List Nat → Option Nat
  | i, [] => some i
  | i, c :: r => match lastOf xs i c with
    | none => none
    | some n => beg xs n r
def way (xs : List Nat) (i p : Nat) : List Nat := (i :: fr xs i).take (dep xs i p + 1)
def tail (xs : List Nat) (i p : Nat) : List Nat := (((way xs i p).take (dep xs i p)).map fun f => ((ent xs f).getD 0 (0, 0)).1).reverse
def kept (xs : List Nat) (i p : Nat) : List Nat := let f := (way xs i p).getLastD 0; ((ent xs f).drop (cnt xs f p)).map (·.1)
def built (xs : List Nat) (i p : Nat) : List (List Nat) := ([0, 1, 2].filter fun c => !(kept xs i p).any (Nat.beq c ·)).map fun c => c :: tail xs i p
def missing (xs : List Nat) (i p : Nat) : List (List Nat) := (words (dep xs i p + 1)).filter fun w => !sub w (str xs i p)
def begB (xs : List Nat) (i p : Nat) (w : List Nat) : Bool := match beg xs i w.reverse with | none => false | some n => Nat.ble p n
def eqL : List Nat → List Nat → Bool
  | [], [] => true
  | a :: r, b :: q => Nat.beq a b && eqL r q
  | _, _ => false
def eqLL : List (List Nat) → List (List Nat) → Bool
  | [], [] => true
  | a :: r, b :: q => eqL a b && eqLL r q
  | _, _ => false
def ok (xs : List Nat) (i p : Nat) : Bool :=
  Nat.beq (ent xs i).length (cnt xs i p + ([0, 1, 2].filter fun c => (str xs i p).any (Nat.beq c ·)).length) && Nat.ble (dep xs i p) 2 &&
  (words (dep xs i p)).all (fun w => sub w (str xs i p)) && (words (dep xs i p + 1)).all (fun w => sub w (str xs i p) == begB xs i p w) &&
  !(built xs i p).isEmpty && eqLL (built xs i p) ((missing xs i p).filter fun w => eqL (w.drop 1) (tail xs i p))
def texts : Nat → List (List Nat)
  | 0 => [[]]
  | n + 1 => (texts n).flatMap fun w => [0 :: w, 1 :: w, 2 :: w]
/-- all of one text's fronts -/
def okT (xs : List Nat) : Bool := (List.range (xs.length + 1)).all fun i => (List.range (i + 1)).all fun p => ok xs i p
theorem t0 : ((texts 0).map (· ++ [0, 1, 2])).all okT = true := by decide +kernel
theorem t1 : ((texts 1).map (· ++ [0, 1, 2])).all okT = true := by decide +kernel
theorem t2 : ((texts 2).map (· ++ [0, 1, 2])).all okT = true := by decide +kernel
/-! the longest texts, in portions -/
def tx (a b : Nat) : List (List Nat) := (texts 2).map fun w => a :: b :: w
theorem t30 : (((texts 2).map (0 :: ·)).map (· ++ [0, 1, 2])).all okT = true := by decide +kernel
theorem t31 : (((texts 2).map (1 :: ·)).map (· ++ [0, 1, 2])).all okT = true := by decide +kernel
theorem t32 : (((texts 2).map (2 :: ·)).map (· ++ [0, 1, 2])).all okT = true := by decide +kernel
theorem t400 : ((tx 0 0).map (· ++ [0, 1, 2])).all okT = true := by decide +kernel
theorem t401 : ((tx 0 1).map (· ++ [0, 1, 2])).all okT = true := by decide +kernel
theorem t402 : ((tx 0 2).map (· ++ [0, 1, 2])).all okT = true := by decide +kernel
theorem t410 : ((tx 1 0).map (· ++ [0, 1, 2])).all okT = true := by decide +kernel
theorem t411 : ((tx 1 1).map (· ++ [0, 1, 2])).all okT = true := by decide +kernel
theorem t412 : ((tx 1 2).map (· ++ [0, 1, 2])).all okT = true := by decide +kernel
theorem t420 : ((tx 2 0).map (· ++ [0, 1, 2])).all okT = true := by decide +kernel
theorem t421 : ((tx 2 1).map (· ++ [0, 1, 2])).all okT = true := by decide +kernel
theorem t422 : ((tx 2 2).map (· ++ [0, 1, 2])).all okT = true := by decide +kernel
theorem mem_ext {n : Nat} {w : List Nat} (h : w ∈ texts (n + 1)) : ∃ a v, v ∈ texts n ∧ w = a :: v ∧ (a = 0 ∨ a = 1 ∨ a = 2) := by
  obtain ⟨v, hv, h'⟩ := List.mem_flatMap.mp (show w ∈ (texts n).flatMap fun w => [0 :: w, 1 :: w, 2 :: w] from h)
  simp only [List.mem_cons, List.not_mem_nil, or_false] at h'
  rcases h' with rfl | rfl | rfl
  · exact ⟨0, v, hv, rfl, .inl rfl⟩
  · exact ⟨1, v, hv, rfl, .inr (.inl rfl)⟩
  · exact ⟨2, v, hv, rfl, .inr (.inr rfl)⟩
theorem t3 : ((texts 3).map (· ++ [0, 1, 2])).all okT = true := by
  rw [List.all_eq_true]
  intro x hx
  obtain ⟨w, hw, rfl⟩ := List.mem_map.mp hx
  obtain ⟨a, v, hv, rfl, ha⟩ := mem_ext hw
  have key : ∀ a, (((texts 2).map (a :: ·)).map (· ++ [0, 1, 2])).all okT = true → okT ((a :: v) ++ [0, 1, 2]) = true := fun a h => List.all_eq_true.mp h _ (List.mem_map.mpr ⟨a :: v, List.mem_map.mpr ⟨v, hv, rfl⟩, rfl⟩)
  rcases ha with rfl | rfl | rfl
  · exact key 0 t30
  · exact key 1 t31
  · exact key 2 t32
theorem t4 : ((texts 4).map (· ++ [0, 1, 2])).all okT = true := by
  rw [List.all_eq_true]
  intro x hx
  obtain ⟨w, hw, rfl⟩ := List.mem_map.mp hx
  obtain ⟨a, u, hu, rfl, ha⟩ := mem_ext hw
  obtain ⟨b, v, hv, rfl, hb⟩ := mem_ext hu
  have key : ∀ a b, ((tx a b).map (· ++ [0, 1, 2])).all okT = true → okT ((a :: b :: v) ++ [0, 1, 2]) = true := fun a b h => List.all_eq_true.mp h _ (List.mem_map.mpr ⟨a :: b :: v, List.mem_map.mpr ⟨v, hv, rfl⟩, rfl⟩)
  rcases ha with rfl | rfl | rfl <;> rcases hb with rfl | rfl | rfl
  · exact key 0 0 t400
  · exact key 0 1 t401
  · exact key 0 2 t402
  · exact key 1 0 t410
  · exact key 1 1 t411
  · exact key 1 2 t412
  · exact key 2 0 t420
  · exact key 2 1 t421
  · exact key 2 2 t422
end Pl
/-! ## the law's small functions -/
def nameOf (n : Int) : Str := match (n.fmod 6).toNat with
  | 0 => Str.ofString "a" | 1 => Str.ofString "ab" | 2 => Str.ofString "abc" | 3 => Str.ofString "A" | 4 => Str.ofString "aB" | _ => Str.ofString "AbC"
theorem fmod_lt {a b : Int} (hb : 0 < b) : 0 ≤ a.fmod b ∧ a.fmod b < b := ⟨Int.fmod_nonneg_of_pos _ hb, Int.fmod_lt_of_pos _ hb⟩
theorem name_ (w : World) (prog : Program) (A : Around) (mb) (g h : Heap) (M) (gs dr tk os) (W : Wld (KK w) mb g) (H : Hp g M h) (hd : A.depth < 980) (n : Int) (t : Tok) :
    codeAny (model prog w) A (.call (.ref 214) ⟨[.int n t], []⟩) (Rt gs dr os fun v h' => ∃ t, v = .str (nameOf n) t ∧ Hp g M h') ⟨h, gs, dr, tk, os⟩ := by
  refine enter [(Str.ofString "number", .int n t)] W H (by omega) rfl rfl (by kernel_rfl!) rfl (binds_peek W H.keep fun S => by kernel_rfl!) (by kernel_rfl!) (by kernel_rfl!) (by kernel_rfl!) rfl rfl rfl (fun L h0 tk0 b => ?_)
  repeat' walk_at "st"
  rename Bd _ _ _ _ _ => b1
  refine oNewL (by simp) (fun D h2 k2 f2 il => ?_)
  have b2 := b1.kp k2
  repeat' walk_at "st"
  have hf := fmod_lt (a := n) (b := 6) (by decide)
  obtain ⟨k, hk⟩ : ∃ k : Nat, n.fmod 6 = k := ⟨_, (Int.toNat_of_nonneg hf.1).symm⟩
  have hk6 : k < 6 := by omega
  have hn : nameOf n = nameOf k := by
    unfold nameOf
    have : (k : Int).fmod 6 = k := by rw [Int.fmod_eq_emod_of_nonneg _ (by decide)]; omega
    rw [this, hk]
  rw [hn]
  generalize hv : ([_, _, _, _, _, _] : List Value) = vs at il ⊢
  have e : ∃ t, vs[k]? = some (.str (nameOf k) t) := by
    subst hv
    rcases k with _ | _ | _ | _ | _ | _ | k <;> first | exact ⟨_, rfl⟩ | omega
  obtain ⟨t', e⟩ := e
  refine gIdx (v := .str (nameOf k) t') il hf.1 (by omega) (by rw [hk]; exact e) (by kernel_rfl!) ?_
  exact DoneF.ret ⟨_, rfl, b2.hp⟩
theorem number_ (w : World) (prog : Program) (A : Around) (mb) (g h : Heap) (M) (gs dr tk os) (W : Wld (KK w) mb g) (H : Hp g M h) (hd : A.depth < 980) (x : Str) (t : Tok) (n : Int) (hx : PySem.intText? x = some n) (hz : x.length ≤ 640) :
    codeAny (model prog w) A (.call (.ref 221) ⟨[.str x t], []⟩) (Rt gs dr os fun v h' => ∃ t, v = .int (9 - n) t ∧ Hp g M h') ⟨h, gs, dr, tk, os⟩ := by
  refine enter [(Str.ofString "numeral", .str x t)] W H (by omega) rfl rfl (by kernel_rfl!) rfl (binds_peek W H.keep fun S => by kernel_rfl!) (by kernel_rfl!) (by kernel_rfl!) (by kernel_rfl!) rfl rfl rfl (fun L h0 tk0 b => ?_)
  repeat' walk_at "st"
  refine oInt hx hz (fun _ _ => ?_)
  repeat' walk_at "st"
  rename Bd _ _ _ _ _ => b1
  exact DoneF.ret ⟨_, rfl, b1.hp⟩
theorem turned_ (w : World) (prog : Program) (A : Around) (mb) (g h : Heap) (M) (gs dr tk os) (W : Wld (KK w) mb g) (H : Hp g M h) (hd : A.depth < 980) (n : Int) (t : Tok) :
    codeAny (model prog w) A (.call (.ref 228) ⟨[.int n t], []⟩) (Rt gs dr os fun v h' => ∃ t, v = .int (-n) t ∧ Hp g M h') ⟨h, gs, dr, tk, os⟩ := by
  refine enter [(Str.ofString "number", .int n t)] W H (by omega) rfl rfl (by kernel_rfl!) rfl (binds_peek W H.keep fun S => by kernel_rfl!) (by kernel_rfl!) (by kernel_rfl!) (by kernel_rfl!) rfl rfl rfl (fun L h0 tk0 b => ?_)
  repeat' walk_at "st"
  rename Bd _ _ _ _ _ => b1
  exact DoneF.ret ⟨_, rfl, b1.hp⟩
/-! ### rows -/
inductive Rws {α : Type} (R : List Value → List α → Prop) (g : Heap) : List Value → List (List α) → Prop
  | nil : Rws R g [] []
  | cons {D : Addr} {us : List Value} {r : List α} {vs rs} : IsL g D us → R us r → Rws R g vs rs → Rws R g (.ref D :: vs) (r :: rs)
namespace Rws
variable {α : Type} {R : List Value → List α → Prop} {g g' : Heap} {vs us : List Value} {rs qs : List (List α)}
theorem up (k : Kp g g') (x : Rws R g vs rs) : Rws R g' vs rs := by
  induction x with
  | nil => exact .nil
  | cons a b _ ih => exact .cons (a.up k) b ih
theorem len (x : Rws R g vs rs) : vs.length = rs.length := by
  induction x with
  | nil => rfl
  | cons _ _ _ ih => simp [ih]
theorem at_ (x : Rws R g vs rs) : ∀ {i : Nat} {r}, rs[i]? = some r → ∃ D us, vs[i]? = some (.ref D) ∧ IsL g D us ∧ R us r := by
  induction x with
  | nil => intro i r e; simp at e
  | @cons D us r vs rs a b _ ih =>
    intro i q e
    cases i with
    | zero => simp at e; subst e; exact ⟨D, us, rfl, a, b⟩
    | succ i => rw [List.getElem?_cons_succ] at e; exact ih e
theorem snoc {D : Addr} {us : List Value} {r : List α} (x : Rws R g vs rs) (a : IsL g D us) (b : R us r) : Rws R g (vs ++ [.ref D]) (rs ++ [r]) := by
  induction x with
  | nil => exact .cons a b .nil
  | cons a b _ ih => exact .cons a b ih
end Rws
/-- ints -/
inductive NsAre : List Value → List Nat → Prop
  | nil : NsAre [] []
  | cons (n : Nat) (t : Tok) {vs ns} : NsAre vs ns → NsAre (.int n t :: vs) (n :: ns)
theorem NsAre.len : ∀ {vs : List Value} {ys : List Nat}, NsAre vs ys → vs.length = ys.length
  | _, _, .nil => rfl
  | _, _, .cons _ _ h => by simp [NsAre.len h]
theorem NsAre.at_ : ∀ {vs : List Value} {ys : List Nat}, NsAre vs ys → ∀ {i : Nat} {y}, ys[i]? = some y → ∃ t, vs[i]? = some (.int y t)
  | _, _, .nil, _, _, e => by simp at e
  | _, _, .cons y t h, 0, _, e => by simp at e; subst e; exact ⟨t, rfl⟩
  | _, _, .cons y t h, i + 1, _, e => by simp at e ⊢; exact NsAre.at_ h e
theorem NsAre.append : ∀ {vs : List Value} {ys : List Nat} {us zs}, NsAre vs ys → NsAre us zs → NsAre (vs ++ us) (ys ++ zs)
  | _, _, _, _, .nil, h => h
  | _, _, _, _, .cons y t h, h' => .cons y t (NsAre.append h h')
theorem NsAre.take : ∀ {vs : List Value} {ys : List Nat}, NsAre vs ys → ∀ n, NsAre (vs.take n) (ys.take n)
  | _, _, .nil, n => by simp; exact .nil
  | _, _, .cons y t h, 0 => .nil
  | _, _, .cons y t h, n + 1 => .cons y t (NsAre.take h n)
/-- a place as the table holds it -/
def valS (n : Nat) : Str := Str.ofString (toString ((9 : Int) - n))
theorem valS_int {n : Nat} (h : n ≤ 9) : PySem.intText? (valS n) = some ((9 : Int) - n) := KIN.num_reads (by omega) (by omega)
theorem valS_len {n : Nat} (h : n ≤ 9) : (valS n).length ≤ 640 := by
  have : ∀ n, n ≤ 9 → (valS n).length ≤ 640 := by decide +kernel
  exact this n h
/-- rows of places -/
def PlR (us : List Value) (r : List Nat) : Prop := StrsAre us (r.map valS)
theorem walk_ (w : World) (prog : Program) (A : Around) (mb) (g h : Heap) (M) (gs dr tk os) (W : Wld (KK w) mb g) (H : Hp g M h) (hh : A.handled = none) (hd : A.depth < 970) (P : Addr) (pv : List Value) (rs : List (List Nat)) (hl : IsL g P pv) (hr : Rws PlR g pv rs) (hz : rs.length ≤ 100)
    (hw : ∀ i r, rs[i]? = some r → r.length ≤ 100 ∧ ∀ n ∈ r, n ≤ 9 ∧ n < i) (F : Nat → Nat → List Nat) (hF : ∀ f i, F (f + 1) i = match rs.getD i [] with | [a, b, c] => a :: F f a | _ => []) (i : Nat) (hi : i < rs.length) (t : Tok) :
    codeAny (model prog w) A (.call (.ref 235) ⟨[.ref P, .int i t], []⟩) (Rt gs dr os fun v h' => ∃ D g' ys, v = .ref D ∧ Kp g g' ∧ IsL g' D ys ∧ NsAre ys (F (i + 1) i) ∧ Hp g' M h') ⟨h, gs, dr, tk, os⟩ := by
  refine enter [(Str.ofString "places", .ref P), (Str.ofString "i", .int i t)] W H (by omega) rfl rfl (by kernel_rfl!) rfl (binds_peek W H.keep fun S => by kernel_rfl!) (by kernel_rfl!) (by kernel_rfl!) (by kernel_rfl!) rfl rfl rfl (fun L h0 tk0 b => ?_)
  repeat' walk_at "st"
  rename Bd _ _ _ _ _ => b1
  refine oNewL (by simp) (fun D h2 k2 f2 il => ?_)
  obtain ⟨oD, eD, lD⟩ := il
  have b2 := b1.add k2 f2 eD lD
  repeat' walk_at "st"
  rename Bd _ _ _ _ _ => b3
  refine sWhile b3 (fun n g1 l1 M1 => ∃ (i' f : Nat) (t1 : Tok) (ac : List Value) (an : List Nat), n = i' ∧ i' < rs.length ∧ i' ≤ f ∧ l1 = [(Str.ofString "places", .ref P), (Str.ofString "i", .int i' t1), (Str.ofString "fronts", .ref D)] ∧ M1 = (D, lst ac) :: M ∧
    NsAre ac an ∧ F (i + 1) i = an ++ F (f + 1) i' ∧ ac.length + i' ≤ i) i ⟨i, i, t, [], [], rfl, hi, Nat.le_refl _, rfl, rfl, .nil, rfl, by simp⟩ ?_
  rintro n g1 l1 M1 h1 t1 k1 ⟨i', f, _, ac, an, rfl, hi', hf, rfl, rfl, hac, eF, hb⟩ b4
  have W1 := W.up k1
  obtain ⟨r, er⟩ : ∃ r, rs[n]? = some r := ⟨_, List.getElem?_eq_getElem hi'⟩
  obtain ⟨Di, us, ev, il, hR⟩ := hr.at_ er
  obtain ⟨hr1, hr2⟩ := hw n r er
  have hus : us.length = r.length := by rw [SS.len hR]; simp
  have eg : rs.getD n [] = r := by rw [List.getD_eq_getElem?_getD, er]; rfl
  have il1 := il.up k1
  have hl1 := hl.up k1
  rw [hF f n, eg] at eF
  repeat' walk_at "st"
  refine gIdx (hl1.up b4.keep) (by omega) (by omega) (v := .ref Di) (by simpa using ev) (by kernel_rfl!) ?_
  repeat' walk_at "st"
  refine oLenL (il1.up b4.keep) (by omega) (fun _ _ => ?_)
  repeat' walk_at "st"
  refine iteC (fun q => ?_) (fun q => ?_)
  · have q3 : r.length = 3 := by have : (us.length : Int) = 3 := by simpa using q
                                 omega
    obtain ⟨a, b', c, rfl⟩ : ∃ a b c, r = [a, b, c] := by
      match r, q3 with
      | [a, b, c], _ => exact ⟨a, b, c, rfl⟩
    obtain ⟨ha9, han⟩ := hr2 a (.head _)
    obtain ⟨ta, hta⟩ := SS.at' hR (i := 0) (y := valS a) rfl
    repeat' walk_at "st"
    refine gIdx (hl1.up b4.keep) (by omega) (by omega) (v := .ref Di) (by simpa using ev) (by kernel_rfl!) ?_
    repeat' walk_at "st"
    refine gIdx (il1.up b4.keep) (by omega) (by omega) (v := .str (valS a) ta) (by simpa using hta) (by kernel_rfl!) ?_
    repeat' walk_at "st"
    refine ⟨b4.keep, ?_⟩
    obtain ⟨oL, HL, back⟩ := b4.out
    refine use (number_ w prog _ mb _ _ _ _ _ _ _ W1 HL (by show A.depth + 1 < 980; omega) _ _ _ (valS_int ha9) (valS_len ha9)) (fun v h5 t5 ⟨t6, ev5, H5⟩ => ?_)
    subst ev5
    have b5 := back _ _ _ H5
    clear HL H5 back b4
    rw [show (9 : Int) - (9 - (a : Int)) = a by omega]
    repeat' walk_at "st"
    rename Bd _ _ _ _ _ => b6
    refine mApp (b6.hp.lst (.head _)) ?_
    repeat' walk_at "st"
    refine oApp (b6.hp.lst (.head _)) (by omega) (fun h7 o7 x7 e7 l7 => ?_)
    have b7 := b6.upd x7 e7 l7
    repeat' walk_at "st"
    obtain ⟨f', rfl⟩ : ∃ f', f = f' + 1 := ⟨f - 1, by omega⟩
    refine WEnd.nxt a Kp.rf b7 han ⟨a, f', _, _, an ++ [a], rfl, by omega, by omega, rfl, rfl, hac.append (.cons _ _ .nil), ?_, by simp; omega⟩
    rw [eF, List.append_assoc]
    rfl
  · have q3 : r.length ≠ 3 := by
      have : ¬ (us.length : Int) = 3 := by simpa using q
      omega
    have e0 : (match r with | [a, b, c] => a :: F f a | _ => []) = [] := by
      match r, q3 with
      | [], _ => rfl
      | [_], _ => rfl
      | [_, _], _ => rfl
      | [_, _, _], q => exact absurd rfl q
      | _ :: _ :: _ :: _ :: _, _ => rfl
    rw [e0, List.append_nil] at eF
    repeat' walk_at "st"
    rename Bd _ _ _ _ _ => b5
    obtain ⟨g2, k2', b6, ilD⟩ := b5.fix
    refine DoneF.ret ⟨D, g2, ac, rfl, k1.tr k2', ilD, ?_, b6.hp⟩
    rw [eF]; exact hac
/-- a word of letters -/
def wS (ls : List Nat) : Str := ⟨(ls.map (97 + ·)).toArray⟩
def OpR (us : List Value) (r : List (Option Nat)) : Prop := us.length = r.length ∧ ∀ (i : Nat) (o : Option Nat), r[i]? = some o → ∃ v, us[i]? = some v ∧ OptS v (o.map valS)
theorem find_abc (c : Nat) (h : c < 3) : Txt.find (Str.ofString "abc") ⟨#[97 + c]⟩ = c := by
  have : ∀ c, c < 3 → Txt.find (Str.ofString "abc") ⟨#[97 + c]⟩ = c := by decide +kernel
  exact this c h
def begI : Option Nat → Int
  | none => -1
  | some n => n
theorem begins_ (w : World) (prog : Program) (A : Around) (mb) (g h : Heap) (M) (gs dr tk os) (W : Wld (KK w) mb g) (H : Hp g M h) (hh : A.handled = none) (hd : A.depth < 970) (P : Addr) (pv : List Value) (rs : List (List (Option Nat))) (hl : IsL g P pv) (hr : Rws OpR g pv rs) (hz : rs.length ≤ 100)
    (hw : ∀ (i : Nat) r, rs[i]? = some r → r.length = 3 ∧ ∀ n, some n ∈ r → n ≤ 9 ∧ n < rs.length) (G : Nat → List Nat → Option Nat) (hG0 : ∀ i, G i [] = some i) (hG : ∀ i c r, G i (c :: r) = match (rs.getD i []).getD c none with | none => none | some n => G n r) (i : Nat) (hi : i < rs.length) (t : Tok) (x : Str) (u : Tok) (ls : List Nat) (hls : ls.length ≤ 100) (hl3 : ∀ c ∈ ls, c < 3) (hx : slS x none none (some (-1)) = wS ls) :
    codeAny (model prog w) A (.call (.ref 242) ⟨[.ref P, .int i t, .str x u], []⟩) (Rt gs dr os fun v h' => ∃ t, v = .int (begI (G i ls)) t ∧ ∃ g', Kp g g' ∧ Hp g' M h') ⟨h, gs, dr, tk, os⟩ := by
  have hwl : (wS ls).length = ls.length := by simp [wS, Str.length]
  refine enter [(Str.ofString "lasts", .ref P), (Str.ofString "place", .int i t), (Str.ofString "word", .str x u)] W H (by omega) rfl rfl (by kernel_rfl!) rfl (binds_peek W H.keep fun S => by kernel_rfl!) (by kernel_rfl!) (by kernel_rfl!) (by kernel_rfl!) rfl rfl rfl (fun L h0 tk0 b => ?_)
  repeat' walk_at "st"
  refine sFor (fun _ => rfl) ?_
  repeat' walk_at "st"
  rename Kp _ _ => ks
  rename Heap.IsSliceOf _ _ _ _ _ => hs
  have b1 := b.kp ks
  refine gCutS (lo := none) (hi := none) (st := some (-1)) (by rw [hx, hwl]; omega) hs .none .none (.int _ _) (by decide) ⟨_, rfl⟩ (fun _ _ => ?_)
  rw [hx]
  refine fStr hh b1 (by simp only [wS, Array.all_toList, List.all_eq_true, ← Array.all_toList]; intro y hy; obtain ⟨z, hz', rfl⟩ := List.mem_map.mp hy; have := hl3 z hz'; simp; omega) (by kernel_rfl!) rfl
    (fun k g1 l1 M1 => M1 = M ∧ ∃ (p : Nat) (t1 : Tok), l1 = [(Str.ofString "lasts", .ref P), (Str.ofString "place", .int p t1), (Str.ofString "word", .str x u)] ∧ p < rs.length ∧ G i ls = G p (ls.drop k)) ⟨rfl, i, t, rfl, hi, rfl⟩ ?_ ?_
  · rintro k c t1 g1 l1 M1 h1 t2 I o hc k1 ⟨rfl, p, t3, rfl, hp, e⟩ hb
    have W1 := W.up k1
    have b2 := hb _ (by walk_at "sto")
    clear hb
    obtain ⟨a, ha, rfl⟩ : ∃ a, ls[k]? = some a ∧ c = 97 + a := by
      simp only [wS, List.getElem?_toArray, List.getElem?_map] at hc
      obtain ⟨a, ha, e⟩ := Option.map_eq_some_iff.mp hc
      exact ⟨a, ha, e.symm⟩
    have ha3 : a < 3 := hl3 a (List.mem_of_getElem? ha)
    have hk : k < ls.length := (List.getElem?_eq_some_iff.mp ha).1
    have ed : ls.drop k = a :: ls.drop (k + 1) := by
      rw [List.drop_eq_getElem_cons hk]
      congr 1
      rw [List.getElem?_eq_getElem hk] at ha
      exact Option.some.inj ha
    obtain ⟨r, er⟩ : ∃ r, rs[p]? = some r := ⟨_, List.getElem?_eq_getElem hp⟩
    obtain ⟨Di, us, ev, il, hR⟩ := hr.at_ er
    obtain ⟨hr1, hr2⟩ := hw p r er
    have il1 := il.up k1
    have hl1 := hl.up k1
    have eg : rs.getD p [] = r := by rw [List.getD_eq_getElem?_getD, er]; rfl
    rw [ed, hG, eg] at e
    obtain ⟨q, hq⟩ : ∃ q, r[a]? = some q := ⟨_, List.getElem?_eq_getElem (by omega)⟩
    obtain ⟨v, hv, hO⟩ := hR.2 a q hq
    have eq' : r.getD a none = q := by rw [List.getD_eq_getElem?_getD, hq]; rfl
    rw [eq'] at e
    repeat' walk_at "st"
    refine gIdx (hl1.up b2.keep) (by omega) (by omega) (v := .ref Di) (by simpa using ev) (by kernel_rfl!) ?_
    repeat' walk_at "st"
    rw [find_abc a ha3]
    refine gIdx (il1.up b2.keep) (by omega) (by omega) (v := v) (by simpa using hv) (by kernel_rfl!) ?_
    repeat' walk_at "st"
    match q, hO with
    | none, hO =>
      cases hO
      repeat' walk_at "st"
      refine iteT ?_
      repeat' walk_at "st"
      rename Bd _ _ _ _ _ => b3
      have e' : begI (G i ls) = -1 := by rw [e]; rfl
      rw [e']
      exact BEnd.ret (DoneF.ret ⟨_, rfl, g1, k1, b3.tail.hp⟩)
    | some n, hO =>
      cases hO
      obtain ⟨hn9, hnl⟩ := hr2 n (List.mem_of_getElem? hq)
      repeat' walk_at "st"
      refine iteF ?_
      repeat' walk_at "st"
      rename Bd _ _ _ _ _ => b3
      refine ⟨b3.keep, ?_⟩
      obtain ⟨oL, HL, back⟩ := b3.out
      refine use (number_ w prog _ mb _ _ _ _ _ _ _ W1 HL (by show A.depth + 1 < 980; omega) _ _ _ (valS_int hn9) (valS_len hn9)) (fun v h5 t5 ⟨t6, ev5, H5⟩ => ?_)
      subst ev5
      have b5 := back _ _ _ H5
      clear HL H5 back b2
      rw [show (9 : Int) - (9 - (n : Int)) = n by omega]
      repeat' walk_at "st"
      rename Bd _ _ _ _ _ => b6
      have b7 := b6.fg (l' := [(Str.ofString "lasts", .ref P), (Str.ofString "place", _), (Str.ofString "word", .str x u)]) (by walk_at "sub")
      exact BEnd.nxt Kp.rf b7 ⟨rfl, n, _, rfl, hnl, e⟩
  · rintro g1 l1 M1 h1 t2 k1 ⟨rfl, p, t3, rfl, hp, e⟩ b2
    repeat' walk_at "st"
    have e' : begI (G i ls) = p := by rw [e, List.drop_of_length_le (by simp [wS]), hG0]; rfl
    rw [e']
    exact DoneF.ret ⟨_, rfl, g1, k1, b2.hp⟩
/-- a word with dots ahead, between and behind -/
def dS (ls : List Nat) : Str := ls.foldl (fun d c => (d ++ (⟨#[97 + c]⟩ : Str)) ++ Str.ofString "...") (Str.ofString "...")
def wpair (ls : List Nat) : Str × Str := (wS ls, dS ls)
theorem wS_snoc (ls : List Nat) (c : Nat) : wS (ls ++ [c]) = wS ls ++ (⟨#[97 + c]⟩ : Str) := by
  show _ = Str.append _ _
  simp [wS, Str.append]
theorem dS_snoc (ls : List Nat) (c : Nat) : dS (ls ++ [c]) = (dS ls ++ (⟨#[97 + c]⟩ : Str)) ++ Str.ofString "..." := by
  unfold dS; rw [List.foldl_append]; rfl
theorem words_len : ∀ (n : Nat) (w : List Nat), w ∈ Pl.words n → w.length = n
  | 0, w, h => by simp [Pl.words] at h; subst h; rfl
  | n + 1, w, h => by
    simp only [Pl.words, List.mem_flatMap, List.mem_cons, List.not_mem_nil, or_false] at h
    obtain ⟨v, hv, h⟩ := h
    have := words_len n v hv
    rcases h with rfl | rfl | rfl <;> simp [this]
theorem words_small : (List.range 4).all (fun n => (Pl.words n).all fun w => decide ((wS w).length ≤ 3) && decide ((dS w).length ≤ 15)) = true := by decide +kernel
theorem words_sz {n : Nat} (h : n ≤ 3) {w : List Nat} (hw : w ∈ Pl.words n) : (wS w).length ≤ 3 ∧ (dS w).length ≤ 15 := by
  have := List.all_eq_true.mp (List.all_eq_true.mp words_small n (List.mem_range.mpr (by omega))) w hw
  simpa using this
theorem words_count {n : Nat} (h : n ≤ 3) : (Pl.words n).length ≤ 27 := by
  have : ∀ n, n ≤ 3 → (Pl.words n).length ≤ 27 := by decide +kernel
  exact this n h
theorem rng_ok (n : Nat) (h : n ≤ 100) : Builtin.Range.small 0 n 1 = true ∧ Builtin.Range.rangeSize 0 n 1 = (n : Int) := by
  have : (List.range 101).all (fun n => Builtin.Range.small 0 (n : Nat) 1 && Builtin.Range.rangeSize 0 (n : Nat) 1 == ((n : Nat) : Int)) = true := by decide +kernel
  have := List.all_eq_true.mp this n (List.mem_range.mpr (by omega))
  simpa using this
def ext3 (w : List Nat) : List (List Nat) := [w ++ [0], w ++ [1], w ++ [2]]
theorem ext3_len : ∀ q : List (List Nat), (q.flatMap ext3).length = q.length * 3
  | [] => rfl
  | a :: r => by rw [List.flatMap_cons, List.length_append, ext3_len r]; show 3 + _ = _; simp only [List.length_cons]; omega
theorem abc_size : (Str.ofString "abc").cps.size = 3 := by kernel_rfl!
theorem words_ (w : World) (prog : Program) (A : Around) (mb) (g h : Heap) (M) (gs dr tk os) (W : Wld (KK w) mb g) (H : Hp g M h) (hh : A.handled = none) (hd : A.depth < 970) (n : Nat) (hn : n ≤ 3) (t : Tok) :
    codeAny (model prog w) A (.call (.ref 247) ⟨[.int n t], []⟩) (Rt gs dr os fun v h' => ∃ D g' ys, v = .ref D ∧ Kp g g' ∧ IsL g' D ys ∧ Prs g' ys ((Pl.words n).map wpair) ∧ Hp g' M h') ⟨h, gs, dr, tk, os⟩ := by
  refine enter [(Str.ofString "size", .int n t)] W H (by omega) rfl rfl (by kernel_rfl!) rfl (binds_peek W H.keep fun S => by kernel_rfl!) (by kernel_rfl!) (by kernel_rfl!) (by kernel_rfl!) rfl rfl rfl (fun L h0 tk0 b => ?_)
  repeat' walk_at "st"
  rename Bd _ _ _ _ _ => b1
  refine oNewT (by simp) (fun T h2 k2 f2 d2 => ?_)
  obtain ⟨g3, k3, b3, fr3⟩ := b1.freeze k2
  have dT := fr3 _ _ f2 d2
  have W3 := W.up k3
  clear b1
  repeat' walk_at "st"
  refine oNewL (by simp) (fun D h4 k4 f4 il => ?_)
  obtain ⟨g5, k5, b5, fr5⟩ := b3.freeze k4
  obtain ⟨oD, eD, lD⟩ := il
  have ilD : IsL g5 D [.ref T] := ⟨oD, fr5 _ _ f4 eD, lD⟩
  have W5 := W3.up k5
  have dT5 := k5 _ _ dT
  clear b3
  repeat' walk_at "st"
  rename Bd _ _ _ _ _ => b6
  clear b5
  refine sFor (fun _ => rfl) ?_
  repeat' walk_at "st"
  refine oRange1 (fun r h7 t7 t0 u0 v0 k7 hr => ?_)
  have b7 := b6.kp k7
  refine fRange hh b7 hr (n := n) (rng_ok n (by omega)).1 (rng_ok n (by omega)).2 (by kernel_rfl!) rfl
    (fun k g1 l1 M1 => M1 = M ∧ ∃ D ys, l1 = [(Str.ofString "size", .int n t), (Str.ofString "words", .ref D)] ∧ IsL g1 D ys ∧ Prs g1 ys ((Pl.words k).map wpair)) ⟨rfl, D, _, rfl, ilD, .cons dT5 .nil⟩ ?_ ?_
  · rintro k tk' g1 l1 M1 h1 t1 I o hk k1 ⟨rfl, D', ys, rfl, il1, p1⟩ hb
    have W1 := W5.up k1
    have b8 := hb _ (by walk_at "sto")
    clear hb
    have hk3 : k ≤ 3 := by omega
    have hcount := words_count hk3
    have plen := p1.len
    rw [List.length_map] at plen
    repeat' walk_at "st"
    refine sLC2 [] (by kernel_rfl!) (by kernel_rfl!) rfl (by kernel_rfl!) (fun _ => rfl) ?_
    repeat' walk_at "st"
    refine lcP2 (tz := 0) hh b8 il1 (by omega) p1.pair (by kernel_rfl!) (by kernel_rfl!) rfl rfl (.inr ⟨_, _, rfl, by kernel_rfl!⟩) (fun C => by kernel_rfl!) (fun C => by kernel_rfl!) (fun C => by kernel_rfl!) (by kernel_rfl!) (by kernel_rfl!) (by kernel_rfl!)
      (fun i g2 zs => Prs g2 zs ((((Pl.words k).take i).flatMap ext3).map wpair)) .nil
      (fun i j g2 zs => ∃ ls, (Pl.words k)[i]? = some ls ∧ j ≤ 3 ∧ Prs g2 zs ((((Pl.words k).take i).flatMap ext3 ++ (ext3 ls).take j).map wpair)) (fun i g2 zs hi p => ⟨(Pl.words k)[i]'(by omega), List.getElem?_eq_getElem _, by omega, by simpa using p⟩) ?_ ?_ ?_ ?_
    · rintro i g2 zs ⟨ls, hls, _, p⟩
      rw [abc_size] at p
      rw [List.take_add_one, hls]
      simpa [ext3] using p
    · rintro i j g2 zs ⟨ls, hls, hj, p⟩
      have e := p.len
      rw [List.length_map, List.length_append, ext3_len, List.length_take, List.length_take] at e
      have e3 : (ext3 ls).length = 3 := rfl
      rw [e3] at e
      omega
    · rintro i T1 v1 v2 j c u2 g2 zs h2' t2' C D2 I1 I2 o1 o2 oL A' E2 hA' hv ht hc k2' ⟨ls, hls, hj, p⟩ B
      have W2 := W1.up k2'
      obtain ⟨Tb, kn, tn, vn, tv, e1, he, ht'⟩ := p1.at_ hv
      cases e1
      obtain ⟨rfl, rfl⟩ := ist_inj ht ht'
      have he' : (kn, vn) = wpair ls := by
        rw [List.getElem?_map, hls] at he
        exact (Option.some.inj he).symm
      obtain ⟨rfl, rfl⟩ := Prod.mk.inj he'
      have hsz := words_sz hk3 (List.mem_of_getElem? hls)
      have hj3 : j < 3 := by
        have := (Array.getElem?_eq_some_iff.mp hc).1
        exact this
      have hcj : c = 97 + j := by
        have : ∀ j, j < 3 → (Str.ofString "abc").cps[j]? = some (97 + j) := by decide +kernel
        rw [this j hj3] at hc
        exact (Option.some.inj hc).symm
      subst hcj
      repeat' walk_at "st"
      refine oCat (sz_line (by have : ({ cps := #[97 + j] } : Str).length = 1 := rfl
                               omega)) (fun _ _ => ?_)
      repeat' walk_at "st"
      refine oCat (sz_line (by have : ({ cps := #[97 + j] } : Str).length = 1 := rfl
                               omega)) (fun _ _ => ?_)
      repeat' walk_at "st"
      have el : (dS ls ++ ({ cps := #[97 + j] } : Str)).length ≤ 16 := by
        have : (dS ls ++ ({ cps := #[97 + j] } : Str)).length = (dS ls).length + 1 := by
          show (Str.append _ _).length = _
          simp [Str.append, Str.length]
        omega
      refine oCat (sz_line (by have : (Str.ofString "...").length = 3 := by kernel_rfl!
                               omega)) (fun _ _ => ?_)
      repeat' walk_at "st"
      rename Bd _ _ _ _ _ => B3
      refine oNewT (by simp) (fun T3 h3 k3 f3 d3 => ?_)
      obtain ⟨g4, k4, B4, fr4⟩ := B3.freeze k3
      refine ⟨g4, _, _, _, rfl, k4, B4, ls, hls, hj3, ?_⟩
      have p4 := (p.up k4).snoc (fr4 _ _ f3 d3)
      have ex : (ext3 ls).take (j + 1) = (ext3 ls).take j ++ [ls ++ [j]] := by
        rcases j with _ | _ | _ | j
        · rfl
        · rfl
        · rfl
        · omega
      rw [ex, ← List.append_assoc, List.map_append]
      have ew : wpair (ls ++ [j]) = (wS ls ++ ({ cps := #[97 + j] } : Str), (dS ls ++ ({ cps := #[97 + j] } : Str)) ++ Str.ofString "...") := by
        unfold wpair; rw [wS_snoc, dS_snoc]
      simp only [List.map_cons, List.map_nil, ew]
      exact p4
    · intro g2 zs D2 h2' t2' k2' p hb
      have B := hb _ (.name (by walk_at "sto"))
      clear hb
      obtain ⟨g3', k3', B3, il3⟩ := B.fix
      refine UseQ.put ?_
      repeat' walk_at "st"
      have B4 := B3.fg (l' := [(Str.ofString "size", .int n t), (Str.ofString "words", .ref D2)]) (by walk_at "sub")
      refine BEnd.nxt (k2'.tr k3') B4 ⟨rfl, D2, zs, rfl, il3, ?_⟩
      rw [plen, List.take_length] at p
      have ew : Pl.words (k + 1) = (Pl.words k).flatMap ext3 := rfl
      rw [ew]
      exact p.up k3'
  · rintro g1 l1 M1 h1 t1 k1 ⟨rfl, D', ys, rfl, il1, p1⟩ b8
    repeat' walk_at "st"
    exact DoneF.ret ⟨D', g1, ys, rfl, (k3.tr k5).tr k1, il1, p1, b8.hp⟩
/-! ## the dotted words in a stretch -/
theorem wS_len (L : List Nat) : (wS L).length = L.length := by simp [wS, Str.length]
theorem from_nat (n i : Nat) : fromIndex n (i : Int) = i := by
  unfold fromIndex
  have : ¬ ((i : Int) < 0) := by omega
  rw [if_neg this]
  omega
theorem at_char (L : List Nat) (a i : Nat) : StrLaws.At (wS L) (⟨#[97 + a]⟩ : Str) L.length i ↔ L[i]? = some a := by
  unfold StrLaws.At
  have e := StrLaws.subAt_one (wS L) (97 + a) i
  rw [wS_len] at e
  refine Iff.trans e ?_
  simp only [wS, List.getElem?_map, Option.map_eq_some_iff]
  constructor
  · rintro ⟨b, hb, hab⟩
    rw [hb]; congr 1; omega
  · intro h; exact ⟨a, h, rfl⟩
theorem range_split {s n a : Nat} {pre post : List Nat} (h : List.range' s n = pre ++ a :: post) : ∀ k, s ≤ k → k < a → k ∈ pre := by
  intro k hs hk
  have hL : n = pre.length + (post.length + 1) := by
    have := congrArg List.length h
    simpa using this
  have hlen : s + pre.length = a := by
    have h1 : (List.range' s n)[pre.length]? = some a := by rw [h]; simp
    rw [List.getElem?_range'] at h1
    · simpa using h1
    · omega
  have h2 : (List.range' s n)[k - s]? = pre[k - s]? := by rw [h, List.getElem?_append_left (by omega)]
  rw [List.getElem?_range'] at h2
  · have h3 : pre[k - s]? = some k := by rw [← h2]; simp; omega
    exact List.mem_of_getElem? h3
  · omega
theorem occ_from (x y : Str) (lo hi : Nat) : (Builtin.Str.occurrences x y lo hi 1 = [] ∧ ∀ i, lo ≤ i → i ≤ hi → ¬ StrLaws.At x y hi i) ∨ ∃ i r, Builtin.Str.occurrences x y lo hi 1 = i :: r ∧ lo ≤ i ∧ StrLaws.At x y hi i ∧ ∀ k, lo ≤ k → k < i → ¬ StrLaws.At x y hi k := by
  rw [StrLaws.occ_eq]
  rcases StrLaws.occ_first x y hi 1 (Nat.le_refl _) (List.range' lo (hi + 1 - lo)) lo (fun i h => by simp [List.mem_range'] at h; omega) with ⟨h0, hn⟩ | ⟨pre, a, post, e, h0, ha, hn⟩
  · refine .inl ⟨by rw [h0], fun i h1 h2 => ?_⟩
    exact hn i (by simp only [List.mem_range'_1]; omega)
  · refine .inr ⟨a, ((forIn (List.range' lo (hi + 1 - lo)) ((#[] : Array Nat), lo) (StrLaws.occBody x y hi 1)).run.fst.toList).tail, ?_, ?_, ha, fun k h1 hk => hn k (range_split e k h1 hk)⟩
    · generalize (forIn (List.range' lo (hi + 1 - lo)) ((#[] : Array Nat), lo) (StrLaws.occBody x y hi 1)).run.fst = arr at h0
      have h1 : arr.toList[0]? = some a := by simpa using h0
      cases hL : arr.toList with
      | nil => rw [hL] at h1; cases h1
      | cons b t => rw [hL] at h1; simp at h1; rw [h1]; rfl
    · have : a ∈ List.range' lo (hi + 1 - lo) := by rw [e]; simp
      simp only [List.mem_range'_1] at this
      omega
theorem find_char (L : List Nat) (a sp : Nat) : (a ∉ L.drop sp ∧ find4 (wS L) (⟨#[97 + a]⟩ : Str) sp L.length < 0) ∨
    ∃ k, sp ≤ k ∧ L[k]? = some a ∧ (∀ j, sp ≤ j → j < k → L[j]? ≠ some a) ∧ find4 (wS L) (⟨#[97 + a]⟩ : Str) sp L.length = (k : Int) := by
  have hf : min (fromIndex (wS L).length (L.length : Int)) (wS L).length = L.length := by rw [from_nat, wS_len]; omega
  have hs : fromIndex (wS L).length (sp : Int) = sp := from_nat _ _
  rcases occ_from (wS L) (⟨#[97 + a]⟩ : Str) sp L.length with ⟨h0, hn⟩ | ⟨i, r, h0, h1, h2, h3⟩
  · refine .inl ⟨fun hm => ?_, by unfold find4; rw [hs, hf, h0]; decide⟩
    obtain ⟨j, hj⟩ := List.mem_iff_getElem?.mp hm
    rw [List.getElem?_drop] at hj
    have hlt := (List.getElem?_eq_some_iff.mp hj).1
    exact hn (sp + j) (by omega) (by omega) ((at_char L a _).mpr hj)
  · refine .inr ⟨i, h1, (at_char L a i).mp h2, fun j h4 h5 h6 => h3 j h4 h5 ((at_char L a j).mpr h6), by unfold find4; rw [hs, hf, h0]⟩
theorem find_none (L : List Nat) (sp : Nat) (h : sp ≤ L.length) : find4 (wS L) Str.empty sp L.length = (sp : Int) := by
  have hf : min (fromIndex (wS L).length (L.length : Int)) (wS L).length = L.length := by rw [from_nat, wS_len]; omega
  have hs : fromIndex (wS L).length (sp : Int) = sp := from_nat _ _
  have at0 : StrLaws.At (wS L) Str.empty L.length sp := by
    refine ⟨by show sp + 0 ≤ _; omega, ?_⟩
    unfold Builtin.Str.subAt
    have e1 : (Str.empty).length = 0 := rfl
    rw [e1]
    simp [Str.empty]
    exact Nat.min_le_left _ _
  rcases occ_from (wS L) Str.empty sp L.length with ⟨h0, hn⟩ | ⟨i, r, h0, h1, h2, h3⟩
  · exact absurd at0 (hn sp (Nat.le_refl _) h)
  · have : i = sp := by
      by_cases hi : sp < i
      · exact absurd at0 (h3 sp (Nat.le_refl _) hi)
      · omega
    unfold find4
    rw [hs, hf, h0, this]
theorem sub_nil : ∀ M : List Nat, Pl.sub [] M = true
  | [] => rfl
  | _ :: _ => rfl
theorem sub_none {a : Nat} {r : List Nat} : ∀ {M : List Nat}, a ∉ M → Pl.sub (a :: r) M = false
  | [], _ => rfl
  | b :: M, h => by
    have hb : Nat.beq a b = false := by
      cases e : Nat.beq a b with
      | false => rfl
      | true => exact absurd (.head _) (Nat.eq_of_beq_eq_true e ▸ h)
    unfold Pl.sub
    rw [hb]
    exact sub_none (fun q => h (.tail _ q))
theorem sub_at {a : Nat} {r post : List Nat} : ∀ {pre : List Nat}, a ∉ pre → Pl.sub (a :: r) (pre ++ a :: post) = Pl.sub r post
  | [], _ => by
    show (if Nat.beq a a = true then _ else _) = _
    rw [if_pos (Nat.beq_refl a)]
  | b :: M, h => by
    have hb : Nat.beq a b = false := by
      cases e : Nat.beq a b with
      | false => rfl
      | true => exact absurd (.head _) (Nat.eq_of_beq_eq_true e ▸ h)
    show (if Nat.beq a b = true then _ else _) = _
    rw [hb]
    exact sub_at (fun q => h (.tail _ q))
def sg (a : Nat) : Str := ⟨#[97 + a]⟩
theorem loop_sub (L : List Nat) : ∀ (ls : List Nat) (sp : Nat), sp ≤ L.length → ellLoop (wS L) L.length (ls.map sg ++ [Str.empty]) sp = Pl.sub ls (L.drop sp)
  | [], sp, h => by
    rw [sub_nil]
    show (if find4 (wS L) Str.empty sp L.length < 0 then false else true) = true
    rw [find_none L sp h, if_neg (by omega)]
  | a :: r, sp, h => by
    show (if find4 (wS L) (sg a) sp L.length < 0 then false else ellLoop (wS L) L.length (r.map sg ++ [Str.empty]) (find4 (wS L) (sg a) sp L.length + (sg a).length)) = _
    rcases find_char L a sp with ⟨h1, h2⟩ | ⟨k, h1, h2, h3, h4⟩
    · rw [show sg a = (⟨#[97 + a]⟩ : Str) from rfl, if_pos h2, sub_none h1]
    · have hk : k < L.length := (List.getElem?_eq_some_iff.mp h2).1
      rw [show sg a = (⟨#[97 + a]⟩ : Str) from rfl, h4, if_neg (by omega)]
      have e1 : ((⟨#[97 + a]⟩ : Str)).length = 1 := rfl
      rw [e1]
      have ih := loop_sub L r (k + 1) hk
      rw [show ((k : Int) + ((1 : Nat) : Int)) = ((k + 1 : Nat) : Int) by omega, ih]
      have ed : L.drop sp = (L.drop sp).take (k - sp) ++ a :: L.drop (k + 1) := by
        conv => lhs; rw [← List.take_append_drop (k - sp) (L.drop sp)]
        congr 1
        rw [List.drop_drop, show sp + (k - sp) = k by omega, List.drop_eq_getElem_cons hk]
        congr 1
        rw [List.getElem?_eq_getElem hk] at h2
        exact Option.some.inj h2
      rw [ed]
      refine (sub_at fun hm => ?_).symm
      obtain ⟨j, hj⟩ := List.mem_iff_getElem?.mp hm
      rw [List.getElem?_take] at hj
      split at hj
      · rw [List.getElem?_drop] at hj
        exact h3 (sp + j) (by omega) (by omega) hj
      · cases hj
/-- the pieces of a dotted word -/
def pcs (ls : List Nat) : List Str := Str.empty :: (ls.map sg ++ [Str.empty])
theorem ell_sub (ls L : List Nat) : ellP (pcs ls) (wS L) = Pl.sub ls L := by
  unfold ellP pcs
  have e0 : (Str.empty).length = 0 := rfl
  rw [List.headD_cons, if_pos e0]
  unfold ell1
  have el : ((Str.empty :: (ls.map sg ++ [Str.empty])).getLastD Str.empty) = Str.empty := by
    rw [← List.cons_append, List.getLastD_concat]
  rw [el, if_pos e0]
  unfold ell2
  rw [wS_len, if_neg (by omega)]
  show (if find4 (wS L) Str.empty 0 L.length < 0 then false else ellLoop (wS L) L.length (ls.map sg ++ [Str.empty]) (find4 (wS L) Str.empty 0 L.length + (Str.empty).length)) = _
  have hf := find_none L 0 (Nat.zero_le _)
  rw [show ((0 : Nat) : Int) = 0 from rfl] at hf
  rw [hf, if_neg (by omega), e0]
  have := loop_sub L ls 0 (Nat.zero_le _)
  simpa using this
theorem split_ok : (List.range 4).all (fun n => (Pl.words n).all fun w => (Txt.split (dS w) dots == pcs w) && !(Builtin.Str.occurrences (dS w) dots 0 (dS w).length 1).isEmpty) = true := by decide +kernel
/-! ## names and letters -/
def lt (v : Int) : Nat := (v.fmod 3).toNat
def low3 : Nat → Str
  | 0 => Str.ofString "a"
  | 1 => Str.ofString "ab"
  | _ => Str.ofString "abc"
theorem name_k (v : Int) : ∃ k : Nat, k < 6 ∧ nameOf v = nameOf (k : Nat) ∧ lt v = k % 3 := by
  have h6 := fmod_lt (a := v) (b := 6) (by decide)
  refine ⟨(v.fmod 6).toNat, by omega, ?_, ?_⟩
  · unfold nameOf
    have : (((v.fmod 6).toNat : Nat) : Int).fmod 6 = v.fmod 6 := by
      rw [Int.fmod_eq_emod_of_nonneg _ (by decide), Int.toNat_of_nonneg h6.1, Int.fmod_eq_emod_of_nonneg _ (by decide)]
      omega
    rw [this]
  · unfold lt
    rw [Int.fmod_eq_emod_of_nonneg _ (by decide), Int.fmod_eq_emod_of_nonneg _ (by decide)]
    omega
theorem name_tab : (List.range 6).all (fun k => (Txt.lower (nameOf (k : Nat)) == low3 (k % 3)) && decide ((nameOf (k : Nat)).length = k % 3 + 1)) = true := by decide +kernel
theorem low_name (v : Int) : Txt.lower (nameOf v) = low3 (lt v) ∧ (nameOf v).length = lt v + 1 := by
  obtain ⟨k, hk, e1, e2⟩ := name_k v
  have := List.all_eq_true.mp name_tab k (List.mem_range.mpr hk)
  rw [e1, e2]
  simpa using this
theorem lt_lt (v : Int) : lt v < 3 := by
  have := fmod_lt (a := v) (b := 3) (by decide)
  unfold lt; omega
theorem low3_ne {a b : Nat} (ha : a < 3) (hb : b < 3) : (low3 a != low3 b) = !(Nat.beq a b) := by
  have : ∀ a, a < 3 → ∀ b, b < 3 → (low3 a != low3 b) = !(Nat.beq a b) := by decide +kernel
  exact this a ha b hb
theorem low3_eq {a b : Nat} (ha : a < 3) (hb : b < 3) : (low3 a == low3 b) = Nat.beq a b := by
  have : ∀ a, a < 3 → ∀ b, b < 3 → (low3 a == low3 b) = Nat.beq a b := by decide +kernel
  exact this a ha b hb
theorem low3_len {a : Nat} (ha : a < 3) : (low3 a).length ≤ 3 := by
  have : ∀ a, a < 3 → (low3 a).length ≤ 3 := by decide +kernel
  exact this a ha
theorem re_low (w : World) (c : Nat) (h : c < 3) : ReNo (KK w) 43 (low3 c) := by
  intro t S
  rcases c with _ | _ | _ | c
  · kernel_rfl!
  · kernel_rfl!
  · kernel_rfl!
  · omega
theorem re_name (w : World) (v : Int) : ReNo (KK w) 43 (nameOf v) := by
  obtain ⟨k, hk, e1, _⟩ := name_k v
  rw [e1]
  intro t S
  rcases k with _ | _ | _ | _ | _ | _ | k
  · kernel_rfl!
  · kernel_rfl!
  · kernel_rfl!
  · kernel_rfl!
  · kernel_rfl!
  · kernel_rfl!
  · omega
theorem re_val (w : World) (j : Nat) (h : j ≤ 6) : ReNo (KK w) 48 (valS j) := by
  intro t S
  rcases j with _ | _ | _ | _ | _ | _ | _ | j
  · kernel_rfl!
  · kernel_rfl!
  · kernel_rfl!
  · kernel_rfl!
  · kernel_rfl!
  · kernel_rfl!
  · kernel_rfl!
  · omega
/-- the table's entries, with the numbers that named them -/
def entN (cs : List Int) : Nat → List (Int × Nat)
  | 0 => []
  | i + 1 => (entN cs i).filter (fun e => !(Nat.beq (lt e.1) (lt (cs.getD i 0)))) ++ [(cs.getD i 0, i)]
def strE (e : Int × Nat) : Str × Str := (nameOf e.1, valS e.2)
theorem entN_ent (cs : List Int) : ∀ i, i ≤ cs.length → (entN cs i).map (fun e => (lt e.1, e.2)) = Pl.ent (cs.map lt) i
  | 0, _ => rfl
  | i + 1, h => by
    have ih := entN_ent cs i (by omega)
    have hg : (cs.map lt).getD i 0 = lt (cs.getD i 0) := by
      simp only [List.getD_eq_getElem?_getD, List.getElem?_map]
      rw [List.getElem?_eq_getElem (by omega)]; rfl
    unfold entN Pl.ent
    rw [List.map_append, ← ih, hg, List.filter_map]
    rfl
theorem entN_str (cs : List Int) (i : Nat) (c : Int) : ((entN cs i).map strE).filter (fun e => Txt.lower e.1 != Txt.lower (nameOf c)) = ((entN cs i).filter (fun e => !(Nat.beq (lt e.1) (lt c)))).map strE := by
  rw [List.filter_map]
  congr 1
  refine List.filter_congr fun e _ => ?_
  show (Txt.lower (nameOf e.1) != Txt.lower (nameOf c)) = _
  rw [(low_name e.1).1, (low_name c).1, low3_ne (lt_lt _) (lt_lt _)]
theorem entN_get (cs : List Int) (i c : Nat) (hc : c < 3) (hi : i ≤ cs.length) : getOf ((entN cs i).map strE) (low3 c) = (Pl.lastOf (cs.map lt) i c).map valS := by
  unfold getOf Pl.lastOf
  rw [← entN_ent cs i hi, List.find?_map, List.find?_map, Option.map_map, Option.map_map, Option.map_map]
  have : ((fun e : Str × Str => Txt.lower e.1 == low3 c) ∘ strE) = ((fun e : Nat × Nat => Nat.beq e.1 c) ∘ fun e : Int × Nat => (lt e.1, e.2)) := by
    funext e
    show (Txt.lower (nameOf e.1) == low3 c) = Nat.beq (lt e.1) c
    rw [(low_name e.1).1, low3_eq (lt_lt _) hc]
  rw [this]
  rfl
theorem entN_len (cs : List Int) : ∀ i, (entN cs i).length ≤ i ∧ ∀ e ∈ entN cs i, e.2 < i
  | 0 => ⟨Nat.le_refl _, fun e h => nomatch h⟩
  | i + 1 => by
    obtain ⟨h1, h2⟩ := entN_len cs i
    unfold entN
    refine ⟨?_, fun e he => ?_⟩
    · rw [List.length_append]
      have := List.length_filter_le (fun e : Int × Nat => !(Nat.beq (lt e.1) (lt (cs.getD i 0)))) (entN cs i)
      rw [List.length_singleton]; omega
    · rcases List.mem_append.mp he with he | he
      · have := h2 e (List.mem_filter.mp he).1; omega
      · simp at he; subst he; exact Nat.lt_succ_self _
/-! ### moving one of the mutable objects ahead -/
inductive Pull (x : Addr × (Obj → Prop)) : List (Addr × (Obj → Prop)) → List (Addr × (Obj → Prop)) → Prop
  | hd {r} : Pull x (x :: r) r
  | tl {p r r'} : Pull x r r' → Pull x (p :: r) (p :: r')
theorem Pull.perm {x M M'} (p : Pull x M M') : M.Perm (x :: M') := by
  induction p with
  | hd => exact .refl _
  | tl _ ih => exact (ih.cons _).trans (List.Perm.swap _ _ _)
def rowsN (xs : List Nat) (i : Nat) : List (List Nat) := (List.range (i + 1)).map fun k => (Pl.ent xs k).map (·.1)
def rowsP (xs : List Nat) (i : Nat) : List (List Nat) := (List.range (i + 1)).map fun k => (Pl.ent xs k).map (·.2)
def rowsL (xs : List Nat) (i : Nat) : List (List (Option Nat)) := (List.range (i + 1)).map fun k => [0, 1, 2].map (Pl.lastOf xs k)
theorem rows_succ {α : Type} (f : Nat → α) (i : Nat) : (List.range (i + 1 + 1)).map f = (List.range (i + 1)).map f ++ [f (i + 1)] := by rw [List.range_succ, List.map_append]; rfl
/-! ## the rows and the plain law's parts -/
theorem ent_lt (xs : List Nat) : ∀ i, (Pl.ent xs i).length ≤ i ∧ ∀ e ∈ Pl.ent xs i, e.2 < i
  | 0 => ⟨Nat.le_refl _, fun e h => nomatch h⟩
  | i + 1 => by
    obtain ⟨h1, h2⟩ := ent_lt xs i
    unfold Pl.ent
    refine ⟨?_, fun e he => ?_⟩
    · rw [List.length_append]
      have := List.length_filter_le (fun e : Nat × Nat => !(Nat.beq e.1 (xs.getD i 0))) (Pl.ent xs i)
      rw [List.length_singleton]; omega
    · rcases List.mem_append.mp he with he | he
      · have := h2 e (List.mem_filter.mp he).1; omega
      · simp at he; subst he; exact Nat.lt_succ_self _
theorem ent_up (xs : List Nat) : ∀ i, (Pl.ent xs i).Pairwise (fun a b => a.2 < b.2)
  | 0 => .nil
  | i + 1 => by
    unfold Pl.ent
    refine List.pairwise_append.mpr ⟨(ent_up xs i).filter _, List.pairwise_singleton _ _, fun a ha b hb => ?_⟩
    simp at hb; subst hb
    exact (ent_lt xs i).2 a (List.mem_filter.mp ha).1
theorem rows_at {α : Type} (f : Nat → α) (N i : Nat) (h : i ≤ N) : ((List.range (N + 1)).map f)[i]? = some (f i) := by
  rw [List.getElem?_map, List.getElem?_range (by omega)]; rfl
theorem rows_get {α : Type} (f : Nat → List α) (N i : Nat) (h : i ≤ N) : ((List.range (N + 1)).map f).getD i [] = f i := by
  rw [List.getD_eq_getElem?_getD, rows_at f N i h]; rfl
def frF (rs : List (List Nat)) : Nat → Nat → List Nat
  | 0, _ => []
  | f + 1, i => match rs.getD i [] with
    | [a, _, _] => a :: frF rs f a
    | _ => []
theorem frF_eq (xs : List Nat) (N : Nat) : ∀ f i, i ≤ N → frF (rowsP xs N) f i = Pl.walkF xs f i
  | 0, _, _ => rfl
  | f + 1, i, h => by
    unfold frF Pl.walkF
    rw [show (rowsP xs N).getD i [] = (Pl.ent xs i).map (·.2) from rows_get _ N i h]
    have hl := (ent_lt xs i).2
    match he : Pl.ent xs i with
    | [] => rfl
    | [_] => rfl
    | [_, _] => rfl
    | [a, b, c] =>
      have := hl a (by rw [he]; exact .head _)
      show a.2 :: _ = a.2 :: _
      rw [frF_eq xs N f a.2 (by omega)]
    | _ :: _ :: _ :: _ :: _ => rfl
def begF (rs : List (List (Option Nat))) : Nat → List Nat → Option Nat
  | i, [] => some i
  | i, c :: r => match (rs.getD i []).getD c none with
    | none => none
    | some n => begF rs n r
theorem lastOf_lt (xs : List Nat) (i c n : Nat) (h : Pl.lastOf xs i c = some n) : n < i := by
  unfold Pl.lastOf at h
  obtain ⟨e, he, rfl⟩ := Option.map_eq_some_iff.mp h
  exact (ent_lt xs i).2 e (List.mem_of_find?_eq_some he)
theorem begF_eq (xs : List Nat) (N : Nat) : ∀ (ls : List Nat) (i : Nat), i ≤ N → (∀ c ∈ ls, c < 3) → begF (rowsL xs N) i ls = Pl.beg xs i ls
  | [], _, _, _ => rfl
  | c :: r, i, h, hc => by
    unfold begF Pl.beg
    have hc3 := hc c (.head _)
    have e : ((rowsL xs N).getD i []).getD c none = Pl.lastOf xs i c := by
      rw [show (rowsL xs N).getD i [] = [0, 1, 2].map (Pl.lastOf xs i) from rows_get _ N i h]
      rcases c with _ | _ | _ | c
      · rfl
      · rfl
      · rfl
      · omega
    rw [e]
    cases hq : Pl.lastOf xs i c with
    | none => rfl
    | some n => exact begF_eq xs N r n (by have := lastOf_lt xs i c n hq; omega) (fun d hd => hc d (.tail _ hd))
theorem walkF_dn (xs : List Nat) : ∀ f i, (Pl.walkF xs f i).Pairwise (· > ·) ∧ ∀ k ∈ Pl.walkF xs f i, k < i
  | 0, _ => ⟨.nil, fun k h => nomatch h⟩
  | f + 1, i => by
    have hl := (ent_lt xs i).2
    unfold Pl.walkF
    match he : Pl.ent xs i with
    | [] => exact ⟨.nil, fun k h => nomatch h⟩
    | [_] => exact ⟨.nil, fun k h => nomatch h⟩
    | [_, _] => exact ⟨.nil, fun k h => nomatch h⟩
    | [a, b, c] =>
      have h1 := hl a (by rw [he]; exact .head _)
      obtain ⟨h2, h3⟩ := walkF_dn xs f a.2
      refine ⟨List.pairwise_cons.mpr ⟨fun k hk => h3 k hk, h2⟩, fun k hk => ?_⟩
      rcases List.mem_cons.mp hk with rfl | hk
      · exact h1
      · have := h3 k hk; omega
    | _ :: _ :: _ :: _ :: _ => exact ⟨.nil, fun k h => nomatch h⟩
/-- a search's answer is a count -/
theorem cut_count {α : Type} (q : α → Bool) : ∀ (l : List α) (r : Nat), r ≤ l.length → (∀ i x, i < r → l[i]? = some x → q x = true) → (∀ i x, r ≤ i → l[i]? = some x → q x = false) → (l.filter q).length = r
  | [], r, h, _, _ => by simp at h; subst h; rfl
  | a :: l, 0, _, _, h2 => by
    have ha := h2 0 a (Nat.le_refl _) rfl
    have ih := cut_count q l 0 (Nat.zero_le _) (fun i x h => absurd h (Nat.not_lt_zero _)) (fun i x _ e => h2 (i + 1) x (Nat.zero_le _) e)
    rw [List.filter_cons_of_neg (by simp [ha])]; exact ih
  | a :: l, r + 1, h, h1, h2 => by
    have ha := h1 0 a (Nat.succ_pos _) rfl
    have ih := cut_count q l r (by simpa using h) (fun i x hi e => h1 (i + 1) x (by omega) e) (fun i x hi e => h2 (i + 1) x (by omega) e)
    rw [List.filter_cons_of_pos ha, List.length_cons, ih]
theorem rows_inv {α : Type} (f : Nat → α) (N i : Nat) (r : α) (h : ((List.range (N + 1)).map f)[i]? = some r) : i ≤ N ∧ r = f i := by
  have hi : i < N + 1 := by
    have := (List.getElem?_eq_some_iff.mp h).1
    simpa using this
  rw [rows_at f N i (by omega)] at h
  exact ⟨by omega, (Option.some.inj h).symm⟩
theorem rowsP_hw (xs : List Nat) (N : Nat) (hN : N ≤ 7) (i : Nat) (r : List Nat) (h : (rowsP xs N)[i]? = some r) : r.length ≤ 100 ∧ ∀ n ∈ r, n ≤ 9 ∧ n < i := by
  obtain ⟨hi, rfl⟩ := rows_inv _ N i r h
  obtain ⟨h1, h2⟩ := ent_lt xs i
  refine ⟨by rw [List.length_map]; omega, fun n hn => ?_⟩
  obtain ⟨e, he, rfl⟩ := List.mem_map.mp hn
  have := h2 e he
  omega
theorem rowsL_hw (xs : List Nat) (N : Nat) (hN : N ≤ 7) (i : Nat) (r : List (Option Nat)) (h : (rowsL xs N)[i]? = some r) : r.length = 3 ∧ ∀ n, some n ∈ r → n ≤ 9 ∧ n < (rowsL xs N).length := by
  obtain ⟨hi, rfl⟩ := rows_inv _ N i r h
  refine ⟨rfl, fun n hn => ?_⟩
  obtain ⟨c, _, hc⟩ := List.mem_map.mp hn
  have := lastOf_lt xs i c n hc
  simp only [rowsL, List.length_map, List.length_range]
  omega
theorem wS_drop (L : List Nat) (a k : Nat) : ((wS L).cps.toList.drop a).take k = ((L.drop a).take k).map (97 + ·) := by
  simp [wS, List.map_take, List.map_drop]
theorem slS_mid (L : List Nat) (a b : Nat) (hab : a ≤ b) (hb : b ≤ L.length) : slS (wS L) (some (a : Int)) (some (b : Int)) none = wS (Pl.str L b a) := by
  have hx : (wS L).length = L.length := wS_len L
  have e := StrLaws.sliced_plain (wS L) hab (by rw [hx]; exact hb)
  have el := StrLaws.strSliceIndices_plain (len := (wS L).length) hab (by rw [hx]; exact hb)
  have es : (L.drop a).take (b - a) = Pl.str L b a := by
    unfold Pl.str
    rw [List.drop_take]
  unfold slS
  split
  · rename_i hc
    have hlen : b - a = L.length := by
      simp only [Option.getD_none, Bool.and_eq_true, beq_iff_eq] at hc
      have := hc.2
      rw [el] at this
      simpa [hx] using this
    have ha : a = 0 := by omega
    subst ha
    have : Pl.str L b 0 = L := by unfold Pl.str; rw [List.take_of_length_le (by omega)]; rfl
    rw [this]
  · simp only [Option.getD_none]
    rw [e, wS_drop, es]
    rfl
theorem in_str (L : List Nat) (c : Nat) : (!(Builtin.Str.occurrences (wS L) (⟨#[97 + c]⟩ : Str) 0 (wS L).length 1).isEmpty) = L.any (Nat.beq c ·) := by
  rw [StrLaws.found_one, Bool.eq_iff_iff, decide_eq_true_eq, List.any_eq_true]
  simp only [wS, List.mem_map]
  constructor
  · rintro ⟨a, ha, e⟩
    exact ⟨a, ha, by rw [Nat.beq_eq]; omega⟩
  · rintro ⟨a, ha, e⟩
    rw [Nat.beq_eq] at e
    exact ⟨a, ha, by omega⟩
theorem abc_c (k c : Nat) (h : (Str.ofString "abc").cps[k]? = some c) : k < 3 ∧ c = 97 + k := by
  have hk : k < 3 := (Array.getElem?_eq_some_iff.mp h).1
  have : ∀ j, j < 3 → (Str.ofString "abc").cps[j]? = some (97 + j) := by decide +kernel
  rw [this k hk] at h
  exact ⟨hk, (Option.some.inj h).symm⟩
theorem t3_at (k : Nat) (h : k < 3) : ([0, 1, 2] : List Nat)[k]? = some k := by
  rcases k with _ | _ | _ | k <;> first | rfl | omega
/-! ## the plain law's parts, for the text at hand -/
theorem mem_texts : ∀ (n : Nat) (w : List Nat), w.length = n → (∀ c ∈ w, c < 3) → w ∈ Pl.texts n
  | 0, w, h, _ => by
    rw [List.length_eq_zero_iff] at h; subst h; exact .head _
  | n + 1, [], h, _ => by simp at h
  | n + 1, c :: w, h, hc => by
    unfold Pl.texts
    rw [List.mem_flatMap]
    refine ⟨w, mem_texts n w (by simpa using h) (fun d hd => hc d (.tail _ hd)), ?_⟩
    have := hc c (.head _)
    rcases c with _ | _ | _ | c
    · simp
    · simp
    · simp
    · omega
theorem okT_of (w : List Nat) (h : w.length ≤ 4) (hc : ∀ c ∈ w, c < 3) : Pl.okT (w ++ [0, 1, 2]) = true := by
  have key : ∀ n, n ≤ 4 → ((Pl.texts n).map (· ++ [0, 1, 2])).all Pl.okT = true := by
    intro n hn
    rcases n with _ | _ | _ | _ | _ | n
    · exact Pl.t0
    · exact Pl.t1
    · exact Pl.t2
    · exact Pl.t3
    · exact Pl.t4
    · omega
  exact List.all_eq_true.mp (key _ h) _ (List.mem_map.mpr ⟨w, mem_texts _ w rfl hc, rfl⟩)
theorem ok_at {xs : List Nat} (h : Pl.okT xs = true) {i p : Nat} (hi : i ≤ xs.length) (hp : p ≤ i) : Pl.ok xs i p = true := by
  unfold Pl.okT at h
  exact List.all_eq_true.mp (List.all_eq_true.mp h i (List.mem_range.mpr (by omega))) p (List.mem_range.mpr (by omega))
theorem eqL_ok : ∀ {a b : List Nat}, Pl.eqL a b = true → a = b
  | [], [], _ => rfl
  | [], _ :: _, h => by simp [Pl.eqL] at h
  | _ :: _, [], h => by simp [Pl.eqL] at h
  | a :: r, b :: q, h => by
    simp only [Pl.eqL, Bool.and_eq_true] at h
    rw [Nat.eq_of_beq_eq_true h.1, eqL_ok h.2]
theorem eqL_no {a b : List Nat} : Pl.eqL a b = decide (a = b) := by
  rw [Bool.eq_iff_iff, decide_eq_true_eq]
  refine ⟨eqL_ok, ?_⟩
  rintro rfl
  induction a with
  | nil => rfl
  | cons c r ih => simp [Pl.eqL, ih]
theorem eqLL_ok : ∀ {a b : List (List Nat)}, Pl.eqLL a b = true → a = b
  | [], [], _ => rfl
  | [], _ :: _, h => by simp [Pl.eqLL] at h
  | _ :: _, [], h => by simp [Pl.eqLL] at h
  | a :: r, b :: q, h => by
    simp only [Pl.eqLL, Bool.and_eq_true] at h
    rw [eqL_ok h.1, eqLL_ok h.2]
theorem ok_parts {xs : List Nat} {i p : Nat} (h : Pl.ok xs i p = true) :
    (Pl.ent xs i).length = Pl.cnt xs i p + ([0, 1, 2].filter fun c => (Pl.str xs i p).any (Nat.beq c ·)).length ∧ Pl.dep xs i p ≤ 2 ∧
    (∀ w ∈ Pl.words (Pl.dep xs i p), Pl.sub w (Pl.str xs i p) = true) ∧ (∀ w ∈ Pl.words (Pl.dep xs i p + 1), Pl.sub w (Pl.str xs i p) = Pl.begB xs i p w) ∧
    Pl.built xs i p ≠ [] ∧ Pl.built xs i p = (Pl.missing xs i p).filter fun w => decide (w.drop 1 = Pl.tail xs i p) := by
  unfold Pl.ok at h
  simp only [Bool.and_eq_true] at h
  obtain ⟨⟨⟨⟨⟨h1, h2⟩, h3⟩, h4⟩, h5⟩, h6⟩ := h
  refine ⟨Nat.eq_of_beq_eq_true h1, Nat.le_of_ble_eq_true h2, List.all_eq_true.mp h3, fun w hw => ?_, fun e => ?_, ?_⟩
  · have := List.all_eq_true.mp h4 w hw
    simpa using this
  · rw [e] at h5; simp at h5
  · rw [eqLL_ok h6]
    exact List.filter_congr fun w _ => eqL_no
/-! ## letters joined -/
theorem sg_len (a : Nat) : (sg a).length = 1 := rfl
theorem wS_cons (a : Nat) (r : List Nat) : wS (a :: r) = sg a ++ wS r := by
  show Str.mk _ = Str.mk _
  congr 1
  simp [wS, sg]
theorem str_empty_append (x : Str) : Str.empty ++ x = x := by
  show Str.mk _ = x
  cases x; simp [Str.empty]
theorem str_append_empty (x : Str) : x ++ Str.empty = x := by
  show Str.mk _ = x
  cases x; simp [Str.empty]
theorem join_sg (xs : List Nat) : Txt.join Str.empty (xs.map sg) = wS xs := by
  show Builtin.Str.glued Str.empty (xs.map sg) = wS xs
  rw [StrLaws.glued_eq_join]
  induction xs with
  | nil => rfl
  | cons a r ih =>
    cases r with
    | nil => rfl
    | cons b q =>
      rw [wS_cons, ← ih]
      show sg a ++ Str.empty ++ _ = _
      rw [str_append_empty]
theorem joinOk_sg (xs : List Nat) (h : xs.length ≤ 1000) : JoinOk Str.empty (xs.map sg) = true := by
  unfold JoinOk
  rw [StrLaws.joinTotal, Bool.not_eq_true']
  have : ((xs.map sg).map (·.length)).sum ≤ xs.length := by
    clear h
    induction xs with
    | nil => exact Nat.le_refl _
    | cons a r ih => simp only [List.map_cons, List.sum_cons, List.length_cons, sg_len]; omega
  have e0 : Str.empty.length = 0 := rfl
  unfold Builtin.Str.tooLong
  rw [decide_eq_false_iff_not, e0]
  have := sz_line (n := xs.length) (by omega)
  omega
/-! ## sizes and places -/
theorem walkF_len (xs : List Nat) : ∀ f i, (Pl.walkF xs f i).length ≤ f
  | 0, _ => Nat.le_refl _
  | f + 1, i => by
    unfold Pl.walkF
    split
    · rename_i e _ _ _
      rw [List.length_cons]
      have := walkF_len xs f e.2
      omega
    · exact Nat.zero_le _
theorem fr_len (xs : List Nat) (i : Nat) : (Pl.fr xs i).length ≤ i + 1 := walkF_len xs _ i
theorem fr_dn (xs : List Nat) (i : Nat) : (Pl.fr xs i).Pairwise (· > ·) ∧ ∀ k ∈ Pl.fr xs i, k < i := walkF_dn xs _ i
theorem dep_le (xs : List Nat) (i p : Nat) : Pl.dep xs i p ≤ (Pl.fr xs i).length := List.length_filter_le _ _
theorem ent_pos (xs : List Nat) {i : Nat} (h : 0 < i) : 0 < (Pl.ent xs i).length := by
  cases i with
  | zero => omega
  | succ i => unfold Pl.ent; rw [List.length_append, List.length_singleton]; omega
theorem way_le (xs : List Nat) (i p f : Nat) (h : f ∈ Pl.way xs i p) : f ≤ i := by
  have := List.mem_of_mem_take h
  rcases List.mem_cons.mp this with rfl | h
  · exact Nat.le_refl _
  · have := (fr_dn xs i).2 f h; omega
theorem way_len (xs : List Nat) (i p : Nat) : (Pl.way xs i p).length = Pl.dep xs i p + 1 := by
  unfold Pl.way
  have := dep_le xs i p
  rw [List.length_take, List.length_cons]; omega
theorem way_pos (xs : List Nat) (i p k f : Nat) (hk : k < Pl.dep xs i p) (h : (Pl.way xs i p)[k]? = some f) : 0 < f := by
  have hd : (i :: Pl.fr xs i).Pairwise (· > ·) := List.pairwise_cons.mpr ⟨fun k hk => (fr_dn xs i).2 k hk, (fr_dn xs i).1⟩
  have hl := dep_le xs i p
  have hkl : k < (i :: Pl.fr xs i).length := by rw [List.length_cons]; omega
  have hkl' : k + 1 < (i :: Pl.fr xs i).length := by rw [List.length_cons]; omega
  have := List.pairwise_iff_getElem.mp hd k (k + 1) hkl hkl' (by omega)
  unfold Pl.way at h
  rw [List.getElem?_take_of_lt (by omega), List.getElem?_eq_getElem hkl] at h
  cases h
  omega
theorem last_at (l : List Nat) (h : 0 < l.length) : l[l.length - 1]? = some (l.getLastD 0) := by
  cases l with
  | nil => simp at h
  | cons a r => simp [List.getLast?_eq_getElem?, List.getLastD_eq_getLast?]
theorem words_dots {n : Nat} (h : n ≤ 3) {w : List Nat} (hw : w ∈ Pl.words n) : Txt.split (dS w) dots = pcs w ∧ (Builtin.Str.occurrences (dS w) dots 0 (dS w).length 1).isEmpty = false := by
  have := List.all_eq_true.mp (List.all_eq_true.mp split_ok n (List.mem_range.mpr (by omega))) w hw
  simpa using this
theorem words_cut : (List.range 4).all (fun n => (Pl.words n).all fun w => (slS (wS w) none none (some (-1)) == wS w.reverse) && (slS (wS w) (some 1) none none == wS (w.drop 1)) && w.all (Nat.blt · 3)) = true := by decide +kernel
theorem words_cuts {n : Nat} (h : n ≤ 3) {w : List Nat} (hw : w ∈ Pl.words n) : slS (wS w) none none (some (-1)) = wS w.reverse ∧ slS (wS w) (some 1) none none = wS (w.drop 1) ∧ ∀ c ∈ w, c < 3 := by
  have := List.all_eq_true.mp (List.all_eq_true.mp words_cut n (List.mem_range.mpr (by omega))) w hw
  simp only [Bool.and_eq_true, beq_iff_eq, List.all_eq_true] at this
  exact ⟨this.1.1, this.1.2, fun c hc => by simpa using this.2 c hc⟩
theorem pcs_small (w : List Nat) (h : w.length ≤ 100) : Smalls (pcs w) := by
  refine ⟨by simp [pcs]; omega, fun p hp => ?_⟩
  have : p.length ≤ 1 := by
    rcases List.mem_cons.mp hp with rfl | hp
    · exact Nat.zero_le _
    · rcases List.mem_append.mp hp with hp | hp
      · obtain ⟨a, _, rfl⟩ := List.mem_map.mp hp; exact Nat.le_refl _
      · rw [List.mem_singleton] at hp; subst hp; exact Nat.zero_le _
  omega
theorem pcs_len (w : List Nat) : 2 ≤ (pcs w).length := by simp [pcs]
theorem str_len (xs : List Nat) (i p : Nat) : (Pl.str xs i p).length ≤ xs.length := by unfold Pl.str; rw [List.length_drop, List.length_take]; omega
theorem begB_I (xs : List Nat) (i p : Nat) (w : List Nat) : decide ((p : Int) ≤ begI (Pl.beg xs i w.reverse)) = Pl.begB xs i p w := by
  unfold Pl.begB
  cases Pl.beg xs i w.reverse with
  | none => exact decide_eq_false (show ¬ (p : Int) ≤ -1 by omega)
  | some n => rw [Bool.eq_iff_iff, decide_eq_true_eq, Nat.ble_eq]; simp [begI]
theorem pick_take (vs : List Value) (k : Nat) : (slicePick vs.toArray none (some (k : Int)) none).toList = vs.take k := by rw [slicePick_upto']
theorem pick_drop (vs : List Value) (k : Nat) : (slicePick vs.toArray (some (k : Int)) none none).toList = vs.drop k := by rw [slicePick_from']
theorem pick_rev (vs : List Value) : (slicePick vs.toArray none none (some (-1))).toList = vs.reverse := by rw [PySem.W.krv_pick]
theorem sg_inj {a b : Nat} : (sg a == sg b) = Nat.beq a b := by
  rw [Bool.eq_iff_iff, beq_iff_eq, Nat.beq_eq]
  constructor
  · intro h
    have : (sg a).cps = (sg b).cps := by rw [h]
    simp only [sg, Array.mk.injEq, List.cons.injEq, and_true] at this
    omega
  · rintro rfl; rfl
theorem any_sg (c : Nat) (l : List Nat) : (l.map sg).any (· == sg c) = l.any (Nat.beq c ·) := by
  rw [List.any_map]
  congr 1
  funext d
  show (sg d == sg c) = Nat.beq c d
  rw [sg_inj, Bool.eq_iff_iff, Nat.beq_eq, Nat.beq_eq]
  exact eq_comm
theorem wS_inj {a b : List Nat} (h : wS a = wS b) : a = b := by
  have h1 : (wS a).cps.toList = (wS b).cps.toList := by rw [h]
  simp only [wS] at h1
  exact List.map_inj_right (fun x y e => by omega) |>.mp h1
theorem wS_eq (a b : List Nat) : (wS a == wS b) = decide (a = b) := by
  rw [Bool.eq_iff_iff, beq_iff_eq, decide_eq_true_eq]
  exact ⟨wS_inj, fun e => by rw [e]⟩
theorem strOk_wS {L : List Nat} (h : ∀ c ∈ L, c < 3) : PyData.strOk (wS L) = true := by
  unfold PyData.strOk
  simp only [wS, List.all_toArray, List.all_map, List.all_eq_true]
  intro c hc
  have := h c hc
  simp; omega
theorem all_strOk {l : List (List Nat)} (h : ∀ L ∈ l, ∀ c ∈ L, c < 3) : (l.map wS).all PyData.strOk = true := by
  rw [List.all_map, List.all_eq_true]
  exact fun L hL => strOk_wS (h L hL)
theorem missing_mem {xs : List Nat} {i p : Nat} {w : List Nat} (h : w ∈ Pl.missing xs i p) : w ∈ Pl.words (Pl.dep xs i p + 1) := (List.mem_filter.mp h).1
/-! ## the script's list -/
section
variable {prog : Program} {w : World} {A : Around} {E : Value → Shared → Prop} {h : Heap} {gs : Array GenState} {dr : Drawn} {tk : Nat} {os : OsState} {a : Addr} {vs : List Value} {value slice : Expr}
theorem IsI.up {h h' : Heap} {a : Addr} {vs : Array Value} (x : h.IsList a vs) (k : Kp h h') : h'.IsList a vs := let ⟨o, e, r⟩ := x; ⟨o, k _ _ e, r⟩
theorem gCutI {Q : Value → Shared → Prop} {sl : Addr} {vl vu vst : Value} {lo hi st : Option Int} (hl : h.IsList a vs.toArray) (hz : vs.length ≤ 1000000) (hc : h.IsSliceOf sl vl vu vst) (pl : IsPart vl lo) (pu : IsPart vu hi) (ps : IsPart vst st) (h0 : st ≠ some 0)
    (hs : ∃ ops, subscripted slice false (.ref a) (.ref sl) = operate ops (getItem (.ref a) (.ref sl)))
    (q : ∀ D h', Kp h h' → h.get? D = none → IsL h' D (slicePick vs.toArray lo hi st).toList → Q (.ref D) ⟨h', gs, dr, tk, os⟩) : wpAny (model prog w) A (subscriptTail value slice (.ref a) (.ref sl)) Q E ⟨h, gs, dr, tk, os⟩ :=
  let ⟨_, hs⟩ := hs
  tail_any (show Shared.TypeIs ⟨h, gs, dr, tk, os⟩ (.ref a) "list" from hl.typeIs) F.slot_list_getitem.lookup
    (wpAny_getItem_list_slice hl hc pl pu ps h0 (q _ _ (Kp.push _ _) (fresh_size h) (IsL.of (by rw [Array.toArray_toList]; exact ⟨0, Heap.get?_push_size _ rfl⟩))) (by rw [List.size_toArray]; exact sz_line hz)) hs
end
/-! ## the searches' answers are counts -/
theorem ble_no {a b : Nat} : Nat.ble a b = false ↔ b < a := by
  rw [← Bool.not_eq_true, Nat.ble_eq]; omega
theorem bisN (w : World) (prog : Program) (A : Around) (mb) (g h : Heap) (M) (gs dr tk os) (W : Wld (KK w) mb g) (H : Hp g M h) (hh : A.handled = none) (hd : A.depth < 800) (R : Addr) (us : List Value) (r : List Nat) (hl : IsL g R us) (hr : PlR us r) (hz : r.length ≤ 100) (h9 : ∀ n ∈ r, n ≤ 9) (hp : r.Pairwise (· < ·)) (p : Nat) (t : Tok) :
    codeAny (model prog w) A (.call (.ref 193) ⟨[.ref R, .int p t], [(Str.ofString "key", .ref 221)]⟩) (Rt gs dr os fun v h' => ∃ t g', v = .int ((r.filter fun n => Nat.blt n p).length : Nat) t ∧ Kp g g' ∧ Hp g' M h') ⟨h, gs, dr, tk, os⟩ := by
  have hul : us.length = r.length := by rw [SS.len hr, List.length_map]
  have mono : ∀ i j, i ≤ j → j < us.length → Nat.blt (r.getD j 0) p = true → Nat.blt (r.getD i 0) p = true := by
    intro i j hij hj e
    have hj' : j < r.length := by omega
    have hi' : i < r.length := by omega
    have ej : r.getD j 0 = r[j] := by rw [List.getD_eq_getElem?_getD, List.getElem?_eq_getElem hj']; rfl
    have ei : r.getD i 0 = r[i] := by rw [List.getD_eq_getElem?_getD, List.getElem?_eq_getElem hi']; rfl
    rw [ej] at e
    rw [ei]
    rw [Nat.blt_eq] at e ⊢
    rcases Nat.lt_or_ge i j with h | h
    · have := List.pairwise_iff_getElem.mp hp i j hi' hj' h; omega
    · have : i = j := by omega
      subst this; exact e
  refine Rt.mono (bisL_key w prog A mb g h M gs dr tk os W H hh (A.depth + 2) (by omega) (by omega) R 221 us (.int p t) (fun i => Nat.blt (r.getD i 0) p) hl (by omega) ⟨?_, ?_⟩ mono) ?_
  · exact ⟨_, _, W.kin _ _ (by rfl), rfl⟩
  · intro i v A' g' M' h' tk' hh' hd' hv kg H'
    have hi : i < r.length := by rw [← hul]; exact (List.getElem?_eq_some_iff.mp hv).1
    obtain ⟨n, hn⟩ : ∃ n, r[i]? = some n := ⟨_, List.getElem?_eq_getElem hi⟩
    obtain ⟨tn, htn⟩ := SS.at' hr (i := i) (y := valS n) (by rw [List.getElem?_map, hn]; rfl)
    cases hv.symm.trans htn
    have hn9 := h9 n (List.mem_of_getElem? hn)
    refine Rt.mono (number_ w prog A' mb g' h' M' gs dr tk' os (W.up kg) H' (by omega) _ _ _ (valS_int hn9) (valS_len hn9)) ?_
    rintro v h'' ⟨t', rfl, H''⟩
    refine ⟨g', Kp.rf, H'', fun A'' E Q s q => ?_⟩
    obtain ⟨h1, h2, h3, h4, h5⟩ := s
    rw [show (9 : Int) - (9 - (n : Int)) = n by omega]
    simp only [if_true]
    refine oLt ?_
    have : r.getD i 0 = n := by rw [List.getD_eq_getElem?_getD, hn]; rfl
    rw [this] at q
    have e : decide ((n : Int) < (p : Int)) = Nat.blt n p := by
      rw [Bool.eq_iff_iff, decide_eq_true_eq, Nat.blt_eq]; omega
    rw [e]; exact q
  · rintro v h' ⟨k, tk2, g', rfl, _, hk, hlo, hhi, kg, H'⟩
    refine ⟨tk2, g', ?_, kg, H'⟩
    rw [cut_count (fun n => Nat.blt n p) r k (by omega) (fun i x hi e => ?_) (fun i x hi e => ?_)]
    · have := hlo i (Nat.zero_le _) hi
      simpa [List.getD_eq_getElem?_getD, e] using this
    · have hx : i < us.length := by rw [hul]; exact (List.getElem?_eq_some_iff.mp e).1
      have := hhi i hi hx
      simpa [List.getD_eq_getElem?_getD, e] using this
theorem bisT (w : World) (prog : Program) (A : Around) (mb) (g h : Heap) (M) (gs dr tk os) (W : Wld (KK w) mb g) (H : Hp g M h) (hh : A.handled = none) (hd : A.depth < 800) (R : Addr) (us : List Value) (r : List Nat) (hl : IsL g R us) (hr : NsAre us r) (hz : r.length ≤ 100) (hp : r.Pairwise (· > ·)) (p : Nat) (t : Tok) :
    codeAny (model prog w) A (.call (.ref 184) ⟨[.ref R, .int (-(p : Int)) t], [(Str.ofString "key", .ref 228)]⟩) (Rt gs dr os fun v h' => ∃ t g', v = .int ((r.filter fun n => Nat.ble p n).length : Nat) t ∧ Kp g g' ∧ Hp g' M h') ⟨h, gs, dr, tk, os⟩ := by
  have hul : us.length = r.length := NsAre.len hr
  have mono : ∀ i j, i ≤ j → j < us.length → (!Nat.ble p (r.getD i 0)) = true → (!Nat.ble p (r.getD j 0)) = true := by
    intro i j hij hj e
    have hj' : j < r.length := by omega
    have hi' : i < r.length := by omega
    have ej : r.getD j 0 = r[j] := by rw [List.getD_eq_getElem?_getD, List.getElem?_eq_getElem hj']; rfl
    have ei : r.getD i 0 = r[i] := by rw [List.getD_eq_getElem?_getD, List.getElem?_eq_getElem hi']; rfl
    rw [ei] at e
    rw [ej]
    rw [Bool.not_eq_true', ble_no] at e ⊢
    rcases Nat.lt_or_ge i j with h | h
    · have := List.pairwise_iff_getElem.mp hp i j hi' hj' h; omega
    · have : i = j := by omega
      subst this; exact e
  refine Rt.mono (bisR_key w prog A mb g h M gs dr tk os W H hh (A.depth + 2) (by omega) (by omega) R 228 us (.int (-(p : Int)) t) (fun i => !Nat.ble p (r.getD i 0)) hl (by omega) ⟨?_, ?_⟩ mono) ?_
  · exact ⟨_, _, W.kin _ _ (by rfl), rfl⟩
  · intro i v A' g' M' h' tk' hh' hd' hv kg H'
    have hi : i < r.length := by rw [← hul]; exact (List.getElem?_eq_some_iff.mp hv).1
    obtain ⟨n, hn⟩ : ∃ n, r[i]? = some n := ⟨_, List.getElem?_eq_getElem hi⟩
    obtain ⟨tn, htn⟩ := NsAre.at_ hr hn
    cases hv.symm.trans htn
    refine Rt.mono (turned_ w prog A' mb g' h' M' gs dr tk' os (W.up kg) H' (by omega) _ _) ?_
    rintro v h'' ⟨t', rfl, H''⟩
    refine ⟨g', Kp.rf, H'', fun A'' E Q s q => ?_⟩
    obtain ⟨h1, h2, h3, h4, h5⟩ := s
    simp only [Bool.false_eq_true, if_false]
    refine oLt ?_
    have : r.getD i 0 = n := by rw [List.getD_eq_getElem?_getD, hn]; rfl
    rw [this] at q
    have e : decide (-(p : Int) < -(n : Int)) = !Nat.ble p n := by
      rw [Bool.eq_iff_iff, decide_eq_true_eq, Bool.not_eq_true', ble_no]; omega
    rw [e]; exact q
  · rintro v h' ⟨k, tk2, g', rfl, _, hk, hlo, hhi, kg, H'⟩
    refine ⟨tk2, g', ?_, kg, H'⟩
    rw [cut_count (fun n => Nat.ble p n) r k (by omega) (fun i x hi e => ?_) (fun i x hi e => ?_)]
    · have := hlo i (Nat.zero_le _) hi
      simpa [List.getD_eq_getElem?_getD, e] using this
    · have hx : i < us.length := by rw [hul]; exact (List.getElem?_eq_some_iff.mp e).1
      have := hhi i hi hx
      simpa [List.getD_eq_getElem?_getD, e] using this
/-- the ellipsis match of a dotted word -/
theorem fits_ (w : World) (prog : Program) (A : Around) (mb) (g h : Heap) (M) (gs dr tk os) (W : Wld (KK w) mb g) (H : Hp g M h) (hh : A.handled = none) (hd : A.depth < 900) (n : Nat) (hn : n ≤ 3) (wd : List Nat) (hw : wd ∈ Pl.words n) (Z : List Nat) (hz : Z.length ≤ 100) (t u : Tok) :
    codeAny (model prog w) A (.call (.ref 200) ⟨[.str (dS wd) t, .str (wS Z) u], []⟩) (Rt gs dr os fun v h' => v = .bool (Pl.sub wd Z) ∧ Hp g M h') ⟨h, gs, dr, tk, os⟩ := by
  obtain ⟨h1, h2⟩ := words_dots hn hw
  have h3 := words_len n wd hw
  have h4 := words_sz hn hw
  refine Rt.mono (ell_dots w prog A mb g h M gs dr tk os W H (dS wd) (wS Z) t u (pcs wd) hh hd h2 h1 (pcs_len wd) (by omega) (by rw [wS_len]; omega) (pcs_small wd (by omega))) ?_
  rintro v h' ⟨rfl, H'⟩
  rw [ell_sub]
  exact ⟨rfl, H'⟩
/-! ## the law -/
theorem ZsAre_take {vs : List Value} {ns : List Int} (h : IntsAre vs ns) (n : Nat) : IntsAre (slicePick vs.toArray none (some (n : Int)) none).toList (ns.take n) := by
  have := slice_ints_uptoW h (y := n) (by omega)
  simpa using this
theorem ZsAre_len : ∀ {vs : List Value} {ys : List Int}, IntsAre vs ys → vs.length = ys.length
  | _, _, .nil => rfl
  | _, _, .cons _ _ h => by simp [ZsAre_len h]
theorem ZsAre_at : ∀ {vs : List Value} {ys : List Int}, IntsAre vs ys → ∀ {i : Nat} {y}, ys[i]? = some y → ∃ t, vs[i]? = some (.int y t)
  | _, _, .nil, _, _, e => by simp at e
  | _, _, .cons y t h, 0, _, e => by simp at e; subst e; exact ⟨t, rfl⟩
  | _, _, .cons y t h, i + 1, _, e => by simp at e ⊢; exact ZsAre_at h e
theorem ZsAre_at' : ∀ {vs : List Value} {ys : List Int}, IntsAre vs ys → ∀ {i : Nat} {v}, vs[i]? = some v → ∃ y t, ys[i]? = some y ∧ v = .int y t
  | _, _, .nil, _, _, e => by simp at e
  | _, _, .cons y t h, 0, _, e => by simp at e; exact ⟨y, t, rfl, e.symm⟩
  | _, _, .cons y t h, i + 1, _, e => by rw [List.getElem?_cons_succ] at e; exact ZsAre_at' h e
theorem ZsAre_app : ∀ {vs : List Value} {ys : List Int} {us zs}, IntsAre vs ys → IntsAre us zs → IntsAre (vs ++ us) (ys ++ zs)
  | _, _, _, _, .nil, h => h
  | _, _, _, _, .cons y t h, h' => .cons y t (ZsAre_app h h')
theorem abc_at (c : Nat) (h : c < 3) : (seqIndex? ((c : Nat) : Int) (Str.ofString "abc").length).bind ((Str.ofString "abc").cps[·]?) = some ((97 + c : Nat) : Nat) := by
  have : ∀ c : Nat, c < 3 → (seqIndex? ((c : Nat) : Int) (Str.ofString "abc").length).bind ((Str.ofString "abc").cps[·]?) = some ((97 + c : Nat) : Nat) := by decide +kernel
  exact this c h
def ShR (g : Heap) (ys : List Value) (k : Nat) : Prop := ys.length = k ∧ ∀ i, i < k → ∃ D us, ys[i]? = some (.ref D) ∧ IsL g D us ∧ Prs g us ((Pl.words i).map wpair)
theorem ShR.up {g g' : Heap} {ys : List Value} {k : Nat} (x : ShR g ys k) (q : Kp g g') : ShR g' ys k := ⟨x.1, fun i hi => let ⟨D, us, a, b, c⟩ := x.2 i hi; ⟨D, us, a, b.up q, c.up q⟩⟩
theorem ShR.snoc {g : Heap} {ys : List Value} {k : Nat} {D : Addr} {us : List Value} (x : ShR g ys k) (a : IsL g D us) (b : Prs g us ((Pl.words k).map wpair)) : ShR g (ys ++ [.ref D]) (k + 1) := by
  refine ⟨by simp [x.1], fun i hi => ?_⟩
  by_cases h : i < k
  · obtain ⟨D', us', e, r⟩ := x.2 i h
    exact ⟨D', us', by rw [List.getElem?_append_left (by rw [x.1]; exact h)]; exact e, r⟩
  · have : i = k := by omega
    subst this
    exact ⟨D, us, by rw [← x.1]; simp, a, b⟩
theorem entN_next (cs : List Int) (i : Nat) (c : Int) (h : cs[i]? = some c) : ((entN cs i).map strE).filter (fun e => Txt.lower e.1 != Txt.lower (nameOf c)) ++ [(nameOf c, valS i)] = (entN cs (i + 1)).map strE := by
  have hg : cs.getD i 0 = c := by rw [List.getD_eq_getElem?_getD, h]; rfl
  rw [entN_str]
  show _ = ((entN cs i).filter (fun e => !(Nat.beq (lt e.1) (lt (cs.getD i 0)))) ++ [(cs.getD i 0, i)]).map strE
  rw [hg, List.map_append]
  rfl
theorem log_ok (i : Nat) (h : i ≤ 6) : ((9 : Int) - (i : Nat)).natAbs.log2 < 1920 := by
  have : ∀ i : Nat, i ≤ 6 → ((9 : Int) - (i : Nat)).natAbs.log2 < 1920 := by decide +kernel
  exact this i h
local macro_rules | `(tactic| walk_at "pull") => `(tactic| first | with_reducible exact Pull.hd | ((with_reducible refine Pull.tl ?_); walk_at "pull"))
def LtR (us : List Value) (r : List Nat) : Prop := StrsAre us (r.map sg)
theorem m_keys (w : World) : findIn (KK w) (.ref 171) (Str.ofString "keys") = some (some (.ref 123)) := by kernel_rfl!
theorem m_values (w : World) : findIn (KK w) (.ref 171) (Str.ofString "values") = some (some (.ref 128)) := by kernel_rfl!
theorem m_get (w : World) : findIn (KK w) (.ref 171) (Str.ofString "get") = some (some (.ref 118)) := by kernel_rfl!
local macro_rules | `(tactic| walk_at "methw") => `(tactic| first | with_reducible exact m_keys _ | with_reducible exact m_values _ | with_reducible exact m_get _)
set_option maxHeartbeats 10000000 in
theorem law_ (w : World) (prog : Program) (A : Around) (mb) (g h : Heap) (gs dr tk os) (W : Wld (KK w) mb g) (H : Hp g [] h) (hh : A.handled = none) (hd : A.depth < 700) (hu : A.units + 100 < cLine) (S : Addr) (sv : List Value) (ns : List Int) (hl : g.IsList S sv.toArray) (hi : IntsAre sv ns) (hz : ns.length ≤ 1000) :
    codeAny (model prog w) A (.call (.ref 252) ⟨[.ref S], []⟩) (Rt gs dr os fun v h' => v = .bool true ∧ Kp g h') ⟨h, gs, dr, tk, os⟩ := by
  refine enterC [(Str.ofString "script", .ref S)] [(Str.ofString "script", .ref S)] W H (by omega) rfl rfl (by kernel_rfl!) rfl (by kernel_rfl!) rfl (by kernel_rfl!) (fun L => by kernel_rfl!) (by simp) (by kernel_rfl!) (fun L => by kernel_rfl!) rfl rfl rfl (fun L h0 tk0 b => ?_)
  have b0 : Bd g L [(Str.ofString "script", .ref S)] [(L + 1 + 1 + 1 + 1 + 1, cel none), (L + 1 + 1 + 1 + 1, cel none), (L + 1 + 1 + 1, cel none), (L + 1 + 1, cel none), (L + 1, cel none)] h0 := b
  clear b
  have svl := ZsAre_len hi
  repeat' walk_at "st"
  rename Kp _ _ => ks
  rename Heap.IsSliceOf _ _ _ _ _ => hs
  have b1 := b0.kp ks
  refine gCutI (lo := none) (hi := some 4) (st := none) (IsI.up hl b1.keep) (by omega) hs .none (.int _ _) .none (by decide) ⟨_, rfl⟩ (fun D1 h2 k2 f2 il2 => ?_)
  have z1 := ZsAre_take hi 4
  rw [show ((4 : Nat) : Int) = 4 from rfl] at z1
  generalize (slicePick sv.toArray none (some 4) none).toList = cv1 at il2 z1
  have b2 := b1.kp k2
  repeat' walk_at "st"
  refine oNewL (by simp) (fun D2 h3 k3 f3 il3 => ?_)
  have b3 := b2.kp k3
  obtain ⟨lit, z3, il3⟩ : ∃ lit, IntsAre lit [0, 4, 2] ∧ IsL h3 D2 lit := ⟨_, .cons 0 _ (.cons 4 _ (.cons 2 _ .nil)), il3⟩
  have l3 := ZsAre_len z3
  rw [show ([0, 4, 2] : List Int).length = 3 from rfl] at l3
  repeat' walk_at "st"
  have l1 := ZsAre_len z1
  rw [List.length_take] at l1
  refine oAddL (il2.up k3) il3 (by omega) (fun D3 h4 k4 f4 il4 => ?_)
  obtain ⟨g5, k5, b5, fr5⟩ := b3.freeze k4
  have il5 : IsL g5 D3 _ := let ⟨o, e, q⟩ := il4; ⟨o, fr5 _ _ f4 e, q⟩
  have zc := ZsAre_app z1 z3
  generalize hcv : cv1 ++ _ = cv at il5 zc
  generalize hcs : List.take 4 ns ++ [0, 4, 2] = cs at zc
  have hcl : cs.length ≤ 7 ∧ 3 ≤ cs.length := by rw [← hcs]; simp; omega
  have W5 := W.up k5
  clear b3 b2 b1 b0
  have cvl := ZsAre_len zc
  repeat' walk_at "st"
  rename Bd _ _ _ _ _ => b6
  clear b5
  refine lcL (vs := cv) hh b6 il5 (by omega) (by kernel_rfl!) rfl rfl (.inl rfl) (fun C => by kernel_rfl!) (fun i g1 ys => StrsAre ys ((cs.take i).map fun v => sg (lt v)) ∧ ys.length ≤ i) ⟨.nil, Nat.le_refl _⟩ (fun _ _ _ j => j.2) ?_ ?_
  · intro i v g1 ys h1 t1 C D I o oL E1 hv k1 ⟨j1, j2⟩ b7
    have W1 := W5.up k1
    obtain ⟨y, ty, hy, rfl⟩ := ZsAre_at' zc hv
    repeat' walk_at "st"
    refine gIdxS (c := 97 + lt y) ?_ ?_ ?_ (by kernel_rfl!) (fun _ _ => ?_)
    · have := fmod_lt (a := y) (b := 3) (by decide); omega
    · have := fmod_lt (a := y) (b := 3) (by decide); omega
    · have hf := fmod_lt (a := y) (b := 3) (by decide)
      have e : y.fmod 3 = ((lt y : Nat) : Int) := (Int.toNat_of_nonneg hf.1).symm
      rw [e]
      exact abc_at _ (lt_lt y)
    · refine LcE.mk Kp.rf b7 ⟨?_, by simp; omega⟩
      rw [take_map_succ _ hy]
      exact SS.snoc j1
  intro g1 ys D h1 t1 k1 ⟨j1, j2⟩ hb
  have b7 := hb _ (.none _)
  clear hb
  obtain ⟨g2, k2', b8, il8⟩ := b7.fix
  have il8 : IsL g2 D ys := il8
  rw [cvl, List.take_length] at j1
  have exs : (cs.map fun v => sg (lt v)) = (cs.map lt).map sg := by rw [List.map_map]; rfl
  rw [exs] at j1
  have W2 := W5.up (k1.tr k2')
  have il5' := il5.up (k1.tr k2')
  refine UseQ.val ?_
  repeat' walk_at "st"
  refine oJoin (il8.up b8.keep) j1 (joinOk_sg _ (by simp; omega)) (fun _ _ => ?_)
  rw [show Str.ofString "" = Str.empty from rfl, join_sg]
  have hxl : (cs.map lt).length = cs.length := by simp
  have hokT : Pl.okT (cs.map lt) = true := by
    rw [← hcs, List.map_append]
    exact okT_of _ (by rw [List.length_map, List.length_take]; omega) (fun c hc => by obtain ⟨v, _, rfl⟩ := List.mem_map.mp hc; exact lt_lt v)
  generalize hxs : cs.map lt = xs at *
  repeat' walk_at "st"
  rename Bd _ _ _ _ _ => b9
  clear b8 b7 b6
  refine rCallC W2 b9 (by with_reducible exact g_Headers _) (by kernel_rfl!) (by kernel_rfl!) rfl (by kernel_rfl!) ?_
  repeat' walk_at "st"
  refine ⟨b9.keep, ?_⟩
  obtain ⟨oL, HL, back⟩ := b9.out
  refine make_ w prog (A.deeper _) mb _ _ _ _ _ _ _ W2 HL hh (by show A.depth + 1 < 970; omega) (fun T Hd g3 h3' t3 k3' tab H3 => ?_)
  have b10 := back _ _ _ (H3.perm (List.Perm.swap _ _ _))
  clear HL H3 back
  have W3 := W2.up k3'
  have il5'' := il5'.up k3'
  clear il5' il5 il8 b9
  repeat' walk_at "st"
  refine oNewL (by simp) (fun N0 h11 k11 f11 il11 => ?_)
  obtain ⟨g11, kg11, b11, fr11⟩ := Bd.freeze (by assumption) k11
  have iN0 : IsL g11 N0 [] := let ⟨o, e, q⟩ := il11; ⟨o, fr11 _ _ f11 e, q⟩
  have W11 := W3.up kg11
  clear b10
  repeat' walk_at "st"
  refine oNewL (by simp) (fun NL h12 k12 f12 il12 => ?_)
  obtain ⟨o12, e12, l12⟩ := il12
  have b12 := b11.add k12 f12 e12 l12
  clear b11
  repeat' walk_at "st"
  refine oNewL (by simp) (fun P0 h13 k13 f13 il13 => ?_)
  obtain ⟨g13, kg13, b13, fr13⟩ := Bd.freeze (by assumption) k13
  have iP0 : IsL g13 P0 [] := let ⟨o, e, q⟩ := il13; ⟨o, fr13 _ _ f13 e, q⟩
  have W13 := W11.up kg13
  clear b12
  repeat' walk_at "st"
  refine oNewL (by simp) (fun PL h14 k14 f14 il14 => ?_)
  obtain ⟨o14, e14, l14⟩ := il14
  have b14 := b13.add k14 f14 e14 l14
  clear b13
  repeat' walk_at "st"
  refine oNewL (by simp) (fun A0 h15 k15 f15 il15 => ?_)
  obtain ⟨g15, kg15, b15, fr15⟩ := Bd.freeze (by assumption) k15
  have iA0 : IsL g15 A0 [.none, .none, .none] := let ⟨o, e, q⟩ := il15; ⟨o, fr15 _ _ f15 e, q⟩
  have W15 := W13.up kg15
  clear b14
  repeat' walk_at "st"
  refine oNewL (by simp) (fun LL h16 k16 f16 il16 => ?_)
  obtain ⟨o16, e16, l16⟩ := il16
  have b16 := b15.add k16 f16 e16 l16
  clear b15
  repeat' walk_at "st"
  refine oRange1 (fun r h17 t17 t0 u0 v0 k17 hr => ?_)
  have b17 := Bd.kp (by assumption) k17
  repeat' walk_at "st"
  refine lcR hh b17 hr (n := 4) (rng_ok 4 (by decide)).1 (rng_ok 4 (by decide)).2 (by decide) (by kernel_rfl!) rfl rfl (.inr ⟨_, _, rfl, by kernel_rfl!⟩) (fun C => by kernel_rfl!)
    (fun i g1 ys => ShR g1 ys i) ⟨rfl, fun i hi => absurd hi (Nat.not_lt_zero _)⟩ (fun i g' ys j => Nat.le_of_eq j.1) ?_ ?_
  · intro i ti g1 ys h1 t1 C D I o oL E1 hi4 k1 j b18
    have W1 := W15.up k1
    repeat' walk_at "st"
    refine ⟨b18.keep, ?_⟩
    obtain ⟨oC, HC, backC⟩ := b18.out
    rw [show ((0 : Int) + (i : Int) * 1) = (i : Int) by omega] at *
    refine use (words_ w prog (A.deeper _) mb _ _ _ _ _ _ _ W1 HC hh (by show A.depth + 1 < 970; omega) i (by omega) _) (fun v h2' t2' ⟨Dw, g2', us, ev, kw, ilw, pw, H2⟩ => ?_)
    subst ev
    refine LcE.mk kw (backC _ _ _ H2) ((j.up kw).snoc ilw pw)
  intro g18 sh D h18 t18 kg18 jsh hb
  have b18 := hb _ (.name (by walk_at "sto"))
  clear hb b17
  obtain ⟨g19, kg19, b19, il19⟩ := b18.fix
  have il19 : IsL g19 D sh := il19
  have jsh := jsh.up kg19
  have W19 := W15.up (kg18.tr kg19)
  refine UseQ.put ?_
  clear b18
  repeat' walk_at "st"
  refine sFor (fun _ => rfl) ?_
  repeat' walk_at "st"
  have il5c := il5''.up ((kg11.tr (kg13.tr kg15)).tr (kg18.tr kg19))
  have tabc := tab.up ((kg11.tr (kg13.tr kg15)).tr (kg18.tr kg19))
  have iN0c := iN0.up ((kg13.tr kg15).tr (kg18.tr kg19))
  have iP0c := iP0.up (kg15.tr (kg18.tr kg19))
  have iA0c := iA0.up (kg18.tr kg19)
  refine oLenL (il5c.up b19.keep) (by omega) (fun _ _ => ?_)
  repeat' walk_at "st"
  refine oRange1 (fun r2 h20 t20 t0' u0' v0' k20 hr2 => ?_)
  have b20 := b19.kp k20
  rw [cvl] at hr2
  refine fRange hh b20 hr2 (n := cs.length) (rng_ok _ (by omega)).1 (rng_ok _ (by omega)).2 (by kernel_rfl!) rfl
    (fun i g1 l1 M1 => ∃ lv pv nv hv tx, M1 = [(LL, lst lv), (PL, lst pv), (NL, lst nv), (Hd, lst hv), (L + 1 + 1 + 1 + 1 + 1, cel none), (L + 1 + 1 + 1 + 1, cel none), (L + 1 + 1 + 1, cel none), (L + 1 + 1, cel (some (.ref NL))), (L + 1, cel (some (.ref T)))] ∧
      l1 = [(Str.ofString "script", .ref S), (Str.ofString "cells", .ref D3), (Str.ofString "text", .str (wS xs) tx), (Str.ofString "places", .ref PL), (Str.ofString "lasts", .ref LL), (Str.ofString "shelves", .ref D)] ∧
      Rws LtR g1 nv (rowsN xs i) ∧ Rws PlR g1 pv (rowsP xs i) ∧ Rws OpR g1 lv (rowsL xs i) ∧ Prs g1 hv ((entN cs i).map strE))
    ⟨_, _, _, _, _, rfl, rfl, .cons iN0c .nil .nil, .cons iP0c .nil .nil, .cons iA0c ⟨rfl, fun i o h => ?_⟩ .nil, .nil⟩ ?_ ?_
  · rcases i with _ | _ | _ | i <;> first | (simp [Pl.lastOf, Pl.ent] at h; subst h; exact ⟨_, rfl, .none⟩) | (simp at h)
  · rintro i ti g1 l1 M1 h1 t1 I o hi k1 ⟨lv, pv, nv, hv, tx, rfl, rfl, rN, rP, rL, pH⟩ hb
    have b21 := hb _ (by walk_at "sto")
    clear hb
    rw [show ((0 : Int) + (i : Int) * 1) = (i : Int) by omega] at b21
    have W1 := W19.up k1
    have il1 := il5c.up k1
    have tab1 := tabc.up k1
    obtain ⟨ci, hci⟩ : ∃ c, cs[i]? = some c := ⟨_, List.getElem?_eq_getElem hi⟩
    obtain ⟨tci, hvc⟩ := ZsAre_at zc hci
    repeat' walk_at "st"
    refine gIdx (il1.up b21.keep) (by omega) (by omega) (v := .int ci tci) (by simpa using hvc) (by kernel_rfl!) ?_
    repeat' walk_at "st"
    refine ⟨b21.keep, ?_⟩
    obtain ⟨oL, HL, back⟩ := b21.out
    refine use (name_ w prog (A.deeper _) mb _ _ _ _ _ _ _ W1 HL (by show A.depth + 1 < 980; omega) ci _) (fun v h22 t22 ⟨tn, ev, H22⟩ => ?_)
    subst ev
    have b22 := back _ _ _ H22
    clear HL H22 back b21
    repeat' walk_at "st"
    refine oStrI (log_ok i (by omega)) (fun _ _ => ?_)
    rw [show Str.ofString (toString ((9 : Int) - (i : Int))) = valS i from rfl]
    repeat' walk_at "st"
    refine ⟨b22.keep, ?_⟩
    obtain ⟨oL, HL, back⟩ := b22.out
    have pl : ∀ q, Pull (Hd, lst q) ((L, (· = oL)) :: [(I, (· = o)), (LL, lst lv), (PL, lst pv), (NL, lst nv), (Hd, lst q), (L + 1 + 1 + 1 + 1 + 1, cel none), (L + 1 + 1 + 1 + 1, cel none), (L + 1 + 1 + 1, cel none), (L + 1 + 1, cel (some (.ref NL))), (L + 1, cel (some (.ref T)))]) ((L, (· = oL)) :: [(I, (· = o)), (LL, lst lv), (PL, lst pv), (NL, lst nv), (L + 1 + 1 + 1 + 1 + 1, cel none), (L + 1 + 1 + 1 + 1, cel none), (L + 1 + 1 + 1, cel none), (L + 1 + 1, cel (some (.ref NL))), (L + 1, cel (some (.ref T)))]) := fun q => by walk_at "pull"
    have hen := entN_len cs i
    have hkn : ∀ e ∈ (entN cs i).map strE, e.1.length ≤ 100 := by
      intro e he
      obtain ⟨z, _, rfl⟩ := List.mem_map.mp he
      have h1 := (low_name z.1).2
      have h2 := lt_lt z.1
      show (nameOf z.1).length ≤ 100
      omega
    have hci2 := low_name ci
    have hci3 := lt_lt ci
    refine use (law_store w prog (A.deeper _) mb _ _ _ _ _ _ _ W1 hv _ T Hd (HL.perm (pl hv).perm) hh (by show A.depth + 1 < 960; omega) tab1 pH (by rw [List.length_map]; omega) hkn _ _ (by omega) (by rw [hci2.1]; exact re_low w _ hci3) (re_name w ci) _ _ (re_val w i (by omega))) (fun v h23 t23 ⟨ev, g23, hv', k23, H23, p23⟩ => ?_)
    subst ev
    have b23 := back _ _ _ (H23.perm (pl hv').perm.symm)
    clear HL H23 back b22
    rw [entN_next cs i ci hci] at p23
    have W23 := W1.up k23
    have tab23 := tab1.up k23
    have il23 := il1.up k23
    have rN := rN.up k23
    have rP := rP.up k23
    have rL := rL.up k23
    clear pH
    repeat' walk_at "st"
    refine ⟨b23.keep, ?_⟩
    obtain ⟨oL, HL, back⟩ := b23.out
    have pl : ∀ q, Pull (Hd, lst q) ((L, (· = oL)) :: [(I, (· = o)), (LL, lst lv), (PL, lst pv), (NL, lst nv), (Hd, lst q), (L + 1 + 1 + 1 + 1 + 1, cel none), (L + 1 + 1 + 1 + 1, cel none), (L + 1 + 1 + 1, cel none), (L + 1 + 1, cel (some (.ref NL))), (L + 1, cel (some (.ref T)))]) ((L, (· = oL)) :: [(I, (· = o)), (LL, lst lv), (PL, lst pv), (NL, lst nv), (L + 1 + 1 + 1 + 1 + 1, cel none), (L + 1 + 1 + 1 + 1, cel none), (L + 1 + 1 + 1, cel none), (L + 1 + 1, cel (some (.ref NL))), (L + 1, cel (some (.ref T)))]) := fun q => by walk_at "pull"
    have hen1 := entN_len cs (i + 1)
    refine use (keys_ w prog (A.deeper _) mb _ _ _ _ _ _ _ W23 hv' _ T Hd (HL.perm (pl hv').perm) hh (by show A.depth + 1 < 980; omega) tab23 p23 (by rw [List.length_map]; omega)) (fun v h24 t24 ⟨DK, g24, kv, ev, k24, ilK, H24, sK⟩ => ?_)
    subst ev
    have b24 := back _ _ _ (H24.perm (pl hv').perm.symm)
    clear HL H24 back b23
    have W24 := W23.up k24
    have eK : ((entN cs (i + 1)).map strE).map (·.1) = (entN cs (i + 1)).map (fun e => nameOf e.1) := by rw [List.map_map]; rfl
    rw [eK] at sK
    have lK := SS.len sK
    rw [List.length_map] at lK
    have hlast : (entN cs (i + 1)).length = ((entN cs (i + 1)).length - 1) + 1 ∧ ((entN cs (i + 1)).map (fun e => nameOf e.1))[(entN cs (i + 1)).length - 1]? = some (nameOf ci) := by
      have hg : cs.getD i 0 = ci := by rw [List.getD_eq_getElem?_getD, hci]; rfl
      have e : entN cs (i + 1) = (entN cs i).filter (fun e => !(Nat.beq (lt e.1) (lt ci))) ++ [(ci, i)] := by rw [← hg]; rfl
      rw [e]
      simp
    obtain ⟨tk2, hkv⟩ := SS.at' sK hlast.2
    have kpos : 0 < kv.length := by omega
    repeat' walk_at "st"
    refine gIdxN (ilK.up b24.keep) (by decide) (by omega) (by omega) (v := .str (nameOf ci) tk2) (by rw [← hkv]; congr 1; omega) (by kernel_rfl!) ?_
    repeat' walk_at "st"
    have il24 := il23.up k24
    have tab24 := tab23.up k24
    refine gIdx (il24.up b24.keep) (by omega) (by omega) (v := .int ci tci) (by simpa using hvc) (by kernel_rfl!) ?_
    repeat' walk_at "st"
    refine ⟨b24.keep, ?_⟩
    obtain ⟨oL, HL, back⟩ := b24.out
    refine use (name_ w prog (A.deeper _) mb _ _ _ _ _ _ _ W24 HL (by show A.depth + 1 < 980; omega) ci _) (fun v h25 t25 ⟨tn2, ev, H25⟩ => ?_)
    subst ev
    have b25 := back _ _ _ H25
    clear HL H25 back b24
    repeat' walk_at "st"
    refine iteC (fun q => absurd q (by simp)) (fun _ => ?_)
    repeat' walk_at "st"
    refine mApp (b25.hp.lst (a := NL) (vs := nv) (by walk_at "mem")) ?_
    repeat' walk_at "st"
    refine ⟨b25.keep, ?_⟩
    obtain ⟨oL, HL, back⟩ := b25.out
    have pl : ∀ q, Pull (Hd, lst q) ((L, (· = oL)) :: [(I, (· = o)), (LL, lst lv), (PL, lst pv), (NL, lst nv), (Hd, lst q), (L + 1 + 1 + 1 + 1 + 1, cel none), (L + 1 + 1 + 1 + 1, cel none), (L + 1 + 1 + 1, cel none), (L + 1 + 1, cel (some (.ref NL))), (L + 1, cel (some (.ref T)))]) ((L, (· = oL)) :: [(I, (· = o)), (LL, lst lv), (PL, lst pv), (NL, lst nv), (L + 1 + 1 + 1 + 1 + 1, cel none), (L + 1 + 1 + 1 + 1, cel none), (L + 1 + 1 + 1, cel none), (L + 1 + 1, cel (some (.ref NL))), (L + 1, cel (some (.ref T)))]) := fun q => by walk_at "pull"
    have p24 := p23.up k24
    refine use (keys_ w prog (A.deeper _) mb _ _ _ _ _ _ _ W24 hv' _ T Hd (HL.perm (pl hv').perm) hh (by show A.depth + 1 < 980; omega) tab24 p24 (by rw [List.length_map]; omega)) (fun v h26 t26 ⟨DK2, g26, kv2, ev, k26, ilK2, H26, sK2⟩ => ?_)
    subst ev
    have b26 := back _ _ _ (H26.perm (pl hv').perm.symm)
    clear HL H26 back b25
    have W26 := W24.up k26
    rw [eK] at sK2
    have lK2 := SS.len sK2
    rw [List.length_map] at lK2
    refine lcL (vs := kv2) hh b26 ilK2 (by omega) (by kernel_rfl!) rfl rfl (.inl rfl) (fun C => by kernel_rfl!) (fun k g1 ys => StrsAre ys (((entN cs (i + 1)).take k).map fun e => sg (lt e.1)) ∧ ys.length ≤ k) ⟨.nil, Nat.le_refl _⟩ (fun _ _ _ j => j.2) ?_ ?_
    · intro k v g1' ys h1' t1' C D I' o' oL' E1 hv1 kk1 ⟨j1, j2⟩ b27
      have W27 := W26.up kk1
      have hk : k < (entN cs (i + 1)).length := by rw [← lK2]; exact (List.getElem?_eq_some_iff.mp hv1).1
      obtain ⟨e, he⟩ : ∃ e, (entN cs (i + 1))[k]? = some e := ⟨_, List.getElem?_eq_getElem hk⟩
      obtain ⟨te, hte⟩ := SS.at' sK2 (i := k) (y := nameOf e.1) (by rw [List.getElem?_map, he]; rfl)
      have ev := hv1.symm.trans hte
      cases ev
      have hn := (low_name e.1).2
      have hl3 := lt_lt e.1
      repeat' walk_at "st"
      refine oLenS (sz_line (by omega)) (fun _ _ => ?_)
      repeat' walk_at "st"
      rw [hn, show ((((lt e.1 + 1 : Nat)) : Int) - 1) = ((lt e.1 : Nat) : Int) by omega]
      refine gIdxS (c := 97 + lt e.1) (by omega) (by omega) (abc_at _ hl3) (by kernel_rfl!) (fun _ _ => ?_)
      refine LcE.mk Kp.rf b27 ⟨?_, by simp; omega⟩
      rw [take_map_succ _ he]
      exact SS.snoc j1
    intro g27 ys27 D27 h27 t27 k27 ⟨j1, j2⟩ hb
    have b27 := hb _ (.none _)
    clear hb b26
    obtain ⟨g28, k28, b28, il28⟩ := b27.fix
    have il28 : IsL g28 D27 ys27 := il28
    refine UseQ.val ?_
    rw [lK2, List.take_length] at j1
    repeat' walk_at "st"
    have rNl := rN.len
    have rPl := rP.len
    have rLl := rL.len
    simp only [rowsN, rowsP, rowsL, List.length_map, List.length_range] at rNl rPl rLl
    have kA := (k24.tr k26).tr (k27.tr k28)
    have W28 := W26.up (k27.tr k28)
    have tab28 := tab24.up (k26.tr (k27.tr k28))
    have p28 := p24.up (k26.tr (k27.tr k28))
    have ee : (entN cs (i + 1)).map (fun e => (lt e.1, e.2)) = Pl.ent xs (i + 1) := by rw [← hxs]; exact entN_ent cs (i + 1) (by omega)
    have eN : ((entN cs (i + 1)).map fun e => sg (lt e.1)) = ((Pl.ent xs (i + 1)).map (·.1)).map sg := by rw [← ee, List.map_map, List.map_map]; rfl
    rw [eN] at j1
    have rN' := (rN.up kA).snoc il28 (show LtR ys27 ((Pl.ent xs (i + 1)).map (·.1)) from j1)
    refine oApp (b28.hp.lst (a := NL) (vs := nv) (by walk_at "mem")) (by omega) (fun h29 o29 x29 e29 l29 => ?_)
    have b29 := b28.mset (by walk_at "mset") x29 e29 l29
    clear b27 b28
    repeat' walk_at "st"
    refine mApp (b29.hp.lst (a := PL) (vs := pv) (by walk_at "mem")) ?_
    repeat' walk_at "st"
    refine ⟨b29.keep, ?_⟩
    obtain ⟨oL, HL, back⟩ := b29.out
    have pl : ∀ q, Pull (Hd, lst q) ((L, (· = oL)) :: [(I, (· = o)), (LL, lst lv), (PL, lst pv), (NL, lst (nv ++ [.ref D27])), (Hd, lst q), (L + 1 + 1 + 1 + 1 + 1, cel none), (L + 1 + 1 + 1 + 1, cel none), (L + 1 + 1 + 1, cel none), (L + 1 + 1, cel (some (.ref NL))), (L + 1, cel (some (.ref T)))]) ((L, (· = oL)) :: [(I, (· = o)), (LL, lst lv), (PL, lst pv), (NL, lst (nv ++ [.ref D27])), (L + 1 + 1 + 1 + 1 + 1, cel none), (L + 1 + 1 + 1 + 1, cel none), (L + 1 + 1 + 1, cel none), (L + 1 + 1, cel (some (.ref NL))), (L + 1, cel (some (.ref T)))]) := fun q => by walk_at "pull"
    refine use (values_ w prog (A.deeper _) mb _ _ _ _ _ _ _ W28 hv' _ T Hd (HL.perm (pl hv').perm) hh (by show A.depth + 1 < 980; omega) tab28 p28 (by rw [List.length_map]; omega)) (fun v h30 t30 ⟨DV, g30, vv, ev, k30, ilV, H30, sV⟩ => ?_)
    subst ev
    have b30 := back _ _ _ (H30.perm (pl hv').perm.symm)
    clear HL H30 back b29
    have W30 := W28.up k30
    have tab30 := tab28.up k30
    have p30 := p28.up k30
    have eV : ((entN cs (i + 1)).map strE).map (·.2) = ((Pl.ent xs (i + 1)).map (·.2)).map valS := by rw [← ee, List.map_map, List.map_map, List.map_map]; rfl
    rw [eV] at sV
    have rP' := (rP.up (kA.tr k30)).snoc ilV (show PlR vv ((Pl.ent xs (i + 1)).map (·.2)) from sV)
    repeat' walk_at "st"
    refine oApp (b30.hp.lst (a := PL) (vs := pv) (by walk_at "mem")) (by omega) (fun h31 o31 x31 e31 l31 => ?_)
    have b31 := b30.mset (by walk_at "mset") x31 e31 l31
    clear b30
    repeat' walk_at "st"
    refine mApp (b31.hp.lst (a := LL) (vs := lv) (by walk_at "mem")) ?_
    repeat' walk_at "st"
    refine xLC [(Str.ofString "table", L + 1)] rfl rfl (by kernel_rfl!) (fun _ => rfl) ?_
    repeat' walk_at "st"
    refine oNewL (by simp) (fun D32 h32 k32 f32 il32 => ?_)
    obtain ⟨g33, kg33, b33, fr33⟩ := b31.freeze k32
    obtain ⟨nm, snm, il33⟩ : ∃ nm, StrsAre nm [Str.ofString "A", Str.ofString "ab", Str.ofString "aBC"] ∧ IsL g33 D32 nm := ⟨_, .cons _ _ (.cons _ _ (.cons _ _ .nil)), let ⟨o, e, q⟩ := il32; ⟨o, fr33 _ _ f32 e, q⟩⟩
    have W33 := W30.up kg33
    have tab33 := tab30.up kg33
    have p33 := p30.up kg33
    have lnm := SS.len snm
    rw [show ([Str.ofString "A", Str.ofString "ab", Str.ofString "aBC"] : List Str).length = 3 from rfl] at lnm
    clear b31
    refine lcL (vs := nm) hh b33 il33 (by omega) (by kernel_rfl!) rfl rfl (.inl rfl) (fun C => by kernel_rfl!)
      (fun k g1 ys => ys.length = k ∧ ∀ j, j < k → ∃ v, ys[j]? = some v ∧ OptS v ((Pl.lastOf xs (i + 1) j).map valS)) ⟨rfl, fun j hj => absurd hj (Nat.not_lt_zero _)⟩ (fun _ _ _ j => Nat.le_of_eq j.1) ?_ ?_
    · intro k v g1' ys h1' t1' C D' I' o' oL' E1 hv1 kk1 ⟨j1, j2⟩ b34
      have W34 := W33.up kk1
      have tab34 := tab33.up kk1
      have p34 := p33.up kk1
      have hk : k < 3 := by rw [← lnm]; exact (List.getElem?_eq_some_iff.mp hv1).1
      repeat' walk_at "st"
      obtain ⟨q, hq, hql, hqz⟩ : ∃ q, ([Str.ofString "A", Str.ofString "ab", Str.ofString "aBC"] : List Str)[k]? = some q ∧ Txt.lower q = low3 k ∧ q.length ≤ 100 := by
        have e1 : (Txt.lower (Str.ofString "A") == low3 0 && decide ((Str.ofString "A").length ≤ 100)) = true := by decide +kernel
        have e2 : (Txt.lower (Str.ofString "ab") == low3 1 && decide ((Str.ofString "ab").length ≤ 100)) = true := by decide +kernel
        have e3 : (Txt.lower (Str.ofString "aBC") == low3 2 && decide ((Str.ofString "aBC").length ≤ 100)) = true := by decide +kernel
        simp only [Bool.and_eq_true, beq_iff_eq, decide_eq_true_eq] at e1 e2 e3
        rcases k with _ | _ | _ | k
        · exact ⟨_, rfl, e1.1, e1.2⟩
        · exact ⟨_, rfl, e2.1, e2.2⟩
        · exact ⟨_, rfl, e3.1, e3.2⟩
        · omega
      obtain ⟨tq, htq⟩ := SS.at' snm hq
      cases hv1.symm.trans htq
      refine ⟨b34.keep, ?_⟩
      obtain ⟨oC, HC, backC⟩ := b34.out
      have plc : Pull (Hd, lst hv') ((C, (· = oC)) :: [(I', (· = o')), (D', lst ys), (L, (· = oL')), (I, (· = o)), (LL, lst lv), (PL, lst (pv ++ [.ref DV])), (NL, lst (nv ++ [.ref D27])), (Hd, lst hv'), (L + 1 + 1 + 1 + 1 + 1, cel none), (L + 1 + 1 + 1 + 1, cel none), (L + 1 + 1 + 1, cel none), (L + 1 + 1, cel (some (.ref NL))), (L + 1, cel (some (.ref T)))]) ((C, (· = oC)) :: [(I', (· = o')), (D', lst ys), (L, (· = oL')), (I, (· = o)), (LL, lst lv), (PL, lst (pv ++ [.ref DV])), (NL, lst (nv ++ [.ref D27])), (L + 1 + 1 + 1 + 1 + 1, cel none), (L + 1 + 1 + 1 + 1, cel none), (L + 1 + 1 + 1, cel none), (L + 1 + 1, cel (some (.ref NL))), (L + 1, cel (some (.ref T)))]) := by walk_at "pull"
      have hkn' : ∀ e ∈ (entN cs (i + 1)).map strE, e.1.length ≤ 100 := by
        intro e he
        obtain ⟨z, _, rfl⟩ := List.mem_map.mp he
        have h1 := (low_name z.1).2
        have h2 := lt_lt z.1
        show (nameOf z.1).length ≤ 100
        omega
      refine use (get_ w prog (A.deeper _) mb _ _ _ _ _ _ _ W34 hv' _ T Hd (HC.perm plc.perm) hh (by show A.depth + 1 < 980; omega) tab34 p34 (by rw [List.length_map]; omega) hkn' q _ hqz (by rw [hql]; exact re_low w k hk)) (fun v h35 t35 ⟨g35, k35, H35, hO⟩ => ?_)
      rw [hql, entN_get cs (i + 1) k hk (by omega), hxs] at hO
      refine LcE.mk k35 (backC _ _ _ (H35.perm plc.perm.symm)) ⟨by simp [j1], fun j hj => ?_⟩
      by_cases hjk : j < k
      · obtain ⟨v', e', r'⟩ := j2 j hjk
        exact ⟨v', by rw [List.getElem?_append_left (by rw [j1]; exact hjk)]; exact e', r'⟩
      · have : j = k := by omega
        subst this
        exact ⟨v, by rw [← j1]; simp, hO⟩
    intro g36 ys36 D36 h36 t36 k36 ⟨j1, j2⟩ hb
    have b36 := hb _ (.none _)
    clear hb b33
    obtain ⟨g37, k37, b37, il37⟩ := b36.fix
    have il37 : IsL g37 D36 ys36 := il37
    rw [lnm] at j1 j2
    have kB := kg33.tr (k36.tr k37)
    have rL' := (rL.up ((kA.tr k30).tr kB)).snoc il37 (show OpR ys36 ([0, 1, 2].map (Pl.lastOf xs (i + 1))) from ⟨by rw [j1]; rfl, fun j o hj => by
      have hj3 : j < 3 := (List.getElem?_eq_some_iff.mp hj).1
      obtain ⟨v, e, r⟩ := j2 j hj3
      have : o = Pl.lastOf xs (i + 1) j := by
        rcases j with _ | _ | _ | j
        · exact (Option.some.inj hj).symm
        · exact (Option.some.inj hj).symm
        · exact (Option.some.inj hj).symm
        · omega
      rw [this]
      exact ⟨v, e, r⟩⟩)
    refine UseQ.val ?_
    clear b36
    repeat' walk_at "st"
    refine oApp (b37.hp.lst (a := LL) (vs := lv) (by walk_at "mem")) (by omega) (fun h38 o38 x38 e38 l38 => ?_)
    have b38 := b37.mset (by walk_at "mset") x38 e38 l38
    clear b37
    repeat' walk_at "st"
    have b39 := b38.fg (l' := [(Str.ofString "script", .ref S), (Str.ofString "cells", .ref D3), (Str.ofString "text", .str (wS xs) tx), (Str.ofString "places", .ref PL), (Str.ofString "lasts", .ref LL), (Str.ofString "shelves", .ref D)]) (by walk_at "sub")
    refine BEnd.nxt ((k23.tr kA).tr (k30.tr kB)) b39 ⟨_, _, _, _, tx, rfl, rfl, ?_, ?_, ?_, ?_⟩
    · rw [show rowsN xs (i + 1) = rowsN xs i ++ [(Pl.ent xs (i + 1)).map (·.1)] from rows_succ _ _]
      exact rN'.up (k30.tr kB)
    · rw [show rowsP xs (i + 1) = rowsP xs i ++ [(Pl.ent xs (i + 1)).map (·.2)] from rows_succ _ _]
      exact rP'.up kB
    · rw [show rowsL xs (i + 1) = rowsL xs i ++ [[0, 1, 2].map (Pl.lastOf xs (i + 1))] from rows_succ _ _]
      exact rL'
    · exact p33.up (k36.tr k37)
  rintro g40 l40 M40 h40 t40 k40 ⟨lv, pv, nv, hv, tx, rfl, rfl, rN, rP, rL, _⟩ b40
  obtain ⟨g41, k41, b41, iLL⟩ := b40.fix
  obtain ⟨g42, k42, b42, iPL⟩ := b41.fix
  obtain ⟨g43, k43, b43, iNL⟩ := b42.fix
  have b44 := b43.tail
  have iLL : IsL g43 LL lv := IsL.up iLL (k42.tr k43)
  have iPL : IsL g43 PL pv := IsL.up iPL k43
  have iNL : IsL g43 NL nv := iNL
  have kk := k41.tr (k42.tr k43)
  have rN := rN.up kk
  have rP := rP.up kk
  have rL := rL.up kk
  have W43 := W19.up (k40.tr kk)
  have ish := il19.up (k40.tr kk)
  have jsh := jsh.up (k40.tr kk)
  clear b40 b41 b42 b43
  repeat' walk_at "st"
  refine sFor (fun _ => rfl) ?_
  repeat' walk_at "st"
  have hxl7 : xs.length ≤ 7 ∧ 3 ≤ xs.length := by rw [hxl]; exact hcl
  refine oLenS (sz_line (by rw [wS_len]; omega)) (fun _ _ => ?_)
  repeat' walk_at "st"
  refine oRange1 (fun r3 h45 t45 t0a u0a v0a k45 hr3 => ?_)
  have b45 := b44.kp k45
  rw [wS_len, show ((xs.length : Int) + 1) = ((xs.length + 1 : Nat) : Int) by omega] at hr3
  refine fRange hh b45 hr3 (n := xs.length + 1) (rng_ok _ (by omega)).1 (rng_ok _ (by omega)).2 (by kernel_rfl!) rfl
    (fun i g1 l1 M1 => ∃ tx c3 c4 c5, M1 = [(L + 1 + 1 + 1 + 1 + 1, cel c5), (L + 1 + 1 + 1 + 1, cel c4), (L + 1 + 1 + 1, cel c3), (L + 1 + 1, cel (some (.ref NL))), (L + 1, cel (some (.ref T)))] ∧
      l1 = [(Str.ofString "script", .ref S), (Str.ofString "cells", .ref D3), (Str.ofString "text", .str (wS xs) tx), (Str.ofString "places", .ref PL), (Str.ofString "lasts", .ref LL), (Str.ofString "shelves", .ref D)])
    ⟨_, _, _, _, rfl, rfl⟩ ?_ ?_
  · rintro i ti g1 l1 M1 h1 t1 I o hi k1 ⟨tx, c3, c4, c5, rfl, rfl⟩ hb
    have b46 := hb _ (by walk_at "sto")
    clear hb
    rw [show ((0 : Int) + (i : Int) * 1) = (i : Int) by omega] at b46
    have W46 := W43.up k1
    repeat' walk_at "st"
    have iP46 := iPL.up k1
    have rP46 := rP.up k1
    refine ⟨b46.keep, ?_⟩
    obtain ⟨oL, HL, back⟩ := b46.out
    have hNl : cs.length = xs.length := hxl.symm
    rw [hNl] at rN rP rL rP46
    have hrl : (rowsP xs xs.length).length = xs.length + 1 := by simp [rowsP]
    refine use (walk_ w prog (A.deeper _) mb _ _ _ _ _ _ _ W46 HL hh (by show A.depth + 1 < 970; omega) PL pv _ iP46 rP46 (by omega) (rowsP_hw xs xs.length (by omega)) (frF (rowsP xs xs.length)) (fun _ _ => rfl) i (by omega) ti) (fun v h47 t47 ⟨DF, g47, fv, ev, k47, ilF, nF, H47⟩ => ?_)
    subst ev
    have b47 := back _ _ _ H47
    clear HL H47 back b46
    rw [frF_eq xs xs.length _ _ (by omega)] at nF
    have nF : NsAre fv (Pl.fr xs i) := nF
    have W47 := W46.up k47
    repeat' walk_at "st"
    rename Bd _ _ _ _ _ => b48
    clear b47
    refine sFor (fun _ => rfl) ?_
    repeat' walk_at "st"
    refine oRange1 (fun r4 h49 t49 t0b u0b v0b k49 hr4 => ?_)
    have b49 := b48.kp k49
    rw [show ((i : Int) + 1) = ((i + 1 : Nat) : Int) by omega] at hr4
    refine fRange hh b49 hr4 (n := i + 1) (rng_ok _ (by omega)).1 (rng_ok _ (by omega)).2 (by kernel_rfl!) rfl
      (fun p g1 l1 M1 => ∃ c3 c4 c5, M1 = [(I, (· = o)), (L + 1 + 1 + 1 + 1 + 1, cel c5), (L + 1 + 1 + 1 + 1, cel c4), (L + 1 + 1 + 1, cel c3), (L + 1 + 1, cel (some (.ref NL))), (L + 1, cel (some (.ref T)))] ∧
        l1 = [(Str.ofString "script", .ref S), (Str.ofString "cells", .ref D3), (Str.ofString "text", .str (wS xs) tx), (Str.ofString "places", .ref PL), (Str.ofString "lasts", .ref LL), (Str.ofString "shelves", .ref D), (Str.ofString "i", .int i ti), (Str.ofString "fronts", .ref DF)])
      ⟨_, _, _, rfl, rfl⟩ ?_ ?_
    · rintro p tp g2 l2 M2 h2' t2' I2 o2 hp k2 ⟨c3, c4, c5, rfl, rfl⟩ hb
      have b50 := hb _ (by walk_at "sto")
      clear hb
      rw [show ((0 : Int) + (p : Int) * 1) = (p : Int) by omega] at b50
      have W50 := W47.up k2
      repeat' walk_at "st"
      rename Kp _ _ => ks
      rename Heap.IsSliceOf _ _ _ _ _ => hs
      have b51 := b50.kp ks
      clear b50
      have hpi : p ≤ i := by omega
      have hiN : i ≤ xs.length := by omega
      refine gCutS (lo := some (p : Int)) (hi := some (i : Int)) (st := none) ?_ hs (.int _ _) (.int _ _) .none (by decide) ⟨_, rfl⟩ (fun tst _ => ?_)
      · rw [slS_mid xs p i hpi hiN, wS_len]; unfold Pl.str; rw [List.length_drop, List.length_take]; omega
      rw [slS_mid xs p i hpi hiN]
      repeat' walk_at "st"
      rename Bd _ _ _ _ _ => b52
      clear b51
      have rP50 := rP46.up (k47.tr k2)
      have iP50 := iP46.up (k47.tr k2)
      obtain ⟨Di, ri, evi, ilr, sRi⟩ := rP50.at_ (rows_at (fun k => (Pl.ent xs k).map (·.2)) xs.length i hiN)
      have hri : ri.length = (Pl.ent xs i).length := by rw [SS.len sRi]; simp
      obtain ⟨hel, he2⟩ := ent_lt xs i
      refine gIdx (iP50.up b52.keep) (by omega) (by omega) (v := .ref Di) (by simpa using evi) (by kernel_rfl!) ?_
      repeat' walk_at "st"
      refine oLenL (ilr.up b52.keep) (by omega) (fun _ _ => ?_)
      repeat' walk_at "st"
      refine gIdx (iP50.up b52.keep) (by omega) (by omega) (v := .ref Di) (by simpa using evi) (by kernel_rfl!) ?_
      repeat' walk_at "st"
      refine ⟨b52.keep, ?_⟩
      obtain ⟨oL, HL, back⟩ := b52.out
      refine use (bisN w prog (A.deeper _) mb _ _ _ _ _ _ _ W50 HL hh (by show A.depth + 1 < 800; omega) Di ri _ ilr sRi (by rw [List.length_map]; omega) (fun n hn => ?_) (List.pairwise_map.mpr (ent_up xs i)) p _) (fun v h53 t53 ⟨t54, g53, ev, k53, H53⟩ => ?_)
      · obtain ⟨e, he, rfl⟩ := List.mem_map.mp hn
        have := he2 e he
        omega
      subst ev
      have b53 := back _ _ _ H53
      clear HL H53 back b52
      have W53 := W50.up k53
      have ecnt : (((Pl.ent xs i).map (·.2)).filter fun n => Nat.blt n p).length = Pl.cnt xs i p := by
        unfold Pl.cnt; rw [List.filter_map, List.length_map]; rfl
      rw [ecnt, hri]
      repeat' walk_at "st"
      clear b53
      rename Bd _ _ _ _ _ => b53
      refine xLC [(Str.ofString "stretch", L + 1 + 1 + 1)] rfl rfl (by kernel_rfl!) (fun _ => rfl) ?_
      repeat' walk_at "st"
      refine lcS hh b53 (by kernel_rfl!) (by rw [abc_size]; decide) (by kernel_rfl!) rfl rfl (.inl rfl) (fun C => by kernel_rfl!)
        (fun k g1 ys => StrsAre ys ((([0, 1, 2].take k).filter fun c => (Pl.str xs i p).any (Nat.beq c ·)).map sg) ∧ ys.length ≤ k) ⟨.nil, Nat.le_refl _⟩ (fun _ _ _ j => j.2) ?_ ?_
      · intro k c u3 g1' ys h1' t1' C D' I' o' oL' E1 hc kk1 ⟨j1, j2⟩ b54
        have W54 := W53.up kk1
        obtain ⟨hk3, rfl⟩ := abc_c k c hc
        repeat' walk_at "st"
        rw [in_str]
        rw [take_filter_succ _ (t3_at k hk3)]
        refine iteC (fun q => ?_) (fun q => ?_)
        · repeat' walk_at "st"
          refine LcE.mk Kp.rf b54 ⟨?_, by simp; omega⟩
          rw [if_pos q, List.map_append]
          exact SS.snoc j1
        · refine LcE.mk Kp.rf b54 ⟨?_, by omega⟩
          rw [if_neg (by simp [q]), List.append_nil]
          exact j1
      intro g55 ys55 D55 h55 t55 k55 ⟨j1, j2⟩ hb
      have b55 := hb _ (.none _)
      clear hb b53
      obtain ⟨g56, k56, b56, il56⟩ := b55.fix
      have il56 : IsL g56 D55 ys55 := il56
      have W56 := W53.up (k55.tr k56)
      rw [abc_size] at j1 j2
      refine UseQ.val ?_
      clear b55
      repeat' walk_at "st"
      obtain ⟨ok1, ok2, ok3, ok4, ok5, ok6⟩ := ok_parts (ok_at hokT hiN hpi)
      have jl := SS.len j1
      rw [List.length_map, show ([0, 1, 2] : List Nat).take 3 = [0, 1, 2] from rfl] at jl
      refine oLenL (il56.up b56.keep) (by omega) (fun _ _ => ?_)
      repeat' walk_at "st"
      refine iteC (fun q => absurd q (by simp only [bne_iff_ne, ne_eq, Decidable.not_not]; omega)) (fun _ => ?_)
      repeat' walk_at "st"
      refine ⟨b56.keep, ?_⟩
      obtain ⟨oL, HL, back⟩ := b56.out
      have ilF56 := ilF.up (k2.tr (k53.tr (k55.tr k56)))
      refine use (bisT w prog (A.deeper _) mb _ _ _ _ _ _ _ W56 HL hh (by show A.depth + 1 < 800; omega) DF fv _ ilF56 nF (by have := fr_len xs i; omega) (fr_dn xs i).1 p _) (fun v h57 t57 ⟨t57d, g57, ev, k57, H57⟩ => ?_)
      subst ev
      have b57 := back _ _ _ H57
      clear HL H57 back b56
      have W57 := W56.up k57
      change Bd g57 L _ _ h57 at b57
      rw [show ((Pl.fr xs i).filter fun n => Nat.ble p n).length = Pl.dep xs i p from rfl] at *
      repeat' walk_at "st"
      clear b57
      rename Bd _ _ _ _ _ => b57
      have kS := (k1.tr (k47.tr k2)).tr ((k53.tr (k55.tr k56)).tr k57)
      have jsh57 := jsh.up kS
      have ish57 := ish.up kS
      obtain ⟨Dw, us, evw, ilw, pw⟩ := jsh57.2 (Pl.dep xs i p) (by omega)
      refine sFor (fun _ => rfl) ?_
      repeat' walk_at "st"
      refine gIdx (ish57.up b57.keep) (by omega) (by omega) (v := .ref Dw) (by simpa using evw) (by kernel_rfl!) ?_
      repeat' walk_at "st"
      have b58 := b57.fg (l' := [(Str.ofString "script", .ref S), (Str.ofString "cells", .ref D3), (Str.ofString "text", .str (wS xs) tx), (Str.ofString "places", .ref PL), (Str.ofString "lasts", .ref LL), (Str.ofString "shelves", .ref D), (Str.ofString "i", .int i ti), (Str.ofString "fronts", .ref DF), (Str.ofString "p", .int p tp), (Str.ofString "depth", .int (Pl.dep xs i p : Nat) t57d)]) (by walk_at "sub")
      clear b57
      have hd3 : Pl.dep xs i p ≤ 3 := by omega
      refine fList2 hh b58 ilw pw.pair (by kernel_rfl!) (by kernel_rfl!) rfl (fun k g1 l1 M1 => M1 = [(I2, (· = o2)), (I, (· = o)), (L + 1 + 1 + 1 + 1 + 1, cel c5), (L + 1 + 1 + 1 + 1, cel c4), (L + 1 + 1 + 1, cel (some (.str (wS (Pl.str xs i p)) tst))), (L + 1 + 1, cel (some (.ref NL))), (L + 1, cel (some (.ref T)))] ∧ l1 = [(Str.ofString "script", .ref S), (Str.ofString "cells", .ref D3), (Str.ofString "text", .str (wS xs) tx), (Str.ofString "places", .ref PL), (Str.ofString "lasts", .ref LL), (Str.ofString "shelves", .ref D), (Str.ofString "i", .int i ti), (Str.ofString "fronts", .ref DF), (Str.ofString "p", .int p tp), (Str.ofString "depth", .int (Pl.dep xs i p : Nat) t57d)]) ⟨rfl, rfl⟩ ?_ ?_
      · rintro k Ta v1 v2 g1' l1' M1' h1' t1' I3 o3 hv hT kk1 ⟨rfl, rfl⟩ hb
        have W59 := W57.up kk1
        obtain ⟨Tb, kn, tn, vn, tv, e1, he, hT'⟩ := pw.at_ hv
        cases e1
        obtain ⟨rfl, rfl⟩ := ist_inj hT hT'
        rw [List.getElem?_map] at he
        obtain ⟨wd, hwd, ewd⟩ := Option.map_eq_some_iff.mp he
        cases ewd
        have hwm := List.mem_of_getElem? hwd
        have b59 := hb _ _ (by walk_at "sto") (by walk_at "sto")
        clear hb
        repeat' walk_at "st"
        refine ⟨b59.keep, ?_⟩
        obtain ⟨oL, HL, back⟩ := b59.out
        refine use (fits_ w prog (A.deeper _) mb _ _ _ _ _ _ _ W59 HL hh (by show A.depth + 1 < 900; omega) _ hd3 wd hwm (Pl.str xs i p) (by have := str_len xs i p; omega) _ _) (fun v h60 t60 ⟨ev, H60⟩ => ?_)
        subst ev
        have b60 := back _ _ _ H60
        clear HL H60 back b59
        rw [ok3 wd hwm]
        repeat' walk_at "st"
        refine iteC (fun q => absurd q (by simp)) (fun _ => ?_)
        repeat' walk_at "st"
        have b61 := b60.fg (l' := [(Str.ofString "script", .ref S), (Str.ofString "cells", .ref D3), (Str.ofString "text", .str (wS xs) tx), (Str.ofString "places", .ref PL), (Str.ofString "lasts", .ref LL), (Str.ofString "shelves", .ref D), (Str.ofString "i", .int i ti), (Str.ofString "fronts", .ref DF), (Str.ofString "p", .int p tp), (Str.ofString "depth", .int (Pl.dep xs i p : Nat) t57d)]) (by walk_at "sub")
        exact BEnd.nxt Kp.rf b61 ⟨rfl, rfl⟩
      rintro g62 l62 M62 h62 t62 k62 ⟨rfl, rfl⟩ b62
      have W62 := W57.up k62
      repeat' walk_at "st"
      refine oNewL (by simp) (fun DM h63 k63 f63 il63 => ?_)
      obtain ⟨o63, e63, l63⟩ := il63
      have b63 := b62.add k63 f63 e63 l63
      clear b62
      repeat' walk_at "st"
      clear b63
      rename Bd _ _ _ _ _ => b63
      have jsh63 := jsh57.up k62
      have ish63 := ish57.up k62
      obtain ⟨Dw', us', evw', ilw', pw'⟩ := jsh63.2 (Pl.dep xs i p + 1) (by omega)
      refine sFor (fun _ => rfl) ?_
      repeat' walk_at "st"
      refine gIdx (ish63.up b63.keep) (by omega) (by omega) (v := .ref Dw') (by rw [← evw']; congr 1) (by kernel_rfl!) ?_
      repeat' walk_at "st"
      have hd4 : Pl.dep xs i p + 1 ≤ 3 := by omega
      have kL := (kS.tr k62)
      have iLL63 := iLL.up (k1.tr ((k47.tr k2).tr (((k53.tr (k55.tr k56)).tr k57).tr k62)))
      have rL63 := rL.up (k1.tr ((k47.tr k2).tr (((k53.tr (k55.tr k56)).tr k57).tr k62)))
      have lwd := words_count hd4
      have lpw := pw'.len
      rw [List.length_map] at lpw
      refine fList2 hh b63 ilw' pw'.pair (by kernel_rfl!) (by kernel_rfl!) rfl
        (fun k g1 l1 M1 => ∃ mv, M1 = [(DM, lst mv), (I2, (· = o2)), (I, (· = o)), (L + 1 + 1 + 1 + 1 + 1, cel c5), (L + 1 + 1 + 1 + 1, cel c4), (L + 1 + 1 + 1, cel (some (.str (wS (Pl.str xs i p)) tst))), (L + 1 + 1, cel (some (.ref NL))), (L + 1, cel (some (.ref T)))] ∧ l1 = [(Str.ofString "script", .ref S), (Str.ofString "cells", .ref D3), (Str.ofString "text", .str (wS xs) tx), (Str.ofString "places", .ref PL), (Str.ofString "lasts", .ref LL), (Str.ofString "shelves", .ref D), (Str.ofString "i", .int i ti), (Str.ofString "fronts", .ref DF), (Str.ofString "p", .int p tp), (Str.ofString "depth", .int (Pl.dep xs i p : Nat) t57d), (Str.ofString "missing", .ref DM)] ∧ StrsAre mv ((((Pl.words (Pl.dep xs i p + 1)).take k).filter fun w => !Pl.sub w (Pl.str xs i p)).map wS) ∧ mv.length ≤ k) ⟨_, rfl, rfl, .nil, Nat.le_refl _⟩ ?_ ?_
      · rintro k Ta v1 v2 g1' l1' M1' h1' t1' I3 o3 hv hT kk1 ⟨mv, rfl, rfl, jm, jml⟩ hb
        have W64 := W62.up kk1
        obtain ⟨Tb, kn, tn, vn, tv, e1, he, hT'⟩ := pw'.at_ hv
        cases e1
        obtain ⟨rfl, rfl⟩ := ist_inj hT hT'
        rw [List.getElem?_map] at he
        obtain ⟨wd, hwd, ewd⟩ := Option.map_eq_some_iff.mp he
        cases ewd
        have hwm := List.mem_of_getElem? hwd
        have hk27 : k < (Pl.words (Pl.dep xs i p + 1)).length := (List.getElem?_eq_some_iff.mp hwd).1
        have hwl := words_len _ wd hwm
        obtain ⟨hw1, hw2, hw3⟩ := words_cuts hd4 hwm
        have b64 := hb _ _ (by walk_at "sto") (by walk_at "sto")
        clear hb
        repeat' walk_at "st"
        refine ⟨b64.keep, ?_⟩
        obtain ⟨oL, HL, back⟩ := b64.out
        refine use (fits_ w prog (A.deeper _) mb _ _ _ _ _ _ _ W64 HL hh (by show A.depth + 1 < 900; omega) _ hd4 wd hwm (Pl.str xs i p) (by have := str_len xs i p; omega) _ _) (fun v h65 t65 ⟨ev, H65⟩ => ?_)
        subst ev
        have b65 := back _ _ _ H65
        clear HL H65 back b64
        repeat' walk_at "st"
        clear b65
        rename Bd _ _ _ _ _ => b65
        refine ⟨b65.keep, ?_⟩
        obtain ⟨oL, HL, back⟩ := b65.out
        refine use (begins_ w prog (A.deeper _) mb _ _ _ _ _ _ _ W64 HL hh (by show A.depth + 1 < 970; omega) LL lv _ (iLL63.up kk1) (rL63.up kk1) (by simp [rowsL]; omega) (rowsL_hw xs xs.length (by omega)) (begF (rowsL xs xs.length)) (fun _ => rfl) (fun _ _ _ => rfl) i (by simp [rowsL]; omega) ti _ _ wd.reverse (by simp; omega) (fun c hc => hw3 c (List.mem_reverse.mp hc)) hw1) (fun v h66 t66 ⟨t66', ev, g66, k66, H66⟩ => ?_)
        subst ev
        have b66 := back _ _ _ H66
        clear HL H66 back b65
        rw [begF_eq xs xs.length _ i hiN (fun c hc => hw3 c (List.mem_reverse.mp hc))]
        repeat' walk_at "st"
        rw [begB_I, ← ok4 wd hwm, bne_self_eq_false]
        refine iteF ?_
        repeat' walk_at "st"
        have etk : (((Pl.words (Pl.dep xs i p + 1)).take (k + 1)).filter fun w => !Pl.sub w (Pl.str xs i p)) = (((Pl.words (Pl.dep xs i p + 1)).take k).filter fun w => !Pl.sub w (Pl.str xs i p)) ++ (if (!Pl.sub wd (Pl.str xs i p)) = true then [wd] else []) := take_filter_succ _ hwd
        cases hsub : Pl.sub wd (Pl.str xs i p)
        · refine iteT ?_
          repeat' walk_at "st"
          refine mApp (b66.hp.lst (a := DM) (vs := mv) (by walk_at "mem")) ?_
          repeat' walk_at "st"
          refine oApp (b66.hp.lst (a := DM) (vs := mv) (by walk_at "mem")) (by omega) (fun h67 o67 x67 e67 l67 => ?_)
          have b67 := b66.mset (by walk_at "mset") x67 e67 l67
          clear b66
          repeat' walk_at "st"
          have b68 := b67.fg (l' := [(Str.ofString "script", .ref S), (Str.ofString "cells", .ref D3), (Str.ofString "text", .str (wS xs) tx), (Str.ofString "places", .ref PL), (Str.ofString "lasts", .ref LL), (Str.ofString "shelves", .ref D), (Str.ofString "i", .int i ti), (Str.ofString "fronts", .ref DF), (Str.ofString "p", .int p tp), (Str.ofString "depth", .int (Pl.dep xs i p : Nat) t57d), (Str.ofString "missing", .ref DM)]) (by walk_at "sub")
          refine BEnd.nxt k66 b68 ⟨_, rfl, rfl, ?_, by simp; omega⟩
          rw [etk, hsub, List.map_append]
          exact SS.snoc jm
        · refine iteF ?_
          repeat' walk_at "st"
          have b68 := b66.fg (l' := [(Str.ofString "script", .ref S), (Str.ofString "cells", .ref D3), (Str.ofString "text", .str (wS xs) tx), (Str.ofString "places", .ref PL), (Str.ofString "lasts", .ref LL), (Str.ofString "shelves", .ref D), (Str.ofString "i", .int i ti), (Str.ofString "fronts", .ref DF), (Str.ofString "p", .int p tp), (Str.ofString "depth", .int (Pl.dep xs i p : Nat) t57d), (Str.ofString "missing", .ref DM)]) (by walk_at "sub")
          refine BEnd.nxt k66 b68 ⟨_, rfl, rfl, ?_, by omega⟩
          rw [etk, hsub]
          simpa using jm
      rintro g70 l70 M70 h70 t70 k70 ⟨mv, rfl, rfl, jm, jml⟩ b70
      rw [lpw, List.take_length] at jm
      have jm : StrsAre mv ((Pl.missing xs i p).map wS) := jm
      obtain ⟨g71, k71, b71, iDM⟩ := b70.fix
      have iDM : IsL g71 DM mv := iDM
      clear b70
      have W71 := W62.up (k70.tr k71)
      have kF := (((k53.tr (k55.tr k56)).tr k57).tr k62).tr (k70.tr k71)
      repeat' walk_at "st"
      refine oNewL (by simp) (fun D72 h72 k72 f72 il72 => ?_)
      have b72 := b71.kp k72
      clear b71
      have lF := NsAre.len nF
      have lFr := fr_len xs i
      have ilF72 := ilF.up (k2.tr kF)
      repeat' walk_at "st"
      refine oAddL il72 (ilF72.up b72.keep) (by simp; omega) (fun D73 h73 k73 f73 il73 => ?_)
      have b73 := b72.kp k73
      clear b72
      repeat' walk_at "st"
      rename Kp _ _ => ks
      rename Heap.IsSliceOf _ _ _ _ _ => hs2
      have b74 := b73.kp ks
      clear b73
      rw [show ((Pl.dep xs i p : Nat) : Int) + 1 = ((Pl.dep xs i p + 1 : Nat) : Int) by omega] at hs2
      have hdl := dep_le xs i p
      refine gCutL (lo := none) (hi := some ((Pl.dep xs i p + 1 : Nat) : Int)) (st := none) (il73.up ks) (by simp; omega) hs2 .none (.int _ _) .none (by decide) ⟨_, rfl⟩ (fun D75 h75 k75 f75 il75 => ?_)
      rw [pick_take] at il75
      obtain ⟨g75, kg75, b75, fr75⟩ := b74.freeze k75
      have ilW : IsL g75 D75 (([Value.int (i : Nat) ti] ++ fv).take (Pl.dep xs i p + 1)) := let ⟨o, e, q⟩ := il75; ⟨o, fr75 _ _ f75 e, q⟩
      clear b74
      have nW : NsAre (([Value.int (i : Nat) ti] ++ fv).take (Pl.dep xs i p + 1)) (Pl.way xs i p) := (NsAre.cons i ti nF).take (Pl.dep xs i p + 1)
      generalize ([Value.int (i : Nat) ti] ++ fv).take (Pl.dep xs i p + 1) = wv at ilW nW
      have lW := NsAre.len nW
      rw [way_len] at lW
      have W75 := W71.up kg75
      repeat' walk_at "st"
      clear b75
      rename Bd _ _ _ _ _ => b75
      refine xLC [(Str.ofString "names", L + 1 + 1)] rfl rfl (by kernel_rfl!) (fun _ => rfl) ?_
      repeat' walk_at "st"
      rename Kp _ _ => ks
      rename Heap.IsSliceOf _ _ _ _ _ => hs3
      have b76 := b75.kp ks
      refine gCutL (lo := none) (hi := some ((Pl.dep xs i p : Nat) : Int)) (st := none) (ilW.up b76.keep) (by omega) hs3 .none (.int _ _) .none (by decide) ⟨_, rfl⟩ (fun D77 h77 k77 f77 il77 => ?_)
      rw [pick_take] at il77
      obtain ⟨g77, kg77, b77, fr77⟩ := b76.freeze k77
      have il77 : IsL g77 D77 _ := let ⟨o, e, q⟩ := il77; ⟨o, fr77 _ _ f77 e, q⟩
      clear b76 b75
      have nT : NsAre (wv.take (Pl.dep xs i p)) ((Pl.way xs i p).take (Pl.dep xs i p)) := nW.take _
      have lT : (wv.take (Pl.dep xs i p)).length = Pl.dep xs i p := by rw [List.length_take]; omega
      have W77 := W75.up kg77
      have kG := (k1.tr (k47.tr k2)).tr (kF.tr (kg75.tr kg77))
      have rN77 := rN.up kG
      have iNL77 := iNL.up kG
      refine lcL (vs := wv.take (Pl.dep xs i p)) hh b77 il77 (by omega) (by kernel_rfl!) rfl rfl (.inl rfl) (fun C => by kernel_rfl!)
        (fun k g1 ys => StrsAre ys ((((Pl.way xs i p).take (Pl.dep xs i p)).take k).map fun f => sg ((Pl.ent xs f).getD 0 (0, 0)).1) ∧ ys.length ≤ k) ⟨.nil, Nat.le_refl _⟩ (fun _ _ _ j => j.2) ?_ ?_
      · intro k v g1' ys h1' t1' C D' I' o' oL' E1 hv1 kk1 ⟨j1', j2'⟩ b78
        have hk : k < Pl.dep xs i p := by rw [← lT]; exact (List.getElem?_eq_some_iff.mp hv1).1
        obtain ⟨f, hf⟩ : ∃ f, (Pl.way xs i p)[k]? = some f := ⟨_, List.getElem?_eq_getElem (by rw [way_len]; omega)⟩
        have hf' : ((Pl.way xs i p).take (Pl.dep xs i p))[k]? = some f := by rw [List.getElem?_take_of_lt hk]; exact hf
        obtain ⟨tf, htf⟩ := NsAre.at_ nT hf'
        cases hv1.symm.trans htf
        have hf0 := way_pos xs i p k f hk hf
        have hfi := way_le xs i p f (List.mem_of_getElem? hf)
        have hep := ent_pos xs hf0
        obtain ⟨Df, uf, evf, ilf, sf⟩ := (rN77.up kk1).at_ (rows_at (fun k => (Pl.ent xs k).map (·.1)) xs.length f (by omega))
        obtain ⟨e0, he0⟩ : ∃ e, (Pl.ent xs f)[0]? = some e := ⟨_, List.getElem?_eq_getElem hep⟩
        have eg : (Pl.ent xs f).getD 0 (0, 0) = e0 := by rw [List.getD_eq_getElem?_getD, he0]; rfl
        obtain ⟨t0c, ht0c⟩ := SS.at' sf (i := 0) (y := sg e0.1) (by rw [List.getElem?_map, List.getElem?_map, he0]; rfl)
        repeat' walk_at "st"
        refine gIdx ((iNL77.up kk1).up b78.keep) (by omega) (by omega) (v := .ref Df) (by simpa using evf) (by kernel_rfl!) ?_
        repeat' walk_at "st"
        refine gIdx (ilf.up b78.keep) (by omega) (by omega) (v := .str (sg e0.1) t0c) (by simpa using ht0c) (by kernel_rfl!) ?_
        repeat' walk_at "st"
        refine LcE.mk Kp.rf b78 ⟨?_, by simp; omega⟩
        rw [take_map_succ _ hf', eg]
        exact SS.snoc j1'
      intro g79 ys79 D79 h79 t79 k79 ⟨j1', j2'⟩ hb
      have b79 := hb _ (.none _)
      clear hb b77
      obtain ⟨g80, k80, b80, il80⟩ := b79.fix
      clear b79
      have il80 : IsL g80 D79 ys79 := il80
      rw [lT] at j2'
      have etk : (((Pl.way xs i p).take (Pl.dep xs i p)).take (wv.take (Pl.dep xs i p)).length) = (Pl.way xs i p).take (Pl.dep xs i p) := List.take_of_length_le (by rw [lT, List.length_take]; omega)
      rw [etk] at j1'
      have etl : (((Pl.way xs i p).take (Pl.dep xs i p)).map fun f => sg ((Pl.ent xs f).getD 0 (0, 0)).1).reverse = (Pl.tail xs i p).map sg := by
        unfold Pl.tail
        rw [List.map_reverse, List.map_map]; rfl
      have W80 := W77.up (k79.tr k80)
      refine UseQ.val ?_
      repeat' walk_at "st"
      rename Kp _ _ => ks
      rename Heap.IsSliceOf _ _ _ _ _ => hs4
      have b81 := b80.kp ks
      clear b80
      refine gCutL (lo := none) (hi := none) (st := some (-1)) (il80.up b81.keep) (by omega) hs4 .none .none (.int _ _) (by decide) ⟨_, rfl⟩ (fun D82 h82 k82 f82 il82 => ?_)
      rw [pick_rev] at il82
      have b82 := b81.kp k82
      clear b81
      have j3' := SS.rev j1'
      rw [etl] at j3'
      have ltl : (Pl.tail xs i p).length ≤ 2 := by have := SS.len j3'; rw [List.length_reverse, List.length_map] at this; omega
      repeat' walk_at "st"
      refine oJoin il82 j3' (joinOk_sg _ (by omega)) (fun ttl _ => ?_)
      rw [join_sg]
      repeat' walk_at "st"
      clear b82
      rename Bd _ _ _ _ _ => b82
      have kH := kG.tr (k79.tr k80)
      have rN82 := rN.up kH
      have iNL82 := iNL.up kH
      have rP82 := rP.up kH
      have iPL82 := iPL.up kH
      have ilW82 := ilW.up (kg77.tr (k79.tr k80))
      have hlw := last_at (Pl.way xs i p) (by rw [way_len]; omega)
      generalize hfl : (Pl.way xs i p).getLastD 0 = fl at hlw
      have hfl7 := way_le xs i p fl (List.mem_of_getElem? hlw)
      rw [way_len] at hlw
      obtain ⟨tfl, htfl⟩ := NsAre.at_ nW hlw
      obtain ⟨Dn, un, evn, iln, sn⟩ := rN82.at_ (rows_at (fun k => (Pl.ent xs k).map (·.1)) xs.length fl (by omega))
      obtain ⟨Dp, up, evp, ilp, sp⟩ := rP82.at_ (rows_at (fun k => (Pl.ent xs k).map (·.2)) xs.length fl (by omega))
      have htfl' : wv[((-1 : Int) + (wv.length : Int)).toNat]? = some (.int fl tfl) := by rw [← htfl]; congr 1; omega
      refine gIdxN (ilW82.up b82.keep) (by decide) (by omega) (by omega) htfl' (by kernel_rfl!) ?_
      repeat' walk_at "st"
      refine gIdx (iNL82.up b82.keep) (by omega) (by omega) (v := .ref Dn) (by simpa using evn) (by kernel_rfl!) ?_
      repeat' walk_at "st"
      refine gIdxN (ilW82.up b82.keep) (by decide) (by omega) (by omega) htfl' (by kernel_rfl!) ?_
      repeat' walk_at "st"
      refine gIdx (iPL82.up b82.keep) (by omega) (by omega) (v := .ref Dp) (by simpa using evp) (by kernel_rfl!) ?_
      repeat' walk_at "st"
      refine ⟨b82.keep, ?_⟩
      obtain ⟨oL, HL, back⟩ := b82.out
      obtain ⟨hef1, hef2⟩ := ent_lt xs fl
      refine use (bisN w prog (A.deeper _) mb _ _ _ _ _ _ _ W80 HL hh (by show A.depth + 1 < 800; omega) Dp up _ ilp sp (by rw [List.length_map]; omega) (fun n hn => ?_) (List.pairwise_map.mpr (ent_up xs fl)) p _) (fun v h83 t83 ⟨t83', g83, ev, k83, H83⟩ => ?_)
      · obtain ⟨e, he, rfl⟩ := List.mem_map.mp hn
        have := hef2 e he
        omega
      subst ev
      have b83 := back _ _ _ H83
      clear HL H83 back b82
      have W83 := W80.up k83
      have ecnt2 : (((Pl.ent xs fl).map (·.2)).filter fun n => Nat.blt n p).length = Pl.cnt xs fl p := by
        unfold Pl.cnt; rw [List.filter_map, List.length_map]; rfl
      rw [ecnt2]
      repeat' walk_at "st"
      rename Kp _ _ => ks
      rename Heap.IsSliceOf _ _ _ _ _ => hs5
      have b84 := b83.kp ks
      clear b83
      have lun : un.length = (Pl.ent xs fl).length := by rw [SS.len sn]; simp
      refine gCutL (lo := some ((Pl.cnt xs fl p : Nat) : Int)) (hi := none) (st := none) ((iln.up k83).up b84.keep) (by omega) hs5 (.int _ _) .none .none (by decide) ⟨_, rfl⟩ (fun DK h85 k85 f85 il85 => ?_)
      rw [pick_drop] at il85
      obtain ⟨g85, kg85, b85, fr85⟩ := b84.freeze k85
      have ilK : IsL g85 DK _ := let ⟨o, e, q⟩ := il85; ⟨o, fr85 _ _ f85 e, q⟩
      clear b84
      have sK := SS.drop sn (Pl.cnt xs fl p)
      rw [← List.map_drop, ← List.map_drop, show ((Pl.ent xs fl).drop (Pl.cnt xs fl p)).map (·.1) = Pl.kept xs i p by unfold Pl.kept; rw [hfl]] at sK
      have W85 := W83.up kg85
      repeat' walk_at "st"
      clear b85
      rename Bd _ _ _ _ _ => b85
      have ltl3 : ∀ c ∈ Pl.tail xs i p, c < 3 := by
        intro c hc
        cases hb5 : Pl.built xs i p with
        | nil => exact absurd hb5 ok5
        | cons w0 r0 =>
          have hm : w0 ∈ Pl.built xs i p := by rw [hb5]; exact .head _
          have hm' := hm
          rw [ok6] at hm'
          obtain ⟨hm1, hm2⟩ := List.mem_filter.mp hm'
          have := of_decide_eq_true hm2
          rw [← this] at hc
          exact (words_cuts hd4 (missing_mem hm1)).2.2 c (List.mem_of_mem_drop hc)
      have lwt : (wS (Pl.tail xs i p)).length ≤ 2 := by rw [wS_len]; exact ltl
      refine sLC [(Str.ofString "tail", L + 1 + 1 + 1 + 1), (Str.ofString "kept", L + 1 + 1 + 1 + 1 + 1)] (by kernel_rfl!) rfl rfl (by kernel_rfl!) (fun _ => rfl) ?_
      repeat' walk_at "st"
      refine lcS hh b85 (by kernel_rfl!) (by rw [abc_size]; decide) (by kernel_rfl!) rfl rfl (.inr ⟨_, _, rfl, by kernel_rfl!⟩) (fun C => by kernel_rfl!)
        (fun k g1 ys => StrsAre ys (((([0, 1, 2].take k).filter fun c => !(Pl.kept xs i p).any (Nat.beq c ·)).map fun c => c :: Pl.tail xs i p).map wS) ∧ ys.length ≤ k) ⟨.nil, Nat.le_refl _⟩ (fun _ _ _ j => j.2) ?_ ?_
      · intro k c u3 g1' ys h1' t1' C D' I' o' oL' E1 hc kk1 ⟨j1'', j2''⟩ b86
        have W86 := W85.up kk1
        obtain ⟨hk3, rfl⟩ := abc_c k c hc
        repeat' walk_at "st"
        refine oNotInL ((ilK.up kk1).up b86.keep) sK ?_
        repeat' walk_at "st"
        rw [show ((Pl.kept xs i p).map sg).any (· == (⟨#[97 + k]⟩ : Str)) = (Pl.kept xs i p).any (Nat.beq k ·) from any_sg k _]
        rw [take_filter_succ _ (t3_at k hk3)]
        refine iteC (fun q => ?_) (fun q => ?_)
        · repeat' walk_at "st"
          refine oCat (sz_line (by show 1 + _ ≤ _; omega)) (fun _ _ => ?_)
          repeat' walk_at "st"
          refine LcE.mk Kp.rf b86 ⟨?_, by simp; omega⟩
          have e1 : List.map wS (List.map (fun c => c :: Pl.tail xs i p) [k]) = [sg k ++ wS (Pl.tail xs i p)] := by
            show [wS (k :: Pl.tail xs i p)] = _
            rw [wS_cons]
          rw [if_pos q, List.map_append, List.map_append, e1]
          exact SS.snoc j1''
        · refine LcE.mk Kp.rf b86 ⟨?_, by omega⟩
          rw [if_neg (by simp [q]), List.append_nil]
          exact j1''
      intro g87 ys87 D87 h87 t87 k87 ⟨j4, j5⟩ hb
      have b87 := hb _ (.name (by walk_at "sto"))
      clear hb b85
      obtain ⟨g88, k88, b88, il88⟩ := b87.fix
      have il88 : IsL g88 D87 ys87 := il88
      clear b87
      rw [abc_size] at j4 j5
      have j4 : StrsAre ys87 ((Pl.built xs i p).map wS) := j4
      have W88 := W85.up (k87.tr k88)
      refine UseQ.put ?_
      repeat' walk_at "st"
      refine wpAny_isTrue_BoolOp (wpAny_allTrue_Or_cons ?_)
      repeat' walk_at "st"
      refine oNewL (by simp) (fun D89 h89 k89 f89 il89 => ?_)
      have b89 := b88.kp k89
      clear b88
      repeat' walk_at "st"
      have hb3 : ∀ L ∈ Pl.built xs i p, ∀ c ∈ L, c < 3 := by
        intro L hL
        rw [ok6] at hL
        exact (words_cuts hd4 (missing_mem (List.mem_filter.mp hL).1)).2.2
      refine oEqL (il88.up b89.keep) j4 il89 .nil (by show A.units + 3 + 64 < cLine; omega) (all_strOk hb3) rfl ?_
      repeat' walk_at "st"
      have hbe : ((Pl.built xs i p).map wS == []) = false := by
        cases hb5 : Pl.built xs i p with
        | nil => exact absurd hb5 ok5
        | cons w0 r0 => rfl
      rw [hbe]
      refine iteF ?_
      refine wpAny_allTrue_Or_cons ?_
      repeat' walk_at "st"
      refine xLC [(Str.ofString "tail", L + 1 + 1 + 1 + 1)] rfl rfl (by kernel_rfl!) (fun _ => rfl) ?_
      repeat' walk_at "st"
      have iDM88 := iDM.up ((((((kg75.tr kg77).tr (k79.tr k80)).tr k83).tr kg85).tr k87).tr k88)
      have lmv := SS.len jm
      rw [List.length_map] at lmv
      have lms : (Pl.missing xs i p).length ≤ 27 := Nat.le_trans (List.length_filter_le _ _) lwd
      refine lcL (vs := mv) hh b89 iDM88 (by omega) (by kernel_rfl!) rfl rfl (.inl rfl) (fun C => by kernel_rfl!)
        (fun k g1 ys => StrsAre ys ((((Pl.missing xs i p).take k).filter fun w => decide (w.drop 1 = Pl.tail xs i p)).map wS) ∧ ys.length ≤ k) ⟨.nil, Nat.le_refl _⟩ (fun _ _ _ j => j.2) ?_ ?_
      · intro k v g1' ys h1' t1' C D' I' o' oL' E1 hv1 kk1 ⟨j1'', j2''⟩ b90
        have hk : k < (Pl.missing xs i p).length := by rw [← lmv]; exact (List.getElem?_eq_some_iff.mp hv1).1
        obtain ⟨wd, hwd⟩ : ∃ e, (Pl.missing xs i p)[k]? = some e := ⟨_, List.getElem?_eq_getElem hk⟩
        obtain ⟨te, hte⟩ := SS.at' jm (i := k) (y := wS wd) (by rw [List.getElem?_map, hwd]; rfl)
        cases hv1.symm.trans hte
        have hwm := missing_mem (List.mem_of_getElem? hwd)
        have hwl := words_len _ wd hwm
        obtain ⟨hw1, hw2, hw3⟩ := words_cuts hd4 hwm
        repeat' walk_at "st"
        rename Kp _ _ => ks
        rename Heap.IsSliceOf _ _ _ _ _ => hs6
        have b91 := b90.kp ks
        clear b90
        refine gCutS (lo := some 1) (hi := none) (st := none) ?_ hs6 (.int _ _) .none .none (by decide) ⟨_, rfl⟩ (fun _ _ => ?_)
        · rw [hw2, wS_len, List.length_drop]; omega
        rw [hw2]
        repeat' walk_at "st"
        rw [wS_eq, take_filter_succ _ hwd]
        refine iteC (fun q => ?_) (fun q => ?_)
        · repeat' walk_at "st"
          refine LcE.mk Kp.rf b91 ⟨?_, by simp; omega⟩
          rw [if_pos q, List.map_append]
          exact SS.snoc j1''
        · refine LcE.mk Kp.rf b91 ⟨?_, by omega⟩
          rw [if_neg (fun e => by rw [e] at q; cases q), List.append_nil]
          exact j1''
      intro g92 ys92 D92 h92 t92 k92 ⟨j6, j7⟩ hb
      have b92 := hb _ (.none _)
      clear hb b89
      obtain ⟨g93, k93, b93, il93⟩ := b92.fix
      have il93 : IsL g93 D92 ys92 := il93
      clear b92
      rw [lmv, List.take_length, ← ok6] at j6
      refine UseQ.val ?_
      repeat' walk_at "st"
      refine oNeL ((il88.up (k92.tr k93)).up b93.keep) j4 (il93.up b93.keep) j6 (by show A.units + 3 + 64 < cLine; omega) (all_strOk hb3) (all_strOk hb3) ?_
      repeat' walk_at "st"
      rw [beq_self_eq_true]
      refine iteF ?_
      refine wpAny_allTrue_Or_nil ?_
      refine iteF ?_
      repeat' walk_at "st"
      have b94 := b93.fg (l' := [(Str.ofString "script", .ref S), (Str.ofString "cells", .ref D3), (Str.ofString "text", .str (wS xs) tx), (Str.ofString "places", .ref PL), (Str.ofString "lasts", .ref LL), (Str.ofString "shelves", .ref D), (Str.ofString "i", .int i ti), (Str.ofString "fronts", .ref DF)]) (by walk_at "sub")
      refine BEnd.nxt ?_ b94 ⟨_, _, _, rfl, rfl⟩
      exact ((k53.tr (k55.tr k56)).tr k57).tr ((k62.tr (k70.tr k71)).tr ((((((kg75.tr kg77).tr (k79.tr k80)).tr k83).tr kg85).tr (k87.tr k88)).tr (k92.tr k93)))
    rintro g95 l95 M95 h95 t95 k95 ⟨c3', c4', c5', rfl, rfl⟩ b95
    repeat' walk_at "st"
    have b96 := b95.fg (l' := [(Str.ofString "script", .ref S), (Str.ofString "cells", .ref D3), (Str.ofString "text", .str (wS xs) tx), (Str.ofString "places", .ref PL), (Str.ofString "lasts", .ref LL), (Str.ofString "shelves", .ref D)]) (by walk_at "sub")
    exact BEnd.nxt (k47.tr k95) b96 ⟨_, _, _, _, rfl, rfl⟩
  rintro g97 l97 M97 h97 t97 k97 ⟨tx', c3', c4', c5', rfl, rfl⟩ b97
  repeat' walk_at "st"
  exact DoneF.ret ⟨rfl, (k5.tr ((k1.tr k2').tr (k3'.tr ((kg11.tr (kg13.tr kg15)).tr ((kg18.tr kg19).tr (k40.tr (kk.tr k97))))))).tr b97.keep⟩
set_option maxHeartbeats 4000000 in
theorem top_ : PySem.Challenge.rw_pg0293_02.Holds := Mine.hd (by
  intro w s₀ s₁ mg mb G Y fa o pm cd doc dV kV ho hd hcd hD hmg hg args vals as hpre hlay hrd hwl hlo
  have KX := kIn_of Y
  have hT := G.T
  have W : Wld (KK w) mb s₁.heap := ⟨KX, hT.nolimit, ⟨mg, hT.g⟩, hT.b, hT.builtins⟩
  have hmg' : mg (Str.ofString "law") = some (.ref fa) := hmg
  have hfa : fa = 252 := by
    have e := mg_of (n := Str.ofString "law") (v := .ref 252) KX hT.g (by kernel_rfl!)
    have := hmg'.symm.trans e
    cases this; rfl
  subst hfa
  clear hT hcd ho hd hmg hmg' hD G Y
  wrow_args hpre hlay hrd hwl hlo
  all_goals (first | refine callC_kw (enter_call ?_) | refine enter_call ?_ | refine callC_kw (enter_callW ?_) | refine enter_callW ?_ | w_how)
  refine codeAny_mono ?_ (fun _ _ g => GoodW.toG g)
  rename Heap.IsList _ _ _ => hL
  rename IntsAre _ _ => hI
  obtain ⟨h, gs, dr, tk, os⟩ := s₁
  have hg : gs = #[] := hg
  subst hg
  refine codeAny_mono (law_ w _ callerA mb h h #[] dr tk os W ⟨Kp.rf, (fun p hp => nomatch hp), List.nodup_nil⟩ rfl (by decide) (by decide) _ _ _ hL hI (by omega)) ?_
  rintro r s' ⟨v, rfl, h', tk', rfl, rfl, hk⟩
  refine ⟨.inl ⟨_, .bool true, [], rfl, fun _ => rfl, ?_, ?_, ?_⟩, hk, rfl, rfl⟩
  · first | exact ReadsW.bool | exact .bool _ | constructor
  · first | rfl | kernel_rfl! | simp [ofPy]
  · exact fun _ => ⟨List.nodup_nil, fun a ha => nomatch ha⟩)
end Mine
set_option maxRecDepth 100000 in
set_option maxHeartbeats 8000000 in
theorem PySem.Challenge.cw_pg0293_02_holds : PySem.Challenge.rw_pg0293_02.Holds := by
  exact Mine.top_
