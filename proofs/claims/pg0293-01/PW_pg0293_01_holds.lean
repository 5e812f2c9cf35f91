import PyProof.Rows.All
import Wide.All
import OpenK.AllK
import Wide.FinOn
import PySem.Challenge.RW_pg0293_01
open PySem PySem.W PyProof.Rows
set_option Elab.async false
set_option maxRecDepth 100000
namespace Mine

/-! ## heaps -/
abbrev Kp (g h : Heap) : Prop := ∀ b o, g.get? b = some o → h.get? b = some o
theorem Kp.tr {g h k : Heap} (x : Kp g h) (y : Kp h k) : Kp g k := fun b o e => y b o (x b o e)
theorem Kp.rf {g : Heap} : Kp g g := fun _ _ e => e
theorem Kp.push (h : Heap) (o : Obj) : Kp h (h.push o) := fun _ _ e => Heap.get?_push_of_some _ e

structure Wld (K : Frag) (mb : Str → Option Value) (h : Heap) : Prop where
  kin : K.In h
  lim : h.NoLimit
  g : ∃ mg, h.Ns mainGlobals mg
  b : h.Ns builtinsNs mb
  bb : ∀ x : Str, x ≠ ("__name__" : Str) → mb x = bootBuiltins x
theorem Wld.up {K : Frag} {mb} {g h : Heap} (W : Wld K mb g) (k : Kp g h) : Wld K mb h :=
  ⟨W.kin.keeps k, W.lim.keeps k, let ⟨mg, x⟩ := W.g; ⟨mg, x.keeps k⟩, W.b.keeps k, W.bb⟩

/-- heap h over the frozen part g, with the mutable objects M -/
structure Hp (g : Heap) (M : List (Addr × (Obj → Prop))) (h : Heap) : Prop where
  keep : Kp g h
  mu : ∀ p ∈ M, (∃ o, h.get? p.1 = some o ∧ p.2 o) ∧ g.get? p.1 = none
  nd : (M.map (·.1)).Nodup
/-- a frame: the locals at L are known to hold l -/
structure Bd (g : Heap) (L : Addr) (l : List (Str × Value)) (M : List (Addr × (Obj → Prop))) (h : Heap) : Prop where
  ns : ∃ m, h.Ns L m ∧ ∀ p ∈ l, m p.1 = some p.2
  off : g.get? L = none
  ne : ∀ p ∈ M, p.1 ≠ L
  hp : Hp g M h

def lst (vs : List Value) : Obj → Prop := fun o => ∃ n, o = { cls := .type "list", dict := none, data := .seq vs.toArray n, slots := #[] }
def cel (v : Option Value) : Obj → Prop := fun o => o.data = .cell v
abbrev IsL (h : Heap) (a : Addr) (vs : List Value) : Prop := ∃ o, h.get? a = some o ∧ lst vs o
theorem IsL.plain {h : Heap} {a : Addr} {vs : List Value} (x : IsL h a vs) : h.PlainList a vs.toArray := let ⟨_, e, n, q⟩ := x; ⟨n, q ▸ e⟩
theorem IsL.of {h : Heap} {a : Addr} {vs : List Value} (x : h.PlainList a vs.toArray) : IsL h a vs := let ⟨n, e⟩ := x; ⟨_, e, n, rfl⟩
theorem IsL.list {h : Heap} {a : Addr} {vs : List Value} (x : IsL h a vs) : h.IsList a vs.toArray := let ⟨_, e, n, q⟩ := x; ⟨_, e, q ▸ rfl, n, q ▸ rfl⟩
theorem IsL.up {h h' : Heap} {a : Addr} {vs : List Value} (x : IsL h a vs) (k : Kp h h') : IsL h' a vs := let ⟨o, e, q⟩ := x; ⟨o, k _ _ e, q⟩

theorem fresh_size (h : Heap) : h.get? h.objs.size = none := by
  cases e : h.get? h.objs.size with
  | none => rfl
  | some o => exact absurd (Heap.lt_size e) (Nat.lt_irrefl _)
theorem Kp.none {g h : Heap} (k : Kp g h) {a : Addr} (e : h.get? a = none) : g.get? a = none := by
  cases q : g.get? a with
  | none => rfl
  | some o => rw [k _ _ q] at e; cases e

section
variable {g g' h h' : Heap} {L : Addr} {l l' : List (Str × Value)} {M M' : List (Addr × (Obj → Prop))}
theorem Hp.kp (b : Hp g M h) (k : Kp h h') : Hp g M h' :=
  ⟨b.keep.tr k, fun p hp => let ⟨⟨o, x, z⟩, y⟩ := b.mu p hp; ⟨⟨o, k _ _ x, z⟩, y⟩, b.nd⟩
theorem Bd.kp (b : Bd g L l M h) (k : Kp h h') : Bd g L l M h' := ⟨let ⟨m, x, y⟩ := b.ns; ⟨m, x.keeps k, y⟩, b.off, b.ne, b.hp.kp k⟩
theorem Bd.keep (b : Bd g L l M h) : Kp g h := b.hp.keep
theorem Bd.forget (b : Bd g L l M h) (s : ∀ p ∈ l', p ∈ l) : Bd g L l' M h := ⟨let ⟨m, x, y⟩ := b.ns; ⟨m, x, fun p hp => y p (s p hp)⟩, b.off, b.ne, b.hp⟩
theorem Hp.sub (b : Hp g M h) (s : M'.Sublist M) : Hp g M' h := ⟨b.keep, fun p hp => b.mu p (s.subset hp), (s.map _).nodup b.nd⟩
theorem Bd.sub (b : Bd g L l M h) (s : M'.Sublist M) : Bd g L l M' h := ⟨b.ns, b.off, fun p hp => b.ne p (s.subset hp), b.hp.sub s⟩
theorem Bd.tail {p} (b : Bd g L l (p :: M) h) : Bd g L l M h := b.sub (List.sublist_cons_self _ _)
theorem Hp.weak {a : Addr} {p q : Obj → Prop} (b : Hp g ((a, p) :: M) h) (w : ∀ o, p o → q o) : Hp g ((a, q) :: M) h :=
  ⟨b.keep, fun r hr => by
    rcases List.mem_cons.mp hr with rfl | hr
    · obtain ⟨⟨o, x, z⟩, y⟩ := b.mu _ (.head _); exact ⟨⟨o, x, w o z⟩, y⟩
    · exact b.mu r (.tail _ hr), b.nd⟩
theorem Bd.lsz (b : Bd g L l M h) : L < h.objs.size := let ⟨_, ⟨_, _, _, e, _⟩, _⟩ := b.ns; Heap.lt_size e
theorem Hp.msz (b : Hp g M h) : ∀ p ∈ M, p.1 < h.objs.size := fun p hp => let ⟨⟨_, e, _⟩, _⟩ := b.mu p hp; Heap.lt_size e
/-- the heap of a frame, its locals one of the mutable objects -/
theorem Bd.out (b : Bd g L l M h) : ∃ oL, Hp g ((L, (· = oL)) :: M) h ∧ (∀ h' M' g', Hp g' ((L, (· = oL)) :: M') h' → Bd g' L l M' h') := by
  obtain ⟨m, ⟨oL, es, ep, e, r⟩, y⟩ := b.ns
  refine ⟨oL, ⟨b.hp.keep, fun p hp => ?_, ?_⟩, fun h' M' g' H => ?_⟩
  · rcases List.mem_cons.mp hp with rfl | hp
    · exact ⟨⟨oL, e, rfl⟩, b.off⟩
    · exact b.hp.mu p hp
  · rw [List.map_cons, List.nodup_cons]
    exact ⟨fun q => by obtain ⟨p, hp, e⟩ := List.mem_map.mp q; exact b.ne p hp e, b.hp.nd⟩
  · obtain ⟨⟨o, e', rfl⟩, hg⟩ := H.mu _ (.head _)
    have nd := H.nd
    rw [List.map_cons, List.nodup_cons] at nd
    exact ⟨⟨m, ⟨o, es, ep, e', r⟩, y⟩, hg, fun p hp q => nd.1 (List.mem_map.mpr ⟨p, hp, q⟩), H.sub (List.sublist_cons_self _ _)⟩
/-- a new object joins the mutable ones -/
theorem Hp.add {a : Addr} {o : Obj} {p : Obj → Prop} (b : Hp g M h) (k : Kp h h') (hf : h.get? a = none) (e : h'.get? a = some o) (hp : p o) : Hp g ((a, p) :: M) h' := by
  have b' := b.kp k
  refine ⟨b'.keep, fun r hr => ?_, ?_⟩
  · rcases List.mem_cons.mp hr with rfl | hr
    · exact ⟨⟨o, e, hp⟩, b.keep.none hf⟩
    · exact b'.mu r hr
  · rw [List.map_cons, List.nodup_cons]
    refine ⟨fun q => ?_, b.nd⟩
    obtain ⟨r, hr, rfl⟩ := List.mem_map.mp q
    obtain ⟨⟨o', e', _⟩, _⟩ := b.mu r hr
    rw [hf] at e'; cases e'
theorem Bd.add {a : Addr} {o : Obj} {p : Obj → Prop} (b : Bd g L l M h) (k : Kp h h') (hf : h.get? a = none) (e : h'.get? a = some o) (hp : p o) : Bd g L l ((a, p) :: M) h' := by
  refine ⟨(b.kp k).ns, b.off, fun r hr => ?_, b.hp.add k hf e hp⟩
  rcases List.mem_cons.mp hr with rfl | hr
  · rintro rfl
    obtain ⟨_, ⟨_, _, _, e', _⟩, _⟩ := b.ns
    rw [hf] at e'; cases e'
  · exact b.ne r hr
/-- all but the mutable objects is frozen -/
theorem Hp.freeze (b : Hp g M h) : ∃ g', Kp g g' ∧ Hp g' M h ∧ ∀ a o, h.get? a = some o → a ∉ M.map (·.1) → g'.get? a = some o := by
  refine ⟨hideAll h (M.map (·.1)), fun a o e => ?_, ⟨fun a o e => of_hideAll _ e, fun p hp => ⟨(b.mu p hp).1, hideAll_none _ (List.mem_map_of_mem hp)⟩, b.nd⟩, fun a o e n => hideAll_get _ e n⟩
  refine hideAll_get _ (b.keep _ _ e) fun q => ?_
  obtain ⟨p, hp, rfl⟩ := List.mem_map.mp q
  rw [(b.mu p hp).2] at e; cases e
/-- new objects are frozen -/
theorem Bd.freeze (b : Bd g L l M h) (k : Kp h h') : ∃ g', Kp g g' ∧ Bd g' L l M h' ∧ ∀ a o, h.get? a = none → h'.get? a = some o → g'.get? a = some o := by
  obtain ⟨oL, H, back⟩ := b.out
  obtain ⟨g', k', H', f⟩ := (H.kp k).freeze
  refine ⟨g', k', back _ _ _ H', fun a o e e' => f a o e' fun q => ?_⟩
  obtain ⟨p, hp, rfl⟩ := List.mem_map.mp q
  obtain ⟨⟨o', e', _⟩, _⟩ := H.mu p hp
  rw [e] at e'; cases e'
/-- a mutable object turns -/
theorem Hp.upd {a : Addr} {o : Obj} {p q : Obj → Prop} (b : Hp g ((a, p) :: M) h) (hs : Heap.ExtBut a h h') (e : h'.get? a = some o) (hq : q o) : Hp g ((a, q) :: M) h' := by
  refine ⟨fun c x ex => hs c x (fun q => ?_) (b.keep c x ex), fun r hr => ?_, b.nd⟩
  · subst q; rw [(b.mu _ (.head _)).2] at ex; cases ex
  · rcases List.mem_cons.mp hr with rfl | hr
    · exact ⟨⟨o, e, hq⟩, (b.mu (a, p) (.head _)).2⟩
    · obtain ⟨⟨o', e', z⟩, y⟩ := b.mu r (.tail _ hr)
      have nd := b.nd
      rw [List.map_cons, List.nodup_cons] at nd
      exact ⟨⟨o', hs _ _ (fun q => nd.1 (List.mem_map.mpr ⟨r, hr, q⟩)) e', z⟩, y⟩
theorem Bd.upd {a : Addr} {o : Obj} {p q : Obj → Prop} (b : Bd g L l ((a, p) :: M) h) (hs : Heap.ExtBut a h h') (e : h'.get? a = some o) (hq : q o) : Bd g L l ((a, q) :: M) h' :=
  ⟨let ⟨m, x, y⟩ := b.ns; ⟨m, x.extBut hs (Ne.symm (b.ne (a, p) (.head _))), y⟩, b.off, fun r hr => by
    rcases List.mem_cons.mp hr with rfl | hr
    · exact b.ne (a, p) (.head _)
    · exact b.ne r (.tail _ hr), b.hp.upd hs e hq⟩
theorem Hp.perm (b : Hp g M h) (s : M.Perm M') : Hp g M' h := ⟨b.keep, fun p hp => b.mu p (s.mem_iff.mpr hp), (s.map _).nodup_iff.mp b.nd⟩
theorem Bd.perm (b : Bd g L l M h) (s : M.Perm M') : Bd g L l M' h := ⟨b.ns, b.off, fun p hp => b.ne p (s.mem_iff.mpr hp), b.hp.perm s⟩
end

inductive Has (x : Str) (v : Value) : List (Str × Value) → Prop
  | hd {r} : Has x v ((x, v) :: r)
  | tl {p r} : Has x v r → Has x v (p :: r)
theorem Has.mem {x : Str} {v : Value} {l : List (Str × Value)} (s : Has x v l) : (x, v) ∈ l := by
  induction s with
  | hd => exact List.mem_cons_self
  | tl _ ih => exact List.mem_cons_of_mem _ ih
/-- the store of a name -/
inductive Sto (x : Str) (v : Value) : List (Str × Value) → List (Str × Value) → Prop
  | nil : Sto x v [] [(x, v)]
  | hit {u l} : (l.all fun p => !(p.1 == x)) = true → Sto x v ((x, u) :: l) ((x, v) :: l)
  | miss {y u l l'} : (y == x) = false → Sto x v l l' → Sto x v ((y, u) :: l) ((y, u) :: l')
theorem Sto.ok {x : Str} {v : Value} {l l' : List (Str × Value)} (s : Sto x v l l') : ∀ p ∈ l', p = (x, v) ∨ (p ∈ l ∧ p.1 ≠ x) := by
  induction s with
  | nil => intro p hp; simp at hp; exact .inl hp
  | @hit u l ha =>
    intro p hp
    rcases List.mem_cons.mp hp with rfl | hp
    · exact .inl rfl
    · refine .inr ⟨.tail _ hp, fun e => ?_⟩
      have := List.all_eq_true.mp ha p hp
      rw [e] at this; simp at this
  | @miss y u l l' hne _ ih =>
    intro p hp
    rcases List.mem_cons.mp hp with rfl | hp
    · exact .inr ⟨.head _, fun e => by simp at hne; exact hne e⟩
    · rcases ih p hp with r | ⟨r1, r2⟩
      · exact .inl r
      · exact .inr ⟨.tail _ r1, r2⟩

theorem Bd.sto {g h h' : Heap} {L : Addr} {l l' : List (Str × Value)} {M : List (Addr × (Obj → Prop))} {x : Str} {v : Value} (b : Bd g L l M h) (s : Sto x v l l')
    {m : Str → Option Value} (hm : ∀ p ∈ l, m p.1 = some p.2) (hn : h'.Ns L (fun y => if y = x then some v else m y)) (hs : Heap.SameBut L h h') : Bd g L l' M h' := by
  refine ⟨⟨_, hn, fun p hp => ?_⟩, b.off, b.ne, fun a o e => hs.extBut a o (fun q => ?_) (b.keep a o e), fun p hp => ?_, b.hp.nd⟩
  · rcases s.ok p hp with rfl | ⟨h1, h2⟩
    · simp
    · simp [h2, hm p h1]
  · subst q; rw [b.off] at e; cases e
  · obtain ⟨⟨o, x1, z⟩, x2⟩ := b.hp.mu p hp
    exact ⟨⟨o, hs.extBut _ _ (b.ne p hp) x1, z⟩, x2⟩

section
variable {prog : Program} {w : World} {A : Around} {E : Value → Shared → Prop} {env : Env} {g h : Heap} {L : Addr} {l : List (Str × Value)} {M : List (Addr × (Obj → Prop))}
  {gs : Array GenState} {dr : Drawn} {tk : Nat} {os : OsState} {x : Str} {pos : Pos} {v : Value}

theorem rLoc {Q : Value → Shared → Prop} (b : Bd g L l M h) (hv : Has x v l) (hk : (env.scope.kind == .function && env.kindOf x == some .local && !(x == ("__debug__" : Str))) = true) (hL : env.locals = L)
    (q : Q v ⟨h, gs, dr, tk, os⟩) : wpAny (model prog w) A (eval (.Name x pos) env) Q E ⟨h, gs, dr, tk, os⟩ := by
  obtain ⟨m, hn, hm⟩ := b.ns
  simp only [Bool.and_eq_true, beq_iff_eq, Bool.not_eq_true'] at hk
  subst hL
  exact wpAny_Name (wpAny_loadName_local hk.1.1 hk.1.2 hn (hm _ hv.mem) q) hk.2

theorem rSto {Q : Unit → Shared → Prop} {l' : List (Str × Value)} (b : Bd g L l M h) (s : Sto x v l l') (hk : (env.scope.kind == .function && env.kindOf x == some .local) = true) (hL : env.locals = L)
    (q : ∀ h' tk', Bd g L l' M h' → Q () ⟨h', gs, dr, tk', os⟩) : wpAny (model prog w) A (storeName env x v) Q E ⟨h, gs, dr, tk, os⟩ := by
  obtain ⟨m, hn, hm⟩ := b.ns
  simp only [Bool.and_eq_true, beq_iff_eq] at hk
  subst hL
  refine wpAny_storeName_local hk.2 hn (fun h' hn' hs => q h' _ (b.sto s hm hn' hs)) ?_
  rw [hk.1]; rfl

/-- a name of the module -/
theorem rGlo {K : Frag} {mb : Str → Option Value} {Q : Value → Shared → Prop} (W : Wld K mb g) (b : Bd g L l M h) (hv : nsIn K mainGlobals x = some (some v))
    (hk : (env.scope.kind == .function && env.kindOf x == some .globalImplicit && !(x == ("__debug__" : Str))) = true) (hg : env.globals = mainGlobals)
    (q : Q v ⟨h, gs, dr, tk, os⟩) : wpAny (model prog w) A (eval (.Name x pos) env) Q E ⟨h, gs, dr, tk, os⟩ := by
  obtain ⟨mg, hn⟩ := W.g
  simp only [Bool.and_eq_true, beq_iff_eq, Bool.not_eq_true'] at hk
  refine Calls.Name_function_global hk.1.1 hk.1.2 (Calls.loadGlobal_global (mg := mg) (by rw [hg]; exact hn.keeps b.keep) (mg_of W.kin hn hv) q) hk.2
/-- a name of the built-ins -/
theorem rBui {K : Frag} {mb : Str → Option Value} {Q : Value → Shared → Prop} (W : Wld K mb g) (b : Bd g L l M h) (hv : nsIn K mainGlobals x = some none) (hb : bootBuiltins x = some v) 
    (hk : (env.scope.kind == .function && env.kindOf x == some .globalImplicit && !(x == ("__debug__" : Str)) && !(x == ("__name__" : Str))) = true) (hg : env.globals = mainGlobals) (hbn : env.builtins = builtinsNs)
    (q : Q v ⟨h, gs, dr, tk, os⟩) : wpAny (model prog w) A (eval (.Name x pos) env) Q E ⟨h, gs, dr, tk, os⟩ := by
  obtain ⟨mg, hn⟩ := W.g
  simp only [Bool.and_eq_true, beq_iff_eq, Bool.not_eq_true', beq_eq_false_iff_ne] at hk
  refine Calls.Name_function_global hk.1.1.1 hk.1.1.2 (Calls.loadGlobal_builtin (mg := mg) (mb := mb) (by rw [hg]; exact hn.keeps b.keep) (mg_none_of W.kin hn hv) (by rw [hbn]; exact W.b.keeps b.keep) ((W.bb _ hk.2).trans hb) q) (by simpa using hk.1.2)
end

section
variable {M : Model} {A : Around} {E : Value → Shared → Prop} {env : Env} {s : Shared}
theorem vNil {Q : List Value → Shared → Prop} (q : Q [] s) : wpAny M A (spliced (starEach [] env)) Q E s := by
  refine Calls.spliced_nil ?_
  exact q
theorem vCons {e : Expr} {r : List Expr} {Q : List Value → Shared → Prop} (hs : starEach (e :: r) env = (false, eval e env) :: starEach r env)
    (q : wpAny M A (eval e env) (fun v s₁ => wpAny M A (spliced (starEach r env)) (fun vs s₂ => Q (v :: vs) s₂) E s₁) E s) : wpAny M A (spliced (starEach (e :: r) env)) Q E s := by
  rw [hs]; exact Calls.spliced_cons q
theorem evalArgs_any {f : Value} {as : List (Bool × Sem Value)} {Q : Args → Shared → Prop} (hn : as.any (·.1) = false) (q : wpAny M A (spliced as) (fun vs s' => Q ⟨vs, []⟩ s') E s) : wpAny M A (evalArgs f true as []) Q E s := by
  cases as with
  | nil => exact fun Γ p hΓ => evalArgs_nil3 (Q := Q) (q Γ p hΓ) Γ p hΓ
  | cons p r =>
    obtain ⟨b, x⟩ := p
    cases b with
    | true => simp at hn
    | false => exact Calls.evalArgs_plain q
theorem evalArgs_one {f : Value} {as : List (Bool × Sem Value)} {k : Str} {x : Sem Value} {Q : Args → Shared → Prop} (hn : as.any (·.1) = false)
    (q : wpAny M A (spliced as) (fun vs s' => wpAny M A x (fun v s₂ => Q ⟨vs, [(k, v)]⟩ s₂) E s') E s) : wpAny M A (evalArgs f true as [(some k, x)]) Q E s := by
  have q' : wpAny M A (spliced as) (fun vs s₁ => wpAny M A (evalAll (([(some k, x)] : List (Option Str × Sem Value)).map (·.2))) (fun ks s₂ => Q ⟨vs, (([(some k, x)] : List (Option Str × Sem Value)).filterMap (·.1)).zip ks⟩ s₂) E s₁) E s :=
    wpAny_mono q (fun vs s' h => wpAny_evalAll_cons (wpAny_mono h (fun v s₂ h₂ => wpAny_evalAll_nil h₂) fun _ _ e => e)) fun _ _ e => e
  cases as with
  | nil => exact evalArgs_kw_nil rfl (by
      have := q'
      unfold spliced at this
      exact fun Γ p hΓ => this Γ p hΓ Γ p hΓ)
  | cons p r =>
    obtain ⟨b, y⟩ := p
    cases b with
    | true => simp at hn
    | false => exact evalArgs_kw rfl q'
theorem backTo_id {pos : Pos} {as : List (Bool × Sem Value)} (hn : as.any (·.1) = false) : backTo pos as = as := by
  unfold backTo
  refine map_eq_self fun x hx => ?_
  obtain ⟨b, t⟩ := x
  cases b with
  | false => rfl
  | true => exfalso; rw [List.any_eq_false] at hn; exact hn _ hx rfl

def Keeps' (M : Model) (f : Value) (P : Heap → Prop) : Prop := ∀ h, P h → ∃ k, (k = Keeper.frame ∨ k = Keeper.machine ∨ k = Keeper.boundFrame) ∧ Looks M h (keeperOf f) k
theorem cw {P : Heap → Prop} {pos : Pos} {f : Value} {first : List Value} {args : List Expr} {Q : Value → Shared → Prop} (hn : (starEach args env).any (·.1) = false) (hk : Keeps' M f P)
    (q : wpAny M A (spliced (starEach args env)) (fun vs s₁ => P s₁.heap ∧ wpAny M A (call f (first ++ vs) []) Q E s₁) E s) : wpAny M A (callWith pos f first (backTo pos (starEach args env)) []) Q E s := by
  rw [backTo_id hn]
  exact callWith_of (by rw [hn]; rfl) hk (evalArgs_any hn q)
theorem cwk {P : Heap → Prop} {pos kp : Pos} {f : Value} {first : List Value} {args : List Expr} {k : Str} {e : Expr} {Q : Value → Shared → Prop} (hn : (starEach args env).any (·.1) = false) (hk : Keeps' M f P)
    (q : wpAny M A (spliced (starEach args env)) (fun vs s₁ => wpAny M A (eval e env) (fun v s₂ => P s₂.heap ∧ wpAny M A (call f (first ++ vs) [(k, v)]) Q E s₂) E s₁) E s) :
    wpAny M A (callWith pos f first (backTo pos (starEach args env)) (backToKw pos (keywordEach [⟨some k, e, kp⟩] env))) Q E s := by
  rw [backTo_id hn]
  refine callWith_of (by rw [hn]; rfl) hk (evalArgs_one hn (wpAny_mono q (fun vs s₁ h₁ => ?_) fun _ _ e => e))
  exact wpAny_bind (wpAny_mono h₁ (fun v s₂ h₂ => wpAny_bind (wpAny_standAt (wpAny_pure h₂))) fun _ _ e => e)
theorem keepFn {K : Frag} {a : Addr} (hf : fnIn K a = true) : Keeps' M (.ref a) (fun h => K.In h) := fun h X => by
  unfold fnIn at hf
  split at hf
  · rename_i e
    exact ⟨.frame, .inl rfl, (Looks.ld (part := none) (X _ _ e)).andThen .now⟩
  · cases hf
theorem keepVal {f : Value} (hf : ∀ a, f ≠ .ref a) : Keeps' M f (fun _ => True) := fun h _ => by
  refine ⟨.machine, .inr (.inl rfl), Looks.of_pure ?_⟩
  cases f <;> first | rfl | exact absurd rfl (hf _)
end

section
variable {prog : Program} {w : World} {A : Around} {E : Value → Shared → Prop} {env : Env} {g h : Heap} {L : Addr} {l : List (Str × Value)} {M : List (Addr × (Obj → Prop))}
  {gs : Array GenState} {dr : Drawn} {tk : Nat} {os : OsState} {x : Str} {pos : Pos} {v : Value} {K : Frag} {mb : Str → Option Value}

/-- a call of a def of the module, by its name -/
theorem rCallG {args : List Expr} {np : Pos} {a : Addr} {Q : Value → Shared → Prop} (W : Wld K mb g) (b : Bd g L l M h) (hv : nsIn K mainGlobals x = some (some (.ref a))) (hf : fnIn K a = true)
    (hk : (env.scope.kind == .function && env.kindOf x == some .globalImplicit && !(x == ("__debug__" : Str))) = true) (hg : env.globals = mainGlobals) (hn : (starEach args env).any (·.1) = false)
    (q : wpAny (model prog w) A (spliced (starEach args env)) (fun vs s₁ => Kp g s₁.heap ∧ wpAny (model prog w) A (call (.ref a) vs []) Q E s₁) E ⟨h, gs, dr, tk, os⟩) :
    wpAny (model prog w) A (eval (.Call (.Name x np) args [] pos) env) Q E ⟨h, gs, dr, tk, os⟩ :=
  wpAny_Call_NameR (rGlo W b hv hk hg (cw hn (keepFn hf) (wpAny_mono q (fun vs s₁ h₁ => ⟨W.kin.keeps h₁.1, by simpa using h₁.2⟩) fun _ _ e => e)))
theorem rCallGk {args : List Expr} {np kp : Pos} {a : Addr} {k : Str} {e : Expr} {Q : Value → Shared → Prop} (W : Wld K mb g) (b : Bd g L l M h) (hv : nsIn K mainGlobals x = some (some (.ref a))) (hf : fnIn K a = true)
    (hk : (env.scope.kind == .function && env.kindOf x == some .globalImplicit && !(x == ("__debug__" : Str))) = true) (hg : env.globals = mainGlobals) (hn : (starEach args env).any (·.1) = false)
    (q : wpAny (model prog w) A (spliced (starEach args env)) (fun vs s₁ => wpAny (model prog w) A (eval e env) (fun v s₂ => Kp g s₂.heap ∧ wpAny (model prog w) A (call (.ref a) vs [(k, v)]) Q E s₂) E s₁) E ⟨h, gs, dr, tk, os⟩) :
    wpAny (model prog w) A (eval (.Call (.Name x np) args [⟨some k, e, kp⟩] pos) env) Q E ⟨h, gs, dr, tk, os⟩ :=
  wpAny_Call_Name_kw (rGlo W b hv hk hg (cwk hn (keepFn hf) (wpAny_mono q (fun vs s₁ h₁ => wpAny_mono h₁ (fun v s₂ h₂ => ⟨W.kin.keeps h₂.1, by simpa using h₂.2⟩) fun _ _ e => e) fun _ _ e => e)))
theorem rCallB {args : List Expr} {np : Pos} {Q : Value → Shared → Prop} (W : Wld K mb g) (b : Bd g L l M h) (hv : nsIn K mainGlobals x = some none) (hb : bootBuiltins x = some v) (hr : (match v with | .ref _ => false | _ => true) = true)
    (hk : (env.scope.kind == .function && env.kindOf x == some .globalImplicit && !(x == ("__debug__" : Str)) && !(x == ("__name__" : Str))) = true) (hg : env.globals = mainGlobals) (hbn : env.builtins = builtinsNs) (hn : (starEach args env).any (·.1) = false)
    (q : wpAny (model prog w) A (spliced (starEach args env)) (fun vs s₁ => wpAny (model prog w) A (call v vs []) Q E s₁) E ⟨h, gs, dr, tk, os⟩) :
    wpAny (model prog w) A (eval (.Call (.Name x np) args [] pos) env) Q E ⟨h, gs, dr, tk, os⟩ :=
  wpAny_Call_NameR (rBui W b hv hb hk hg hbn (cw hn (keepVal (fun a e => by subst e; cases hr)) (wpAny_mono q (fun vs s₁ h₁ => ⟨trivial, by simpa using h₁⟩) fun _ _ e => e)))

/-- a method's call -/
def MQ (M : Model) (A : Around) (env : Env) (pos : Pos) (args : List Expr) (Q : Value → Shared → Prop) (E : Value → Shared → Prop) (fx : Value × List Value) (s : Shared) : Prop := wpAny M A (callWith pos fx.1 fx.2 (backTo pos (starEach args env)) []) Q E s
theorem rMeth {o : Expr} {name : Str} {apos : Pos} {args : List Expr} {Q : Value → Shared → Prop} {s : Shared}
    (hbase : attributeBase o name env (eval o env) = eval o env) (hf : methodCallForm (args.length + ([] : List Keyword).length) (backTo pos (starEach args env)) (backToKw pos (keywordEach [] env)) = true) (hline : (apos.endLine == pos.line) = true)
    (q : wpAny (model prog w) A (eval o env) (fun ov s₁ => wpAny (model prog w) A (getMethod ov name (do return (← importBound o env).getD true)) (MQ (model prog w) A env pos args Q E) E s₁) E s) :
    wpAny (model prog w) A (eval (.Call (.Attribute o name apos) args [] pos) env) Q E s := by
  rw [arm_eval_Call, hbase]
  refine wpAny_bind (wpAny_mono q (fun ov s₁ h₁ => ?_) fun _ _ e => e)
  refine wpAny_bind (wpAny_standAt ?_)
  have hpos : methodCallPos true o env apos pos = pure pos := by unfold methodCallPos; simp [hline]
  unfold methodCall
  rw [hf]
  refine wpAny_bind (wpAny_holding (wpAny_mono h₁ (fun fx s₂ h₂ => ?_) fun _ _ e => e))
  obtain ⟨f, first⟩ := fx
  dsimp only
  rw [hpos]
  exact wpAny_bind (wpAny_pure h₂)
theorem mqB {id : String} {ov : Value} {args : List Expr} {Q : Value → Shared → Prop} {s : Shared} (hn : (starEach args env).any (·.1) = false)
    (q : wpAny (model prog w) A (spliced (starEach args env)) (fun vs s₁ => wpAny (model prog w) A (call (.builtin id) (ov :: vs) []) Q E s₁) E s) : MQ (model prog w) A env pos args Q E (.builtin id, [ov]) s :=
  cw hn (keepVal (fun a e => by cases e)) (wpAny_mono q (fun vs s₁ h₁ => ⟨trivial, h₁⟩) fun _ _ e => e)
theorem mqF {f : Addr} {ov : Value} {args : List Expr} {Q : Value → Shared → Prop} {s : Shared} (W : Wld K mb g) (hf : fnIn K f = true) (hn : (starEach args env).any (·.1) = false)
    (q : wpAny (model prog w) A (spliced (starEach args env)) (fun vs s₁ => Kp g s₁.heap ∧ wpAny (model prog w) A (call (.ref f) (ov :: vs) []) Q E s₁) E s) : MQ (model prog w) A env pos args Q E (.ref f, [ov]) s :=
  cw hn (keepFn hf) (wpAny_mono q (fun vs s₁ h₁ => ⟨W.kin.keeps h₁.1, h₁.2⟩) fun _ _ e => e)
end

/-! ## plain words -/
section
variable {prog : Program} {w : World} {A : Around} {E : Value → Shared → Prop} {env : Env} {g h : Heap} {L : Addr} {l : List (Str × Value)} {M : List (Addr × (Obj → Prop))}
  {gs : Array GenState} {dr : Drawn} {tk : Nat} {os : OsState} {pos : Pos} {k : Nat}
theorem xI {i : Int} {Q : Value → Shared → Prop} (q : ∀ u tk', Q (.int i u) ⟨h, gs, dr, tk', os⟩) : wpAny (model prog w) A (eval (.Constant (.int i) k pos) env) Q E ⟨h, gs, dr, tk, os⟩ := by
  with_reducible refine wpAny_Constant_int ?_
  exact q _ _
theorem xS {x : Str} {Q : Value → Shared → Prop} (q : ∀ u tk', Q (.str x u) ⟨h, gs, dr, tk', os⟩) : wpAny (model prog w) A (eval (.Constant (.str x) k pos) env) Q E ⟨h, gs, dr, tk, os⟩ := by
  with_reducible refine Calls.Constant_str ?_
  exact q _ _
theorem xB {c : Bool} {Q : Value → Shared → Prop} (q : Q (.bool c) ⟨h, gs, dr, tk, os⟩) : wpAny (model prog w) A (eval (.Constant (.bool c) k pos) env) Q E ⟨h, gs, dr, tk, os⟩ := by
  with_reducible refine Constant_bool ?_
  exact q
theorem xN {Q : Value → Shared → Prop} (q : Q .none ⟨h, gs, dr, tk, os⟩) : wpAny (model prog w) A (eval (.Constant .none k pos) env) Q E ⟨h, gs, dr, tk, os⟩ := by
  with_reducible refine Constant_none ?_
  exact q
theorem xCmp {lh op r} {s : Shared} {Q : Value → Shared → Prop} (hm : behindInMarks op r = false)
    (q : wpAny (model prog w) A (eval lh env) (fun a s₁ => wpAny (model prog w) A (eval r env) (fun b s₂ => wpAny (model prog w) A (compareOp op a b) Q E s₂) E s₁) E s) :
    wpAny (model prog w) A (eval (.Compare lh [op] [r] pos) env) Q E s := wpAny_Compare1 q hm
theorem tCmp {lh op r whole} {s : Shared} {Q : Bool → Shared → Prop} (hm : behindInMarks op r = false)
    (q : wpAny (model prog w) A (eval lh env) (fun a s₁ => wpAny (model prog w) A (eval r env) (fun b s₂ => wpAny (model prog w) A (compareOp op a b) (fun c s₃ => wpAny (model prog w) A (truthy c) Q E s₃) E s₂) E s₁) E s) :
    wpAny (model prog w) A (isTrue (.Compare lh [op] [r] pos) env whole) Q E s := wpAny_isTrue_Compare1 q hm
theorem tPlain {e : Expr} {s : Shared} {Q : Bool → Shared → Prop} (he : isTrue e env (eval e env) = (do let v ← eval e env; standAt e.pos; holding [v] (truthy v)))
    (q : wpAny (model prog w) A (eval e env) (fun v s₁ => wpAny (model prog w) A (truthy v) Q E s₁) E s) : wpAny (model prog w) A (isTrue e env (eval e env)) Q E s := isTrue_plain q he
theorem ttB {c : Bool} {s : Shared} {Q : Bool → Shared → Prop} (q : Q c s) : wpAny (model prog w) A (truthy (.bool c)) Q E s := by
  with_reducible refine wpAny_truthy_bool ?_
  exact q
theorem sAsg {x pos' value} {s : Shared} {Q : Flow → Shared → Prop} (hs : swapsWith value (some (.Name x pos')) pos.line env = pure false)
    (q : wpAny (model prog w) A (eval value env) (fun v s₁ => wpAny (model prog w) A (storeName env x v) (fun _ => Q .next) E s₁) E s) : wpAny (model prog w) A (exec (.Assign [.Name x pos'] value pos) env) Q E s := wpAny_Assign_Name q hs
def Nx (M : Model) (A : Around) (env : Env) (rest : List Stmt) (Q : Flow → Shared → Prop) (E : Value → Shared → Prop) (f : Flow) (s' : Shared) : Prop := match f with | .next => wpAny M A (execs rest env) Q E s' | f => Q f s'
theorem sCons {st rest} {s : Shared} {Q : Flow → Shared → Prop} (q : wpAny (model prog w) A (exec st env) (Nx (model prog w) A env rest Q E) E s) : wpAny (model prog w) A (execs (st :: rest) env) Q E s := by
  with_reducible refine wpAny_execs_cons ?_
  exact q
theorem nxN {M : Model} {rest} {s : Shared} {Q : Flow → Shared → Prop} (q : wpAny M A (execs rest env) Q E s) : Nx M A env rest Q E .next s := q
theorem nxR {M : Model} {rest} {s : Shared} {v : Value} {Q : Flow → Shared → Prop} (q : Q (.ret v) s) : Nx M A env rest Q E (.ret v) s := q
theorem sNil {s : Shared} {Q : Flow → Shared → Prop} (q : Q .next s) : wpAny (model prog w) A (execs [] env) Q E s := by
  with_reducible refine wpAny_execs_nil ?_
  exact q
theorem iteT {P P' : Prop} (q : P) : (if true = true then P else P') := by simpa using q
theorem iteF {P P' : Prop} (q : P') : (if false = true then P else P') := by simpa using q
theorem iteC {c : Bool} {P P' : Prop} (q : c = true → P) (q' : c = false → P') : (if c = true then P else P') := by cases c <;> simp_all
theorem iteD {c : Prop} [Decidable c] {P P' : Prop} (q : c → P) (q' : ¬ c → P') : (if decide c = true then P else P') := by by_cases hc : c <;> simp_all

/-! ints -/
variable {a b : Int} {t u : Tok}
theorem oAdd {Q : Value → Shared → Prop} (q : ∀ u tk', Q (.int (a + b) u) ⟨h, gs, dr, tk', os⟩) : wpAny (model prog w) A (binaryOp .Add (.int a t) (.int b u)) Q E ⟨h, gs, dr, tk, os⟩ := by
  with_reducible refine add_int ?_
  exact q _ _
theorem oSub {Q : Value → Shared → Prop} (q : ∀ u tk', Q (.int (a - b) u) ⟨h, gs, dr, tk', os⟩) : wpAny (model prog w) A (binaryOp .Sub (.int a t) (.int b u)) Q E ⟨h, gs, dr, tk, os⟩ := by
  with_reducible refine sub_int ?_
  exact q _ _
theorem oMod {Q : Value → Shared → Prop} (hb : b ≠ 0) (q : ∀ u tk', Q (.int (a.fmod b) u) ⟨h, gs, dr, tk', os⟩) : wpAny (model prog w) A (binaryOp .Mod (.int a t) (.int b u)) Q E ⟨h, gs, dr, tk, os⟩ := by
  with_reducible refine mod_int' hb ?_
  exact q _ _
theorem oLt {Q : Value → Shared → Prop} (q : Q (.bool (decide (a < b))) ⟨h, gs, dr, tk, os⟩) : wpAny (model prog w) A (compareOp .Lt (.int a t) (.int b u)) Q E ⟨h, gs, dr, tk, os⟩ := by
  with_reducible refine lt_int ?_
  exact q
theorem oGt {Q : Value → Shared → Prop} (q : Q (.bool (decide (b < a))) ⟨h, gs, dr, tk, os⟩) : wpAny (model prog w) A (compareOp .Gt (.int a t) (.int b u)) Q E ⟨h, gs, dr, tk, os⟩ := by
  with_reducible refine gt_int ?_
  exact q
theorem oGe {Q : Value → Shared → Prop} (q : Q (.bool (decide (b ≤ a))) ⟨h, gs, dr, tk, os⟩) : wpAny (model prog w) A (compareOp .GtE (.int a t) (.int b u)) Q E ⟨h, gs, dr, tk, os⟩ := by
  with_reducible refine ge_int ?_
  exact q
theorem oLe {Q : Value → Shared → Prop} (q : Q (.bool (decide (a ≤ b))) ⟨h, gs, dr, tk, os⟩) : wpAny (model prog w) A (compareOp .LtE (.int a t) (.int b u)) Q E ⟨h, gs, dr, tk, os⟩ := by
  with_reducible refine le_int ?_
  exact q
theorem oEq {Q : Value → Shared → Prop} (q : Q (.bool (a == b)) ⟨h, gs, dr, tk, os⟩) : wpAny (model prog w) A (compareOp .Eq (.int a t) (.int b u)) Q E ⟨h, gs, dr, tk, os⟩ := by
  with_reducible refine eq_int ?_
  exact q
theorem oNe {Q : Value → Shared → Prop} (q : Q (.bool (a != b)) ⟨h, gs, dr, tk, os⟩) : wpAny (model prog w) A (compareOp .NotEq (.int a t) (.int b u)) Q E ⟨h, gs, dr, tk, os⟩ := by
  with_reducible refine ne_int ?_
  exact q

/-! texts -/
variable {x y : Str}
theorem oNotIn {Q : Value → Shared → Prop} (q : Q (.bool (!(!(Builtin.Str.occurrences x y 0 x.length 1).isEmpty))) ⟨h, gs, dr, tk, os⟩) : wpAny (model prog w) A (compareOp .NotIn (.str y u) (.str x t)) Q E ⟨h, gs, dr, tk, os⟩ := by
  with_reducible refine notIn_str ?_
  exact q
theorem oIn {Q : Value → Shared → Prop} (q : Q (.bool (!(Builtin.Str.occurrences x y 0 x.length 1).isEmpty)) ⟨h, gs, dr, tk, os⟩) : wpAny (model prog w) A (compareOp .In (.str y u) (.str x t)) Q E ⟨h, gs, dr, tk, os⟩ := by
  with_reducible refine PyProof.Rows.in_str ?_
  exact q
theorem oEqS {Q : Value → Shared → Prop} (q : Q (.bool (x == y)) ⟨h, gs, dr, tk, os⟩) : wpAny (model prog w) A (compareOp .Eq (.str x t) (.str y u)) Q E ⟨h, gs, dr, tk, os⟩ := by
  with_reducible refine PyProof.Rows.eq_str ?_
  exact q
theorem oNeS {Q : Value → Shared → Prop} (q : Q (.bool (x != y)) ⟨h, gs, dr, tk, os⟩) : wpAny (model prog w) A (compareOp .NotEq (.str x t) (.str y u)) Q E ⟨h, gs, dr, tk, os⟩ := by
  with_reducible refine PyProof.Rows.ne_str ?_
  exact q
theorem oCat {Q : Value → Shared → Prop} (hz : x.length + y.length ≤ sizeLine) (q : ∀ u tk', Q (.str (x ++ y) u) ⟨h, gs, dr, tk', os⟩) : wpAny (model prog w) A (binaryOp .Add (.str x t) (.str y u)) Q E ⟨h, gs, dr, tk, os⟩ := by
  refine PyProof.Rows.add_str ?_ hz
  exact fun t' k => q t' k
theorem oLenS {Q : Value → Shared → Prop} (hz : x.length ≤ sizeLine) (q : ∀ u tk', Q (.int x.length u) ⟨h, gs, dr, tk', os⟩) : wpAny (model prog w) A (call (.builtin "len") [.str x t] []) Q E ⟨h, gs, dr, tk, os⟩ :=
  PyProof.Rows.len_str (by rw [sizeLine_eq] at hz; omega) (q _ _)
theorem ttS {Q : Bool → Shared → Prop} (hz : x.length ≤ sizeLine) (q : ∀ tk', Q ((x.length : Int) != 0) ⟨h, gs, dr, tk', os⟩) : wpAny (model prog w) A (truthy (.str x t)) Q E ⟨h, gs, dr, tk, os⟩ :=
  P.truthy_str (by rw [sizeLine_eq] at hz; omega) (q _)

theorem oSplit {Q : Value → Shared → Prop} (hz : x.length + 2 ≤ sizeLine) (hy : (y.length == 0) = false)
    (q : ∀ D ls h' tk', ls.map (·.1) = Txt.split x y → Kp h h' → h.get? D = none → IsL h' D (strValues ls) → Q (.ref D) ⟨h', gs, dr, tk', os⟩) :
    wpAny (model prog w) A (call (.builtin "str.split") [.str x t, .str y u] []) Q E ⟨h, gs, dr, tk, os⟩ := by
  have fresh := fresh_size h
  have hn : (Builtin.Str.partsBetween x (Builtin.Str.occurrences x y 0 x.length (x.length + 1)) y.length).length ≤ sizeLine := by
    have e1 := StrLaws.occ_length_le x y 0 x.length (x.length + 1)
    rw [length_partsBetween]; omega
  cases h1 : (decide (x.length < y.length) || decide (Builtin.Str.strKind x < Builtin.Str.strKind y))
  · cases hf : (Builtin.Str.occurrences x y 0 x.length (x.length + 1)).isEmpty
    · refine call_meets F.slot_str_split (typeIs_str _ _ _) F.entry_str_split (F.args_str_split_2 _ _) (meets_str_split_sep x y t u h1 hy hf (by omega) hn) ?_
      rw [strsFrom_eq]
      exact q _ (numbered tk _) _ _ ((numbered_texts _ _).trans ((if_neg (ne_true_of_eq_false h1)).trans (if_neg (ne_true_of_eq_false hf))).symm) (Kp.push _ _) fresh (IsL.of ⟨_, Heap.get?_push_size _ rfl⟩)
    · exact call_meets F.slot_str_split (typeIs_str _ _ _) F.entry_str_split (F.args_str_split_2 _ _) (meets_str_split_not_found x y t u h1 hy hf)
        (q _ [(x, t)] _ tk ((if_neg (ne_true_of_eq_false h1)).trans (if_pos hf)).symm (Kp.push _ _) fresh (IsL.of ⟨_, Heap.get?_push_size _ rfl⟩))
  · exact call_meets F.slot_str_split (typeIs_str _ _ _) F.entry_str_split (F.args_str_split_2 _ _) (meets_str_split_cannot_occur x y t u h1)
      (q _ [(x, t)] _ tk (if_pos h1).symm (Kp.push _ _) fresh (IsL.of ⟨_, Heap.get?_push_size _ rfl⟩))
theorem mSplit {pl} {Q : Value × List Value → Shared → Prop} (q : Q (.builtin "str.split", [.str x t]) ⟨h, gs, dr, tk, os⟩) : wpAny (model prog w) A (getMethod (.str x t) "split" pl) Q E ⟨h, gs, dr, tk, os⟩ := 
  getMethod_builtin (typeIs_str _ _ _) F.plainAttrs_str F.slot_str_split F.type_str_split (fun _ e => nomatch e) q
end

/-! ## calls and frames -/
def Done (gs : Array GenState) (dr : Drawn) (os : OsState) (P : Value → Heap → Prop) (v : Value) (s' : Shared) : Prop := ∃ h' tk', s' = ⟨h', gs, dr, tk', os⟩ ∧ P v h'
theorem Done.mk {gs : Array GenState} {dr : Drawn} {os : OsState} {P : Value → Heap → Prop} {v : Value} {h : Heap} {tk : Nat} (q : P v h) : Done gs dr os P v ⟨h, gs, dr, tk, os⟩ := ⟨_, _, rfl, q⟩
def DoneF (gs : Array GenState) (dr : Drawn) (os : OsState) (P : Value → Heap → Prop) (f : Flow) (s' : Shared) : Prop := Done gs dr os P (match f with | .ret v => v | _ => .none) s'
theorem DoneF.ret {gs : Array GenState} {dr : Drawn} {os : OsState} {P : Value → Heap → Prop} {v : Value} {h : Heap} {tk : Nat} (q : P v h) : DoneF gs dr os P (.ret v) ⟨h, gs, dr, tk, os⟩ := ⟨_, _, rfl, q⟩
theorem DoneF.next {gs : Array GenState} {dr : Drawn} {os : OsState} {P : Value → Heap → Prop} {h : Heap} {tk : Nat} (q : P .none h) : DoneF gs dr os P .next ⟨h, gs, dr, tk, os⟩ := ⟨_, _, rfl, q⟩
def Rt (gs : Array GenState) (dr : Drawn) (os : OsState) (P : Value → Heap → Prop) : Result → Shared → Prop := fun r s' => ∃ v, r = .ok (.ret v) ∧ Done gs dr os P v s'
theorem Rt.mono {prog : Program} {w : World} {A : Around} {c : Code} {gs dr os} {P P' : Value → Heap → Prop} {s} (x : codeAny (model prog w) A c (Rt gs dr os P) s) (i : ∀ v h, P v h → P' v h) : codeAny (model prog w) A c (Rt gs dr os P') s :=
  codeAny_mono x fun _ _ ⟨v, e, h', tk', e', p⟩ => ⟨v, e, h', tk', e', i _ _ p⟩
theorem use {prog : Program} {w : World} {A : Around} {E : Value → Shared → Prop} {f : Value} {vs kws s gs dr os} {P : Value → Heap → Prop} {Q : Value → Shared → Prop} (c : codeAny (model prog w) A (.call f ⟨vs, kws⟩) (Rt gs dr os P) s)
    (q : ∀ v h' tk', P v h' → Q v ⟨h', gs, dr, tk', os⟩) : wpAny (model prog w) A (call f vs kws) Q E s :=
  wpAny_call (codeAny_mono c fun r s' hr => by obtain ⟨v, rfl, h', tk', rfl, p⟩ := hr; exact q v h' tk' p)

def nodupK : List (Str × Value) → Bool
  | [] => true
  | p :: r => (r.all fun q => !(q.1 == p.1)) && nodupK r
theorem lookup_none {x : Str} : ∀ {a : List (Str × Value)}, (a.all fun q => !(q.1 == x)) = true → a.lookup x = none
  | [], _ => rfl
  | (y, v) :: r, h => by
    simp only [List.all_cons, Bool.and_eq_true, Bool.not_eq_true', beq_eq_false_iff_ne, ne_eq] at h
    rw [List.lookup_cons]
    have : (x == y) = false := by simpa [beq_eq_false_iff_ne] using fun e : x = y => h.1 e.symm
    rw [this]
    exact lookup_none (by simpa using h.2)
theorem nodupK_ok : ∀ {bs : List (Str × Value)}, nodupK bs = true → ∀ p ∈ bs, bs.reverse.lookup p.1 = some p.2
  | [], _, _, hp => nomatch hp
  | q :: r, hn, p, hp => by
    simp only [nodupK, Bool.and_eq_true] at hn
    rw [List.reverse_cons, List.lookup_append]
    rcases List.mem_cons.mp hp with rfl | hp
    · rw [lookup_none (by simpa using hn.1)]; simp [List.lookup]
    · rw [nodupK_ok hn.2 p hp]; rfl
theorem Bd.enter {g h h0 : Heap} {M : List (Addr × (Obj → Prop))} {bs : List (Str × Value)} (H : Hp g M h) (hn : h0.Ns h.objs.size (fun x => bs.reverse.lookup x)) (hk : Kp h h0) (hd : nodupK bs = true) : Bd g h.objs.size bs M h0 :=
  ⟨⟨_, hn, nodupK_ok hd⟩, H.keep.none (fresh_size h), fun p hp => Nat.ne_of_lt (H.msz p hp), H.kp hk⟩

/-- a def's body, from its call -/
theorem enter {K : Frag} {mb} {prog : Program} {w : World} {A : Around} {g h : Heap} {M : List (Addr × (Obj → Prop))} {gs dr tk os} {P : Value → Heap → Prop} {f : Addr} {o : Obj} {fd : FuncData} {body : List Stmt} {args : Args} (binds : List (Str × Value)) (W : Wld K mb g) (H : Hp g M h)
    (hroom : A.depth < 1000) (ho : K.lookup f = some o) (hdata : o.data = .func fd) (hcd : codeIn K fd.code fd.qualname = true)
    (hbody : fd.body = .stmts body) (hbind : BindsTo ⟨h, gs, dr, tk, os⟩ fd args binds)
    (hcell : (fd.scope.names.all fun x => x.2 != .cell) = true) (hloc : (binds.all fun x => decide (fd.scope.names.lookup x.1 = some .local)) = true) (hnd : nodupK binds = true)
    (hco : fd.scope.isCoroutine = false) (hgen : fd.scope.isGenerator = false) (hk : fd.scope.kind = .function)
    (q : ∀ L h0 tk0, Bd g L binds M h0 → wpAny (model prog w) (A.deeper (callEnv fd L f)) (execs body (callEnv fd L f)) (DoneF gs dr os P) (fun _ _ => False) ⟨h0, gs, dr, tk0, os⟩) :
    codeAny (model prog w) A (.call (.ref f) args) (Rt gs dr os P) ⟨h, gs, dr, tk, os⟩ := by
  have W' := W.up H.keep
  refine codeAny_call_def hroom (W'.kin f _ ho) hdata W'.lim (codeRec_of W'.kin hcd) hbody hbind (fun x hx => by simpa using List.all_eq_true.mp hcell x hx) (locs hloc) (fun h0 hn hk => ?_) hco hgen hk
  exact wpAny_mono (q _ h0 _ (Bd.enter H hn hk hnd)) (fun fl s' hd => ⟨_, rfl, hd⟩) fun _ _ x => x.elim

/-! ## for -/
section
variable {prog : Program} {w : World} {A : Around} {E : Value → Shared → Prop} {env : Env} {g h : Heap} {L : Addr} {l : List (Str × Value)} {M : List (Addr × (Obj → Prop))}
  {gs : Array GenState} {dr : Drawn} {tk : Nat} {os : OsState}
abbrev Inv := Heap → List (Str × Value) → List (Addr × (Obj → Prop)) → Prop
def BEnd (gs : Array GenState) (dr : Drawn) (os : OsState) (L I : Addr) (o : Obj) (g : Heap) (Jn : Inv) (Q : Flow → Shared → Prop) (f : Flow) (s' : Shared) : Prop := match f with
  | .next | .cont => ∃ g' l' M' h' tk', s' = ⟨h', gs, dr, tk', os⟩ ∧ Kp g g' ∧ Bd g' L l' ((I, (· = o)) :: M') h' ∧ Jn g' l' M'
  | .brk => Q .next s'
  | .ret v => Q (.ret v) s'
theorem BEnd.nxt {I : Addr} {o : Obj} {Jn : Inv} {Q : Flow → Shared → Prop} {g' h' : Heap} {l'} {M'} {tk'} (k : Kp g g') (b : Bd g' L l' ((I, (· = o)) :: M') h') (j : Jn g' l' M') : BEnd gs dr os L I o g Jn Q .next ⟨h', gs, dr, tk', os⟩ :=
  ⟨g', l', M', h', tk', rfl, k, b, j⟩
theorem BEnd.ret {I : Addr} {o : Obj} {Jn : Inv} {Q : Flow → Shared → Prop} {v : Value} {s' : Shared} (q : Q (.ret v) s') : BEnd gs dr os L I o g Jn Q (.ret v) s' := q
def forR (Q : Flow → Shared → Prop) (r : Result) (s' : Shared) : Prop := match r with | .ok f => Q f s' | .error _ => False

theorem forW {target : Expr} {body : List Stmt} {I : Addr} {fp wr : List Addr} {n : Nat} {P : Nat → Value → Prop} {St : Nat → Heap → Prop} {Q : Flow → Shared → Prop}
    (W : Walks prog w A I fp wr n P St) {Po : Obj → Prop} (hI : ∀ i h, St i h → ∃ o, h.get? I = some o ∧ Po o) (hwr : ∀ b ∈ wr, b = I) (hfp : ∀ b ∈ fp, b = I ∨ ∃ o, g.get? b = some o)
    (J : Nat → Inv) {h₀ : Heap} (b : Bd g L l M h₀) (hk : Kp h₀ h) (hf : h₀.get? I = none) (hst : St 0 h) (j0 : J 0 g l M)
    (turn : ∀ i v g' l' M' h' tk' o, i < n → P i v → Po o → Kp g g' → J i g' l' M' → Bd g' L l' ((I, (· = o)) :: M') h' →
      wpAny (model prog w) A (letOwnedTupleGo target (.ref I) v) (fun _ s₁ => wpAny (model prog w) A (assign target env v) (fun _ s₂ => wpAny (model prog w) A (execs body env) (BEnd gs dr os L I o g' (J (i + 1)) Q) (fun _ _ => False) s₂) (fun _ _ => False) s₁) (fun _ _ => False) ⟨h', gs, dr, tk', os⟩)
    (done : ∀ g' l' M' h' tk', Kp g g' → J n g' l' M' → Bd g' L l' M' h' → Q .next ⟨h', gs, dr, tk', os⟩) :
    codeAny (model prog w) A (.forLoop target (.ref I) body [] env) (forR Q) ⟨h, gs, dr, tk, os⟩ := by
  obtain ⟨o₀, ho₀, _⟩ := hI _ _ hst
  refine codeAny_forLoop_any
    (fun k s' => ∃ i g' l' M' h' tk' o, s' = ⟨h', gs, dr, tk', os⟩ ∧ i ≤ n ∧ k = n + 1 - i ∧ Kp g g' ∧ J i g' l' M' ∧ Bd g' L l' ((I, (· = o)) :: M') h' ∧ St i h') ?_ (n + 1)
    ⟨0, g, l, M, h, tk, o₀, rfl, Nat.zero_le _, rfl, Kp.rf, j0, b.add hk hf ho₀ rfl, hst⟩
  rintro k s' ⟨i, g', l', M', h', tk', o, rfl, hi, rfl, kg, j, b', st⟩
  by_cases hlt : i < n
  · refine W.item i _ _ _ hlt st fun v h₁ tk₁ hP st₁ hk₁ => ?_
    obtain ⟨o₁, ho₁, po₁⟩ := hI _ _ st₁
    have b₁ : Bd g' L l' ((I, (· = o₁)) :: M') h₁ := b'.upd (fun c x hc e => hk₁ c x (fun q => hc (hwr c q)) e) ho₁ rfl
    refine wpAny_mono (turn i v g' l' M' h₁ tk₁ o₁ hlt hP po₁ kg j b₁) (fun _ s₁ h₁' => wpAny_mono h₁' (fun _ s₂ h₂ => wpAny_mono h₂ (fun f s₃ h₃ => ?_) fun _ _ e => e.elim) fun _ _ e => e.elim) fun _ _ e => e.elim
    have fin : BEnd gs dr os L I o₁ g' (J (i + 1)) Q .next s₃ → ∃ m, m < n + 1 - i ∧ ∃ i g' l' M' h' tk' o, s₃ = ⟨h', gs, dr, tk', os⟩ ∧ i ≤ n ∧ m = n + 1 - i ∧ Kp g g' ∧ J i g' l' M' ∧ Bd g' L l' ((I, (· = o)) :: M') h' ∧ St i h' := by
      rintro ⟨g'', l'', M'', h'', tk'', rfl, k'', b'', j''⟩
      refine ⟨n + 1 - (i + 1), by omega, i + 1, g'', l'', M'', h'', tk'', o₁, rfl, hlt, rfl, kg.tr k'', j'', b'', W.frame _ _ _ st₁ fun c hc x e => ?_⟩
      rcases hfp c hc with rfl | ⟨oc, hoc⟩
      · obtain ⟨⟨o', e', rfl⟩, _⟩ := b''.hp.mu _ (.head _)
        rw [ho₁] at e; cases e; exact e'
      · have e1 := b₁.keep _ _ (kg _ _ hoc)
        rw [e] at e1; cases e1
        exact b''.keep _ _ (k'' _ _ (kg _ _ hoc))
    cases f with
    | next => exact fin h₃
    | cont => exact fin h₃
    | brk => exact h₃
    | ret v => exact h₃
  · have : i = n := by omega
    subst this
    refine W.done _ _ _ st fun h₁ tk₁ hk₁ => wpAny_execs_nil ?_
    refine done g' l' M' h₁ tk₁ kg j ?_
    have b₁ := b'.tail
    obtain ⟨m, x, y⟩ := b'.ns
    have eI : ∀ c x, c ≠ I → h'.get? c = some x → h₁.get? c = some x := fun c x hc e => hk₁ c x (fun q => hc (hwr c q)) e
    have nL : L ≠ I := fun q => b'.ne _ (.head _) q.symm
    have nd := b'.hp.nd
    rw [List.map_cons, List.nodup_cons] at nd
    refine ⟨⟨m, x.extBut eI nL, y⟩, b'.off, b₁.ne, fun c x e => eI c x (fun q => ?_) (b'.keep _ _ e), fun p hp => ?_, nd.2⟩
    · subst q; rw [(b'.hp.mu _ (.head _)).2] at e; cases e
    · obtain ⟨⟨o', e', z⟩, y⟩ := b₁.hp.mu p hp
      exact ⟨⟨o', eI _ _ (fun q => nd.1 (List.mem_map.mpr ⟨p, hp, q⟩)) e', z⟩, y⟩

theorem sFor {target iter body pos} {Q : Flow → Shared → Prop} {s : Shared} (hs : ∀ x, foldedSetIterable iter env x = pure x)
    (q : wpAny (model prog w) A (eval iter env) (fun x s₁ => wpAny (model prog w) A (pyIter x) (fun it s₂ => codeAny (model prog w) A (.forLoop target it body [] env) (forR Q) s₂) E s₁) E s) :
    wpAny (model prog w) A (exec (.For target iter body [] pos) env) Q E s :=
  wpAny_For (wpAny_mono q (fun _ _ h₁ => wpAny_mono h₁ (fun _ _ h₂ => codeAny_mono h₂ fun r s' hr => by cases r with | ok f => exact hr | error e => exact hr.elim) fun _ _ e => e) fun _ _ e => e) hs

/-- one name for the items: what holds when the turn begins -/
theorem asgName {x : Str} {px : Pos} {I : Addr} {v : Value} {body : List Stmt} {R : Flow → Shared → Prop} (hk : (env.scope.kind == .function && env.kindOf x == some .local) = true) (hL : env.locals = L) (b : Bd g L l M h)
    (q : ∀ h' tk', (∀ l', Sto x v l l' → Bd g L l' M h') → wpAny (model prog w) A (execs body env) R (fun _ _ => False) ⟨h', gs, dr, tk', os⟩) :
    wpAny (model prog w) A (letOwnedTupleGo (.Name x px) (.ref I) v) (fun _ s₁ => wpAny (model prog w) A (assign (.Name x px) env v) (fun _ s₂ => wpAny (model prog w) A (execs body env) R (fun _ _ => False) s₂) (fun _ _ => False) s₁) (fun _ _ => False) ⟨h, gs, dr, tk, os⟩ := by
  refine wpAny_of_eq (show letOwnedTupleGo (.Name x px) (.ref I) v = pure () from rfl) ?_
  refine wpAny_assign_Name ?_
  obtain ⟨m, hn, hm⟩ := b.ns
  simp only [Bool.and_eq_true, beq_iff_eq] at hk
  subst hL
  refine wpAny_storeName_local hk.2 hn (fun h' hn' hs => q h' _ fun l' st => b.sto st hm hn' hs) ?_
  rw [hk.1]; rfl

theorem fList {x : Str} {px : Pos} {a : Addr} {vs : List Value} {body : List Stmt} {Q : Flow → Shared → Prop} (hh : A.handled = none) (b : Bd g L l M h) (hl : IsL g a vs) 
    (hk : (env.scope.kind == .function && env.kindOf x == some .local) = true) (hL : env.locals = L) (J : Nat → Inv) (j0 : J 0 g l M)
    (turn : ∀ i v g' l' M' h' tk' I o, vs[i]? = some v → Kp g g' → J i g' l' M' → (∀ l'', Sto x v l' l'' → Bd g' L l'' ((I, (· = o)) :: M') h') →
      wpAny (model prog w) A (execs body env) (BEnd gs dr os L I o g' (J (i + 1)) Q) (fun _ _ => False) ⟨h', gs, dr, tk', os⟩)
    (done : ∀ g' l' M' h' tk', Kp g g' → J vs.length g' l' M' → Bd g' L l' M' h' → Q .next ⟨h', gs, dr, tk', os⟩) :
    wpAny (model prog w) A (pyIter (.ref a)) (fun it s₂ => codeAny (model prog w) A (.forLoop (.Name x px) it body [] env) (forR Q) s₂) E ⟨h, gs, dr, tk, os⟩ := by
  have hl' := hl.up b.keep
  refine wpAny_pyIter_list hl'.list ?_
  obtain ⟨oa, ha, _⟩ := id hl
  have hne : a ≠ h.objs.size := Nat.ne_of_lt (Heap.lt_size (b.keep _ _ ha))
  refine forW (Walks.list hh _ a hne vs.toArray) (Po := fun _ => True) (fun i h st => let ⟨o, e, _⟩ := st.1; ⟨o, e, trivial⟩) (fun c hc => List.mem_singleton.mp hc) (fun c hc => ?_) J b (Kp.push _ _) (fresh_size h)
    ⟨⟨_, Heap.get?_push_size _ rfl, rfl, rfl⟩, hl'.list.push _⟩ j0 (fun i v g' l' M' h' tk' o hi hP _ kg j b' => ?_) (fun g' l' M' h' tk' kg j b' => done g' l' M' h' tk' kg (by simpa using j) b')
  · simp only [List.mem_cons, List.not_mem_nil, or_false] at hc
    rcases hc with rfl | rfl
    · exact .inl rfl
    · exact .inr ⟨_, ha⟩
  · exact asgName hk hL b' fun h'' tk'' hb => turn i v g' l' M' h'' tk'' _ o (by simpa using hP) kg j hb
end
end Mine

open PySem PySem.W PyProof.Rows
set_option Elab.async false
set_option maxRecDepth 100000
namespace Mine
theorem sz_line {n : Nat} (h : n ≤ 1000000) : n ≤ sizeLine := by rw [sizeLine_eq]; omega
section
variable {prog : Program} {w : World} {A : Around} {E : Value → Shared → Prop} {env : Env} {g h : Heap} {L : Addr} {l : List (Str × Value)} {M : List (Addr × (Obj → Prop))}
  {gs : Array GenState} {dr : Drawn} {tk : Nat} {os : OsState} {pos : Pos} {a : Addr} {vs : List Value} {k : Int} {t u : Tok} {v : Value} {value slice : Expr} {x y : Str}

theorem Hp.lst (b : Hp g M h) (hm : (a, lst vs) ∈ M) : IsL h a vs := (b.mu _ hm).1
/-! items and cuts -/
theorem gIdx {Q : Value → Shared → Prop} (hl : IsL h a vs) (h0 : 0 ≤ k) (h1 : k < 2 ^ 63) (hx : vs[k.toNat]? = some v) (hs : subscripted slice false (.ref a) (.int k u) = operate [.ref a, .int k u] (getItem (.ref a) (.int k u)))
    (q : Q v ⟨h, gs, dr, tk, os⟩) : wpAny (model prog w) A (subscriptTail value slice (.ref a) (.int k u)) Q E ⟨h, gs, dr, tk, os⟩ :=
  tail_any (show Shared.TypeIs ⟨h, gs, dr, tk, os⟩ (.ref a) "list" from hl.list.typeIs) F.slot_list_getitem.lookup (wpAny_getItem_list hl.list h0 h1 (by simpa using hx) q) hs
theorem gIdxN {Q : Value → Shared → Prop} (hl : IsL h a vs) (h0 : k < 0) (h1 : -(vs.length : Int) ≤ k) (hz : vs.length ≤ 1000000) (hx : vs[(k + vs.length).toNat]? = some v) (hs : subscripted slice false (.ref a) (.int k u) = operate [.ref a, .int k u] (getItem (.ref a) (.int k u)))
    (q : Q v ⟨h, gs, dr, tk, os⟩) : wpAny (model prog w) A (subscriptTail value slice (.ref a) (.int k u)) Q E ⟨h, gs, dr, tk, os⟩ :=
  tail_any (show Shared.TypeIs ⟨h, gs, dr, tk, os⟩ (.ref a) "list" from hl.list.typeIs) F.slot_list_getitem.lookup (wpAny_getItem_list_neg hl.list h0 (by simpa using h1) (by omega) (by simpa using hx) q) hs
theorem gIdxS {Q : Value → Shared → Prop} {c : Nat} (h0 : -(2 ^ 63) ≤ k) (h1 : k < 2 ^ 63) (hc : (seqIndex? k x.length).bind (x.cps[·]?) = some c) (hs : subscripted slice false (.str x t) (.int k u) = operate [.str x t, .int k u] (getItem (.str x t) (.int k u)))
    (q : ∀ u tk', Q (.str ⟨#[c]⟩ u) ⟨h, gs, dr, tk', os⟩) : wpAny (model prog w) A (subscriptTail value slice (.str x t) (.int k u)) Q E ⟨h, gs, dr, tk, os⟩ :=
  tail_any (typeIs_str _ _ _) F.slot_str_getitem.lookup (PyProof.Rows.getItem_str (by simp; omega) hc (q _ _)) hs
theorem xSub {s : Shared} {Q : Value → Shared → Prop} (q : wpAny (model prog w) A (eval value env) (fun o s₁ => wpAny (model prog w) A (eval slice env) (fun i s₂ => wpAny (model prog w) A (subscriptTail value slice o i) Q E s₂) E s₁) E s) :
    wpAny (model prog w) A (eval (.Subscript value slice pos) env) Q E s := Subscript_ q
theorem xPartN {s : Shared} {Q : Value → Shared → Prop} (q : Q .none s) : wpAny (model prog w) A (evalPart none env) Q E s := by
  with_reducible refine wpAny_evalPart_none ?_
  exact q
theorem xPart {e : Expr} {s : Shared} {Q : Value → Shared → Prop} (q : wpAny (model prog w) A (eval e env) Q E s) : wpAny (model prog w) A (evalPart (some e) env) Q E s := by
  with_reducible refine wpAny_evalPart_some ?_
  exact q
/-- the cut's object -/
def Cut (M : Model) (A : Around) (Q : Value → Shared → Prop) (E : Value → Shared → Prop) (lo up st : Value) (s : Shared) : Prop := Q (.ref s.heap.objs.size) { s with heap := s.heap.push { cls := .type "slice", data := .fields #[lo, up, st] } }
theorem xCut {lo up st : Option Expr} {s : Shared} {Q : Value → Shared → Prop} (q : wpAny (model prog w) A (evalPart lo env) (fun l s₁ => wpAny (model prog w) A (evalPart up env) (fun u s₂ => wpAny (model prog w) A (evalPart st env) (Cut (model prog w) A Q E l u) E s₂) E s₁) E s) :
    wpAny (model prog w) A (eval (.Slice lo up st pos) env) Q E s := wpAny_Slice q
theorem Cut.mk {M : Model} {lo up st : Value} {Q : Value → Shared → Prop} (q : ∀ sl h', Kp h h' → h'.IsSliceOf sl lo up st → Q (.ref sl) ⟨h', gs, dr, tk, os⟩) : Cut M A Q E lo up st ⟨h, gs, dr, tk, os⟩ :=
  q _ _ (Kp.push _ _) ⟨_, Heap.get?_push_size _ rfl, rfl, rfl⟩
theorem gCutL {Q : Value → Shared → Prop} {sl : Addr} {vl vu vst : Value} {lo hi st : Option Int} (hl : IsL h a vs) (hz : vs.length ≤ 1000000) (hc : h.IsSliceOf sl vl vu vst) (pl : IsPart vl lo) (pu : IsPart vu hi) (ps : IsPart vst st) (h0 : st ≠ some 0)
    (hs : ∃ ops, subscripted slice false (.ref a) (.ref sl) = operate ops (getItem (.ref a) (.ref sl)))
    (q : ∀ D h', Kp h h' → h.get? D = none → IsL h' D (slicePick vs.toArray lo hi st).toList → Q (.ref D) ⟨h', gs, dr, tk, os⟩) : wpAny (model prog w) A (subscriptTail value slice (.ref a) (.ref sl)) Q E ⟨h, gs, dr, tk, os⟩ :=
  let ⟨_, hs⟩ := hs
  tail_any (show Shared.TypeIs ⟨h, gs, dr, tk, os⟩ (.ref a) "list" from hl.list.typeIs) F.slot_list_getitem.lookup
    (wpAny_getItem_list_slice hl.list hc pl pu ps h0 (q _ _ (Kp.push _ _) (fresh_size h) (IsL.of (by rw [Array.toArray_toList]; exact ⟨0, Heap.get?_push_size _ rfl⟩))) (by rw [List.size_toArray]; exact sz_line hz)) hs
def slS (x : Str) (lo hi st : Option Int) : Str :=
  if ((st.getD 1) == 1 && (Builtin.Str.strSliceIndices lo hi (st.getD 1) x.length).length == x.length) = true then x else ⟨((Builtin.Str.strSliceIndices lo hi (st.getD 1) x.length).filterMap (x.cps[·]?)).toArray⟩
inductive IsP : Value → Option Int → Option (Int × Tok) → Prop
  | none : IsP .none none none
  | int (i : Int) (t : Tok) : IsP (.int i t) (some i) (some (i, t))
theorem gCutS {Q : Value → Shared → Prop} {sl : Addr} {vl vu vst : Value} {lo hi st : Option Int} {pl pu ps} (hz : (slS x lo hi st).length ≤ 1000000) (hc : h.IsSliceOf sl vl vu vst) (il : IsP vl lo pl) (iu : IsP vu hi pu) (is : IsP vst st ps) (h0 : st ≠ some 0)
    (hs : ∃ ops, subscripted slice false (.str x t) (.ref sl) = operate ops (getItem (.str x t) (.ref sl)))
    (q : ∀ u tk', Q (.str (slS x lo hi st) u) ⟨h, gs, dr, tk', os⟩) : wpAny (model prog w) A (subscriptTail value slice (.str x t) (.ref sl)) Q E ⟨h, gs, dr, tk, os⟩ := by
  obtain ⟨ops, hs⟩ := hs
  have hl : vl = partValue pl := by cases il <;> rfl
  have hu : vu = partValue pu := by cases iu <;> rfl
  have hst : vst = partValue ps := by cases is <;> rfl
  have el : pl.map (·.1) = lo := by cases il <;> rfl
  have eu : pu.map (·.1) = hi := by cases iu <;> rfl
  have es : ps.map (·.1) = st := by cases is <;> rfl
  refine tail_any (typeIs_str _ _ _) F.slot_str_getitem.lookup (wpAny_getItem_str_slice (l := pl) (u := pu) (st := ps) (by subst hl hu hst; exact hc) (by rw [es]; cases st with | none => rfl | some k => simp at h0 ⊢; exact h0) ?_) hs
  unfold sliceMade slicePicked
  rw [es, el, eu]
  unfold slS at q hz
  split
  · rename_i hc; rw [if_pos hc] at q; exact q _ _
  · rename_i hc; rw [if_neg hc] at q hz; exact ⟨sz_line hz, q _ _⟩

/-! lists -/
theorem oLenL {Q : Value → Shared → Prop} (hl : IsL h a vs) (hz : vs.length ≤ 1000000) (q : ∀ u tk', Q (.int vs.length u) ⟨h, gs, dr, tk', os⟩) : wpAny (model prog w) A (call (.builtin "len") [.ref a] []) Q E ⟨h, gs, dr, tk, os⟩ := by
  refine PyProof.Rows.len_list hl.list (by simp; omega) ?_
  rw [List.size_toArray]; exact q _ _
theorem ttL {Q : Bool → Shared → Prop} (hl : IsL h a vs) (hz : vs.length ≤ 1000000) (q : ∀ tk', Q (!vs.isEmpty) ⟨h, gs, dr, tk', os⟩) : wpAny (model prog w) A (truthy (.ref a)) Q E ⟨h, gs, dr, tk, os⟩ := by
  refine wpAny_truthy_list hl.list (by simp; omega) ?_
  have : vs.toArray.isEmpty = vs.isEmpty := by cases vs <;> rfl
  rw [this]; exact q _
theorem mApp {pl} {Q : Value × List Value → Shared → Prop} (hl : IsL h a vs) (q : Q (.builtin "list.append", [.ref a]) ⟨h, gs, dr, tk, os⟩) : wpAny (model prog w) A (getMethod (.ref a) "append" pl) Q E ⟨h, gs, dr, tk, os⟩ := by
  obtain ⟨o, ho, n, rfl⟩ := hl
  exact Calls.getMethod_list_append ho rfl rfl q
theorem oApp {Q : Value → Shared → Prop} (hl : IsL h a vs) (hz : vs.length ≤ 1000000) (q : ∀ h' o, Heap.ExtBut a h h' → h'.get? a = some o → lst (vs ++ [v]) o → Q .none ⟨h', gs, dr, tk, os⟩) : wpAny (model prog w) A (call (.builtin "list.append") [.ref a, v] []) Q E ⟨h, gs, dr, tk, os⟩ := by
  have hT : Shared.TypeIs ⟨h, gs, dr, tk, os⟩ (.ref a) "list" := hl.list.typeIs
  obtain ⟨o, ho, n, rfl⟩ := hl
  refine wpAny_call_entry slot_list_append hT entry_list_append ?_ (args_list_append _ _)
  show wpAny _ _ (updateSeq a (·.push v) >>= fun _ => ret .none) _ _ _
  refine wpAny_bind (wpAny_updateSeq ho rfl (wpAny_pure ⟨.none, rfl, ?_⟩) (by rw [List.size_toArray]; exact sz_line hz) (by rw [Array.size_push, List.size_toArray]; exact Nat.succ_le_succ (sz_line hz)))
  refine q _ _ (Heap.SameBut.update h a _).extBut (Heap.get?_update_self _ ho rfl) ⟨n + 1, ?_⟩
  simp [Obj.mapSeq]
theorem sDel {ts : List Expr} {s : Shared} {Q : Flow → Shared → Prop} (q : wpAny (model prog w) A (deleteEach ts env) (fun _ s₁ => Q .next s₁) E s) : wpAny (model prog w) A (exec (.Delete ts pos) env) Q E s := by
  with_reducible refine wpAny_Delete ?_
  exact q
theorem dOne {o i : Expr} {s : Shared} {Q : Unit → Shared → Prop} (q : wpAny (model prog w) A (eval o env) (fun ov s₁ => wpAny (model prog w) A (eval i env) (fun iv s₂ => wpAny (model prog w) A (delItem ov iv) Q E s₂) E s₁) E s) :
    wpAny (model prog w) A (deleteEach [.Subscript o i pos] env) Q E s :=
  wpAny_deleteEach_cons (wpAny_delete_Subscript (wpAny_mono q (fun _ _ h₁ => wpAny_mono h₁ (fun _ _ h₂ => wpAny_mono h₂ (fun _ _ h₃ => wpAny_deleteEach_nil h₃) fun _ _ e => e) fun _ _ e => e) fun _ _ e => e))
theorem oDel {i : Nat} {Q : Unit → Shared → Prop} (hl : IsL h a vs) (hz : vs.length ≤ 1000000) (hf : Builtin.List.listFitsIndex k = true) (hk : seqIndex? k vs.length = some i)
    (q : ∀ h' o, Heap.ExtBut a h h' → h'.get? a = some o → lst (vs.eraseIdx i) o → Q () ⟨h', gs, dr, tk, os⟩) : wpAny (model prog w) A (delItem (.ref a) (.int k u)) Q E ⟨h, gs, dr, tk, os⟩ := by
  refine wpAny_delItem_plain hl.plain hf (by simpa using hk) (fun h' hp hs => ?_) (by rw [List.size_toArray]; exact sz_line hz)
  obtain ⟨n, e⟩ := hp
  refine q h' _ hs.extBut e ⟨n, ?_⟩
  simp

/-! texts -/
theorem mStr {name : Str} {id : String} {pl} {Q : Value × List Value → Shared → Prop} (slot : Slot "str" name id) (ty : typeOf (.builtin id) = pure (.type "method_descriptor")) (q : Q (.builtin id, [.str x t]) ⟨h, gs, dr, tk, os⟩) : wpAny (model prog w) A (getMethod (.str x t) name pl) Q E ⟨h, gs, dr, tk, os⟩ :=
  getMethod_builtin (typeIs_str _ _ _) F.plainAttrs_str slot ty (fun _ e => nomatch e) q
theorem mStart {pl} {Q : Value × List Value → Shared → Prop} (q : Q (.builtin "str.startswith", [.str x t]) ⟨h, gs, dr, tk, os⟩) : wpAny (model prog w) A (getMethod (.str x t) "startswith" pl) Q E ⟨h, gs, dr, tk, os⟩ := by
  with_reducible refine mStr F.slot_str_startswith F.type_str_startswith ?_
  exact q
theorem mEnd {pl} {Q : Value × List Value → Shared → Prop} (q : Q (.builtin "str.endswith", [.str x t]) ⟨h, gs, dr, tk, os⟩) : wpAny (model prog w) A (getMethod (.str x t) "endswith" pl) Q E ⟨h, gs, dr, tk, os⟩ := by
  with_reducible refine mStr F.slot_str_endswith F.type_str_endswith ?_
  exact q
theorem mFind {pl} {Q : Value × List Value → Shared → Prop} (q : Q (.builtin "str.find", [.str x t]) ⟨h, gs, dr, tk, os⟩) : wpAny (model prog w) A (getMethod (.str x t) "find" pl) Q E ⟨h, gs, dr, tk, os⟩ := by
  with_reducible refine mStr F.slot_str_find F.type_str_find ?_
  exact q
theorem mLow {pl} {Q : Value × List Value → Shared → Prop} (q : Q (.builtin "str.lower", [.str x t]) ⟨h, gs, dr, tk, os⟩) : wpAny (model prog w) A (getMethod (.str x t) "lower" pl) Q E ⟨h, gs, dr, tk, os⟩ := by
  with_reducible refine mStr F.slot_str_lower F.type_str_lower ?_
  exact q
theorem mJoin {pl} {Q : Value × List Value → Shared → Prop} (q : Q (.builtin "str.join", [.str x t]) ⟨h, gs, dr, tk, os⟩) : wpAny (model prog w) A (getMethod (.str x t) "join" pl) Q E ⟨h, gs, dr, tk, os⟩ := by
  with_reducible refine mStr F.slot_str_join F.type_str_join ?_
  exact q
theorem oStart {Q : Value → Shared → Prop} (q : Q (.bool (Txt.startswith x y)) ⟨h, gs, dr, tk, os⟩) : wpAny (model prog w) A (call (.builtin "str.startswith") [.str x t, .str y u] []) Q E ⟨h, gs, dr, tk, os⟩ := by
  with_reducible refine call_gives F.slot_str_startswith (typeIs_str _ _ _) F.entry_str_startswith (F.args_str_startswith_2 _ _) (gives_str_startswith x y t u) ?_
  exact q
theorem oEnd {Q : Value → Shared → Prop} (q : Q (.bool (Txt.endswith x y)) ⟨h, gs, dr, tk, os⟩) : wpAny (model prog w) A (call (.builtin "str.endswith") [.str x t, .str y u] []) Q E ⟨h, gs, dr, tk, os⟩ := by
  with_reducible refine call_gives F.slot_str_endswith (typeIs_str _ _ _) F.entry_str_endswith (F.args_str_endswith_2 _ _) (gives_str_endswith x y t u) ?_
  exact q
theorem oFind {Q : Value → Shared → Prop} (q : ∀ u tk', Q (.int (Txt.find x y) u) ⟨h, gs, dr, tk', os⟩) : wpAny (model prog w) A (call (.builtin "str.find") [.str x t, .str y u] []) Q E ⟨h, gs, dr, tk, os⟩ := by
  with_reducible refine call_gives F.slot_str_find (typeIs_str _ _ _) F.entry_str_find (F.args_str_find_2 _ _) (gives_str_find x y t u) ?_
  exact q _ _
def find4 (x y : Str) (i j : Int) : Int := match Builtin.Str.occurrences x y (fromIndex x.length i) (min (fromIndex x.length j) x.length) 1 with | k :: _ => (k : Int) | [] => -1
theorem oFind4 {i j : Int} {v' w' : Tok} {Q : Value → Shared → Prop} (q : ∀ u tk', Q (.int (find4 x y i j) u) ⟨h, gs, dr, tk', os⟩) : wpAny (model prog w) A (call (.builtin "str.find") [.str x t, .str y u, .int i v', .int j w'] []) Q E ⟨h, gs, dr, tk, os⟩ := by
  refine call_gives F.slot_str_find (typeIs_str _ _ _) F.entry_str_find (F.args_str_find_4 _ _ _ _) (m := .int (find4 x y i j)) ?_ ?_
  · show Gives (match Builtin.Str.occurrences x y (fromIndex x.length i) (min (fromIndex x.length j) x.length) 1 with | k :: _ => retInt k | [] => (do rule "str.find.not-found"; retInt (-1))) _
    unfold find4
    cases Builtin.Str.occurrences x y (fromIndex x.length i) (min (fromIndex x.length j) x.length) 1 with
    | nil => exact .rule (.of_eq rfl)
    | cons k _ => exact .of_eq rfl
  · exact q _ _

/-! several names at once -/
theorem sAsgT {elts k tpos value} {s : Shared} {Q : Flow → Shared → Prop} (hs : swapsWithSole [.Tuple elts k tpos] value pos.line env = pure false) (hw : swappedStores [.Tuple elts k tpos] value env = pure none)
    (q : wpAny (model prog w) A (eval value env) (fun v s₁ => wpAny (model prog w) A (assign (.Tuple elts k tpos) env v) (fun _ => Q .next) E s₁) E s) : wpAny (model prog w) A (exec (.Assign [.Tuple elts k tpos] value pos) env) Q E s := Assign_Tuple q hs hw
theorem xTup {elts k} {s : Shared} {Q : Value → Shared → Prop} (hn : (starEach elts env).any (·.1) = false) (q : wpAny (model prog w) A (spliced (starEach elts env)) (fun vs s₁ => wpAny (model prog w) A (newTuple vs) Q E s₁) E s) : wpAny (model prog w) A (eval (.Tuple elts k pos) env) Q E s :=
  PyProof.Rows.Tuple_ (by rw [backTo_id hn]; exact q)
theorem xLst {elts} {s : Shared} {Q : Value → Shared → Prop} (hn : (starEach elts env).any (·.1) = false) (q : wpAny (model prog w) A (spliced (starEach elts env)) (fun vs s₁ => wpAny (model prog w) A (newList vs) Q E s₁) E s) : wpAny (model prog w) A (eval (.List elts pos) env) Q E s :=
  PyProof.Rows.List_ (by rw [backTo_id hn]; exact q)
theorem oNewL {M : Model} {Q : Value → Shared → Prop} (hz : vs.length ≤ 1000000) (q : ∀ D h', Kp h h' → h.get? D = none → IsL h' D vs → Q (.ref D) ⟨h', gs, dr, tk, os⟩) : wpAny M A (newList vs) Q E ⟨h, gs, dr, tk, os⟩ :=
  wpAny_newList (q _ _ (Kp.push _ _) (fresh_size h) (IsL.of ⟨0, Heap.get?_push_size _ rfl⟩)) (sz_line hz)
abbrev IsT (h : Heap) (a : Addr) (vs : List Value) : Prop := h.get? a = some { cls := .type "tuple", data := .seq vs.toArray }
theorem IsT.tup {h : Heap} {a : Addr} {vs : List Value} (x : IsT h a vs) : h.IsTuple a vs.toArray := ⟨_, x, rfl, _, rfl⟩
theorem oNewT {M : Model} {Q : Value → Shared → Prop} (hz : vs.length ≤ 1000000) (q : ∀ D h', Kp h h' → h.get? D = none → IsT h' D vs → Q (.ref D) ⟨h', gs, dr, tk, os⟩) : wpAny M A (newTuple vs) Q E ⟨h, gs, dr, tk, os⟩ :=
  wpAny_newTuple (q _ _ (Kp.push _ _) (fresh_size h) (Heap.get?_push_size _ rfl)) (sz_line hz)
theorem Kp.ext {h h' : Heap} (x : Heap.ExtBut h.objs.size h h') : Kp h h' := fun b o e => x b o (Nat.ne_of_lt (Heap.lt_size e)) e
theorem assignEach_names (x y : Str) (px py : Pos) (env : Env) : assignEach [.Name x px, .Name y py] env = [(false, assign (.Name x px) env), (false, assign (.Name y py) env)] := rfl
theorem asg2 {v1 v2 : Value} {px py tpos : Pos} {kk : Nat} {T : Addr} {Q : Unit → Shared → Prop} (hh : A.handled = none) (b : Bd g L l M h) (ht : IsT h T [v1, v2])
    (hk : (env.scope.kind == .function && env.kindOf x == some .local) = true) (hk' : (env.scope.kind == .function && env.kindOf y == some .local) = true) (hL : env.locals = L)
    (q : ∀ h' tk', (∀ l1 l2, Sto x v1 l l1 → Sto y v2 l1 l2 → Bd g L l2 M h') → Q () ⟨h', gs, dr, tk', os⟩) :
    wpAny (model prog w) A (assign (.Tuple [.Name x px, .Name y py] kk tpos) env (.ref T)) Q E ⟨h, gs, dr, tk, os⟩ := by
  refine wpAny_assign_Tuple (items := [v1, v2].toArray) hh ht.tup (by rw [assignEach_names]; rfl) (by rw [assignEach_names]; rfl) fun h1 hx => ?_
  have b1 := b.kp (Kp.ext hx)
  rw [assignEach_names]
  simp only [Bool.and_eq_true, beq_iff_eq] at hk hk'
  subst hL
  obtain ⟨m, hn, hm⟩ := b1.ns
  refine wpAny_assignInOrder_more (wpAny_assign_Name (wpAny_storeName_local hk.2 hn (fun h2 hn2 hs2 => ?_) (by rw [hk.1]; rfl)))
  refine wpAny_assignInOrder_more (wpAny_assign_Name (wpAny_storeName_local hk'.2 hn2 (fun h3 hn3 hs3 => ?_) (by rw [hk.1]; rfl)))
  refine wpAny_assignInOrder_none (q _ _ fun l1 l2 s1 s2 => ?_)
  have b2 := b1.sto s1 hm hn2 hs2
  refine b2.sto s2 (fun p hp => ?_) hn3 hs3
  rcases s1.ok p hp with rfl | ⟨h1, h2⟩
  · simp
  · simp [h2, hm p h1]

theorem sAug {op value pos'} {s : Shared} {Q : Flow → Shared → Prop} (q : wpAny (model prog w) A (loadName env x) (fun old s₁ => wpAny (model prog w) A (eval value env) (fun v s₂ => wpAny (model prog w) A (inplaceOp op old v)
      (fun r s₃ => wpAny (model prog w) A (storeName env x r) (fun _ => Q .next) E s₃) E s₂) E s₁) E s) : wpAny (model prog w) A (exec (.AugAssign (.Name x pos') op value pos) env) Q E s := wpAny_AugAssign_Name q
theorem nLoc {Q : Value → Shared → Prop} (b : Bd g L l M h) (hv : Has x v l) (hk : (env.scope.kind == .function && env.kindOf x == some .local) = true) (hL : env.locals = L) (q : Q v ⟨h, gs, dr, tk, os⟩) : wpAny (model prog w) A (loadName env x) Q E ⟨h, gs, dr, tk, os⟩ := by
  obtain ⟨m, hn, hm⟩ := b.ns
  simp only [Bool.and_eq_true, beq_iff_eq] at hk
  subst hL
  exact wpAny_loadName_local hk.1 hk.2 hn (hm _ hv.mem) q
theorem iAdd {a b : Int} {Q : Value → Shared → Prop} (q : ∀ u tk', Q (.int (a + b) u) ⟨h, gs, dr, tk', os⟩) : wpAny (model prog w) A (inplaceOp .Add (.int a t) (.int b u)) Q E ⟨h, gs, dr, tk, os⟩ := by
  with_reducible refine PyProof.Rows.iadd_int ?_
  exact q _ _
theorem sRet {e} {s : Shared} {Q : Flow → Shared → Prop} (q : wpAny (model prog w) A (eval e env) (fun v => Q (.ret v)) E s) : wpAny (model prog w) A (exec (.Return (some e) pos) env) Q E s := wpAny_Return_some q
theorem sIf {test body orelse} {s : Shared} {Q : Flow → Shared → Prop} (q : wpAny (model prog w) A (isTrue test env (eval test env)) (fun b s₂ => if b then wpAny (model prog w) A (execs body env) Q E s₂ else wpAny (model prog w) A (execs orelse env) Q E s₂) E s) :
    wpAny (model prog w) A (exec (.If test body orelse pos) env) Q E s := wpAny_If q
theorem sAss {test msg} {s : Shared} {Q : Flow → Shared → Prop} (q : wpAny (model prog w) A (isTrue test env (eval test env)) (fun b s₁ => b = true ∧ Q .next s₁) E s) : wpAny (model prog w) A (exec (.Assert test msg pos) env) Q E s := wpAny_Assert_holds q
theorem xUn {op : UnaryOp} {e} {s : Shared} {Q : Value → Shared → Prop} (q : wpAny (model prog w) A (eval e env) (fun v s₁ => wpAny (model prog w) A (unaryOp op v) Q E s₁) E s) : wpAny (model prog w) A (eval (.UnaryOp op e pos) env) Q E s := UnaryOp_ q
theorem xIfE {test body orelse} {s : Shared} {Q : Value → Shared → Prop} (q : wpAny (model prog w) A (isTrue test env (eval test env)) (fun b s₁ => if b then wpAny (model prog w) A (eval body env) Q E s₁ else wpAny (model prog w) A (eval orelse env) Q E s₁) E s) : wpAny (model prog w) A (eval (.IfExp test body orelse pos) env) Q E s := wpAny_IfExp q

/-! while -/
def WEnd (gs : Array GenState) (dr : Drawn) (os : OsState) (L : Addr) (g : Heap) (J : Nat → Inv) (n : Nat) (Q : Flow → Shared → Prop) (f : Flow) (s' : Shared) : Prop := match f with
  | .next | .cont => ∃ m g' l' M' h' tk', m < n ∧ s' = ⟨h', gs, dr, tk', os⟩ ∧ Kp g g' ∧ Bd g' L l' M' h' ∧ J m g' l' M'
  | .brk => Q .next s'
  | .ret v => Q (.ret v) s'
theorem WEnd.nxt {J : Nat → Inv} {n : Nat} {Q : Flow → Shared → Prop} (m : Nat) {g' h' : Heap} {l'} {M'} {tk'} (k : Kp g g') (b : Bd g' L l' M' h') (lt : m < n) (j : J m g' l' M') : WEnd gs dr os L g J n Q .next ⟨h', gs, dr, tk', os⟩ :=
  ⟨m, g', l', M', h', tk', lt, rfl, k, b, j⟩
theorem WEnd.ret {J : Nat → Inv} {n : Nat} {Q : Flow → Shared → Prop} {v : Value} {s' : Shared} (q : Q (.ret v) s') : WEnd gs dr os L g J n Q (.ret v) s' := q
theorem sWhile {test body} {Q : Flow → Shared → Prop} (b : Bd g L l M h) (J : Nat → Inv) (n : Nat) (j0 : J n g l M)
    (turn : ∀ n g' l' M' h' tk', Kp g g' → J n g' l' M' → Bd g' L l' M' h' → wpAny (model prog w) A (isTrue test env (eval test env)) (fun c s₂ => if c = true then wpAny (model prog w) A (execs body env) (WEnd gs dr os L g' J n Q) (fun _ _ => False) s₂ else Q .next s₂) (fun _ _ => False) ⟨h', gs, dr, tk', os⟩) :
    wpAny (model prog w) A (exec (.While test body [] pos) env) Q E ⟨h, gs, dr, tk, os⟩ := by
  refine wpAny_While (codeAny_mono (R := forR Q) ?_ fun r s' hr => by cases r with | ok f => exact hr | error e => exact hr.elim)
  refine codeAny_whileLoop (fun n s' => ∃ g' l' M' h' tk', s' = ⟨h', gs, dr, tk', os⟩ ∧ Kp g g' ∧ J n g' l' M' ∧ Bd g' L l' M' h') ?_ n ⟨g, l, M, h, tk, rfl, Kp.rf, j0, b⟩
  rintro n s' ⟨g', l', M', h', tk', rfl, kg, j, b'⟩
  refine wpAny_mono (turn n g' l' M' h' tk' kg j b') (fun c s₂ h₂ => ?_) fun _ _ e => e.elim
  cases c with
  | false => simp only [Bool.false_eq_true, if_false] at h₂ ⊢; exact wpAny_execs_nil h₂
  | true =>
    simp only [if_true] at h₂ ⊢
    refine wpAny_mono h₂ (fun f s₃ h₃ => ?_) fun _ _ e => e.elim
    have fin : WEnd gs dr os L g' J n Q .next s₃ → ∃ m, m < n ∧ ∃ g' l' M' h' tk', s₃ = ⟨h', gs, dr, tk', os⟩ ∧ Kp g g' ∧ J m g' l' M' ∧ Bd g' L l' M' h' := by
      rintro ⟨m, g'', l'', M'', h'', tk'', lt, rfl, k'', b'', j''⟩
      exact ⟨m, lt, g'', l'', M'', h'', tk'', rfl, kg.tr k'', j'', b''⟩
    cases f with
    | next => exact fin h₃
    | cont => exact fin h₃
    | brk => exact h₃
    | ret v => exact h₃

/-! more loops -/
theorem asgPair {v1 v2 : Value} {px py tpos : Pos} {kk : Nat} {T I : Addr} {body : List Stmt} {R : Flow → Shared → Prop} {o : Obj} (hh : A.handled = none) (ho : o.cls = .type "list_iterator") (b : Bd g L l ((I, (· = o)) :: M) h) (ht : IsT g T [v1, v2])
    (hk : (env.scope.kind == .function && env.kindOf x == some .local) = true) (hk' : (env.scope.kind == .function && env.kindOf y == some .local) = true) (hL : env.locals = L)
    (q : ∀ h' tk', (∀ l1 l2, Sto x v1 l l1 → Sto y v2 l1 l2 → Bd g L l2 ((I, (· = o)) :: M) h') → wpAny (model prog w) A (execs body env) R (fun _ _ => False) ⟨h', gs, dr, tk', os⟩) :
    wpAny (model prog w) A (letOwnedTupleGo (.Tuple [.Name x px, .Name y py] kk tpos) (.ref I) (.ref T)) (fun _ s₁ => wpAny (model prog w) A (assign (.Tuple [.Name x px, .Name y py] kk tpos) env (.ref T)) (fun _ s₂ => wpAny (model prog w) A (execs body env) R (fun _ _ => False) s₂) (fun _ _ => False) s₁) (fun _ _ => False) ⟨h, gs, dr, tk, os⟩ := by
  obtain ⟨⟨o', e, rfl⟩, _⟩ := b.hp.mu _ (.head _)
  have step : ∀ {Q : Unit → Shared → Prop}, Q () ⟨h, gs, dr, tk, os⟩ → wpAny (model prog w) A (letOwnedTupleGo (.Tuple [.Name x px, .Name y py] kk tpos) (.ref I) (.ref T)) Q (fun _ _ => False) ⟨h, gs, dr, tk, os⟩ := by
    intro Q hQ
    show wpAny _ A (load I >>= _) _ _ _
    refine wpAny_bind (wpAny_load e ?_)
    rw [ho]
    split
    · rename_i n vs q1 q2
      cases q1
      split
      · rename_i hc
        simp at hc
      · exact wpAny_pure hQ
    · exact wpAny_pure hQ
  refine step ?_
  exact asg2 hh b (b.keep _ _ ht) hk hk' hL fun h' tk' hb => q h' tk' hb

theorem fList2 {px py tpos : Pos} {kk : Nat} {body : List Stmt} {Q : Flow → Shared → Prop} (hh : A.handled = none) (b : Bd g L l M h) (hl : IsL g a vs) (hT : ∀ (i : Nat) (v : Value), vs[i]? = some v → ∃ T v1 v2, v = Value.ref T ∧ IsT g T [v1, v2])
    (hk : (env.scope.kind == .function && env.kindOf x == some .local) = true) (hk' : (env.scope.kind == .function && env.kindOf y == some .local) = true) (hL : env.locals = L) (J : Nat → Inv) (j0 : J 0 g l M)
    (turn : ∀ i T v1 v2 g' l' M' h' tk' I o, vs[i]? = some (.ref T) → IsT g T [v1, v2] → Kp g g' → J i g' l' M' → (∀ l1 l2, Sto x v1 l' l1 → Sto y v2 l1 l2 → Bd g' L l2 ((I, (· = o)) :: M') h') →
      wpAny (model prog w) A (execs body env) (BEnd gs dr os L I o g' (J (i + 1)) Q) (fun _ _ => False) ⟨h', gs, dr, tk', os⟩)
    (done : ∀ g' l' M' h' tk', Kp g g' → J vs.length g' l' M' → Bd g' L l' M' h' → Q .next ⟨h', gs, dr, tk', os⟩) :
    wpAny (model prog w) A (pyIter (.ref a)) (fun it s₂ => codeAny (model prog w) A (.forLoop (.Tuple [.Name x px, .Name y py] kk tpos) it body [] env) (forR Q) s₂) E ⟨h, gs, dr, tk, os⟩ := by
  have hl' := hl.up b.keep
  refine wpAny_pyIter_list hl'.list ?_
  obtain ⟨oa, ha, _⟩ := id hl
  have hne : a ≠ h.objs.size := Nat.ne_of_lt (Heap.lt_size (b.keep _ _ ha))
  refine forW (Walks.list hh _ a hne vs.toArray) (Po := fun o => o.cls = .type "list_iterator") (fun i h st => let ⟨o, e, c, _⟩ := st.1; ⟨o, e, c⟩) (fun c hc => List.mem_singleton.mp hc) (fun c hc => ?_) (fun i g' l' M' => J i g' l' M') b (Kp.push _ _) (fresh_size h)
    ⟨⟨_, Heap.get?_push_size _ rfl, rfl, rfl⟩, hl'.list.push _⟩ j0 (fun i v g' l' M' h' tk' o hi hP po kg j b' => ?_) (fun g' l' M' h' tk' kg j b' => done g' l' M' h' tk' kg (by simpa using j) b')
  · simp only [List.mem_cons, List.not_mem_nil, or_false] at hc
    rcases hc with rfl | rfl
    · exact .inl rfl
    · exact .inr ⟨_, ha⟩
  · have hv : vs[i]? = some v := by simpa using hP
    obtain ⟨T, v1, v2, rfl, ht⟩ := hT i v hv
    exact asgPair hh po b' (kg _ _ ht) hk hk' hL fun h'' tk'' hb => turn i T v1 v2 g' l' M' h'' tk'' _ o hv ht kg j hb

theorem fRange {x : Str} {px : Pos} {r : Addr} {i0 i1 c : Int} {t0 u0 v0 : Tok} {n : Nat} {body : List Stmt} {Q : Flow → Shared → Prop} (hh : A.handled = none) (b : Bd g L l M h) (hr : IsRange h r i0 i1 c t0 u0 v0) (hs : Builtin.Range.small i0 i1 c = true) (hn : Builtin.Range.rangeSize i0 i1 c = (n : Int))
    (hk : (env.scope.kind == .function && env.kindOf x == some .local) = true) (hL : env.locals = L) (J : Nat → Inv) (j0 : J 0 g l M)
    (turn : ∀ i t g' l' M' h' tk' I o, i < n → Kp g g' → J i g' l' M' → (∀ l'', Sto x (.int (i0 + i * c) t) l' l'' → Bd g' L l'' ((I, (· = o)) :: M') h') →
      wpAny (model prog w) A (execs body env) (BEnd gs dr os L I o g' (J (i + 1)) Q) (fun _ _ => False) ⟨h', gs, dr, tk', os⟩)
    (done : ∀ g' l' M' h' tk', Kp g g' → J n g' l' M' → Bd g' L l' M' h' → Q .next ⟨h', gs, dr, tk', os⟩) :
    wpAny (model prog w) A (pyIter (.ref r)) (fun it s₂ => codeAny (model prog w) A (.forLoop (.Name x px) it body [] env) (forR Q) s₂) E ⟨h, gs, dr, tk, os⟩ := by
  refine wpAny_pyIter_range hr hs ?_
  refine forW (Walks.range hh _ i0 c n) (Po := fun _ => True) (fun i h st => ⟨_, st, trivial⟩) (fun c hc => List.mem_singleton.mp hc) (fun c hc => .inl (List.mem_singleton.mp hc)) J b (Kp.push _ _) (fresh_size h)
    (by show IsRangeIter _ _ _ _ _; rw [hn]; simpa using Heap.get?_push_size _ rfl) j0 (fun i v g' l' M' h' tk' o hi hP _ kg j b' => ?_) done
  obtain ⟨t, rfl⟩ := hP
  exact asgName hk hL b' fun h'' tk'' hb => turn i t g' l' M' h'' tk'' _ o hi kg j hb
theorem fStr {x : Str} {px : Pos} {y : Str} {body : List Stmt} {Q : Flow → Shared → Prop} (hh : A.handled = none) (b : Bd g L l M h) (ha : y.cps.all (· < 128) = true)
    (hk : (env.scope.kind == .function && env.kindOf x == some .local) = true) (hL : env.locals = L) (J : Nat → Inv) (j0 : J 0 g l M)
    (turn : ∀ (i : Nat) (c : Nat) t g' l' M' h' tk' I o, y.cps[i]? = some c → Kp g g' → J i g' l' M' → (∀ l'', Sto x (.str ⟨#[c]⟩ t) l' l'' → Bd g' L l'' ((I, (· = o)) :: M') h') →
      wpAny (model prog w) A (execs body env) (BEnd gs dr os L I o g' (J (i + 1)) Q) (fun _ _ => False) ⟨h', gs, dr, tk', os⟩)
    (done : ∀ g' l' M' h' tk', Kp g g' → J y.cps.size g' l' M' → Bd g' L l' M' h' → Q .next ⟨h', gs, dr, tk', os⟩) :
    wpAny (model prog w) A (pyIter (.str y t)) (fun it s₂ => codeAny (model prog w) A (.forLoop (.Name x px) it body [] env) (forR Q) s₂) E ⟨h, gs, dr, tk, os⟩ := by
  refine wpAny_pyIter_ascii ha ?_
  refine forW (Walks.strAscii hh _ y t) (Po := fun _ => True) (fun i h st => let ⟨o, e, _⟩ := st; ⟨o, e, trivial⟩) (fun c hc => List.mem_singleton.mp hc) (fun c hc => .inl (List.mem_singleton.mp hc)) J b (Kp.push _ _) (fresh_size h)
    ⟨_, Heap.get?_push_size _ rfl, rfl, rfl⟩ j0 (fun i v g' l' M' h' tk' o hi hP _ kg j b' => ?_) done
  obtain ⟨c, u, hc, rfl⟩ := hP
  exact asgName hk hL b' fun h'' tk'' hb => turn i c u g' l' M' h'' tk'' _ o hc kg j hb
theorem oRange1 {n : Int} {Q : Value → Shared → Prop} (q : ∀ r h' tk' t0 u0 v0, Kp h h' → IsRange h' r 0 n 1 t0 u0 v0 → Q (.ref r) ⟨h', gs, dr, tk', os⟩) : wpAny (model prog w) A (call (.type "range") [.int n t] []) Q E ⟨h, gs, dr, tk, os⟩ :=
  call_range_1 (q _ _ _ _ _ _ (Kp.push _ _) (Heap.get?_push_size _ rfl))
theorem oRange3 {i0 i1 c : Int} {v' : Tok} {Q : Value → Shared → Prop} (hc : c ≠ 0) (hp : Builtin.divisionGoesByPylong (i1 - i0) c = false) (q : ∀ r h' tk' t0 u0 v0, Kp h h' → IsRange h' r i0 i1 c t0 u0 v0 → Q (.ref r) ⟨h', gs, dr, tk', os⟩) : wpAny (model prog w) A (call (.type "range") [.int i0 t, .int i1 u, .int c v'] []) Q E ⟨h, gs, dr, tk, os⟩ :=
  call_range_3 hc (q _ _ _ _ _ _ (Kp.push _ _) (Heap.get?_push_size _ rfl)) (.inl hp)
def Swp (M : Model) (A : Around) (env : Env) (x y : Str) (Q : Flow → Shared → Prop) (E : Value → Shared → Prop) (v : Value) (s : Shared) : Prop := wpAny M A (unpackItems v ([x, y] : List Str).length none) (fun items s₂ => wpAny M A (assignInOrder (([x, y] : List Str).reverse.map fun n => bindName env n) items.reverse) (fun _ => Q .next) E s₂) E s
theorem sAsgS {elts k tpos value} {s : Shared} {Q : Flow → Shared → Prop} (hs : swapsWithSole [.Tuple elts k tpos] value pos.line env = pure false) (hw : swappedStores [.Tuple elts k tpos] value env = pure (some [x, y]))
    (q : wpAny (model prog w) A (eval value env) (Swp (model prog w) A env x y Q E) E s) : wpAny (model prog w) A (exec (.Assign [.Tuple elts k tpos] value pos) env) Q E s := Assign_Tuple_swapped q hs hw
theorem Swp.mk {v1 v2 : Value} {T : Addr} {l1 l2} {Q : Flow → Shared → Prop} (hh : A.handled = none) (b : Bd g L l M h) (ht : IsT h T [v1, v2])
    (s1 : Sto y v2 l l1) (s2 : Sto x v1 l1 l2) (hk : (env.scope.kind == .function && env.kindOf x == some .local && env.kindOf y == some .local) = true) (hL : env.locals = L)
    (q : ∀ h' tk', Bd g L l2 M h' → Q .next ⟨h', gs, dr, tk', os⟩) : Swp (model prog w) A env x y Q E (.ref T) ⟨h, gs, dr, tk, os⟩ := by
  unfold Swp
  refine wpAny_unpackItems_tuple (items := [v1, v2].toArray) hh ht.tup fun h1 hx => ?_
  have b1 := b.kp (Kp.ext hx)
  simp only [Bool.and_eq_true, beq_iff_eq] at hk
  subst hL
  obtain ⟨m, hn, hm⟩ := b1.ns
  refine wpAny_assignInOrder_more (wpAny_bindName (wpAny_storeName_local hk.2 hn (fun h2 hn2 hs2 => ?_) (by rw [hk.1.1]; rfl)))
  refine wpAny_assignInOrder_more (wpAny_bindName (wpAny_storeName_local hk.1.2 hn2 (fun h3 hn3 hs3 => ?_) (by rw [hk.1.1]; rfl)))
  refine wpAny_assignInOrder_none (q _ _ ?_)
  have b2 := b1.sto s1 hm hn2 hs2
  refine b2.sto s2 (fun p hp => ?_) hn3 hs3
  rcases s1.ok p hp with rfl | ⟨h1, h2⟩
  · simp
  · simp [h2, hm p h1]
/-! one statement, then the rest once -/
def CutQ (Post : Shared → Prop) (Q : Flow → Shared → Prop) (f : Flow) (s' : Shared) : Prop := match f with | .next => Post s' | f => Q f s'
theorem cutN {Post : Shared → Prop} {Q : Flow → Shared → Prop} {s : Shared} (q : Post s) : CutQ Post Q .next s := q
theorem cutR {Post : Shared → Prop} {Q : Flow → Shared → Prop} {v : Value} {s : Shared} (q : Q (.ret v) s) : CutQ Post Q (.ret v) s := q
theorem cutB {Post : Shared → Prop} {Q : Flow → Shared → Prop} {s : Shared} (q : Q .brk s) : CutQ Post Q .brk s := q
theorem cut {M : Model} {st rest} {s : Shared} {Q : Flow → Shared → Prop} (Post : Shared → Prop) (head : wpAny M A (exec st env) (CutQ Post Q) E s) (tail : ∀ s', Post s' → wpAny M A (execs rest env) Q E s') :
    wpAny M A (exec st env) (Nx M A env rest Q E) E s := wpAny_mono head (fun f s' h => by cases f with | next => exact tail s' h | _ => exact h) fun _ _ e => e
theorem Hp.low {g0 : Heap} (b : Hp g M h) (k : Kp g0 g) : Hp g0 M h := ⟨k.tr b.keep, fun p hp => ⟨(b.mu p hp).1, k.none (b.mu p hp).2⟩, b.nd⟩
theorem Bd.fix {D : Addr} {p : Obj → Prop} (b : Bd g L l ((D, p) :: M) h) : ∃ g', Kp g g' ∧ Bd g' L l M h ∧ ∃ o, g'.get? D = some o ∧ p o := by
  obtain ⟨oL, H, back⟩ := b.tail.out
  obtain ⟨g', k', H', f⟩ := H.freeze
  obtain ⟨⟨o, e, z⟩, _⟩ := b.hp.mu _ (.head _)
  refine ⟨g', k', back _ _ _ H', o, f _ _ e fun q => ?_, z⟩
  have nd := b.hp.nd
  rw [List.map_cons, List.nodup_cons] at nd
  rcases List.mem_cons.mp q with q | q
  · exact b.ne _ (.head _) q
  · exact nd.1 q
theorem oNeg {a : Int} {Q : Value → Shared → Prop} (q : ∀ u tk', Q (.int (-a) u) ⟨h, gs, dr, tk', os⟩) : wpAny (model prog w) A (unaryOp .USub (.int a t)) Q E ⟨h, gs, dr, tk, os⟩ := by
  with_reducible refine PyProof.Rows.neg_int ?_
  exact q _ _
theorem iSub {a b : Int} {Q : Value → Shared → Prop} (q : ∀ u tk', Q (.int (a - b) u) ⟨h, gs, dr, tk', os⟩) : wpAny (model prog w) A (inplaceOp .Sub (.int a t) (.int b u)) Q E ⟨h, gs, dr, tk, os⟩ := by
  with_reducible refine PyProof.Rows.isub_int ?_
  exact q _ _
theorem oMul {a b : Int} {Q : Value → Shared → Prop} (hm : IntMulOk a b) (q : ∀ u tk', Q (.int (a * b) u) ⟨h, gs, dr, tk', os⟩) : wpAny (model prog w) A (binaryOp .Mult (.int a t) (.int b u)) Q E ⟨h, gs, dr, tk, os⟩ := by
  with_reducible refine PyProof.Rows.mul_int ?_ hm
  exact q _ _
theorem oDiv {a b : Int} {Q : Value → Shared → Prop} (hb : b ≠ 0) (hp : Builtin.divisionGoesByPylong a b = false) (q : ∀ u tk', Q (.int (a.fdiv b) u) ⟨h, gs, dr, tk', os⟩) : wpAny (model prog w) A (binaryOp .FloorDiv (.int a t) (.int b u)) Q E ⟨h, gs, dr, tk, os⟩ := by
  refine PyProof.Rows.floordiv_int hb ?_ (.inl hp)
  exact q _ _
theorem idx0 {n : Nat} (h : 0 < n) : seqIndex? 0 n = some 0 := by simp [seqIndex?, h]
theorem idxN {n : Nat} (h : 0 < n) : seqIndex? (-1) n = some (n - 1) := by
  have e : (if (-1 : Int) < 0 then -1 + (n : Int) else -1) = -1 + (n : Int) := if_pos (by decide)
  unfold seqIndex?
  dsimp only
  rw [e, if_pos (by simp; omega)]
  congr 1; omega
theorem oIsNN {Q : Value → Shared → Prop} {s : Shared} (q : Q (.bool true) s) : wpAny (model prog w) A (compareOp .Is .none .none) Q E s := is_none_none q
theorem oIsRN {Q : Value → Shared → Prop} {s : Shared} (q : Q (.bool false) s) : wpAny (model prog w) A (compareOp .Is (.ref a) .none) Q E s := is_ref_none q
theorem oIsIN {i : Int} {Q : Value → Shared → Prop} {s : Shared} (q : Q (.bool false) s) : wpAny (model prog w) A (compareOp .Is (.int i t) .none) Q E s := is_int_none q
theorem oIsSN {Q : Value → Shared → Prop} {s : Shared} (q : Q (.bool false) s) : wpAny (model prog w) A (compareOp .Is (.str x t) .none) Q E s := is_str_none q
theorem oNotNN {Q : Value → Shared → Prop} {s : Shared} (q : Q (.bool false) s) : wpAny (model prog w) A (compareOp .IsNot .none .none) Q E s := isnot_none_none q
theorem oNotRN {Q : Value → Shared → Prop} {s : Shared} (q : Q (.bool true) s) : wpAny (model prog w) A (compareOp .IsNot (.ref a) .none) Q E s := isnot_ref_none q
theorem oNotSN {Q : Value → Shared → Prop} {s : Shared} (q : Q (.bool true) s) : wpAny (model prog w) A (compareOp .IsNot (.str x t) .none) Q E s := isnot_str_none q
theorem oIsB {c d : Bool} {Q : Value → Shared → Prop} {s : Shared} (q : Q (.bool (c == d)) s) : wpAny (model prog w) A (compareOp .Is (.bool c) (.bool d)) Q E s := is_bool q
theorem oNotB {c d : Bool} {Q : Value → Shared → Prop} {s : Shared} (q : Q (.bool (c != d)) s) : wpAny (model prog w) A (compareOp .IsNot (.bool c) (.bool d)) Q E s := isnot_bool q
/-- a call of what a local name holds -/
theorem rCallL {P : Heap → Prop} {args : List Expr} {np : Pos} {f : Value} {Q : Value → Shared → Prop} (b : Bd g L l M h) (hv : Has x f l) (hk : (env.scope.kind == .function && env.kindOf x == some .local && !(x == ("__debug__" : Str))) = true) (hL : env.locals = L)
    (hP : Keeps' (model prog w) f P) (hn : (starEach args env).any (·.1) = false)
    (q : wpAny (model prog w) A (spliced (starEach args env)) (fun vs s₁ => P s₁.heap ∧ wpAny (model prog w) A (call f vs []) Q E s₁) E ⟨h, gs, dr, tk, os⟩) :
    wpAny (model prog w) A (eval (.Call (.Name x np) args [] pos) env) Q E ⟨h, gs, dr, tk, os⟩ :=
  wpAny_Call_NameR (rLoc b hv hk hL (cw hn hP (wpAny_mono q (fun vs s₁ h₁ => ⟨h₁.1, by simpa using h₁.2⟩) fun _ _ e => e)))
theorem binds_peek {K : Frag} {mb} {fd : FuncData} {args : Args} {binds : List (Str × Value)} (W : Wld K mb g) (k : Kp g h)
    (e : ∀ S, peek K S (bindArgs fd args) = some binds) : BindsTo ⟨h, gs, dr, tk, os⟩ fd args binds := fun M A E Q q =>
  (Looks.of_peek (M := M) (h := h) (W.kin.keeps k) (e _)).here q
theorem Bd.fg {l' : List (Str × Value)} (b : Bd g L l M h) (s : l'.Sublist l) : Bd g L l' M h := b.forget fun _ hp => s.subset hp
end
end Mine

open PySem PySem.W PyProof.Rows
set_option Elab.async false
set_option maxRecDepth 100000
namespace Mine
/-! ## a mutable object in the middle -/
inductive MSet (c : Addr) (q : Obj → Prop) : List (Addr × (Obj → Prop)) → List (Addr × (Obj → Prop)) → Prop
  | hd {p r} : MSet c q ((c, p) :: r) ((c, q) :: r)
  | tl {p r r'} : MSet c q r r' → MSet c q (p :: r) (p :: r')
theorem MSet.split {c : Addr} {q : Obj → Prop} {M M' : List (Addr × (Obj → Prop))} (s : MSet c q M M') : ∃ p pre post, M = pre ++ (c, p) :: post ∧ M' = pre ++ (c, q) :: post := by
  induction s with
  | hd => exact ⟨_, [], _, rfl, rfl⟩
  | @tl p r r' _ ih => obtain ⟨p', pre, post, rfl, rfl⟩ := ih; exact ⟨p', p :: pre, post, rfl, rfl⟩
section
variable {g g' h h' : Heap} {L c : Addr} {l l' : List (Str × Value)} {M M' : List (Addr × (Obj → Prop))} {o : Obj} {q : Obj → Prop}
theorem Hp.mset (b : Hp g M h) (s : MSet c q M M') (hs : Heap.ExtBut c h h') (e : h'.get? c = some o) (hq : q o) : Hp g M' h' := by
  obtain ⟨p, pre, post, rfl, rfl⟩ := s.split
  exact ((b.perm List.perm_middle).upd hs e hq).perm List.perm_middle.symm
theorem Bd.mset (b : Bd g L l M h) (s : MSet c q M M') (hs : Heap.ExtBut c h h') (e : h'.get? c = some o) (hq : q o) : Bd g L l M' h' := by
  obtain ⟨p, pre, post, rfl, rfl⟩ := s.split
  exact ((b.perm List.perm_middle).upd hs e hq).perm List.perm_middle.symm
theorem Hp.at_ {p : Obj → Prop} (b : Hp g M h) (hm : (c, p) ∈ M) : ∃ o, h.get? c = some o ∧ p o := (b.mu _ hm).1
theorem Hp.cell {v : Option Value} (b : Hp g M h) (hm : (c, cel v) ∈ M) : h.IsCell c v := (b.mu _ hm).1
/-- all but a change at one fresh namespace -/
theorem Hp.sameBut (b : Hp g M h) (hc : g.get? c = none) (hn : ∀ p ∈ M, p.1 ≠ c) (hs : Heap.SameBut c h h') : Hp g M h' :=
  ⟨fun a o e => hs.extBut a o (fun q => by subst q; rw [hc] at e; cases e) (b.keep a o e), fun p hp => let ⟨⟨o, x, z⟩, y⟩ := b.mu p hp; ⟨⟨o, hs.extBut _ _ (hn p hp) x, z⟩, y⟩, b.nd⟩
end

section
variable {prog : Program} {w : World} {A : Around} {E : Value → Shared → Prop} {env : Env} {g h : Heap} {L : Addr} {l : List (Str × Value)} {M M' : List (Addr × (Obj → Prop))}
  {gs : Array GenState} {dr : Drawn} {tk : Nat} {os : OsState} {x y : Str} {pos : Pos} {v : Value} {c : Addr}
/-! ## cells -/
theorem rCel {Q : Value → Shared → Prop} (b : Bd g L l M h) (hc : env.cells.lookup x = some c) (hm : (c, cel (some v)) ∈ M) (hk : (env.scope.kind == .function && env.kindOf x == some .cell && !(x == ("__debug__" : Str))) = true)
    (q : Q v ⟨h, gs, dr, tk, os⟩) : wpAny (model prog w) A (eval (.Name x pos) env) Q E ⟨h, gs, dr, tk, os⟩ := by
  simp only [Bool.and_eq_true, beq_iff_eq, Bool.not_eq_true'] at hk
  exact wpAny_Name (wpAny_loadName_cell hk.1.1 hk.1.2 hc (b.hp.cell hm) q) hk.2
theorem rFre {Q : Value → Shared → Prop} (b : Bd g L l M h) (hc : env.cells.lookup x = some c) (hm : (c, cel (some v)) ∈ M) (hk : (env.scope.kind == .function && env.kindOf x == some .free && !(x == ("__debug__" : Str)) && !(x == ("__classdict__" : Str))) = true)
    (q : Q v ⟨h, gs, dr, tk, os⟩) : wpAny (model prog w) A (eval (.Name x pos) env) Q E ⟨h, gs, dr, tk, os⟩ := by
  simp only [Bool.and_eq_true, beq_iff_eq, Bool.not_eq_true'] at hk
  exact wpAny_Name (wpAny_loadName_free hk.1.1.1 hk.1.1.2 hc (b.hp.cell hm) q hk.2) hk.1.2
theorem nCel {Q : Value → Shared → Prop} (b : Bd g L l M h) (hc : env.cells.lookup x = some c) (hm : (c, cel (some v)) ∈ M) (hk : (env.scope.kind == .function && env.kindOf x == some .cell) = true)
    (q : Q v ⟨h, gs, dr, tk, os⟩) : wpAny (model prog w) A (loadName env x) Q E ⟨h, gs, dr, tk, os⟩ := by
  simp only [Bool.and_eq_true, beq_iff_eq] at hk
  exact wpAny_loadName_cell hk.1 hk.2 hc (b.hp.cell hm) q
theorem rStoC {Q : Unit → Shared → Prop} (b : Bd g L l M h) {v₀ : Option Value} (hc : env.cells.lookup x = some c) (hm : (c, cel v₀) ∈ M) (s : MSet c (cel (some v)) M M') (hk : (env.scope.kind == .function && env.kindOf x == some .cell) = true)
    (q : ∀ h', Bd g L l M' h' → Q () ⟨h', gs, dr, tk, os⟩) : wpAny (model prog w) A (storeName env x v) Q E ⟨h, gs, dr, tk, os⟩ := by
  simp only [Bool.and_eq_true, beq_iff_eq] at hk
  refine wpAny_storeName_cell hk.1 hk.2 hc (b.hp.cell hm) fun h' ⟨o, e, z⟩ hs => q h' (b.mset s hs.extBut e z)

/-! ## a frame with cells -/
theorem bindL_other {kf : Str → Option NameKind} : ∀ {bs : List (Str × Value)} {m : Str → Option Value} {n : Str}, (bs.all fun q => !(q.1 == n)) = true → bindL kf bs m n = m n
  | [], _, _, _ => rfl
  | (y, u) :: r, m, n, hn => by
    simp only [List.all_cons, Bool.and_eq_true, Bool.not_eq_true', beq_eq_false_iff_ne, ne_eq] at hn
    unfold bindL
    rw [bindL_other (by simpa using hn.2)]
    split
    · show (if n = y then some u else m n) = m n
      rw [if_neg (fun e => hn.1 e.symm)]
    · rfl
theorem bindL_at {kf : Str → Option NameKind} : ∀ {bs : List (Str × Value)} {m : Str → Option Value}, nodupK bs = true → ∀ p ∈ bs, kf p.1 = some .local → bindL kf bs m p.1 = some p.2
  | [], _, _, _, hp, _ => nomatch hp
  | (y, u) :: r, m, hn, p, hp, hk => by
    simp only [nodupK, Bool.and_eq_true] at hn
    unfold bindL
    rcases List.mem_cons.mp hp with rfl | hp
    · rw [bindL_other hn.1, if_pos hk, if_pos rfl]
    · exact bindL_at hn.2 p hp hk

def nodupA : List (Str × Addr) → Bool
  | [] => true
  | p :: r => (r.all fun q => !(q.1 == p.1)) && nodupA r
theorem nodupA_ok : ∀ {bs : List (Str × Addr)}, nodupA bs = true → ∀ p ∈ bs, bs.lookup p.1 = some p.2
  | [], _, _, hp => nomatch hp
  | q :: r, hn, p, hp => by
    simp only [nodupA, Bool.and_eq_true] at hn
    rcases List.mem_cons.mp hp with rfl | hp'
    · rw [show p = (p.1, p.2) from rfl, List.lookup_cons, beq_self_eq_true]
    · have this := List.all_eq_true.mp hn.1 p hp'
      obtain ⟨qn, qa⟩ := q
      rw [Bool.not_eq_true'] at this
      rw [List.lookup_cons, this]
      exact nodupA_ok hn.2 p hp'
theorem enterC {K : Frag} {mb} {P : Value → Heap → Prop} {f : Addr} {o : Obj} {fd : FuncData} {body : List Stmt} {vals : List Value} (binds : List (Str × Value)) (lb : List (Str × Value)) (W : Wld K mb g) (H : Hp g M h)
    (hroom : A.depth < 1000) (ho : K.lookup f = some o) (hdata : o.data = .func fd) (hcd : codeIn K fd.code fd.qualname = true)
    (hbody : fd.body = .stmts body) (hbind : bindArgs fd ⟨vals, []⟩ = pure binds) (hclo : fd.closure = []) (hnd : nodupK binds = true)
    (hkind : ∀ L, (binds.all fun x => decide (fd.scope.names.lookup x.1 = some .local) || (decide (fd.scope.names.lookup x.1 = some .cell) && ((cellsFrom (L + 1) fd.scope.names []).lookup x.1).isSome)) = true)
    (hlb : ∀ p ∈ lb, p ∈ binds) (hll : (lb.all fun x => decide (fd.scope.names.lookup x.1 = some .local)) = true)
    (hcs : ∀ L, nodupA (cellsFrom (L + 1) fd.scope.names []) = true)
    (hco : fd.scope.isCoroutine = false) (hgen : fd.scope.isGenerator = false) (hk : fd.scope.kind = .function)
    (q : ∀ L h0 tk0, Bd g L lb (((cellsFrom (L + 1) fd.scope.names []).map fun p => (p.2, cel (bindC (fun x => fd.scope.names.lookup x) binds (fun _ => none) p.1))) ++ M) h0 →
      wpAny (model prog w) (A.deeper (callEnvC fd L f)) (execs body (callEnvC fd L f)) (DoneF gs dr os P) (fun _ _ => False) ⟨h0, gs, dr, tk0, os⟩) :
    codeAny (model prog w) A (.call (.ref f) ⟨vals, []⟩) (Rt gs dr os P) ⟨h, gs, dr, tk, os⟩ := by
  have W' := W.up H.keep
  refine codeAny_call_cells hroom (W'.kin f _ ho) hdata W'.lim (codeRec_of W'.kin hcd) hbody hbind hclo (fun x hx => ?_) (fun s₁ X => ?_) hco hgen hk
  · have := List.all_eq_true.mp (hkind h.objs.size) x hx
    simpa using this
  · obtain ⟨⟨⟨h', tk', rfl⟩, ns, keep, fresh⟩, cell, apart, above⟩ := X
    refine wpAny_mono (q h.objs.size h' tk' ⟨⟨_, ns, fun p hp => ?_⟩, H.keep.none (fresh_size h), fun p hp => ?_, keep' keep, fun p hp => ?_, ?_⟩) (fun fl s' hd => ⟨_, rfl, hd⟩) fun _ _ x => x.elim
    · refine bindL_at hnd p (hlb p hp) ?_
      show fd.scope.names.lookup p.1 = some .local
      simpa using List.all_eq_true.mp hll p hp
    · rcases List.mem_append.mp hp with hp | hp
      · obtain ⟨r, hr, rfl⟩ := List.mem_map.mp hp
        exact Nat.ne_of_gt (above r.1 r.2 hr)
      · exact Nat.ne_of_lt (H.msz p hp)
    · rcases List.mem_append.mp hp with hp | hp
      · obtain ⟨r, hr, rfl⟩ := List.mem_map.mp hp
        have hl : (cellsFrom (h.objs.size + 1) fd.scope.names []).lookup r.1 = some r.2 := nodupA_ok (hcs _) r hr
        refine ⟨cell r.1 r.2 hl, H.keep.none ?_⟩
        cases e : h.get? r.2 with
        | none => rfl
        | some o' => exact absurd (Nat.lt_trans (Heap.lt_size e) (above r.1 r.2 hr)) (Nat.lt_irrefl _)
      · exact ⟨let ⟨⟨o, e, z⟩, _⟩ := H.mu p hp; ⟨o, keep _ _ e, z⟩, (H.mu p hp).2⟩
    · rw [List.map_append, List.map_map]
      refine List.nodup_append.mpr ⟨?_, H.nd, fun a ha b hb e => ?_⟩
      · refine (List.pairwise_map.mpr ?_)
        exact apart.imp fun z => z
      · subst e
        obtain ⟨r, hr, rfl⟩ := List.mem_map.mp ha
        obtain ⟨p, hp, e⟩ := List.mem_map.mp hb
        have h1 := H.msz p hp
        rw [e] at h1
        exact Nat.lt_irrefl _ (Nat.lt_trans (above r.1 r.2 hr) h1)
where keep' {h' : Heap} (k : ∀ b o, h.get? b = some o → h'.get? b = some o) : Kp g h' := H.keep.tr k

/-! ## comprehensions -/
theorem asgNK {px : Pos} {I : Addr} {R : Shared → Prop} (hk : (env.scope.kind == .function && env.kindOf x == some .local) = true) (hL : env.locals = L) (b : Bd g L l M h)
    (q : ∀ h' tk', (∀ l', Sto x v l l' → Bd g L l' M h') → R ⟨h', gs, dr, tk', os⟩) :
    wpAny (model prog w) A (letOwnedTupleGo (.Name x px) (.ref I) v) (fun _ s₁ => wpAny (model prog w) A (assign (.Name x px) env v) (fun _ s₂ => R s₂) E s₁) E ⟨h, gs, dr, tk, os⟩ := by
  refine wpAny_of_eq (show letOwnedTupleGo (.Name x px) (.ref I) v = pure () from rfl) ?_
  refine wpAny_assign_Name ?_
  obtain ⟨m, hn, hm⟩ := b.ns
  simp only [Bool.and_eq_true, beq_iff_eq] at hk
  subst hL
  refine wpAny_storeName_local hk.2 hn (fun h' hn' hs => q h' _ fun l' st => b.sto st hm hn' hs) ?_
  rw [hk.1]; rfl
def lcTests (M : Model) (A : Around) (env : Env) (ifs : List Expr) (Q : Bool → Shared → Prop) (E : Value → Shared → Prop) (s : Shared) : Prop := match ifs with
  | [] => Q true s
  | [c] => wpAny M A (isTrue c env (eval c env)) Q E s
  | _ => False
theorem lcTests_ok {ifs : List Expr} {Q : Bool → Shared → Prop} {s : Shared} (q : lcTests (model prog w) A env ifs Q E s) :
    wpAny (model prog w) A (forIn ifs true fun c r => if r = true then do let ok ← isTrue c env (eval c env); pure (ForInStep.yield ok) else pure (ForInStep.yield r)) Q E s := by
  match ifs, q with
  | [], q => exact wpAny_tests_nil q
  | [c], q => exact wpAny_tests_one q

theorem compLoop_any {elt target iter : Expr} {ifs : List Expr} {scope : Scope} {it acc : Value} {R : Result → Shared → Prop} (I : Nat → Shared → Prop)
    (turn : ∀ n s E, I n s → wpAny (model prog w) A (pyNext it) (fun r s₁ => match r with
      | none => R (.ok .next) s₁
      | some v => wpAny (model prog w) A (letOwnedTupleGo target it v) (fun _ s₁' => wpAny (model prog w) A (assign target env v) (fun _ s₂ =>
          lcTests (model prog w) A env ifs (fun ok s₃ => if ok = true then wpAny (model prog w) A (eval elt env) (fun x s₄ =>
              wpAny (model prog w) A (call (.builtin "list.append") [acc, x]) (fun _ s₅ => ∃ m, m < n ∧ I m s₅) E s₄) E s₃ else ∃ m, m < n ∧ I m s₃) E s₂) E s₁') E s₁) E s)
    (n : Nat) {s : Shared} (h : I n s) : codeAny (model prog w) A (.compLoop (.ListComp elt [⟨target, iter, ifs, 0⟩] scope pos) 0 it acc env) R s := by
  refine codeAny_loop rfl I (fun n s hI => ?_) n h
  show wpAny _ A ((compTurn (.ListComp elt [⟨target, iter, ifs, 0⟩] scope pos) 0 it acc env).onRaise (fun x => do noteFrame x env; theTreesLotGoes x)) _ _ s
  refine wpAny_noted ?_
  rw [compTurn_list]
  refine wpAny_bind (wpAny_standAt (wpAny_bind (wpAny_mono (turn n s _ hI) (fun r s₁ h₁ => ?_) fun _ _ h' => h')))
  cases r with
  | none => exact wpAny_pure h₁
  | some v =>
    refine wpAny_bind (wpAny_mono h₁ (fun _ s₁' h₁' => ?_) fun _ _ h' => h')
    refine wpAny_bind (wpAny_mono h₁' (fun _ s₂ h₂ => wpAny_bind (wpAny_mono (lcTests_ok h₂) (fun ok s₃ h₃ => ?_) fun _ _ h' => h')) fun _ _ h' => h')
    cases ok with
    | false => exact wpAny_pure ⟨rfl, h₃⟩
    | true =>
      exact wpAny_bind (wpAny_bind (wpAny_mono h₃ (fun x s₄ h₄ => wpAny_bind (wpAny_mono h₄ (fun _ s₅ h₅ => wpAny_pure (wpAny_pure ⟨rfl, h₅⟩)) fun _ _ h' => h')) fun _ _ h' => h'))

/-- a turn's end -/
def LcE (gs : Array GenState) (dr : Drawn) (os : OsState) (g' : Heap) (C I D L : Addr) (o oL : Obj) (ys : List Value) (M : List (Addr × (Obj → Prop))) (J : Heap → List Value → Prop) (ys' : List Value) (s : Shared) : Prop :=
  ∃ g'' h'' tk'' lc, s = ⟨h'', gs, dr, tk'', os⟩ ∧ Kp g' g'' ∧ Bd g'' C lc ((I, (· = o)) :: (D, lst ys) :: (L, (· = oL)) :: M) h'' ∧ J g'' ys'
theorem LcE.mk {C I D L : Addr} {o oL : Obj} {ys ys' : List Value} {J : Heap → List Value → Prop} {g' g'' h'' : Heap} {lc} (k : Kp g' g'') (b : Bd g'' C lc ((I, (· = o)) :: (D, lst ys) :: (L, (· = oL)) :: M) h'') (j : J g'' ys') :
    LcE gs dr os g' C I D L o oL ys M J ys' ⟨h'', gs, dr, tk, os⟩ := ⟨g'', h'', tk, lc, rfl, k, b, j⟩
/-- what a turn of the comprehension asks -/
def LcT (M : Model) (A : Around) (env : Env) (elt : Expr) (ifs : List Expr) (EndY : List Value → Shared → Prop) (ys : List Value) (E : Value → Shared → Prop) (s : Shared) : Prop :=
  lcTests M A env ifs (fun ok s₃ => if ok = true then wpAny M A (eval elt env) (fun y s₄ => EndY (ys ++ [y]) s₄) E s₃ else EndY ys s₃) E s

def LcK (M : Model) (A : Around) (E : Value → Shared → Prop) (env : Env) (e : Expr) (scope : Scope) (cl : List (Str × Addr)) (use : Option (Str × Pos)) (Q : Value → Shared → Prop) (it : Value) (s₂ : Shared) : Prop :=
  wpAny M A (newList []) (fun acc s₃ => wpAny M A (newFunctionEnv scope env.globals cl [] env.qual none .none (some env)) (fun cenv s₄ => codeAny M A (.compStart e 0 it acc { cenv with scope := relabel scope env }) (compPost M A E (use.map fun p => assign (.Name p.1 p.2) env) Q acc cenv.locals) s₄) E s₃) E s₂
/-- where the new list goes -/
inductive UseR (D : Addr) : Option (Str × Pos) → List (Str × Value) → List (Str × Value) → Prop
  | none (k : List (Str × Value)) : UseR D none k k
  | name {n : Str} {pn : Pos} {k k' : List (Str × Value)} : Sto n (.ref D) k k' → UseR D (some (n, pn)) k k'
def useOk (env : Env) (use : Option (Str × Pos)) : Prop := use = none ∨ ∃ y py, use = some (y, py) ∧ (env.scope.kind == .function && env.kindOf y == some .local) = true
def UseQ (use : Option (Str × Pos)) (Q : Value → Shared → Prop) (D : Addr) (s : Shared) : Prop := match use with | none => Q (.ref D) s | some _ => Q .none s

theorem lcBlock {elt target iter : Expr} {ifs : List Expr} {scope : Scope} {cl : List (Str × Addr)} {use : Option (Str × Pos)} {Q : Value → Shared → Prop} {I : Addr} {fp : List Addr} {n : Nat} {P : Nat → Value → Prop} {St : Nat → Heap → Prop} {Po : Obj → Prop}
    (W : Walks prog w A I fp [I] n P St) (hn : n ≤ 1000000) (hI : ∀ i h, St i h → ∃ o, h.get? I = some o ∧ Po o)
    (hSt : ∀ i h₁ h₂ o g', St i h₁ → h₁.get? I = some o → h₂.get? I = some o → Kp g g' → Hp g' M h₂ → St i h₂)
    (hcell : (scope.names.all fun y => y.2 != .cell) = true) (hkind : scope.kind = .function) (hL : env.locals = L) (hu : useOk env use)
    {h₀ : Heap} (b : Bd g L l M h₀) (hk : Kp h₀ h) (hf : h₀.get? I = none) (hst : St 0 h) (J : Nat → Heap → List Value → Prop) (j0 : J 0 g []) (jn : ∀ i g' ys, J i g' ys → ys.length ≤ i)
    (turn : ∀ i v g' ys h' tk' C D o oL (E : Value → Shared → Prop), i < n → P i v → Po o → Kp g g' → J i g' ys → Bd g' C [] ((I, (· = o)) :: (D, lst ys) :: (L, (· = oL)) :: M) h' →
      wpAny (model prog w) A (letOwnedTupleGo target (.ref I) v) (fun _ s₁ => wpAny (model prog w) A (assign target (compEnvC scope cl C env) v) (fun _ s₂ =>
        LcT (model prog w) A (compEnvC scope cl C env) elt ifs (LcE gs dr os g' C I D L o oL ys M (J (i + 1))) ys E s₂) E s₁) E ⟨h', gs, dr, tk', os⟩)
    (done : ∀ g' ys D h' tk', Kp g g' → J n g' ys → (∀ l', UseR D use l l' → Bd g' L l' ((D, lst ys) :: M) h') → UseQ use Q D ⟨h', gs, dr, tk', os⟩) :
    LcK (model prog w) A E env (.ListComp elt [⟨target, iter, ifs, 0⟩] scope pos) scope cl use Q (.ref I) ⟨h, gs, dr, tk, os⟩ := by
  subst hL
  obtain ⟨o₀, ho₀, hpo₀⟩ := hI _ _ hst
  have bI : Bd g env.locals l ((I, (· = o₀)) :: M) h := b.add hk hf ho₀ rfl
  unfold LcK
  refine wpAny_newObj_type (wpAny_newFunctionEnv (fun x hx => by simpa using List.all_eq_true.mp hcell x hx) (by intro y hy; simp at hy) (fun h₁ hns₁ hsb₁ => ?_) hkind)
  dsimp only at hns₁ hsb₁ ⊢
  generalize hH2 : h.push { cls := .type "list", dict := none, data := .seq ([] : List Value).toArray } = H2 at hns₁ hsb₁ ⊢
  have hfD : h.get? h.objs.size = none := fresh_size h
  have hD2 : H2.get? h.objs.size = some { cls := .type "list", dict := none, data := .seq ([] : List Value).toArray } := hH2 ▸ Heap.get?_push_size _ rfl
  have k2 : Kp h H2 := hH2 ▸ Kp.push _ _
  have bD : Bd g env.locals l ((h.objs.size, lst []) :: (I, (· = o₀)) :: M) H2 := bI.add k2 hfD hD2 ⟨_, rfl⟩
  have hCf : H2.get? H2.objs.size = none := fresh_size H2
  have kC : Kp H2 h₁ := fun a o e => hsb₁.extBut a o (fun q => by subst q; rw [hCf] at e; cases e) (Heap.get?_push_of_some _ e)
  have bC := bD.kp kC
  generalize hD : h.objs.size = D at *
  generalize hC : H2.objs.size = C at *
  obtain ⟨oL, HL, back⟩ := bC.out
  have HL2 : Hp g ((I, (· = o₀)) :: (D, lst []) :: (env.locals, (· = oL)) :: M) h₁ := by
    refine HL.perm ?_
    exact ((List.Perm.swap _ _ _).trans ((List.Perm.swap _ _ _).cons _)).trans (List.Perm.swap _ _ _)
  have gC : g.get? C = none := by
    have : Kp g H2 := bD.keep
    exact this.none hCf
  have hne : ∀ p ∈ ((I, (· = o₀)) :: (D, lst []) :: (env.locals, (· = oL)) :: M), p.1 ≠ C := by
    intro p hp q
    have : H2.get? p.1 = none := by rw [q]; exact hCf
    obtain ⟨_, H2p, _⟩ := bD.out
    have h3 : ∃ o, H2.get? p.1 = some o := by
      rcases List.mem_cons.mp hp with rfl | hp
      · obtain ⟨⟨o, e, _⟩, _⟩ := bD.hp.mu (I, (· = o₀)) (.tail _ (.head _)); exact ⟨o, e⟩
      · rcases List.mem_cons.mp hp with rfl | hp
        · exact ⟨_, hD2⟩
        · rcases List.mem_cons.mp hp with rfl | hp
          · obtain ⟨⟨o, e, _⟩, _⟩ := H2p.mu _ (.head _); exact ⟨o, e⟩
          · obtain ⟨⟨o, e, _⟩, _⟩ := bD.hp.mu p (.tail _ (.tail _ hp)); exact ⟨o, e⟩
    obtain ⟨o, e⟩ := h3
    rw [this] at e; cases e
  have B0 : Bd g C [] ((I, (· = o₀)) :: (D, lst []) :: (env.locals, (· = oL)) :: M) h₁ := ⟨⟨_, hns₁, fun _ hp => nomatch hp⟩, gC, hne, HL2⟩
  have hst₁ : St 0 h₁ := W.frame _ _ _ hst fun b _ o e => kC _ _ (k2 _ _ e)
  have loop : ∀ tk₁, codeAny (model prog w) A (.compLoop (.ListComp elt [⟨target, iter, ifs, 0⟩] scope pos) 0 (.ref I) (.ref D) (compEnvC scope cl C env)) (compPost (model prog w) A E (use.map fun p => assign (.Name p.1 p.2) env) Q (.ref D) C) ⟨h₁, gs, dr, tk₁, os⟩ := by
    intro tk₁
    refine compLoop_any (fun k s' => ∃ i g' h' tk' o ys lc, s' = ⟨h', gs, dr, tk', os⟩ ∧ i ≤ n ∧ k = n + 1 - i ∧ Kp g g' ∧ J i g' ys ∧ Po o ∧ Bd g' C lc ((I, (· = o)) :: (D, lst ys) :: (env.locals, (· = oL)) :: M) h' ∧ St i h') ?_ (n + 1)
      ⟨0, g, h₁, _, o₀, [], [], rfl, Nat.zero_le _, rfl, Kp.rf, j0, hpo₀, B0, hst₁⟩
    rintro k s' E' ⟨i, g', h', tk', o, ys, lc, rfl, hi, rfl, kg, j, hpo, B, st⟩
    by_cases hlt : i < n
    · refine W.item i _ _ _ hlt st fun v h₂ tk₂ hP st₂ hk₂ => ?_
      obtain ⟨o₂, ho₂, po₂⟩ := hI _ _ st₂
      have B₂ : Bd g' C lc ((I, (· = o₂)) :: (D, lst ys) :: (env.locals, (· = oL)) :: M) h₂ := B.upd (fun c x hc e => hk₂ c x (fun q => hc (List.mem_singleton.mp q)) e) ho₂ rfl
      have hys : ys.length ≤ 1000000 := Nat.le_trans (jn _ _ _ j) (Nat.le_trans hi hn)
      have fin : ∀ (ys' : List Value) (s₃ : Shared), LcE gs dr os g' C I D env.locals o₂ oL ys M (J (i + 1)) ys' s₃ → (ys' = ys → ∃ m, m < n + 1 - i ∧ ∃ i g' h' tk' o ys lc, s₃ = ⟨h', gs, dr, tk', os⟩ ∧ i ≤ n ∧ m = n + 1 - i ∧ Kp g g' ∧ J i g' ys ∧ Po o ∧
          Bd g' C lc ((I, (· = o)) :: (D, lst ys) :: (env.locals, (· = oL)) :: M) h' ∧ St i h') ∧
          ∀ y, ys' = ys ++ [y] → wpAny (model prog w) A (call (.builtin "list.append") [.ref D, y]) (fun _ s₅ => ∃ m, m < n + 1 - i ∧ ∃ i g' h' tk' o ys lc, s₅ = ⟨h', gs, dr, tk', os⟩ ∧ i ≤ n ∧ m = n + 1 - i ∧ Kp g g' ∧ J i g' ys ∧ Po o ∧
          Bd g' C lc ((I, (· = o)) :: (D, lst ys) :: (env.locals, (· = oL)) :: M) h' ∧ St i h') E' s₃ := by
        rintro ys' s₃ ⟨g'', h'', tk'', lc'', rfl, k'', B'', j''⟩
        obtain ⟨⟨oI, eI, rfl⟩, _⟩ := B''.hp.mu _ (.head _)
        have st'' : St (i + 1) h'' := hSt _ _ _ _ g'' st₂ ho₂ eI (kg.tr k'') (B''.hp.sub ((List.sublist_cons_self _ _).trans ((List.sublist_cons_self _ _).trans (List.sublist_cons_self _ _))))
        refine ⟨fun e => ?_, fun y e => ?_⟩
        · subst e
          exact ⟨n + 1 - (i + 1), by omega, i + 1, g'', h'', tk'', _, _, lc'', rfl, hlt, rfl, kg.tr k'', j'', po₂, B'', st''⟩
        · subst e
          refine oApp (B''.hp.lst (.tail _ (.head _))) hys fun h₅ o₅ x₅ e₅ l₅ => ?_
          have B₅ := B''.mset (q := lst (ys ++ [y])) (M' := (I, (· = oI)) :: (D, lst (ys ++ [y])) :: (env.locals, (· = oL)) :: M) (.tl .hd) x₅ e₅ l₅
          obtain ⟨⟨o₆, e₆, rfl⟩, _⟩ := B₅.hp.mu _ (.head _)
          exact ⟨n + 1 - (i + 1), by omega, i + 1, g'', h₅, tk'', _, _, lc'', rfl, hlt, rfl, kg.tr k'', j'', po₂, B₅,
            hSt _ _ _ _ g'' st'' eI e₆ (kg.tr k'') (B₅.hp.sub ((List.sublist_cons_self _ _).trans ((List.sublist_cons_self _ _).trans (List.sublist_cons_self _ _))))⟩
      refine wpAny_mono (turn i v g' ys h₂ tk₂ C D o₂ oL E' hlt hP po₂ kg j (B₂.forget fun _ hp => nomatch hp)) (fun _ s₁ h₁' => wpAny_mono h₁' (fun _ s₂ h₂ => ?_) fun _ _ e => e) fun _ _ e => e
      unfold LcT at h₂
      have conv : ∀ (ok : Bool) (s₃ : Shared), (if ok = true then wpAny (model prog w) A (eval elt (compEnvC scope cl C env)) (fun y s₄ => LcE gs dr os g' C I D env.locals o₂ oL ys M (J (i + 1)) (ys ++ [y]) s₄) E' s₃ else LcE gs dr os g' C I D env.locals o₂ oL ys M (J (i + 1)) ys s₃) →
          (if ok = true then wpAny (model prog w) A (eval elt (compEnvC scope cl C env)) (fun x s₄ => wpAny (model prog w) A (call (.builtin "list.append") [.ref D, x]) (fun _ s₅ => ∃ m, m < n + 1 - i ∧ ∃ i g' h' tk' o ys lc, s₅ = ⟨h', gs, dr, tk', os⟩ ∧ i ≤ n ∧ m = n + 1 - i ∧ Kp g g' ∧ J i g' ys ∧ Po o ∧
          Bd g' C lc ((I, (· = o)) :: (D, lst ys) :: (env.locals, (· = oL)) :: M) h' ∧ St i h') E' s₄) E' s₃ else ∃ m, m < n + 1 - i ∧ ∃ i g' h' tk' o ys lc, s₃ = ⟨h', gs, dr, tk', os⟩ ∧ i ≤ n ∧ m = n + 1 - i ∧ Kp g g' ∧ J i g' ys ∧ Po o ∧
          Bd g' C lc ((I, (· = o)) :: (D, lst ys) :: (env.locals, (· = oL)) :: M) h' ∧ St i h') := by
        intro ok s₃ z
        cases ok with
        | false => simp only [Bool.false_eq_true, if_false] at z ⊢; exact (fin _ _ z).1 rfl
        | true => simp only [if_true] at z ⊢; exact wpAny_mono z (fun y s₄ z => (fin _ _ z).2 y rfl) fun _ _ e => e
      match ifs, h₂ with
      | [], h₂ => exact conv true _ h₂
      | [c], h₂ => exact wpAny_mono h₂ (fun ok s₃ z => conv _ _ z) fun _ _ e => e
    · have : i = n := by omega
      subst this
      refine W.done _ _ _ st fun h₂ tk₂ hk₂ => ?_
      have xI : Heap.ExtBut I h' h₂ := fun c x hc e => hk₂ c x (fun q => hc (List.mem_singleton.mp q)) e
      -- the frame's heap without the walk's object
      have nIC : C ≠ I := fun q => B.ne _ (.head _) q.symm
      have nd := B.hp.nd
      rw [List.map_cons, List.nodup_cons] at nd
      have B₂ : Bd g' C lc ((D, lst ys) :: (env.locals, (· = oL)) :: M) h₂ := by
        have b₁ := B.tail
        obtain ⟨m, x, y⟩ := B.ns
        refine ⟨⟨m, x.extBut xI nIC, y⟩, B.off, b₁.ne, fun c x e => xI c x (fun q => ?_) (B.keep _ _ e), fun p hp => ?_, nd.2⟩
        · subst q; rw [(B.hp.mu _ (.head _)).2] at e; cases e
        · obtain ⟨⟨o', e', z⟩, y⟩ := b₁.hp.mu p hp
          exact ⟨⟨o', xI _ _ (fun q => nd.1 (List.mem_map.mpr ⟨p, hp, q⟩)) e', z⟩, y⟩
      rcases hu with rfl | ⟨y, py, rfl, hky⟩
      · obtain ⟨m, x, _⟩ := B₂.ns
        refine ⟨m, x, fun h₃ hs₃ => ?_⟩
        have H₃ : Hp g' ((D, lst ys) :: (env.locals, (· = oL)) :: M) h₃ := B₂.hp.sameBut B₂.off B₂.ne hs₃
        refine done g' ys D h₃ tk₂ kg j fun l' u => ?_
        cases u
        exact back _ _ _ (H₃.perm (List.Perm.swap _ _ _))
      · obtain ⟨oC, HC, _⟩ := B₂.out
        have BL : Bd g' env.locals l ((D, lst ys) :: (C, (· = oC)) :: M) h₂ := back _ _ _ (HC.perm (((List.Perm.swap _ _ _).trans ((List.Perm.swap _ _ _).cons _)).trans (List.Perm.swap _ _ _)))
        obtain ⟨mL, hnL, hmL⟩ := BL.ns
        simp only [Bool.and_eq_true, beq_iff_eq] at hky
        show wpAny _ A (assign (.Name y py) env (.ref D)) _ _ _
        refine wpAny_assign_Name (wpAny_storeName_local hky.2 hnL (fun h₃ hn₃ hs₃ => ?_) (by rw [hky.1]; rfl))
        have nCL : C ≠ env.locals := fun q => BL.ne (C, (· = oC)) (.tail _ (.head _)) q
        obtain ⟨mC, hnC, _⟩ := B₂.ns
        refine ⟨mC, hnC.extBut hs₃.extBut nCL, fun h₄ hs₄ => ?_⟩
        refine done g' ys D h₄ _ kg j fun l' u => ?_
        cases u with
        | name st =>
          have BL₃ := BL.sto st hmL hn₃ hs₃
          have nd₃ := BL₃.hp.nd
          have BL₄ : Bd g' env.locals l' ((D, lst ys) :: M) h₃ := BL₃.sub ((List.sublist_cons_self _ _).cons_cons _)
          obtain ⟨m₄, x₄, y₄⟩ := BL₄.ns
          have ndm : ∀ p ∈ ((D, lst ys) :: M), p.1 ≠ C := by
            intro p hp q
            simp only [List.map_cons, List.nodup_cons, List.mem_cons, not_or] at nd₃
            rcases List.mem_cons.mp hp with rfl | hp
            · exact nd₃.1.1 q
            · exact nd₃.2.1 (List.mem_map.mpr ⟨p, hp, q⟩)
          exact ⟨⟨m₄, x₄.sameBut hs₄ (Ne.symm nCL), y₄⟩, BL₄.off, BL₄.ne, BL₄.hp.sameBut B₂.off ndm hs₄⟩
  exact codeAny_compStart_list (loop _) (W.self 0 _ _ _ hst₁ (loop _))

/-! ### where the items come from -/
theorem xLC {elt target iter : Expr} {ifs : List Expr} {scope : Scope} {Q : Value → Shared → Prop} {s : Shared} (cl : List (Str × Addr)) (hclos : closureFor scope env = pure cl) (hkind : scope.kind = .function)
    (hnames : (scope.names.all fun y => y.2 != .local || decide (scope.names.lookup y.1 = some .local)) = true) (hs : ∀ x, foldedSetIterable iter env x = pure x)
    (q : wpAny (model prog w) A (eval iter env) (fun xv s₁ => wpAny (model prog w) A (pyIter xv) (LcK (model prog w) A E env (.ListComp elt [⟨target, iter, ifs, 0⟩] scope pos) scope cl none Q) E s₁) E s) :
    wpAny (model prog w) A (eval (.ListComp elt [⟨target, iter, ifs, 0⟩] scope pos) env) Q E s := by
  rw [eval_ListComp]
  exact wpAny_comprehension_free (use := none) rfl hs hclos hkind (fun y hy hl => by have := List.all_eq_true.mp hnames y hy; rw [hl] at this; simpa using this) q
theorem sLC {elt target iter : Expr} {ifs : List Expr} {scope : Scope} {y : Str} {py spos : Pos} {Q : Flow → Shared → Prop} {s : Shared} (cl : List (Str × Addr))
    (hsw : swapsWith (.ListComp elt [⟨target, iter, ifs, 0⟩] scope pos) (some (.Name y py)) spos.line env = pure true) (hclos : closureFor scope env = pure cl) (hkind : scope.kind = .function)
    (hnames : (scope.names.all fun y => y.2 != .local || decide (scope.names.lookup y.1 = some .local)) = true) (hs : ∀ x, foldedSetIterable iter env x = pure x)
    (q : wpAny (model prog w) A (eval iter env) (fun xv s₁ => wpAny (model prog w) A (pyIter xv) (LcK (model prog w) A E env (.ListComp elt [⟨target, iter, ifs, 0⟩] scope pos) scope cl (some (y, py)) (fun _ => Q .next)) E s₁) E s) :
    wpAny (model prog w) A (exec (.Assign [.Name y py] (.ListComp elt [⟨target, iter, ifs, 0⟩] scope pos) spos) env) Q E s := by
  rw [exec_Assign_Name_used _ _ _ _ hsw]
  refine wpAny_bind (wpAny_standAt (wpAny_bind ?_))
  show wpAny _ A (do let _ ← comprehension (.ListComp elt [⟨target, iter, ifs, 0⟩] scope pos) scope env _ (newList []) false (eval iter env) (some (assign (.Name y py) env))) _ _ s
  refine wpAny_bind (wpAny_mono (wpAny_comprehension_free (use := some (assign (.Name y py) env)) (Q := fun _ s' => Q .next s') rfl hs hclos hkind (fun y hy hl => by have := List.all_eq_true.mp hnames y hy; rw [hl] at this; simpa using this) q) (fun _ _ hq => wpAny_pure (wpAny_pure hq)) fun _ _ e => e)

variable {elt iter : Expr} {ifs : List Expr} {scope : Scope} {cl : List (Str × Addr)} {use : Option (Str × Pos)} {Q : Value → Shared → Prop} {px : Pos} {a : Addr} {vs : List Value}
def locOk (scope : Scope) (env : Env) (cl : List (Str × Addr)) (x : Str) : Prop := ∀ C, ((compEnvC scope cl C env).scope.kind == .function && (compEnvC scope cl C env).kindOf x == some .local) = true
/-- a frozen list, one name -/
theorem lcL (hh : A.handled = none) (b : Bd g L l M h) (hl : IsL g a vs) (hz : vs.length ≤ 1000000) (hcell : (scope.names.all fun y => y.2 != .cell) = true) (hkind : scope.kind = .function) (hL : env.locals = L) (hu : useOk env use)
    (hx : locOk scope env cl x) (J : Nat → Heap → List Value → Prop) (j0 : J 0 g []) (jn : ∀ i g' ys, J i g' ys → ys.length ≤ i)
    (turn : ∀ i v g' ys h' tk' C D I o oL (E : Value → Shared → Prop), vs[i]? = some v → Kp g g' → J i g' ys → Bd g' C [(x, v)] ((I, (· = o)) :: (D, lst ys) :: (L, (· = oL)) :: M) h' →
      LcT (model prog w) A (compEnvC scope cl C env) elt ifs (LcE gs dr os g' C I D L o oL ys M (J (i + 1))) ys E ⟨h', gs, dr, tk', os⟩)
    (done : ∀ g' ys D h' tk', Kp g g' → J vs.length g' ys → (∀ l', UseR D use l l' → Bd g' L l' ((D, lst ys) :: M) h') → UseQ use Q D ⟨h', gs, dr, tk', os⟩) :
    wpAny (model prog w) A (pyIter (.ref a)) (LcK (model prog w) A E env (.ListComp elt [⟨.Name x px, iter, ifs, 0⟩] scope pos) scope cl use Q) E ⟨h, gs, dr, tk, os⟩ := by
  have hl' := hl.up b.keep
  refine wpAny_pyIter_list hl'.list ?_
  obtain ⟨oa, ha, _⟩ := id hl
  have hne : a ≠ h.objs.size := Nat.ne_of_lt (Heap.lt_size (b.keep _ _ ha))
  refine lcBlock (Walks.list hh _ a hne vs.toArray) (by simpa using hz) (Po := fun _ => True) (fun i h st => let ⟨o, e, _⟩ := st.1; ⟨o, e, trivial⟩) (fun i h₁ h₂ o g' st e1 e2 k H => ⟨st.1.at fun o' e => by rw [e1] at e; cases e; exact e2, (hl.up (k.tr H.keep)).list⟩)
    hcell hkind hL hu b (Kp.push _ _) (fresh_size h) ⟨⟨_, Heap.get?_push_size _ rfl, rfl, rfl⟩, hl'.list.push _⟩ J j0 jn (fun i v g' ys h' tk' C D o oL E hi hP _ kg j B => ?_) (fun g' ys D h' tk' kg j hb => done g' ys D h' tk' kg (by simpa using j) hb)
  exact asgNK (hx C) rfl B fun h'' tk'' hb => turn i v g' ys h'' tk'' C D _ o oL E (by simpa using hP) kg j (hb _ .nil)
/-- a list among the mutable objects, one name -/
theorem lcLM (hh : A.handled = none) (b : Bd g L l M h) (hl : (a, lst vs) ∈ M) (hz : vs.length ≤ 1000000) (hcell : (scope.names.all fun y => y.2 != .cell) = true) (hkind : scope.kind = .function) (hL : env.locals = L) (hu : useOk env use)
    (hx : locOk scope env cl x) (J : Nat → Heap → List Value → Prop) (j0 : J 0 g []) (jn : ∀ i g' ys, J i g' ys → ys.length ≤ i)
    (turn : ∀ i v g' ys h' tk' C D I o oL (E : Value → Shared → Prop), vs[i]? = some v → Kp g g' → J i g' ys → Bd g' C [(x, v)] ((I, (· = o)) :: (D, lst ys) :: (L, (· = oL)) :: M) h' →
      LcT (model prog w) A (compEnvC scope cl C env) elt ifs (LcE gs dr os g' C I D L o oL ys M (J (i + 1))) ys E ⟨h', gs, dr, tk', os⟩)
    (done : ∀ g' ys D h' tk', Kp g g' → J vs.length g' ys → (∀ l', UseR D use l l' → Bd g' L l' ((D, lst ys) :: M) h') → UseQ use Q D ⟨h', gs, dr, tk', os⟩) :
    wpAny (model prog w) A (pyIter (.ref a)) (LcK (model prog w) A E env (.ListComp elt [⟨.Name x px, iter, ifs, 0⟩] scope pos) scope cl use Q) E ⟨h, gs, dr, tk, os⟩ := by
  have hl' := b.hp.lst hl
  refine wpAny_pyIter_list hl'.list ?_
  obtain ⟨oa, ha, _⟩ := id hl'
  have hne : a ≠ h.objs.size := Nat.ne_of_lt (Heap.lt_size ha)
  refine lcBlock (Walks.list hh _ a hne vs.toArray) (by simpa using hz) (Po := fun _ => True) (fun i h st => let ⟨o, e, _⟩ := st.1; ⟨o, e, trivial⟩) (fun i h₁ h₂ o g' st e1 e2 k H => ⟨st.1.at fun o' e => by rw [e1] at e; cases e; exact e2, (H.lst hl).list⟩)
    hcell hkind hL hu b (Kp.push _ _) (fresh_size h) ⟨⟨_, Heap.get?_push_size _ rfl, rfl, rfl⟩, hl'.list.push _⟩ J j0 jn (fun i v g' ys h' tk' C D o oL E hi hP _ kg j B => ?_) (fun g' ys D h' tk' kg j hb => done g' ys D h' tk' kg (by simpa using j) hb)
  exact asgNK (hx C) rfl B fun h'' tk'' hb => turn i v g' ys h'' tk'' C D _ o oL E (by simpa using hP) kg j (hb _ .nil)
/-- a turn without a test, and with one -/
theorem LcT.bare {M : Model} {EndY : List Value → Shared → Prop} {ys : List Value} {s : Shared} (q : wpAny M A (eval elt env) (fun y s₄ => EndY (ys ++ [y]) s₄) E s) : LcT M A env elt [] EndY ys E s := by
  unfold LcT lcTests; dsimp only; rw [if_pos rfl]; exact q
theorem LcT.test {M : Model} {c : Expr} {EndY : List Value → Shared → Prop} {ys : List Value} {s : Shared} (q : wpAny M A (isTrue c env (eval c env)) (fun ok s₃ => if ok = true then wpAny M A (eval elt env) (fun y s₄ => EndY (ys ++ [y]) s₄) E s₃ else EndY ys s₃) E s) : LcT M A env elt [c] EndY ys E s := q
end
end Mine

open PySem PySem.W PyProof.Rows
set_option Elab.async false
set_option maxRecDepth 100000
namespace Mine
section
variable {prog : Program} {w : World} {A : Around} {E : Value → Shared → Prop} {env : Env} {g h : Heap} {L : Addr} {l : List (Str × Value)} {M M' : List (Addr × (Obj → Prop))}
  {gs : Array GenState} {dr : Drawn} {tk : Nat} {os : OsState} {x y : Str} {pos : Pos} {v : Value} {c a : Addr} {t u : Tok} {vs : List Value} {K : Frag} {mb : Str → Option Value}
/-! ## what the frozen part alone tells -/
theorem mPeek {self f : Value} {fs : List Value} {name : Str} {pl} {Q : Value × List Value → Shared → Prop} (W : Wld K mb g) (k : Kp g h) (e : ∀ S, peek K S (getMethod self name pl) = some (f, fs)) (q : Q (f, fs) ⟨h, gs, dr, tk, os⟩) :
    wpAny (model prog w) A (getMethod self name pl) Q E ⟨h, gs, dr, tk, os⟩ := (Looks.of_peek (W.kin.keeps k) (e _)).here q
theorem call_peek {i : String} {b : Builtin} {vs : List Value} {r : Value} {Q : Value → Shared → Prop} (hp : plainId i = true) (he : entryFor table i = some b) (W : Wld K mb g) (k : Kp g h)
    (hc : ∀ S, peek K S (checkBuiltinCall i ⟨vs, []⟩) = some ()) (e : ∀ S, peek K S (b ⟨vs, []⟩) = some (.done (.ret r))) (q : Q r ⟨h, gs, dr, tk, os⟩) : wpAny (model prog w) A (call (.builtin i) vs []) Q E ⟨h, gs, dr, tk, os⟩ := by
  refine wpAny_call (codeAny_call_builtin hp he ((Looks.of_peek (W.kin.keeps k) (hc _)).here ?_))
  exact (Looks.of_peek (W.kin.keeps k) (e _)).here q
/-! ## own instances -/
structure Tab (g : Heap) (C T H : Addr) : Prop where
  is : ∃ dx hs tk n, g.get? T = some (instObj C dx) ∧ g.get? dx = some (dictOf [⟨hs, .str (Str.ofString "_headers") tk, .ref H⟩] n)
theorem Tab.up {g g' : Heap} {C T H : Addr} (x : Tab g C T H) (k : Kp g g') : Tab g' C T H := let ⟨dx, hs, tk, n, a, b⟩ := x.is; ⟨dx, hs, tk, n, k _ _ a, k _ _ b⟩
variable {C T H : Addr}
theorem mInst {name : Str} {pl} {f : Addr} {Q : Value × List Value → Shared → Prop} (W : Wld K mb g) (k : Kp g h) (t : Tab g C T H) (hg : plainGet K C name = true)
    (hf : findIn K (.ref C) name = some (some (.ref f))) (ht : isFn K (.ref f) = true) (hn : (name == Str.ofString "_headers") = false) (q : Q (.ref f, [.ref T]) ⟨h, gs, dr, tk, os⟩) : wpAny (model prog w) A (getMethod (.ref T) name pl) Q E ⟨h, gs, dr, tk, os⟩ := by
  obtain ⟨dx, hs, tk', n, e1, e2⟩ := t.is
  refine method_fn (od := some (dictOf [⟨hs, .str (Str.ofString "_headers") tk', .ref H⟩] n)) (W.kin.keeps k) ⟨k _ _ e1, rfl, rfl, k _ _ e2⟩ (plainGet_of hg).1 (plainGet_of hg).2 hf (beq_iff_eq.mp ht) ?_ q
  show (lookIn name (dictOf _ n)).map _ = _
  rw [lookIn_dict]
  have e : ((Str.ofString "_headers") == name) = false := by rw [beq_eq_false_iff_ne] at hn ⊢; exact fun q => hn q.symm
  simp [getL, Value.isStr, e, DictEntry.refKey]

theorem gAttr {expr : Bool} {attr : Option Value} {Q : Value → Shared → Prop} (W : Wld K mb g) (k : Kp g h) (t : Tab g C T H) (hg : plainGet K C (Str.ofString "_headers") = true) (hh : hasDictIn K C = true)
    (ha : findIn K (.ref C) (Str.ofString "_headers") = some attr) (hn : noGet K attr = true) (q : ∀ tk', Q (.ref H) ⟨h, gs, dr, tk', os⟩) : wpAny (model prog w) A (getAttr (.ref T) (Str.ofString "_headers") expr) Q E ⟨h, gs, dr, tk, os⟩ := by
  obtain ⟨dx, hs, tk', n, e1, e2⟩ := t.is
  refine get_value (od := some (dictOf [⟨hs, .str (Str.ofString "_headers") tk', .ref H⟩] n)) (v := .ref H) (W.kin.keeps k) ⟨k _ _ e1, rfl, rfl, k _ _ e2⟩ (plainGet_of hg).1 (findObj_own hh ha hn ?_) rfl (q _)
  rw [lookIn_dict]
  rfl
theorem xAttrN {n attr : Str} {np : Pos} {Q : Value → Shared → Prop} {s : Shared} (q : wpAny (model prog w) A (eval (.Name n np) env) (fun o s₁ => wpAny (model prog w) A (getAttr o attr true) Q E s₁) E s) :
    wpAny (model prog w) A (eval (.Attribute (.Name n np) attr pos) env) Q E s := Attribute_name q
theorem oSetA {name : Str} {dx : Addr} {od : Obj} {Q : Unit → Shared → Prop} (W : Wld K mb g) (k : Kp g h) (e1 : h.get? T = some (instObj C dx)) (e2 : h.get? dx = some od)
    (hs : findIn K (.ref C) "__setattr__" = some (some (.builtin "object.__setattr__"))) (hp : plainOver K C = true) (ht : takerIn K C name = some none) (hh : (clsIn K C).any (·.hasDict) = true)
    (hl : (lookIn name od).isSome = true) (e' : ∀ tk, ∃ es n, (Obj.putName name (PyData.keyHash w.params name) (.str name tk) v od).data = .dict (List.toArray es) n ∧ es.length ≤ 1000) (hf : ∀ tk, (Obj.putName name (PyData.keyHash w.params name) (.str name tk) v od).isFreed = false)
    (q : ∀ h' tk' tk'', Heap.ExtBut dx h h' → h'.get? dx = some (Obj.putName name (PyData.keyHash w.params name) (.str name tk'') v od) → Q () ⟨h', gs, dr, tk', os⟩) : wpAny (model prog w) A (setAttr (.ref T) name v) Q E ⟨h, gs, dr, tk, os⟩ := by
  have X := W.kin.keeps k
  have I : InstAt h T (instObj C dx) C (some od) := ⟨e1, rfl, rfl, e2⟩
  refine set_plain X I hs ?_
  refine osa_open (s := ⟨h, gs, dr, tk + 1, os⟩) X I hp ht fun b => ?_
  obtain ⟨cd, hc, hd'⟩ := any_some hh
  have D := e2
  obtain ⟨es, n, e', hz⟩ := e' (tk + 1)
  have D' : (h.update dx (Obj.putName name (PyData.keyHash w.params name) (.str name (tk + 1)) v)).get? dx = some (Obj.putName name (PyData.keyHash w.params name) (.str name (tk + 1)) v od) := Heap.get?_update_self _ D (hf _)
  refine wpAny_bind (wpAny_pure (wpAny_bind (wpAny_bind (wpAny_loadPart e1 (wpAny_bind ((looks_clsIn X hc).here ?_))))))
  rw [hd']
  refine wpAny_pure (a := some dx) (wpAny_bind (wpAny_pure (wpAny_bind ?_)))
  unfold nsSet
  refine wpAny_bind (wpAny_bind (wpAny_askSetting (wpAny_pure (wpAny_bind (wpAny_mkText (wpAny_bind (wpAny_loadPart D ?_)))))))
  unfold lookIn at hl
  split at hl
  · rename_i es₀ n₀ qd
    rw [qd]
    dsimp only
    have c : (!es₀.any (·.key.isStr name) && es₀.any (·.refKey)) = false := by
      rw [← Array.any_toList, ← Array.any_toList]
      split at hl
      · rename_i en he
        rw [List.any_eq_true.mpr ⟨en, List.mem_of_find?_eq_some he, List.find?_some he⟩]; rfl
      · split at hl
        · cases hl
        · rename_i z; rw [Bool.not_eq_true] at z; rw [z, Bool.and_false]
    rw [aRefKeyMayBeTheName_at, c]
    refine wpAny_updatePart D ?_
    refine wpAny_bind (wpAny_lookBehind D' (by rw [e']; exact pastItsLine_dict (by rw [List.size_toArray, sizeLine_eq]; omega)) ?_)
    exact wpAny_pure (q _ _ _ (Heap.SameBut.update _ _ _).extBut D')
  · cases hl
theorem sSetA {o attr pos' value} {Q : Flow → Shared → Prop} {s : Shared} (hs : swapsWith value (some (.Attribute o attr pos')) pos.line env = pure false)
    (q : wpAny (model prog w) A (eval value env) (fun v s₁ => wpAny (model prog w) A (eval o env) (fun ov s₂ => wpAny (model prog w) A (setAttr ov attr v) (fun _ => Q .next) E s₂) E s₁) E s) :
    wpAny (model prog w) A (exec (.Assign [.Attribute o attr pos'] value pos) env) Q E s := plainObj_wpAny_Assign_Attribute q hs
theorem sSetI {o i pos' value} {Q : Flow → Shared → Prop} {s : Shared} (hs : swapsWith value (some (.Subscript o i pos')) pos.line env = pure false)
    (q : wpAny (model prog w) A (eval value env) (fun v s₁ => wpAny (model prog w) A (eval o env) (fun ov s₂ => wpAny (model prog w) A (eval i env) (fun iv s₃ => wpAny (model prog w) A (setItem ov iv v) (fun _ => Q .next) E s₃) E s₂) E s₁) E s) :
    wpAny (model prog w) A (exec (.Assign [.Subscript o i pos'] value pos) env) Q E s := wpAny_Assign_Subscript q hs
theorem Tab.inst {h : Heap} (t : Tab h C T H) : ∃ dx od, InstAt h T (instObj C dx) C (some od) := let ⟨_, _, _, _, e1, e2⟩ := t.is; ⟨_, _, e1, rfl, rfl, e2⟩
/-- a new instance, by its __init__ -/
theorem oMake {fI : Addr} {rest : List Value} {kw : List (Str × Value)} {P : Value → Heap → Prop} {Q : Value → Shared → Prop} (W : Wld K mb g) (k : Kp g h) (hm : makesIn K C = true)
    (hi : findIn K (.ref C) "__init__" = some (some (.ref fI))) (hf : typeIn K (.ref fI) = some (.type "function"))
    (ci : ∀ x dx h', Kp h h' → h.get? x = none → h.get? dx = none → h'.get? x = some (instObj C dx) → h'.get? dx = some emptyDict → dx ≠ x →
      codeAny (model prog w) (A.under (.builtin "type.__call__" ⟨.ref C :: rest, kw⟩)) (.call (.ref fI) ⟨.ref x :: rest, kw⟩) (Rt gs dr os fun v h'' => v = .none ∧ P (.ref x) h'') ⟨h', gs, dr, tk, os⟩)
    (q : ∀ v h' tk', P v h' → Q v ⟨h', gs, dr, tk', os⟩) : wpAny (model prog w) A (call (.ref C) rest kw) Q E ⟨h, gs, dr, tk, os⟩ := by
  have X := W.kin.keeps k
  refine wpAny_call ?_
  refine make_core (makes_of X hm) (looks_findIn X hi) (fun self => bind_fn X self hf) (.inl rfl) ?_
  have hx : ((h.push emptyDict).push (instObj C h.objs.size)).get? (h.objs.size + 1) = some (instObj C h.objs.size) := by heap_get
  have hdx : ((h.push emptyDict).push (instObj C h.objs.size)).get? h.objs.size = some emptyDict := by heap_get
  refine codeAny_mono (ci _ h.objs.size _ (fun b o e => Heap.get?_push_of_some _ (Heap.get?_push_of_some _ e)) ?_ (fresh_size h) hx hdx (Nat.ne_of_lt (Nat.lt_succ_self _))) fun r s' hr => ?_
  · cases e : h.get? (h.objs.size + 1) with
    | none => rfl
    | some o => exact absurd (Heap.lt_size e) (Nat.not_lt.mpr (Nat.le_succ _))
  · obtain ⟨v, rfl, h', tk', rfl, rfl, p⟩ := hr
    exact ⟨rfl, q _ _ _ p⟩
/-- a method's call with one keyword -/
def MQk (M : Model) (A : Around) (env : Env) (pos : Pos) (args : List Expr) (kws : List Keyword) (Q : Value → Shared → Prop) (E : Value → Shared → Prop) (fx : Value × List Value) (s : Shared) : Prop := wpAny M A (callWith pos fx.1 fx.2 (backTo pos (starEach args env)) (backToKw pos (keywordEach kws env))) Q E s
theorem rMethK {o : Expr} {name : Str} {apos : Pos} {args : List Expr} {kws : List Keyword} {pl : Sem Bool} {Q : Value → Shared → Prop} {s : Shared}
    (he : eval (.Call (.Attribute o name apos) args kws pos) env = (do
      let ov ← eval o env
      standAt apos.atName
      let (f, first) ← holding [ov] (getMethod ov name pl)
      callWith pos f first (backTo pos (starEach args env)) (backToKw pos (keywordEach kws env))))
    (q : wpAny (model prog w) A (eval o env) (fun ov s₁ => wpAny (model prog w) A (getMethod ov name pl) (MQk (model prog w) A env pos args kws Q E) E s₁) E s) :
    wpAny (model prog w) A (eval (.Call (.Attribute o name apos) args kws pos) env) Q E s := methodCall_KW q he
theorem mqFk {f : Addr} {ov : Value} {args : List Expr} {kn : Str} {e : Expr} {kp : Pos} {Q : Value → Shared → Prop} {s : Shared} (W : Wld K mb g) (hf : fnIn K f = true) (hn : (starEach args env).any (·.1) = false)
    (q : wpAny (model prog w) A (spliced (starEach args env)) (fun vs s₁ => wpAny (model prog w) A (eval e env) (fun v s₂ => Kp g s₂.heap ∧ wpAny (model prog w) A (call (.ref f) (ov :: vs) [(kn, v)]) Q E s₂) E s₁) E s) : MQk (model prog w) A env pos args [⟨some kn, e, kp⟩] Q E (.ref f, [ov]) s :=
  cwk hn (keepFn hf) (wpAny_mono q (fun vs s₁ h₁ => wpAny_mono h₁ (fun v s₂ h₂ => ⟨W.kin.keeps h₂.1, h₂.2⟩) fun _ _ e => e) fun _ _ e => e)
theorem ttDebug {px : Pos} {Q : Bool → Shared → Prop} {s : Shared} (he : isTrue (.Name "__debug__" px) env (eval (.Name "__debug__" px) env) = (do let v ← eval (.Name "__debug__" px) env; standAt px; holding [v] (truthy v))) (q : Q true s) : wpAny (model prog w) A (isTrue (.Name "__debug__" px) env (eval (.Name "__debug__" px) env)) Q E s := by
  refine isTrue_plain ?_ he
  rw [arm_eval_Name]
  refine wpAny_bind (wpAny_standAt ?_)
  show wpAny _ _ debugConstant _ _ _
  exact wpAny_bind (wpAny_rule (wpAny_pure (wpAny_truthy_bool q)))
def ExQ (Q : Flow → Shared → Prop) (v : Value) (s' : Shared) : Prop := match v with | .ref _ => False | _ => Q .next s'
theorem exN {Q : Flow → Shared → Prop} {s : Shared} (q : Q .next s) : ExQ Q .none s := q
theorem sExp {Q : Flow → Shared → Prop} {e : Expr} {s : Shared} (hi : interactive env = false) (hs : swapsWith e none pos.line env = pure false) (q : wpAny (model prog w) A (eval e env) (ExQ Q) E s) : wpAny (model prog w) A (exec (.Expr e pos) env) Q E s :=
  wpAny_Expr q hi hs

/-! ## lists of texts -/
theorem SS.len : ∀ {vs : List Value} {ys : List Str}, StrsAre vs ys → vs.length = ys.length
  | _, _, .nil => rfl
  | _, _, .cons _ _ h => by simp [SS.len h]
theorem SS.at' : ∀ {vs : List Value} {ys : List Str}, StrsAre vs ys → ∀ {i : Nat} {y}, ys[i]? = some y → ∃ t, vs[i]? = some (.str y t)
  | _, _, .nil, _, _, e => by simp at e
  | _, _, .cons y t h, 0, _, e => by simp at e; subst e; exact ⟨t, rfl⟩
  | _, _, .cons y t h, i + 1, _, e => by simp at e ⊢; exact SS.at' h e
theorem SS.append : ∀ {vs : List Value} {ys : List Str} {us zs}, StrsAre vs ys → StrsAre us zs → StrsAre (vs ++ us) (ys ++ zs)
  | _, _, _, _, .nil, h => h
  | _, _, _, _, .cons y t h, h' => .cons y t (SS.append h h')
theorem SS.snoc {vs : List Value} {ys : List Str} {y : Str} {t : Tok} (h : StrsAre vs ys) : StrsAre (vs ++ [.str y t]) (ys ++ [y]) := SS.append h (.cons _ _ .nil)
theorem SS.take : ∀ {vs : List Value} {ys : List Str}, StrsAre vs ys → ∀ n, StrsAre (vs.take n) (ys.take n)
  | _, _, .nil, n => by simp; exact .nil
  | _, _, .cons y t h, 0 => .nil
  | _, _, .cons y t h, n + 1 => .cons y t (SS.take h n)
theorem SS.drop : ∀ {vs : List Value} {ys : List Str}, StrsAre vs ys → ∀ n, StrsAre (vs.drop n) (ys.drop n)
  | _, _, .nil, n => by simp; exact .nil
  | _, _, .cons y t h, 0 => .cons y t h
  | _, _, .cons y t h, n + 1 => by simp; exact SS.drop h n
theorem SS.rev : ∀ {vs : List Value} {ys : List Str}, StrsAre vs ys → StrsAre vs.reverse ys.reverse
  | _, _, .nil => .nil
  | _, _, .cons y t h => by simp; exact SS.snoc (SS.rev h)
theorem SS.vals : ∀ {vs : List Value} {ys : List Str}, StrsAre vs ys → ∃ l : List (Str × Tok), vs = strValues l ∧ l.map (·.1) = ys
  | _, _, .nil => ⟨[], rfl, rfl⟩
  | _, _, .cons y t h => let ⟨l, a, b⟩ := SS.vals h; ⟨(y, t) :: l, by rw [a]; rfl, by rw [List.map_cons, b]⟩
theorem oJoin {D : Addr} {ys : List Str} {Q : Value → Shared → Prop} (hl : IsL h D vs) (hs : StrsAre vs ys) (hok : JoinOk x ys = true) (q : ∀ u tk', Q (.str (Txt.join x ys) u) ⟨h, gs, dr, tk', os⟩) :
    wpAny (model prog w) A (call (.builtin "str.join") [.str x t, .ref D] []) Q E ⟨h, gs, dr, tk, os⟩ := by
  obtain ⟨l, rfl, e⟩ := SS.vals hs
  exact SC.join hl.list e hok fun t' k => q t' k
theorem oAddL {b : Addr} {us : List Value} {Q : Value → Shared → Prop} (hl : IsL h a vs) (hl' : IsL h b us) (hz : vs.length + us.length ≤ 1000000) (q : ∀ D h', Kp h h' → h.get? D = none → IsL h' D (vs ++ us) → Q (.ref D) ⟨h', gs, dr, tk, os⟩) :
    wpAny (model prog w) A (binaryOp .Add (.ref a) (.ref b)) Q E ⟨h, gs, dr, tk, os⟩ := by
  obtain ⟨n, e⟩ := hl.plain
  obtain ⟨n', e'⟩ := hl'.plain
  refine P.add_list e e' (q _ _ (Kp.push _ _) (fresh_size h) (IsL.of ⟨0, ?_⟩)) (by rw [List.size_toArray, List.size_toArray]; exact sz_line hz)
  rw [← List.append_toArray]
  exact Heap.get?_push_size _ rfl

/-! ## own types -/
theorem oTypeS {Q : Value → Shared → Prop} (q : Q (.type "str") ⟨h, gs, dr, tk, os⟩) : wpAny (model prog w) A (call (.type "type") [.str x t] []) Q E ⟨h, gs, dr, tk, os⟩ := call_type_of (typeIs_str _ _ _) (by decide) q
theorem oTypeL {Q : Value → Shared → Prop} (hl : IsL h a vs) (q : Q (.type "list") ⟨h, gs, dr, tk, os⟩) : wpAny (model prog w) A (call (.type "type") [.ref a] []) Q E ⟨h, gs, dr, tk, os⟩ := call_type_of (show Shared.TypeIs ⟨h, gs, dr, tk, os⟩ (.ref a) "list" from hl.list.typeIs) (by decide) q
theorem oIsT {X : String} {Q : Value → Shared → Prop} {s : Shared} (q : Q (.bool true) s) : wpAny (model prog w) A (compareOp .Is (.type X) (.type X)) Q E s := by
  have e : (Value.type X == Value.type X) = true := by simp
  exact wpAny_pure (a := Value.bool (Value.type X == Value.type X)) (by rw [e]; exact q)
theorem oNotT {X : String} {Q : Value → Shared → Prop} {s : Shared} (q : Q (.bool false) s) : wpAny (model prog w) A (compareOp .IsNot (.type X) (.type X)) Q E s := isnot_type_same q
theorem oInt {n : Int} {Q : Value → Shared → Prop} (hn : PySem.intText? x = some n) (hl : x.length ≤ 640) (q : ∀ u tk', Q (.int n u) ⟨h, gs, dr, tk', os⟩) : wpAny (model prog w) A (call (.type "int") [.str x t] []) Q E ⟨h, gs, dr, tk, os⟩ := KIN.call_text hn hl (q _ _)
theorem oStrI {n : Int} {Q : Value → Shared → Prop} (ha : n.natAbs.log2 < 1920) (q : ∀ u tk', Q (.str (Str.ofString (toString n)) u) ⟨h, gs, dr, tk', os⟩) : wpAny (model prog w) A (call (.type "str") [.int n t] []) Q E ⟨h, gs, dr, tk, os⟩ := P.str_of_int ha (q _ _)
theorem oLow {Q : Value → Shared → Prop} (hz : x.length ≤ 1000) (q : ∀ u tk', Q (.str (Txt.lower x) u) ⟨h, gs, dr, tk', os⟩) : wpAny (model prog w) A (call (.builtin "str.lower") [.str x t] []) Q E ⟨h, gs, dr, tk, os⟩ := by
  refine call_gives F.slot_str_lower (typeIs_str _ _ _) F.entry_str_lower (F.args_str_lower_1 _) (gives_str_lower x t (fit_lower (by omega))) ?_
  exact ⟨fit_le (fit_lower (by omega)), q _ _⟩
theorem ttN {Q : Bool → Shared → Prop} {s : Shared} (q : Q false s) : wpAny (model prog w) A (truthy .none) Q E s := PyProof.Rows.truthy_none q

/-! ## all of a list at once -/
theorem lst_map {c : Value} {xs : Array Value} {n : Nat} {sl : Array (Option Value)} (f : Array Value → Array Value) (hf : f xs = us.toArray) (hc : c = .type "list" := by rfl) (hs : sl = #[] := by rfl) : lst us (Obj.mapSeq f { cls := c, dict := none, data := .seq xs n, slots := sl }) := by
  subst hc hs
  unfold Obj.mapSeq lst
  dsimp only
  rw [hf]
  exact ⟨_, rfl⟩
end
end Mine

open PySem PySem.W PyProof.Rows
set_option Elab.async false
set_option maxRecDepth 100000
namespace Mine
theorem pat_plain : PlainAttrs "re.Pattern" :=
  ⟨⟨"object.__getattribute__", by rw [typeLookup_type, builtinLookup_eq_fast]; kernel_rfl, by decide +kernel⟩, by rw [typeLookup_type, builtinLookup_eq_fast]; kernel_rfl⟩
theorem pat_slot : Slot "re.Pattern" "search" "re.Pattern.search" :=
  .of (owner := "re.Pattern") (n := "search") (by rw [typeLookup_type, builtinLookup_eq_fast]; kernel_rfl) (by decide +kernel) (by decide +kernel) (by decide +kernel)
    (by first | exact .inl (by decide +kernel) | exact .inr (by decide +kernel)) (by rw [isSubtype_type]; kernel_rfl)
theorem pat_type : typeOf (.builtin "re.Pattern.search") = pure (.type "method_descriptor") := by show builtinType _ = _; rw [builtinType_eq_fast]; kernel_rfl
theorem pat_entry : entryFor table "re.Pattern.search" = some Builtin.«re.Pattern.search» := entryFor_of_tree (by kernel_rfl)
theorem pat_args (a b : Value) : argsOk "re.Pattern.search" ⟨[a, b], []⟩ := by
  unfold argsOk
  kernel_rfl
section
variable {prog : Program} {w : World} {A : Around} {E : Value → Shared → Prop} {g h : Heap} {gs : Array GenState} {dr : Drawn} {tk : Nat} {os : OsState} {x : Str} {a : Addr} {t : Tok} {K : Frag} {mb : Str → Option Value}
def patIn (K : Frag) (a : Addr) : Bool := match K.lookup a with
  | some ⟨.type T, none, _, _⟩ => T == "re.Pattern"
  | _ => false
theorem patIn_ok (X : K.In h) (e : patIn K a = true) : ∃ o, h.get? a = some o ∧ o.cls = .type "re.Pattern" ∧ o.dict = none := by
  unfold patIn at e
  split at e
  · rename_i T d sl q
    exact ⟨_, X _ _ q, by rw [beq_iff_eq.mp e], rfl⟩
  · cases e
theorem mSearch {pl} {Q : Value × List Value → Shared → Prop} (W : Wld K mb g) (k : Kp g h) (e : patIn K a = true) (q : Q (.builtin "re.Pattern.search", [.ref a]) ⟨h, gs, dr, tk, os⟩) :
    wpAny (model prog w) A (getMethod (.ref a) "search" pl) Q E ⟨h, gs, dr, tk, os⟩ := by
  obtain ⟨o, ho, hc, hd⟩ := patIn_ok (W.kin.keeps k) e
  exact getMethod_builtin ⟨o, ho, hc⟩ pat_plain pat_slot pat_type (fun b q => by cases q; exact ⟨o, ho, hd⟩) q
/-- the search finds nothing -/
def ReNo (K : Frag) (a : Addr) (x : Str) : Prop := ∀ t S, peek K S (Builtin.«re.Pattern.search» ⟨[.ref a, .str x t], []⟩) = some (.done (.ret .none))
theorem oSearch {Q : Value → Shared → Prop} (W : Wld K mb g) (k : Kp g h) (e : patIn K a = true) (hr : ReNo K a x) (q : Q .none ⟨h, gs, dr, tk, os⟩) : wpAny (model prog w) A (call (.builtin "re.Pattern.search") [.ref a, .str x t] []) Q E ⟨h, gs, dr, tk, os⟩ := by
  obtain ⟨o, ho, hc, hd⟩ := patIn_ok (W.kin.keeps k) e
  exact wpAny_call_entry pat_slot ⟨o, ho, hc⟩ pat_entry ((Looks.of_peek (W.kin.keeps k) (hr t _)).here ⟨_, rfl, q⟩) (pat_args _ _)
end
end Mine

open PySem PySem.W PyProof.Rows
set_option Elab.async false
set_option maxRecDepth 100000
namespace Mine
/-- a list of pairs of texts -/
inductive Prs (g : Heap) : List Value → List (Str × Str) → Prop
  | nil : Prs g [] []
  | cons {T : Addr} {k v : Str} {t u : Tok} {vs es} : IsT g T [.str k t, .str v u] → Prs g vs es → Prs g (.ref T :: vs) ((k, v) :: es)
namespace Prs
variable {g g' : Heap} {vs us : List Value} {es fs : List (Str × Str)}
theorem up (k : Kp g g') (x : Prs g vs es) : Prs g' vs es := by
  induction x with
  | nil => exact .nil
  | cons a _ ih => exact .cons (k _ _ a) ih
theorem len (x : Prs g vs es) : vs.length = es.length := by
  induction x with
  | nil => rfl
  | cons _ _ ih => simp [ih]
theorem at_ (x : Prs g vs es) : ∀ {i : Nat} {v}, vs[i]? = some v → ∃ T k t w u, v = .ref T ∧ es[i]? = some (k, w) ∧ IsT g T [.str k t, .str w u] := by
  induction x with
  | nil => intro i v e; simp at e
  | @cons T k w t u vs es a _ ih =>
    intro i v e
    cases i with
    | zero => simp at e; exact ⟨T, k, t, w, u, e.symm, rfl, a⟩
    | succ i => rw [List.getElem?_cons_succ] at e; exact ih e
theorem pair (x : Prs g vs es) (i : Nat) (v : Value) (e : vs[i]? = some v) : ∃ T v1 v2, v = Value.ref T ∧ IsT g T [v1, v2] := let ⟨T, _, _, _, _, e1, _, a⟩ := x.at_ e; ⟨T, _, _, e1, a⟩
theorem append (x : Prs g vs es) (y : Prs g us fs) : Prs g (vs ++ us) (es ++ fs) := by
  induction x with
  | nil => exact y
  | cons a _ ih => exact .cons a ih
theorem snoc {T : Addr} {k v : Str} {t u : Tok} (x : Prs g vs es) (a : IsT g T [.str k t, .str v u]) : Prs g (vs ++ [.ref T]) (es ++ [(k, v)]) := x.append (.cons a .nil)
end Prs
section
variable {prog : Program} {w : World} {A : Around} {E : Value → Shared → Prop} {env : Env} {g h : Heap} {gs : Array GenState} {dr : Drawn} {tk : Nat} {os : OsState} {a : Addr} {vs : List Value} {k : Int} {u : Tok} {v : Value} {value slice : Expr}
theorem gIdxT {Q : Value → Shared → Prop} (hl : IsT h a vs) (h0 : 0 ≤ k) (h1 : k < 1000) (hx : vs[k.toNat]? = some v) (hs : subscripted slice false (.ref a) (.int k u) = operate [.ref a, .int k u] (getItem (.ref a) (.int k u)))
    (q : Q v ⟨h, gs, dr, tk, os⟩) : wpAny (model prog w) A (subscriptTail value slice (.ref a) (.int k u)) Q E ⟨h, gs, dr, tk, os⟩ := by
  refine tail_any (show Shared.TypeIs ⟨h, gs, dr, tk, os⟩ (.ref a) "tuple" from ⟨_, hl, rfl⟩) F.slot_tuple_getitem.lookup ?_ hs
  have hlt : k.toNat < vs.length := (List.getElem?_eq_some_iff.mp hx).1
  refine PyProof.Rows.getItem_tuple (IsT.tup hl) (by omega) (by omega) (j := k.toNat) ?_ (by simpa using hx) q
  obtain ⟨n, rfl⟩ := Int.eq_ofNat_of_zero_le h0
  have hn : ¬ ((n : Int) < 0) := by omega
  simp only [seqIndex?, List.size_toArray, hn, if_false]
  rw [if_pos (by simp; omega)]
theorem take_filter_succ {α : Type} (p : α → Bool) {l : List α} {i : Nat} {x : α} (h : l[i]? = some x) : (l.take (i + 1)).filter p = (l.take i).filter p ++ (if p x then [x] else []) := take_succ_filter p l i x h
theorem take_map_succ {α β : Type} (f : α → β) {l : List α} {i : Nat} {x : α} (h : l[i]? = some x) : (l.take (i + 1)).map f = (l.take i).map f ++ [f x] := by
  rw [List.take_add_one, h]; simp
end
theorem UseQ.val {Q : Value → Shared → Prop} {D : Addr} {s : Shared} (q : Q (.ref D) s) : UseQ none Q D s := q
theorem UseQ.put {Q : Value → Shared → Prop} {D : Addr} {s : Shared} {p} (q : Q .none s) : UseQ (some p) Q D s := q
theorem ist_inj {g : Heap} {T : Addr} {a b c d : Value} (x : IsT g T [a, b]) (y : IsT g T [c, d]) : a = c ∧ b = d := by
  have e := x.symm.trans y
  simpa using e
section
variable {prog : Program} {w : World} {A : Around} {E : Value → Shared → Prop} {env : Env} {g h : Heap} {L : Addr} {l : List (Str × Value)} {M : List (Addr × (Obj → Prop))}
  {gs : Array GenState} {dr : Drawn} {tk : Nat} {os : OsState} {x y : Str} {a : Addr} {vs : List Value}
theorem forWM {target : Expr} {body : List Stmt} {I : Addr} {fp wr : List Addr} {n : Nat} {P : Nat → Value → Prop} {St : Nat → Heap → Prop} {Q : Flow → Shared → Prop}
    (W : Walks prog w A I fp wr n P St) {Po : Obj → Prop} (hI : ∀ i h, St i h → ∃ o, h.get? I = some o ∧ Po o) (hwr : ∀ b ∈ wr, b = I) (J : Nat → Inv) (hSt : ∀ i h₁ h₂ o g' l' M', St i h₁ → h₁.get? I = some o → h₂.get? I = some o → Kp g g' → J i g' l' M' → Hp g' M' h₂ → St i h₂)
    {h₀ : Heap} (b : Bd g L l M h₀) (hk : Kp h₀ h) (hf : h₀.get? I = none) (hst : St 0 h) (j0 : J 0 g l M)
    (turn : ∀ i v g' l' M' h' tk' o, i < n → P i v → Po o → Kp g g' → J i g' l' M' → Bd g' L l' ((I, (· = o)) :: M') h' →
      wpAny (model prog w) A (letOwnedTupleGo target (.ref I) v) (fun _ s₁ => wpAny (model prog w) A (assign target env v) (fun _ s₂ => wpAny (model prog w) A (execs body env) (BEnd gs dr os L I o g' (J (i + 1)) Q) (fun _ _ => False) s₂) (fun _ _ => False) s₁) (fun _ _ => False) ⟨h', gs, dr, tk', os⟩)
    (done : ∀ g' l' M' h' tk', Kp g g' → J n g' l' M' → Bd g' L l' M' h' → Q .next ⟨h', gs, dr, tk', os⟩) :
    codeAny (model prog w) A (.forLoop target (.ref I) body [] env) (forR Q) ⟨h, gs, dr, tk, os⟩ := by
  obtain ⟨o₀, ho₀, _⟩ := hI _ _ hst
  refine codeAny_forLoop_any
    (fun k s' => ∃ i g' l' M' h' tk' o, s' = ⟨h', gs, dr, tk', os⟩ ∧ i ≤ n ∧ k = n + 1 - i ∧ Kp g g' ∧ J i g' l' M' ∧ Bd g' L l' ((I, (· = o)) :: M') h' ∧ St i h') ?_ (n + 1)
    ⟨0, g, l, M, h, tk, o₀, rfl, Nat.zero_le _, rfl, Kp.rf, j0, b.add hk hf ho₀ rfl, hst⟩
  rintro k s' ⟨i, g', l', M', h', tk', o, rfl, hi, rfl, kg, j, b', st⟩
  by_cases hlt : i < n
  · refine W.item i _ _ _ hlt st fun v h₁ tk₁ hP st₁ hk₁ => ?_
    obtain ⟨o₁, ho₁, po₁⟩ := hI _ _ st₁
    have b₁ : Bd g' L l' ((I, (· = o₁)) :: M') h₁ := b'.upd (fun c x hc e => hk₁ c x (fun q => hc (hwr c q)) e) ho₁ rfl
    refine wpAny_mono (turn i v g' l' M' h₁ tk₁ o₁ hlt hP po₁ kg j b₁) (fun _ s₁ h₁' => wpAny_mono h₁' (fun _ s₂ h₂ => wpAny_mono h₂ (fun f s₃ h₃ => ?_) fun _ _ e => e.elim) fun _ _ e => e.elim) fun _ _ e => e.elim
    have fin : BEnd gs dr os L I o₁ g' (J (i + 1)) Q .next s₃ → ∃ m, m < n + 1 - i ∧ ∃ i g' l' M' h' tk' o, s₃ = ⟨h', gs, dr, tk', os⟩ ∧ i ≤ n ∧ m = n + 1 - i ∧ Kp g g' ∧ J i g' l' M' ∧ Bd g' L l' ((I, (· = o)) :: M') h' ∧ St i h' := by
      rintro ⟨g'', l'', M'', h'', tk'', rfl, k'', b'', j''⟩
      refine ⟨n + 1 - (i + 1), by omega, i + 1, g'', l'', M'', h'', tk'', o₁, rfl, hlt, rfl, kg.tr k'', j'', b'', ?_⟩
      obtain ⟨⟨oI, eI, rfl⟩, _⟩ := b''.hp.mu _ (.head _)
      exact hSt _ _ _ _ _ _ _ st₁ ho₁ eI (kg.tr k'') j'' b''.tail.hp
    cases f with
    | next => exact fin h₃
    | cont => exact fin h₃
    | brk => exact h₃
    | ret v => exact h₃
  · have : i = n := by omega
    subst this
    refine W.done _ _ _ st fun h₁ tk₁ hk₁ => wpAny_execs_nil ?_
    refine done g' l' M' h₁ tk₁ kg j ?_
    have b₁ := b'.tail
    obtain ⟨m, x, y⟩ := b'.ns
    have eI : ∀ c x, c ≠ I → h'.get? c = some x → h₁.get? c = some x := fun c x hc e => hk₁ c x (fun q => hc (hwr c q)) e
    have nL : L ≠ I := fun q => b'.ne _ (.head _) q.symm
    have nd := b'.hp.nd
    rw [List.map_cons, List.nodup_cons] at nd
    refine ⟨⟨m, x.extBut eI nL, y⟩, b'.off, b₁.ne, fun c x e => eI c x (fun q => ?_) (b'.keep _ _ e), fun p hp => ?_, nd.2⟩
    · subst q; rw [(b'.hp.mu _ (.head _)).2] at e; cases e
    · obtain ⟨⟨o', e', z⟩, y⟩ := b₁.hp.mu p hp
      exact ⟨⟨o', eI _ _ (fun q => nd.1 (List.mem_map.mpr ⟨p, hp, q⟩)) e', z⟩, y⟩

theorem fListM2 {px py tpos : Pos} {kk : Nat} {body : List Stmt} {Q : Flow → Shared → Prop} (hh : A.handled = none) (b : Bd g L l M h) (hl : (a, lst vs) ∈ M) (hT : ∀ (i : Nat) (v : Value), vs[i]? = some v → ∃ T v1 v2, v = Value.ref T ∧ IsT g T [v1, v2])
    (hk : (env.scope.kind == .function && env.kindOf x == some .local) = true) (hk' : (env.scope.kind == .function && env.kindOf y == some .local) = true) (hL : env.locals = L) (J : Nat → Inv) (j0 : J 0 g l M) (jm : ∀ i g' l' M', J i g' l' M' → (a, lst vs) ∈ M')
    (turn : ∀ i T v1 v2 g' l' M' h' tk' I o, vs[i]? = some (.ref T) → IsT g T [v1, v2] → Kp g g' → J i g' l' M' → (∀ l1 l2, Sto x v1 l' l1 → Sto y v2 l1 l2 → Bd g' L l2 ((I, (· = o)) :: M') h') →
      wpAny (model prog w) A (execs body env) (BEnd gs dr os L I o g' (J (i + 1)) Q) (fun _ _ => False) ⟨h', gs, dr, tk', os⟩)
    (done : ∀ g' l' M' h' tk', Kp g g' → J vs.length g' l' M' → Bd g' L l' M' h' → Q .next ⟨h', gs, dr, tk', os⟩) :
    wpAny (model prog w) A (pyIter (.ref a)) (fun it s₂ => codeAny (model prog w) A (.forLoop (.Tuple [.Name x px, .Name y py] kk tpos) it body [] env) (forR Q) s₂) E ⟨h, gs, dr, tk, os⟩ := by
  have hl' := b.hp.lst hl
  refine wpAny_pyIter_list hl'.list ?_
  obtain ⟨oa, ha, _⟩ := id hl'
  have hne : a ≠ h.objs.size := Nat.ne_of_lt (Heap.lt_size ha)
  refine forWM (Walks.list hh _ a hne vs.toArray) (Po := fun o => o.cls = .type "list_iterator") (fun i h st => let ⟨o, e, c, _⟩ := st.1; ⟨o, e, c⟩) (fun c hc => List.mem_singleton.mp hc) (fun i g' l' M' => J i g' l' M')
    (fun i h₁ h₂ o g' l' M' st e1 e2 k j H => ⟨st.1.at fun o' e => by rw [e1] at e; cases e; exact e2, (H.lst (jm _ _ _ _ j)).list⟩) b (Kp.push _ _) (fresh_size h)
    ⟨⟨_, Heap.get?_push_size _ rfl, rfl, rfl⟩, hl'.list.push _⟩ j0 (fun i v g' l' M' h' tk' o hi hP po kg j b' => ?_) (fun g' l' M' h' tk' kg j b' => done g' l' M' h' tk' kg (by simpa using j) b')
  have hv : vs[i]? = some v := by simpa using hP
  obtain ⟨T, v1, v2, rfl, ht⟩ := hT i v hv
  exact asgPair hh po b' (kg _ _ ht) hk hk' hL fun h'' tk'' hb => turn i T v1 v2 g' l' M' h'' tk'' _ o hv ht kg j hb
end
theorem Hp.add2 {g h h' : Heap} {M : List (Addr × (Obj → Prop))} {a c : Addr} {o o' : Obj} {p q : Obj → Prop} (b : Hp g M h) (k : Kp h h') (ha : h.get? a = none) (hc : h.get? c = none) (hac : c ≠ a) (e : h'.get? a = some o) (e' : h'.get? c = some o') (hp : p o) (hq : q o') : Hp g ((a, p) :: (c, q) :: M) h' := by
  have b1 := b.add (p := q) k hc e' hq
  refine ⟨b1.keep, fun r hr => ?_, ?_⟩
  · rcases List.mem_cons.mp hr with rfl | hr
    · exact ⟨⟨o, e, hp⟩, b.keep.none ha⟩
    · exact b1.mu r hr
  · rw [List.map_cons, List.nodup_cons]
    refine ⟨fun z => ?_, b1.nd⟩
    obtain ⟨r, hr, e2⟩ := List.mem_map.mp z
    rcases List.mem_cons.mp hr with rfl | hr
    · exact hac e2
    · obtain ⟨⟨o2, e3, _⟩, _⟩ := b.mu r hr
      rw [e2, ha] at e3; cases e3
end Mine

open PySem PySem.W PyProof.Rows
set_option Elab.async false
set_option maxRecDepth 100000
namespace Mine
section
variable {prog : Program} {w : World} {A : Around} {E : Value → Shared → Prop} {env : Env} {g h : Heap} {L : Addr} {l : List (Str × Value)} {M : List (Addr × (Obj → Prop))}
  {gs : Array GenState} {dr : Drawn} {tk : Nat} {os : OsState} {x y : Str} {pos : Pos}
/-! ## two clauses -/
variable {elt iter i1 t1 : Expr} {scope : Scope} {cl : List (Str × Addr)} {use : Option (Str × Pos)} {Q : Value → Shared → Prop} {px : Pos} {a : Addr} {vs : List Value}
theorem rCallC {args : List Expr} {np : Pos} {n : Str} {c : Addr} {K : Frag} {mb : Str → Option Value} (W : Wld K mb g) (b : Bd g L l M h) (hv : nsIn K mainGlobals n = some (some (.ref c))) (hf : keepIn K (.ref c) = true)
    (hk : (env.scope.kind == .function && env.kindOf n == some .globalImplicit && !(n == ("__debug__" : Str))) = true) (hg : env.globals = mainGlobals) (hn : (starEach args env).any (·.1) = false)
    (q : wpAny (model prog w) A (spliced (starEach args env)) (fun vs s₁ => Kp g s₁.heap ∧ wpAny (model prog w) A (call (.ref c) vs []) Q E s₁) E ⟨h, gs, dr, tk, os⟩) :
    wpAny (model prog w) A (eval (.Call (.Name n np) args [] pos) env) Q E ⟨h, gs, dr, tk, os⟩ :=
  wpAny_Call_NameR (rGlo W b hv hk hg (cw hn (P := fun h => K.In h) (fun h X => keeps_K hf h X) (wpAny_mono q (fun vs s₁ h₁ => ⟨W.kin.keeps h₁.1, by simpa using h₁.2⟩) fun _ _ e => e)))
end
end Mine

open PySem PySem.W PyProof.Rows
set_option Elab.async false
namespace Mine
set_option maxRecDepth 100000 in
set_option maxHeartbeats 8000000 in
open_top hd for PySem.Challenge.rw_pg0293_01
end Mine

open PySem PySem.W PyProof.Rows
set_option Elab.async false
set_option maxRecDepth 100000
namespace Mine
noncomputable abbrev KK (w : World) : Frag := hd.heap_39 w.params
section
variable (w : World)
theorem g_Headers : nsIn (KK w) mainGlobals (Str.ofString "Headers") = some (some (.ref 207)) := by kernel_rfl!
theorem g_bisect_left : nsIn (KK w) mainGlobals (Str.ofString "bisect_left") = some (some (.ref 56)) := by kernel_rfl!
theorem g_bisect_right : nsIn (KK w) mainGlobals (Str.ofString "bisect_right") = some (some (.ref 47)) := by kernel_rfl!
theorem g_ellipsis_match : nsIn (KK w) mainGlobals (Str.ofString "_ellipsis_match") = some (some (.ref 63)) := by kernel_rfl!
theorem g_formatparam : nsIn (KK w) mainGlobals (Str.ofString "_formatparam") = some (some (.ref 86)) := by kernel_rfl!
theorem g_law_name : nsIn (KK w) mainGlobals (Str.ofString "_law_name") = some (some (.ref 218)) := by kernel_rfl!
theorem g_law_shared : nsIn (KK w) mainGlobals (Str.ofString "_law_shared") = some (some (.ref 225)) := by kernel_rfl!
theorem g_law_put : nsIn (KK w) mainGlobals (Str.ofString "_law_put") = some (some (.ref 232)) := by kernel_rfl!
theorem g_law_fits : nsIn (KK w) mainGlobals (Str.ofString "_law_fits") = some (some (.ref 239)) := by kernel_rfl!
theorem g_law_first_front : nsIn (KK w) mainGlobals (Str.ofString "_law_first_front") = some (some (.ref 246)) := by kernel_rfl!
theorem g_law_words_hold : nsIn (KK w) mainGlobals (Str.ofString "_law_words_hold") = some (some (.ref 253)) := by kernel_rfl!
theorem g_law_none_is_longer : nsIn (KK w) mainGlobals (Str.ofString "_law_none_is_longer") = some (some (.ref 260)) := by kernel_rfl!
theorem g_tspecials : nsIn (KK w) mainGlobals (Str.ofString "tspecials") = some (some (.ref 68)) := by kernel_rfl!
theorem g_name_disallowed_re : nsIn (KK w) mainGlobals (Str.ofString "_name_disallowed_re") = some (some (.ref 73)) := by kernel_rfl!
theorem g_value_disallowed_re : nsIn (KK w) mainGlobals (Str.ofString "_value_disallowed_re") = some (some (.ref 78)) := by kernel_rfl!
theorem g_ELL : nsIn (KK w) mainGlobals (Str.ofString "ELLIPSIS_MARKER") = some (some (.str (Str.ofString "...") 321)) := by kernel_rfl!
theorem n_len : nsIn (KK w) mainGlobals (Str.ofString "len") = some none := by kernel_rfl!
theorem n_range : nsIn (KK w) mainGlobals (Str.ofString "range") = some none := by kernel_rfl!
theorem n_str : nsIn (KK w) mainGlobals (Str.ofString "str") = some none := by kernel_rfl!
theorem n_int : nsIn (KK w) mainGlobals (Str.ofString "int") = some none := by kernel_rfl!
theorem n_type : nsIn (KK w) mainGlobals (Str.ofString "type") = some none := by kernel_rfl!
theorem n_list : nsIn (KK w) mainGlobals (Str.ofString "list") = some none := by kernel_rfl!
theorem n_max : nsIn (KK w) mainGlobals (Str.ofString "max") = some none := by kernel_rfl!
theorem n_min : nsIn (KK w) mainGlobals (Str.ofString "min") = some none := by kernel_rfl!
end
theorem b_len : bootBuiltins (Str.ofString "len") = some (.builtin "len") := by kernel_rfl!
theorem b_range : bootBuiltins (Str.ofString "range") = some (.type "range") := by kernel_rfl!
theorem b_str : bootBuiltins (Str.ofString "str") = some (.type "str") := by kernel_rfl!
theorem b_int : bootBuiltins (Str.ofString "int") = some (.type "int") := by kernel_rfl!
theorem b_type : bootBuiltins (Str.ofString "type") = some (.type "type") := by kernel_rfl!
theorem b_list : bootBuiltins (Str.ofString "list") = some (.type "list") := by kernel_rfl!
theorem b_max : bootBuiltins (Str.ofString "max") = some (.builtin "max") := by kernel_rfl!
theorem b_min : bootBuiltins (Str.ofString "min") = some (.builtin "min") := by kernel_rfl!
end Mine

open PySem PySem.W PyProof.Rows
set_option Elab.async false
set_option maxRecDepth 100000
namespace Mine
local macro_rules | `(tactic| walk_at "sub") => `(tactic| first | with_reducible exact List.Sublist.refl _ | ((with_reducible apply List.Sublist.cons_cons); walk_at "sub") | ((with_reducible apply List.Sublist.cons); walk_at "sub") | exact List.nil_sublist _)
local macro_rules | `(tactic| walk_at "has") => `(tactic| first | with_reducible exact Has.hd | ((with_reducible apply Has.tl); walk_at "has"))
local macro_rules | `(tactic| walk_at "sto") => `(tactic| first | with_reducible exact Sto.nil | with_reducible exact Sto.hit (by kernel_rfl!) | ((with_reducible apply Sto.miss); (case a => kernel_rfl!); walk_at "sto"))
local macro_rules | `(tactic| walk_at "mem") => `(tactic| first | with_reducible exact List.mem_cons_self | ((with_reducible refine List.mem_cons_of_mem _ ?_); walk_at "mem"))
local macro_rules | `(tactic| walk_at "mset") => `(tactic| first | with_reducible exact MSet.hd | ((with_reducible apply MSet.tl); walk_at "mset"))
local macro_rules | `(tactic| walk_at "glo") => `(tactic| first | (with_reducible first | exact g_ELL _ | exact g_bisect_left _ | exact g_bisect_right _ | exact g_ellipsis_match _ | exact g_name_disallowed_re _ | exact g_value_disallowed_re _ | exact g_Headers _ | exact g_law_name _) | walk_at "glow")
local macro_rules | `(tactic| walk_at "glb") => `(tactic| first | (with_reducible first | exact n_len _ | exact n_range _ | exact n_str _ | exact n_int _ | exact n_type _ | exact n_list _ | exact n_max _ | exact n_min _))
local macro_rules | `(tactic| walk_at "bui") => `(tactic| first | (with_reducible first | exact b_len | exact b_range | exact b_str | exact b_int | exact b_type | exact b_list | exact b_max | exact b_min))
local macro_rules | `(tactic| walk_at "st") => `(tactic| first | with_reducible refine sIf ?_ | walk_at "st0")
local macro_rules | `(tactic| walk_at "st0") => `(tactic| first
  | (with_reducible first | refine sCons ?_ | refine nxN ?_ | refine nxR ?_ | refine sNil ?_ | refine cutN ?_ | refine cutR ?_)
  | ((with_reducible refine' rLoc (by assumption) ?k1 ?k2 ?k3 ?_); (case k1 => walk_at "has"); (case k2 => kernel_rfl!); (case k3 => rfl))
  | ((with_reducible refine' rGlo (by assumption) (by assumption) ?k1 ?k2 ?k3 ?_); (case k1 => walk_at "glo"); (case k2 => kernel_rfl!); (case k3 => rfl))
  | ((with_reducible refine' rCallG (by assumption) (by assumption) ?k1 ?k2 ?k3 ?k4 ?k5 ?_); (case k1 => walk_at "glo"); (case k2 => kernel_rfl!); (case k3 => kernel_rfl!); (case k4 => rfl); (case k5 => kernel_rfl!))
  | ((with_reducible refine' rCallGk (by assumption) (by assumption) ?k1 ?k2 ?k3 ?k4 ?k5 ?_); (case k1 => walk_at "glo"); (case k2 => kernel_rfl!); (case k3 => kernel_rfl!); (case k4 => rfl); (case k5 => kernel_rfl!))
  | ((with_reducible refine' rCallB (by assumption) (by assumption) ?k1 ?k2 ?k3 ?k4 ?k5 ?k6 ?k7 ?_); (case k1 => walk_at "glb"); (case k2 => walk_at "bui"); (case k3 => rfl); (case k4 => kernel_rfl!); (case k5 => rfl); (case k6 => rfl); (case k7 => kernel_rfl!))
  | ((with_reducible refine' rBui (by assumption) (by assumption) ?k1 ?k2 ?k3 ?k4 ?k5 ?_); (case k1 => walk_at "glb"); (case k2 => walk_at "bui"); (case k3 => kernel_rfl!); (case k4 => rfl); (case k5 => rfl))
  | ((with_reducible refine' rMeth ?k1 ?k2 ?k3 ?_); (case k1 => kernel_rfl!); (case k2 => kernel_rfl!); (case k3 => kernel_rfl!))
  | ((with_reducible refine' mqB ?k1 ?_); (case k1 => kernel_rfl!))
  | ((with_reducible refine' vCons ?k1 ?_); (case k1 => kernel_rfl!))
  | with_reducible refine vNil ?_
  | ((with_reducible refine xI ?_); intro _ _)
  | ((with_reducible refine xS ?_); intro _ _)
  | (with_reducible first | refine xB ?_ | refine xN ?_ | refine wpAny_BinOp ?_ | refine xSub ?_ | refine xCut ?_ | refine xPartN ?_ | refine xPart ?_)
  | ((with_reducible refine Cut.mk ?_); intro _ _ _ _)
  | ((with_reducible refine' xCmp ?k1 ?_); (case k1 => kernel_rfl!))
  | ((with_reducible refine' tCmp ?k1 ?_); (case k1 => kernel_rfl!))
  | with_reducible refine wpAny_isTrue_Not ?_
  | ((with_reducible refine' tPlain ?k1 ?_); (case k1 => kernel_rfl!))
  | with_reducible refine ttB ?_
  | ((with_reducible refine' sAsg ?k1 ?_); (case k1 => kernel_rfl!))
  | ((with_reducible refine' sAsgT ?k1 ?k2 ?_); (case k1 => kernel_rfl!); (case k2 => kernel_rfl!))
  | ((with_reducible refine' sAsgS ?k1 ?k2 ?_); (case k1 => kernel_rfl!); (case k2 => rfl))
  | ((with_reducible refine' xTup ?k1 ?_); (case k1 => kernel_rfl!))
  | ((with_reducible refine' xLst ?k1 ?_); (case k1 => kernel_rfl!))
  | ((with_reducible refine' rSto (by assumption) ?k1 ?k2 ?k3 ?_); (case k1 => walk_at "sto"); (case k2 => kernel_rfl!); (case k3 => rfl); intro _ _ _)
  | (with_reducible first | refine sRet ?_ | refine sAug ?_ | refine xUn ?_ | refine xIfE ?_)
  | ((with_reducible refine' nLoc (by assumption) ?k1 ?k2 ?k3 ?_); (case k1 => walk_at "has"); (case k2 => kernel_rfl!); (case k3 => rfl))
  | (with_reducible first | refine oNotIn ?_ | refine oIn ?_ | refine oEqS ?_ | refine oNeS ?_)
  | ((with_reducible refine oAdd ?_); intro _ _)
  | ((with_reducible refine oSub ?_); intro _ _)
  | ((with_reducible refine' oDiv ?k1 ?k2 ?_); (case k1 => decide); (case k2 => exact PyProof.noPylong_small (by decide)); intro _ _)
  | ((with_reducible refine' oMod ?k1 ?_); (case k1 => decide); intro _ _)
  | ((with_reducible refine iAdd ?_); intro _ _)
  | ((with_reducible refine iSub ?_); intro _ _)
  | ((with_reducible refine oNeg ?_); intro _ _)
  | (with_reducible first | refine oLt ?_ | refine oGe ?_ | refine oGt ?_ | refine oLe ?_ | refine oEq ?_ | refine oNe ?_ | refine oIsNN ?_ | refine oIsRN ?_ | refine oIsIN ?_ | refine oIsSN ?_ | refine oNotNN ?_ | refine oNotRN ?_ | refine oNotSN ?_ | refine oIsB ?_ | refine oNotB ?_ | refine mSplit ?_ | refine mStart ?_ | refine mEnd ?_ | refine mFind ?_ | refine mLow ?_ | refine mJoin ?_ | refine oStart ?_ | refine oEnd ?_)
  | ((with_reducible refine oFind4 ?_); intro _ _)
  | ((with_reducible refine oFind ?_); intro _ _)
  | with_reducible refine sDel ?_
  | ((with_reducible refine' rCel (by assumption) ?k1 ?k2 ?k3 ?_); (case k3 => kernel_rfl!); (case k1 => exact rfl); (case k2 => walk_at "mem"))
  | ((with_reducible refine' rFre (by assumption) ?k1 ?k2 ?k3 ?_); (case k3 => kernel_rfl!); (case k1 => exact rfl); (case k2 => walk_at "mem"))
  | ((with_reducible refine' rStoC (by assumption) ?k1 ?k2 ?k3 ?k4 ?_); (case k4 => kernel_rfl!); (case k1 => exact rfl); (case k2 => walk_at "mem"); (case k3 => walk_at "mset"); intro _ _)
  | ((with_reducible refine' xLC [] ?k1 ?k2 ?k3 ?k4 ?_); (case k1 => kernel_rfl!); (case k2 => rfl); (case k3 => kernel_rfl!); (case k4 => exact fun _ => rfl))
  | ((with_reducible refine' sLC [] ?k0 ?k1 ?k2 ?k3 ?k4 ?_); (case k0 => kernel_rfl!); (case k1 => kernel_rfl!); (case k2 => rfl); (case k3 => kernel_rfl!); (case k4 => exact fun _ => rfl))
  | with_reducible refine xAttrN ?_
  | ((with_reducible refine' sSetA ?k1 ?_); (case k1 => kernel_rfl!))
  | ((with_reducible refine' sSetI ?k1 ?_); (case k1 => kernel_rfl!))
  | ((with_reducible refine' sExp ?k1 ?k2 ?_); (case k1 => kernel_rfl!); (case k2 => kernel_rfl!))
  | with_reducible refine exN ?_
  | ((with_reducible refine' rMethK ?k1 ?_); (case k1 => exact rfl))
  | (with_reducible first | refine oTypeS ?_ | refine oIsT ?_ | refine oNotT ?_ | refine ttN ?_ | refine LcT.bare ?_ | refine LcT.test ?_ | refine dOne ?_ | refine sAss ?_)
  | walk_at "stw"
  )
local macro_rules | `(tactic| walk_at "glow") => `(tactic| first | with_reducible exact g_formatparam _ | with_reducible exact g_law_shared _ | with_reducible exact g_law_put _ | with_reducible exact g_law_fits _ | with_reducible exact g_law_first_front _ | with_reducible exact g_law_words_hold _ | with_reducible exact g_law_none_is_longer _)
def ellLoop (got : Str) (ep : Int) : List Str → Int → Bool
  | [], _ => true
  | x :: r, sp => if find4 got x sp ep < 0 then false else ellLoop got ep r (find4 got x sp ep + x.length)
def ell2 (got : Str) (ws : List Str) (sp ep : Int) : Bool := if ep < sp then false else ellLoop got ep ws sp
def ell1 (got : Str) (ws : List Str) (sp : Int) : Bool :=
  if (ws.getLastD Str.empty).length = 0 then ell2 got ws sp got.length
  else if Txt.endswith got (ws.getLastD Str.empty) then ell2 got ws.dropLast sp (got.length - (ws.getLastD Str.empty).length) else false
def ellP (ws : List Str) (got : Str) : Bool :=
  if (ws.headD Str.empty).length = 0 then ell1 got ws 0
  else if Txt.startswith got (ws.headD Str.empty) then ell1 got ws.tail (ws.headD Str.empty).length else false
def dots : Str := Str.ofString "..."
local macro_rules | `(tactic| walk_at "stw") => `(tactic| fail "no step")
local macro_rules | `(tactic| walk_at "glow") => `(tactic| fail "no name")
theorem ell_plain (w : World) (prog : Program) (A : Around) (mb) (g h : Heap) (M) (gs dr tk os) (W : Wld (KK w) mb g) (H : Hp g M h) (want got : Str) (t u : Tok) (hd : A.depth < 900)
    (hc : (Builtin.Str.occurrences want dots 0 want.length 1).isEmpty = true) :
    codeAny (model prog w) A (.call (.ref 63) ⟨[.str want t, .str got u], []⟩) (Rt gs dr os fun v h' => v = .bool (want == got) ∧ Hp g M h') ⟨h, gs, dr, tk, os⟩ := by
  refine enter [(Str.ofString "want", .str want t), (Str.ofString "got", .str got u)] W H (by omega) rfl rfl (by kernel_rfl!) rfl (BindsTo.of_eq (by kernel_rfl!)) (by kernel_rfl!) (by kernel_rfl!) (by kernel_rfl!) rfl rfl rfl (fun L h0 tk0 b => ?_)
  repeat' walk_at "st"
  refine iteC (fun _ => ?_) (fun q => ?_)
  · repeat' walk_at "st"
    refine DoneF.ret ?_
    exact ⟨rfl, b.hp⟩
  · exfalso
    unfold dots at hc
    rw [hc] at q; exact absurd q (by decide)


def SV (vs : List Value) (ss : List Str) : Prop := vs.length = ss.length ∧ ∀ (i : Nat) s, ss[i]? = some s → ∃ t, vs[i]? = some (.str s t)
theorem SV.of (ls : List (Str × Tok)) : SV (strValues ls) (ls.map (·.1)) := by
  refine ⟨by simp [strValues], fun i s h => ?_⟩
  simp only [List.getElem?_map, Option.map_eq_some_iff] at h
  obtain ⟨p, hp, rfl⟩ := h
  exact ⟨p.2, by simp [strValues, hp]⟩
theorem SV.tail {vs ss} (x : SV vs ss) : SV (vs.eraseIdx 0) ss.tail := by
  refine ⟨by simp [x.1], fun i s h => ?_⟩
  rw [List.eraseIdx_zero]
  rw [List.getElem?_tail] at h ⊢
  exact x.2 _ _ h
theorem SV.last {vs ss} (x : SV vs ss) (h : 1 ≤ ss.length) : SV (vs.eraseIdx (ss.length - 1)) ss.dropLast := by
  have e : vs.eraseIdx (ss.length - 1) = vs.dropLast := by rw [← x.1]; exact List.eraseIdx_length_sub_one
  rw [e]
  refine ⟨by simp [x.1], fun i s hs => ?_⟩
  rw [List.getElem?_dropLast] at hs ⊢
  split at hs
  · rename_i hi; rw [if_pos (by have := x.1; omega)]; exact x.2 _ _ hs
  · cases hs
def Smalls (ss : List Str) : Prop := ss.length ≤ 1000 ∧ ∀ p ∈ ss, p.length ≤ 1000
theorem ell_dots (w : World) (prog : Program) (A : Around) (mb) (g h : Heap) (M) (gs dr tk os) (W : Wld (KK w) mb g) (H : Hp g M h) (want got : Str) (t u : Tok) (ps : List Str) (hh : A.handled = none) (hd : A.depth < 900)
    (hc : (Builtin.Str.occurrences want dots 0 want.length 1).isEmpty = false) (hp : Txt.split want dots = ps) (hl : 2 ≤ ps.length) (hz : want.length ≤ 1000) (hz' : got.length ≤ 1000) (hps : Smalls ps) :
    codeAny (model prog w) A (.call (.ref 63) ⟨[.str want t, .str got u], []⟩) (Rt gs dr os fun v h' => v = .bool (ellP ps got) ∧ Hp g M h') ⟨h, gs, dr, tk, os⟩ := by
  refine enter [(Str.ofString "want", .str want t), (Str.ofString "got", .str got u)] W H (by omega) rfl rfl (by kernel_rfl!) rfl (BindsTo.of_eq (by kernel_rfl!)) (by kernel_rfl!) (by kernel_rfl!) (by kernel_rfl!) rfl rfl rfl (fun L h0 tk0 b => ?_)
  repeat' walk_at "st"
  refine iteC (fun q => ?_) (fun _ => ?_)
  · exfalso
    unfold dots at hc
    rw [hc] at q; exact absurd q (by decide)
  repeat' walk_at "st"
  refine oSplit (sz_line (by omega)) (by decide) (fun D ls h' tk' e k f il => ?_)
  have sv := SV.of ls
  rw [show ls.map (·.1) = ps from e.trans hp] at sv
  generalize strValues ls = vs at il sv
  obtain ⟨oD, eD, lD⟩ := il
  have b1 := b.add k f eD lD
  clear b e f eD lD k
  have hvs : vs.length ≤ 1000 := by have := sv.1; have := hps.1; omega
  repeat' walk_at "st"
  rename_i h2 t2 b2
  refine oLenL (b2.hp.lst (.head _)) (by omega) (fun _ _ => ?_)
  repeat' walk_at "st"
  refine ⟨by have := sv.1; simp; omega, ?_⟩
  repeat' walk_at "st"
  refine oLenS (sz_line (by omega)) (fun _ _ => ?_)
  repeat' walk_at "st"
  refine oNewT (by simp) (fun T h3 k3 _ hT => ?_)
  have b3 := b2.kp k3
  refine Swp.mk hh b3 hT (by walk_at "sto") (by walk_at "sto") (by kernel_rfl!) rfl (fun h4 t4 b4 => ?_)
  clear b3 b2 b1
  obtain ⟨p0, pr, rfl⟩ : ∃ p r, ps = p :: r := by cases ps with | nil => simp at hl | cons p r => exact ⟨p, r, rfl⟩
  obtain ⟨tp, hv0⟩ := sv.2 0 p0 rfl
  repeat' walk_at "st"
  refine gIdx (b4.hp.lst (.head _)) (by decide) (by decide) hv0 (by kernel_rfl!) ?_
  repeat' walk_at "st0"
  have hp0 : p0.length ≤ 1000 := hps.2 _ (.head _)
  refine cut (fun s' => ∃ h' tk' vs' ws' sp t1 t2 p t3, s' = ⟨h', gs, dr, tk', os⟩ ∧ SV vs' ws' ∧ 1 ≤ ws'.length ∧ Smalls ws' ∧ ellP (p0 :: pr) got = ell1 got ws' sp ∧
    Bd g L [(Str.ofString "want", .str want t), (Str.ofString "got", .str got u), (Str.ofString "ws", .ref D), (Str.ofString "endpos", .int got.length t1), (Str.ofString "startpos", .int sp t2), (Str.ofString "w", .str p t3)] ((D, lst vs') :: M) h') ?_ ?_
  · repeat' walk_at "st"
    refine ttS (sz_line (by omega)) (fun _ => ?_)
    refine iteC (fun q => ?_) (fun q => ?_)
    · have q0 : ¬ p0.length = 0 := by simpa using q
      repeat' walk_at "st"
      refine iteC (fun q1 => ?_) (fun q1 => ?_)
      · repeat' walk_at "st"
        refine oLenS (sz_line (by omega)) (fun _ _ => ?_)
        repeat' walk_at "st"
        rename Bd _ _ _ _ _ => b5
        refine oDel (b5.hp.lst (.head _)) (by omega) (by decide) (i := 0) (by rw [sv.1]; exact idx0 (by simp)) (fun h6 o6 x6 e6 l6 => ?_)
        repeat' walk_at "st"
        refine ⟨_, _, _, pr, _, _, _, _, _, rfl, sv.tail, by simp at hl; omega, ⟨by have := hps.1; simp at this; omega, fun p hp => hps.2 _ (.tail _ hp)⟩, ?_, b5.upd x6 e6 l6⟩
        simp [ellP, q0, q1]
      · repeat' walk_at "st"
        refine DoneF.ret ?_
        rename Bd _ _ _ _ _ => b5
        refine ⟨?_, b5.tail.hp⟩
        simp [ellP, q0, q1]
    · have q0 : p0.length = 0 := by simpa using q
      repeat' walk_at "st"
      refine ⟨_, _, _, _, _, _, _, _, _, rfl, sv, by simp, hps, ?_, by assumption⟩
      simp [ellP, q0]
  rintro _ ⟨h5, t5, vs5, ws5, sp5, _, _, _, _, rfl, sv5, n5, s5, e5, b5⟩
  rw [e5]
  clear e5 sv hps hl hv0 hvs
  obtain ⟨z, hz5⟩ : ∃ z, ws5[ws5.length - 1]? = some z := ⟨_, List.getElem?_eq_getElem (by omega)⟩
  have hzl : ws5.getLastD Str.empty = z := by
    rw [List.getLastD_eq_getLast?, List.getLast?_eq_getElem?, hz5]; rfl
  have zs : z.length ≤ 1000 := s5.2 _ (List.mem_of_getElem? hz5)
  have vl : vs5.length ≤ 1000 := by have := sv5.1; have := s5.1; omega
  obtain ⟨tz, hvz⟩ := sv5.2 _ _ hz5
  repeat' walk_at "st0"
  rename Bd _ _ _ _ _ => b6
  refine gIdxN (b6.hp.lst (.head _)) (by decide) (by have := sv5.1; omega) (by omega) (v := .str z tz) (by rw [← hvz]; congr 1; have := sv5.1; omega) (by kernel_rfl!) ?_
  repeat' walk_at "st0"
  refine cut (fun s' => ∃ h' tk' vs' ws' ep t1 t2 p t3, s' = ⟨h', gs, dr, tk', os⟩ ∧ SV vs' ws' ∧ Smalls ws' ∧ ell1 got ws5 sp5 = ell2 got ws' sp5 ep ∧
    Bd g L [(Str.ofString "want", .str want t), (Str.ofString "got", .str got u), (Str.ofString "ws", .ref D), (Str.ofString "endpos", .int ep t1), (Str.ofString "startpos", .int sp5 t2), (Str.ofString "w", .str p t3)] ((D, lst vs') :: M) h') ?_ ?_
  · repeat' walk_at "st"
    refine ttS (sz_line (by omega)) (fun _ => ?_)
    refine iteC (fun q => ?_) (fun q => ?_)
    · have q0 : ¬ z.length = 0 := by simpa using q
      repeat' walk_at "st"
      refine iteC (fun q1 => ?_) (fun q1 => ?_)
      · repeat' walk_at "st"
        refine oLenS (sz_line (by omega)) (fun _ _ => ?_)
        repeat' walk_at "st"
        rename Bd _ _ _ _ _ => b7
        refine oDel (b7.hp.lst (.head _)) (by omega) (by decide) (i := ws5.length - 1) (by rw [sv5.1]; exact idxN (by omega)) (fun h8 o8 x8 e8 l8 => ?_)
        repeat' walk_at "st"
        refine ⟨_, _, _, ws5.dropLast, _, _, _, _, _, rfl, sv5.last n5, ⟨by have := s5.1; simp; omega, fun p hp => s5.2 _ (List.dropLast_subset _ hp)⟩, ?_, b7.upd x8 e8 l8⟩
        unfold ell1; rw [hzl, if_neg q0, if_pos q1]
      · repeat' walk_at "st"
        refine DoneF.ret ?_
        rename Bd _ _ _ _ _ => b7
        refine ⟨?_, b7.tail.hp⟩
        unfold ell1; rw [hzl, if_neg q0, q1]; rfl
    · have q0 : z.length = 0 := by simpa using q
      repeat' walk_at "st"
      refine ⟨_, _, _, _, _, _, _, _, _, rfl, sv5, s5, ?_, by assumption⟩
      unfold ell1; rw [hzl, if_pos q0]
  rintro _ ⟨h9, t9, vs9, ws9, ep9, _, _, _, _, rfl, sv9, s9, e9, b9⟩
  rw [e9]
  clear e9 sv5 s5 hzl hvz hz5 zs b6 b4 n5 vl
  have vl : vs9.length ≤ 1000 := by have := sv9.1; have := s9.1; omega
  repeat' walk_at "st"
  refine iteD (fun q => ?_) (fun q => ?_)
  · repeat' walk_at "st"
    refine DoneF.ret ?_
    refine ⟨?_, b9.tail.hp⟩
    unfold ell2; rw [if_pos q]
  repeat' walk_at "st"
  obtain ⟨g', kg, b10, il⟩ := b9.fix
  have W' := W.up kg
  refine sFor (fun _ => rfl) ?_
  repeat' walk_at "st"
  refine fList hh b10 il (by kernel_rfl!) rfl (fun i g1 l1 M1 => M1 = M ∧ ∃ sp t1 t2 p t3, l1 = [(Str.ofString "want", .str want t), (Str.ofString "got", .str got u), (Str.ofString "ws", .ref D), (Str.ofString "endpos", .int ep9 t1), (Str.ofString "startpos", .int sp t2), (Str.ofString "w", .str p t3)] ∧
    ell2 got ws9 sp5 ep9 = ellLoop got ep9 (ws9.drop i) sp) ⟨rfl, _, _, _, _, _, rfl, ?_⟩ ?_ ?_
  · unfold ell2; rw [if_neg q]; rfl
  · rintro i v g1 l1 M1 h1 t1 I o hv k1 ⟨rfl, sp, _, _, _, _, rfl, e⟩ hb
    have W1 := W'.up k1
    have hi : i < ws9.length := by rw [← sv9.1]; exact (List.getElem?_eq_some_iff.mp hv).1
    obtain ⟨y, hy⟩ : ∃ y, ws9[i]? = some y := ⟨_, List.getElem?_eq_getElem hi⟩
    obtain ⟨ty, hv'⟩ := sv9.2 _ _ hy
    have ev := hv.symm.trans hv'
    cases ev
    have ys : y.length ≤ 1000 := s9.2 _ (List.mem_of_getElem? hy)
    have ed : ws9.drop i = y :: ws9.drop (i + 1) := by
      rw [List.drop_eq_getElem_cons hi]
      congr 1
      rw [List.getElem?_eq_getElem hi] at hy
      exact Option.some.inj hy
    rw [ed] at e
    have b11 := hb _ (by walk_at "sto")
    clear hb
    repeat' walk_at "st"
    refine iteD (fun q1 => ?_) (fun q1 => ?_)
    · repeat' walk_at "st"
      refine BEnd.ret (DoneF.ret ?_)
      rename Bd _ _ _ _ _ => b12
      refine ⟨?_, (b12.tail.hp.low k1).low kg⟩
      rw [e]; unfold ellLoop; rw [if_pos q1]
    · repeat' walk_at "st"
      refine oLenS (sz_line (by omega)) (fun _ _ => ?_)
      repeat' walk_at "st"
      rename Bd _ _ _ _ _ => b12
      refine BEnd.nxt Kp.rf b12 ⟨rfl, _, _, _, _, _, rfl, ?_⟩
      rw [e]; conv => lhs; unfold ellLoop
      rw [if_neg q1]
  · rintro g1 l1 M1 h1 t1 k1 ⟨rfl, sp, _, _, _, _, rfl, e⟩ b11
    repeat' walk_at "st"
    refine DoneF.ret ?_
    refine ⟨?_, (b11.hp.low k1).low kg⟩
    rw [e, List.drop_of_length_le (by have := sv9.1; omega)]; rfl
/-- what the search asks: the keys' values -/
structure KeyOk (w : World) (prog : Program) (gs : Array GenState) (dr : Drawn) (os : OsState) (g : Heap) (dep : Nat) (f : Addr) (as : List Value) (x : Value) (left : Bool) (p : Nat → Bool) : Prop where
  fn : ∃ o fd, g.get? f = some o ∧ o.data = .func fd
  ask : ∀ (i : Nat) v (A : Around) g' M h tk, A.handled = none → A.depth < dep → as[i]? = some v → Kp g g' → Hp g' M h →
    codeAny (model prog w) A (.call (.ref f) ⟨[v], []⟩) (Rt gs dr os fun r h' => ∃ g'', Kp g' g'' ∧ Hp g'' M h' ∧ ∀ (A : Around) (E : Value → Shared → Prop) (Q : Value → Shared → Prop) s, Q (.bool (p i)) s → wpAny (model prog w) A (if left then compareOp .Lt r x else compareOp .Lt x r) Q E s) ⟨h, gs, dr, tk, os⟩
theorem keepFnG {M : Model} {g : Heap} {a : Addr} (hf : ∃ o fd, g.get? a = some o ∧ o.data = .func fd) : Keeps' M (.ref a) (fun h => Kp g h) := fun h X => by
  obtain ⟨o, fd, e, d⟩ := hf
  refine ⟨.frame, .inl rfl, fun A Q E s k q => ?_⟩
  show wpAny M A (load a >>= _) Q E s
  refine wpAny_bind (wpAny_load (k _ _ (X _ _ e)) ?_)
  rw [d]; exact wpAny_pure q
/-- the items themselves are asked -/
structure CmpOk (w : World) (prog : Program) (as : List Value) (x : Value) (left : Bool) (p : Nat → Bool) : Prop where
  ask : ∀ (i : Nat) v, as[i]? = some v → ∀ (A : Around) (E : Value → Shared → Prop) (Q : Value → Shared → Prop) s, Q (.bool (p i)) s → wpAny (model prog w) A (if left then compareOp .Lt v x else compareOp .Lt x v) Q E s
local macro_rules | `(tactic| walk_at "stw") => `(tactic| fail "no step")
local macro_rules | `(tactic| walk_at "glow") => `(tactic| fail "no name")
theorem bisL_keyN (w : World) (prog : Program) (A : Around) (mb) (g h : Heap) (M) (gs dr tk os) (W : Wld (KK w) mb g) (H : Hp g M h) (hh : A.handled = none) (dep : Nat) (hd : A.depth + 1 < dep) (hdep : dep ≤ 900) (ad : Addr) (f : Addr) (as : List Value) (x : Value) (p : Nat → Bool) (hl : IsL g ad as) (hz : as.length ≤ 1000) (lo0 : Nat) (tlo : Tok) (hlo0 : lo0 ≤ as.length)
    (hk : KeyOk w prog gs dr os g dep f as x true p) (mono : ∀ i j, i ≤ j → j < as.length → p j = true → p i = true) :
    codeAny (model prog w) A (.call (.ref 56) ⟨[.ref ad, x, .int lo0 tlo, .none], [(Str.ofString "key", .ref f)]⟩) (Rt gs dr os fun v h' => ∃ (r : Nat) (t : Tok) (g' : Heap), v = .int r t ∧ lo0 ≤ r ∧ r ≤ as.length ∧ (∀ i, lo0 ≤ i → i < r → p i = true) ∧ (∀ i, r ≤ i → i < as.length → p i = false) ∧ Kp g g' ∧ Hp g' M h') ⟨h, gs, dr, tk, os⟩ := by
  refine enter [(Str.ofString "a", .ref ad), (Str.ofString "x", x), (Str.ofString "lo", .int lo0 tlo), (Str.ofString "hi", .none), (Str.ofString "key", .ref f)] W H (by omega) rfl rfl (by kernel_rfl!) rfl (binds_peek W H.keep fun S => by kernel_rfl!) (by kernel_rfl!) (by kernel_rfl!) (by kernel_rfl!) rfl rfl rfl (fun L h0 tk0 b => ?_)
  repeat' walk_at "st"
  refine iteD (fun q => absurd q (by omega)) (fun _ => ?_)
  repeat' walk_at "st"
  refine iteT ?_
  repeat' walk_at "st"
  refine oLenL (hl.up b.keep) (by omega) (fun _ _ => ?_)
  repeat' walk_at "st"
  refine iteF ?_
  repeat' walk_at "st"
  rename Bd _ _ _ _ _ => b1
  refine sWhile b1 (fun n g1 l1 M1 => M1 = M ∧ ∃ (lo hi : Nat) (t1 t2 : Tok), l1 = [(Str.ofString "a", .ref ad), (Str.ofString "x", x), (Str.ofString "lo", .int lo t1), (Str.ofString "hi", .int hi t2), (Str.ofString "key", .ref f)] ∧
    n = hi - lo ∧ lo0 ≤ lo ∧ lo ≤ hi ∧ hi ≤ as.length ∧ (∀ i, lo0 ≤ i → i < lo → p i = true) ∧ (∀ i, hi ≤ i → i < as.length → p i = false)) (as.length - lo0)
    ⟨rfl, lo0, as.length, _, _, rfl, rfl, Nat.le_refl _, by omega, Nat.le_refl _, fun i h1 h2 => absurd h2 (Nat.not_lt.mpr h1), fun i h1 h2 => absurd h2 (Nat.not_lt.mpr h1)⟩ ?_
  rintro n g1 l1 M1 h1 t1 k1 ⟨rfl, lo, hi, _, _, rfl, rfl, hl0, hlo, hhi, pl, ph⟩ b2
  have W1 := W.up k1
  have hl1 := hl.up k1
  repeat' walk_at "st"
  refine iteD (fun q => ?_) (fun q => ?_)
  · have q' : lo < hi := by omega
    repeat' walk_at "st"
    have em : ((lo : Int) + (hi : Int)).fdiv 2 = ((lo + hi) / 2 : Nat) := by
      rw [Int.fdiv_eq_ediv_of_nonneg _ (by decide)]; omega
    rename Bd _ _ _ _ _ => b3
    rw [em] at b3
    try rw [em]
    have m1 : (lo + hi) / 2 < hi := by omega
    have m0 : lo ≤ (lo + hi) / 2 := by omega
    generalize (lo + hi) / 2 = mid at *
    obtain ⟨v, hv⟩ : ∃ v, as[mid]? = some v := ⟨_, List.getElem?_eq_getElem (by omega)⟩
    refine rCallL b3 (by walk_at "has") (by kernel_rfl!) rfl (keepFnG (g := g1) (by obtain ⟨o, fd, e, d⟩ := hk.fn; exact ⟨o, fd, k1 _ _ e, d⟩)) (by kernel_rfl!) ?_
    repeat' walk_at "st"
    refine gIdx (hl1.up b3.keep) (by omega) (by omega) (by simpa using hv) (by kernel_rfl!) ?_
    repeat' walk_at "st"
    refine ⟨b3.keep, ?_⟩
    obtain ⟨oL, HL, back⟩ := b3.out
    refine use (hk.ask mid v _ g1 _ _ _ hh hd hv k1 HL) (fun r h4 t4 ⟨g2, k2, H2, cmp⟩ => ?_)
    have b4 := back _ _ _ H2
    have W2 := W1.up k2
    clear HL back H2 b3
    repeat' walk_at "st"
    refine cmp _ _ _ _ ?_
    repeat' walk_at "st"
    refine iteC (fun c => ?_) (fun c => ?_)
    · repeat' walk_at "st"
      rename Bd _ _ _ _ _ => b5
      rw [show (mid : Int) + 1 = ((mid + 1 : Nat) : Int) by omega] at b5
      have b6 := b5.fg (l' := [_, _, _, _, _]) (by walk_at "sub")
      refine WEnd.nxt (hi - (mid + 1)) k2 b6 (by omega) ⟨rfl, mid + 1, hi, _, _, rfl, rfl, by omega, by omega, hhi, fun i h0 hi' => ?_, ph⟩
      exact mono i mid (by omega) (by omega) c
    · repeat' walk_at "st"
      rename Bd _ _ _ _ _ => b5
      have b6 := b5.fg (l' := [_, _, _, _, _]) (by walk_at "sub")
      refine WEnd.nxt (mid - lo) k2 b6 (by omega) ⟨rfl, lo, mid, _, _, rfl, rfl, by omega, by omega, by omega, pl, fun i h1 h2 => ?_⟩
      cases e : p i with
      | false => rfl
      | true => rw [mono mid i h1 (by omega) e] at c; cases c
  · have q' : lo = hi := by omega
    subst q'
    repeat' walk_at "st"
    refine DoneF.ret ?_
    exact ⟨lo, _, g1, rfl, hl0, hhi, pl, ph, k1, b2.hp⟩

theorem bisL_keyI (w : World) (prog : Program) (A : Around) (mb) (g h : Heap) (M) (gs dr tk os) (W : Wld (KK w) mb g) (H : Hp g M h) (hh : A.handled = none) (dep : Nat) (hd : A.depth + 1 < dep) (hdep : dep ≤ 900) (ad : Addr) (f : Addr) (as : List Value) (x : Value) (p : Nat → Bool) (hl : IsL g ad as) (hz : as.length ≤ 1000) (lo0 : Nat) (tlo : Tok) (hi0 : Nat) (thi : Tok) (hhi0 : hi0 ≤ as.length) (hlo0 : lo0 ≤ hi0)
    (hk : KeyOk w prog gs dr os g dep f as x true p) (mono : ∀ i j, i ≤ j → j < as.length → p j = true → p i = true) :
    codeAny (model prog w) A (.call (.ref 56) ⟨[.ref ad, x, .int lo0 tlo, .int hi0 thi], [(Str.ofString "key", .ref f)]⟩) (Rt gs dr os fun v h' => ∃ (r : Nat) (t : Tok) (g' : Heap), v = .int r t ∧ lo0 ≤ r ∧ r ≤ hi0 ∧ (∀ i, lo0 ≤ i → i < r → p i = true) ∧ (∀ i, r ≤ i → i < hi0 → p i = false) ∧ Kp g g' ∧ Hp g' M h') ⟨h, gs, dr, tk, os⟩ := by
  refine enter [(Str.ofString "a", .ref ad), (Str.ofString "x", x), (Str.ofString "lo", .int lo0 tlo), (Str.ofString "hi", .int hi0 thi), (Str.ofString "key", .ref f)] W H (by omega) rfl rfl (by kernel_rfl!) rfl (binds_peek W H.keep fun S => by kernel_rfl!) (by kernel_rfl!) (by kernel_rfl!) (by kernel_rfl!) rfl rfl rfl (fun L h0 tk0 b => ?_)
  repeat' walk_at "st"
  refine iteD (fun q => absurd q (by omega)) (fun _ => ?_)
  repeat' walk_at "st"
  refine iteF ?_
  repeat' walk_at "st"
  refine iteF ?_
  repeat' walk_at "st"
  rename Bd _ _ _ _ _ => b1
  refine sWhile b1 (fun n g1 l1 M1 => M1 = M ∧ ∃ (lo hi : Nat) (t1 t2 : Tok), l1 = [(Str.ofString "a", .ref ad), (Str.ofString "x", x), (Str.ofString "lo", .int lo t1), (Str.ofString "hi", .int hi t2), (Str.ofString "key", .ref f)] ∧
    n = hi - lo ∧ lo0 ≤ lo ∧ lo ≤ hi ∧ hi ≤ hi0 ∧ (∀ i, lo0 ≤ i → i < lo → p i = true) ∧ (∀ i, hi ≤ i → i < hi0 → p i = false)) (hi0 - lo0)
    ⟨rfl, lo0, hi0, _, _, rfl, rfl, Nat.le_refl _, by omega, Nat.le_refl _, fun i h1 h2 => absurd h2 (Nat.not_lt.mpr h1), fun i h1 h2 => absurd h2 (Nat.not_lt.mpr h1)⟩ ?_
  rintro n g1 l1 M1 h1 t1 k1 ⟨rfl, lo, hi, _, _, rfl, rfl, hl0, hlo, hhi, pl, ph⟩ b2
  have W1 := W.up k1
  have hl1 := hl.up k1
  repeat' walk_at "st"
  refine iteD (fun q => ?_) (fun q => ?_)
  · have q' : lo < hi := by omega
    repeat' walk_at "st"
    have em : ((lo : Int) + (hi : Int)).fdiv 2 = ((lo + hi) / 2 : Nat) := by
      rw [Int.fdiv_eq_ediv_of_nonneg _ (by decide)]; omega
    rename Bd _ _ _ _ _ => b3
    rw [em] at b3
    try rw [em]
    have m1 : (lo + hi) / 2 < hi := by omega
    have m0 : lo ≤ (lo + hi) / 2 := by omega
    generalize (lo + hi) / 2 = mid at *
    obtain ⟨v, hv⟩ : ∃ v, as[mid]? = some v := ⟨_, List.getElem?_eq_getElem (by omega)⟩
    refine rCallL b3 (by walk_at "has") (by kernel_rfl!) rfl (keepFnG (g := g1) (by obtain ⟨o, fd, e, d⟩ := hk.fn; exact ⟨o, fd, k1 _ _ e, d⟩)) (by kernel_rfl!) ?_
    repeat' walk_at "st"
    refine gIdx (hl1.up b3.keep) (by omega) (by omega) (by simpa using hv) (by kernel_rfl!) ?_
    repeat' walk_at "st"
    refine ⟨b3.keep, ?_⟩
    obtain ⟨oL, HL, back⟩ := b3.out
    refine use (hk.ask mid v _ g1 _ _ _ hh hd hv k1 HL) (fun r h4 t4 ⟨g2, k2, H2, cmp⟩ => ?_)
    have b4 := back _ _ _ H2
    have W2 := W1.up k2
    clear HL back H2 b3
    repeat' walk_at "st"
    refine cmp _ _ _ _ ?_
    repeat' walk_at "st"
    refine iteC (fun c => ?_) (fun c => ?_)
    · repeat' walk_at "st"
      rename Bd _ _ _ _ _ => b5
      rw [show (mid : Int) + 1 = ((mid + 1 : Nat) : Int) by omega] at b5
      have b6 := b5.fg (l' := [_, _, _, _, _]) (by walk_at "sub")
      refine WEnd.nxt (hi - (mid + 1)) k2 b6 (by omega) ⟨rfl, mid + 1, hi, _, _, rfl, rfl, by omega, by omega, hhi, fun i h0 hi' => ?_, ph⟩
      exact mono i mid (by omega) (by omega) c
    · repeat' walk_at "st"
      rename Bd _ _ _ _ _ => b5
      have b6 := b5.fg (l' := [_, _, _, _, _]) (by walk_at "sub")
      refine WEnd.nxt (mid - lo) k2 b6 (by omega) ⟨rfl, lo, mid, _, _, rfl, rfl, by omega, by omega, by omega, pl, fun i h1 h2 => ?_⟩
      cases e : p i with
      | false => rfl
      | true => rw [mono mid i h1 (by omega) e] at c; cases c
  · have q' : lo = hi := by omega
    subst q'
    repeat' walk_at "st"
    refine DoneF.ret ?_
    exact ⟨lo, _, g1, rfl, hl0, hhi, pl, ph, k1, b2.hp⟩

theorem bisL_plain (w : World) (prog : Program) (A : Around) (mb) (g h : Heap) (M) (gs dr tk os) (W : Wld (KK w) mb g) (H : Hp g M h) (hh : A.handled = none) (hd : A.depth < 900) (ad : Addr) (as : List Value) (x : Value) (p : Nat → Bool) (hl : IsL g ad as) (hz : as.length ≤ 1000)
    (hk : CmpOk w prog as x true p) (mono : ∀ i j, i ≤ j → j < as.length → p j = true → p i = true) :
    codeAny (model prog w) A (.call (.ref 56) ⟨[.ref ad, x], []⟩) (Rt gs dr os fun v h' => ∃ (r : Nat) (t : Tok) (g' : Heap), v = .int r t ∧ 0 ≤ r ∧ r ≤ as.length ∧ (∀ i, 0 ≤ i → i < r → p i = true) ∧ (∀ i, r ≤ i → i < as.length → p i = false) ∧ Kp g g' ∧ Hp g' M h') ⟨h, gs, dr, tk, os⟩ := by
  refine enter [(Str.ofString "a", .ref ad), (Str.ofString "x", x), (Str.ofString "lo", .int 0 305), (Str.ofString "hi", .none), (Str.ofString "key", .none)] W H (by omega) rfl rfl (by kernel_rfl!) rfl (binds_peek W H.keep fun S => by kernel_rfl!) (by kernel_rfl!) (by kernel_rfl!) (by kernel_rfl!) rfl rfl rfl (fun L h0 tk0 b => ?_)
  repeat' walk_at "st"
  refine iteD (fun q => absurd q (by omega)) (fun _ => ?_)
  repeat' walk_at "st"
  refine iteT ?_
  repeat' walk_at "st"
  refine oLenL (hl.up b.keep) (by omega) (fun _ _ => ?_)
  repeat' walk_at "st"
  refine iteT ?_
  repeat' walk_at "st"
  rename Bd _ _ _ _ _ => b1
  refine sWhile b1 (fun n g1 l1 M1 => M1 = M ∧ ∃ (lo hi : Nat) (t1 t2 : Tok), l1 = [(Str.ofString "a", .ref ad), (Str.ofString "x", x), (Str.ofString "lo", .int lo t1), (Str.ofString "hi", .int hi t2), (Str.ofString "key", .none)] ∧
    n = hi - lo ∧ 0 ≤ lo ∧ lo ≤ hi ∧ hi ≤ as.length ∧ (∀ i, 0 ≤ i → i < lo → p i = true) ∧ (∀ i, hi ≤ i → i < as.length → p i = false)) (as.length - 0)
    ⟨rfl, 0, as.length, _, _, rfl, rfl, Nat.le_refl _, by omega, Nat.le_refl _, fun i h1 h2 => absurd h2 (Nat.not_lt.mpr h1), fun i h1 h2 => absurd h2 (Nat.not_lt.mpr h1)⟩ ?_
  rintro n g1 l1 M1 h1 t1 k1 ⟨rfl, lo, hi, _, _, rfl, rfl, hl0, hlo, hhi, pl, ph⟩ b2
  have W1 := W.up k1
  have hl1 := hl.up k1
  repeat' walk_at "st"
  refine iteD (fun q => ?_) (fun q => ?_)
  · have q' : lo < hi := by omega
    repeat' walk_at "st"
    have em : ((lo : Int) + (hi : Int)).fdiv 2 = ((lo + hi) / 2 : Nat) := by
      rw [Int.fdiv_eq_ediv_of_nonneg _ (by decide)]; omega
    rename Bd _ _ _ _ _ => b3
    rw [em] at b3
    try rw [em]
    have m1 : (lo + hi) / 2 < hi := by omega
    have m0 : lo ≤ (lo + hi) / 2 := by omega
    generalize (lo + hi) / 2 = mid at *
    obtain ⟨v, hv⟩ : ∃ v, as[mid]? = some v := ⟨_, List.getElem?_eq_getElem (by omega)⟩
    refine gIdx (hl1.up b3.keep) (by omega) (by omega) (by simpa using hv) (by kernel_rfl!) ?_
    repeat' walk_at "st"
    refine hk.ask mid v hv _ _ _ _ ?_
    have k2 : Kp g1 g1 := Kp.rf
    repeat' walk_at "st"
    refine iteC (fun c => ?_) (fun c => ?_)
    · repeat' walk_at "st"
      rename Bd _ _ _ _ _ => b5
      rw [show (mid : Int) + 1 = ((mid + 1 : Nat) : Int) by omega] at b5
      have b6 := b5.fg (l' := [_, _, _, _, _]) (by walk_at "sub")
      refine WEnd.nxt (hi - (mid + 1)) k2 b6 (by omega) ⟨rfl, mid + 1, hi, _, _, rfl, rfl, by omega, by omega, hhi, fun i h0 hi' => ?_, ph⟩
      exact mono i mid (by omega) (by omega) c
    · repeat' walk_at "st"
      rename Bd _ _ _ _ _ => b5
      have b6 := b5.fg (l' := [_, _, _, _, _]) (by walk_at "sub")
      refine WEnd.nxt (mid - lo) k2 b6 (by omega) ⟨rfl, lo, mid, _, _, rfl, rfl, by omega, by omega, by omega, pl, fun i h1 h2 => ?_⟩
      cases e : p i with
      | false => rfl
      | true => rw [mono mid i h1 (by omega) e] at c; cases c
  · have q' : lo = hi := by omega
    subst q'
    repeat' walk_at "st"
    refine DoneF.ret ?_
    exact ⟨lo, _, g1, rfl, hl0, hhi, pl, ph, k1, b2.hp⟩

theorem bisR_plain (w : World) (prog : Program) (A : Around) (mb) (g h : Heap) (M) (gs dr tk os) (W : Wld (KK w) mb g) (H : Hp g M h) (hh : A.handled = none) (hd : A.depth < 900) (ad : Addr) (as : List Value) (x : Value) (p : Nat → Bool) (hl : IsL g ad as) (hz : as.length ≤ 1000)
    (hk : CmpOk w prog as x false p) (mono : ∀ i j, i ≤ j → j < as.length → p i = true → p j = true) :
    codeAny (model prog w) A (.call (.ref 47) ⟨[.ref ad, x], []⟩) (Rt gs dr os fun v h' => ∃ (r : Nat) (t : Tok) (g' : Heap), v = .int r t ∧ 0 ≤ r ∧ r ≤ as.length ∧ (∀ i, 0 ≤ i → i < r → p i = false) ∧ (∀ i, r ≤ i → i < as.length → p i = true) ∧ Kp g g' ∧ Hp g' M h') ⟨h, gs, dr, tk, os⟩ := by
  refine enter [(Str.ofString "a", .ref ad), (Str.ofString "x", x), (Str.ofString "lo", .int 0 291), (Str.ofString "hi", .none), (Str.ofString "key", .none)] W H (by omega) rfl rfl (by kernel_rfl!) rfl (binds_peek W H.keep fun S => by kernel_rfl!) (by kernel_rfl!) (by kernel_rfl!) (by kernel_rfl!) rfl rfl rfl (fun L h0 tk0 b => ?_)
  repeat' walk_at "st"
  refine iteD (fun q => absurd q (by omega)) (fun _ => ?_)
  repeat' walk_at "st"
  refine iteT ?_
  repeat' walk_at "st"
  refine oLenL (hl.up b.keep) (by omega) (fun _ _ => ?_)
  repeat' walk_at "st"
  refine iteT ?_
  repeat' walk_at "st"
  rename Bd _ _ _ _ _ => b1
  refine sWhile b1 (fun n g1 l1 M1 => M1 = M ∧ ∃ (lo hi : Nat) (t1 t2 : Tok), l1 = [(Str.ofString "a", .ref ad), (Str.ofString "x", x), (Str.ofString "lo", .int lo t1), (Str.ofString "hi", .int hi t2), (Str.ofString "key", .none)] ∧
    n = hi - lo ∧ 0 ≤ lo ∧ lo ≤ hi ∧ hi ≤ as.length ∧ (∀ i, 0 ≤ i → i < lo → p i = false) ∧ (∀ i, hi ≤ i → i < as.length → p i = true)) (as.length - 0)
    ⟨rfl, 0, as.length, _, _, rfl, rfl, Nat.le_refl _, by omega, Nat.le_refl _, fun i h1 h2 => absurd h2 (Nat.not_lt.mpr h1), fun i h1 h2 => absurd h2 (Nat.not_lt.mpr h1)⟩ ?_
  rintro n g1 l1 M1 h1 t1 k1 ⟨rfl, lo, hi, _, _, rfl, rfl, hl0, hlo, hhi, pl, ph⟩ b2
  have W1 := W.up k1
  have hl1 := hl.up k1
  repeat' walk_at "st"
  refine iteD (fun q => ?_) (fun q => ?_)
  · have q' : lo < hi := by omega
    repeat' walk_at "st"
    have em : ((lo : Int) + (hi : Int)).fdiv 2 = ((lo + hi) / 2 : Nat) := by
      rw [Int.fdiv_eq_ediv_of_nonneg _ (by decide)]; omega
    rename Bd _ _ _ _ _ => b3
    rw [em] at b3
    try rw [em]
    have m1 : (lo + hi) / 2 < hi := by omega
    have m0 : lo ≤ (lo + hi) / 2 := by omega
    generalize (lo + hi) / 2 = mid at *
    obtain ⟨v, hv⟩ : ∃ v, as[mid]? = some v := ⟨_, List.getElem?_eq_getElem (by omega)⟩
    refine gIdx (hl1.up b3.keep) (by omega) (by omega) (by simpa using hv) (by kernel_rfl!) ?_
    repeat' walk_at "st"
    refine hk.ask mid v hv _ _ _ _ ?_
    have k2 : Kp g1 g1 := Kp.rf
    repeat' walk_at "st"
    refine iteC (fun c => ?_) (fun c => ?_)
    · repeat' walk_at "st"
      rename Bd _ _ _ _ _ => b5
      have b6 := b5.fg (l' := [_, _, _, _, _]) (by walk_at "sub")
      refine WEnd.nxt (mid - lo) k2 b6 (by omega) ⟨rfl, lo, mid, _, _, rfl, rfl, by omega, by omega, by omega, pl, fun i h1 h2 => ?_⟩
      exact mono mid i (by omega) (by omega) c
    · repeat' walk_at "st"
      rename Bd _ _ _ _ _ => b5
      rw [show (mid : Int) + 1 = ((mid + 1 : Nat) : Int) by omega] at b5
      have b6 := b5.fg (l' := [_, _, _, _, _]) (by walk_at "sub")
      refine WEnd.nxt (hi - (mid + 1)) k2 b6 (by omega) ⟨rfl, mid + 1, hi, _, _, rfl, rfl, by omega, by omega, hhi, fun i h0 hi' => ?_, ph⟩
      cases e : p i with
      | false => rfl
      | true => rw [mono i mid (by omega) (by omega) e] at c; cases c
  · have q' : lo = hi := by omega
    subst q'
    repeat' walk_at "st"
    refine DoneF.ret ?_
    exact ⟨lo, _, g1, rfl, hl0, hhi, pl, ph, k1, b2.hp⟩
local macro_rules | `(tactic| walk_at "glow") => `(tactic| fail "no name")
local macro_rules | `(tactic| walk_at "stw") => `(tactic| fail "no step")
theorem conv_n (w : World) (prog : Program) (A : Around) (mb) (g h : Heap) (M) (gs dr tk os) (W : Wld (KK w) mb g) (H : Hp g M h) (hd : A.depth < 990) (self : Value) (x : Str) (t : Tok) (hr : ReNo (KK w) 73 x) :
    codeAny (model prog w) A (.call (.ref 108) ⟨[self, .str x t], [(Str.ofString "name", .bool true)]⟩) (Rt gs dr os fun v h' => v = .str x t ∧ Hp g M h') ⟨h, gs, dr, tk, os⟩ := by
  refine enter [(Str.ofString "self", self), (Str.ofString "value", .str x t), (Str.ofString "name", .bool true)] W H (by omega) rfl rfl (by kernel_rfl!) rfl (binds_peek W H.keep fun S => by kernel_rfl!) (by kernel_rfl!) (by kernel_rfl!) (by kernel_rfl!) rfl rfl rfl (fun L h0 tk0 b => ?_)
  repeat' walk_at "st"
  refine iteT ?_
  repeat' walk_at "st"
  refine iteT ?_
  repeat' walk_at "st"
  rename Bd _ _ _ _ _ => b1
  refine mSearch W b1.keep (by kernel_rfl!) ?_
  repeat' walk_at "st"
  refine oSearch W b1.keep (by kernel_rfl!) hr ?_
  repeat' walk_at "st"
  refine iteF ?_
  repeat' walk_at "st"
  exact DoneF.ret ⟨rfl, b1.hp⟩
theorem conv_v (w : World) (prog : Program) (A : Around) (mb) (g h : Heap) (M) (gs dr tk os) (W : Wld (KK w) mb g) (H : Hp g M h) (hd : A.depth < 990) (self : Value) (x : Str) (t : Tok) (hr : ReNo (KK w) 78 x) :
    codeAny (model prog w) A (.call (.ref 108) ⟨[self, .str x t], [(Str.ofString "name", .bool false)]⟩) (Rt gs dr os fun v h' => v = .str x t ∧ Hp g M h') ⟨h, gs, dr, tk, os⟩ := by
  refine enter [(Str.ofString "self", self), (Str.ofString "value", .str x t), (Str.ofString "name", .bool false)] W H (by omega) rfl rfl (by kernel_rfl!) rfl (binds_peek W H.keep fun S => by kernel_rfl!) (by kernel_rfl!) (by kernel_rfl!) (by kernel_rfl!) rfl rfl rfl (fun L h0 tk0 b => ?_)
  repeat' walk_at "st"
  refine iteT ?_
  repeat' walk_at "st"
  refine iteF ?_
  repeat' walk_at "st"
  rename Bd _ _ _ _ _ => b1
  refine mSearch W b1.keep (by kernel_rfl!) ?_
  repeat' walk_at "st"
  refine oSearch W b1.keep (by kernel_rfl!) hr ?_
  repeat' walk_at "st"
  refine iteF ?_
  repeat' walk_at "st"
  exact DoneF.ret ⟨rfl, b1.hp⟩
theorem m_conv (w : World) : findIn (KK w) (.ref 207) (Str.ofString "_convert_string_type") = some (some (.ref 108)) := by kernel_rfl!
theorem m_head (w : World) : findIn (KK w) (.ref 207) (Str.ofString "_headers") = some none := by kernel_rfl!
local macro_rules | `(tactic| walk_at "meth") => `(tactic| first | with_reducible exact m_conv _ | walk_at "methw")
local macro_rules | `(tactic| walk_at "methw") => `(tactic| fail "no method")
local macro_rules | `(tactic| walk_at "stw") => `(tactic| first
  | ((with_reducible refine' mInst (by assumption) ?k0 (by assumption) ?k1 ?k2 ?k3 ?k4 ?_); (case k1 => kernel_rfl!); (case k2 => walk_at "meth"); (case k3 => kernel_rfl!); (case k4 => kernel_rfl!); (case k0 => (exact Bd.keep (by assumption))))
  | ((with_reducible refine' gAttr (by assumption) ?k0 (by assumption) ?k1 ?k2 ?k3 ?k4 ?_); (case k1 => kernel_rfl!); (case k2 => kernel_rfl!); (case k3 => exact m_head _); (case k4 => kernel_rfl!); (case k0 => (exact Bd.keep (by assumption))); intro _)
  | ((with_reducible refine' mqFk (by assumption) ?k1 ?k2 ?_); (case k1 => kernel_rfl!); (case k2 => kernel_rfl!))
  | ((with_reducible refine' mqF (by assumption) ?k1 ?k2 ?_); (case k1 => kernel_rfl!); (case k2 => kernel_rfl!)))
theorem init_ (w : World) (prog : Program) (A : Around) (mb) (g h : Heap) (M) (gs dr tk os) (W : Wld (KK w) mb g) (T dx : Addr) (H : Hp g ((T, (· = instObj 207 dx)) :: (dx, (· = emptyDict)) :: M) h) (hh : A.handled = none) (hd : A.depth < 980) :
    codeAny (model prog w) A (.call (.ref 101) ⟨[.ref T], []⟩) (Rt gs dr os fun v h' => v = .none ∧ ∃ g' Hd, Kp g g' ∧ Tab g' 207 T Hd ∧ Hp g' ((Hd, lst []) :: M) h') ⟨h, gs, dr, tk, os⟩ := by
  refine enter [(Str.ofString "self", .ref T), (Str.ofString "headers", .none)] W H (by omega) rfl rfl (by kernel_rfl!) rfl (binds_peek W H.keep fun S => by kernel_rfl!) (by kernel_rfl!) (by kernel_rfl!) (by kernel_rfl!) rfl rfl rfl (fun L h0 tk0 b => ?_)
  repeat' walk_at "st"
  refine iteF ?_
  repeat' walk_at "st"
  rename Bd _ _ _ _ _ => b1
  refine oNewL (by decide) (fun D h2 k2 f2 il => ?_)
  obtain ⟨oD, eD, lD⟩ := il
  have b2 := b1.add k2 f2 eD lD
  repeat' walk_at "st"
  rename Bd _ _ _ _ _ => b3
  refine oTypeL (b3.hp.lst (.head _)) ?_
  repeat' walk_at "st"
  refine iteF ?_
  repeat' walk_at "st"
  obtain ⟨⟨o1, e1, rfl⟩, _⟩ := b3.hp.mu (T, (· = instObj 207 dx)) (by walk_at "mem")
  obtain ⟨⟨o2, e2, rfl⟩, _⟩ := b3.hp.mu (dx, (· = emptyDict)) (by walk_at "mem")
  have ep : ∀ tk, Obj.putName (Str.ofString "_headers") (PyData.keyHash w.params (Str.ofString "_headers")) (.str (Str.ofString "_headers") tk) (.ref D) emptyDict = dictOf [⟨PyData.keyHash w.params (Str.ofString "_headers"), .str (Str.ofString "_headers") tk, .ref D⟩] 1 := fun tk => putName_dict _ _ _ _ [] 0
  refine oSetA W b3.keep e1 e2 (by kernel_rfl!) (by kernel_rfl!) (by kernel_rfl!) (by kernel_rfl!) (by rfl) (fun tk => ⟨_, _, congrArg Obj.data (ep tk), by simp⟩) (fun tk => by rw [ep]; rfl) (fun h4 t4 tk4 x4 e4 => ?_)
  have b4 := b3.mset (q := (· = dictOf [⟨PyData.keyHash w.params (Str.ofString "_headers"), .str (Str.ofString "_headers") tk4, .ref D⟩] 1)) (by walk_at "mset") x4 e4 (ep tk4)
  repeat' walk_at "st"
  refine iteT ?_
  repeat' walk_at "st"
  refine sFor (fun _ => rfl) ?_
  repeat' walk_at "st"
  refine fListM2 hh b4 (a := D) (vs := []) (by walk_at "mem") (fun i v e => by simp at e) (by kernel_rfl!) (by kernel_rfl!) rfl (fun i g1 l1 M1 => M1 = (D, lst []) :: (T, (· = instObj 207 dx)) :: (dx, (· = dictOf [⟨PyData.keyHash w.params (Str.ofString "_headers"), .str (Str.ofString "_headers") tk4, .ref D⟩] 1)) :: M) rfl
    (fun i g' l' M' j => by rw [j]; walk_at "mem") (fun i Ta v1 v2 g' l' M' h' tk' I o hv => by simp at hv) ?_
  rintro g5 l5 _ h5 t5 k5 rfl b5
  repeat' walk_at "st"
  have H5 := b5.hp
  obtain ⟨⟨o6, e6, rfl⟩, _⟩ := H5.mu (T, (· = instObj 207 dx)) (by walk_at "mem")
  obtain ⟨⟨o7, e7, rfl⟩, _⟩ := H5.mu (dx, (· = dictOf [⟨PyData.keyHash w.params (Str.ofString "_headers"), .str (Str.ofString "_headers") tk4, .ref D⟩] 1)) (by walk_at "mem")
  have nd := H5.nd
  simp only [List.map_cons, List.nodup_cons, List.mem_cons, not_or] at nd
  obtain ⟨g6, k6, H6, fr⟩ := (H5.sub (M' := (D, lst []) :: M) (.cons_cons _ (.cons _ (.cons _ (.refl _))))).freeze
  have n1 : T ∉ ((D, lst []) :: M).map (·.1) := by
    simp only [List.map_cons, List.mem_cons, not_or]
    exact ⟨fun q => nd.1.1 q.symm, nd.2.1.2⟩
  have n2 : dx ∉ ((D, lst []) :: M).map (·.1) := by
    simp only [List.map_cons, List.mem_cons, not_or]
    exact ⟨fun q => nd.1.2.1 q.symm, nd.2.2.1⟩
  exact DoneF.next ⟨rfl, g6, D, k5.tr k6, ⟨_, _, _, _, fr _ _ e6 n1, fr _ _ e7 n2⟩, H6⟩
theorem make_ (w : World) (prog : Program) (A : Around) (mb) (g h : Heap) (M) (gs dr tk os) (W : Wld (KK w) mb g) (H : Hp g M h) (hh : A.handled = none) (hd : A.depth < 970) {E : Value → Shared → Prop} {Q : Value → Shared → Prop}
    (q : ∀ T Hd g' h' tk', Kp g g' → Tab g' 207 T Hd → Hp g' ((Hd, lst []) :: M) h' → Q (.ref T) ⟨h', gs, dr, tk', os⟩) : wpAny (model prog w) A (call (.ref 207) [] []) Q E ⟨h, gs, dr, tk, os⟩ := by
  refine oMake (fI := 101) (P := fun v h' => ∃ T g' Hd, v = .ref T ∧ Kp g g' ∧ Tab g' 207 T Hd ∧ Hp g' ((Hd, lst []) :: M) h') W H.keep (by kernel_rfl!) (by kernel_rfl!) (by kernel_rfl!) (fun x dx h' k f1 f2 e1 e2 hne => ?_) (fun v h' tk' ⟨T, g', Hd, ev, k', t', H'⟩ => by subst ev; exact q T Hd g' h' tk' k' t' H')
  have H1 : Hp g ((x, (· = instObj 207 dx)) :: (dx, (· = emptyDict)) :: M) h' := H.add2 k f1 f2 hne e1 e2 rfl rfl
  refine Rt.mono (init_ w prog _ mb _ _ _ _ _ _ _ W x dx H1 hh (by show A.depth + 1 < 980; omega)) fun v h'' ⟨ev, g', Hd, k', t', H'⟩ => ⟨ev, x, g', Hd, rfl, k', t', H'⟩
theorem IsL.frz {h h' g' : Heap} {D : Addr} {vs : List Value} (x : IsL h' D vs) (fr : ∀ a o, h.get? a = none → h'.get? a = some o → g'.get? a = some o) (f : h.get? D = none) : IsL g' D vs := by
  obtain ⟨o, e, q⟩ := x
  exact ⟨o, fr _ _ f e, q⟩
theorem dp {a m n : Nat} (h : a < m) (e : m + 1 ≤ n := by decide) : a + 1 < n := Nat.lt_of_lt_of_le (Nat.succ_lt_succ h) e
def nameOf (n : Int) : Str := match (n.fmod 6).toNat with
  | 0 => Str.ofString "a" | 1 => Str.ofString "ab" | 2 => Str.ofString "abc" | 3 => Str.ofString "A" | 4 => Str.ofString "aB" | _ => Str.ofString "AbC"
theorem fmod_lt {a b : Int} (hb : 0 < b) : 0 ≤ a.fmod b ∧ a.fmod b < b := ⟨Int.fmod_nonneg_of_pos _ hb, Int.fmod_lt_of_pos _ hb⟩
theorem name_ (w : World) (prog : Program) (A : Around) (mb) (g h : Heap) (M) (gs dr tk os) (W : Wld (KK w) mb g) (H : Hp g M h) (hd : A.depth < 980) (n : Int) (t : Tok) :
    codeAny (model prog w) A (.call (.ref 218) ⟨[.int n t], []⟩) (Rt gs dr os fun v h' => ∃ t, v = .str (nameOf n) t ∧ Hp g M h') ⟨h, gs, dr, tk, os⟩ := by
  refine enter [(Str.ofString "number", .int n t)] W H (by omega) rfl rfl (by kernel_rfl!) rfl (binds_peek W H.keep fun S => by kernel_rfl!) (by kernel_rfl!) (by kernel_rfl!) (by kernel_rfl!) rfl rfl rfl (fun L h0 tk0 b => ?_)
  repeat' walk_at "st"
  rename Bd _ _ _ _ _ => b1
  refine oNewL (by simp) (fun D h2 k2 f2 il => ?_)
  have b2 := b1.kp k2
  repeat' walk_at "st"
  have hf := fmod_lt (a := n) (b := 6) (by decide)
  obtain ⟨k, hk⟩ : ∃ k : Nat, n.fmod 6 = k := ⟨_, (Int.toNat_of_nonneg hf.1).symm⟩
  have hk6 : k < 6 := by omega
  have hn : nameOf n = nameOf k := by
    unfold nameOf
    have : (k : Int).fmod 6 = k := by rw [Int.fmod_eq_emod_of_nonneg _ (by decide)]; omega
    rw [this, hk]
  rw [hn]
  generalize hv : ([_, _, _, _, _, _] : List Value) = vs at il ⊢
  have e : ∃ t, vs[k]? = some (.str (nameOf k) t) := by
    subst hv
    rcases k with _ | _ | _ | _ | _ | _ | k <;> first | exact ⟨_, rfl⟩ | omega
  obtain ⟨t', e⟩ := e
  refine gIdx (v := .str (nameOf k) t') il hf.1 (by omega) (by rw [hk]; exact e) (by kernel_rfl!) ?_
  exact DoneF.ret ⟨_, rfl, b2.hp⟩
inductive Rws {α : Type} (R : List Value → List α → Prop) (g : Heap) : List Value → List (List α) → Prop
  | nil : Rws R g [] []
  | cons {D : Addr} {us : List Value} {r : List α} {vs rs} : IsL g D us → R us r → Rws R g vs rs → Rws R g (.ref D :: vs) (r :: rs)
namespace Rws
variable {α : Type} {R : List Value → List α → Prop} {g g' : Heap} {vs us : List Value} {rs qs : List (List α)}
theorem up (k : Kp g g') (x : Rws R g vs rs) : Rws R g' vs rs := by
  induction x with
  | nil => exact .nil
  | cons a b _ ih => exact .cons (a.up k) b ih
theorem len (x : Rws R g vs rs) : vs.length = rs.length := by
  induction x with
  | nil => rfl
  | cons _ _ _ ih => simp [ih]
theorem at_ (x : Rws R g vs rs) : ∀ {i : Nat} {r}, rs[i]? = some r → ∃ D us, vs[i]? = some (.ref D) ∧ IsL g D us ∧ R us r := by
  induction x with
  | nil => intro i r e; simp at e
  | @cons D us r vs rs a b _ ih =>
    intro i q e
    cases i with
    | zero => simp at e; subst e; exact ⟨D, us, rfl, a, b⟩
    | succ i => rw [List.getElem?_cons_succ] at e; exact ih e
theorem snoc {D : Addr} {us : List Value} {r : List α} (x : Rws R g vs rs) (a : IsL g D us) (b : R us r) : Rws R g (vs ++ [.ref D]) (rs ++ [r]) := by
  induction x with
  | nil => exact .cons a b .nil
  | cons a b _ ih => exact .cons a b ih
end Rws
inductive NsAre : List Value → List Nat → Prop
  | nil : NsAre [] []
  | cons (n : Nat) (t : Tok) {vs ns} : NsAre vs ns → NsAre (.int n t :: vs) (n :: ns)
theorem NsAre.len : ∀ {vs : List Value} {ys : List Nat}, NsAre vs ys → vs.length = ys.length
  | _, _, .nil => rfl
  | _, _, .cons _ _ h => by simp [NsAre.len h]
theorem NsAre.at_ : ∀ {vs : List Value} {ys : List Nat}, NsAre vs ys → ∀ {i : Nat} {y}, ys[i]? = some y → ∃ t, vs[i]? = some (.int y t)
  | _, _, .nil, _, _, e => by simp at e
  | _, _, .cons y t h, 0, _, e => by simp at e; subst e; exact ⟨t, rfl⟩
  | _, _, .cons y t h, i + 1, _, e => by simp at e ⊢; exact NsAre.at_ h e
theorem NsAre.append : ∀ {vs : List Value} {ys : List Nat} {us zs}, NsAre vs ys → NsAre us zs → NsAre (vs ++ us) (ys ++ zs)
  | _, _, _, _, .nil, h => h
  | _, _, _, _, .cons y t h, h' => .cons y t (NsAre.append h h')
theorem NsAre.take : ∀ {vs : List Value} {ys : List Nat}, NsAre vs ys → ∀ n, NsAre (vs.take n) (ys.take n)
  | _, _, .nil, n => by simp; exact .nil
  | _, _, .cons y t h, 0 => .nil
  | _, _, .cons y t h, n + 1 => .cons y t (NsAre.take h n)
def wS (ls : List Nat) : Str := ⟨(ls.map (97 + ·)).toArray⟩
theorem wS_snoc (ls : List Nat) (c : Nat) : wS (ls ++ [c]) = wS ls ++ (⟨#[97 + c]⟩ : Str) := by
  show _ = Str.append _ _
  simp [wS, Str.append]
theorem rng_ok (n : Nat) (h : n ≤ 100) : Builtin.Range.small 0 n 1 = true ∧ Builtin.Range.rangeSize 0 n 1 = (n : Int) := by
  have : (List.range 101).all (fun n => Builtin.Range.small 0 (n : Nat) 1 && Builtin.Range.rangeSize 0 (n : Nat) 1 == ((n : Nat) : Int)) = true := by decide +kernel
  have := List.all_eq_true.mp this n (List.mem_range.mpr (by omega))
  simpa using this
theorem abc_size : (Str.ofString "abc").cps.size = 3 := by kernel_rfl!
namespace Pl
def sub : List Nat → List Nat → Bool
  | [], _ => true
  | _ :: _, [] => false
  | a :: as, b :: bs => if Nat.beq a b then sub as bs else sub (a :: as) bs
/-- a stretch -/
def str (xs : List Nat) (i p : Nat) : List Nat := (xs.take i).drop p
end Pl
theorem wS_len (L : List Nat) : (wS L).length = L.length := by simp [wS, Str.length]
theorem from_nat (n i : Nat) : fromIndex n (i : Int) = i := by
  unfold fromIndex
  have : ¬ ((i : Int) < 0) := by omega
  rw [if_neg this]
  omega
theorem at_char (L : List Nat) (a i : Nat) : StrLaws.At (wS L) (⟨#[97 + a]⟩ : Str) L.length i ↔ L[i]? = some a := by
  unfold StrLaws.At
  have e := StrLaws.subAt_one (wS L) (97 + a) i
  rw [wS_len] at e
  refine Iff.trans e ?_
  simp only [wS, List.getElem?_map, Option.map_eq_some_iff]
  constructor
  · rintro ⟨b, hb, hab⟩
    rw [hb]; congr 1; omega
  · intro h; exact ⟨a, h, rfl⟩
theorem range_split {s n a : Nat} {pre post : List Nat} (h : List.range' s n = pre ++ a :: post) : ∀ k, s ≤ k → k < a → k ∈ pre := by
  intro k hs hk
  have hL : n = pre.length + (post.length + 1) := by
    have := congrArg List.length h
    simpa using this
  have hlen : s + pre.length = a := by
    have h1 : (List.range' s n)[pre.length]? = some a := by rw [h]; simp
    rw [List.getElem?_range'] at h1
    · simpa using h1
    · omega
  have h2 : (List.range' s n)[k - s]? = pre[k - s]? := by rw [h, List.getElem?_append_left (by omega)]
  rw [List.getElem?_range'] at h2
  · have h3 : pre[k - s]? = some k := by rw [← h2]; simp; omega
    exact List.mem_of_getElem? h3
  · omega
theorem occ_from (x y : Str) (lo hi : Nat) : (Builtin.Str.occurrences x y lo hi 1 = [] ∧ ∀ i, lo ≤ i → i ≤ hi → ¬ StrLaws.At x y hi i) ∨ ∃ i r, Builtin.Str.occurrences x y lo hi 1 = i :: r ∧ lo ≤ i ∧ StrLaws.At x y hi i ∧ ∀ k, lo ≤ k → k < i → ¬ StrLaws.At x y hi k := by
  rw [StrLaws.occ_eq]
  rcases StrLaws.occ_first x y hi 1 (Nat.le_refl _) (List.range' lo (hi + 1 - lo)) lo (fun i h => by simp [List.mem_range'] at h; omega) with ⟨h0, hn⟩ | ⟨pre, a, post, e, h0, ha, hn⟩
  · refine .inl ⟨by rw [h0], fun i h1 h2 => ?_⟩
    exact hn i (by simp only [List.mem_range'_1]; omega)
  · refine .inr ⟨a, ((forIn (List.range' lo (hi + 1 - lo)) ((#[] : Array Nat), lo) (StrLaws.occBody x y hi 1)).run.fst.toList).tail, ?_, ?_, ha, fun k h1 hk => hn k (range_split e k h1 hk)⟩
    · generalize (forIn (List.range' lo (hi + 1 - lo)) ((#[] : Array Nat), lo) (StrLaws.occBody x y hi 1)).run.fst = arr at h0
      have h1 : arr.toList[0]? = some a := by simpa using h0
      cases hL : arr.toList with
      | nil => rw [hL] at h1; cases h1
      | cons b t => rw [hL] at h1; simp at h1; rw [h1]; rfl
    · have : a ∈ List.range' lo (hi + 1 - lo) := by rw [e]; simp
      simp only [List.mem_range'_1] at this
      omega
theorem sub_nil : ∀ M : List Nat, Pl.sub [] M = true
  | [] => rfl
  | _ :: _ => rfl
theorem sub_none {a : Nat} {r : List Nat} : ∀ {M : List Nat}, a ∉ M → Pl.sub (a :: r) M = false
  | [], _ => rfl
  | b :: M, h => by
    have hb : Nat.beq a b = false := by
      cases e : Nat.beq a b with
      | false => rfl
      | true => exact absurd (.head _) (Nat.eq_of_beq_eq_true e ▸ h)
    unfold Pl.sub
    rw [hb]
    exact sub_none (fun q => h (.tail _ q))
theorem sub_at {a : Nat} {r post : List Nat} : ∀ {pre : List Nat}, a ∉ pre → Pl.sub (a :: r) (pre ++ a :: post) = Pl.sub r post
  | [], _ => by
    show (if Nat.beq a a = true then _ else _) = _
    rw [if_pos (Nat.beq_refl a)]
  | b :: M, h => by
    have hb : Nat.beq a b = false := by
      cases e : Nat.beq a b with
      | false => rfl
      | true => exact absurd (.head _) (Nat.eq_of_beq_eq_true e ▸ h)
    show (if Nat.beq a b = true then _ else _) = _
    rw [hb]
    exact sub_at (fun q => h (.tail _ q))
def sg (a : Nat) : Str := ⟨#[97 + a]⟩
def lt (v : Int) : Nat := (v.fmod 3).toNat
def low3 : Nat → Str
  | 0 => Str.ofString "a"
  | 1 => Str.ofString "ab"
  | _ => Str.ofString "abc"
theorem name_k (v : Int) : ∃ k : Nat, k < 6 ∧ nameOf v = nameOf (k : Nat) ∧ lt v = k % 3 := by
  have h6 := fmod_lt (a := v) (b := 6) (by decide)
  refine ⟨(v.fmod 6).toNat, by omega, ?_, ?_⟩
  · unfold nameOf
    have : (((v.fmod 6).toNat : Nat) : Int).fmod 6 = v.fmod 6 := by
      rw [Int.fmod_eq_emod_of_nonneg _ (by decide), Int.toNat_of_nonneg h6.1, Int.fmod_eq_emod_of_nonneg _ (by decide)]
      omega
    rw [this]
  · unfold lt
    rw [Int.fmod_eq_emod_of_nonneg _ (by decide), Int.fmod_eq_emod_of_nonneg _ (by decide)]
    omega
theorem name_tab : (List.range 6).all (fun k => (Txt.lower (nameOf (k : Nat)) == low3 (k % 3)) && decide ((nameOf (k : Nat)).length = k % 3 + 1)) = true := by decide +kernel
theorem low_name (v : Int) : Txt.lower (nameOf v) = low3 (lt v) ∧ (nameOf v).length = lt v + 1 := by
  obtain ⟨k, hk, e1, e2⟩ := name_k v
  have := List.all_eq_true.mp name_tab k (List.mem_range.mpr hk)
  rw [e1, e2]
  simpa using this
theorem lt_lt (v : Int) : lt v < 3 := by
  have := fmod_lt (a := v) (b := 3) (by decide)
  unfold lt; omega
theorem low3_eq {a b : Nat} (ha : a < 3) (hb : b < 3) : (low3 a == low3 b) = Nat.beq a b := by
  have : ∀ a, a < 3 → ∀ b, b < 3 → (low3 a == low3 b) = Nat.beq a b := by decide +kernel
  exact this a ha b hb
theorem re_low (w : World) (c : Nat) (h : c < 3) : ReNo (KK w) 73 (low3 c) := by
  intro t S
  rcases c with _ | _ | _ | c
  · kernel_rfl!
  · kernel_rfl!
  · kernel_rfl!
  · omega
theorem re_name (w : World) (v : Int) : ReNo (KK w) 73 (nameOf v) := by
  obtain ⟨k, hk, e1, _⟩ := name_k v
  rw [e1]
  intro t S
  rcases k with _ | _ | _ | _ | _ | _ | k
  · kernel_rfl!
  · kernel_rfl!
  · kernel_rfl!
  · kernel_rfl!
  · kernel_rfl!
  · kernel_rfl!
  · omega
inductive Pull (x : Addr × (Obj → Prop)) : List (Addr × (Obj → Prop)) → List (Addr × (Obj → Prop)) → Prop
  | hd {r} : Pull x (x :: r) r
  | tl {p r r'} : Pull x r r' → Pull x (p :: r) (p :: r')
theorem Pull.perm {x M M'} (p : Pull x M M') : M.Perm (x :: M') := by
  induction p with
  | hd => exact .refl _
  | tl _ ih => exact (ih.cons _).trans (List.Perm.swap _ _ _)
theorem ZsAre_take {vs : List Value} {ns : List Int} (h : IntsAre vs ns) (n : Nat) : IntsAre (slicePick vs.toArray none (some (n : Int)) none).toList (ns.take n) := by
  have := slice_ints_uptoW h (y := n) (by omega)
  simpa using this
theorem ZsAre_len : ∀ {vs : List Value} {ys : List Int}, IntsAre vs ys → vs.length = ys.length
  | _, _, .nil => rfl
  | _, _, .cons _ _ h => by simp [ZsAre_len h]
theorem ZsAre_at : ∀ {vs : List Value} {ys : List Int}, IntsAre vs ys → ∀ {i : Nat} {y}, ys[i]? = some y → ∃ t, vs[i]? = some (.int y t)
  | _, _, .nil, _, _, e => by simp at e
  | _, _, .cons y t h, 0, _, e => by simp at e; subst e; exact ⟨t, rfl⟩
  | _, _, .cons y t h, i + 1, _, e => by simp at e ⊢; exact ZsAre_at h e
theorem ZsAre_at' : ∀ {vs : List Value} {ys : List Int}, IntsAre vs ys → ∀ {i : Nat} {v}, vs[i]? = some v → ∃ y t, ys[i]? = some y ∧ v = .int y t
  | _, _, .nil, _, _, e => by simp at e
  | _, _, .cons y t h, 0, _, e => by simp at e; exact ⟨y, t, rfl, e.symm⟩
  | _, _, .cons y t h, i + 1, _, e => by rw [List.getElem?_cons_succ] at e; exact ZsAre_at' h e
theorem ZsAre_app : ∀ {vs : List Value} {ys : List Int} {us zs}, IntsAre vs ys → IntsAre us zs → IntsAre (vs ++ us) (ys ++ zs)
  | _, _, _, _, .nil, h => h
  | _, _, _, _, .cons y t h, h' => .cons y t (ZsAre_app h h')
theorem abc_at (c : Nat) (h : c < 3) : (seqIndex? ((c : Nat) : Int) (Str.ofString "abc").length).bind ((Str.ofString "abc").cps[·]?) = some ((97 + c : Nat) : Nat) := by
  have : ∀ c : Nat, c < 3 → (seqIndex? ((c : Nat) : Int) (Str.ofString "abc").length).bind ((Str.ofString "abc").cps[·]?) = some ((97 + c : Nat) : Nat) := by decide +kernel
  exact this c h
theorem cut_count {α : Type} (q : α → Bool) : ∀ (l : List α) (r : Nat), r ≤ l.length → (∀ i x, i < r → l[i]? = some x → q x = true) → (∀ i x, r ≤ i → l[i]? = some x → q x = false) → (l.filter q).length = r
  | [], r, h, _, _ => by simp at h; subst h; rfl
  | a :: l, 0, _, _, h2 => by
    have ha := h2 0 a (Nat.le_refl _) rfl
    have ih := cut_count q l 0 (Nat.zero_le _) (fun i x h => absurd h (Nat.not_lt_zero _)) (fun i x _ e => h2 (i + 1) x (Nat.zero_le _) e)
    rw [List.filter_cons_of_neg (by simp [ha])]; exact ih
  | a :: l, r + 1, h, h1, h2 => by
    have ha := h1 0 a (Nat.succ_pos _) rfl
    have ih := cut_count q l r (by simpa using h) (fun i x hi e => h1 (i + 1) x (by omega) e) (fun i x hi e => h2 (i + 1) x (by omega) e)
    rw [List.filter_cons_of_pos ha, List.length_cons, ih]
theorem rows_at {α : Type} (f : Nat → α) (N i : Nat) (h : i ≤ N) : ((List.range (N + 1)).map f)[i]? = some (f i) := by
  rw [List.getElem?_map, List.getElem?_range (by omega)]; rfl
theorem wS_drop (L : List Nat) (a k : Nat) : ((wS L).cps.toList.drop a).take k = ((L.drop a).take k).map (97 + ·) := by
  simp [wS, List.map_take, List.map_drop]
theorem slS_mid (L : List Nat) (a b : Nat) (hab : a ≤ b) (hb : b ≤ L.length) : slS (wS L) (some (a : Int)) (some (b : Int)) none = wS (Pl.str L b a) := by
  have hx : (wS L).length = L.length := wS_len L
  have e := StrLaws.sliced_plain (wS L) hab (by rw [hx]; exact hb)
  have el := StrLaws.strSliceIndices_plain (len := (wS L).length) hab (by rw [hx]; exact hb)
  have es : (L.drop a).take (b - a) = Pl.str L b a := by
    unfold Pl.str
    rw [List.drop_take]
  unfold slS
  split
  · rename_i hc
    have hlen : b - a = L.length := by
      simp only [Option.getD_none, Bool.and_eq_true, beq_iff_eq] at hc
      have := hc.2
      rw [el] at this
      simpa [hx] using this
    have ha : a = 0 := by omega
    subst ha
    have : Pl.str L b 0 = L := by unfold Pl.str; rw [List.take_of_length_le (by omega)]; rfl
    rw [this]
  · simp only [Option.getD_none]
    rw [e, wS_drop, es]
    rfl
theorem abc_c (k c : Nat) (h : (Str.ofString "abc").cps[k]? = some c) : k < 3 ∧ c = 97 + k := by
  have hk : k < 3 := (Array.getElem?_eq_some_iff.mp h).1
  have : ∀ j, j < 3 → (Str.ofString "abc").cps[j]? = some (97 + j) := by decide +kernel
  rw [this k hk] at h
  exact ⟨hk, (Option.some.inj h).symm⟩
theorem sg_len (a : Nat) : (sg a).length = 1 := rfl
theorem wS_cons (a : Nat) (r : List Nat) : wS (a :: r) = sg a ++ wS r := by
  show Str.mk _ = Str.mk _
  congr 1
  simp [wS, sg]
theorem str_append_empty (x : Str) : x ++ Str.empty = x := by
  show Str.mk _ = x
  cases x; simp [Str.empty]
theorem join_sg (xs : List Nat) : Txt.join Str.empty (xs.map sg) = wS xs := by
  show Builtin.Str.glued Str.empty (xs.map sg) = wS xs
  rw [StrLaws.glued_eq_join]
  induction xs with
  | nil => rfl
  | cons a r ih =>
    cases r with
    | nil => rfl
    | cons b q =>
      rw [wS_cons, ← ih]
      show sg a ++ Str.empty ++ _ = _
      rw [str_append_empty]
theorem joinOk_sg (xs : List Nat) (h : xs.length ≤ 1000) : JoinOk Str.empty (xs.map sg) = true := by
  unfold JoinOk
  rw [StrLaws.joinTotal, Bool.not_eq_true']
  have : ((xs.map sg).map (·.length)).sum ≤ xs.length := by
    clear h
    induction xs with
    | nil => exact Nat.le_refl _
    | cons a r ih => simp only [List.map_cons, List.sum_cons, List.length_cons, sg_len]; omega
  have e0 : Str.empty.length = 0 := rfl
  unfold Builtin.Str.tooLong
  rw [decide_eq_false_iff_not, e0]
  have := sz_line (n := xs.length) (by omega)
  omega
theorem sg_inj {a b : Nat} : (sg a == sg b) = Nat.beq a b := by
  rw [Bool.eq_iff_iff, beq_iff_eq, Nat.beq_eq]
  constructor
  · intro h
    have : (sg a).cps = (sg b).cps := by rw [h]
    simp only [sg, Array.mk.injEq, List.cons.injEq, and_true] at this
    omega
  · rintro rfl; rfl
theorem wS_inj {a b : List Nat} (h : wS a = wS b) : a = b := by
  have h1 : (wS a).cps.toList = (wS b).cps.toList := by rw [h]
  simp only [wS] at h1
  exact List.map_inj_right (fun x y e => by omega) |>.mp h1
theorem wS_eq (a b : List Nat) : (wS a == wS b) = decide (a = b) := by
  rw [Bool.eq_iff_iff, beq_iff_eq, decide_eq_true_eq]
  exact ⟨wS_inj, fun e => by rw [e]⟩
/-! ## the script's list -/
section
variable {prog : Program} {w : World} {A : Around} {E : Value → Shared → Prop} {h : Heap} {gs : Array GenState} {dr : Drawn} {tk : Nat} {os : OsState} {a : Addr} {vs : List Value} {value slice : Expr}
theorem IsI.up {h h' : Heap} {a : Addr} {vs : Array Value} (x : h.IsList a vs) (k : Kp h h') : h'.IsList a vs := let ⟨o, e, r⟩ := x; ⟨o, k _ _ e, r⟩
theorem gCutI {Q : Value → Shared → Prop} {sl : Addr} {vl vu vst : Value} {lo hi st : Option Int} (hl : h.IsList a vs.toArray) (hz : vs.length ≤ 1000000) (hc : h.IsSliceOf sl vl vu vst) (pl : IsPart vl lo) (pu : IsPart vu hi) (ps : IsPart vst st) (h0 : st ≠ some 0)
    (hs : ∃ ops, subscripted slice false (.ref a) (.ref sl) = operate ops (getItem (.ref a) (.ref sl)))
    (q : ∀ D h', Kp h h' → h.get? D = none → IsL h' D (slicePick vs.toArray lo hi st).toList → Q (.ref D) ⟨h', gs, dr, tk, os⟩) : wpAny (model prog w) A (subscriptTail value slice (.ref a) (.ref sl)) Q E ⟨h, gs, dr, tk, os⟩ :=
  let ⟨_, hs⟩ := hs
  tail_any (show Shared.TypeIs ⟨h, gs, dr, tk, os⟩ (.ref a) "list" from hl.typeIs) F.slot_list_getitem.lookup
    (wpAny_getItem_list_slice hl hc pl pu ps h0 (q _ _ (Kp.push _ _) (fresh_size h) (IsL.of (by rw [Array.toArray_toList]; exact ⟨0, Heap.get?_push_size _ rfl⟩))) (by rw [List.size_toArray]; exact sz_line hz)) hs
end
/-! ## a call with a new object among its binds -/
theorem alloc_peek {α : Type} {K : Frag} {M : Model} {A : Around} {E : Value → Shared → Prop} {Q : α → Shared → Prop} {s : Shared} {o : Obj} (X : K.In s.heap) :
    ∀ (t : Sem α) (g : Addr → Sem α), peekA K ⟨M.prog, M.w.params⟩ t = some (o, g) → wpAny M A (g s.heap.objs.size) Q E { s with heap := s.heap.push o } → wpAny M A t Q E s := by
  intro t
  induction t with
  | rule _ k ih => intro g e q Γ p hΓ; exact ih () g e q Γ p hΓ
  | point _ k ih => intro g e q Γ p hΓ; exact ih () g e q Γ p hΓ
  | ask k ih => intro g e q Γ p hΓ; exact ih _ g e q Γ p hΓ
  | load a _ k ih =>
    intro g e q Γ p hΓ
    simp only [peekA] at e
    split at e
    · rename_i ob ho; exact ⟨ob, X _ _ ho, ih ob g e q Γ p hΓ⟩
    · cases e
  | alloc ob k _ =>
    intro g e q
    have e : some (ob, k) = some (o, g) := e
    obtain ⟨e1, e2⟩ := Prod.mk.inj (Option.some.inj e)
    subst e1
    subst e2
    show wpAny M A (alloc ob >>= k) Q E s
    exact wpAny_bind (wpAny_alloc q)
  | _ => intro g e; cases e
theorem enterK {K : Frag} {mb} {prog : Program} {w : World} {A : Around} {g h : Heap} {M : List (Addr × (Obj → Prop))} {gs dr tk os} {P : Value → Heap → Prop} {f : Addr} {o o₁ : Obj} {fd : FuncData} {body : List Stmt} {args : Args} (binds : Addr → List (Str × Value)) (W : Wld K mb g) (H : Hp g M h)
    (hroom : A.depth < 1000) (ho : K.lookup f = some o) (hdata : o.data = .func fd) (hcd : codeIn K fd.code fd.qualname = true)
    (hbody : fd.body = .stmts body) (hfr : o₁.isFreed = false) (hp : ∀ S D, (peekA K S (bindArgs fd args)).map (fun p => (p.1, peek K S (p.2 D))) = some (o₁, some (binds D)))
    (hcell : (fd.scope.names.all fun x => x.2 != .cell) = true) (hloc : ∀ D, ((binds D).all fun x => decide (fd.scope.names.lookup x.1 = some .local)) = true) (hnd : ∀ D, nodupK (binds D) = true)
    (hco : fd.scope.isCoroutine = false) (hgen : fd.scope.isGenerator = false) (hk : fd.scope.kind = .function)
    (q : ∀ D L h0 tk0, (D == sysModules) = false → Bd g L (binds D) ((D, (· = o₁)) :: M) h0 → wpAny (model prog w) (A.deeper (callEnv fd L f)) (execs body (callEnv fd L f)) (DoneF gs dr os P) (fun _ _ => False) ⟨h0, gs, dr, tk0, os⟩) :
    codeAny (model prog w) A (.call (.ref f) args) (Rt gs dr os P) ⟨h, gs, dr, tk, os⟩ := by
  have W' := W.up H.keep
  refine codeAny_call_function hroom (W'.kin f _ ho) hdata hco hgen hbody (codeRec_of W'.kin hcd) ?_
  obtain ⟨g₁, hp1, hp2⟩ : ∃ g₁, peekA K ⟨(model prog w).prog, (model prog w).w.params⟩ (bindArgs fd args) = some (o₁, g₁) ∧ ∀ D, peek K ⟨(model prog w).prog, (model prog w).w.params⟩ (g₁ D) = some (binds D) := by
    cases e : peekA K ⟨(model prog w).prog, (model prog w).w.params⟩ (bindArgs fd args) with
    | none => have := hp ⟨(model prog w).prog, (model prog w).w.params⟩ 0; rw [e] at this; cases this
    | some p =>
      obtain ⟨o', g'⟩ := p
      have h0 := hp ⟨(model prog w).prog, (model prog w).w.params⟩ 0
      rw [e] at h0
      have h0 : some (o', peek K ⟨(model prog w).prog, (model prog w).w.params⟩ (g' 0)) = some (o₁, some (binds 0)) := h0
      obtain ⟨rfl, _⟩ := Prod.mk.inj (Option.some.inj h0)
      refine ⟨g', rfl, fun D => ?_⟩
      have h1 := hp ⟨(model prog w).prog, (model prog w).w.params⟩ D
      rw [e] at h1
      exact (Prod.mk.inj (Option.some.inj h1)).2
  refine alloc_peek W'.kin _ _ hp1 ?_
  refine (Looks.of_peek (M := model prog w) (W'.up (Kp.push h o₁)).kin (hp2 _)).here ?_
  have W'' := W'.up (Kp.push h o₁)
  have H1 : Hp g ((h.objs.size, (· = o₁)) :: M) (h.push o₁) := H.add (Kp.push h o₁) (fresh_size h) (Heap.get?_push_size _ hfr) rfl
  refine wpAny_newFunctionEnv (s := ⟨h.push o₁, gs, dr, tk, os⟩) (fun x hx => by simpa using List.all_eq_true.mp hcell x hx) (locs (hloc _)) (fun h₀ hns₀ hsb₀ => ⟨W''.lim.fresh _ hsb₀, codeAny_func ?_⟩) hk
  refine wpAny_mono (q _ _ h₀ _ (beq_eq_false_iff_ne.mpr (Nat.ne_of_gt (modules_low W'.lim))) (Bd.enter H1 hns₀ (fun b o e => hsb₀.extBut b o (Nat.ne_of_lt (Heap.lt_size e)) (Heap.get?_push_of_some _ e)) (hnd _))) (fun fl s' hd => ⟨_, rfl, hd⟩) fun _ _ x => x.elim
/-! ## no items of a dict -/
section
variable {prog : Program} {w : World} {A : Around} {E : Value → Shared → Prop} {env : Env} {g h : Heap} {L : Addr} {l : List (Str × Value)} {M : List (Addr × (Obj → Prop))}
  {gs : Array GenState} {dr : Drawn} {tk : Nat} {os : OsState} {d : Addr}
theorem dict0 {h : Heap} (e : h.get? d = some (dictOf [] 0)) : h.DictAt (strKind prog w) d [] 0 :=
  ⟨_, _, e, ⟨rfl, rfl, rfl⟩, rfl, fun i hi => by simp at hi, .nil, by simp⟩
theorem mItems {pl} {Q : Value × List Value → Shared → Prop} (e : h.get? d = some (dictOf [] 0)) (q : Q (.builtin "dict.items", [.ref d]) ⟨h, gs, dr, tk, os⟩) : wpAny (model prog w) A (getMethod (.ref d) "items" pl) Q E ⟨h, gs, dr, tk, os⟩ :=
  getMethod_builtin (show Shared.TypeIs ⟨h, gs, dr, tk, os⟩ (.ref d) "dict" from ⟨_, e, rfl⟩) F.plainAttrs_dict F.slot_dict_items F.type_dict_items (fun a x => by cases x; exact ⟨_, e, rfl⟩) q
theorem oItems {Q : Value → Shared → Prop} (e : h.get? d = some (dictOf [] 0)) (hs : (d == sysModules) = false) (q : ∀ v h', Kp h h' → h'.IsItemsView v d → Q (.ref v) ⟨h', gs, dr, tk, os⟩) : wpAny (model prog w) A (call (.builtin "dict.items") [.ref d] []) Q E ⟨h, gs, dr, tk, os⟩ :=
  call_meetsIn PySem.F.slot_dict_items (show Shared.TypeIs ⟨h, gs, dr, tk, os⟩ (.ref d) "dict" from ⟨_, e, rfl⟩) PySem.F.entry_dict_items (PySem.F.args_dict_items_1 _) (meets_dict_items (strKind prog w) d hs)
    ⟨⟨[], (dict0 e).dictOf⟩, q _ _ (Kp.push _ _) ⟨_, Heap.get?_push_size _ rfl, rfl, rfl⟩⟩
theorem walks0 (hh : A.handled = none) (I : Addr) (hne : d ≠ I) : Walks prog w A I [I, d] [I] 0 (fun _ _ => False) (fun _ h => (∃ ok ov, IsItemIter h I d 0 0 0 ok ov) ∧ h.get? d = some (dictOf [] 0)) where
  sub := fun b hb => by simp at hb; simp [hb]
  frame := fun i h h' st hk => by
    obtain ⟨⟨ok, ov, he⟩, hm⟩ := st
    exact ⟨⟨ok, ov, hk I (by simp) _ he⟩, hk d (by simp) _ hm⟩
  item := fun i s Q E hi => absurd hi (Nat.not_lt_zero _)
  done := fun s Q E st hQ => by
    obtain ⟨⟨ok, ov, he⟩, hm⟩ := st
    exact wpAny_pyNext_items_end (knd := strKind prog w) (kvs := []) hh he (dict0 hm) rfl fun h' hx => hQ h' s.toks fun b o hb e => hx b o (fun h => hb (by simp [h])) e
  self := fun i s Q E st q => by
    obtain ⟨⟨ok, ov, he⟩, hm⟩ := st
    exact kcp_self he q
theorem fItems0 {v : Addr} {target : Expr} {body : List Stmt} {Q : Flow → Shared → Prop} (hh : A.handled = none) (b : Bd g L l M h) (hd : g.get? d = some (dictOf [] 0)) (hv : h.IsItemsView v d)
    (done : ∀ g' h' tk', Kp g g' → Bd g' L l M h' → Q .next ⟨h', gs, dr, tk', os⟩) :
    wpAny (model prog w) A (pyIter (.ref v)) (fun it s₂ => codeAny (model prog w) A (.forLoop target it body [] env) (forR Q) s₂) E ⟨h, gs, dr, tk, os⟩ := by
  have e := b.keep _ _ hd
  refine wpAny_pyIter_items (knd := strKind prog w) (kvs := []) (ep := 0) hv (dict0 e) ?_
  have hne : d ≠ h.objs.size := Nat.ne_of_lt (Heap.lt_size e)
  refine forW (walks0 hh _ hne) (Po := fun _ => True) (fun i h st => let ⟨⟨_, _, e⟩, _⟩ := st; ⟨_, e, trivial⟩) (fun c hc => List.mem_singleton.mp hc) (fun c hc => ?_) (fun _ _ l' M' => l' = l ∧ M' = M) b (Kp.push _ _) (fresh_size h)
    ⟨⟨_, _, Heap.get?_push_size _ rfl⟩, Kp.push _ _ _ _ e⟩ ⟨rfl, rfl⟩ (fun i v g' l' M' h' tk' o hi => absurd hi (Nat.not_lt_zero _)) (fun g' l' M' h' tk' k j b' => ?_)
  · rcases List.mem_cons.mp hc with rfl | hc
    · exact .inl rfl
    · rw [List.mem_singleton] at hc; subst hc; exact .inr ⟨_, hd⟩
  · obtain ⟨rfl, rfl⟩ := j
    exact done g' h' tk' k b'
end
theorem join_one (x y : Str) : Txt.join x [y] = y := by
  show Builtin.Str.glued x [y] = y
  rw [StrLaws.glued_eq_join]; rfl
theorem joinOk_one (x y : Str) (hx : x.length ≤ 10) (hy : y.length ≤ 1000) : JoinOk x [y] = true := by
  unfold JoinOk
  rw [StrLaws.joinTotal, Bool.not_eq_true']
  unfold Builtin.Str.tooLong
  rw [decide_eq_false_iff_not]
  simp only [List.map_cons, List.map_nil, List.sum_cons, List.sum_nil, List.length_cons, List.length_nil]
  have := sz_line (n := 1000000) (by omega)
  omega
set_option maxHeartbeats 1000000 in
theorem add_ (w : World) (prog : Program) (A : Around) (mb) (g h : Heap) (M) (gs dr tk os) (W : Wld (KK w) mb g) (vs : List Value) (es : List (Str × Str)) (T Hd : Addr) (H : Hp g ((Hd, lst vs) :: M) h) (hh : A.handled = none) (hd : A.depth < 970) (t : Tab g 207 T Hd)
    (hp : Prs g vs es) (hz : es.length ≤ 90) (x : Str) (u : Tok) (hx : x.length ≤ 100) (hr' : ReNo (KK w) 73 x) (y : Str) (u' : Tok) (hy : y.length ≤ 100) (hry : ReNo (KK w) 78 y) :
    codeAny (model prog w) A (.call (.ref 204) ⟨[.ref T, .str x u, .str y u'], []⟩) (Rt gs dr os fun v h' => v = .none ∧ ∃ g' vs', Kp g g' ∧ Hp g' ((Hd, lst vs') :: M) h' ∧ Prs g' vs' (es ++ [(x, y)])) ⟨h, gs, dr, tk, os⟩ := by
  refine enterK (fun D => [(Str.ofString "self", .ref T), (Str.ofString "_name", .str x u), (Str.ofString "_value", .str y u'), (Str.ofString "_params", .ref D)]) W H (by omega) rfl rfl (by kernel_rfl!) rfl (o₁ := dictOf [] 0) rfl (fun S D => by kernel_rfl!) (by kernel_rfl!) (fun D => by kernel_rfl!) (fun D => by kernel_rfl!) rfl rfl rfl (fun D L h0 tk0 hD b => ?_)
  obtain ⟨g1, k1, b1, oD, eD, rfl⟩ := b.fix
  have W1 := W.up k1
  have t1 := t.up k1
  clear b
  repeat' walk_at "st"
  refine oNewL (by simp) (fun DP h2 k2 f2 il2 => ?_)
  obtain ⟨o2, e2, l2⟩ := il2
  have b2 := b1.add k2 f2 e2 l2
  clear b1
  repeat' walk_at "st"
  refine iteT ?_
  repeat' walk_at "st"
  clear b2
  rename Bd _ _ _ _ _ => b2
  refine ⟨b2.keep, ?_⟩
  obtain ⟨oL, HL, back⟩ := b2.out
  refine use (conv_v w prog _ mb _ _ _ _ _ _ _ W1 HL (by show A.depth + 1 < 990; exact dp hd) _ _ _ hry) (fun v h3 t3 xx => ?_)
  obtain ⟨ev, H3⟩ := xx
  subst ev
  have b3 := back _ _ _ H3
  clear HL H3 back b2
  repeat' walk_at "st"
  clear b3
  rename Bd _ _ _ _ _ => b3
  refine mApp (b3.hp.lst (.head _)) ?_
  repeat' walk_at "st"
  refine oApp (b3.hp.lst (.head _)) (by simp) (fun h4 o4 x4 e4 l4 => ?_)
  have b4 := b3.upd x4 e4 l4
  clear b3
  repeat' walk_at "st"
  refine sFor (fun _ => rfl) ?_
  repeat' walk_at "st"
  refine mItems (b4.keep _ _ eD) ?_
  repeat' walk_at "st"
  refine oItems (b4.keep _ _ eD) hD (fun v5 h5 k5 vi5 => ?_)
  have b5 := b4.kp k5
  clear b4
  repeat' walk_at "st"
  refine fItems0 hh b5 eD vi5 (fun g6 h6 t6 k6 b6 => ?_)
  clear b5
  have W6 := W1.up k6
  have t6' := t1.up k6
  repeat' walk_at "st"
  refine mApp (b6.hp.lst (a := Hd) (vs := vs) (by walk_at "mem")) ?_
  repeat' walk_at "st"
  refine ⟨b6.keep, ?_⟩
  obtain ⟨oL, HL, back⟩ := b6.out
  refine use (conv_n w prog _ mb _ _ _ _ _ _ _ W6 HL (by show A.depth + 1 < 990; exact dp hd) _ _ _ hr') (fun v h7 t7 xx => ?_)
  obtain ⟨ev, H7⟩ := xx
  subst ev
  have b7 := back _ _ _ H7
  clear HL H7 back b6
  repeat' walk_at "st"
  refine oJoin (b7.hp.lst (.head _)) (.cons _ _ .nil) (joinOk_one _ _ (by decide) (by omega)) (fun _ _ => ?_)
  rw [join_one]
  repeat' walk_at "st"
  refine oNewT (by simp) (fun D8 h8 k8 f8 d8 => ?_)
  obtain ⟨g9, k9, b9, fr⟩ := b7.freeze k8
  have dT := fr _ _ f8 d8
  clear b7
  repeat' walk_at "st"
  refine oApp (b9.hp.lst (a := Hd) (vs := vs) (by walk_at "mem")) (by rw [hp.len]; omega) (fun h10 o10 x10 e10 l10 => ?_)
  have b10 := b9.mset (by walk_at "mset") x10 e10 l10
  repeat' walk_at "st"
  exact DoneF.next ⟨rfl, g9, _, k1.tr (k6.tr k9), b10.hp.sub (.cons _ (.refl _)), (hp.up (k1.tr (k6.tr k9))).snoc dT⟩
theorem get_all_ (w : World) (prog : Program) (A : Around) (mb) (g h : Heap) (M) (gs dr tk os) (W : Wld (KK w) mb g) (vs : List Value) (es : List (Str × Str)) (T Hd : Addr) (H : Hp g ((Hd, lst vs) :: M) h) (hh : A.handled = none) (hd : A.depth < 980) (t : Tab g 207 T Hd)
    (hp : Prs g vs es) (hz : es.length ≤ 100) (hk : ∀ e ∈ es, e.1.length ≤ 100) (x : Str) (u : Tok) (hx : x.length ≤ 100) (hr : ReNo (KK w) 73 (Txt.lower x)) :
    codeAny (model prog w) A (.call (.ref 146) ⟨[.ref T, .str x u], []⟩) (Rt gs dr os fun v h' => ∃ D g' ys, v = .ref D ∧ Kp g g' ∧ IsL g' D ys ∧ Hp g' ((Hd, lst vs) :: M) h' ∧ StrsAre ys ((es.filter fun e => Txt.lower e.1 == Txt.lower x).map (·.2))) ⟨h, gs, dr, tk, os⟩ := by
  refine enterC [(Str.ofString "self", .ref T), (Str.ofString "name", .str x u)] [(Str.ofString "self", .ref T)] W H (by omega) rfl rfl (by kernel_rfl!) rfl (by kernel_rfl!) rfl (by kernel_rfl!) (fun L => by kernel_rfl!) (by simp) (by kernel_rfl!) (fun L => by kernel_rfl!) rfl rfl rfl (fun L h0 tk0 b => ?_)
  have b0 : Bd g L [(Str.ofString "self", .ref T)] ((L + 1, cel (some (.str x u))) :: (Hd, lst vs) :: M) h0 := b
  clear b
  repeat' walk_at "st"
  refine oLow (by omega) (fun _ _ => ?_)
  repeat' walk_at "st"
  rename Bd _ _ _ _ _ => b1
  refine ⟨b1.keep, ?_⟩
  obtain ⟨oL, HL, back⟩ := b1.out
  refine use (conv_n w prog _ mb _ _ _ _ _ _ _ W HL (by show A.depth + 1 < 990; exact dp hd) _ _ _ hr) (fun v h2 t2 xx => ?_)
  obtain ⟨ev, H2⟩ := xx
  subst ev
  have b2 := back _ _ _ H2
  clear HL H2 back b1
  repeat' walk_at "st"
  rename Bd _ _ _ _ _ => b3
  clear b2
  refine xLC [(Str.ofString "name", L + 1)] rfl rfl (by kernel_rfl!) (fun _ => rfl) ?_
  repeat' walk_at "st"
  refine lcLM hh b3 (a := Hd) (vs := vs) (by walk_at "mem") (by rw [hp.len]; omega) (by kernel_rfl!) rfl rfl (.inl rfl) (fun C => by kernel_rfl!)
    (fun i g1 ys => StrsAre ys (((es.take i).filter fun e => Txt.lower e.1 == Txt.lower x).map (·.2)) ∧ ys.length ≤ i) ⟨.nil, Nat.le_refl _⟩ (fun _ _ _ j => j.2) ?_ ?_
  · rintro i v g1 ys h1 t1 C D I o oL E1 hv k1 ⟨j1, j2⟩ b4
    have W1 := W.up k1
    obtain ⟨Ta, kn, tn, vn, tv, rfl, he, ht⟩ := hp.at_ hv
    have hkn : kn.length ≤ 100 := hk _ (List.mem_of_getElem? he)
    repeat' walk_at "st"
    refine gIdxT (b4.keep _ _ (k1 _ _ ht)) (by decide) (by decide) rfl (by kernel_rfl!) ?_
    repeat' walk_at "st"
    refine oLow (by omega) (fun _ _ => ?_)
    repeat' walk_at "st"
    rw [take_filter_succ _ he]
    refine iteC (fun q => ?_) (fun q => ?_)
    · repeat' walk_at "st"
      rename Bd _ _ _ _ _ => b5
      refine gIdxT (b5.keep _ _ (k1 _ _ ht)) (by decide) (by decide) rfl (by kernel_rfl!) ?_
      refine LcE.mk Kp.rf b5 ⟨?_, by simp; omega⟩
      rw [if_pos q, List.map_append]
      exact SS.snoc j1
    · rename Bd _ _ _ _ _ => b5
      refine LcE.mk Kp.rf b5 ⟨?_, by omega⟩
      rw [if_neg (by simp [q]), List.append_nil]
      exact j1
  · rintro g1 ys D h1 t1 k1 ⟨j1, j2⟩ hb
    have b4 := hb _ (.none _)
    clear hb
    obtain ⟨g2, k2, b5, il⟩ := b4.fix
    refine UseQ.val (DoneF.ret ⟨D, g2, ys, rfl, k1.tr k2, il, b5.hp.sub (.cons _ (.refl _)), ?_⟩)
    rw [hp.len, List.take_length] at j1
    exact j1
section
variable {prog : Program} {w : World} {A : Around} {E : Value → Shared → Prop} {h : Heap} {gs : Array GenState} {dr : Drawn} {tk : Nat} {os : OsState} {a : Addr} {vs : List Value}
theorem oPutL0 {k : Nat} {i : Int} {t : Tok} {v : Value} {Q : Unit → Shared → Prop} (hl : IsL h a vs) (hi : i = k) (hz : k < 1000000) (hk : k < vs.length)
    (q : ∀ h' o, Heap.ExtBut a h h' → h'.get? a = some o → lst (vs.set k v) o → Q () ⟨h', gs, dr, tk, os⟩) : wpAny (model prog w) A (setItem (.ref a) (.int i t) v) Q E ⟨h, gs, dr, tk, os⟩ := by
  obtain ⟨o, ho, n, rfl⟩ := hl
  have hT : Shared.TypeIs ⟨h, gs, dr, tk, os⟩ (.ref a) "list" := ⟨_, ho, rfl⟩
  unfold setItem
  try with_reducible refine wpAny_holding ?_
  refine wpAny_bind (wpAny_sequenceKey hT (by decide) ?_)
  refine wpAny_bind (wpAny_callSpecial?_slot (name := Str.ofString "__setitem__") hT slot_list_setitem
    (wpAny_call_entry slot_list_setitem hT entry_list_setitem ?_ (args_list_setitem _ _ _)))
  show wpAny _ _ (Builtin.List.listSubscript? (.int i t) >>= _) _ _ _
  refine wpAny_bind (wpAny_listSubscript_int (fitsIndex_of (by omega) (by omega)) ?_)
  subst hi
  have hx : vs.toArray[k]? = some vs[k] := by rw [List.getElem?_toArray, List.getElem?_eq_getElem hk]
  show wpAny (model prog w) _ ((seqItemAt a k >>= fun r => pure (r.map (k, ·))) >>= _) _ _ ⟨h, gs, dr, tk, os⟩
  refine wpAny_bind (wpAny_bind (wpAny_seqItemAt ho rfl (wpAny_pure ?_)))
  rw [hx]
  show wpAny _ _ (setSeqItemAt a k v >>= _) _ _ _
  refine wpAny_bind (wpAny_setSeqItemAt ho rfl ?_)
  have hf : vs.toArray.setIfInBounds k v = (vs.set k v).toArray := by simp
  first
    | exact wpAny_bind (wpAny_pure (wpAny_pure ⟨.none, rfl, wpAny_pure (q _ _ (Heap.SameBut.update _ _ _).extBut (Heap.get?_update_self _ ho rfl) (lst_map _ hf))⟩))
    | exact wpAny_pure ⟨.none, rfl, wpAny_pure (q _ _ (Heap.SameBut.update _ _ _).extBut (Heap.get?_update_self _ ho rfl) (lst_map _ hf))⟩
theorem oPutL {k : Nat} {t : Tok} {v : Value} {Q : Unit → Shared → Prop} (hl : IsL h a vs) (hz : k < 1000000) (hk : k < vs.length)
    (q : ∀ h' o, Heap.ExtBut a h h' → h'.get? a = some o → lst (vs.set k v) o → Q () ⟨h', gs, dr, tk, os⟩) : wpAny (model prog w) A (setItem (.ref a) (.int k t) v) Q E ⟨h, gs, dr, tk, os⟩ := oPutL0 hl rfl hz hk q
end
/-- a place of a list, or one behind it -/
def putL {α : Type} (l : List α) (s : Nat) (v : α) : List α := l.take s ++ v :: l.drop (s + 1)
theorem put_ (w : World) (prog : Program) (A : Around) (mb) (g h : Heap) (M) (gs dr tk os) (W : Wld (KK w) mb g) (R : Addr) (vs : List Value) (H : Hp g ((R, lst vs) :: M) h) (hd : A.depth < 980) (hz : vs.length ≤ 100) (s : Nat) (hs : s ≤ vs.length) (t : Tok) (v : Value) :
    codeAny (model prog w) A (.call (.ref 232) ⟨[.ref R, .int s t, v], []⟩) (Rt gs dr os fun v' h' => v' = .none ∧ Hp g ((R, lst (putL vs s v)) :: M) h') ⟨h, gs, dr, tk, os⟩ := by
  refine enter [(Str.ofString "row", .ref R), (Str.ofString "spot", .int s t), (Str.ofString "thing", v)] W H (by omega) rfl rfl (by kernel_rfl!) rfl (binds_peek W H.keep fun S => by kernel_rfl!) (by kernel_rfl!) (by kernel_rfl!) (by kernel_rfl!) rfl rfl rfl (fun L h0 tk0 b => ?_)
  repeat' walk_at "st"
  refine oLenL (b.hp.lst (.head _)) (by omega) (fun _ _ => ?_)
  repeat' walk_at "st"
  refine iteC (fun q => ?_) (fun q => ?_)
  · have q' : s = vs.length := Int.ofNat_inj.mp (by simpa using q : (s : Int) = (vs.length : Int))
    repeat' walk_at "st"
    refine mApp (b.hp.lst (.head _)) ?_
    repeat' walk_at "st"
    refine oApp (b.hp.lst (.head _)) (by omega) (fun h1 o1 x1 e1 l1 => ?_)
    have b1 := b.upd x1 e1 l1
    repeat' walk_at "st"
    refine DoneF.next ?_
    have : putL vs s v = vs ++ [v] := by unfold putL; rw [List.take_of_length_le (by omega), List.drop_eq_nil_of_le (by omega)]
    rw [this]
    exact ⟨rfl, b1.hp⟩
  · have q' : s < vs.length := by
      have : ¬ ((s : Int) = (vs.length : Int)) := by simpa using q
      omega
    repeat' walk_at "st"
    refine oPutL (b.hp.lst (.head _)) (by omega) q' (fun h1 o1 x1 e1 l1 => ?_)
    have b1 := b.upd x1 e1 l1
    repeat' walk_at "st"
    refine DoneF.next ?_
    have : putL vs s v = vs.set s v := by unfold putL; rw [List.set_eq_take_append_cons_drop, if_pos q']
    rw [this]
    exact ⟨rfl, b1.hp⟩
/-! ## the ellipsis match with letters at its ends -/
theorem at_charE (L : List Nat) (a i ep : Nat) (h : ep ≤ L.length) : StrLaws.At (wS L) (⟨#[97 + a]⟩ : Str) ep i ↔ (L.take ep)[i]? = some a := by
  have e := at_char L a i
  unfold StrLaws.At at e ⊢
  rw [List.getElem?_take]
  have e1 : ((⟨#[97 + a]⟩ : Str)).length = 1 := rfl
  rw [e1] at e ⊢
  constructor
  · rintro ⟨h1, h2⟩
    rw [if_pos (by omega)]
    exact e.mp ⟨by omega, h2⟩
  · intro h1
    split at h1
    · exact ⟨by omega, (e.mpr h1).2⟩
    · cases h1
theorem find_charE (L : List Nat) (a sp ep : Nat) (h : ep ≤ L.length) : (a ∉ (L.take ep).drop sp ∧ find4 (wS L) (⟨#[97 + a]⟩ : Str) sp ep < 0) ∨
    ∃ k, sp ≤ k ∧ (L.take ep)[k]? = some a ∧ (∀ j, sp ≤ j → j < k → (L.take ep)[j]? ≠ some a) ∧ find4 (wS L) (⟨#[97 + a]⟩ : Str) sp ep = (k : Int) := by
  have hf : min (fromIndex (wS L).length (ep : Int)) (wS L).length = ep := by rw [from_nat, wS_len]; omega
  have hs : fromIndex (wS L).length (sp : Int) = sp := from_nat _ _
  rcases occ_from (wS L) (⟨#[97 + a]⟩ : Str) sp ep with ⟨h0, hn⟩ | ⟨i, r, h0, h1, h2, h3⟩
  · refine .inl ⟨fun hm => ?_, by unfold find4; rw [hs, hf, h0]; decide⟩
    obtain ⟨j, hj⟩ := List.mem_iff_getElem?.mp hm
    rw [List.getElem?_drop] at hj
    have hlt := (List.getElem?_eq_some_iff.mp hj).1
    rw [List.length_take] at hlt
    exact hn (sp + j) (by omega) (by omega) ((at_charE L a _ ep h).mpr hj)
  · refine .inr ⟨i, h1, (at_charE L a i ep h).mp h2, fun j h4 h5 h6 => h3 j h4 h5 ((at_charE L a j ep h).mpr h6), by unfold find4; rw [hs, hf, h0]⟩
theorem find_noneE (L : List Nat) (sp ep : Nat) (h : sp ≤ ep) (he : ep ≤ L.length) : find4 (wS L) Str.empty sp ep = (sp : Int) := by
  have hf : min (fromIndex (wS L).length (ep : Int)) (wS L).length = ep := by rw [from_nat, wS_len]; omega
  have hs : fromIndex (wS L).length (sp : Int) = sp := from_nat _ _
  have at0 : StrLaws.At (wS L) Str.empty ep sp := by
    refine ⟨by show sp + 0 ≤ _; omega, ?_⟩
    unfold Builtin.Str.subAt
    have e1 : (Str.empty).length = 0 := rfl
    rw [e1]
    simp [Str.empty]
    exact Nat.min_le_left _ _
  rcases occ_from (wS L) Str.empty sp ep with ⟨h0, hn⟩ | ⟨i, r, h0, h1, h2, h3⟩
  · exact absurd at0 (hn sp (Nat.le_refl _) h)
  · have : i = sp := by
      by_cases hi : sp < i
      · exact absurd at0 (h3 sp (Nat.le_refl _) hi)
      · omega
    unfold find4
    rw [hs, hf, h0, this]
theorem loop_subE (L : List Nat) (ep : Nat) (he : ep ≤ L.length) (tl : List Str) (ht : tl = [] ∨ tl = [Str.empty]) : ∀ (ls : List Nat) (sp : Nat), sp ≤ ep → ellLoop (wS L) ep (ls.map sg ++ tl) sp = Pl.sub ls ((L.take ep).drop sp)
  | [], sp, h => by
    rw [sub_nil]
    rcases ht with rfl | rfl
    · rfl
    · show (if find4 (wS L) Str.empty sp ep < 0 then false else true) = true
      rw [find_noneE L sp ep h he, if_neg (by omega)]
  | a :: r, sp, h => by
    show (if find4 (wS L) (sg a) sp ep < 0 then false else ellLoop (wS L) ep (r.map sg ++ tl) (find4 (wS L) (sg a) sp ep + (sg a).length)) = _
    have hlen : (L.take ep).length = ep := by rw [List.length_take]; omega
    rcases find_charE L a sp ep he with ⟨h1, h2⟩ | ⟨k, h1, h2, h3, h4⟩
    · rw [show sg a = (⟨#[97 + a]⟩ : Str) from rfl, if_pos h2, sub_none h1]
    · have hk : k < (L.take ep).length := (List.getElem?_eq_some_iff.mp h2).1
      rw [show sg a = (⟨#[97 + a]⟩ : Str) from rfl, h4, if_neg (by omega)]
      have e1 : ((⟨#[97 + a]⟩ : Str)).length = 1 := rfl
      rw [e1]
      have ih := loop_subE L ep he tl ht r (k + 1) (by omega)
      rw [show ((k : Int) + ((1 : Nat) : Int)) = ((k + 1 : Nat) : Int) by omega, ih]
      generalize L.take ep = M at *
      have ed : M.drop sp = (M.drop sp).take (k - sp) ++ a :: M.drop (k + 1) := by
        conv => lhs; rw [← List.take_append_drop (k - sp) (M.drop sp)]
        congr 1
        rw [List.drop_drop, show sp + (k - sp) = k by omega, List.drop_eq_getElem_cons hk]
        congr 1
        rw [List.getElem?_eq_getElem hk] at h2
        exact Option.some.inj h2
      rw [ed]
      refine (sub_at fun hm => ?_).symm
      obtain ⟨j, hj⟩ := List.mem_iff_getElem?.mp hm
      rw [List.getElem?_take] at hj
      split at hj
      · rw [List.getElem?_drop] at hj
        exact h3 (sp + j) (by omega) (by omega) hj
      · cases hj
theorem starts_sg (L : List Nat) (a : Nat) : Txt.startswith (wS L) (sg a) = decide (L[0]? = some a) := by
  rw [Bool.eq_iff_iff, decide_eq_true_eq]
  unfold Txt.startswith
  have e := at_char L a 0
  unfold StrLaws.At at e
  rw [Bool.and_eq_true, decide_eq_true_eq, wS_len]
  exact e
theorem ends_sg (L : List Nat) (a : Nat) : Txt.endswith (wS L) (sg a) = decide (L[L.length - 1]? = some a) := by
  rw [Bool.eq_iff_iff, decide_eq_true_eq]
  unfold Txt.endswith
  have e := at_char L a (L.length - 1)
  unfold StrLaws.At at e
  rw [Bool.and_eq_true, decide_eq_true_eq, wS_len]
  have e1 : (sg a).length = 1 := rfl
  have e2 : ((⟨#[97 + a]⟩ : Str)).length = 1 := rfl
  rw [e1]
  rw [e2] at e
  rw [← e]
  constructor
  · rintro ⟨h1, h2⟩; exact ⟨by omega, h2⟩
  · rintro ⟨h1, h2⟩; exact ⟨by omega, h2⟩
/-! ### words scattered in a text -/
theorem sub_iff : ∀ {u M : List Nat}, Pl.sub u M = true ↔ u.Sublist M
  | [], M => by rw [sub_nil]; simp
  | a :: u, [] => by simp [Pl.sub]
  | a :: u, b :: M => by
    show (if Nat.beq a b = true then _ else _) = true ↔ _
    cases e : Nat.beq a b with
    | true =>
      rw [if_pos rfl, sub_iff]
      have := Nat.eq_of_beq_eq_true e
      subst this
      exact (List.cons_sublist_cons).symm
    | false =>
      rw [if_neg (by simp), sub_iff]
      constructor
      · exact fun h => h.cons _
      · intro h
        cases h with
        | cons _ h => exact h
        | cons_cons _ h => rw [Nat.beq_refl] at e; cases e
theorem sub_last (u M : List Nat) (z : Nat) (h : M[M.length - 1]? = some z) : Pl.sub u (M.take (M.length - 1)) = Pl.sub (u ++ [z]) M := by
  have hp : 0 < M.length := by
    rcases M with _ | ⟨b, M⟩
    · simp at h
    · simp
  have e : M = M.take (M.length - 1) ++ [z] := by
    conv => lhs; rw [← List.take_append_drop (M.length - 1) M]
    congr 1
    rw [List.drop_eq_getElem_cons (by omega), List.drop_eq_nil_of_le (by omega)]
    rw [List.getElem?_eq_getElem (by omega)] at h
    rw [Option.some.inj h]
  rw [Bool.eq_iff_iff, sub_iff, sub_iff]
  conv => rhs; rw [e]
  exact (List.append_sublist_append_right [z]).symm
theorem sub_first (u M : List Nat) (a : Nat) (h : M[0]? = some a) : Pl.sub u (M.drop 1) = Pl.sub (a :: u) M := by
  cases M with
  | nil => simp at h
  | cons b M =>
    have : b = a := by simpa using h
    subst this
    show _ = (if Nat.beq b b = true then _ else _)
    rw [if_pos (Nat.beq_refl b)]; rfl
/-- letters ahead or behind open -/
def pcsE (p q : Bool) (ls : List Nat) : List Str := (if p then [Str.empty] else []) ++ (ls.map sg ++ (if q then [Str.empty] else []))
/-- what the match says of a word -/
def fitB (p q : Bool) (ls L : List Nat) : Bool := Pl.sub ls L && (p || decide (L[0]? = ls[0]?)) && (q || decide (L[L.length - 1]? = ls[ls.length - 1]?))
theorem ell_tt (ls L : List Nat) : ellP (pcsE true true ls) (wS L) = fitB true true ls L := by
  have e0 : (Str.empty).length = 0 := rfl
  have ep : pcsE true true ls = Str.empty :: (ls.map sg ++ [Str.empty]) := by simp [pcsE]
  rw [ep]
  unfold ellP
  rw [List.headD_cons, if_pos e0]
  unfold ell1
  have el : ((Str.empty :: (ls.map sg ++ [Str.empty])).getLastD Str.empty) = Str.empty := by
    rw [← List.cons_append, List.getLastD_concat]
  rw [el, if_pos e0]
  unfold ell2
  rw [wS_len, if_neg (by omega)]
  show (if find4 (wS L) Str.empty 0 L.length < 0 then false else ellLoop (wS L) L.length (ls.map sg ++ [Str.empty]) (find4 (wS L) Str.empty 0 L.length + (Str.empty).length)) = _
  have hf := find_noneE L 0 L.length (Nat.zero_le _) (Nat.le_refl _)
  rw [show ((0 : Nat) : Int) = 0 from rfl] at hf
  rw [hf, if_neg (by omega), e0]
  have := loop_subE L L.length (Nat.le_refl _) [Str.empty] (.inr rfl) ls 0 (Nat.zero_le _)
  rw [List.take_length, List.drop_zero] at this
  unfold fitB
  simpa using this
theorem at_last {L : List Nat} {z : Nat} (h : L[L.length - 1]? = some z) : 1 ≤ L.length := by
  have := (List.getElem?_eq_some_iff.mp h).1; omega
theorem ell_tf (u : List Nat) (z : Nat) (L : List Nat) : ellP (pcsE true false (u ++ [z])) (wS L) = fitB true false (u ++ [z]) L := by
  have e0 : (Str.empty).length = 0 := rfl
  have ez : (sg z).length = 1 := rfl
  have ep : pcsE true false (u ++ [z]) = (Str.empty :: u.map sg) ++ [sg z] := by simp [pcsE]
  rw [ep]
  unfold ellP
  rw [List.cons_append, List.headD_cons, if_pos e0]
  unfold ell1
  rw [← List.cons_append, List.getLastD_concat, if_neg (by rw [ez]; omega), List.dropLast_concat, ends_sg, ez]
  have el : (u ++ [z])[(u ++ [z]).length - 1]? = some z := by simp
  unfold fitB
  rw [el]
  by_cases h : L[L.length - 1]? = some z
  · rw [if_pos (decide_eq_true h)]
    have h1 := at_last h
    unfold ell2
    rw [wS_len, show ((L.length : Int) - ((1 : Nat) : Int)) = ((L.length - 1 : Nat) : Int) by omega, if_neg (by omega)]
    show (if find4 (wS L) Str.empty 0 ((L.length - 1 : Nat) : Int) < 0 then false else ellLoop (wS L) ((L.length - 1 : Nat) : Int) (u.map sg) (find4 (wS L) Str.empty 0 ((L.length - 1 : Nat) : Int) + (Str.empty).length)) = _
    have hf := find_noneE L 0 (L.length - 1) (Nat.zero_le _) (by omega)
    rw [show ((0 : Nat) : Int) = 0 from rfl] at hf
    rw [hf, if_neg (by omega), e0]
    have := loop_subE L (L.length - 1) (by omega) [] (.inl rfl) u 0 (Nat.zero_le _)
    rw [List.append_nil] at this
    rw [show ((0 : Int) + ((0 : Nat) : Int)) = ((0 : Nat) : Int) from rfl, this, List.drop_zero, sub_last u L z h]
    simp [h]
  · rw [if_neg (by simp [h])]
    simp [h]
theorem ell_ft (a : Nat) (r L : List Nat) : ellP (pcsE false true (a :: r)) (wS L) = fitB false true (a :: r) L := by
  have e0 : (Str.empty).length = 0 := rfl
  have ez : (sg a).length = 1 := rfl
  have ep : pcsE false true (a :: r) = sg a :: (r.map sg ++ [Str.empty]) := by simp [pcsE]
  rw [ep]
  unfold ellP
  rw [List.headD_cons, if_neg (by rw [ez]; omega), starts_sg, List.tail_cons, ez]
  unfold fitB
  by_cases h : L[0]? = some a
  · have h1 : 1 ≤ L.length := (List.getElem?_eq_some_iff.mp h).1
    rw [if_pos (decide_eq_true h)]
    unfold ell1
    rw [List.getLastD_concat, if_pos e0]
    unfold ell2
    rw [wS_len, if_neg (by omega)]
    have := loop_subE L L.length (Nat.le_refl _) [Str.empty] (.inr rfl) r 1 h1
    rw [this, List.take_length, sub_first r L a h]
    simp [h]
  · rw [if_neg (by simp [h])]
    simp [h]
theorem ell_ff (a z : Nat) (u L : List Nat) : ellP (pcsE false false (a :: (u ++ [z]))) (wS L) = fitB false false (a :: (u ++ [z])) L := by
  have ez : (sg a).length = 1 := rfl
  have ez' : (sg z).length = 1 := rfl
  have ep : pcsE false false (a :: (u ++ [z])) = sg a :: (u.map sg ++ [sg z]) := by simp [pcsE]
  rw [ep]
  unfold ellP
  rw [List.headD_cons, if_neg (by rw [ez]; omega), starts_sg, List.tail_cons, ez]
  have el : (a :: (u ++ [z]))[(a :: (u ++ [z])).length - 1]? = some z := by simp
  unfold fitB
  rw [el]
  by_cases h : L[0]? = some a
  · have h1 : 1 ≤ L.length := (List.getElem?_eq_some_iff.mp h).1
    rw [if_pos (decide_eq_true h)]
    unfold ell1
    rw [List.getLastD_concat, if_neg (by rw [ez']; omega), List.dropLast_concat, ends_sg, ez']
    by_cases h2 : L[L.length - 1]? = some z
    · rw [if_pos (decide_eq_true h2)]
      unfold ell2
      rw [wS_len, show ((L.length : Int) - ((1 : Nat) : Int)) = ((L.length - 1 : Nat) : Int) by omega]
      by_cases h3 : L.length = 1
      · rw [if_pos (by omega)]
        have : Pl.sub (a :: (u ++ [z])) L = false := by
          cases e : Pl.sub (a :: (u ++ [z])) L with
          | false => rfl
          | true => have := (sub_iff.mp e).length_le; simp at this; omega
        rw [this]; rfl
      · rw [if_neg (by omega)]
        have := loop_subE L (L.length - 1) (by omega) [] (.inl rfl) u 1 (by omega)
        rw [List.append_nil] at this
        rw [this, ← sub_first (u ++ [z]) L a h]
        have hd : (L.drop 1)[(L.drop 1).length - 1]? = some z := by
          rw [List.getElem?_drop, List.length_drop, ← h2]; congr 1; omega
        rw [← sub_last u (L.drop 1) z hd]
        have e2 : (L.take (L.length - 1)).drop 1 = (L.drop 1).take ((L.drop 1).length - 1) := by
          rw [List.drop_take, List.length_drop]
        rw [e2]
        simp [h, h2]
    · rw [if_neg (by simp [h2])]
      simp [h2]
  · rw [if_neg (by simp [h])]
    simp [h]
/-! ## the dotted text, split -/
def cutS (p q : Bool) (ls : List Nat) : Str := ((if p then dots else Str.empty) ++ Txt.join dots (ls.map sg)) ++ (if q then dots else Str.empty)
def dimN (c : Nat) : Nat := if Nat.beq c 46 then 46 else 97
def dim (x : Str) : Str := ⟨x.cps.map dimN⟩
theorem dots_l : dots.cps.toList = [46, 46, 46] := by decide +kernel
theorem dots_len : dots.length = 3 := by decide +kernel
theorem dimN_eq (c : Nat) : (dimN c == 46) = (c == 46) := by
  unfold dimN
  cases e : Nat.beq c 46 with
  | true => have := Nat.eq_of_beq_eq_true e; subst this; rfl
  | false =>
    have : ¬ c = 46 := fun h => by subst h; rw [Nat.beq_refl] at e; cases e
    simp [this]
theorem sub_dim (x : Str) (i : Nat) : Builtin.Str.subAt (dim x) dots i = Builtin.Str.subAt x dots i := by
  rw [StrLaws.subAt_eq, StrLaws.subAt_eq, dots_l, dots_len]
  have e : (dim x).cps.toList = x.cps.toList.map dimN := by simp [dim]
  rw [e, ← List.map_drop, ← List.map_take]
  generalize (x.cps.toList.drop i).take 3 = m
  match m with
  | [] => rfl
  | [a] => simp
  | [a, b] => simp
  | [a, b, c] =>
    show (dimN a == 46 && (dimN b == 46 && (dimN c == 46 && true))) = (a == 46 && (b == 46 && (c == 46 && true)))
    rw [dimN_eq, dimN_eq, dimN_eq]
  | a :: b :: c :: d :: r =>
    show (dimN a == 46 && (dimN b == 46 && (dimN c == 46 && false))) = (a == 46 && (b == 46 && (c == 46 && false)))
    simp
theorem occ_dim (x : Str) (lo hi lim : Nat) : Builtin.Str.occurrences (dim x) dots lo hi lim = Builtin.Str.occurrences x dots lo hi lim := by
  rw [StrLaws.occ_eq, StrLaws.occ_eq]
  have : StrLaws.occBody (dim x) dots hi lim = StrLaws.occBody x dots hi lim := by
    funext i st
    unfold StrLaws.occBody
    rw [sub_dim]
  rw [this]
theorem dim_append (x y : Str) : dim (x ++ y) = dim x ++ dim y := by
  show Str.mk ((x ++ y).cps.map dimN) = Str.mk (x.cps.map dimN ++ y.cps.map dimN)
  rw [Str.cps_append, Array.map_append]
theorem dim_dots : dim dots = dots := by decide +kernel
theorem dim_sg (a : Nat) : dim (sg a) = sg 0 := by
  have : ¬ (97 + a = 46) := by omega
  have e : Nat.beq (97 + a) 46 = false := by
    cases e : Nat.beq (97 + a) 46 with
    | false => rfl
    | true => exact absurd (Nat.eq_of_beq_eq_true e) this
  have h : (#[97 + a] : Array Nat).map dimN = #[97 + 0] := by
    rw [List.map_toArray]
    show (List.toArray [dimN (97 + a)]) = _
    unfold dimN; rw [e]; rfl
  show Str.mk ((#[97 + a] : Array Nat).map dimN) = Str.mk #[97 + 0]
  rw [h]
theorem dim_empty : dim Str.empty = Str.empty := by decide +kernel
theorem dim_join : ∀ ls : List Nat, dim (Str.join dots (ls.map sg)) = Str.join dots ((List.replicate ls.length 0).map sg)
  | [] => dim_empty
  | [a] => dim_sg a
  | a :: b :: r => by
    have ih := dim_join (b :: r)
    show dim (sg a ++ dots ++ Str.join dots ((b :: r).map sg)) = sg 0 ++ dots ++ Str.join dots ((List.replicate (b :: r).length 0).map sg)
    rw [dim_append, dim_append, dim_sg, dim_dots, ih]
theorem dim_cut (p q : Bool) (ls : List Nat) : dim (cutS p q ls) = cutS p q (List.replicate ls.length 0) := by
  unfold cutS Txt.join
  rw [StrLaws.glued_eq_join, StrLaws.glued_eq_join, dim_append, dim_append, dim_join]
  cases p <;> cases q <;> simp only [Bool.false_eq_true, if_false, if_true, dim_dots, dim_empty]
theorem dim_len (x : Str) : (dim x).length = x.length := by simp [dim, Str.length]
def cutsE (p q : Bool) (n : Nat) : List Nat := (List.range (n - 1 + (if p then 1 else 0) + (if q then 1 else 0))).map fun j => (if p then 0 else 1) + 4 * j
theorem cuts_tab : (List.range 8).all (fun n => Nat.beq n 0 || [true, false].all fun p => [true, false].all fun q =>
    (Builtin.Str.occurrences (cutS p q (List.replicate n 0)) dots 0 (cutS p q (List.replicate n 0)).length ((cutS p q (List.replicate n 0)).length + 1) == cutsE p q n) &&
    ((Builtin.Str.occurrences (cutS p q (List.replicate n 0)) dots 0 (cutS p q (List.replicate n 0)).length 1).isEmpty == (cutsE p q n).isEmpty) && decide ((cutS p q (List.replicate n 0)).length ≤ 40)) = true := by decide +kernel
theorem cut_occ (p q : Bool) (ls : List Nat) (h1 : 1 ≤ ls.length) (h7 : ls.length ≤ 7) :
    Builtin.Str.occurrences (cutS p q ls) dots 0 (cutS p q ls).length ((cutS p q ls).length + 1) = cutsE p q ls.length ∧
    (Builtin.Str.occurrences (cutS p q ls) dots 0 (cutS p q ls).length 1).isEmpty = (cutsE p q ls.length).isEmpty ∧ (cutS p q ls).length ≤ 40 := by
  have h := List.all_eq_true.mp cuts_tab ls.length (List.mem_range.mpr (by omega))
  have e : Nat.beq ls.length 0 = false := by
    cases e : Nat.beq ls.length 0 with
    | false => rfl
    | true => have := Nat.eq_of_beq_eq_true e; omega
  rw [e, Bool.false_or] at h
  have h := List.all_eq_true.mp (List.all_eq_true.mp h p (by cases p <;> simp)) q (by cases q <;> simp)
  simp only [Bool.and_eq_true, beq_iff_eq, decide_eq_true_eq] at h
  rw [← dim_cut, dim_len, occ_dim, occ_dim] at h
  exact ⟨h.1.1, h.1.2, h.2⟩
theorem parts_cut (p q : Bool) (ls : List Nat) (h1 : 1 ≤ ls.length) (h7 : ls.length ≤ 7) : StrLaws.partsFrom (cutS p q ls) 3 0 (cutsE p q ls.length) = pcsE p q ls := by
  match ls with
  | [] => simp at h1
  | [a] => cases p <;> cases q <;> kernel_rfl!
  | [a, b] => cases p <;> cases q <;> kernel_rfl!
  | [a, b, c] => cases p <;> cases q <;> kernel_rfl!
  | [a, b, c, d] => cases p <;> cases q <;> kernel_rfl!
  | [a, b, c, d, e] => cases p <;> cases q <;> kernel_rfl!
  | [a, b, c, d, e, f] => cases p <;> cases q <;> kernel_rfl!
  | [a, b, c, d, e, f, g] => cases p <;> cases q <;> kernel_rfl!
  | _ :: _ :: _ :: _ :: _ :: _ :: _ :: _ :: _ => simp at h7
theorem kind_pos (x : Str) : 1 ≤ Builtin.Str.strKind x := by
  unfold Builtin.Str.strKind
  split
  · decide
  · split <;> decide
theorem split_cut (p q : Bool) (ls : List Nat) (h1 : 1 ≤ ls.length) (h7 : ls.length ≤ 7) (hn : (p || q || decide (2 ≤ ls.length)) = true) :
    Txt.split (cutS p q ls) dots = pcsE p q ls ∧ (Builtin.Str.occurrences (cutS p q ls) dots 0 (cutS p q ls).length 1).isEmpty = false := by
  obtain ⟨o1, o2, o3⟩ := cut_occ p q ls h1 h7
  have hne : (cutsE p q ls.length).isEmpty = false := by
    unfold cutsE
    rw [List.isEmpty_map, List.isEmpty_eq_false_iff, ne_eq, List.range_eq_nil]
    cases p <;> cases q <;> simp at hn ⊢ <;> omega
  refine ⟨?_, by rw [o2, hne]⟩
  unfold Txt.split
  have k1 : Builtin.Str.strKind dots = 1 := by decide +kernel
  have k2 := kind_pos (cutS p q ls)
  have l3 : 3 ≤ (cutS p q ls).length := by
    cases e : cutsE p q ls.length with
    | nil => rw [e] at hne; cases hne
    | cons c r =>
      obtain ⟨f, hc⟩ := StrLaws.occ_chain (cutS p q ls) dots ((cutS p q ls).length + 1)
      rw [o1, e] at hc
      have := hc.2.1.1
      rw [dots_len] at this
      omega
  rw [if_neg (by rw [k1, dots_len]; simp; omega), o1, if_neg (by rw [hne]; simp), StrLaws.partsBetween_eq, dots_len]
  exact parts_cut p q ls h1 h7
def aS (p : Bool) : Str := if p then dots else Str.empty
/-- what _law_fits says -/
def fitF (p q : Bool) (ls L : List Nat) : Bool := if (p || q || decide (2 ≤ ls.length)) = true then fitB p q ls L else decide (ls = L)
theorem signs_wS (ls : List Nat) : PyProof.Rows.signs (wS ls) = ls.map sg := by
  simp [PyProof.Rows.signs, wS, List.map_map]; intro a _; rfl
theorem joinOk_dots (ls : List Nat) (h : ls.length ≤ 7) : JoinOk dots (ls.map sg) = true := by
  unfold JoinOk
  rw [StrLaws.joinTotal, Bool.not_eq_true']
  have h1 : ((ls.map sg).map (·.length)).sum = ls.length := by
    clear h
    induction ls with
    | nil => rfl
    | cons a r ih => simp only [List.map_cons, List.sum_cons, List.length_cons, sg_len]; omega
  unfold Builtin.Str.tooLong
  rw [decide_eq_false_iff_not, h1, List.length_map, dots_len]
  have := sz_line (n := 1000) (by omega)
  omega
theorem pcsE_small (p q : Bool) (ls : List Nat) (h : ls.length ≤ 7) : Smalls (pcsE p q ls) := by
  refine ⟨by cases p <;> cases q <;> simp [pcsE] <;> omega, fun x hx => ?_⟩
  have : x.length ≤ 1 := by
    unfold pcsE at hx
    rcases List.mem_append.mp hx with hx | hx
    · cases p
      · simp at hx
      · simp at hx; subst hx; exact Nat.zero_le _
    · rcases List.mem_append.mp hx with hx | hx
      · obtain ⟨a, _, rfl⟩ := List.mem_map.mp hx; exact Nat.le_refl _
      · cases q
        · simp at hx
        · simp at hx; subst hx; exact Nat.zero_le _
  omega
theorem ell_fit (p q : Bool) (ls L : List Nat) (h1 : 1 ≤ ls.length) (hn : (p || q || decide (2 ≤ ls.length)) = true) : ellP (pcsE p q ls) (wS L) = fitB p q ls L := by
  have hsn : ∃ u z, ls = u ++ [z] := by
    rcases List.eq_nil_or_concat ls with rfl | ⟨u, z, rfl⟩
    · simp at h1
    · exact ⟨u, z, by simp⟩
  cases p
  · cases q
    · match ls, h1 with
      | [a], _ => simp at hn
      | a :: b :: r, _ =>
        have : ∃ u z, b :: r = u ++ [z] := by
          rcases List.eq_nil_or_concat (b :: r) with e | ⟨u, z, e⟩
          · cases e
          · exact ⟨u, z, by rw [e]; simp⟩
        obtain ⟨u, z, e⟩ := this
        rw [e]
        exact ell_ff a z u L
    · match ls, h1 with
      | a :: r, _ => exact ell_ft a r L
  · cases q
    · obtain ⟨u, z, rfl⟩ := hsn
      exact ell_tf u z L
    · exact ell_tt ls L
set_option maxHeartbeats 1000000 in
theorem fits_ (w : World) (prog : Program) (A : Around) (mb) (g h : Heap) (M) (gs dr tk os) (W : Wld (KK w) mb g) (H : Hp g M h) (hh : A.handled = none) (hd : A.depth < 890) (p q : Bool) (ls L : List Nat) (h1 : 1 ≤ ls.length) (h7 : ls.length ≤ 7) (hz : L.length ≤ 100) (t1 t2 t3 t4 : Tok) :
    codeAny (model prog w) A (.call (.ref 239) ⟨[.str (wS ls) t1, .str (wS L) t2, .str (aS p) t3, .str (aS q) t4], []⟩) (Rt gs dr os fun v h' => v = .bool (fitF p q ls L) ∧ Hp g M h') ⟨h, gs, dr, tk, os⟩ := by
  refine enter [(Str.ofString "word", .str (wS ls) t1), (Str.ofString "text", .str (wS L) t2), (Str.ofString "ahead", .str (aS p) t3), (Str.ofString "behind", .str (aS q) t4)] W H (by omega) rfl rfl (by kernel_rfl!) rfl (binds_peek W H.keep fun S => by kernel_rfl!) (by kernel_rfl!) (by kernel_rfl!) (by kernel_rfl!) rfl rfl rfl (fun L0 h0 tk0 b => ?_)
  obtain ⟨o1, o2, o3⟩ := cut_occ p q ls h1 h7
  have hcl : (cutS p q ls).length = (aS p).length + (Txt.join dots (ls.map sg)).length + (aS q).length := by
    show (((if p then dots else Str.empty) ++ Txt.join dots (ls.map sg)) ++ (if q then dots else Str.empty)).length = _
    rw [Str.length_append, Str.length_append]; rfl
  repeat' walk_at "st"
  refine SC.joinStr hh (by rw [signs_wS]; exact joinOk_dots ls h7) (fun h2 k2 t5 kk => ?_)
  have b1 : Bd g L0 _ M h2 := b.kp kk
  rw [signs_wS]
  repeat' walk_at "st"
  refine oCat (sz_line (by rw [show Str.ofString "..." = dots from rfl]; omega)) (fun _ _ => ?_)
  repeat' walk_at "st"
  refine oCat (sz_line (by rw [Str.length_append, show Str.ofString "..." = dots from rfl]; omega)) (fun _ _ => ?_)
  repeat' walk_at "st"
  refine ⟨b1.keep, ?_⟩
  obtain ⟨oL, HL, back⟩ := b1.out
  rw [show ((aS p ++ Txt.join (Str.ofString "...") (ls.map sg)) ++ aS q) = cutS p q ls from rfl]
  unfold fitF
  split
  · rename_i hn
    obtain ⟨e1, e2⟩ := split_cut p q ls h1 h7 hn
    refine use (ell_dots w prog (A.deeper _) mb _ _ _ _ _ _ _ W HL (cutS p q ls) (wS L) _ _ (pcsE p q ls) hh (by show A.depth + 1 < 900; exact dp hd) e2 e1 (by have := List.length_map (f := sg) (as := ls); cases p <;> cases q <;> simp [pcsE] at hn ⊢ <;> omega) (by omega) (by rw [wS_len]; omega) (pcsE_small p q ls h7)) (fun v h3 t3' xx => ?_)
    obtain ⟨ev, H3⟩ := xx
    subst ev
    rw [ell_fit p q ls L h1 hn]
    exact DoneF.ret ⟨rfl, (back _ _ _ H3).hp⟩
  · rename_i hn
    have hp : p = false := by cases p <;> simp at hn ⊢
    have hq : q = false := by cases q <;> simp at hn ⊢
    have hl : ls.length = 1 := by simp [hp, hq] at hn; omega
    subst hp; subst hq
    have e2 : (Builtin.Str.occurrences (cutS false false ls) dots 0 (cutS false false ls).length 1).isEmpty = true := by rw [o2, hl]; rfl
    have ec : cutS false false ls = wS ls := by
      match ls, hl with
      | [a], _ => rfl
    refine use (ell_plain w prog (A.deeper _) mb _ _ _ _ _ _ _ W HL (cutS false false ls) (wS L) _ _ (by show A.depth + 1 < 900; exact dp hd) e2) (fun v h3 t3' xx => ?_)
    obtain ⟨ev, H3⟩ := xx
    subst ev
    rw [ec, wS_eq]
    exact DoneF.ret ⟨rfl, (back _ _ _ H3).hp⟩
/-! ## a lambda -/
structure Lam (g : Heap) (c P : Addr) (mg : Str → Option Value) : Prop where
  hd : CodeHd g c P
  gl : g.Ns mainGlobals mg
  bm : ∃ bm ob, mg "__builtins__" = some (.ref bm) ∧ bm ≠ builtinsNs ∧ g.get? bm = some ob ∧ ob.cls = .type "module" ∧ ob.dict = some builtinsNs ∧ ob.data = .plain
theorem Lam.up {g g' : Heap} {c P : Addr} {mg} (x : Lam g c P mg) (k : Kp g g') : Lam g' c P mg :=
  ⟨x.hd.keeps k, x.gl.keeps k, let ⟨bm, ob, a, b, d, r⟩ := x.bm; ⟨bm, ob, a, b, k _ _ d, r⟩⟩
def tabO (pos : Pos) : Option Addr → Obj
  | none => tabObj #[]
  | some c' => tabObj (#[] ++ #[rawInt pos.line, rawInt pos.col, .ref c'])
def LamSt (g : Heap) (q : Str) (st : Option Addr) : Prop := ∀ c', st = some c' → g.CodeRec (.ref c') q
theorem codeRec_up {g g' : Heap} {v : Value} {q : Str} (x : g.CodeRec v q) (k : Kp g g') : g'.CodeRec v q :=
  let ⟨c, oc, vs, t, a, b, r⟩ := x; ⟨c, oc, vs, t, a, k _ _ b, r⟩
theorem LamSt.up {g g' : Heap} {q : Str} {st : Option Addr} (x : LamSt g q st) (k : Kp g g') : LamSt g' q st := fun c' e => codeRec_up (x c' e) k
section
variable {prog : Program} {w : World} {A : Around} {E : Value → Shared → Prop} {env : Env} {g h : Heap} {L : Addr} {l : List (Str × Value)} {M : List (Addr × (Obj → Prop))}
  {gs : Array GenState} {dr : Drawn} {tk : Nat} {os : OsState} {c P : Addr} {mg : Str → Option Value} {pos : Pos} {st : Option Addr} {params : Arguments} {body : Expr} {scope : Scope} {clos : List (Str × Addr)} {qual : Str}
theorem Lam.bat (La : Lam g c P mg) (hP : g.get? P = none) (k : Kp g h) : h.BuiltinsAt mg P := by
  obtain ⟨bm, ob, a1, a2, a3, a4, a5, a6⟩ := La.bm
  refine ⟨bm, ob, a1, a2, fun q => ?_, fun q => ?_, k _ _ a3, a4, a5, a6⟩
  · obtain ⟨o, es, ep, e, hd, _⟩ := La.gl
    rw [q, e] at a3; cases a3; rw [hd] at a6; cases a6
  · rw [q, hP] at a3; cases a3
theorem Lam.gne (La : Lam g c P mg) (hP : g.get? P = none) : mainGlobals ≠ P := fun q => by
  obtain ⟨o, es, ep, e, _⟩ := La.gl
  rw [q, hP] at e; cases e
theorem xLam {Q : Value → Shared → Prop} (La : Lam g c P mg) (b : Bd g L l ((P, (· = tabO pos st)) :: M) h) (hst : LamSt g qual st) (hcode : env.code = .ref c) (hge : env.globals = mainGlobals) (hcl : closureFor scope env = pure clos)
    (hdef : defaultsOf params env = ([], [])) (hq : env.qual ++ "<lambda>" = qual)
    (q : ∀ f g' st' h' tk' c' ctv pm, Kp g g' → Bd g' L l ((P, (· = tabO pos st')) :: M) h' → LamSt g' qual st' → g'.get? f = some (kla_obj "<lambda>" qual params body scope clos pm c' ctv) → g'.CodeRec (.ref c') qual → Q (.ref f) ⟨h', gs, dr, tk', os⟩) :
    wpAny (model prog w) A (eval (.Lambda params body scope pos) env) Q E ⟨h, gs, dr, tk, os⟩ := by
  refine kla_eval hdef ?_
  rw [hq]
  obtain ⟨⟨oP, eP, rfl⟩, fP⟩ := b.hp.mu (P, (· = tabO pos st)) (.head _)
  have kk := b.keep
  cases st with
  | none =>
    refine kla_makeFunction (mg := mg) (s := ⟨h, gs, dr, tk, os⟩) hcl hge (La.gl.keeps kk) hcode (La.hd.keeps kk) eP trivial rfl (La.gne fP) (La.bat fP kk) (fun c' ctv h' tk' hx hge0 hlt hrec htb => ?_)
    have hge' : h.objs.size ≤ c' := hge0
    have b1 : Bd g L l ((P, (· = tabO pos (some c'))) :: M) h' := b.upd hx htb rfl
    have b2 := b1.kp (Kp.push h' (kla_obj "<lambda>" qual params body scope clos ((mg "__name__").getD .none) c' ctv))
    obtain ⟨c₂, oc, vs, t, e2, hoc, hd, hv⟩ := hrec
    cases e2
    have b0 : Bd g L l ((P, (· = tabO pos (some c'))) :: M) h' := b1
    have sz : h.objs.size ≤ h'.objs.size := by omega
    obtain ⟨oL, HL, back⟩ := b2.out
    obtain ⟨g', k, H', fr⟩ := HL.freeze
    have hl : ∀ p ∈ ((L, (· = oL)) :: (P, (· = tabO pos (some c'))) :: M : List (Addr × (Obj → Prop))), p.1 < h.objs.size := by
      intro p hp
      rcases List.mem_cons.mp hp with rfl | hp
      · exact b.lsz
      · rcases List.mem_cons.mp hp with rfl | hp
        · exact b.hp.msz (P, (· = tabO pos none)) (.head _)
        · exact b.hp.msz p (.tail _ hp)
    have ec : g'.get? c' = some oc := fr _ _ (Heap.get?_push_of_some _ hoc) fun q => by
      obtain ⟨p, hp, e⟩ := List.mem_map.mp q
      have h0 := hl p hp
      rw [e] at h0
      exact absurd h0 (Nat.not_lt.mpr hge')
    have ef : g'.get? h'.objs.size = some _ := fr _ _ (Heap.get?_push_size _ rfl) fun q => by
      obtain ⟨p, hp, e⟩ := List.mem_map.mp q
      have h0 := hl p hp
      rw [e] at h0
      exact absurd h0 (Nat.not_lt.mpr sz)
    have hr : g'.CodeRec (.ref c') qual := ⟨c', oc, vs, t, rfl, ec, hd, hv⟩
    exact q _ g' (some c') _ _ c' _ _ k (back _ _ _ H') (fun c₂ e => by cases e; exact hr) ef hr
  | some c' =>
    have hf : codeAmong pos (#[] ++ #[rawInt pos.line, rawInt pos.col, .ref c'] : Array Value).toList = some (.ref c') := by
      simp [codeAmong, rawInt]
    refine kla_makeFunctionHit (mg := mg) (s := ⟨h, gs, dr, tk, os⟩) hcl hge (La.gl.keeps kk) hcode (La.hd.keeps kk) eP (by simp [TriplesOk, rawInt]) hf (La.bat fP kk) (fun ctv h' tk' hx hsz => ?_)
    have b2 := (b.kp hx).kp (Kp.push h' (kla_obj "<lambda>" qual params body scope clos ((mg "__name__").getD .none) c' ctv))
    obtain ⟨oL, HL, back⟩ := b2.out
    obtain ⟨g', k, H', fr⟩ := HL.freeze
    have hl : ∀ p ∈ ((L, (· = oL)) :: (P, (· = tabO pos (some c'))) :: M : List (Addr × (Obj → Prop))), p.1 < h.objs.size := by
      intro p hp
      rcases List.mem_cons.mp hp with rfl | hp
      · exact b.lsz
      · rcases List.mem_cons.mp hp with rfl | hp
        · exact b.hp.msz _ (.head _)
        · exact b.hp.msz p (.tail _ hp)
    have ef : g'.get? h'.objs.size = some _ := fr _ _ (Heap.get?_push_size _ rfl) fun q => by
      obtain ⟨p, hp, e⟩ := List.mem_map.mp q
      have h0 := hl p hp
      have h1 : h.objs.size ≤ h'.objs.size := hsz
      rw [e] at h0
      exact absurd h0 (Nat.not_lt.mpr hsz)
    exact q _ g' (some c') _ _ c' _ _ k (back _ _ _ H') (hst.up k) ef (codeRec_up (hst c' rfl) k)
theorem rFreG {x : Str} {v : Value} {a : Addr} {Q : Value → Shared → Prop} (b : Bd g L l M h) (hc : env.cells.lookup x = some a) (hm : ∃ o, g.get? a = some o ∧ cel (some v) o) (hk : (env.scope.kind == .function && env.kindOf x == some .free && !(x == ("__debug__" : Str)) && !(x == ("__classdict__" : Str))) = true)
    (q : Q v ⟨h, gs, dr, tk, os⟩) : wpAny (model prog w) A (eval (.Name x pos) env) Q E ⟨h, gs, dr, tk, os⟩ := by
  simp only [Bool.and_eq_true, beq_iff_eq, Bool.not_eq_true'] at hk
  obtain ⟨o, e, z⟩ := hm
  exact wpAny_Name (wpAny_loadName_free hk.1.1.1 hk.1.1.2 hc ⟨o, b.keep _ _ e, z⟩ q hk.2) hk.1.2
end
def lamEnv (scope : Scope) (qual : Str) (cl : List (Str × Addr)) (c' : Addr) (L f : Addr) : Env := newEnv scope L mainGlobals cl (qual ++ ".<locals>.") (some f) (.ref c') none builtinsNs
theorem enterL {K : Frag} {mb} {prog : Program} {w : World} {A : Around} {g h : Heap} {M : List (Addr × (Obj → Prop))} {gs dr tk os} {R : Value → Heap → Prop} {f c' : Addr} {args : Args} {params : Arguments} {body : Expr} {scope : Scope} {cl : List (Str × Addr)} {qual : Str} {pm ctv : Value} (binds : List (Str × Value)) (W : Wld K mb g) (H : Hp g M h)
    (hroom : A.depth < 1000) (ho : g.get? f = some (kla_obj "<lambda>" qual params body scope cl pm c' ctv)) (hcd : g.CodeRec (.ref c') qual)
    (hbind : bindArgs (kla_fn "<lambda>" qual params body scope cl pm (.ref c') ctv) args = pure binds)
    (hcell : (scope.names.all fun x => x.2 != .cell) = true) (hloc : (binds.all fun x => decide (scope.names.lookup x.1 = some .local)) = true) (hnd : nodupK binds = true)
    (hco : scope.isCoroutine = false) (hgen : scope.isGenerator = false) (hk : scope.kind = .function)
    (q : ∀ L h0 tk0, Bd g L binds M h0 → wpAny (model prog w) (A.deeper (lamEnv scope qual cl c' L f)) (eval body (lamEnv scope qual cl c' L f)) (Done gs dr os R) (fun _ _ => False) ⟨h0, gs, dr, tk0, os⟩) :
    codeAny (model prog w) A (.call (.ref f) args) (Rt gs dr os R) ⟨h, gs, dr, tk, os⟩ := by
  have W' := W.up H.keep
  refine kla_callFunE hroom (H.keep _ _ ho) rfl hco hgen rfl (codeRec_up hcd H.keep) ?_
  rw [hbind]
  refine wpAny_pure (wpAny_newFunctionEnv (s := ⟨h, gs, dr, tk, os⟩) (fun x hx => by simpa using List.all_eq_true.mp hcell x hx) (locs hloc) (fun h₀ hns₀ hsb₀ => ⟨W'.lim.fresh _ hsb₀, kla_codeExpr ?_⟩) hk)
  exact wpAny_mono (q _ h₀ _ (Bd.enter H hns₀ (fun b o e => hsb₀.extBut b o (Nat.ne_of_lt (Heap.lt_size e)) (Heap.get?_push_of_some _ e)) hnd)) (fun v s' hd => ⟨_, rfl, hd⟩) fun _ _ x => x.elim
def lamQ : Str := Str.ofString "_law_first_front.<locals>.<lambda>"
def lamP : Pos := { line := 194, col := 52, endLine := 194, endCol := 95 }
theorem slS_upto (L : List Nat) (i : Nat) (h : i ≤ L.length) : slS (wS L) none (some (i : Int)) none = wS (L.take i) := by
  have e : slS (wS L) none (some (i : Int)) none = slS (wS L) (some ((0 : Nat) : Int)) (some (i : Int)) none := by
    unfold slS
    have : ∀ k, Builtin.Str.strSliceIndices none (some (i : Int)) 1 k = Builtin.Str.strSliceIndices (some ((0 : Nat) : Int)) (some (i : Int)) 1 k := fun k => by
      have h0 : max (0 : Int) (min ((0 : Nat) : Int) (k : Int)) = 0 := by omega
      unfold Builtin.Str.strSliceIndices
      simp only [show ((1 : Int) > 0) from by decide, if_true, show ¬ (((0 : Nat) : Int) < 0) from by decide, if_false, h0]
    simp only [Option.getD_none, this]
  rw [e, slS_mid L 0 i (Nat.zero_le _) h]
  unfold Pl.str
  rw [List.drop_zero]
section
variable {prog : Program} {w : World} {A : Around} {E : Value → Shared → Prop} {h : Heap} {gs : Array GenState} {dr : Drawn} {tk : Nat} {os : OsState}
theorem oListR {r : Addr} {n : Nat} {t u v : Tok} {Q : Value → Shared → Prop} (hh : A.handled = none) (hr : IsRange h r 0 n 1 t u v) (hn : n ≤ 100)
    (q : ∀ D h' tk' vs, Kp h h' → h.get? D = none → IsL h' D vs → vs.length = n → (∀ (i : Nat) v, vs[i]? = some v → ∃ t, v = .int (i : Nat) t) → Q (.ref D) ⟨h', gs, dr, tk', os⟩) : wpAny (model prog w) A (call (.type "list") [.ref r] []) Q E ⟨h, gs, dr, tk, os⟩ := by
  refine call_list_range (s := ⟨h, gs, dr, tk, os⟩) (n := n) hh hr (rng_ok n hn).1 (rng_ok n hn).2 (by omega) (fun h' tk' acc c' k e it => ?_)
  refine q _ h' tk' acc.toList k (fresh_size h) ⟨_, e, c', by simp⟩ (by simpa using it.1) (fun i v hv => ?_)
  obtain ⟨t, e⟩ := it.2 i v (by simpa using hv)
  exact ⟨t, by rw [e]; congr 1; omega⟩
end
theorem lt_true (b : Bool) : decide (PyProof.Rows.b2i b < PyProof.Rows.b2i true) = !b := by cases b <;> rfl
set_option maxHeartbeats 2000000 in
theorem frontN_ (w : World) (prog : Program) (A : Around) (mb mg) (g h : Heap) (M) (gs dr tk os) (W : Wld (KK w) mb g) (La : Lam g 245 241 mg) (st) (hst : LamSt g lamQ st) (H : Hp g ((241, (· = tabO lamP st)) :: M) h) (hh : A.handled = none) (hd : A.depth < 800)
    (ls L : List Nat) (h1 : 1 ≤ ls.length) (h7 : ls.length ≤ 7) (hz : L.length ≤ 20) (e : Nat) (he : e < L.length) (hm : ∀ i, i ≤ L.length → Pl.sub ls (L.take i) = decide (e < i)) (lo : Nat) (tlo : Tok) (hlo0 : lo ≤ L.length) (t1 t2 : Tok) :
    codeAny (model prog w) A (.call (.ref 246) ⟨[.str (wS ls) t1, .str (wS L) t2, .int lo tlo, .none], []⟩) (Rt gs dr os fun v h' => ∃ t g' st', v = .int (max lo (e + 1) : Nat) t ∧ Kp g g' ∧ Hp g' ((241, (· = tabO lamP st')) :: M) h' ∧ LamSt g' lamQ st') ⟨h, gs, dr, tk, os⟩ := by
  refine enterC [(Str.ofString "word", .str (wS ls) t1), (Str.ofString "x", .str (wS L) t2), (Str.ofString "low", .int lo tlo), (Str.ofString "high", .none)] [(Str.ofString "low", .int lo tlo), (Str.ofString "high", .none)] W H (by omega) rfl rfl (by kernel_rfl!) rfl (by kernel_rfl!) rfl (by kernel_rfl!) (fun L => by kernel_rfl!) (by simp) (by kernel_rfl!) (fun L => by kernel_rfl!) rfl rfl rfl (fun L0 h0 tk0 b => ?_)
  have b0 : Bd g L0 [(Str.ofString "low", .int lo tlo), (Str.ofString "high", .none)] ((L0 + 1 + 1, cel (some (.str (wS L) t2))) :: (L0 + 1, cel (some (.str (wS ls) t1))) :: (241, (· = tabO lamP st)) :: M) h0 := b
  clear b
  repeat' walk_at "st"
  refine oLenS (sz_line (by rw [wS_len]; omega)) (fun _ _ => ?_)
  repeat' walk_at "st"
  rw [wS_len, show ((L.length : Int) + 1) = ((L.length + 1 : Nat) : Int) by omega]
  refine oRange1 (fun r h2 t3 t0 u0 v0 k2 hr => ?_)
  have b1 := b0.kp k2
  repeat' walk_at "st"
  refine oListR hh hr (by omega) (fun D h3 t4 as k3 f3 il3 asl asv => ?_)
  obtain ⟨g4, k4, b4, fr4⟩ := b1.freeze k3
  have il4 : IsL g4 D as := IsL.frz il3 fr4 f3
  clear b1 b0
  have W4 := W.up k4
  repeat' walk_at "st"
  clear b4
  rename Bd _ _ _ _ _ => b4
  have b5 := b4.perm (M' := (241, (· = tabO lamP st)) :: (L0 + 1 + 1, cel (some (.str (wS L) t2))) :: (L0 + 1, cel (some (.str (wS ls) t1))) :: M) (((List.Perm.swap _ _ _).cons _).trans (List.Perm.swap _ _ _))
  refine xLam (qual := lamQ) (La.up k4) b5 (hst.up k4) rfl rfl rfl rfl (by kernel_rfl!) (fun f g6 st6 h6 t6 c6 ctv pm k6 b6 hs6 ef6 hc6 => ?_)
  clear b5 b4
  refine ⟨k6.tr b6.keep, ?_⟩
  have b7 := b6.perm (M' := (L0 + 1 + 1, cel (some (.str (wS L) t2))) :: (L0 + 1, cel (some (.str (wS ls) t1))) :: (241, (· = tabO lamP st6)) :: M) ((List.Perm.swap _ _ _).trans ((List.Perm.swap _ _ _).cons _))
  obtain ⟨g8, k8, b8, cx⟩ := b7.fix
  obtain ⟨g9, k9, b9, cw⟩ := b8.fix
  clear b6 b7 b8
  have W9 := W4.up (k6.tr (k8.tr k9))
  have ef9 := k9 _ _ (k8 _ _ ef6)
  have hc9 := codeRec_up hc6 (k8.tr k9)
  have cx : ∃ o, g9.get? (L0 + 1 + 1) = some o ∧ cel (some (.str (wS L) t2)) o := let ⟨o, e, z⟩ := cx; ⟨o, k9 _ _ e, z⟩
  obtain ⟨oL, HL, back⟩ := b9.out
  refine use (bisL_keyN w prog (A.deeper _) mb _ _ _ _ _ _ _ W9 HL hh 880 (by show A.depth + 1 + 1 < 880; omega) (by omega) D f as (.bool true) (fun i => !Pl.sub ls (L.take i)) (il4.up (k6.tr (k8.tr k9))) (by omega) lo tlo (by omega) ⟨⟨_, _, ef9, rfl⟩, ?_⟩ ?_) (fun v h10 t10 ⟨r, t11, g10, ev, hr1, hr2, hlo, hhi, k10, H10⟩ => ?_)
  · intro i v A' g' M' h' tk' hh' hd' hv kg H'
    obtain ⟨ti, rfl⟩ := asv i v hv
    have hi : i ≤ L.length := by have := (List.getElem?_eq_some_iff.mp hv).1; omega
    refine Rt.mono (P := fun r h' => r = .bool (Pl.sub ls (L.take i)) ∧ Hp g' M' h') (enterL [(Str.ofString "i", .int i ti)] (W9.up kg) H' (by omega) (kg _ _ ef9) (codeRec_up hc9 kg) rfl (by kernel_rfl!) (by kernel_rfl!) (by kernel_rfl!) rfl rfl rfl (fun L1 h1' tk1 b1 => ?_)) ?_
    · have W' := W9.up kg
      repeat' walk_at "st"
      refine rFreG b1 (by exact rfl) (let ⟨o, e, z⟩ := cw; ⟨o, kg _ _ e, z⟩) (by kernel_rfl!) ?_
      repeat' walk_at "st"
      refine rFreG b1 (by exact rfl) (let ⟨o, e, z⟩ := cx; ⟨o, kg _ _ e, z⟩) (by kernel_rfl!) ?_
      repeat' walk_at "st"
      rename Kp _ _ => ks
      rename Heap.IsSliceOf _ _ _ _ _ => hs
      have b2 := b1.kp ks
      refine gCutS (lo := none) (hi := some (i : Int)) (st := none) ?_ hs .none (.int _ _) .none (by decide) ⟨_, rfl⟩ (fun _ _ => ?_)
      · rw [slS_upto L i hi, wS_len, List.length_take]; omega
      rw [slS_upto L i hi]
      repeat' walk_at "st"
      refine ⟨b2.keep, ?_⟩
      obtain ⟨oL', HL', back'⟩ := b2.out
      refine use (fits_ w prog (A'.deeper _) mb _ _ _ _ _ _ _ W' HL' hh' (by show A'.depth + 1 < 890; omega) true true ls (L.take i) h1 h7 (by rw [List.length_take]; omega) _ _ _ _) (fun v h3' t3' xx => ?_)
      obtain ⟨ev, H3⟩ := xx
      subst ev
      refine Done.mk ⟨?_, (back' _ _ _ H3).hp⟩
      have ef : fitF true true ls (L.take i) = Pl.sub ls (L.take i) := by
        unfold fitF
        rw [if_pos (by rfl)]
        unfold fitB
        simp
      rw [ef]
    · rintro v h'' ⟨rfl, H''⟩
      refine ⟨g', Kp.rf, H'', fun A'' E Q s q => ?_⟩
      simp only [if_true]
      refine PyProof.Rows.lt_bool ?_
      rw [lt_true]
      exact q
  · intro i j hij hj ej
    have hj' : j ≤ L.length := by omega
    rw [hm j hj'] at ej
    rw [hm i (by omega)]
    simp only [Bool.not_eq_true', decide_eq_false_iff_not] at ej ⊢
    omega
  subst ev
  have b10 := back _ _ _ H10
  refine DoneF.ret ⟨t11, g10, st6, ?_, k4.tr (k6.tr ((k8.tr k9).tr k10)), b10.hp, hs6.up ((k8.tr k9).tr k10)⟩
  have key1 : ∀ i, lo ≤ i → i < r → i ≤ e := fun i a b => by
    have := hlo i a b
    rw [hm i (by omega)] at this
    simp only [Bool.not_eq_true', decide_eq_false_iff_not] at this
    omega
  have key2 : ∀ i, r ≤ i → i < as.length → e < i := fun i a b => by
    have := hhi i a b
    rw [hm i (by omega)] at this
    simpa using this
  have : r = max lo (e + 1) := by
    by_cases hle : lo ≤ e
    · have a1 : r ≤ e + 1 := by
        refine Nat.le_of_not_lt fun q => ?_
        have := key1 (e + 1) (by omega) q; omega
      have a2 : e + 1 ≤ r := by
        refine Nat.le_of_not_lt fun q => ?_
        have := key2 e (by omega) (by omega); omega
      omega
    · have a1 : r ≤ lo := by
        refine Nat.le_of_not_lt fun q => ?_
        have := key1 lo (Nat.le_refl _) q; omega
      omega
  rw [this]
set_option maxHeartbeats 2000000 in
theorem frontI_ (w : World) (prog : Program) (A : Around) (mb mg) (g h : Heap) (M) (gs dr tk os) (W : Wld (KK w) mb g) (La : Lam g 245 241 mg) (st) (hst : LamSt g lamQ st) (H : Hp g ((241, (· = tabO lamP st)) :: M) h) (hh : A.handled = none) (hd : A.depth < 800)
    (ls L : List Nat) (h1 : 1 ≤ ls.length) (h7 : ls.length ≤ 7) (hz : L.length ≤ 20) (e : Nat) (he : e < L.length) (hm : ∀ i, i ≤ L.length → Pl.sub ls (L.take i) = decide (e < i)) (hi : Nat) (tlo thi : Tok) (hhi0 : hi ≤ L.length) (t1 t2 : Tok) :
    codeAny (model prog w) A (.call (.ref 246) ⟨[.str (wS ls) t1, .str (wS L) t2, .int (0 : Nat) tlo, .int hi thi], []⟩) (Rt gs dr os fun v h' => ∃ t g' st', v = .int (min hi (e + 1) : Nat) t ∧ Kp g g' ∧ Hp g' ((241, (· = tabO lamP st')) :: M) h' ∧ LamSt g' lamQ st') ⟨h, gs, dr, tk, os⟩ := by
  refine enterC [(Str.ofString "word", .str (wS ls) t1), (Str.ofString "x", .str (wS L) t2), (Str.ofString "low", .int (0 : Nat) tlo), (Str.ofString "high", .int hi thi)] [(Str.ofString "low", .int (0 : Nat) tlo), (Str.ofString "high", .int hi thi)] W H (by omega) rfl rfl (by kernel_rfl!) rfl (by kernel_rfl!) rfl (by kernel_rfl!) (fun L => by kernel_rfl!) (by simp) (by kernel_rfl!) (fun L => by kernel_rfl!) rfl rfl rfl (fun L0 h0 tk0 b => ?_)
  have b0 : Bd g L0 [(Str.ofString "low", .int (0 : Nat) tlo), (Str.ofString "high", .int hi thi)] ((L0 + 1 + 1, cel (some (.str (wS L) t2))) :: (L0 + 1, cel (some (.str (wS ls) t1))) :: (241, (· = tabO lamP st)) :: M) h0 := b
  clear b
  repeat' walk_at "st"
  refine oLenS (sz_line (by rw [wS_len]; omega)) (fun _ _ => ?_)
  repeat' walk_at "st"
  rw [wS_len, show ((L.length : Int) + 1) = ((L.length + 1 : Nat) : Int) by omega]
  refine oRange1 (fun r h2 t3 t0 u0 v0 k2 hr => ?_)
  have b1 := b0.kp k2
  repeat' walk_at "st"
  refine oListR hh hr (by omega) (fun D h3 t4 as k3 f3 il3 asl asv => ?_)
  obtain ⟨g4, k4, b4, fr4⟩ := b1.freeze k3
  have il4 : IsL g4 D as := IsL.frz il3 fr4 f3
  clear b1 b0
  have W4 := W.up k4
  repeat' walk_at "st"
  clear b4
  rename Bd _ _ _ _ _ => b4
  have b5 := b4.perm (M' := (241, (· = tabO lamP st)) :: (L0 + 1 + 1, cel (some (.str (wS L) t2))) :: (L0 + 1, cel (some (.str (wS ls) t1))) :: M) (((List.Perm.swap _ _ _).cons _).trans (List.Perm.swap _ _ _))
  refine xLam (qual := lamQ) (La.up k4) b5 (hst.up k4) rfl rfl rfl rfl (by kernel_rfl!) (fun f g6 st6 h6 t6 c6 ctv pm k6 b6 hs6 ef6 hc6 => ?_)
  clear b5 b4
  refine ⟨k6.tr b6.keep, ?_⟩
  have b7 := b6.perm (M' := (L0 + 1 + 1, cel (some (.str (wS L) t2))) :: (L0 + 1, cel (some (.str (wS ls) t1))) :: (241, (· = tabO lamP st6)) :: M) ((List.Perm.swap _ _ _).trans ((List.Perm.swap _ _ _).cons _))
  obtain ⟨g8, k8, b8, cx⟩ := b7.fix
  obtain ⟨g9, k9, b9, cw⟩ := b8.fix
  clear b6 b7 b8
  have W9 := W4.up (k6.tr (k8.tr k9))
  have ef9 := k9 _ _ (k8 _ _ ef6)
  have hc9 := codeRec_up hc6 (k8.tr k9)
  have cx : ∃ o, g9.get? (L0 + 1 + 1) = some o ∧ cel (some (.str (wS L) t2)) o := let ⟨o, e, z⟩ := cx; ⟨o, k9 _ _ e, z⟩
  obtain ⟨oL, HL, back⟩ := b9.out
  refine use (bisL_keyI w prog (A.deeper _) mb _ _ _ _ _ _ _ W9 HL hh 880 (by show A.depth + 1 + 1 < 880; omega) (by omega) D f as (.bool true) (fun i => !Pl.sub ls (L.take i)) (il4.up (k6.tr (k8.tr k9))) (by omega) 0 tlo hi thi (by omega) (Nat.zero_le _) ⟨⟨_, _, ef9, rfl⟩, ?_⟩ ?_) (fun v h10 t10 ⟨r, t11, g10, ev, hr1, hr2, hlo, hhi, k10, H10⟩ => ?_)
  · intro i v A' g' M' h' tk' hh' hd' hv kg H'
    obtain ⟨ti, rfl⟩ := asv i v hv
    have hi : i ≤ L.length := by have := (List.getElem?_eq_some_iff.mp hv).1; omega
    refine Rt.mono (P := fun r h' => r = .bool (Pl.sub ls (L.take i)) ∧ Hp g' M' h') (enterL [(Str.ofString "i", .int i ti)] (W9.up kg) H' (by omega) (kg _ _ ef9) (codeRec_up hc9 kg) rfl (by kernel_rfl!) (by kernel_rfl!) (by kernel_rfl!) rfl rfl rfl (fun L1 h1' tk1 b1 => ?_)) ?_
    · have W' := W9.up kg
      repeat' walk_at "st"
      refine rFreG b1 (by exact rfl) (let ⟨o, e, z⟩ := cw; ⟨o, kg _ _ e, z⟩) (by kernel_rfl!) ?_
      repeat' walk_at "st"
      refine rFreG b1 (by exact rfl) (let ⟨o, e, z⟩ := cx; ⟨o, kg _ _ e, z⟩) (by kernel_rfl!) ?_
      repeat' walk_at "st"
      rename Kp _ _ => ks
      rename Heap.IsSliceOf _ _ _ _ _ => hs
      have b2 := b1.kp ks
      refine gCutS (lo := none) (hi := some (i : Int)) (st := none) ?_ hs .none (.int _ _) .none (by decide) ⟨_, rfl⟩ (fun _ _ => ?_)
      · rw [slS_upto L i hi, wS_len, List.length_take]; omega
      rw [slS_upto L i hi]
      repeat' walk_at "st"
      refine ⟨b2.keep, ?_⟩
      obtain ⟨oL', HL', back'⟩ := b2.out
      refine use (fits_ w prog (A'.deeper _) mb _ _ _ _ _ _ _ W' HL' hh' (by show A'.depth + 1 < 890; omega) true true ls (L.take i) h1 h7 (by rw [List.length_take]; omega) _ _ _ _) (fun v h3' t3' xx => ?_)
      obtain ⟨ev, H3⟩ := xx
      subst ev
      refine Done.mk ⟨?_, (back' _ _ _ H3).hp⟩
      have ef : fitF true true ls (L.take i) = Pl.sub ls (L.take i) := by
        unfold fitF
        rw [if_pos (by rfl)]
        unfold fitB
        simp
      rw [ef]
    · rintro v h'' ⟨rfl, H''⟩
      refine ⟨g', Kp.rf, H'', fun A'' E Q s q => ?_⟩
      simp only [if_true]
      refine PyProof.Rows.lt_bool ?_
      rw [lt_true]
      exact q
  · intro i j hij hj ej
    have hj' : j ≤ L.length := by omega
    rw [hm j hj'] at ej
    rw [hm i (by omega)]
    simp only [Bool.not_eq_true', decide_eq_false_iff_not] at ej ⊢
    omega
  subst ev
  have b10 := back _ _ _ H10
  refine DoneF.ret ⟨t11, g10, st6, ?_, k4.tr (k6.tr ((k8.tr k9).tr k10)), b10.hp, hs6.up ((k8.tr k9).tr k10)⟩
  have key1 : ∀ i, 0 ≤ i → i < r → i ≤ e := fun i a b => by
    have := hlo i a b
    rw [hm i (by omega)] at this
    simp only [Bool.not_eq_true', decide_eq_false_iff_not] at this
    omega
  have key2 : ∀ i, r ≤ i → i < hi → e < i := fun i a b => by
    have := hhi i a b
    rw [hm i (by omega)] at this
    simpa using this
  have : r = min hi (e + 1) := by
    by_cases hle : e < hi
    · have a1 : r ≤ e + 1 := by
        refine Nat.le_of_not_lt fun q => ?_
        have := key1 (e + 1) (by omega) q; omega
      have a2 : e + 1 ≤ r := by
        refine Nat.le_of_not_lt fun q => ?_
        have := key2 e (by omega) (by omega); omega
      omega
    · have a2 : hi ≤ r := by
        refine Nat.le_of_not_lt fun q => ?_
        have := key2 r (Nat.le_refl _) q; omega
      omega
  rw [this]
/-! ## max, min, a list times an int -/
section
variable {prog : Program} {w : World} {A : Around} {E : Value → Shared → Prop} {h : Heap} {gs : Array GenState} {dr : Drawn} {tk : Nat} {os : OsState} {a : Addr} {vs : List Value}
theorem oMax {x y : Int} {t u : Tok} {Q : Value → Shared → Prop} (hh : A.handled = none) (q : ∀ h' tk' t', Kp h h' → Q (.int (max x y) t') ⟨h', gs, dr, tk', os⟩) : wpAny (model prog w) A (call (.builtin "max") [.int x t, .int y u] []) Q E ⟨h, gs, dr, tk, os⟩ := by
  refine max_two_ints (s := ⟨h, gs, dr, tk, os⟩) hh (fun h' tk' hk => ?_)
  split
  · have := q h' tk' u hk
    rwa [show max x y = y by omega] at this
  · have := q h' tk' t hk
    rwa [show max x y = x by omega] at this
theorem oMin {x y : Int} {t u : Tok} {Q : Value → Shared → Prop} (hh : A.handled = none) (q : ∀ h' tk' t', Kp h h' → Q (.int (min x y) t') ⟨h', gs, dr, tk', os⟩) : wpAny (model prog w) A (call (.builtin "min") [.int x t, .int y u] []) Q E ⟨h, gs, dr, tk, os⟩ := by
  refine min_two_ints (s := ⟨h, gs, dr, tk, os⟩) hh (fun h' tk' hk => ?_)
  split
  · have := q h' tk' u hk
    rwa [show min x y = y by omega] at this
  · have := q h' tk' t hk
    rwa [show min x y = x by omega] at this
theorem rep_flat (v : Value) : ∀ (n : Nat) (acc : Array Value), List.foldl (fun x1 x2 => x1 ++ x2) acc (List.replicate n #[v]) = acc ++ (List.replicate n v).toArray
  | 0, acc => by simp
  | n + 1, acc => by
    rw [List.replicate_succ, List.foldl_cons, rep_flat v n, List.replicate_succ, Array.append_assoc]
    congr 1
    simp
theorem oMulL0 {v : Value} {n : Nat} {x : Int} {u : Tok} {Q : Value → Shared → Prop} (hl : IsL h a [v]) (hx : x = n) (hn : n ≤ 1000) (q : ∀ D h', Kp h h' → h.get? D = none → IsL h' D (List.replicate n v) → Q (.ref D) ⟨h', gs, dr, tk, os⟩) :
    wpAny (model prog w) A (binaryOp .Mult (.ref a) (.int x u)) Q E ⟨h, gs, dr, tk, os⟩ := by
  obtain ⟨o, ho, k, rfl⟩ := hl
  have e : List.foldl (fun x1 x2 => x1 ++ x2) #[] (List.replicate (if ([v].toArray).isEmpty = true then 0 else x.toNat) [v].toArray) = (List.replicate n v).toArray := by
    rw [if_neg (by simp), hx, Int.toNat_natCast, rep_flat]; simp
  have h1 : x.toNat = n := by rw [hx, Int.toNat_natCast]
  have sz : ([v].toArray).size = 1 := rfl
  have hT : Shared.TypeIs ⟨h, gs, dr, tk, os⟩ (.ref a) "list" := ⟨_, ho, rfl⟩
  have hI : Shared.TypeIs ⟨h, gs, dr, tk, os⟩ (.int x u) "int" := typeIs_int _ _ _
  have fit : Builtin.List.listFitsIndex x = true := by simp [Builtin.List.listFitsIndex]; omega
  generalize [v].toArray = items at *
  refine wpAny_binaryOp_repeat_ref (T := "list") (U := "int") (by decide) hT (fun s' => typeIs_int s' x u) noFill_list_mul F.fills_int_mul F.slot_int_rmul repeat_list F.slot_int_index.lookup ?_
  refine call_meets F.slot_int_rmul hI F.entry_int_rmul (F.args_int_rmul_2 _ _) (int___rmul___int_list x u a items k) ⟨ho, rfl, hT, ?_⟩
  refine call_meets F.slot_list_mul hT F.entry_list_mul (F.args_list_mul_2 _ _) (AutoListH.list___mul___list_int_3 a items k x u (by rw [fit]; decide) (by rw [sz, h1]; omega) (by simp [Builtin.List.listTooLong, sizeLine, sz, h1]; omega)) ⟨ho, ?_⟩
  rw [e]
  exact q _ _ (Kp.push _ _) (fresh_size h) (IsL.of ⟨_, Heap.get?_push_size _ rfl⟩)
theorem oMulL {v : Value} {n : Nat} {u : Tok} {Q : Value → Shared → Prop} (hl : IsL h a [v]) (hn : n ≤ 1000) (q : ∀ D h', Kp h h' → h.get? D = none → IsL h' D (List.replicate n v) → Q (.ref D) ⟨h', gs, dr, tk, os⟩) :
    wpAny (model prog w) A (binaryOp .Mult (.ref a) (.int n u)) Q E ⟨h, gs, dr, tk, os⟩ := oMulL0 hl rfl hn q
end
theorem wS_append (a b : List Nat) : wS (a ++ b) = wS a ++ wS b := by
  show Str.mk _ = Str.mk _
  congr 1
  simp [wS]
theorem slS_from (L : List Nat) (i : Nat) (h : i ≤ L.length) : slS (wS L) (some (i : Int)) none none = wS (L.drop i) := by
  have e : slS (wS L) (some (i : Int)) none none = slS (wS L) (some (i : Int)) (some (L.length : Int)) none := by
    unfold slS
    rw [wS_len]
    have : Builtin.Str.strSliceIndices (some (i : Int)) none 1 L.length = Builtin.Str.strSliceIndices (some (i : Int)) (some (L.length : Int)) 1 L.length := by
      have h0 : max (0 : Int) (min (L.length : Int) (L.length : Int)) = L.length := by omega
      have h1 : ¬ ((L.length : Int) < 0) := by omega
      unfold Builtin.Str.strSliceIndices
      simp only [show ((1 : Int) > 0) from by decide, if_true, h1, if_false, h0]
    simp only [Option.getD_none, this]
  rw [e, slS_mid L i L.length h (Nat.le_refl _)]
  unfold Pl.str
  rw [List.take_length]
theorem fitF_tt (ls L : List Nat) : fitF true true ls L = Pl.sub ls L := by
  unfold fitF
  rw [if_pos (by rfl)]
  unfold fitB
  simp
set_option maxHeartbeats 2000000 in
theorem none_ (w : World) (prog : Program) (A : Around) (mb) (g h : Heap) (M) (gs dr tk os) (W : Wld (KK w) mb g) (H : Hp g M h) (hh : A.handled = none) (hd : A.depth < 850) (ls L Y : List Nat) (h7 : ls.length ≤ 6) (hL : L.length ≤ 20) (hY : Y.length ≤ 20)
    (hno : ∀ k, k ≤ ls.length → ∀ c, c < 3 → ¬ (Pl.sub (ls.take k ++ c :: ls.drop k) L = true ∧ Pl.sub (ls.take k ++ c :: ls.drop k) Y = true)) (t1 t2 t3 : Tok) :
    codeAny (model prog w) A (.call (.ref 260) ⟨[.str (wS L) t1, .str (wS Y) t2, .str (wS ls) t3], []⟩) (Rt gs dr os fun v h' => v = .bool true ∧ ∃ g', Kp g g' ∧ Hp g' M h') ⟨h, gs, dr, tk, os⟩ := by
  refine enter [(Str.ofString "x", .str (wS L) t1), (Str.ofString "y", .str (wS Y) t2), (Str.ofString "word", .str (wS ls) t3)] W H (by omega) rfl rfl (by kernel_rfl!) rfl (binds_peek W H.keep fun S => by kernel_rfl!) (by kernel_rfl!) (by kernel_rfl!) (by kernel_rfl!) rfl rfl rfl (fun L0 h0 tk0 b => ?_)
  repeat' walk_at "st"
  refine sFor (fun _ => rfl) ?_
  repeat' walk_at "st"
  refine oLenS (sz_line (by rw [wS_len]; omega)) (fun _ _ => ?_)
  repeat' walk_at "st"
  rw [wS_len, show ((ls.length : Int) + 1) = ((ls.length + 1 : Nat) : Int) by omega]
  refine oRange1 (fun r h2 t4 t0 u0 v0 k2 hr => ?_)
  have b1 := b.kp k2
  refine fRange hh b1 hr (n := ls.length + 1) (rng_ok _ (by omega)).1 (rng_ok _ (by omega)).2 (by kernel_rfl!) rfl
    (fun k g1 l1 M1 => M1 = M ∧ l1 = [(Str.ofString "x", .str (wS L) t1), (Str.ofString "y", .str (wS Y) t2), (Str.ofString "word", .str (wS ls) t3)]) ⟨rfl, rfl⟩ ?_ ?_
  · rintro k tk1 g1 l1 M1 h3 t5 I o hk k1 ⟨rfl, rfl⟩ hb
    have b2 := hb _ (by walk_at "sto")
    clear hb
    rw [show ((0 : Int) + (k : Int) * 1) = (k : Int) by omega] at b2
    have W1 := W.up k1
    repeat' walk_at "st"
    refine sFor (fun _ => rfl) ?_
    repeat' walk_at "st"
    refine fStr hh b2 (by kernel_rfl!) (by kernel_rfl!) rfl
      (fun j g2 l2 M2 => M2 = (I, (· = o)) :: M1 ∧ l2 = [(Str.ofString "x", .str (wS L) t1), (Str.ofString "y", .str (wS Y) t2), (Str.ofString "word", .str (wS ls) t3), (Str.ofString "k", .int k tk1)]) ⟨rfl, rfl⟩ ?_ ?_
    · rintro j c tc g2 l2 M2 h4 t6 I2 o2 hc k2' ⟨rfl, rfl⟩ hb
      have b3 := hb _ (by walk_at "sto")
      clear hb
      have W2 := W1.up k2'
      obtain ⟨hj3, rfl⟩ := abc_c j c hc
      have hk' : k ≤ ls.length := by omega
      repeat' walk_at "st"
      rename Kp _ _ => ks
      rename Heap.IsSliceOf _ _ _ _ _ => hs
      have b4 := b3.kp ks
      clear b3
      refine gCutS (lo := none) (hi := some (k : Int)) (st := none) ?_ hs .none (.int _ _) .none (by decide) ⟨_, rfl⟩ (fun _ _ => ?_)
      · rw [slS_upto ls k hk', wS_len, List.length_take]; omega
      rw [slS_upto ls k hk']
      repeat' walk_at "st"
      refine oCat (sz_line (by rw [wS_len, List.length_take]; show _ + 1 ≤ _; omega)) (fun _ _ => ?_)
      repeat' walk_at "st"
      rename Kp _ _ => ks2
      rename Heap.IsSliceOf _ _ _ _ _ => hs2
      have b5 := b4.kp ks2
      clear b4
      refine gCutS (lo := some (k : Int)) (hi := none) (st := none) ?_ hs2 (.int _ _) .none .none (by decide) ⟨_, rfl⟩ (fun _ _ => ?_)
      · rw [slS_from ls k hk', wS_len, List.length_drop]; omega
      rw [slS_from ls k hk']
      refine oCat (sz_line (by rw [Str.length_append, wS_len, wS_len, List.length_take, List.length_drop]; show _ + 1 + _ ≤ _; omega)) (fun _ _ => ?_)
      have ew : (wS (ls.take k) ++ (⟨#[97 + j]⟩ : Str)) ++ wS (ls.drop k) = wS (ls.take k ++ j :: ls.drop k) := by
        rw [wS_append, wS_cons, Str.append_assoc]; rfl
      rw [ew]
      have hnk := hno k hk' j hj3
      have hll : (ls.take k ++ j :: ls.drop k).length = ls.length + 1 := by
        rw [List.length_append, List.length_take, List.length_cons, List.length_drop]; omega
      generalize ls.take k ++ j :: ls.drop k = lg at *
      repeat' walk_at "st"
      clear b5
      rename Bd _ _ _ _ _ => b5
      refine wpAny_isTrue_BoolOp (wpAny_allTrue_And_cons ?_)
      repeat' walk_at "st"
      refine ⟨b5.keep, ?_⟩
      obtain ⟨oL, HL, back⟩ := b5.out
      refine use (fits_ w prog (A.deeper _) mb _ _ _ _ _ _ _ W2 HL hh (by show A.depth + 1 < 890; exact dp hd) true true lg L (by omega) (by omega) (by omega) _ _ _ _) (fun v h7' t7 xx => ?_)
      obtain ⟨ev, H7⟩ := xx
      subst ev
      have b6 := back _ _ _ H7
      clear HL H7 back b5
      rw [fitF_tt]
      repeat' walk_at "st"
      refine iteC (fun q1 => ?_) (fun q1 => ?_)
      · refine wpAny_allTrue_And_cons ?_
        repeat' walk_at "st"
        refine ⟨b6.keep, ?_⟩
        obtain ⟨oL, HL, back⟩ := b6.out
        refine use (fits_ w prog (A.deeper _) mb _ _ _ _ _ _ _ W2 HL hh (by show A.depth + 1 < 890; exact dp hd) true true lg Y (by omega) (by omega) (by omega) _ _ _ _) (fun v h8 t8 xx => ?_)
        obtain ⟨ev, H8⟩ := xx
        subst ev
        have b7 := back _ _ _ H8
        clear HL H8 back b6
        rw [fitF_tt]
        repeat' walk_at "st"
        have e2 : (Pl.sub lg Y != false) = false := by
          cases e : Pl.sub lg Y with
          | false => rfl
          | true =>
            have e1 : Pl.sub lg L = true := by
              cases e1 : Pl.sub lg L with
              | true => rfl
              | false => rw [e1] at q1; cases q1
            exact absurd ⟨e1, e⟩ hnk
        rw [e2]
        refine iteF ?_
        refine iteF ?_
        repeat' walk_at "st"
        have b8 := b7.fg (l' := [(Str.ofString "x", .str (wS L) t1), (Str.ofString "y", .str (wS Y) t2), (Str.ofString "word", .str (wS ls) t3), (Str.ofString "k", .int k tk1)]) (by walk_at "sub")
        exact BEnd.nxt Kp.rf b8 ⟨rfl, rfl⟩
      · refine iteF ?_
        repeat' walk_at "st"
        have b8 := b6.fg (l' := [(Str.ofString "x", .str (wS L) t1), (Str.ofString "y", .str (wS Y) t2), (Str.ofString "word", .str (wS ls) t3), (Str.ofString "k", .int k tk1)]) (by walk_at "sub")
        exact BEnd.nxt Kp.rf b8 ⟨rfl, rfl⟩
    rintro g9 l9 M9 h9 t9 k9 ⟨rfl, rfl⟩ b9
    repeat' walk_at "st"
    have b10 := b9.fg (l' := [(Str.ofString "x", .str (wS L) t1), (Str.ofString "y", .str (wS Y) t2), (Str.ofString "word", .str (wS ls) t3)]) (by walk_at "sub")
    exact BEnd.nxt k9 b10 ⟨rfl, rfl⟩
  rintro g11 l11 M11 h11 t11 k11 ⟨rfl, rfl⟩ b11
  repeat' walk_at "st"
  exact DoneF.ret ⟨rfl, g11, k11, b11.hp⟩
/-- what holds of the ends and the words behind the loops -/
structure Held (L Y : List Nat) (es : List Nat) (ws : List (List Nat)) : Prop where
  len : es.length = ws.length
  few : es.length ≤ 6
  big : L.length ≤ 6 ∧ Y.length ≤ 6
  each : ∀ (k e : Nat) (u : List Nat), es[k]? = some e → ws[k]? = some u → u.length = k + 1 ∧ e < L.length ∧ Pl.sub u Y = true ∧ (∀ i, i ≤ L.length → Pl.sub u (L.take i) = decide (e < i))
section
variable {M : Model} {A : Around} {E : Value → Shared → Prop} {env : Env} {s : Shared} {pos : Pos}
theorem xAnd {e₁ e₂ : Expr} {Q : Value → Shared → Prop}
    (q : wpAny M A (eval e₁ env) (fun v s₁ => wpAny M A (truthy v) (fun c s₂ => if c = true then wpAny M A (eval (.BoolOp .And [e₂] pos) env) Q E s₂ else Q v s₂) E s₁) E s) : wpAny M A (eval (.BoolOp .And [e₁, e₂] pos) env) Q E s := PyProof.Rows.BoolOp_and q
theorem xAnd3 {e₁ e₂ e₃ : Expr} {Q : Value → Shared → Prop}
    (q : wpAny M A (eval e₁ env) (fun v s₁ => wpAny M A (truthy v) (fun c s₂ => if c = true then wpAny M A (eval (.BoolOp .And [e₂, e₃] pos) env) Q E s₂ else Q v s₂) E s₁) E s) : wpAny M A (eval (.BoolOp .And [e₁, e₂, e₃] pos) env) Q E s := PyProof.Rows.BoolOp_and q
theorem xOr {e₁ e₂ : Expr} {Q : Value → Shared → Prop}
    (q : wpAny M A (eval e₁ env) (fun v s₁ => wpAny M A (truthy v) (fun c s₂ => if c = true then Q v s₂ else wpAny M A (eval (.BoolOp .Or [e₂] pos) env) Q E s₂) E s₁) E s) : wpAny M A (eval (.BoolOp .Or [e₁, e₂] pos) env) Q E s := PyProof.Rows.BoolOp_or q
theorem xOne {op : BoolOp} {e : Expr} {Q : Value → Shared → Prop} (q : wpAny M A (eval e env) Q E s) : wpAny M A (eval (.BoolOp op [e] pos) env) Q E s := PyProof.Rows.BoolOp_one q
end
theorem iteB {c : Bool} {P P' : Prop} (q : c = true → P) (q' : c = false → P') : (if c = true then P else P') := by cases c <;> simp_all
theorem char_at (L : List Nat) (i c : Nat) (h : L[i]? = some c) (hz : L.length ≤ 1000) : (seqIndex? (i : Int) (wS L).length).bind ((wS L).cps[·]?) = some (97 + c) := by
  have hi := (List.getElem?_eq_some_iff.mp h).1
  have e1 : seqIndex? (i : Int) (wS L).length = some i := by
    rw [wS_len]
    unfold seqIndex?
    simp; omega
  rw [e1]
  show (wS L).cps[i]? = _
  simp only [wS, List.getElem?_toArray, List.getElem?_map, h]
  rfl
theorem char_last (L : List Nat) (c : Nat) (h : L[L.length - 1]? = some c) : (seqIndex? (-1) (wS L).length).bind ((wS L).cps[·]?) = some (97 + c) := by
  have hi := (List.getElem?_eq_some_iff.mp h).1
  rw [idxN (by rw [wS_len]; omega), wS_len]
  show (wS L).cps[L.length - 1]? = _
  simp only [wS, List.getElem?_toArray, List.getElem?_map, h]
  rfl
/-- the four ways of a word, told by its letters -/
theorem ways (u L : List Nat) (e i a z : Nat) (hi : i ≤ L.length) (hL : 0 < L.length) (hu0 : u[0]? = some a) (huz : u[u.length - 1]? = some z) (hs : Pl.sub u (L.take i) = decide (e < i)) (x0 : Nat) (hx0 : L[0]? = some x0) :
    fitF true true u (L.take i) = decide (e < i) ∧
    (∀ xl, (e < i → L[i - 1]? = some xl) → fitF true false u (L.take i) = (decide (e < i) && (sg xl == sg z))) ∧
    fitF false true u (L.take i) = (decide (e < i) && (sg x0 == sg a)) ∧
    (∀ xl, (e < i → L[i - 1]? = some xl) → fitF false false u (L.take i) = (decide (e < i) && (sg xl == sg z) && (sg x0 == sg a) && (decide (2 ≤ u.length) || i == 1))) := by
  have hlen : (L.take i).length = i := by rw [List.length_take]; omega
  have tl : ∀ xl, e < i → L[i - 1]? = some xl → (L.take i)[(L.take i).length - 1]? = some xl := by
    intro xl h1 h2
    rw [hlen, List.getElem?_take_of_lt (by omega)]; exact h2
  have t0 : e < i → (L.take i)[0]? = some x0 := by
    intro h1
    rw [List.getElem?_take_of_lt (by omega)]; exact hx0
  have beqs : ∀ c d : Nat, (sg c == sg d) = decide (c = d) := fun c d => by rw [sg_inj, Bool.eq_iff_iff, Nat.beq_eq, decide_eq_true_eq]
  refine ⟨by rw [fitF_tt, hs], fun xl hxl => ?_, ?_, fun xl hxl => ?_⟩
  · unfold fitF
    rw [if_pos (by rfl)]
    unfold fitB
    rw [hs, huz]
    by_cases h : e < i
    · rw [tl xl h (hxl h), beqs]; simp [h]
    · simp [h]
  · unfold fitF
    rw [if_pos (by rfl)]
    unfold fitB
    rw [hs, hu0]
    by_cases h : e < i
    · rw [t0 h, beqs]; simp [h]
    · simp [h]
  · unfold fitF
    by_cases h2 : 2 ≤ u.length
    · rw [if_pos (by simp [h2])]
      unfold fitB
      rw [hs, hu0, huz]
      by_cases h : e < i
      · rw [t0 h, tl xl h (hxl h), beqs, beqs]
        simp only [h, h2, decide_true, Bool.true_and, Bool.false_or, Bool.true_or, Bool.and_true]
        simp only [Option.some.injEq]
        exact Bool.and_comm _ _
      · simp [h]
    · rw [if_neg (by simp [h2])]
      have hul : u.length = 1 := by
        have := (List.getElem?_eq_some_iff.mp hu0).1; omega
      match u, hul with
      | [b], _ =>
        have hab : b = a := by simpa using hu0
        have hzb : b = z := by simpa using huz
        subst hab
        subst hzb
        by_cases h : e < i
        · have hxl' := hxl h
          by_cases h1 : i = 1
          · subst h1
            have : xl = x0 := by rw [hx0] at hxl'; exact (Option.some.inj hxl').symm
            subst this
            have et : L.take 1 = [xl] := by
              match L, hx0 with
              | y :: r, hy => simp at hy; subst hy; rfl
            rw [et, beqs]
            simp only [h, List.cons.injEq, and_true]
            by_cases hb : b = xl
            · subst hb; simp
            · have hb' : ¬ xl = b := fun q => hb q.symm
              simp [hb, hb']
          · have hne : ¬ ([b] = L.take i) := fun q => by
              have := congrArg List.length q
              rw [hlen] at this; simp at this; omega
            simp [hne, h1]
        · have hne : ¬ ([b] = L.take i) := fun q => by
            rw [← q] at hs
            have : Pl.sub [b] [b] = true := by show (if Nat.beq b b = true then _ else _) = true; rw [if_pos (Nat.beq_refl b)]; rfl
            rw [this] at hs
            simp [h] at hs
          simp [hne, h]
theorem mergeV {M : Model} {A : Around} {E : Value → Shared → Prop} {t : Sem Value} {h : Heap} {gs : Array GenState} {dr : Drawn} {tk : Nat} {os : OsState} {Q : Value → Shared → Prop} (r : Bool)
    (p : wpAny M A t (fun v s => v = .bool r ∧ ∃ h' tk', s = ⟨h', gs, dr, tk', os⟩ ∧ Kp h h') E ⟨h, gs, dr, tk, os⟩) (q : ∀ h' tk', Kp h h' → Q (.bool r) ⟨h', gs, dr, tk', os⟩) : wpAny M A t Q E ⟨h, gs, dr, tk, os⟩ :=
  wpAny_mono p (fun v s hv => by obtain ⟨rfl, h', tk', rfl, k⟩ := hv; exact q h' tk' k) fun _ _ e => e
local macro_rules | `(tactic| walk_at "pull") => `(tactic| first | with_reducible exact Pull.hd | ((with_reducible refine Pull.tl ?_); walk_at "pull"))
set_option maxHeartbeats 4000000 in
theorem hold_ (w : World) (prog : Program) (A : Around) (mb mg) (g h : Heap) (M) (gs dr tk os) (W : Wld (KK w) mb g) (La : Lam g 245 241 mg) (st) (hst : LamSt g lamQ st) (H : Hp g ((241, (· = tabO lamP st)) :: M) h) (hh : A.handled = none) (hd : A.depth < 750)
    (L Y : List Nat) (es : List Nat) (ws : List (List Nat)) (En Wn : Addr) (ev wv : List Value) (hE : IsL g En ev) (hW : IsL g Wn wv) (nE : NsAre ev es) (sW : StrsAre wv (ws.map wS)) (hP : Held L Y es ws) (t1 t2 : Tok) :
    codeAny (model prog w) A (.call (.ref 253) ⟨[.str (wS L) t1, .str (wS Y) t2, .ref En, .ref Wn], []⟩) (Rt gs dr os fun v h' => v = .bool true ∧ ∃ g' st', Kp g g' ∧ Hp g' ((241, (· = tabO lamP st')) :: M) h' ∧ LamSt g' lamQ st') ⟨h, gs, dr, tk, os⟩ := by
  refine enter [(Str.ofString "x", .str (wS L) t1), (Str.ofString "y", .str (wS Y) t2), (Str.ofString "ends", .ref En), (Str.ofString "words", .ref Wn)] W H (by omega) rfl rfl (by kernel_rfl!) rfl (binds_peek W H.keep fun S => by kernel_rfl!) (by kernel_rfl!) (by kernel_rfl!) (by kernel_rfl!) rfl rfl rfl (fun L0 h0 tk0 b => ?_)
  have lE := NsAre.len nE
  have lW := SS.len sW
  rw [List.length_map] at lW
  have hlen := hP.len
  have hfew := hP.few
  have hbig := hP.big
  repeat' walk_at "st"
  refine sFor (fun _ => rfl) ?_
  repeat' walk_at "st"
  refine oLenL (hE.up b.keep) (by omega) (fun _ _ => ?_)
  repeat' walk_at "st"
  rw [lE]
  refine oRange1 (fun r h2 t4 t0 u0 v0 k2 hr => ?_)
  have b1 := b.kp k2
  clear b
  refine fRange hh b1 hr (n := es.length) (rng_ok _ (by omega)).1 (rng_ok _ (by omega)).2 (by kernel_rfl!) rfl
    (fun k g1 l1 M1 => ∃ st1, M1 = (241, (· = tabO lamP st1)) :: M ∧ LamSt g1 lamQ st1 ∧ l1 = [(Str.ofString "x", .str (wS L) t1), (Str.ofString "y", .str (wS Y) t2), (Str.ofString "ends", .ref En), (Str.ofString "words", .ref Wn)]) ⟨st, rfl, hst, rfl⟩ ?_ ?_
  · rintro k tk1 g1 l1 M1 h3 t5 I o hk k1 ⟨st1, rfl, hs1, rfl⟩ hb
    have b2 := hb _ (by walk_at "sto")
    clear hb
    rw [show ((0 : Int) + (k : Int) * 1) = (k : Int) by omega] at b2
    have W1 := W.up k1
    have La1 := La.up k1
    have hE1 := hE.up k1
    have hW1 := hW.up k1
    obtain ⟨e, he⟩ : ∃ e, es[k]? = some e := ⟨_, List.getElem?_eq_getElem hk⟩
    obtain ⟨u, hu⟩ : ∃ u, ws[k]? = some u := ⟨_, List.getElem?_eq_getElem (by omega)⟩
    obtain ⟨ul, eL, uY, uF⟩ := hP.each k e u he hu
    obtain ⟨te, hte⟩ := NsAre.at_ nE he
    obtain ⟨tu, htu⟩ := SS.at' sW (i := k) (y := wS u) (by rw [List.getElem?_map, hu]; rfl)
    obtain ⟨a, ha⟩ : ∃ a, u[0]? = some a := ⟨_, List.getElem?_eq_getElem (by omega)⟩
    obtain ⟨z, hz⟩ : ∃ z, u[u.length - 1]? = some z := ⟨_, List.getElem?_eq_getElem (by omega)⟩
    obtain ⟨x0, hx0⟩ : ∃ a, L[0]? = some a := ⟨_, List.getElem?_eq_getElem (by omega)⟩
    repeat' walk_at "st"
    refine gIdx (hW1.up b2.keep) (by omega) (by omega) (v := .str (wS u) tu) (by simpa using htu) (by kernel_rfl!) ?_
    repeat' walk_at "st"
    clear b2
    rename Bd _ _ _ _ _ => b2
    refine ⟨b2.keep, ?_⟩
    obtain ⟨oL, HL, back⟩ := b2.out
    refine use (fits_ w prog (A.deeper _) mb _ _ _ _ _ _ _ W1 HL hh (by show A.depth + 1 < 890; exact dp hd) true true u Y (by omega) (by omega) (by omega) _ _ _ _) (fun v h4 t6 xx => ?_)
    obtain ⟨ev', H4⟩ := xx
    subst ev'
    have b3 := back _ _ _ H4
    clear HL H4 back b2
    rw [fitF_tt, uY]
    repeat' walk_at "st"
    refine iteC (fun q => absurd q (by simp)) (fun _ => ?_)
    repeat' walk_at "st"
    refine sFor (fun _ => rfl) ?_
    repeat' walk_at "st"
    refine oLenS (sz_line (by rw [wS_len]; omega)) (fun _ _ => ?_)
    repeat' walk_at "st"
    rw [wS_len, show ((L.length : Int) + 1) = ((L.length + 1 : Nat) : Int) by omega]
    refine oRange1 (fun r2 h5 t7 t0' u0' v0' k5 hr2 => ?_)
    have b4 := b3.kp k5
    clear b3
    refine fRange hh b4 hr2 (n := L.length + 1) (rng_ok _ (by omega)).1 (rng_ok _ (by omega)).2 (by kernel_rfl!) rfl
      (fun i g2 l2 M2 => ∃ st2, M2 = [(I, (· = o)), (241, (· = tabO lamP st2))] ++ M ∧ LamSt g2 lamQ st2 ∧ l2 = [(Str.ofString "x", .str (wS L) t1), (Str.ofString "y", .str (wS Y) t2), (Str.ofString "ends", .ref En), (Str.ofString "words", .ref Wn), (Str.ofString "k", .int k tk1), (Str.ofString "word", .str (wS u) tu)]) ⟨st1, rfl, hs1, rfl⟩ ?_ ?_
    · rintro i ti g2 l2 M2 h6 t8 I2 o2 hi k2' ⟨st2, rfl, hs2, rfl⟩ hb
      have b5 := hb _ (by walk_at "sto")
      clear hb
      rw [show ((0 : Int) + (i : Int) * 1) = (i : Int) by omega] at b5
      have W2 := W1.up k2'
      have La2 := La1.up k2'
      have hE2 := hE1.up k2'
      have hi' : i ≤ L.length := by omega
      obtain ⟨xl, hxl⟩ : ∃ xl, e < i → L[i - 1]? = some xl := by
        by_cases h : e < i
        · exact ⟨L[i - 1], fun _ => List.getElem?_eq_getElem (by omega)⟩
        · exact ⟨0, fun q => absurd q h⟩
      obtain ⟨f1, f2, f3, f4⟩ := ways u L e i a z hi' (by omega) ha hz (uF i hi') x0 hx0
      have f2 := f2 xl hxl
      have f4 := f4 xl hxl
      repeat' walk_at "st"
      refine gIdx (hE2.up b5.keep) (by omega) (by omega) (v := .int e te) (by simpa using hte) (by kernel_rfl!) ?_
      repeat' walk_at "st"
      clear b5
      rename Bd _ _ _ _ _ => b5
      have efar : decide ((e : Int) < (i : Int)) = decide (e < i) := by rw [Bool.eq_iff_iff, decide_eq_true_eq, decide_eq_true_eq]; omega
      rw [efar] at b5
      refine mergeV (decide (e < i) && (sg xl == sg z)) ?_ (fun h7 t9 k7 => ?_)
      · refine xAnd ?_
        repeat' walk_at "st"
        refine iteB (fun q => ?_) (fun q => ?_)
        · have q' : e < i := of_decide_eq_true q
          refine xOne ?_
          repeat' walk_at "st"
          refine gIdxS (c := 97 + xl) (by omega) (by omega) (by rw [show ((i : Int) - 1) = ((i - 1 : Nat) : Int) by omega]; exact char_at L (i - 1) xl (hxl q') (by omega)) (by kernel_rfl!) (fun _ _ => ?_)
          repeat' walk_at "st"
          refine gIdxS (c := 97 + z) (by decide) (by decide) (char_last u z hz) (by kernel_rfl!) (fun _ _ => ?_)
          repeat' walk_at "st"
          exact ⟨by rw [q, Bool.true_and]; rfl, _, _, rfl, Kp.rf⟩
        · exact ⟨by rw [q, Bool.false_and], _, _, rfl, Kp.rf⟩
      have b6 := b5.kp k7
      clear b5
      repeat' walk_at "st"
      clear b6
      rename Bd _ _ _ _ _ => b6
      refine gIdxS (c := 97 + x0) (by decide) (by decide) (char_at L 0 x0 hx0 (by omega)) (by kernel_rfl!) (fun _ _ => ?_)
      repeat' walk_at "st"
      refine gIdxS (c := 97 + a) (by decide) (by decide) (char_at u 0 a ha (by omega)) (by kernel_rfl!) (fun _ _ => ?_)
      repeat' walk_at "st"
      clear b6
      rename Bd _ _ _ _ _ => b6
      change Bd g2 L0 _ _ _ at b6
      refine ⟨b6.keep, ?_⟩
      have plc : ∀ s oL, Pull (241, (· = tabO lamP s)) ((L0, (· = oL)) :: (I2, (· = o2)) :: (I, (· = o)) :: (241, (· = tabO lamP s)) :: M) ((L0, (· = oL)) :: (I2, (· = o2)) :: (I, (· = o)) :: M) := fun s oL => by walk_at "pull"
      obtain ⟨oL, HL, back⟩ := b6.out
      refine use (frontN_ w prog (A.deeper _) mb mg _ _ _ _ _ _ _ W2 La2 st2 hs2 (HL.perm (plc st2 oL).perm) hh (by show A.depth + 1 < 800; exact dp hd) u L (by omega) (by omega) (by omega) e eL uF i _ hi' _ _) (fun v h8 t10 xx => ?_)
      obtain ⟨tN, g3, st3, ev', k3, H8, hs3⟩ := xx
      subst ev'
      have b7 := back _ _ _ (H8.perm (plc st3 oL).perm.symm)
      clear HL H8 back b6
      have W3 := W2.up k3
      have La3 := La2.up k3
      have hE3 := hE2.up k3
      repeat' walk_at "st"
      refine gIdx (hE3.up b7.keep) (by omega) (by omega) (v := .int e te) (by simpa using hte) (by kernel_rfl!) ?_
      repeat' walk_at "st"
      refine oMax hh (fun h9 t11 tM kM => ?_)
      have b8 := b7.kp kM
      clear b7
      repeat' walk_at "st"
      rw [show (((max i (e + 1) : Nat) : Int) != max (i : Int) ((e : Int) + 1)) = false by rw [bne_eq_false_iff_eq]; omega]
      refine iteF ?_
      repeat' walk_at "st"
      refine ⟨b8.keep, ?_⟩
      obtain ⟨oL, HL, back⟩ := b8.out
      refine use (frontI_ w prog (A.deeper _) mb mg _ _ _ _ _ _ _ W3 La3 st3 hs3 (HL.perm (plc st3 oL).perm) hh (by show A.depth + 1 < 800; exact dp hd) u L (by omega) (by omega) (by omega) e eL uF i _ _ hi' _ _) (fun v h10 t12 xx => ?_)
      obtain ⟨tN2, g4, st4, ev', k4, H10, hs4⟩ := xx
      subst ev'
      have b7 := back _ _ _ (H10.perm (plc st4 oL).perm.symm)
      clear HL H10 back b8
      clear W3 La3
      have W3 := W2.up (k3.tr k4)
      have hE4 := hE3.up k4
      repeat' walk_at "st"
      refine gIdx (hE4.up b7.keep) (by omega) (by omega) (v := .int e te) (by simpa using hte) (by kernel_rfl!) ?_
      repeat' walk_at "st"
      refine oMin hh (fun h11 t12' tM2 kM2 => ?_)
      have b8 := b7.kp kM2
      clear b7
      repeat' walk_at "st"
      rw [show (((min i (e + 1) : Nat) : Int) != min (i : Int) ((e : Int) + 1)) = false by rw [bne_eq_false_iff_eq]; omega]
      refine iteF ?_
      have b7 := b8
      clear b8
      repeat' walk_at "st"
      rename Kp _ _ => ks
      rename Heap.IsSliceOf _ _ _ _ _ => hs
      have b8 := b7.kp ks
      clear b7
      refine gCutS (lo := none) (hi := some (i : Int)) (st := none) ?_ hs .none (.int _ _) .none (by decide) ⟨_, rfl⟩ (fun _ _ => ?_)
      · rw [slS_upto L i hi', wS_len, List.length_take]; omega
      rw [slS_upto L i hi']
      repeat' walk_at "st"
      refine ⟨b8.keep, ?_⟩
      obtain ⟨oL, HL, back⟩ := b8.out
      refine use (fits_ w prog (A.deeper _) mb _ _ _ _ _ _ _ W3 HL hh (by show A.depth + 1 < 890; exact dp hd) true true u (L.take i) (by omega) (by omega) (by rw [List.length_take]; omega) _ _ _ _) (fun v h12 t13 xx => ?_)
      obtain ⟨ev', H12⟩ := xx
      subst ev'
      have b7 := back _ _ _ H12
      clear HL H12 back b8
      rw [f1]
      repeat' walk_at "st"
      rw [bne_self_eq_false]
      refine iteF ?_
      repeat' walk_at "st"
      rename Kp _ _ => ks
      rename Heap.IsSliceOf _ _ _ _ _ => hs
      have b8 := b7.kp ks
      clear b7
      refine gCutS (lo := none) (hi := some (i : Int)) (st := none) ?_ hs .none (.int _ _) .none (by decide) ⟨_, rfl⟩ (fun _ _ => ?_)
      · rw [slS_upto L i hi', wS_len, List.length_take]; omega
      rw [slS_upto L i hi']
      repeat' walk_at "st"
      refine ⟨b8.keep, ?_⟩
      obtain ⟨oL, HL, back⟩ := b8.out
      refine use (fits_ w prog (A.deeper _) mb _ _ _ _ _ _ _ W3 HL hh (by show A.depth + 1 < 890; exact dp hd) true false u (L.take i) (by omega) (by omega) (by rw [List.length_take]; omega) _ _ _ _) (fun v h12 t13 xx => ?_)
      obtain ⟨ev', H12⟩ := xx
      subst ev'
      have b7 := back _ _ _ H12
      clear HL H12 back b8
      rw [f2]
      repeat' walk_at "st"
      rw [bne_self_eq_false]
      refine iteF ?_
      repeat' walk_at "st"
      rename Kp _ _ => ks
      rename Heap.IsSliceOf _ _ _ _ _ => hs
      have b8 := b7.kp ks
      clear b7
      refine gCutS (lo := none) (hi := some (i : Int)) (st := none) ?_ hs .none (.int _ _) .none (by decide) ⟨_, rfl⟩ (fun _ _ => ?_)
      · rw [slS_upto L i hi', wS_len, List.length_take]; omega
      rw [slS_upto L i hi']
      repeat' walk_at "st"
      refine ⟨b8.keep, ?_⟩
      obtain ⟨oL, HL, back⟩ := b8.out
      refine use (fits_ w prog (A.deeper _) mb _ _ _ _ _ _ _ W3 HL hh (by show A.depth + 1 < 890; exact dp hd) false true u (L.take i) (by omega) (by omega) (by rw [List.length_take]; omega) _ _ _ _) (fun v h12 t13 xx => ?_)
      obtain ⟨ev', H12⟩ := xx
      subst ev'
      have b7 := back _ _ _ H12
      clear HL H12 back b8
      rw [f3]
      repeat' walk_at "st"
      refine mergeV (decide (e < i) && (sg x0 == sg a)) ?_ (fun h13 t14 k13 => ?_)
      · refine xAnd ?_
        repeat' walk_at "st"
        refine iteB (fun q => ?_) (fun q => ?_)
        · refine xOne ?_
          repeat' walk_at "st"
          exact ⟨by rw [q, Bool.true_and]; rfl, _, _, rfl, Kp.rf⟩
        · exact ⟨by rw [q, Bool.false_and], _, _, rfl, Kp.rf⟩
      have b8 := b7.kp k13
      clear b7
      repeat' walk_at "st"
      rw [bne_self_eq_false]
      refine iteF ?_
      have b7 := b8
      clear b8
      repeat' walk_at "st"
      rename Kp _ _ => ks
      rename Heap.IsSliceOf _ _ _ _ _ => hs
      have b8 := b7.kp ks
      clear b7
      refine gCutS (lo := none) (hi := some (i : Int)) (st := none) ?_ hs .none (.int _ _) .none (by decide) ⟨_, rfl⟩ (fun _ _ => ?_)
      · rw [slS_upto L i hi', wS_len, List.length_take]; omega
      rw [slS_upto L i hi']
      repeat' walk_at "st"
      refine ⟨b8.keep, ?_⟩
      obtain ⟨oL, HL, back⟩ := b8.out
      refine use (fits_ w prog (A.deeper _) mb _ _ _ _ _ _ _ W3 HL hh (by show A.depth + 1 < 890; exact dp hd) false false u (L.take i) (by omega) (by omega) (by rw [List.length_take]; omega) _ _ _ _) (fun v h12 t13 xx => ?_)
      obtain ⟨ev', H12⟩ := xx
      subst ev'
      have b7 := back _ _ _ H12
      clear HL H12 back b8
      rw [f4]
      repeat' walk_at "st"
      refine mergeV (decide (e < i) && (sg xl == sg z) && (sg x0 == sg a) && (decide (2 ≤ u.length) || i == 1)) ?_ (fun h13 t14 k13 => ?_)
      · refine xAnd3 ?_
        repeat' walk_at "st"
        refine iteB (fun q => ?_) (fun q => ?_)
        · refine xAnd ?_
          repeat' walk_at "st"
          refine iteB (fun q2 => ?_) (fun q2 => ?_)
          · have q2 : (sg x0 == sg a) = true := q2
            refine xOne (xOr ?_)
            repeat' walk_at "st"
            refine iteB (fun q3 => ?_) (fun q3 => ?_)
            · refine ⟨?_, _, _, rfl, Kp.rf⟩
              have : decide (2 ≤ u.length) = true := by
                have q3' : (0 : Int) < (k : Int) := of_decide_eq_true q3
                exact decide_eq_true (by omega)
              rw [q, q2, this, q3]; rfl
            · refine xOne ?_
              repeat' walk_at "st"
              refine ⟨?_, _, _, rfl, Kp.rf⟩
              have : decide (2 ≤ u.length) = false := by
                have q3' : ¬ (0 : Int) < (k : Int) := of_decide_eq_false q3
                exact decide_eq_false (by omega)
              have e1 : ((i : Int) == 1) = (i == 1) := by rw [Bool.eq_iff_iff, beq_iff_eq, beq_iff_eq]; omega
              rw [q, q2, this, e1]; rfl
          · have q2 : (sg x0 == sg a) = false := q2
            exact ⟨by show Value.bool (sg x0 == sg a) = _; rw [q2, Bool.and_false, Bool.false_and], _, _, rfl, Kp.rf⟩
        · exact ⟨by rw [q, Bool.false_and, Bool.false_and], _, _, rfl, Kp.rf⟩
      have b8 := b7.kp k13
      clear b7
      repeat' walk_at "st"
      rw [bne_self_eq_false]
      refine iteF ?_
      repeat' walk_at "st"
      have b9 := b8.fg (l' := [(Str.ofString "x", .str (wS L) t1), (Str.ofString "y", .str (wS Y) t2), (Str.ofString "ends", .ref En), (Str.ofString "words", .ref Wn), (Str.ofString "k", .int k tk1), (Str.ofString "word", .str (wS u) tu)]) (by walk_at "sub")
      exact BEnd.nxt (k3.tr k4) b9 ⟨st4, rfl, hs4, rfl⟩
    rintro g14 l14 M14 h14 t14 k14 ⟨st5, rfl, hs5, rfl⟩ b14
    repeat' walk_at "st"
    have b15 := b14.fg (l' := [(Str.ofString "x", .str (wS L) t1), (Str.ofString "y", .str (wS Y) t2), (Str.ofString "ends", .ref En), (Str.ofString "words", .ref Wn)]) (by walk_at "sub")
    exact BEnd.nxt k14 b15 ⟨st5, rfl, hs5, rfl⟩
  rintro g16 l16 M16 h16 t16 k16 ⟨st6, rfl, hs6, rfl⟩ b16
  repeat' walk_at "st"
  exact DoneF.ret ⟨rfl, g16, st6, k16, b16.hp, hs6⟩
/-! ## Hunt and Szymanski: the ends and the words -/
namespace Hs
/-- the plain table -/
def T (xs ys : List Nat) : Nat → Nat → Nat
  | 0, _ => 0
  | _ + 1, 0 => 0
  | i + 1, j + 1 => if xs.getD i 0 = ys.getD j 0 then T xs ys i j + 1 else max (T xs ys (i + 1) j) (T xs ys i (j + 1))
variable (xs ys : List Nat)
theorem T_j0 (i : Nat) : T xs ys i 0 = 0 := by cases i <;> simp [T]
theorem T_i0 (j : Nat) : T xs ys 0 j = 0 := by simp [T]
theorem T_step : ∀ n i j, i + j ≤ n → (T xs ys i j ≤ T xs ys (i + 1) j ∧ T xs ys (i + 1) j ≤ T xs ys i j + 1) ∧ (T xs ys i j ≤ T xs ys i (j + 1) ∧ T xs ys i (j + 1) ≤ T xs ys i j + 1) := by
  intro n
  induction n with
  | zero =>
    intro i j h
    have hi : i = 0 := by omega
    have hj : j = 0 := by omega
    subst hi; subst hj
    simp [T]
  | succ n ih =>
    intro i j h
    constructor
    · cases j with
      | zero => rw [T_j0, T_j0]; omega
      | succ j =>
        have h1 := ih i j (by omega)
        show T xs ys i (j + 1) ≤ T xs ys (i + 1) (j + 1) ∧ T xs ys (i + 1) (j + 1) ≤ T xs ys i (j + 1) + 1
        rw [show T xs ys (i + 1) (j + 1) = if xs.getD i 0 = ys.getD j 0 then T xs ys i j + 1 else max (T xs ys (i + 1) j) (T xs ys i (j + 1)) by rw [T]]
        split <;> omega
    · cases i with
      | zero => rw [T_i0, T_i0]; omega
      | succ i =>
        have h1 := ih i j (by omega)
        show T xs ys (i + 1) j ≤ T xs ys (i + 1) (j + 1) ∧ T xs ys (i + 1) (j + 1) ≤ T xs ys (i + 1) j + 1
        rw [show T xs ys (i + 1) (j + 1) = if xs.getD i 0 = ys.getD j 0 then T xs ys i j + 1 else max (T xs ys (i + 1) j) (T xs ys i (j + 1)) by rw [T]]
        split <;> omega
theorem T_i (i j : Nat) : T xs ys i j ≤ T xs ys (i + 1) j ∧ T xs ys (i + 1) j ≤ T xs ys i j + 1 := (T_step xs ys (i + j) i j (Nat.le_refl _)).1
theorem T_j (i j : Nat) : T xs ys i j ≤ T xs ys i (j + 1) ∧ T xs ys i (j + 1) ≤ T xs ys i j + 1 := (T_step xs ys (i + j) i j (Nat.le_refl _)).2
theorem T_mono {i k : Nat} (j : Nat) (h : i ≤ k) : T xs ys i j ≤ T xs ys k j := by
  induction h with
  | refl => exact Nat.le_refl _
  | step _ ih => exact Nat.le_trans ih (T_i xs ys _ j).1
/-- a place where the letter j lengthens a longest text -/
def Up (j q i : Nat) : Prop := ∃ p, q ≤ p ∧ p < i ∧ xs.getD p 0 = ys.getD j 0 ∧ T xs ys p j = T xs ys i j
theorem T_up (j : Nat) : ∀ i, (Up xs ys j 0 i → T xs ys i (j + 1) = T xs ys i j + 1) ∧ (¬ Up xs ys j 0 i → T xs ys i (j + 1) = T xs ys i j)
  | 0 => ⟨fun ⟨p, _, h, _⟩ => absurd h (Nat.not_lt_zero _), fun _ => by rw [T_i0, T_i0]⟩
  | i + 1 => by
    obtain ⟨ih1, ih2⟩ := T_up j i
    have s1 := T_i xs ys i j
    have s2 := T_j xs ys i j
    have e : T xs ys (i + 1) (j + 1) = if xs.getD i 0 = ys.getD j 0 then T xs ys i j + 1 else max (T xs ys (i + 1) j) (T xs ys i (j + 1)) := by rw [T]
    constructor
    · rintro ⟨p, _, hp, hx, ht⟩
      rw [e]
      by_cases hpi : p = i
      · subst hpi
        rw [if_pos hx, ht]
      · have hp' : p < i := by omega
        have m1 := T_mono xs ys j (Nat.le_of_lt hp')
        have hti : T xs ys p j = T xs ys i j := by omega
        have u := ih1 ⟨p, Nat.zero_le _, hp', hx, hti⟩
        split <;> omega
    · intro hn
      rw [e]
      split
      · rename_i hx
        have : ¬ T xs ys i j = T xs ys (i + 1) j := fun q => hn ⟨i, Nat.zero_le _, Nat.lt_succ_self _, hx, q⟩
        omega
      · rename_i hx
        by_cases hq : T xs ys i j = T xs ys (i + 1) j
        · have : ¬ Up xs ys j 0 i := fun ⟨p, a, b, c, d⟩ => hn ⟨p, a, by omega, c, by omega⟩
          have := ih2 this
          omega
        · omega
/-! ### counts in a rising row -/
def cnt (E : List Nat) (i : Nat) : Nat := (E.filter fun e => Nat.blt e i).length
theorem cnt_nil (i : Nat) : cnt [] i = 0 := rfl
theorem cnt_append (A B : List Nat) (i : Nat) : cnt (A ++ B) i = cnt A i + cnt B i := by unfold cnt; rw [List.filter_append, List.length_append]
theorem cnt_one (e i : Nat) : cnt [e] i = if e < i then 1 else 0 := by
  unfold cnt
  by_cases h : e < i
  · rw [if_pos h, List.filter_cons_of_pos (by simpa [Nat.blt_eq] using h)]; rfl
  · rw [if_neg h, List.filter_cons_of_neg (by simpa [Nat.blt_eq] using h)]; rfl
theorem cnt_cons (e i : Nat) (E : List Nat) : cnt (e :: E) i = (if e < i then 1 else 0) + cnt E i := by
  rw [show e :: E = [e] ++ E from rfl, cnt_append, cnt_one]
theorem cnt_le (E : List Nat) (i : Nat) : cnt E i ≤ E.length := List.length_filter_le _ _
theorem cnt_all {E : List Nat} {i : Nat} (h : ∀ e ∈ E, e < i) : cnt E i = E.length := by
  unfold cnt
  rw [List.filter_eq_self.mpr]
  intro e he
  simpa [Nat.blt_eq] using h e he
theorem cnt_none {E : List Nat} {i : Nat} (h : ∀ e ∈ E, i ≤ e) : cnt E i = 0 := by
  unfold cnt
  rw [List.length_eq_zero_iff, List.filter_eq_nil_iff]
  intro e he
  have := h e he
  rw [Nat.blt_eq]; omega
/-- a rising row is cut by its count -/
theorem cut_row {E : List Nat} (hE : E.Pairwise (· < ·)) (p : Nat) : (∀ e ∈ E.take (cnt E p), e < p) ∧ (∀ e ∈ E.drop (cnt E p), p ≤ e) := by
  induction E with
  | nil => exact ⟨fun e h => by simp at h, fun e h => by simp at h⟩
  | cons a E ih =>
    obtain ⟨h1, h2⟩ := List.pairwise_cons.mp hE
    obtain ⟨i1, i2⟩ := ih h2
    rw [cnt_cons]
    by_cases ha : a < p
    · rw [if_pos ha, Nat.add_comm 1]
      refine ⟨fun e he => ?_, fun e he => i2 e (by simpa using he)⟩
      rw [List.take_succ_cons] at he
      rcases List.mem_cons.mp he with rfl | he
      · exact ha
      · exact i1 e he
    · have hz : cnt E p = 0 := cnt_none fun e he => by have := h1 e he; omega
      rw [if_neg ha, hz]
      refine ⟨fun e he => by simp at he, fun e he => ?_⟩
      rw [Nat.zero_add, List.drop_zero] at he
      rcases List.mem_cons.mp he with rfl | he
      · omega
      · have := h1 e he; omega
/-- what one place does to the counts -/
theorem cnt_put {E : List Nat} (hE : E.Pairwise (· < ·)) (p i : Nat) : (putL E (cnt E p) p).Pairwise (· < ·) ∧ cnt (putL E (cnt E p) p) i = if p < i then max (cnt E i) (cnt E p + 1) else cnt E i := by
  obtain ⟨c1, c2⟩ := cut_row hE p
  have hcl := cnt_le E p
  have hsplit : E.take (cnt E p) ++ E.drop (cnt E p) = E := List.take_append_drop _ _
  generalize hs : cnt E p = s at *
  have hP : E.Pairwise (· < ·) := hE
  rw [← hsplit] at hP
  obtain ⟨p1, p2, p3⟩ := List.pairwise_append.mp hP
  have hd : E.drop s = [] ∧ E.drop (s + 1) = [] ∨ ∃ e, E.drop s = e :: E.drop (s + 1) := by
    by_cases h : s < E.length
    · exact .inr ⟨E[s], List.drop_eq_getElem_cons h⟩
    · exact .inl ⟨List.drop_eq_nil_of_le (by omega), List.drop_eq_nil_of_le (by omega)⟩
  have tl : (E.take s).length = s := by rw [List.length_take]; omega
  have eC : cnt E i = cnt (E.take s) i + cnt (E.drop s) i := by rw [← cnt_append, hsplit]
  have eP : cnt (putL E s p) i = cnt (E.take s) i + ((if p < i then 1 else 0) + cnt (E.drop (s + 1)) i) := by
    unfold putL; rw [cnt_append, cnt_cons]
  rcases hd with ⟨d1, d2⟩ | ⟨e, d1⟩
  · constructor
    · unfold putL
      rw [d2]
      exact List.pairwise_append.mpr ⟨p1, List.pairwise_singleton _ _, fun a ha b hb => by simp at hb; subst hb; exact c1 a ha⟩
    · rw [eP, eC, d1, d2, cnt_nil]
      by_cases hp : p < i
      · have : cnt (E.take s) i = s := by rw [cnt_all (fun e he => by have := c1 e he; omega), tl]
        rw [if_pos hp, if_pos hp]; omega
      · rw [if_neg hp, if_neg hp]
  · have he := c2 e (by rw [d1]; exact .head _)
    rw [d1] at p2 p3
    obtain ⟨q1, q2⟩ := List.pairwise_cons.mp p2
    constructor
    · unfold putL
      refine List.pairwise_append.mpr ⟨p1, List.pairwise_cons.mpr ⟨fun b hb => by have := q1 b hb; omega, q2⟩, fun a ha b hb => ?_⟩
      have := c1 a ha
      rcases List.mem_cons.mp hb with rfl | hb
      · exact this
      · have := q1 b hb; omega
    · rw [eP, eC, d1, cnt_cons]
      by_cases hp : p < i
      · have ht : cnt (E.take s) i = s := by rw [cnt_all (fun e he => by have := c1 e he; omega), tl]
        rw [if_pos hp, if_pos hp, ht]
        by_cases hei : e < i
        · rw [if_pos hei]; omega
        · have : cnt (E.drop (s + 1)) i = 0 := cnt_none fun b hb => by have := q1 b hb; omega
          rw [if_neg hei, this]; omega
      · have : cnt (E.drop (s + 1)) i = 0 := cnt_none fun b hb => by have := q1 b hb; omega
        rw [if_neg hp, if_neg hp, if_neg (by omega), this]
/-! ### texts scattered in two texts -/
theorem sub_snoc {u A : List Nat} {x : Nat} (h : u.Sublist (A ++ [x])) : u.Sublist A ∨ ∃ v, u = v ++ [x] ∧ v.Sublist A := by
  obtain ⟨u1, u2, rfl, h1, h2⟩ := List.sublist_append_iff.mp h
  match u2, h2 with
  | [], _ => exact .inl (by simpa using h1)
  | [b], h2 =>
    have : b = x := by simpa using h2.subset (.head _)
    subst this
    exact .inr ⟨u1, rfl, h1⟩
  | b :: c :: r, h2 => have := h2.length_le; simp at this
theorem take_snoc {l : List Nat} {i x : Nat} (h : l[i]? = some x) : l.take (i + 1) = l.take i ++ [x] := by
  rw [List.take_add_one, h]; rfl
theorem T_ub : ∀ (i j : Nat), i ≤ xs.length → j ≤ ys.length → ∀ u : List Nat, u.Sublist (xs.take i) → u.Sublist (ys.take j) → u.length ≤ T xs ys i j
  | 0, j, _, _, u, h1, _ => by
    rw [List.take_zero] at h1
    have := h1.length_le
    simp at this
    rw [this]; exact Nat.zero_le _
  | i + 1, 0, _, _, u, _, h2 => by
    rw [List.take_zero] at h2
    have := h2.length_le
    simp at this
    rw [this]; exact Nat.zero_le _
  | i + 1, j + 1, hi, hj, u, h1, h2 => by
    obtain ⟨x, hx⟩ : ∃ x, xs[i]? = some x := ⟨_, List.getElem?_eq_getElem (by omega)⟩
    obtain ⟨y, hy⟩ : ∃ y, ys[j]? = some y := ⟨_, List.getElem?_eq_getElem (by omega)⟩
    have t1 := T_i xs ys i (j + 1)
    have t2 := T_j xs ys (i + 1) j
    have gx : xs.getD i 0 = x := by rw [List.getD_eq_getElem?_getD, hx]; rfl
    have gy : ys.getD j 0 = y := by rw [List.getD_eq_getElem?_getD, hy]; rfl
    have h1' := h1
    have h2' := h2
    rw [take_snoc hx] at h1'
    rw [take_snoc hy] at h2'
    rcases sub_snoc h1' with a | ⟨v, rfl, a⟩
    · have := T_ub i (j + 1) (by omega) hj u a h2
      omega
    · rcases sub_snoc h2' with b | ⟨v', e, b⟩
      · have := T_ub (i + 1) j hi (by omega) _ h1 b
        omega
      · obtain ⟨e1, e2⟩ := List.append_inj' e rfl
        subst e1
        have e2 : x = y := by simpa using e2
        have := T_ub i j (by omega) (by omega) v a b
        have e : T xs ys (i + 1) (j + 1) = if xs.getD i 0 = ys.getD j 0 then T xs ys i j + 1 else max (T xs ys (i + 1) j) (T xs ys i (j + 1)) := by rw [T]
        rw [e, if_pos (by rw [gx, gy, e2]), List.length_append]
        simp; omega
/-! ### the loops -/
structure St (j q : Nat) (E : List Nat) (Wd : List (List Nat)) : Prop where
  up : E.Pairwise (· < ·)
  lt : ∀ e ∈ E, e < xs.length
  ct : ∀ i, i ≤ xs.length → (Up xs ys j q i → cnt E i = T xs ys i j + 1) ∧ (¬ Up xs ys j q i → cnt E i = T xs ys i j)
  wl : Wd.length = E.length
  wd : ∀ (k e : Nat) (u : List Nat), E[k]? = some e → Wd[k]? = some u → u.length = k + 1 ∧ u.Sublist (xs.take (e + 1)) ∧ u.Sublist (ys.take (j + 1)) ∧ (e < q → u.Sublist (ys.take j))
structure En (j : Nat) (E : List Nat) (Wd : List (List Nat)) : Prop where
  up : E.Pairwise (· < ·)
  lt : ∀ e ∈ E, e < xs.length
  ct : ∀ i, i ≤ xs.length → cnt E i = T xs ys i j
  wl : Wd.length = E.length
  wd : ∀ (k e : Nat) (u : List Nat), E[k]? = some e → Wd[k]? = some u → u.length = k + 1 ∧ u.Sublist (xs.take (e + 1)) ∧ u.Sublist (ys.take j)
theorem En.nil : En xs ys 0 [] [] := ⟨.nil, fun e h => by simp at h, fun i _ => by rw [T_j0]; rfl, rfl, fun k e u h => by simp at h⟩
variable {xs ys}
theorem take_mono {l : List Nat} {a b : Nat} (h : a ≤ b) : (l.take a).Sublist (l.take b) := by
  have : l.take a = (l.take b).take a := by rw [List.take_take, Nat.min_eq_left h]
  rw [this]; exact List.take_sublist _ _
theorem En.start {j : Nat} {E Wd} (x : En xs ys j E Wd) : St xs ys j xs.length E Wd where
  up := x.up
  lt := x.lt
  ct := fun i hi => ⟨fun ⟨p, a, b, _⟩ => absurd a (by omega), fun _ => x.ct i hi⟩
  wl := x.wl
  wd := fun k e u h1 h2 => by
    obtain ⟨a, b, c⟩ := x.wd k e u h1 h2
    exact ⟨a, b, c.trans (take_mono (Nat.le_succ _)), fun _ => c⟩
theorem St.stop {j q : Nat} {E Wd} (x : St xs ys j q E Wd) (hq : ∀ p, p < q → xs.getD p 0 ≠ ys.getD j 0) : En xs ys (j + 1) E Wd where
  up := x.up
  lt := x.lt
  ct := fun i hi => by
    obtain ⟨t1, t2⟩ := T_up xs ys j i
    obtain ⟨c1, c2⟩ := x.ct i hi
    by_cases h : Up xs ys j 0 i
    · have h' : Up xs ys j q i := by
        obtain ⟨p, a, b, c, d⟩ := h
        exact ⟨p, Nat.le_of_not_lt fun r => hq p r c, b, c, d⟩
      rw [c1 h', t1 h]
    · have h' : ¬ Up xs ys j q i := fun ⟨p, a, b, c, d⟩ => h ⟨p, Nat.zero_le _, b, c, d⟩
      rw [c2 h', t2 h]
  wl := x.wl
  wd := fun k e u h1 h2 => let ⟨a, b, c, _⟩ := x.wd k e u h1 h2; ⟨a, b, c⟩
/-- the word that goes to a spot -/
def wordAt (Wd : List (List Nat)) (s c : Nat) : List Nat := (if 0 < s then Wd.getD (s - 1) [] else []) ++ [c]
theorem putL_at {α : Type} {l : List α} {s : Nat} {v : α} (h : s ≤ l.length) (k : Nat) : (putL l s v)[k]? = if k = s then some v else l[k]? := by
  unfold putL
  have tl : (l.take s).length = s := by rw [List.length_take]; omega
  by_cases h1 : k < s
  · rw [List.getElem?_append_left (by omega), List.getElem?_take_of_lt h1, if_neg (by omega)]
  · rw [List.getElem?_append_right (by omega), tl]
    by_cases h2 : k = s
    · rw [if_pos h2, h2]; simp
    · rw [if_neg h2, show k - s = (k - s - 1) + 1 by omega, List.getElem?_cons_succ, List.getElem?_drop]
      congr 1; omega
theorem putL_len {α : Type} {l : List α} {s : Nat} {v : α} (h : s ≤ l.length) : (putL l s v).length = if s = l.length then l.length + 1 else l.length := by
  unfold putL
  rw [List.length_append, List.length_cons, List.length_take, List.length_drop]
  split <;> omega
theorem St.turn {j q p : Nat} {E Wd} (x : St xs ys j q E Wd) (hj : j < ys.length) (hp : p < q) (hpn : p < xs.length) (hx : xs.getD p 0 = ys.getD j 0) (hno : ∀ p', p < p' → p' < q → xs.getD p' 0 ≠ ys.getD j 0) :
    cnt E p ≤ E.length ∧ St xs ys j p (putL E (cnt E p) p) (putL Wd (cnt E p) (wordAt Wd (cnt E p) (ys.getD j 0))) := by
  have hcl := cnt_le E p
  refine ⟨hcl, ?_⟩
  have hput := cnt_put x.up p
  have hnu : ¬ Up xs ys j q p := fun ⟨p', a, b, _⟩ => absurd b (by omega)
  have hcp : cnt E p = T xs ys p j := (x.ct p (by omega)).2 hnu
  obtain ⟨r1, r2⟩ := cut_row x.up p
  have hy : ys[j]? = some (ys.getD j 0) := by rw [List.getD_eq_getElem?_getD, List.getElem?_eq_getElem hj]; rfl
  have hxp : xs[p]? = some (ys.getD j 0) := by rw [← hx, List.getD_eq_getElem?_getD, List.getElem?_eq_getElem hpn]; rfl
  refine ⟨(hput 0).1, fun e he => ?_, fun i hi => ?_, ?_, fun k e u h1 h2 => ?_⟩
  · unfold putL at he
    rcases List.mem_append.mp he with he | he
    · exact x.lt e (List.mem_of_mem_take he)
    · rcases List.mem_cons.mp he with rfl | he
      · exact hpn
      · exact x.lt e (List.mem_of_mem_drop he)
  · rw [(hput i).2]
    obtain ⟨c1, c2⟩ := x.ct i hi
    have hT : p < i → T xs ys p j ≤ T xs ys i j := fun h => T_mono xs ys j (Nat.le_of_lt h)
    by_cases hpi : p < i
    · rw [if_pos hpi, hcp]
      have hTi := hT hpi
      by_cases he : T xs ys p j = T xs ys i j
      · have hu : Up xs ys j p i := ⟨p, Nat.le_refl _, hpi, hx, he⟩
        refine ⟨fun _ => ?_, fun h => absurd hu h⟩
        by_cases h : Up xs ys j q i
        · rw [c1 h]; omega
        · rw [c2 h]; omega
      · have hiff : Up xs ys j p i ↔ Up xs ys j q i := by
          constructor
          · rintro ⟨p', a, b, c, d⟩
            refine ⟨p', Nat.le_of_not_lt fun r => ?_, b, c, d⟩
            by_cases h : p' = p
            · subst h; exact he d
            · exact hno p' (by omega) r c
          · rintro ⟨p', a, b, c, d⟩
            exact ⟨p', by omega, b, c, d⟩
        refine ⟨fun h => ?_, fun h => ?_⟩
        · rw [c1 (hiff.mp h)]; omega
        · rw [c2 (fun r => h (hiff.mpr r))]; omega
    · rw [if_neg hpi]
      have h1 : ¬ Up xs ys j p i := fun ⟨p', a, b, _⟩ => absurd b (by omega)
      have h2 : ¬ Up xs ys j q i := fun ⟨p', a, b, _⟩ => absurd b (by omega)
      exact ⟨fun h => absurd h h1, fun _ => c2 h2⟩
  · rw [putL_len (by rw [x.wl]; exact hcl), putL_len hcl, x.wl]
  · rw [putL_at hcl] at h1
    rw [putL_at (by rw [x.wl]; exact hcl)] at h2
    by_cases hk : k = cnt E p
    · rw [if_pos hk] at h1 h2
      cases h1
      cases h2
      unfold wordAt
      by_cases h0 : 0 < cnt E p
      · rw [if_pos h0]
        obtain ⟨e', he'⟩ : ∃ e', E[cnt E p - 1]? = some e' := ⟨_, List.getElem?_eq_getElem (by omega)⟩
        obtain ⟨v, hv⟩ : ∃ v, Wd[cnt E p - 1]? = some v := ⟨_, List.getElem?_eq_getElem (by rw [x.wl]; omega)⟩
        obtain ⟨w1, w2, w3, w4⟩ := x.wd _ _ _ he' hv
        have hlt : e' < p := r1 e' (List.mem_of_getElem? (i := cnt E p - 1) (by rw [List.getElem?_take_of_lt (by omega)]; exact he'))
        have eg : Wd.getD (cnt E p - 1) [] = v := by rw [List.getD_eq_getElem?_getD, hv]; rfl
        rw [eg, take_snoc hxp, take_snoc hy]
        have w4 := w4 (by omega)
        refine ⟨by rw [List.length_append, w1]; simp; omega, ?_, ?_, fun h => absurd h (Nat.lt_irrefl _)⟩
        · exact List.Sublist.append (w2.trans (take_mono (by omega))) (List.Sublist.refl _)
        · exact List.Sublist.append w4 (List.Sublist.refl _)
      · rw [if_neg h0, List.nil_append, take_snoc hxp, take_snoc hy]
        refine ⟨by simp; omega, ?_, ?_, fun h => absurd h (Nat.lt_irrefl _)⟩
        · exact List.sublist_append_right _ _
        · exact List.sublist_append_right _ _
    · rw [if_neg hk] at h1 h2
      obtain ⟨w1, w2, w3, w4⟩ := x.wd k e u h1 h2
      exact ⟨w1, w2, w3, fun h => w4 (by omega)⟩
/-! ### what is asked -/
theorem cnt_at {E : List Nat} (hE : E.Pairwise (· < ·)) {k e i : Nat} (h : E[k]? = some e) (hi : i ≤ e) : cnt E i ≤ k := by
  have hk := (List.getElem?_eq_some_iff.mp h).1
  have hs : E = E.take k ++ E.drop k := (List.take_append_drop k E).symm
  have hd : cnt (E.drop k) i = 0 := cnt_none fun b hb => by
    obtain ⟨m, hm⟩ := List.mem_iff_getElem?.mp hb
    rw [List.getElem?_drop] at hm
    have hm' := (List.getElem?_eq_some_iff.mp hm).1
    rw [List.getElem?_eq_getElem hk] at h
    rw [List.getElem?_eq_getElem hm'] at hm
    cases h
    cases hm
    by_cases h0 : m = 0
    · subst h0; exact hi
    · have := List.pairwise_iff_getElem.mp hE k (k + m) hk hm' (by omega)
      omega
  rw [hs, cnt_append, hd]
  have := cnt_le (E.take k) i
  rw [List.length_take] at this
  omega
theorem En.len {E Wd} {j : Nat} (x : En xs ys j E Wd) : E.length = T xs ys xs.length j := by
  rw [← x.ct xs.length (Nat.le_refl _)]
  exact (cnt_all x.lt).symm
theorem En.held {E Wd} (x : En xs ys ys.length E Wd) (h6 : xs.length ≤ 6 ∧ ys.length ≤ 6) : Held xs ys E Wd where
  len := x.wl.symm
  few := by
    have := cnt_le E xs.length
    have h := (List.pairwise_iff_getElem.mp x.up)
    have hb : ∀ k (hk : k < E.length), k ≤ E[k] := by
      intro k
      induction k with
      | zero => exact fun _ => Nat.zero_le _
      | succ k ih =>
        intro hk
        have a := ih (by omega)
        have b := h k (k + 1) (by omega) hk (by omega)
        omega
    refine Nat.le_of_not_lt fun q => ?_
    have a := hb 6 (by omega)
    have b := x.lt E[6] (List.getElem_mem _)
    omega
  big := h6
  each := fun k e u h1 h2 => by
    obtain ⟨a, b, c⟩ := x.wd k e u h1 h2
    rw [List.take_length] at c
    have he := x.lt e (List.mem_of_getElem? h1)
    refine ⟨a, he, sub_iff.mpr c, fun i hi => ?_⟩
    rw [Bool.eq_iff_iff, sub_iff, decide_eq_true_eq]
    constructor
    · intro hs
      refine Nat.lt_of_not_le fun q => ?_
      have h3 := T_ub xs ys i ys.length hi (Nat.le_refl _) u hs (by rw [List.take_length]; exact c)
      have h4 := cnt_at x.up h1 q
      rw [x.ct i hi] at h4
      omega
    · intro h
      exact b.trans (take_mono (by omega))
theorem En.none {E Wd} (x : En xs ys ys.length E Wd) {u : List Nat} (hu : Wd[Wd.length - 1]? = some u) (k c : Nat) : ¬ (Pl.sub (u.take k ++ c :: u.drop k) xs = true ∧ Pl.sub (u.take k ++ c :: u.drop k) ys = true) := by
  rintro ⟨h1, h2⟩
  rw [sub_iff] at h1 h2
  have hk := (List.getElem?_eq_some_iff.mp hu).1
  have hwl := x.wl
  obtain ⟨e, he⟩ : ∃ e, E[Wd.length - 1]? = some e := ⟨_, List.getElem?_eq_getElem (by omega)⟩
  obtain ⟨a, _, _⟩ := x.wd _ _ _ he hu
  have h3 := T_ub xs ys xs.length ys.length (Nat.le_refl _) (Nat.le_refl _) _ (by rw [List.take_length]; exact h1) (by rw [List.take_length]; exact h2)
  rw [← x.len] at h3
  have h4 : (u.take k ++ c :: u.drop k).length = u.length + 1 := by
    rw [List.length_append, List.length_take, List.length_cons, List.length_drop]; omega
  omega
theorem En.pos {E Wd} (x : En xs ys ys.length E Wd) (c : Nat) (h1 : c ∈ xs) (h2 : c ∈ ys) : 0 < E.length := by
  have := T_ub xs ys xs.length ys.length (Nat.le_refl _) (Nat.le_refl _) [c] (by rw [List.take_length]; exact List.singleton_sublist.mpr h1) (by rw [List.take_length]; exact List.singleton_sublist.mpr h2)
  rw [x.len]
  have h : 1 ≤ T xs ys xs.length ys.length := by simpa using this
  omega
end Hs
def rowT (L Y : List Nat) (k : Nat) : List Nat := (List.range (Y.length + 1)).map (Hs.T L Y k)
def rowsT (L Y : List Nat) (i : Nat) : List (List Nat) := (List.range (i + 1)).map (rowT L Y)
theorem rows_succ {α : Type} (f : Nat → α) (i : Nat) : (List.range (i + 1 + 1)).map f = (List.range (i + 1)).map f ++ [f (i + 1)] := by rw [List.range_succ, List.map_append]; rfl
theorem rep_ns (t : Tok) : ∀ n, NsAre (List.replicate n (.int (0 : Nat) t)) (List.replicate n 0)
  | 0 => .nil
  | n + 1 => .cons 0 t (rep_ns t n)
theorem row_zero (L Y : List Nat) : rowT L Y 0 = List.replicate (Y.length + 1) 0 := by
  unfold rowT
  rw [List.eq_replicate_iff]
  refine ⟨by simp, fun b hb => ?_⟩
  obtain ⟨j, _, rfl⟩ := List.mem_map.mp hb
  exact Hs.T_i0 L Y j
theorem ns_one (L Y : List Nat) (i : Nat) (t : Tok) : NsAre [.int 0 t] ((List.range (0 + 1)).map (Hs.T L Y i)) := by
  have e : (List.range (0 + 1)).map (Hs.T L Y i) = [0] := by
    show [Hs.T L Y i 0] = [0]
    rw [Hs.T_j0]
  rw [e]
  exact .cons 0 t .nil
set_option maxHeartbeats 2000000 in
theorem shared_ (w : World) (prog : Program) (A : Around) (mb) (g h : Heap) (M) (gs dr tk os) (W : Wld (KK w) mb g) (H : Hp g M h) (hh : A.handled = none) (hd : A.depth < 900) (L Y : List Nat) (hL : L.length ≤ 20) (hY : Y.length ≤ 20) (t1 t2 : Tok) :
    codeAny (model prog w) A (.call (.ref 225) ⟨[.str (wS L) t1, .str (wS Y) t2], []⟩) (Rt gs dr os fun v h' => ∃ D g' rv, v = .ref D ∧ Kp g g' ∧ IsL g' D rv ∧ Rws NsAre g' rv (rowsT L Y L.length) ∧ Hp g' M h') ⟨h, gs, dr, tk, os⟩ := by
  refine enter [(Str.ofString "x", .str (wS L) t1), (Str.ofString "y", .str (wS Y) t2)] W H (by omega) rfl rfl (by kernel_rfl!) rfl (binds_peek W H.keep fun S => by kernel_rfl!) (by kernel_rfl!) (by kernel_rfl!) (by kernel_rfl!) rfl rfl rfl (fun L0 h0 tk0 b => ?_)
  repeat' walk_at "st"
  refine oNewL (by simp) (fun D1 h1 k1 f1 il1 => ?_)
  have b1 := b.kp k1
  clear b
  repeat' walk_at "st"
  refine oLenS (sz_line (by rw [wS_len]; omega)) (fun _ _ => ?_)
  repeat' walk_at "st"
  rw [wS_len, show ((Y.length : Int) + 1) = ((Y.length + 1 : Nat) : Int) by omega]
  refine oMulL il1 (by omega) (fun D2 h2 k2 f2 il2 => ?_)
  obtain ⟨g2, kg2, b2, fr2⟩ := b1.freeze k2
  have il2 : IsL g2 D2 _ := IsL.frz il2 fr2 f2
  clear b1
  have W2 := W.up kg2
  repeat' walk_at "st"
  refine oNewL (by simp) (fun R h3 k3 f3 il3 => ?_)
  obtain ⟨o3, e3, l3⟩ := il3
  have b3 := b2.add k3 f3 e3 l3
  clear b2
  repeat' walk_at "st"
  clear b3
  rename Bd _ _ _ _ _ => b3
  refine sFor (fun _ => rfl) ?_
  repeat' walk_at "st"
  refine oLenS (sz_line (by rw [wS_len]; omega)) (fun _ _ => ?_)
  repeat' walk_at "st"
  rw [wS_len]
  refine oRange1 (fun r h4 t4 t0 u0 v0 k4 hr => ?_)
  have b4 := b3.kp k4
  clear b3
  refine fRange hh b4 hr (n := L.length) (rng_ok _ (by omega)).1 (rng_ok _ (by omega)).2 (by kernel_rfl!) rfl
    (fun i g1 l1 M1 => ∃ rv, M1 = (R, lst rv) :: M ∧ l1 = [(Str.ofString "x", .str (wS L) t1), (Str.ofString "y", .str (wS Y) t2), (Str.ofString "rows", .ref R)] ∧ Rws NsAre g1 rv (rowsT L Y i)) ⟨_, rfl, rfl, ?_⟩ ?_ ?_
  · refine .cons il2 ?_ .nil
    rw [row_zero]
    exact rep_ns _ _
  · rintro i ti g1 l1 M1 h5 t5 I o hi k1' ⟨rv, rfl, rfl, hR⟩ hb
    have b5 := hb _ (by walk_at "sto")
    clear hb
    rw [show ((0 : Int) + (i : Int) * 1) = (i : Int) by omega] at b5
    have W5 := W2.up k1'
    have hRl := hR.len
    rw [rowsT, List.length_map, List.length_range] at hRl
    obtain ⟨xi, hxi⟩ : ∃ a, L[i]? = some a := ⟨_, List.getElem?_eq_getElem hi⟩
    have gxi : L.getD i 0 = xi := by rw [List.getD_eq_getElem?_getD, hxi]; rfl
    repeat' walk_at "st"
    refine oNewL (by simp) (fun D h6 k6 f6 il6 => ?_)
    obtain ⟨o6, e6, l6⟩ := il6
    have b6 := b5.add k6 f6 e6 l6
    clear b5
    repeat' walk_at "st"
    clear b6
    rename Bd _ _ _ _ _ => b6
    refine sFor (fun _ => rfl) ?_
    repeat' walk_at "st"
    refine oLenS (sz_line (by rw [wS_len]; omega)) (fun _ _ => ?_)
    repeat' walk_at "st"
    rw [wS_len]
    refine oRange1 (fun r2 h7 t7 t0' u0' v0' k7 hr2 => ?_)
    have b7 := b6.kp k7
    clear b6
    refine fRange hh b7 hr2 (n := Y.length) (rng_ok _ (by omega)).1 (rng_ok _ (by omega)).2 (by kernel_rfl!) rfl
      (fun j g2 l2 M2 => ∃ rw, M2 = (D, lst rw) :: (I, (· = o)) :: (R, lst rv) :: M ∧ l2 = [(Str.ofString "x", .str (wS L) t1), (Str.ofString "y", .str (wS Y) t2), (Str.ofString "rows", .ref R), (Str.ofString "i", .int i ti), (Str.ofString "row", .ref D)] ∧ NsAre rw ((List.range (j + 1)).map (Hs.T L Y (i + 1)))) ⟨_, rfl, rfl, ns_one L Y (i + 1) _⟩ ?_ ?_
    · rintro j tj g3 l3 M3 h8 t8 I2 o2 hj k3' ⟨rw, rfl, rfl, hN⟩ hb
      have b8 := hb _ (by walk_at "sto")
      clear hb
      rw [show ((0 : Int) + (j : Int) * 1) = (j : Int) by omega] at b8
      have W8 := W5.up k3'
      have hNl := NsAre.len hN
      rw [List.length_map, List.length_range] at hNl
      obtain ⟨yj, hyj⟩ : ∃ a, Y[j]? = some a := ⟨_, List.getElem?_eq_getElem hj⟩
      have gyj : Y.getD j 0 = yj := by rw [List.getD_eq_getElem?_getD, hyj]; rfl
      have hTe : Hs.T L Y (i + 1) (j + 1) = if xi = yj then Hs.T L Y i j + 1 else max (Hs.T L Y (i + 1) j) (Hs.T L Y i (j + 1)) := by rw [Hs.T, gxi, gyj]
      obtain ⟨Di, ui, evi, ili, nsi⟩ := (hR.up k3').at_ (rows_at (rowT L Y) i i (Nat.le_refl _))
      obtain ⟨ta, hta⟩ := NsAre.at_ nsi (i := j) (rows_at (Hs.T L Y i) Y.length j (by omega))
      obtain ⟨tb, htb⟩ := NsAre.at_ nsi (i := j + 1) (rows_at (Hs.T L Y i) Y.length (j + 1) (by omega))
      obtain ⟨tc, htc⟩ := NsAre.at_ hN (i := j) (rows_at (Hs.T L Y (i + 1)) j j (Nat.le_refl _))
      have beqs : ((⟨#[97 + xi]⟩ : Str) == ⟨#[97 + yj]⟩) = decide (xi = yj) := by
        show (sg xi == sg yj) = _
        rw [sg_inj, Bool.eq_iff_iff, Nat.beq_eq, decide_eq_true_eq]
      repeat' walk_at "st"
      refine gIdxS (c := 97 + xi) (by omega) (by omega) (char_at L i xi hxi (by omega)) (by kernel_rfl!) (fun _ _ => ?_)
      repeat' walk_at "st"
      refine gIdxS (c := 97 + yj) (by omega) (by omega) (char_at Y j yj hyj (by omega)) (by kernel_rfl!) (fun _ _ => ?_)
      repeat' walk_at "st"
      rw [beqs]
      refine iteC (fun q => ?_) (fun q => ?_)
      · have q' : xi = yj := of_decide_eq_true q
        repeat' walk_at "st"
        refine mApp (b8.hp.lst (a := D) (vs := rw) (by walk_at "mem")) ?_
        repeat' walk_at "st"
        refine gIdx (b8.hp.lst (a := R) (vs := rv) (by walk_at "mem")) (by omega) (by omega) (v := .ref Di) (by simpa using evi) (by kernel_rfl!) ?_
        repeat' walk_at "st"
        refine gIdx (ili.up b8.keep) (by omega) (by omega) (v := .int (Hs.T L Y i j : Nat) ta) (by simpa using hta) (by kernel_rfl!) ?_
        repeat' walk_at "st"
        refine oApp (b8.hp.lst (a := D) (vs := rw) (by walk_at "mem")) (by omega) (fun h9 o9 x9 e9 l9 => ?_)
        have b9 := b8.mset (by walk_at "mset") x9 e9 l9
        clear b8
        repeat' walk_at "st"
        have b10 := b9.fg (l' := [(Str.ofString "x", .str (wS L) t1), (Str.ofString "y", .str (wS Y) t2), (Str.ofString "rows", .ref R), (Str.ofString "i", .int i ti), (Str.ofString "row", .ref D)]) (by walk_at "sub")
        refine BEnd.nxt Kp.rf b10 ⟨_, rfl, rfl, ?_⟩
        rw [rows_succ, hTe, if_pos q']
        exact NsAre.append hN (.cons _ _ .nil)
      · have q' : ¬ xi = yj := of_decide_eq_false q
        repeat' walk_at "st"
        refine mApp (b8.hp.lst (a := D) (vs := rw) (by walk_at "mem")) ?_
        repeat' walk_at "st"
        refine gIdx (b8.hp.lst (a := D) (vs := rw) (by walk_at "mem")) (by omega) (by omega) (v := .int (Hs.T L Y (i + 1) j : Nat) tc) (by simpa using htc) (by kernel_rfl!) ?_
        repeat' walk_at "st"
        refine gIdx (b8.hp.lst (a := R) (vs := rv) (by walk_at "mem")) (by omega) (by omega) (v := .ref Di) (by simpa using evi) (by kernel_rfl!) ?_
        repeat' walk_at "st"
        refine gIdx (ili.up b8.keep) (by omega) (by omega) (v := .int (Hs.T L Y i (j + 1) : Nat) tb) (by rw [← htb]; congr 1) (by kernel_rfl!) ?_
        repeat' walk_at "st"
        refine oMax hh (fun h9 t9 tM kM => ?_)
        have b9 := b8.kp kM
        clear b8
        repeat' walk_at "st"
        refine oApp (b9.hp.lst (a := D) (vs := rw) (by walk_at "mem")) (by omega) (fun h10 o10 x10 e10 l10 => ?_)
        have b10 := b9.mset (by walk_at "mset") x10 e10 l10
        clear b9
        repeat' walk_at "st"
        have b11 := b10.fg (l' := [(Str.ofString "x", .str (wS L) t1), (Str.ofString "y", .str (wS Y) t2), (Str.ofString "rows", .ref R), (Str.ofString "i", .int i ti), (Str.ofString "row", .ref D)]) (by walk_at "sub")
        refine BEnd.nxt Kp.rf b11 ⟨_, rfl, rfl, ?_⟩
        rw [rows_succ, hTe, if_neg q']
        refine NsAre.append hN ?_
        rw [show max ((Hs.T L Y (i + 1) j : Nat) : Int) ((Hs.T L Y i (j + 1) : Nat) : Int) = ((max (Hs.T L Y (i + 1) j) (Hs.T L Y i (j + 1)) : Nat) : Int) by omega]
        exact .cons _ _ .nil
    rintro g12 l12 M12 h12 t12 k12 ⟨rw, rfl, rfl, hN⟩ b12
    obtain ⟨g13, k13, b13, ilD⟩ := b12.fix
    have ilD : IsL g13 D rw := ilD
    clear b12
    repeat' walk_at "st"
    refine mApp (b13.hp.lst (a := R) (vs := rv) (by walk_at "mem")) ?_
    repeat' walk_at "st"
    refine oApp (b13.hp.lst (a := R) (vs := rv) (by walk_at "mem")) (by omega) (fun h14 o14 x14 e14 l14 => ?_)
    have b14 := b13.mset (by walk_at "mset") x14 e14 l14
    clear b13
    repeat' walk_at "st"
    have b15 := b14.fg (l' := [(Str.ofString "x", .str (wS L) t1), (Str.ofString "y", .str (wS Y) t2), (Str.ofString "rows", .ref R)]) (by walk_at "sub")
    refine BEnd.nxt (k12.tr k13) b15 ⟨_, rfl, rfl, ?_⟩
    rw [rowsT, rows_succ]
    exact (hR.up (k12.tr k13)).snoc ilD hN
  rintro g16 l16 M16 h16 t16 k16 ⟨rv, rfl, rfl, hR⟩ b16
  repeat' walk_at "st"
  obtain ⟨g17, k17, b17, ilR⟩ := b16.fix
  exact DoneF.ret ⟨R, g17, rv, rfl, (kg2.tr k16).tr k17, ilR, hR.up k17, b17.hp⟩
/-! ## the first law's plain parts -/
def evs {α : Type} : List α → List α
  | [] => []
  | [a] => [a]
  | a :: _ :: r => a :: evs r
def ods {α : Type} : List α → List α
  | [] => []
  | [_] => []
  | _ :: b :: r => b :: ods r
theorem evs_at {α : Type} : ∀ (l : List α) (p : Nat), (evs l)[p]? = l[2 * p]?
  | [], p => by simp [evs]
  | [a], 0 => rfl
  | [a], p + 1 => by simp [evs]
  | a :: b :: r, 0 => rfl
  | a :: b :: r, p + 1 => by
    show (evs r)[p]? = _
    rw [evs_at r p, show 2 * (p + 1) = 2 * p + 1 + 1 by omega]; rfl
theorem ods_at {α : Type} : ∀ (l : List α) (p : Nat), (ods l)[p]? = l[2 * p + 1]?
  | [], p => by simp [ods]
  | [a], p => by simp [ods]
  | a :: b :: r, 0 => rfl
  | a :: b :: r, p + 1 => by
    show (ods r)[p]? = _
    rw [ods_at r p, show 2 * (p + 1) + 1 = 2 * p + 1 + 1 + 1 by omega]; rfl
def cellsOf (ns : List Int) : List Int := ns.take 6 ++ [0, 1, 4, 3, 3, 4]
theorem cells_facts (ns : List Int) : pickNums (cellsOf ns) (some 0) none (some 2) = evs (cellsOf ns) ∧ pickNums (cellsOf ns) (some 1) none (some 2) = ods (cellsOf ns) ∧
    (evs (cellsOf ns)).length ≤ 6 ∧ (ods (cellsOf ns)).length ≤ 6 ∧ 3 ≤ (evs (cellsOf ns)).length ∧ 3 ≤ (ods (cellsOf ns)).length ∧ (cellsOf ns).length ≤ 12 ∧ (∃ a ∈ evs (cellsOf ns), lt a = 0) ∧ (∃ a ∈ ods (cellsOf ns), lt a = 0) := by
  unfold cellsOf
  have l3 : lt 3 = 0 := by decide
  match ns with
  | [] => exact ⟨by kernel_rfl!, by kernel_rfl!, by simp [evs], by simp [ods], by simp [evs], by simp [ods], by simp, ⟨3, by simp [evs], l3⟩, ⟨3, by simp [ods], l3⟩⟩
  | [a] => exact ⟨by kernel_rfl!, by kernel_rfl!, by simp [evs], by simp [ods], by simp [evs], by simp [ods], by simp, ⟨3, by simp [evs], l3⟩, ⟨3, by simp [ods], l3⟩⟩
  | [a, b] => exact ⟨by kernel_rfl!, by kernel_rfl!, by simp [evs], by simp [ods], by simp [evs], by simp [ods], by simp, ⟨3, by simp [evs], l3⟩, ⟨3, by simp [ods], l3⟩⟩
  | [a, b, c] => exact ⟨by kernel_rfl!, by kernel_rfl!, by simp [evs], by simp [ods], by simp [evs], by simp [ods], by simp, ⟨3, by simp [evs], l3⟩, ⟨3, by simp [ods], l3⟩⟩
  | [a, b, c, d] => exact ⟨by kernel_rfl!, by kernel_rfl!, by simp [evs], by simp [ods], by simp [evs], by simp [ods], by simp, ⟨3, by simp [evs], l3⟩, ⟨3, by simp [ods], l3⟩⟩
  | [a, b, c, d, e] => exact ⟨by kernel_rfl!, by kernel_rfl!, by simp [evs], by simp [ods], by simp [evs], by simp [ods], by simp, ⟨3, by simp [evs], l3⟩, ⟨3, by simp [ods], l3⟩⟩
  | a :: b :: c :: d :: e :: f :: r =>
    rw [show (a :: b :: c :: d :: e :: f :: r).take 6 = [a, b, c, d, e, f] from by simp]
    exact ⟨by kernel_rfl!, by kernel_rfl!, by simp [evs], by simp [ods], by simp [evs], by simp [ods], by simp, ⟨3, by simp [evs], l3⟩, ⟨3, by simp [ods], l3⟩⟩
/-! ### places -/
def plS (p : Nat) : Str := Str.ofString (toString (p : Int))
theorem plS_int (p : Nat) (h : p ≤ 6) : PySem.intText? (plS p) = some (p : Int) ∧ (plS p).length ≤ 10 ∧ (p : Int).natAbs.log2 < 1920 := by
  have : ∀ p, p ≤ 6 → PySem.intText? (plS p) = some (p : Int) ∧ (plS p).length ≤ 10 ∧ (p : Int).natAbs.log2 < 1920 := by decide +kernel
  exact this p h
theorem re_pl (w : World) (j : Nat) (h : j ≤ 6) : ReNo (KK w) 78 (plS j) := by
  intro t S
  rcases j with _ | _ | _ | _ | _ | _ | _ | j
  · kernel_rfl!
  · kernel_rfl!
  · kernel_rfl!
  · kernel_rfl!
  · kernel_rfl!
  · kernel_rfl!
  · kernel_rfl!
  · omega
theorem rng_dn (n : Nat) (h : n ≤ 20) : Builtin.Range.small ((n : Int) - 1) (-1) (-1) = true ∧ Builtin.Range.rangeSize ((n : Int) - 1) (-1) (-1) = (n : Int) := by
  have : ∀ n : Nat, n ≤ 20 → Builtin.Range.small ((n : Int) - 1) (-1) (-1) = true ∧ Builtin.Range.rangeSize ((n : Int) - 1) (-1) (-1) = (n : Int) := by decide +kernel
  exact this n h
theorem rng_dp (n : Nat) (h : n ≤ 20) : Builtin.divisionGoesByPylong ((-1 : Int) - ((n : Int) - 1)) (-1) = false := by
  have : ∀ n : Nat, n ≤ 20 → Builtin.divisionGoesByPylong ((-1 : Int) - ((n : Int) - 1)) (-1) = false := by decide +kernel
  exact this n h
/-- the table's entries -/
def entE (ex : List Int) (k : Nat) : List (Str × Str) := ((List.range ex.length).reverse.take k).map fun p => (nameOf (ex.getD p 0), plS p)
theorem entE_next (ex : List Int) (k : Nat) (h : k < ex.length) (c : Int) (hc : ex[ex.length - 1 - k]? = some c) : entE ex (k + 1) = entE ex k ++ [(nameOf c, plS (ex.length - 1 - k))] := by
  have e : (List.range ex.length).reverse[k]? = some (ex.length - 1 - k) := by
    rw [List.getElem?_reverse (by simpa using h), List.length_range, List.getElem?_range (by omega)]
  unfold entE
  rw [List.take_add_one, e, List.map_append]
  congr 1
  show [(nameOf (ex.getD (ex.length - 1 - k) 0), plS (ex.length - 1 - k))] = _
  rw [List.getD_eq_getElem?_getD, hc]; rfl
theorem entE_len (ex : List Int) (k : Nat) : (entE ex k).length ≤ ex.length := by
  unfold entE
  rw [List.length_map, List.length_take, List.length_reverse, List.length_range]; omega
theorem entE_key (ex : List Int) (k : Nat) : ∀ e ∈ entE ex k, e.1.length ≤ 100 := by
  intro e he
  obtain ⟨p, _, rfl⟩ := List.mem_map.mp he
  have h1 := (low_name (ex.getD p 0)).2
  have h2 := lt_lt (ex.getD p 0)
  show (nameOf (ex.getD p 0)).length ≤ 100
  omega
/-- the places of a letter, the last one first -/
def plc (xs : List Nat) (c : Nat) : List Nat := (List.range xs.length).reverse.filter fun p => Nat.beq (xs.getD p 0) c
theorem entE_get (ex : List Int) (c : Int) : ((entE ex ex.length).filter fun e => Txt.lower e.1 == Txt.lower (nameOf c)).map (·.2) = (plc (ex.map lt) (lt c)).map plS := by
  unfold entE plc
  rw [List.take_of_length_le (by simp), List.filter_map, List.map_map, List.length_map]
  have : ∀ p ∈ (List.range ex.length).reverse, ((fun e : Str × Str => Txt.lower e.1 == Txt.lower (nameOf c)) ∘ fun p => (nameOf (ex.getD p 0), plS p)) p = Nat.beq ((ex.map lt).getD p 0) (lt c) := by
    intro p hp
    have hp' : p < ex.length := by simpa using hp
    show (Txt.lower (nameOf (ex.getD p 0)) == Txt.lower (nameOf c)) = _
    rw [(low_name _).1, (low_name _).1, low3_eq (lt_lt _) (lt_lt _)]
    congr 1
    rw [List.getD_eq_getElem?_getD, List.getD_eq_getElem?_getD, List.getElem?_map, List.getElem?_eq_getElem hp']; rfl
  rw [List.filter_congr this]
  rfl
theorem plc_dn (xs : List Nat) (c : Nat) : (plc xs c).Pairwise (· > ·) := by
  refine List.Pairwise.filter _ ?_
  rw [List.pairwise_reverse]
  exact List.pairwise_lt_range
theorem plc_mem (xs : List Nat) (c p : Nat) : p ∈ plc xs c ↔ p < xs.length ∧ xs.getD p 0 = c := by
  unfold plc
  rw [List.mem_filter, List.mem_reverse, List.mem_range, Nat.beq_eq]
def bnd (xs : List Nat) (c t : Nat) : Nat := if t = 0 then xs.length else (plc xs c).getD (t - 1) 0
theorem plc_gap (xs : List Nat) (c t p : Nat) (h : (plc xs c)[t]? = some p) : p < bnd xs c t ∧ p < xs.length ∧ xs.getD p 0 = c ∧ (∀ p', p < p' → p' < bnd xs c t → xs.getD p' 0 ≠ c) ∧ bnd xs c (t + 1) = p := by
  obtain ⟨h1, h2⟩ := (plc_mem xs c p).mp (List.mem_of_getElem? h)
  have ht := (List.getElem?_eq_some_iff.mp h).1
  have hd := List.pairwise_iff_getElem.mp (plc_dn xs c)
  have ep : (plc xs c)[t] = p := by rw [List.getElem?_eq_getElem ht] at h; exact Option.some.inj h
  have eb : bnd xs c (t + 1) = p := by
    unfold bnd
    rw [if_neg (by omega), Nat.add_sub_cancel, List.getD_eq_getElem?_getD, h]; rfl
  have eq : ∀ t', t = t' + 1 → ∃ h' : t' < (plc xs c).length, bnd xs c t = (plc xs c)[t'] := by
    intro t' e
    subst e
    refine ⟨by omega, ?_⟩
    unfold bnd
    rw [if_neg (by omega), Nat.add_sub_cancel, List.getD_eq_getElem?_getD, List.getElem?_eq_getElem (by omega)]; rfl
  refine ⟨?_, h1, h2, fun p' a b e => ?_, eb⟩
  · cases t with
    | zero => unfold bnd; rw [if_pos rfl]; exact h1
    | succ t =>
      obtain ⟨h', e⟩ := eq t rfl
      rw [e]
      have := hd t (t + 1) h' ht (by omega)
      omega
  · have hp' : p' < xs.length := by
      cases t with
      | zero => unfold bnd at b; rw [if_pos rfl] at b; exact b
      | succ t =>
        obtain ⟨h', e'⟩ := eq t rfl
        have := ((plc_mem xs c _).mp (List.getElem_mem h')).1
        omega
    obtain ⟨m, hm⟩ := List.mem_iff_getElem?.mp ((plc_mem xs c p').mpr ⟨hp', e⟩)
    have hml := (List.getElem?_eq_some_iff.mp hm).1
    have em : (plc xs c)[m] = p' := by rw [List.getElem?_eq_getElem hml] at hm; exact Option.some.inj hm
    rcases Nat.lt_or_ge m t with hmt | hmt
    · obtain ⟨t', rfl⟩ : ∃ t', t = t' + 1 := ⟨t - 1, by omega⟩
      obtain ⟨h', e'⟩ := eq t' rfl
      rcases Nat.lt_or_ge m t' with q | q
      · have := hd m t' hml h' q; omega
      · have : m = t' := by omega
        subst this; omega
    · rcases Nat.lt_or_ge t m with q | q
      · have := hd t m ht hml q; omega
      · have : m = t := by omega
        subst this; omega
theorem plc_end (xs : List Nat) (c p : Nat) (h : p < bnd xs c (plc xs c).length) : xs.getD p 0 ≠ c := by
  intro e
  have hd := List.pairwise_iff_getElem.mp (plc_dn xs c)
  by_cases h0 : (plc xs c).length = 0
  · unfold bnd at h
    rw [if_pos h0] at h
    have := (plc_mem xs c p).mpr ⟨h, e⟩
    rw [List.length_eq_zero_iff.mp h0] at this
    simp at this
  · have hl : (plc xs c).length - 1 < (plc xs c).length := by omega
    have eb : bnd xs c (plc xs c).length = (plc xs c)[(plc xs c).length - 1] := by
      unfold bnd
      rw [if_neg h0, List.getD_eq_getElem?_getD, List.getElem?_eq_getElem hl]; rfl
    rw [eb] at h
    have hlast := ((plc_mem xs c _).mp (List.getElem_mem hl)).1
    obtain ⟨m, hm⟩ := List.mem_iff_getElem?.mp ((plc_mem xs c p).mpr ⟨by omega, e⟩)
    have hml := (List.getElem?_eq_some_iff.mp hm).1
    have em : (plc xs c)[m] = p := by rw [List.getElem?_eq_getElem hml] at hm; exact Option.some.inj hm
    rcases Nat.lt_or_ge m ((plc xs c).length - 1) with q | q
    · have := hd m _ hml hl q; omega
    · have : m = (plc xs c).length - 1 := by omega
      subst this; omega
theorem NsAre.drop : ∀ {vs : List Value} {ys : List Nat}, NsAre vs ys → ∀ n, NsAre (vs.drop n) (ys.drop n)
  | _, _, h, 0 => h
  | _, _, .nil, n + 1 => by simpa using NsAre.nil
  | _, _, .cons y t h, n + 1 => NsAre.drop h n
theorem ns_put {vs : List Value} {ys : List Nat} (h : NsAre vs ys) (s p : Nat) (t : Tok) : NsAre (putL vs s (.int p t)) (putL ys s p) := by
  unfold putL
  exact (h.take s).append (.cons p t (h.drop (s + 1)))
theorem ss_put {vs : List Value} {ys : List (List Nat)} (h : StrsAre vs (ys.map wS)) (s : Nat) (u : List Nat) (t : Tok) : StrsAre (putL vs s (.str (wS u) t)) ((putL ys s u).map wS) := by
  unfold putL
  rw [List.map_append, List.map_cons, List.map_take, List.map_drop]
  exact SS.append (SS.take h s) (.cons _ _ (SS.drop h (s + 1)))
/-! ## the searches over a row that turns -/
theorem Hp.fixH {g h : Heap} {M : List (Addr × (Obj → Prop))} {R : Addr} {p : Obj → Prop} (H : Hp g ((R, p) :: M) h) : ∃ g', Kp g g' ∧ Hp g' M h ∧ (∃ o, g'.get? R = some o ∧ p o) ∧ (∀ g'' h', Kp g' g'' → Hp g'' M h' → Hp g ((R, p) :: M) h') := by
  obtain ⟨g', k', H', f⟩ := (H.sub (List.sublist_cons_self _ _)).freeze
  obtain ⟨⟨o, e, z⟩, n⟩ := H.mu _ (.head _)
  have nd := H.nd
  rw [List.map_cons, List.nodup_cons] at nd
  have eo := f _ _ e nd.1
  refine ⟨g', k', H', ⟨o, eo, z⟩, fun g'' h' k2 H2 => ⟨k'.tr (k2.tr H2.keep), fun q hq => ?_, H.nd⟩⟩
  rcases List.mem_cons.mp hq with rfl | hq
  · exact ⟨⟨o, H2.keep _ _ (k2 _ _ eo), z⟩, n⟩
  · exact ⟨(H2.mu q hq).1, (H.mu q (.tail _ hq)).2⟩
theorem row_mono {E : List Nat} (hE : E.Pairwise (· < ·)) {i j : Nat} (hij : i ≤ j) (hj : j < E.length) : E.getD i 0 ≤ E.getD j 0 := by
  have ei : E.getD i 0 = E[i] := by rw [List.getD_eq_getElem?_getD, List.getElem?_eq_getElem (by omega)]; rfl
  have ej : E.getD j 0 = E[j] := by rw [List.getD_eq_getElem?_getD, List.getElem?_eq_getElem hj]; rfl
  rw [ei, ej]
  rcases Nat.lt_or_ge i j with h | h
  · have := List.pairwise_iff_getElem.mp hE i j (by omega) hj h; omega
  · have : i = j := by omega
    subst this; exact Nat.le_refl _
theorem bisLm (w : World) (prog : Program) (A : Around) (mb) (g h : Heap) (M) (gs dr tk os) (W : Wld (KK w) mb g) (R : Addr) (vs : List Value) (E : List Nat) (H : Hp g ((R, lst vs) :: M) h) (hh : A.handled = none) (hd : A.depth < 900) (nE : NsAre vs E) (hE : E.Pairwise (· < ·)) (hz : E.length ≤ 100) (p : Nat) (t : Tok) :
    codeAny (model prog w) A (.call (.ref 56) ⟨[.ref R, .int p t], []⟩) (Rt gs dr os fun v h' => ∃ t, v = .int (Hs.cnt E p : Nat) t ∧ Hp g ((R, lst vs) :: M) h') ⟨h, gs, dr, tk, os⟩ := by
  obtain ⟨g', k', H', il, back⟩ := H.fixH
  have il : IsL g' R vs := il
  have hul : vs.length = E.length := NsAre.len nE
  refine Rt.mono (bisL_plain w prog A mb g' h M gs dr tk os (W.up k') H' hh hd R vs (.int p t) (fun i => Nat.blt (E.getD i 0) p) il (by omega) ⟨?_⟩ ?_) ?_
  · intro i v hv A' E' Q s q
    obtain ⟨h1, h2, h3, h4, h5⟩ := s
    have hi : i < E.length := by rw [← hul]; exact (List.getElem?_eq_some_iff.mp hv).1
    obtain ⟨n, hn⟩ : ∃ n, E[i]? = some n := ⟨_, List.getElem?_eq_getElem hi⟩
    obtain ⟨tn, htn⟩ := NsAre.at_ nE hn
    cases hv.symm.trans htn
    simp only [if_true]
    refine oLt ?_
    have : E.getD i 0 = n := by rw [List.getD_eq_getElem?_getD, hn]; rfl
    rw [this] at q
    have e : decide ((n : Int) < (p : Int)) = Nat.blt n p := by rw [Bool.eq_iff_iff, decide_eq_true_eq, Nat.blt_eq]; omega
    rw [e]; exact q
  · intro i j hij hj e
    have := row_mono hE hij (by omega)
    rw [Nat.blt_eq] at e ⊢
    omega
  · rintro v h' ⟨r, t2, g2, rfl, _, hr, hlo, hhi, kg, H2⟩
    refine ⟨t2, ?_, back _ _ kg H2⟩
    unfold Hs.cnt
    rw [cut_count (fun e => Nat.blt e p) E r (by omega) (fun i x hi e => ?_) (fun i x hi e => ?_)]
    · have := hlo i (Nat.zero_le _) hi
      simpa [List.getD_eq_getElem?_getD, e] using this
    · have hx : i < vs.length := by rw [hul]; exact (List.getElem?_eq_some_iff.mp e).1
      have := hhi i hi hx
      simpa [List.getD_eq_getElem?_getD, e] using this
theorem bisRm (w : World) (prog : Program) (A : Around) (mb) (g h : Heap) (M) (gs dr tk os) (W : Wld (KK w) mb g) (R : Addr) (vs : List Value) (E : List Nat) (H : Hp g ((R, lst vs) :: M) h) (hh : A.handled = none) (hd : A.depth < 900) (nE : NsAre vs E) (hE : E.Pairwise (· < ·)) (hz : E.length ≤ 100) (p : Nat) (t : Tok) :
    codeAny (model prog w) A (.call (.ref 47) ⟨[.ref R, .int ((p : Int) - 1) t], []⟩) (Rt gs dr os fun v h' => ∃ t, v = .int (Hs.cnt E p : Nat) t ∧ Hp g ((R, lst vs) :: M) h') ⟨h, gs, dr, tk, os⟩ := by
  obtain ⟨g', k', H', il, back⟩ := H.fixH
  have il : IsL g' R vs := il
  have hul : vs.length = E.length := NsAre.len nE
  refine Rt.mono (bisR_plain w prog A mb g' h M gs dr tk os (W.up k') H' hh hd R vs (.int ((p : Int) - 1) t) (fun i => !Nat.blt (E.getD i 0) p) il (by omega) ⟨?_⟩ ?_) ?_
  · intro i v hv A' E' Q s q
    obtain ⟨h1, h2, h3, h4, h5⟩ := s
    have hi : i < E.length := by rw [← hul]; exact (List.getElem?_eq_some_iff.mp hv).1
    obtain ⟨n, hn⟩ : ∃ n, E[i]? = some n := ⟨_, List.getElem?_eq_getElem hi⟩
    obtain ⟨tn, htn⟩ := NsAre.at_ nE hn
    cases hv.symm.trans htn
    simp only [Bool.false_eq_true, if_false]
    refine oLt ?_
    have : E.getD i 0 = n := by rw [List.getD_eq_getElem?_getD, hn]; rfl
    rw [this] at q
    have e : decide ((p : Int) - 1 < (n : Int)) = !Nat.blt n p := by
      cases hb : Nat.blt n p with
      | true => rw [Nat.blt_eq] at hb; exact decide_eq_false (by omega)
      | false =>
        have : ¬ n < p := fun q => by rw [Nat.blt_eq.mpr q] at hb; cases hb
        exact decide_eq_true (by omega)
    rw [e]; exact q
  · intro i j hij hj e
    have h1 := row_mono hE hij (by omega)
    cases hb : Nat.blt (E.getD j 0) p with
    | false => rfl
    | true =>
      rw [Nat.blt_eq] at hb
      rw [Nat.blt_eq.mpr (show E.getD i 0 < p by omega)] at e
      cases e
  · rintro v h' ⟨r, t2, g2, rfl, _, hr, hlo, hhi, kg, H2⟩
    refine ⟨t2, ?_, back _ _ kg H2⟩
    unfold Hs.cnt
    rw [cut_count (fun e => Nat.blt e p) E r (by omega) (fun i x hi e => ?_) (fun i x hi e => ?_)]
    · have := hlo i (Nat.zero_le _) hi
      simpa [List.getD_eq_getElem?_getD, e] using this
    · have hx : i < vs.length := by rw [hul]; exact (List.getElem?_eq_some_iff.mp e).1
      have := hhi i hi hx
      simpa [List.getD_eq_getElem?_getD, e] using this
theorem mergeT {M : Model} {A : Around} {E : Value → Shared → Prop} {t : Sem Value} {h : Heap} {gs : Array GenState} {dr : Drawn} {tk : Nat} {os : OsState} {Q : Value → Shared → Prop} (r : Str)
    (p : wpAny M A t (fun v s => (∃ u, v = .str r u) ∧ ∃ h' tk', s = ⟨h', gs, dr, tk', os⟩ ∧ Kp h h') E ⟨h, gs, dr, tk, os⟩) (q : ∀ u h' tk', Kp h h' → Q (.str r u) ⟨h', gs, dr, tk', os⟩) : wpAny M A t Q E ⟨h, gs, dr, tk, os⟩ :=
  wpAny_mono p (fun v s hv => by obtain ⟨⟨u, rfl⟩, h', tk', rfl, k⟩ := hv; exact q u h' tk' k) fun _ _ e => e
theorem m_add (w : World) : findIn (KK w) (.ref 207) (Str.ofString "add_header") = some (some (.ref 204)) := by kernel_rfl!
theorem m_all (w : World) : findIn (KK w) (.ref 207) (Str.ofString "get_all") = some (some (.ref 146)) := by kernel_rfl!
local macro_rules | `(tactic| walk_at "methw") => `(tactic| first | with_reducible exact m_add _ | with_reducible exact m_all _)
local macro_rules | `(tactic| walk_at "pull") => `(tactic| first | with_reducible exact Pull.hd | ((with_reducible refine Pull.tl ?_); walk_at "pull"))
theorem mergeI {M : Model} {A : Around} {E : Value → Shared → Prop} {t1 t2 : Sem Value} {c : Bool} {h : Heap} {gs : Array GenState} {dr : Drawn} {tk : Nat} {os : OsState} {Q : Value → Shared → Prop} (r : Str)
    (p1 : c = true → wpAny M A t1 (fun v s => (∃ u, v = .str r u) ∧ ∃ h' tk', s = ⟨h', gs, dr, tk', os⟩ ∧ Kp h h') E ⟨h, gs, dr, tk, os⟩)
    (p2 : c = false → wpAny M A t2 (fun v s => (∃ u, v = .str r u) ∧ ∃ h' tk', s = ⟨h', gs, dr, tk', os⟩ ∧ Kp h h') E ⟨h, gs, dr, tk, os⟩)
    (q : ∀ u h' tk', Kp h h' → Q (.str r u) ⟨h', gs, dr, tk', os⟩) : if c = true then wpAny M A t1 Q E ⟨h, gs, dr, tk, os⟩ else wpAny M A t2 Q E ⟨h, gs, dr, tk, os⟩ := by
  cases c
  · rw [if_neg (by simp)]; exact mergeT r (p2 rfl) q
  · rw [if_pos rfl]; exact mergeT r (p1 rfl) q
set_option maxHeartbeats 10000000 in
theorem law_ (w : World) (prog : Program) (A : Around) (mb mg) (g h : Heap) (gs dr tk os) (W : Wld (KK w) mb g) (La : Lam g 245 241 mg) (H : Hp g [(241, (· = tabO lamP none))] h) (hh : A.handled = none) (hd : A.depth < 700) (S : Addr) (sv : List Value) (ns : List Int) (hl : g.IsList S sv.toArray) (hi : IntsAre sv ns) (hz : ns.length ≤ 1000) :
    codeAny (model prog w) A (.call (.ref 265) ⟨[.ref S], []⟩) (Rt gs dr os fun v h' => v = .bool true ∧ Kp g h' ∧ ∃ st, h'.get? 241 = some (tabO lamP st)) ⟨h, gs, dr, tk, os⟩ := by
  refine enter [(Str.ofString "script", .ref S)] W H (by omega) rfl rfl (by kernel_rfl!) rfl (binds_peek W H.keep fun S => by kernel_rfl!) (by kernel_rfl!) (by kernel_rfl!) (by kernel_rfl!) rfl rfl rfl (fun L h0 tk0 b0 => ?_)
  have svl := ZsAre_len hi
  repeat' walk_at "st"
  rename Kp _ _ => ks
  rename Heap.IsSliceOf _ _ _ _ _ => hs
  have b1 := b0.kp ks
  refine gCutI (lo := none) (hi := some 6) (st := none) (IsI.up hl b1.keep) (by omega) hs .none (.int _ _) .none (by decide) ⟨_, rfl⟩ (fun D1 h2 k2 f2 il2 => ?_)
  have z1 := ZsAre_take hi 6
  rw [show ((6 : Nat) : Int) = 6 from rfl] at z1
  generalize (slicePick sv.toArray none (some 6) none).toList = cv1 at il2 z1
  have b2 := b1.kp k2
  repeat' walk_at "st"
  refine oNewL (by simp) (fun D2 h3 k3 f3 il3 => ?_)
  have b3 := b2.kp k3
  obtain ⟨lit, z3, il3⟩ : ∃ lit, IntsAre lit [0, 1, 4, 3, 3, 4] ∧ IsL h3 D2 lit := ⟨_, .cons 0 _ (.cons 1 _ (.cons 4 _ (.cons 3 _ (.cons 3 _ (.cons 4 _ .nil))))), il3⟩
  have l3 := ZsAre_len z3
  rw [show ([0, 1, 4, 3, 3, 4] : List Int).length = 6 from rfl] at l3
  repeat' walk_at "st"
  have l1 := ZsAre_len z1
  rw [List.length_take] at l1
  refine oAddL (il2.up k3) il3 (by omega) (fun D3 h4 k4 f4 il4 => ?_)
  obtain ⟨g5, k5, b5, fr5⟩ := b3.freeze k4
  have il5 : IsL g5 D3 _ := IsL.frz il4 fr5 f4
  have zc : IntsAre (cv1 ++ lit) (cellsOf ns) := ZsAre_app z1 z3
  generalize cv1 ++ lit = cv at il5 zc
  obtain ⟨c1, c2, c3, c4, c5, c6, c7, c8, c9⟩ := cells_facts ns
  generalize cellsOf ns = cs at *
  have W5 := W.up k5
  have La5 := La.up k5
  clear b3 b2 b1 b0
  have cvl := ZsAre_len zc
  repeat' walk_at "st"
  clear b5
  rename Bd _ _ _ _ _ => b6
  rename Kp _ _ => ks
  rename Heap.IsSliceOf _ _ _ _ _ => hs2
  have b7 := b6.kp ks
  refine gCutL (lo := some 0) (hi := none) (st := some 2) ((il5).up b7.keep) (by omega) hs2 (.int _ _) .none (.int _ _) (by decide) ⟨_, rfl⟩ (fun DX2 hA2 kA2 fA2 ilA2 => ?_)
  obtain ⟨gB2, kB2, bB2, frB2⟩ := b7.freeze kA2
  have ilB2 : IsL gB2 DX2 _ := IsL.frz ilA2 frB2 fA2
  clear b7
  have zx2 := IntsAre.pick zc (some 0) none (some 2)
  rw [c1] at zx2
  generalize (slicePick cv.toArray (some 0) none (some 2)).toList = xv2 at ilB2 zx2
  have xl2 := ZsAre_len zx2
  have W5B := W5.up kB2
  refine lcL (vs := xv2) hh bB2 ilB2 (by omega) (by kernel_rfl!) rfl rfl (.inl rfl) (fun C => by kernel_rfl!) (fun i g1 ys => StrsAre ys (((evs cs).take i).map fun v => sg (lt v)) ∧ ys.length ≤ i) ⟨.nil, Nat.le_refl _⟩ (fun _ _ _ j => j.2) ?_ ?_
  · rintro i v g1 ys h1 t1 C D I o oL E1 hv k1 ⟨j1, j2⟩ b7
    have W1 := W5B.up k1
    obtain ⟨y, ty, hy, rfl⟩ := ZsAre_at' zx2 hv
    repeat' walk_at "st"
    refine gIdxS (c := 97 + lt y) ?_ ?_ ?_ (by kernel_rfl!) (fun _ _ => ?_)
    · have := fmod_lt (a := y) (b := 3) (by decide); omega
    · have := fmod_lt (a := y) (b := 3) (by decide); omega
    · have hf := fmod_lt (a := y) (b := 3) (by decide)
      have e : y.fmod 3 = ((lt y : Nat) : Int) := (Int.toNat_of_nonneg hf.1).symm
      rw [e]
      exact abc_at _ (lt_lt y)
    · refine LcE.mk Kp.rf b7 ⟨?_, by simp; omega⟩
      rw [take_map_succ _ hy]
      exact SS.snoc j1
  rintro gC2 yv2 DY2 hC2 tC2 kC2 ⟨j12, j22⟩ hb
  have bC2 := hb _ (.none _)
  clear hb bB2
  obtain ⟨gD2, kD2, bD2, ilD2⟩ := bC2.fix
  have ilD2 : IsL gD2 DY2 yv2 := ilD2
  clear bC2
  have kE2 := kB2.tr (kC2.tr kD2)
  have WE2 := W5.up kE2
  rw [xl2, List.take_length, show ((evs cs).map fun v => sg (lt v)) = ((evs cs).map lt).map sg by rw [List.map_map]; rfl] at j12
  refine UseQ.val ?_
  repeat' walk_at "st"
  refine oJoin (ilD2.up bD2.keep) j12 (joinOk_sg _ (by simp; omega)) (fun tx _ => ?_)
  first | rw [join_sg] | rw [show Str.ofString "" = Str.empty from rfl, join_sg]
  repeat' walk_at "st"
  clear bD2
  rename Bd _ _ _ _ _ => bE2
  rename Kp _ _ => ks
  rename Heap.IsSliceOf _ _ _ _ _ => hs3
  have b8 := bE2.kp ks
  clear bE2
  refine gCutL (lo := some 1) (hi := none) (st := some 2) ((il5.up kE2).up b8.keep) (by omega) hs3 (.int _ _) .none (.int _ _) (by decide) ⟨_, rfl⟩ (fun DX3 hA3 kA3 fA3 ilA3 => ?_)
  obtain ⟨gB3, kB3, bB3, frB3⟩ := b8.freeze kA3
  have ilB3 : IsL gB3 DX3 _ := IsL.frz ilA3 frB3 fA3
  clear b8
  have zx3 := IntsAre.pick zc (some 1) none (some 2)
  rw [c2] at zx3
  generalize (slicePick cv.toArray (some 1) none (some 2)).toList = xv3 at ilB3 zx3
  have xl3 := ZsAre_len zx3
  have WE2B := WE2.up kB3
  refine lcL (vs := xv3) hh bB3 ilB3 (by omega) (by kernel_rfl!) rfl rfl (.inl rfl) (fun C => by kernel_rfl!) (fun i g1 ys => StrsAre ys (((ods cs).take i).map fun v => sg (lt v)) ∧ ys.length ≤ i) ⟨.nil, Nat.le_refl _⟩ (fun _ _ _ j => j.2) ?_ ?_
  · rintro i v g1 ys h1 t1 C D I o oL E1 hv k1 ⟨j1, j2⟩ b7
    have W1 := WE2B.up k1
    obtain ⟨y, ty, hy, rfl⟩ := ZsAre_at' zx3 hv
    repeat' walk_at "st"
    refine gIdxS (c := 97 + lt y) ?_ ?_ ?_ (by kernel_rfl!) (fun _ _ => ?_)
    · have := fmod_lt (a := y) (b := 3) (by decide); omega
    · have := fmod_lt (a := y) (b := 3) (by decide); omega
    · have hf := fmod_lt (a := y) (b := 3) (by decide)
      have e : y.fmod 3 = ((lt y : Nat) : Int) := (Int.toNat_of_nonneg hf.1).symm
      rw [e]
      exact abc_at _ (lt_lt y)
    · refine LcE.mk Kp.rf b7 ⟨?_, by simp; omega⟩
      rw [take_map_succ _ hy]
      exact SS.snoc j1
  rintro gC3 yv3 DY3 hC3 tC3 kC3 ⟨j13, j23⟩ hb
  have bC3 := hb _ (.none _)
  clear hb bB3
  obtain ⟨gD3, kD3, bD3, ilD3⟩ := bC3.fix
  have ilD3 : IsL gD3 DY3 yv3 := ilD3
  clear bC3
  have kE3 := kB3.tr (kC3.tr kD3)
  have WE3 := WE2.up kE3
  rw [xl3, List.take_length, show ((ods cs).map fun v => sg (lt v)) = ((ods cs).map lt).map sg by rw [List.map_map]; rfl] at j13
  refine UseQ.val ?_
  repeat' walk_at "st"
  refine oJoin (ilD3.up bD3.keep) j13 (joinOk_sg _ (by simp; omega)) (fun ty _ => ?_)
  first | rw [join_sg] | rw [show Str.ofString "" = Str.empty from rfl, join_sg]
  repeat' walk_at "st"
  clear bD3
  rename Bd _ _ _ _ _ => bE3
  generalize hex : evs cs = ex at *
  generalize hey : ods cs = ey at *
  have xsl : (ex.map lt).length = ex.length := by simp
  have ysl : (ey.map lt).length = ey.length := by simp
  have hxp : ∀ p, ex[p]? = cs[2 * p]? := fun p => by rw [← hex]; exact evs_at cs p
  have hyp : ∀ p, ey[p]? = cs[2 * p + 1]? := fun p => by rw [← hey]; exact ods_at cs p
  generalize hxs : ex.map lt = xs at *
  generalize hys : ey.map lt = ys at *
  have La9 := La5.up (kE2.tr kE3)
  have il9 := il5.up (kE2.tr kE3)
  refine rCallC WE3 bE3 (by with_reducible exact g_Headers _) (by kernel_rfl!) (by kernel_rfl!) rfl (by kernel_rfl!) ?_
  repeat' walk_at "st"
  refine ⟨bE3.keep, ?_⟩
  obtain ⟨oL, HL, back⟩ := bE3.out
  refine make_ w prog (A.deeper _) mb _ _ _ _ _ _ _ WE3 HL hh (by show A.depth + 1 < 970; exact dp hd) (fun T Hd g10 h10 t10 k10 tab H10 => ?_)
  have b10 := back _ _ _ (H10.perm (List.Perm.swap _ _ _))
  clear HL H10 back bE3
  have W10 := WE3.up k10
  have La10 := La9.up k10
  have il10 := il9.up k10
  repeat' walk_at "st"
  clear b10
  rename Bd _ _ _ _ _ => b10
  refine sFor (fun _ => rfl) ?_
  repeat' walk_at "st"
  refine oLenS (sz_line (by rw [wS_len]; omega)) (fun _ _ => ?_)
  repeat' walk_at "st"
  rw [wS_len]
  refine oRange3 (by decide) (rng_dp xs.length (by omega)) (fun r h11 t11 t0 u0 v0 k11 hr => ?_)
  have b11 := b10.kp k11
  clear b10
  refine fRange hh b11 hr (n := xs.length) (rng_dn xs.length (by omega)).1 (rng_dn xs.length (by omega)).2 (by kernel_rfl!) rfl
    (fun i g1 l1 M1 => ∃ hv, M1 = [(Hd, lst hv), (241, (· = tabO lamP none))] ∧ l1 = [(Str.ofString "script", .ref S), (Str.ofString "cells", .ref D3), (Str.ofString "x", .str (wS xs) tx), (Str.ofString "y", .str (wS ys) ty), (Str.ofString "table", .ref T)] ∧ Prs g1 hv (entE ex i)) ⟨_, rfl, rfl, .nil⟩ ?_ ?_
  · rintro i ti g1 l1 M1 h12 t12 I o hi k1 ⟨hv, rfl, rfl, hP⟩ hb
    have b12 := hb _ (by walk_at "sto")
    clear hb
    have hie : i < ex.length := by omega
    rw [show ((xs.length : Int) - 1 + (i : Int) * (-1)) = ((ex.length - 1 - i : Nat) : Int) by omega] at b12
    obtain ⟨ci, hci⟩ : ∃ c, ex[ex.length - 1 - i]? = some c := ⟨_, List.getElem?_eq_getElem (by omega)⟩
    have hnext := entE_next ex i hie ci hci
    have hpl := plS_int (ex.length - 1 - i) (by omega)
    have hrp := re_pl w (ex.length - 1 - i) (by omega)
    have hcc := hci
    rw [hxp] at hcc
    obtain ⟨tci, hvc⟩ := ZsAre_at zc hcc
    have hel := entE_len ex i
    have hp6 : ex.length - 1 - i ≤ 6 := by omega
    generalize ex.length - 1 - i = p at *
    have W1 := W10.up k1
    have tab1 := tab.up k1
    have il1 := il10.up k1
    repeat' walk_at "st"
    refine oMul (IntMulOk.of_left (by decide)) (fun _ _ => ?_)
    repeat' walk_at "st"
    refine gIdx (il1.up b12.keep) (by omega) (by omega) (v := .int ci tci) (by rw [← hvc]; congr 1) (by kernel_rfl!) ?_
    repeat' walk_at "st"
    refine ⟨b12.keep, ?_⟩
    obtain ⟨oL, HL, back⟩ := b12.out
    refine use (name_ w prog (A.deeper _) mb _ _ _ _ _ _ _ W1 HL (by show A.depth + 1 < 980; exact dp hd) ci _) (fun v h13 t13 xx => ?_)
    obtain ⟨tn, ev, H13⟩ := xx
    subst ev
    have b13 := back _ _ _ H13
    clear HL H13 back b12
    repeat' walk_at "st"
    refine oStrI hpl.2.2 (fun _ _ => ?_)
    rw [show Str.ofString (toString (p : Int)) = plS p from rfl]
    repeat' walk_at "st"
    refine ⟨b13.keep, ?_⟩
    obtain ⟨oL, HL, back⟩ := b13.out
    have pl : ∀ q, Pull (Hd, lst q) ((L, (· = oL)) :: [(I, (· = o)), (Hd, lst q), (241, (· = tabO lamP none))]) ((L, (· = oL)) :: [(I, (· = o)), (241, (· = tabO lamP none))]) := fun q => by walk_at "pull"
    have hcl := low_name ci
    have hcl3 := lt_lt ci
    refine use (add_ w prog (A.deeper _) mb _ _ _ _ _ _ _ W1 hv _ T Hd (HL.perm (pl hv).perm) hh (by show A.depth + 1 < 970; exact dp hd) tab1 hP (by omega) _ _ (by omega) (re_name w ci) _ _ (by omega) hrp) (fun v h14 t14 xx => ?_)
    obtain ⟨ev, g14, hv', k14, H14, p14⟩ := xx
    subst ev
    have b14 := back _ _ _ (H14.perm (pl hv').perm.symm)
    clear HL H14 back b13
    repeat' walk_at "st"
    have b15 := b14.fg (l' := [(Str.ofString "script", .ref S), (Str.ofString "cells", .ref D3), (Str.ofString "x", .str (wS xs) tx), (Str.ofString "y", .str (wS ys) ty), (Str.ofString "table", .ref T)]) (by walk_at "sub")
    refine BEnd.nxt k14 b15 ⟨_, rfl, rfl, ?_⟩
    rw [hnext]
    exact p14
  rintro g16 l16 M16 h16 t16 k16 ⟨hv, rfl, rfl, hP⟩ b16
  have W16 := W10.up k16
  have La16 := La10.up k16
  have tab16 := tab.up k16
  have il16 := il10.up k16
  rw [xsl] at hP
  repeat' walk_at "st"
  refine ⟨b16.keep, ?_⟩
  obtain ⟨oL, HL, back⟩ := b16.out
  refine use (shared_ w prog (A.deeper _) mb _ _ _ _ _ _ _ W16 HL hh (by show A.depth + 1 < 900; exact dp hd) xs ys (by omega) (by omega) _ _) (fun v h17 t17 xx => ?_)
  obtain ⟨Dd, g17, rv, ev, k17, ilR, rR, H17⟩ := xx
  subst ev
  have b17 := back _ _ _ H17
  clear HL H17 back b16
  have W17 := W16.up k17
  repeat' walk_at "st"
  refine oNewL (by simp) (fun En h18 k18 f18 il18 => ?_)
  obtain ⟨o18, e18, l18⟩ := il18
  rename Bd _ _ _ _ _ => b17'
  have b18 := b17'.add k18 f18 e18 l18
  clear b17 b17'
  repeat' walk_at "st"
  refine oNewL (by simp) (fun Wn h19 k19 f19 il19 => ?_)
  obtain ⟨o19, e19, l19⟩ := il19
  rename Bd _ _ _ _ _ => b18'
  have b19 := b18'.add k19 f19 e19 l19
  clear b18 b18'
  repeat' walk_at "st"
  rename Bd _ _ _ _ _ => b19'
  clear b19
  have b19 := b19'
  clear b19'
  refine sFor (fun _ => rfl) ?_
  repeat' walk_at "st"
  refine oLenS (sz_line (by rw [wS_len]; omega)) (fun _ _ => ?_)
  repeat' walk_at "st"
  rw [wS_len]
  refine oRange1 (fun r2 h20 t20 t0' u0' v0' k20 hr2 => ?_)
  have b20 := b19.kp k20
  clear b19
  have tab17 := tab16.up k17
  have il17 := il16.up k17
  have La17 := La16.up k17
  have hP17 := hP.up k17
  refine fRange hh b20 hr2 (n := ys.length) (rng_ok _ (by omega)).1 (rng_ok _ (by omega)).2 (by kernel_rfl!) rfl
    (fun j g1 l1 M1 => ∃ evv wvv E Wd, M1 = [(Wn, lst wvv), (En, lst evv), (Hd, lst hv), (241, (· = tabO lamP none))] ∧ l1 = [(Str.ofString "script", .ref S), (Str.ofString "cells", .ref D3), (Str.ofString "x", .str (wS xs) tx), (Str.ofString "y", .str (wS ys) ty), (Str.ofString "table", .ref T), (Str.ofString "due", .ref Dd), (Str.ofString "ends", .ref En), (Str.ofString "words", .ref Wn)] ∧ NsAre evv E ∧ StrsAre wvv (Wd.map wS) ∧ Hs.En xs ys j E Wd) ⟨_, _, [], [], rfl, rfl, .nil, .nil, Hs.En.nil xs ys⟩ ?_ ?_
  · rintro j tj g1 l1 M1 h21 t21 I o hj k1 ⟨evv, wvv, E, Wd, rfl, rfl, nE, sW, hEn⟩ hb
    have b21 := hb _ (by walk_at "sto")
    clear hb
    rw [show ((0 : Int) + (j : Int) * 1) = (j : Int) by omega] at b21
    have W1 := W17.up k1
    have tab1 := tab17.up k1
    have il1 := il17.up k1
    have hP1 := hP17.up k1
    obtain ⟨cj, hcj⟩ : ∃ c, ey[j]? = some c := ⟨_, List.getElem?_eq_getElem (by omega)⟩
    have hcc := hcj
    rw [hyp] at hcc
    obtain ⟨tcj, hvc⟩ := ZsAre_at zc hcc
    have hyj : ys[j]? = some (lt cj) := by rw [← hys, List.getElem?_map, hcj]; rfl
    have gyj : ys.getD j 0 = lt cj := by rw [List.getD_eq_getElem?_getD, hyj]; rfl
    have hcl := low_name cj
    have hcl3 := lt_lt cj
    have hel := entE_len ex ex.length
    repeat' walk_at "st"
    refine sFor (fun _ => rfl) ?_
    repeat' walk_at "st"
    refine oMul (IntMulOk.of_left (by decide)) (fun _ _ => ?_)
    repeat' walk_at "st"
    refine gIdx (il1.up b21.keep) (by omega) (by omega) (v := .int cj tcj) (by rw [← hvc]; congr 1) (by kernel_rfl!) ?_
    repeat' walk_at "st"
    refine ⟨b21.keep, ?_⟩
    obtain ⟨oL, HL, back⟩ := b21.out
    refine use (name_ w prog (A.deeper _) mb _ _ _ _ _ _ _ W1 HL (by show A.depth + 1 < 980; exact dp hd) cj _) (fun v h22 t22 xx => ?_)
    obtain ⟨tn, ev, H22⟩ := xx
    subst ev
    have b22 := back _ _ _ H22
    clear HL H22 back b21
    repeat' walk_at "st"
    refine ⟨b22.keep, ?_⟩
    obtain ⟨oL, HL, back⟩ := b22.out
    have pl : Pull (Hd, lst hv) ((L, (· = oL)) :: [(I, (· = o)), (Wn, lst wvv), (En, lst evv), (Hd, lst hv), (241, (· = tabO lamP none))]) ((L, (· = oL)) :: [(I, (· = o)), (Wn, lst wvv), (En, lst evv), (241, (· = tabO lamP none))]) := by walk_at "pull"
    refine use (get_all_ w prog (A.deeper _) mb _ _ _ _ _ _ _ W1 hv _ T Hd (HL.perm pl.perm) hh (by show A.depth + 1 < 980; exact dp hd) tab1 hP1 (by omega) (entE_key ex _) _ _ (by omega) (by rw [hcl.1]; exact re_low w _ hcl3)) (fun v h23 t23 xx => ?_)
    obtain ⟨DN, g23, nv, ev, k23, ilN, H23, sN⟩ := xx
    subst ev
    have b23 := back _ _ _ (H23.perm pl.perm.symm)
    clear HL H23 back b22
    rw [entE_get ex cj, hxs] at sN
    have W23 := W1.up k23
    have lN := SS.len sN
    rw [List.length_map] at lN
    repeat' walk_at "st"
    refine fList hh b23 ilN (by kernel_rfl!) rfl
      (fun t g2 l2 M2 => ∃ evv wvv E Wd, M2 = [(I, (· = o)), (Wn, lst wvv), (En, lst evv), (Hd, lst hv), (241, (· = tabO lamP none))] ∧ l2 = [(Str.ofString "script", .ref S), (Str.ofString "cells", .ref D3), (Str.ofString "x", .str (wS xs) tx), (Str.ofString "y", .str (wS ys) ty), (Str.ofString "table", .ref T), (Str.ofString "due", .ref Dd), (Str.ofString "ends", .ref En), (Str.ofString "words", .ref Wn), (Str.ofString "j", .int j tj)] ∧ NsAre evv E ∧ StrsAre wvv (Wd.map wS) ∧ Hs.St xs ys j (bnd xs (lt cj) t) E Wd) ⟨_, _, E, Wd, rfl, rfl, nE, sW, hEn.start⟩ ?_ ?_
    · rintro t v g2 l2 M2 h24 t24 I2 o2 hv2 k2' ⟨evv, wvv, E, Wd, rfl, rfl, nE, sW, hSt⟩ hb
      have b24 := hb _ (by walk_at "sto")
      clear hb
      have W24 := W23.up k2'
      have ht : t < (plc xs (lt cj)).length := by rw [← lN]; exact (List.getElem?_eq_some_iff.mp hv2).1
      obtain ⟨p, hp⟩ : ∃ p, (plc xs (lt cj))[t]? = some p := ⟨_, List.getElem?_eq_getElem ht⟩
      obtain ⟨tp, htp⟩ := SS.at' sN (i := t) (y := plS p) (by rw [List.getElem?_map, hp]; rfl)
      cases hv2.symm.trans htp
      obtain ⟨pg1, pg2, pg3, pg4, pg5⟩ := plc_gap xs (lt cj) t p hp
      have hpl := plS_int p (by omega)
      have hturn := hSt.turn (by omega) pg1 pg2 (by rw [gyj]; exact pg3) (fun p' a b => by rw [gyj]; exact pg4 p' a b)
      rw [gyj] at hturn
      obtain ⟨hsE, hSt'⟩ := hturn
      have lE := NsAre.len nE
      have lW := SS.len sW
      rw [List.length_map] at lW
      have hwl := hSt.wl
      have hEn6 : E.length ≤ 6 := by
        have hb := Hs.cnt_all hSt.lt
        have h1 := (hSt.ct xs.length (Nat.le_refl _))
        have hh1 : E.Pairwise (· < ·) := hSt.up
        refine Nat.le_of_not_lt fun q => ?_
        have hbk : ∀ k (hk : k < E.length), k ≤ E[k] := by
          intro k
          induction k with
          | zero => exact fun _ => Nat.zero_le _
          | succ k ih =>
            intro hk
            have a := ih (by omega)
            have b := List.pairwise_iff_getElem.mp hh1 k (k + 1) (by omega) hk (by omega)
            omega
        have a := hbk 6 (by omega)
        have b := hSt.lt E[6] (List.getElem_mem _)
        omega
      have hwd6 : ∀ u ∈ Wd, u.length ≤ 7 := by
        intro u hu
        obtain ⟨k, hk⟩ := List.mem_iff_getElem?.mp hu
        have hkl := (List.getElem?_eq_some_iff.mp hk).1
        obtain ⟨e, he⟩ : ∃ e, E[k]? = some e := ⟨_, List.getElem?_eq_getElem (by omega)⟩
        have := (hSt.wd k e u he hk).1
        omega
      repeat' walk_at "st"
      refine oInt hpl.1 (by omega) (fun _ _ => ?_)
      repeat' walk_at "st"
      refine ⟨b24.keep, ?_⟩
      obtain ⟨oL, HL, back⟩ := b24.out
      have plE : ∀ q, Pull (En, lst q) ((L, (· = oL)) :: [(I2, (· = o2)), (I, (· = o)), (Wn, lst wvv), (En, lst q), (Hd, lst hv), (241, (· = tabO lamP none))]) ((L, (· = oL)) :: [(I2, (· = o2)), (I, (· = o)), (Wn, lst wvv), (Hd, lst hv), (241, (· = tabO lamP none))]) := fun q => by walk_at "pull"
      refine use (bisLm w prog (A.deeper _) mb _ _ _ _ _ _ _ W24 En evv E (HL.perm (plE evv).perm) hh (by show A.depth + 1 < 900; exact dp hd) nE hSt.up (by omega) p _) (fun v h25 t25 xx => ?_)
      obtain ⟨ts, ev, H25⟩ := xx
      subst ev
      have b25 := back _ _ _ (H25.perm (plE evv).perm.symm)
      clear HL H25 back b24
      repeat' walk_at "st"
      clear b25
      rename Bd _ _ _ _ _ => b25
      refine mergeI (wS (if 0 < Hs.cnt E p then Wd.getD (Hs.cnt E p - 1) [] else [])) (fun q => ?_) (fun q => ?_) (fun uw h26 t26 k26 => ?_)
      · have q' : 0 < Hs.cnt E p := by have := of_decide_eq_true q; omega
        obtain ⟨pw, hpw⟩ : ∃ u, Wd[Hs.cnt E p - 1]? = some u := ⟨_, List.getElem?_eq_getElem (by omega)⟩
        obtain ⟨tw, htw⟩ := SS.at' sW (i := Hs.cnt E p - 1) (y := wS pw) (by rw [List.getElem?_map, hpw]; rfl)
        repeat' walk_at "st"
        refine gIdx (b25.hp.lst (a := Wn) (vs := wvv) (by walk_at "mem")) (by omega) (by omega) (v := .str (wS pw) tw) (by rw [← htw]; congr 1; omega) (by kernel_rfl!) ?_
        refine ⟨⟨tw, ?_⟩, _, _, rfl, Kp.rf⟩
        rw [if_pos q', List.getD_eq_getElem?_getD, hpw]; rfl
      · have q' : ¬ 0 < Hs.cnt E p := by have := of_decide_eq_false q; omega
        repeat' walk_at "st"
        refine ⟨?_, _, _, rfl, Kp.rf⟩
        rw [if_neg q']
        exact ⟨_, rfl⟩
      have b26 := b25.kp k26
      clear b25
      have hpl7 : (if 0 < Hs.cnt E p then Wd.getD (Hs.cnt E p - 1) [] else []).length ≤ 7 := by
        split
        · rename_i q
          obtain ⟨pw, hpw⟩ : ∃ u, Wd[Hs.cnt E p - 1]? = some u := ⟨_, List.getElem?_eq_getElem (by omega)⟩
          rw [List.getD_eq_getElem?_getD, hpw]
          exact hwd6 pw (List.mem_of_getElem? hpw)
        · simp
      have ewd : wS (if 0 < Hs.cnt E p then Wd.getD (Hs.cnt E p - 1) [] else []) ++ (⟨#[97 + lt cj]⟩ : Str) = wS (Hs.wordAt Wd (Hs.cnt E p) (lt cj)) := by
        unfold Hs.wordAt
        rw [wS_snoc]
      generalize hpre : (if 0 < Hs.cnt E p then Wd.getD (Hs.cnt E p - 1) [] else []) = pre at *
      repeat' walk_at "st"
      refine gIdxS (c := 97 + lt cj) (by omega) (by omega) (char_at ys j (lt cj) hyj (by omega)) (by kernel_rfl!) (fun _ _ => ?_)
      refine oCat (sz_line (by rw [wS_len]; show _ + 1 ≤ _; omega)) (fun _ _ => ?_)
      rw [ewd]
      repeat' walk_at "st"
      clear b26
      rename Bd _ _ _ _ _ => b26
      refine oInt hpl.1 (by omega) (fun _ _ => ?_)
      repeat' walk_at "st"
      refine ⟨b26.keep, ?_⟩
      obtain ⟨oL, HL, back⟩ := b26.out
      have plE : ∀ q, Pull (En, lst q) ((L, (· = oL)) :: [(I2, (· = o2)), (I, (· = o)), (Wn, lst wvv), (En, lst q), (Hd, lst hv), (241, (· = tabO lamP none))]) ((L, (· = oL)) :: [(I2, (· = o2)), (I, (· = o)), (Wn, lst wvv), (Hd, lst hv), (241, (· = tabO lamP none))]) := fun q => by walk_at "pull"
      refine use (put_ w prog (A.deeper _) mb _ _ _ _ _ _ _ W24 En evv (HL.perm (plE evv).perm) (by show A.depth + 1 < 980; exact dp hd) (by omega) (Hs.cnt E p) (by omega) _ _) (fun v h27 t27 xx => ?_)
      obtain ⟨ev, H27⟩ := xx
      subst ev
      have b27 := back _ _ _ (H27.perm (plE _).perm.symm)
      clear HL H27 back b26
      repeat' walk_at "st"
      refine ⟨b27.keep, ?_⟩
      obtain ⟨oL, HL, back⟩ := b27.out
      have plW : ∀ q r, Pull (Wn, lst q) ((L, (· = oL)) :: [(I2, (· = o2)), (I, (· = o)), (Wn, lst q), (En, lst r), (Hd, lst hv), (241, (· = tabO lamP none))]) ((L, (· = oL)) :: [(I2, (· = o2)), (I, (· = o)), (En, lst r), (Hd, lst hv), (241, (· = tabO lamP none))]) := fun q r => by walk_at "pull"
      refine use (put_ w prog (A.deeper _) mb _ _ _ _ _ _ _ W24 Wn wvv (HL.perm (plW wvv _).perm) (by show A.depth + 1 < 980; exact dp hd) (by omega) (Hs.cnt E p) (by omega) _ _) (fun v h28 t28 xx => ?_)
      obtain ⟨ev, H28⟩ := xx
      subst ev
      have b28 := back _ _ _ (H28.perm (plW _ _).perm.symm)
      clear HL H28 back b27
      repeat' walk_at "st"
      have b29 := b28.fg (l' := [(Str.ofString "script", .ref S), (Str.ofString "cells", .ref D3), (Str.ofString "x", .str (wS xs) tx), (Str.ofString "y", .str (wS ys) ty), (Str.ofString "table", .ref T), (Str.ofString "due", .ref Dd), (Str.ofString "ends", .ref En), (Str.ofString "words", .ref Wn), (Str.ofString "j", .int j tj)]) (by walk_at "sub")
      refine BEnd.nxt Kp.rf b29 ⟨_, _, putL E (Hs.cnt E p) p, putL Wd (Hs.cnt E p) (Hs.wordAt Wd (Hs.cnt E p) (lt cj)), rfl, rfl, ns_put nE _ _ _, ss_put sW _ _ _, ?_⟩
      rw [pg5]
      exact hSt'
    rintro g30 l30 M30 h30 t30 k30 ⟨evv2, wvv2, E2, Wd2, rfl, rfl, nE2, sW2, hSt2⟩ b30
    rw [lN] at hSt2
    have hEn2 := hSt2.stop (fun p hp => by rw [gyj]; exact plc_end xs (lt cj) p hp)
    have W30 := W23.up k30
    have hE2l : E2.length ≤ 6 := by
      have h1 := hEn2.len
      have h2 := Hs.T_ub xs ys
      have hb : ∀ i jj, Hs.T xs ys i jj ≤ i := by
        intro i
        induction i with
        | zero => intro jj; rw [Hs.T_i0]; exact Nat.le_refl _
        | succ i ih => intro jj; have := (Hs.T_i xs ys i jj).2; have := ih jj; omega
      have := hb xs.length (j + 1)
      omega
    repeat' walk_at "st"
    refine sFor (fun _ => rfl) ?_
    repeat' walk_at "st"
    refine oLenS (sz_line (by rw [wS_len]; omega)) (fun _ _ => ?_)
    repeat' walk_at "st"
    rw [wS_len, show ((xs.length : Int) + 1) = ((xs.length + 1 : Nat) : Int) by omega]
    refine oRange1 (fun r3 h31 t31 t0a u0a v0a k31 hr3 => ?_)
    have b31 := b30.kp k31
    clear b30
    have ilR30 := ilR.up (k1.tr (k23.tr k30))
    have rR30 := rR.up (k1.tr (k23.tr k30))
    have rRl := rR.len
    rw [rowsT, List.length_map, List.length_range] at rRl
    refine fRange hh b31 hr3 (n := xs.length + 1) (rng_ok _ (by omega)).1 (rng_ok _ (by omega)).2 (by kernel_rfl!) rfl
      (fun i g2 l2 M2 => M2 = [(I, (· = o)), (Wn, lst wvv2), (En, lst evv2), (Hd, lst hv), (241, (· = tabO lamP none))] ∧ l2 = [(Str.ofString "script", .ref S), (Str.ofString "cells", .ref D3), (Str.ofString "x", .str (wS xs) tx), (Str.ofString "y", .str (wS ys) ty), (Str.ofString "table", .ref T), (Str.ofString "due", .ref Dd), (Str.ofString "ends", .ref En), (Str.ofString "words", .ref Wn), (Str.ofString "j", .int j tj)]) ⟨rfl, rfl⟩ ?_ ?_
    · rintro i ti g2 l2 M2 h32 t32 I2 o2 hi2 k2' ⟨rfl, rfl⟩ hb
      have b32 := hb _ (by walk_at "sto")
      clear hb
      rw [show ((0 : Int) + (i : Int) * 1) = (i : Int) by omega] at b32
      have W32 := W30.up k2'
      have hix : i ≤ xs.length := by omega
      obtain ⟨Di, ui, evi, ili, nsi⟩ := (rR30.up k2').at_ (rows_at (rowT xs ys) xs.length i hix)
      obtain ⟨td, htd⟩ := NsAre.at_ nsi (i := j + 1) (rows_at (Hs.T xs ys i) ys.length (j + 1) (by omega))
      have ilR2 := ilR30.up k2'
      have hct := hEn2.ct i hix
      repeat' walk_at "st"
      refine wpAny_isTrue_BoolOp (wpAny_allTrue_Or_cons ?_)
      repeat' walk_at "st"
      refine ⟨b32.keep, ?_⟩
      obtain ⟨oL, HL, back⟩ := b32.out
      have plE : ∀ q, Pull (En, lst q) ((L, (· = oL)) :: [(I2, (· = o2)), (I, (· = o)), (Wn, lst wvv2), (En, lst q), (Hd, lst hv), (241, (· = tabO lamP none))]) ((L, (· = oL)) :: [(I2, (· = o2)), (I, (· = o)), (Wn, lst wvv2), (Hd, lst hv), (241, (· = tabO lamP none))]) := fun q => by walk_at "pull"
      refine use (bisLm w prog (A.deeper _) mb _ _ _ _ _ _ _ W32 En evv2 E2 (HL.perm (plE evv2).perm) hh (by show A.depth + 1 < 900; exact dp hd) nE2 hEn2.up (by omega) i _) (fun v h33 t33 xx => ?_)
      obtain ⟨ts, ev, H33⟩ := xx
      subst ev
      have b33 := back _ _ _ (H33.perm (plE evv2).perm.symm)
      clear HL H33 back b32
      rw [hct]
      repeat' walk_at "st"
      refine gIdx (ilR2.up b33.keep) (by omega) (by omega) (v := .ref Di) (by simpa using evi) (by kernel_rfl!) ?_
      repeat' walk_at "st"
      refine gIdx (ili.up b33.keep) (by omega) (by omega) (v := .int (Hs.T xs ys i (j + 1) : Nat) td) (by rw [← htd]; congr 1) (by kernel_rfl!) ?_
      repeat' walk_at "st"
      rw [bne_self_eq_false]
      refine iteF ?_
      refine wpAny_allTrue_Or_cons ?_
      repeat' walk_at "st"
      refine ⟨b33.keep, ?_⟩
      obtain ⟨oL, HL, back⟩ := b33.out
      have plE : ∀ q, Pull (En, lst q) ((L, (· = oL)) :: [(I2, (· = o2)), (I, (· = o)), (Wn, lst wvv2), (En, lst q), (Hd, lst hv), (241, (· = tabO lamP none))]) ((L, (· = oL)) :: [(I2, (· = o2)), (I, (· = o)), (Wn, lst wvv2), (Hd, lst hv), (241, (· = tabO lamP none))]) := fun q => by walk_at "pull"
      refine use (bisRm w prog (A.deeper _) mb _ _ _ _ _ _ _ W32 En evv2 E2 (HL.perm (plE evv2).perm) hh (by show A.depth + 1 < 900; exact dp hd) nE2 hEn2.up (by omega) i _) (fun v h34 t34 xx => ?_)
      obtain ⟨ts2, ev, H34⟩ := xx
      subst ev
      have b34 := back _ _ _ (H34.perm (plE evv2).perm.symm)
      clear HL H34 back b33
      rw [hct]
      repeat' walk_at "st"
      refine gIdx (ilR2.up b34.keep) (by omega) (by omega) (v := .ref Di) (by simpa using evi) (by kernel_rfl!) ?_
      repeat' walk_at "st"
      refine gIdx (ili.up b34.keep) (by omega) (by omega) (v := .int (Hs.T xs ys i (j + 1) : Nat) td) (by rw [← htd]; congr 1) (by kernel_rfl!) ?_
      repeat' walk_at "st"
      rw [bne_self_eq_false]
      refine iteF ?_
      refine wpAny_allTrue_Or_nil ?_
      refine iteF ?_
      repeat' walk_at "st"
      have b35 := b34.fg (l' := [(Str.ofString "script", .ref S), (Str.ofString "cells", .ref D3), (Str.ofString "x", .str (wS xs) tx), (Str.ofString "y", .str (wS ys) ty), (Str.ofString "table", .ref T), (Str.ofString "due", .ref Dd), (Str.ofString "ends", .ref En), (Str.ofString "words", .ref Wn), (Str.ofString "j", .int j tj)]) (by walk_at "sub")
      exact BEnd.nxt Kp.rf b35 ⟨rfl, rfl⟩
    rintro g36 l36 M36 h36 t36 k36 ⟨rfl, rfl⟩ b36
    repeat' walk_at "st"
    have b37 := b36.fg (l' := [(Str.ofString "script", .ref S), (Str.ofString "cells", .ref D3), (Str.ofString "x", .str (wS xs) tx), (Str.ofString "y", .str (wS ys) ty), (Str.ofString "table", .ref T), (Str.ofString "due", .ref Dd), (Str.ofString "ends", .ref En), (Str.ofString "words", .ref Wn)]) (by walk_at "sub")
    exact BEnd.nxt (k23.tr (k30.tr k36)) b37 ⟨_, _, E2, Wd2, rfl, rfl, nE2, sW2, hEn2⟩
  rintro g40 l40 M40 h40 t40 k40 ⟨evv, wvv, E, Wd, rfl, rfl, nE, sW, hEn⟩ b40
  obtain ⟨g41, k41, b41, iWn⟩ := b40.fix
  obtain ⟨g42, k42, b42, iEn⟩ := b41.fix
  have iWn : IsL g42 Wn wvv := IsL.up iWn k42
  have iEn : IsL g42 En evv := iEn
  clear b40 b41
  have W42 := W17.up (k40.tr (k41.tr k42))
  have La42 := La17.up (k40.tr (k41.tr k42))
  have hHeld := hEn.held (by omega)
  obtain ⟨a0, ha0, hl0⟩ := c8
  obtain ⟨b0', hb0, hm0⟩ := c9
  have hpos := hEn.pos 0 (by rw [← hxs]; exact List.mem_map.mpr ⟨a0, ha0, hl0⟩) (by rw [← hys]; exact List.mem_map.mpr ⟨b0', hb0, hm0⟩)
  have hwl := hEn.wl
  have hfew := hHeld.few
  have lW := SS.len sW
  rw [List.length_map] at lW
  repeat' walk_at "st"
  refine xAnd ?_
  repeat' walk_at "st"
  refine ⟨b42.keep, ?_⟩
  obtain ⟨oL, HL, back⟩ := b42.out
  have plP : ∀ s, Pull (241, (· = tabO lamP s)) ((L, (· = oL)) :: [(Hd, lst hv), (241, (· = tabO lamP s))]) ((L, (· = oL)) :: [(Hd, lst hv)]) := fun s => by walk_at "pull"
  refine use (hold_ w prog (A.deeper _) mb mg _ _ _ _ _ _ _ W42 La42 none (fun c e => by cases e) (HL.perm (plP none).perm) hh (by show A.depth + 1 < 750; exact dp hd) xs ys E Wd En Wn evv wvv iEn iWn nE sW hHeld _ _) (fun v h43 t43 xx => ?_)
  obtain ⟨ev, g43, st43, k43, H43, _⟩ := xx
  subst ev
  have b43 := back _ _ _ (H43.perm (plP st43).perm.symm)
  clear HL H43 back b42
  have W43 := W42.up k43
  repeat' walk_at "st"
  refine iteT ?_
  refine xOne ?_
  repeat' walk_at "st"
  obtain ⟨u, hu⟩ : ∃ u, Wd[Wd.length - 1]? = some u := ⟨_, List.getElem?_eq_getElem (by omega)⟩
  obtain ⟨tu, htu⟩ := SS.at' sW (i := Wd.length - 1) (y := wS u) (by rw [List.getElem?_map, hu]; rfl)
  have hul : u.length ≤ 6 := by
    obtain ⟨e, he⟩ : ∃ e, E[Wd.length - 1]? = some e := ⟨_, List.getElem?_eq_getElem (by omega)⟩
    have := (hEn.wd _ e u he hu).1
    have := hHeld.few
    omega
  refine gIdxN ((iWn.up k43).up b43.keep) (by decide) (by omega) (by omega) (v := .str (wS u) tu) (by rw [← htu]; congr 1; omega) (by kernel_rfl!) ?_
  repeat' walk_at "st"
  refine ⟨b43.keep, ?_⟩
  obtain ⟨oL, HL, back⟩ := b43.out
  refine use (none_ w prog (A.deeper _) mb _ _ _ _ _ _ _ W43 HL hh (by show A.depth + 1 < 850; exact dp hd) u xs ys hul (by omega) (by omega) (fun k _ c _ => hEn.none hu k c) _ _ _) (fun v h44 t44 xx => ?_)
  obtain ⟨ev, g44, k44, H44⟩ := xx
  subst ev
  have b44 := back _ _ _ H44
  clear HL H44 back b43
  obtain ⟨⟨oT, eT, hT⟩, _⟩ := b44.hp.mu (241, (· = tabO lamP st43)) (by walk_at "mem")
  refine DoneF.ret ⟨rfl, ?_, st43, by rw [eT, hT]⟩
  exact ((((k5.tr (kE2.tr kE3)).tr k10).tr (k16.tr k17)).tr ((k40.tr (k41.tr k42)).tr (k43.tr k44))).tr b44.keep
set_option maxHeartbeats 4000000 in
theorem top_ : PySem.Challenge.rw_pg0293_01.Holds := Mine.hd (by
  intro w s₀ s₁ mg mb G Y fa o pm cd doc dV kV ho hd hcd hD hmg hg args vals as hpre hlay hrd hwl hlo
  have KX : (KK w).In s₁.heap := Y.1
  have hT := G.T
  have W : Wld (KK w) mb s₁.heap := ⟨KX, hT.nolimit, ⟨mg, hT.g⟩, hT.b, hT.builtins⟩
  have hmg' : mg (Str.ofString "law") = some (.ref fa) := hmg
  have hfa : fa = 265 := by
    have e := mg_of (n := Str.ofString "law") (v := .ref 265) KX hT.g (by kernel_rfl!)
    have := hmg'.symm.trans e
    cases this; rfl
  obtain ⟨hC, hP0⟩ := tab_of (x := Str.ofString "_law_first_front") hT KX rfl (show tabIn (KK w) (Str.ofString "_law_first_front") = some (245, 241) by kernel_rfl!)
  subst hfa
  have hb := hT.builtins
  have hg0 := hT.g
  have hb0 := hT.b
  have hn0 := hT.nolimit
  have hm0 := hT.bmain
  clear W hT hcd ho hd hmg hmg' hD G Y
  wrow_args hpre hlay hrd hwl hlo
  all_goals (first | refine callC_kw (enter_call ?_) | refine enter_call ?_ | refine callC_kw (enter_callW ?_) | refine enter_callW ?_ | w_how)
  have hTab : TabsAt [(245, 241)] s₁.heap := fun q hq => by rw [List.mem_singleton] at hq; subst hq; exact ⟨hC, hP0⟩
  refine kn_post hTab (fun _ _ => rfl) ?_
  rename Heap.IsList _ _ _ => hL
  rename IntsAre _ _ => hI
  obtain ⟨h, gs, dr, tk, os⟩ := s₁
  have hg : gs = #[] := hg
  subst hg
  have W : Wld (KK w) mb (ghostOf h [(245, 241)]) := ⟨ghost_K hTab KX (by kernel_rfl!), let ⟨mc, a, r⟩ := hn0; ⟨mc, ghost_ns hTab a, r⟩, ⟨mg, ghost_ns hTab hg0⟩, ghost_ns hTab hb0, hb⟩
  have La : Lam (ghostOf h [(245, 241)]) 245 241 mg := ⟨(ghost_code hTab).1, ghost_ns hTab hg0, let ⟨bm, ob, a1, a2, a3, a4, a5, a6⟩ := hm0; ⟨bm, ob, a1, a2, ghost_get hTab a3 (fun q => by rw [q] at a4; cases a4), a4, a5, a6⟩⟩
  have H : Hp (ghostOf h [(245, 241)]) [(241, (· = tabO lamP none))] h := ⟨fun a o e => of_hideAll _ e, (fun p hp => by rw [List.mem_singleton] at hp; subst hp; exact ⟨⟨_, hP0, rfl⟩, hideAll_none _ (by simp)⟩), by simp⟩
  refine codeAny_mono (law_ w _ callerA mb mg _ h #[] dr tk os W La H rfl (by decide) _ _ _ (ghost_list hTab hL) hI (by omega)) ?_
  rintro r s' ⟨v, rfl, h', tk', rfl, rfl, hk, st, hst⟩
  refine ⟨⟨.inl ⟨_, .bool true, [], rfl, fun _ => rfl, ?_, ?_, ?_⟩, hk, rfl, rfl⟩, ?_, trivial⟩
  · first | exact ReadsW.bool | exact .bool _ | constructor
  · first | rfl | kernel_rfl! | simp [ofPy]
  · exact fun _ => ⟨List.nodup_nil, fun a ha => nomatch ha⟩
  · cases st with
    | none => exact ⟨_, hst⟩
    | some c => exact ⟨_, hst⟩)
end Mine
set_option maxRecDepth 100000 in
set_option maxHeartbeats 8000000 in
theorem PySem.Challenge.cw_pg0293_01_holds : PySem.Challenge.rw_pg0293_01.Holds := by
  exact Mine.top_
