import PyProof.Rows.All
import Wide.All
import OpenK.AllK
import Wide.FinOn
import PySem.Challenge.RW_sw0024_01
open PySem PySem.W PyProof.Rows
set_option Elab.async false
set_option linter.unusedVariables false
set_option maxRecDepth 100000
namespace Mine
theorem len1 {α : Type} {l : List α} (h : l.length = 1) : ∃ x, l = [x] := by
  match l, h with
  | [x], _ => exact ⟨x, rfl⟩
theorem len2 {α : Type} {l : List α} (h : l.length = 2) : ∃ x y, l = [x, y] := by
  match l, h with
  | [x, y], _ => exact ⟨x, y, rfl⟩
theorem len3 {α : Type} {l : List α} (h : l.length = 3) : ∃ x y z, l = [x, y, z] := by
  match l, h with
  | [x, y, z], _ => exact ⟨x, y, z, rfl⟩
end Mine

namespace Mine
noncomputable abbrev hsz (s : Shared) : Nat := s.heap.objs.size
theorem runs_size {M : Model} {Γ : Ctx} {p : Pos} {t : Sem Fin} {fs : List Frame} {s s' : Shared} {e : End} (h : Runs M Γ p t fs s e s') : hsz s ≤ hsz s' := by
  induction h <;> (try simp only [Shared.setGen, hsz, Heap.size_push, Heap.size_after_update] at *) <;> omega
theorem returns_size {M : Model} {Γ : Ctx} {p : Pos} {s s' : Shared} {r : Result} (h : Returns M Γ p s r s') : hsz s ≤ hsz s' := runs_size h
theorem wakes_size {M : Model} {Γ : Ctx} {p : Pos} {g : Nat} {r : Resume} {s s' : Shared} {res : GenResult} (h : Wakes M Γ p g r s res s') : hsz s ≤ hsz s' := by
  unfold Wakes at h
  split at h
  · exact h.elim
  · split at h
    · obtain ⟨e₁, s₁, hr, _, _, rfl⟩ := h; exact (runs_size hr : hsz (s.setGen g .running) ≤ hsz s₁)
    · rw [h.2]; exact Nat.le_refl _
    · rw [h.2]; exact Nat.le_refl _
  · obtain ⟨e₁, s₁, hr, _, _, rfl⟩ := h; exact (runs_size hr : hsz (s.setGen g .running) ≤ hsz s₁)
  · rw [h.2]; exact Nat.le_refl _
  · rw [h.2]; exact Nat.le_refl _

theorem wp_size {α : Type} (M : Model) (Γ : Ctx) (n : Nat) (t : Sem α) : ∀ (Q : α → Pos → Shared → Prop) (E : Value → Pos → Shared → Prop) (p : Pos) (s : Shared), n ≤ hsz s → Sem.wp M Γ t Q E p s →
    Sem.wp M Γ t (fun a p' s' => n ≤ hsz s' ∧ Q a p' s') (fun e p' s' => n ≤ hsz s' ∧ E e p' s') p s := by
  induction t with
  | pure a => intro Q E p s hn h; exact ⟨hn, h⟩
  | raise e => intro Q E p s hn h; exact ⟨hn, h⟩
  | unsupported _ => intro Q E p s _ h; exact h
  | finish _ => intro Q E p s _ h; exact h
  | rule _ k ih => intro Q E p s hn h; exact ih () Q E p s hn h
  | «at» p' k ih => intro Q E p s hn h; exact ih () Q E p' s hn h
  | load a _ k ih => intro Q E p s hn h; obtain ⟨o, ho, h⟩ := h; exact ⟨o, ho, ih o Q E p s hn h⟩
  | update a _ f k ih => intro Q E p s hn h; exact ⟨h.1, ih () Q E p _ (by show n ≤ (s.heap.update a f).objs.size; rw [Heap.size_after_update]; exact hn) h.2⟩
  | loadIfAlive a k ih => intro Q E p s hn h; exact ih _ Q E p s hn h
  | point _ k ih => intro Q E p s hn h; exact ih () Q E p s hn h
  | register _ _ => intro Q E p s _ h; exact h
  | alloc o k ih => intro Q E p s hn h; exact ih _ Q E p _ (by show n ≤ (s.heap.push o).objs.size; rw [Heap.size_push]; exact Nat.le_succ_of_le hn) h
  | fresh k ih => intro Q E p s hn h; exact ih _ Q E p _ hn h
  | ask k ih => intro Q E p s hn h; exact ih _ Q E p s hn h
  | choose src m k ih => intro Q E p s hn h; exact ⟨h.1, ih _ Q E p _ hn h.2⟩
  | os q _ k ih => intro Q E p s hn h; exact ih _ Q E p _ hn h
  | call c hd _ _ k ih => intro Q E p s hn h; obtain ⟨r, s', hr, h⟩ := h; exact ⟨r, s', hr, ih r Q E p s' (Nat.le_trans hn (returns_size hr)) h⟩
  | handled own k ih => intro Q E p s hn h; exact ih _ Q E p s hn h
  | genState g k ih => intro Q E p s hn h; obtain ⟨st, hs, h⟩ := h; exact ⟨st, hs, ih _ Q E p s hn h⟩
  | newGen c k ih => intro Q E p s hn h; exact ih _ Q E p _ hn h
  | resume g r _ k ih => intro Q E p s hn h; obtain ⟨res, s', hw, h⟩ := h; exact ⟨res, s', hw, ih res Q E p s' (Nat.le_trans hn (wakes_size hw)) h⟩
  | yield _ _ _ _ => intro Q E p s _ h; exact h
  | stack k ih => intro Q E p s hn h; exact ih _ Q E p s hn h
  | fork _ _ => intro Q E p s _ h; exact h
  | thread k ih => intro Q E p s hn h; exact ih _ Q E p s hn h
  | await _ _ _ _ _ => intro Q E p s _ h; exact h

theorem wpAny_gr {α : Type} {M : Model} {A : Around} {E : Value → Shared → Prop} {s : Shared} {t : Sem α} {Q : α → Shared → Prop}
    (h : wpAny M A t (fun a s' => s.toks ≤ s'.toks → hsz s ≤ hsz s' → Q a s') (fun e s' => s.toks ≤ s'.toks → hsz s ≤ hsz s' → E e s') s) : wpAny M A t Q E s := by
  refine wpAny_with_toks (Nat.le_refl _) ?_
  refine wpAny_mono (Q := fun a s' => hsz s ≤ hsz s' ∧ (s.toks ≤ s'.toks → hsz s ≤ hsz s' → Q a s')) (E := fun e s' => hsz s ≤ hsz s' ∧ (s.toks ≤ s'.toks → hsz s ≤ hsz s' → E e s')) ?_ (fun _ _ x k => x.2 k x.1) (fun _ _ x k => x.2 k x.1)
  exact fun Γ p hΓ => wp_size M Γ (hsz s) t _ _ p s (Nat.le_refl _) (h Γ p hΓ)
end Mine

namespace Mine

inductive D where
  | none
  | bool (b : Bool)
  | int (i : Int)
  | str (l : List Nat)
  | chr (l : List Nat)
  | tup (xs : List D)
  | lst (xs : List D)
  | obj (a : Addr)
  | typ (T : String)
  | sval (l : List Nat) (t : Tok)

noncomputable abbrev LstAt (h : Heap) (a : Addr) (vs : Array Value) : Prop := ∃ n, h.get? a = some { cls := .type "list", data := .seq vs n }
noncomputable abbrev TupAt (h : Heap) (a : Addr) (vs : Array Value) : Prop := ∃ n, h.get? a = some { cls := .type "tuple", data := .seq vs n }

mutual
noncomputable def VR (P : Addr → Prop) (k : Nat) (h : Heap) : D → Value → Prop
  | .none, v => v = .none
  | .bool b, v => v = .bool b
  | .int i, v => ∃ t, v = .int i t
  | .str l, v => ∃ t, v = .str ⟨l.toArray⟩ t
  | .chr l, v => ∃ t, v = .str ⟨l.toArray⟩ t ∧ 0 < t ∧ t < k
  | .tup xs, v => ∃ a vs, v = .ref a ∧ P a ∧ TupAt h a vs ∧ VRs P k h xs vs.toList
  | .lst xs, v => ∃ a vs, v = .ref a ∧ P a ∧ LstAt h a vs ∧ VRs P k h xs vs.toList
  | .obj a, v => v = .ref a
  | .typ T, v => v = .type T
  | .sval l t, v => v = .str ⟨l.toArray⟩ t
noncomputable def VRs (P : Addr → Prop) (k : Nat) (h : Heap) : List D → List Value → Prop
  | [], vs => vs = []
  | d :: ds, vs => ∃ v vs', vs = v :: vs' ∧ VR P k h d v ∧ VRs P k h ds vs'
end

section
variable {P P' : Addr → Prop} {k k' : Nat} {h h' : Heap}
noncomputable def Seqy (o : Obj) : Prop := (o.cls = .type "list" ∨ o.cls = .type "tuple") ∧ ∃ vs n, o.data = .seq vs n
mutual
theorem VR.monoC (hkk : k ≤ k') (hk : ∀ a o, P a → h.get? a = some o → Seqy o → P' a ∧ h'.get? a = some o) : ∀ {d : D} {v : Value}, VR P k h d v → VR P' k' h' d v
  | .none, _, x => x
  | .bool _, _, x => x
  | .int _, _, x => x
  | .str _, _, x => x
  | .chr _, _, x => by
    obtain ⟨t, e, a, b⟩ := x
    exact ⟨t, e, a, Nat.lt_of_lt_of_le b hkk⟩
  | .obj _, _, x => x
  | .typ _, _, x => x
  | .sval _ _, _, x => x
  | .tup _, _, x => by
    obtain ⟨a, vs, e, hp, ⟨n, g⟩, r⟩ := x
    exact ⟨a, vs, e, (hk a _ hp g ⟨.inr rfl, _, _, rfl⟩).1, ⟨n, (hk a _ hp g ⟨.inr rfl, _, _, rfl⟩).2⟩, VRs.monoC hkk hk r⟩
  | .lst _, _, x => by
    obtain ⟨a, vs, e, hp, ⟨n, g⟩, r⟩ := x
    exact ⟨a, vs, e, (hk a _ hp g ⟨.inl rfl, _, _, rfl⟩).1, ⟨n, (hk a _ hp g ⟨.inl rfl, _, _, rfl⟩).2⟩, VRs.monoC hkk hk r⟩
theorem VRs.monoC (hkk : k ≤ k') (hk : ∀ a o, P a → h.get? a = some o → Seqy o → P' a ∧ h'.get? a = some o) : ∀ {ds : List D} {vs : List Value}, VRs P k h ds vs → VRs P' k' h' ds vs
  | [], _, x => x
  | _ :: _, _, x => by
    obtain ⟨v, vs', e, a, b⟩ := x
    exact ⟨v, vs', e, VR.monoC hkk hk a, VRs.monoC hkk hk b⟩
end
theorem VR.mono (hkk : k ≤ k') (hk : ∀ a o, P a → h.get? a = some o → P' a ∧ h'.get? a = some o) {d : D} {v : Value} (x : VR P k h d v) : VR P' k' h' d v := VR.monoC hkk (fun a o p e _ => hk a o p e) x
theorem VRs.mono (hkk : k ≤ k') (hk : ∀ a o, P a → h.get? a = some o → P' a ∧ h'.get? a = some o) {ds : List D} {vs : List Value} (x : VRs P k h ds vs) : VRs P' k' h' ds vs := VRs.monoC hkk (fun a o p e _ => hk a o p e) x
theorem VRs.length : ∀ {ds : List D} {vs : List Value}, VRs P k h ds vs → vs.length = ds.length
  | [], _, x => by cases x; rfl
  | _ :: _, _, x => by obtain ⟨v, vs', rfl, _, b⟩ := x; simp [VRs.length b]
theorem VRs.get : ∀ {ds : List D} {vs : List Value} {i : Nat} {d : D}, VRs P k h ds vs → ds[i]? = some d → ∃ v, vs[i]? = some v ∧ VR P k h d v
  | [], _, _, _, _, e => by simp at e
  | d :: ds, _, 0, d', x, e => by
    obtain ⟨v, vs', rfl, a, b⟩ := x
    simp at e; subst e; exact ⟨v, rfl, a⟩
  | d :: ds, _, i + 1, d', x, e => by
    obtain ⟨v, vs', rfl, a, b⟩ := x
    simp at e
    obtain ⟨u, hu, r⟩ := VRs.get b e
    exact ⟨u, by simpa using hu, r⟩
theorem VRs.append : ∀ {ds es : List D} {vs us : List Value}, VRs P k h ds vs → VRs P k h es us → VRs P k h (ds ++ es) (vs ++ us)
  | [], _, _, _, x, y => by cases x; exact y
  | d :: ds, _, _, _, x, y => by
    obtain ⟨v, vs', rfl, a, b⟩ := x
    exact ⟨v, vs' ++ _, rfl, a, VRs.append b y⟩
theorem VRs.nil : VRs P k h [] [] := rfl
theorem VRs.one {d : D} {v : Value} (x : VR P k h d v) : VRs P k h [d] [v] := ⟨v, [], rfl, x, rfl⟩
theorem VRs.cons {d : D} {v : Value} {ds : List D} {vs : List Value} (x : VR P k h d v) (y : VRs P k h ds vs) : VRs P k h (d :: ds) (v :: vs) := ⟨v, vs, rfl, x, y⟩
theorem VRs.set : ∀ {ds : List D} {vs : List Value} {i : Nat} {d : D} {v : Value}, VRs P k h ds vs → VR P k h d v → VRs P k h (ds.set i d) (vs.set i v)
  | [], _, _, _, _, x, _ => by cases x; exact VRs.nil
  | d :: ds, _, 0, d', v', x, y => by
    obtain ⟨v, vs', rfl, a, b⟩ := x
    exact VRs.cons y b
  | d :: ds, _, i + 1, d', v', x, y => by
    obtain ⟨v, vs', rfl, a, b⟩ := x
    exact VRs.cons a (VRs.set b y)
theorem VRs.take : ∀ {ds : List D} {vs : List Value} (i : Nat), VRs P k h ds vs → VRs P k h (ds.take i) (vs.take i)
  | [], _, i, x => by cases x; simp; exact VRs.nil
  | d :: ds, _, 0, x => by simp; exact VRs.nil
  | d :: ds, _, i + 1, x => by
    obtain ⟨v, vs', rfl, a, b⟩ := x
    exact VRs.cons a (VRs.take i b)
theorem VRs.drop : ∀ {ds : List D} {vs : List Value} (i : Nat), VRs P k h ds vs → VRs P k h (ds.drop i) (vs.drop i)
  | [], _, i, x => by cases x; simp; exact VRs.nil
  | d :: ds, _, 0, x => x
  | d :: ds, _, i + 1, x => by
    obtain ⟨v, vs', rfl, a, b⟩ := x
    exact VRs.drop i b
end

structure Glob (prog : Program) (w : World) where
  G : Heap → Prop
  n₀ : Nat
  ex : List Addr
  mono : ∀ {h h' : Heap}, G h → (∀ b o, (b < n₀ ∧ b ∉ ex) → h.get? b = some o → h'.get? b = some o) → h.objs.size ≤ h'.objs.size → G h'
  big : ∀ {h : Heap}, G h → n₀ ≤ h.objs.size
  mg : Str → Option Value
  mb : Str → Option Value
  nsg : ∀ {h : Heap}, G h → h.Ns mainGlobals mg
  nsb : ∀ {h : Heap}, G h → h.Ns builtinsNs mb
  lim : ∀ {h : Heap}, G h → h.NoLimit

noncomputable def Glob.Base {prog : Program} {w : World} (W : Glob prog w) (b : Addr) : Prop := b < W.n₀ ∧ b ∉ W.ex
theorem Glob.nb {prog : Program} {w : World} (W : Glob prog w) {b : Addr} (h : W.n₀ ≤ b) : ¬ W.Base b := fun q => Nat.lt_irrefl _ (Nat.lt_of_lt_of_le q.1 h)

inductive MC where
  | list (xs : List D)
  | raw (o : Obj)
  | dct (l : List (Str × D))
  | cell (d : D)

noncomputable def VRd (P : Addr → Prop) (k : Nat) (h : Heap) : List (Str × D) → List DictEntry → Prop
  | [], es => es = []
  | (x, d) :: l, es => ∃ hs t v es', es = ⟨hs, .str x t, v⟩ :: es' ∧ VR P k h d v ∧ VRd P k h l es'
theorem VRd.monoC {P P' : Addr → Prop} {k k' : Nat} {h h' : Heap} (hkk : k ≤ k') (hk : ∀ a o, P a → h.get? a = some o → Seqy o → P' a ∧ h'.get? a = some o) : ∀ {l : List (Str × D)} {es : List DictEntry}, VRd P k h l es → VRd P' k' h' l es
  | [], _, x => x
  | (_, _) :: _, _, x => by
    obtain ⟨hs, t, v, es', e, a, b⟩ := x
    exact ⟨hs, t, v, es', e, a.monoC hkk hk, VRd.monoC hkk hk b⟩

noncomputable def CR (P : Addr → Prop) (k : Nat) (h : Heap) (a : Addr) : MC → Prop
  | .list xs => ∃ vs, LstAt h a vs ∧ VRs P k h xs vs.toList
  | .raw o => h.get? a = some o
  | .dct l => ∃ es n, h.get? a = some (PySem.W.dictOf es n) ∧ VRd P k h l es
  | .cell d => ∃ v, h.IsCell a (some v) ∧ VR P k h d v

theorem CR.monoC {P P' : Addr → Prop} {k k' : Nat} {h h' : Heap} {a : Addr} (hkk : k ≤ k') (hk : ∀ a o, P a → h.get? a = some o → Seqy o → P' a ∧ h'.get? a = some o) (ha : ∀ o, h.get? a = some o → h'.get? a = some o) : ∀ {c : MC}, CR P k h a c → CR P' k' h' a c
  | .list _, x => by
    obtain ⟨vs, ⟨n, g⟩, r⟩ := x
    exact ⟨vs, ⟨n, ha _ g⟩, VRs.monoC hkk hk r⟩
  | .raw o, x => ha _ x
  | .dct l, x => by
    obtain ⟨es, n, g, r⟩ := x
    exact ⟨es, n, ha _ g, r.monoC hkk hk⟩
  | .cell d, x => by
    obtain ⟨v, ⟨o, g, e⟩, r⟩ := x
    exact ⟨v, ⟨o, ha _ g, e⟩, r.monoC hkk hk⟩
theorem CR.mono {P P' : Addr → Prop} {k k' : Nat} {h h' : Heap} {a : Addr} (hkk : k ≤ k') (hk : ∀ a o, P a → h.get? a = some o → P' a ∧ h'.get? a = some o) (ha : ∀ o, h.get? a = some o → h'.get? a = some o) {c : MC} (x : CR P k h a c) : CR P' k' h' a c := CR.monoC hkk (fun a o p e _ => hk a o p e) ha x

noncomputable abbrev Sg := Str → Option D
noncomputable abbrev Mu := List (Addr × MC)

structure Act where
  A : Around
  env : Env
  P : Addr → Prop
  bsz : Nat
  oth : List Addr

noncomputable def Act.fix (C : Act) : List Addr := C.env.locals :: C.oth
noncomputable def Act.mut (C : Act) (μ : Mu) : List Addr := C.fix ++ μ.map (·.1)
noncomputable def Act.D (C : Act) (μ : Mu) (a : Addr) : Prop := (C.P a ∨ C.bsz ≤ a) ∧ a ∉ C.mut μ

structure Act.Ok (C : Act) : Prop where
  kind : C.env.scope.kind = .function
  hand : C.A.handled = none
  glob : C.env.globals = mainGlobals
  blt : C.env.builtins = builtinsNs
  cell : ∀ x c, C.env.cells.lookup x = some c → c ∈ C.oth
  inj : ∀ x y c, C.env.cells.lookup x = some c → C.env.cells.lookup y = some c → x = y
  room : C.A.depth < recursionLimit
  units : C.A.units < cLine

noncomputable def isCellKind (k : Option NameKind) : Prop := k = some .cell ∨ k = some .free

structure Rep {prog : Program} {w : World} (W : Glob prog w) (C : Act) (σ : Sg) (μ : Mu) (s : Shared) : Prop where
  top : W.G s.heap
  size : C.bsz ≤ s.heap.objs.size
  loc : ∃ m, s.heap.Ns C.env.locals m ∧ ∀ x d, σ x = some d → C.env.kindOf x = some .local → ∃ v, m x = some v ∧ VR (C.D μ) s.toks s.heap d v
  cell : ∀ x c, C.env.cells.lookup x = some c → isCellKind (C.env.kindOf x) → ∃ v, s.heap.IsCell c v ∧ ∀ d, σ x = some d → ∃ v', v = some v' ∧ VR (C.D μ) s.toks s.heap d v'
  mem : ∀ p ∈ μ, CR (C.D μ) s.toks s.heap p.1 p.2
  nodup : (C.mut μ).Nodup
  low : ∀ a ∈ C.mut μ, ¬ W.Base a
  lt : ∀ a ∈ C.mut μ, a < s.heap.objs.size
  tpos : 0 < s.toks

structure Mv (M : List Addr) (s s' : Shared) : Prop where
  kept : ∀ b o, s.heap.get? b = some o → b ∉ M → s'.heap.get? b = some o
  size : s.heap.objs.size ≤ s'.heap.objs.size
  gens : s'.gens = s.gens
  drawn : s'.drawn = s.drawn
  os : s'.os = s.os
  toks : s.toks ≤ s'.toks

noncomputable abbrev Stp := Mv []

theorem Mv.refl (M : List Addr) (s : Shared) : Mv M s s := ⟨fun _ _ e _ => e, Nat.le_refl _, rfl, rfl, rfl, Nat.le_refl _⟩
theorem Mv.wk {M M' : List Addr} {s s' : Shared} (x : Mv M s s') (h : ∀ a ∈ M, a ∈ M') : Mv M' s s' := ⟨fun b o e hb => x.kept b o e fun z => hb (h _ z), x.size, x.gens, x.drawn, x.os, x.toks⟩
theorem Mv.trans {M : List Addr} {M' : List Addr} {s s' s'' : Shared} (x : Mv M s s') (y : Mv M' s' s'') (h : ∀ a ∈ M', a ∈ M ∨ s.heap.objs.size ≤ a) : Mv M s s'' :=
  ⟨fun b o e hb => y.kept b o (x.kept b o e hb) fun z => (h _ z).elim hb fun g => Nat.lt_irrefl _ (Nat.lt_of_lt_of_le (Heap.lt_size e) g), Nat.le_trans x.size y.size, y.gens.trans x.gens, y.drawn.trans x.drawn, y.os.trans x.os, Nat.le_trans x.toks y.toks⟩
theorem Stp.trans {s s' s'' : Shared} (x : Stp s s') (y : Stp s' s'') : Stp s s'' := Mv.trans x y fun _ h => (nomatch h)
theorem Stp.all {s s' : Shared} (x : Stp s s') : ∀ b o, s.heap.get? b = some o → s'.heap.get? b = some o := fun b o e => x.kept b o e (fun h => nomatch h)
theorem Stp.mk' {s s' : Shared} (hk : ∀ b o, s.heap.get? b = some o → s'.heap.get? b = some o) (hz : s.heap.objs.size ≤ s'.heap.objs.size) (g : s'.gens = s.gens := by rfl) (d : s'.drawn = s.drawn := by rfl) (o : s'.os = s.os := by rfl) (t : s.toks ≤ s'.toks := by first | exact Nat.le_refl _ | exact Nat.le_succ _ | (dsimp only; omega)) : Stp s s' := ⟨fun b o e _ => hk b o e, hz, g, d, o, t⟩
theorem Stp.tk {s : Shared} {tk : Nat} (h : s.toks ≤ tk) : Stp s { s with toks := tk } := ⟨fun _ _ e _ => e, Nat.le_refl _, rfl, rfl, rfl, h⟩
theorem Stp.push {s : Shared} (o : Obj) {tk : Nat} (h : s.toks ≤ tk) : Stp s { s with heap := s.heap.push o, toks := tk } := ⟨fun _ _ e _ => Heap.get?_push_of_some o e, by show _ ≤ (s.heap.push o).objs.size; rw [Heap.size_push]; omega, rfl, rfl, rfl, h⟩

section
variable {prog : Program} {w : World} {W : Glob prog w} {C : Act} {σ : Sg} {μ : Mu} {s s' : Shared}

theorem Act.D_new (C : Act) {μ : Mu} (R : Rep W C σ μ s) {a : Addr} (h : s.heap.objs.size ≤ a) : C.D μ a :=
  ⟨.inr (Nat.le_trans R.size h), fun hm => Nat.lt_irrefl _ (Nat.lt_of_lt_of_le (R.lt a hm) h)⟩

theorem VR.step {P : Addr → Prop} {d : D} {v : Value} (x : VR P s.toks s.heap d v) (y : Stp s s') : VR P s'.toks s'.heap d v := x.mono y.toks fun a o hp e => ⟨hp, y.all a o e⟩
theorem VRs.step {P : Addr → Prop} {ds : List D} {vs : List Value} (x : VRs P s.toks s.heap ds vs) (y : Stp s s') : VRs P s'.toks s'.heap ds vs := x.mono y.toks fun a o hp e => ⟨hp, y.all a o e⟩

theorem Rep.step (R : Rep W C σ μ s) (y : Stp s s') : Rep W C σ μ s' := by
  have up := y.all
  have hv : ∀ a o, C.D μ a → s.heap.get? a = some o → C.D μ a ∧ s'.heap.get? a = some o := fun a o p e => ⟨p, up a o e⟩
  refine ⟨W.mono R.top (fun b o _ e => up b o e) y.size, Nat.le_trans R.size y.size, ?_, ?_, fun p hp => (R.mem p hp).mono y.toks hv (fun o e => up _ o e), R.nodup, R.low, fun a ha => Nat.lt_of_lt_of_le (R.lt a ha) y.size, Nat.lt_of_lt_of_le R.tpos y.toks⟩
  · obtain ⟨m, hn, hm⟩ := R.loc
    exact ⟨m, hn.keeps up, fun x d e k => let ⟨v, hv', r⟩ := hm x d e k; ⟨v, hv', r.mono y.toks hv⟩⟩
  · intro x c hc hk
    obtain ⟨v, ⟨o, ho, hd⟩, r⟩ := R.cell x c hc hk
    exact ⟨v, ⟨o, up _ _ ho, hd⟩, fun d e => let ⟨v', e', r'⟩ := r d e; ⟨v', e', r'.mono y.toks hv⟩⟩

theorem Rep.but (hcell : ∀ x c, C.env.cells.lookup x = some c → c ∈ C.oth) (R : Rep W C σ μ s) {I : Addr} (hI : ∀ o, s.heap.get? I = some o → ¬ Seqy o) (hm : I ∉ C.mut μ) (hn : W.n₀ ≤ I) (hk : ∀ b o, b ≠ I → s.heap.get? b = some o → s'.heap.get? b = some o)
    (hz : s.heap.objs.size ≤ s'.heap.objs.size) (ht : s.toks ≤ s'.toks) : Rep W C σ μ s' := by
  have hv : ∀ a o, C.D μ a → s.heap.get? a = some o → Seqy o → C.D μ a ∧ s'.heap.get? a = some o := fun a o p e q => ⟨p, hk a o (fun z => hI o (z ▸ e) q) e⟩
  have up : ∀ a ∈ C.mut μ, ∀ o, s.heap.get? a = some o → s'.heap.get? a = some o := fun a ha o e => hk a o (fun z => hm (z ▸ ha)) e
  refine ⟨W.mono R.top (fun b o hb e => hk b o (fun z => W.nb hn (z ▸ hb)) e) hz, Nat.le_trans R.size hz, ?_, ?_, fun p hp => (R.mem p hp).monoC ht hv (fun o e => up _ (List.mem_append_right _ (List.mem_map_of_mem hp)) o e), R.nodup, R.low, fun a ha => Nat.lt_of_lt_of_le (R.lt a ha) hz, Nat.lt_of_lt_of_le R.tpos ht⟩
  · obtain ⟨m, ⟨o, es, ep, ho, r⟩, hm'⟩ := R.loc
    exact ⟨m, ⟨o, es, ep, up _ (List.mem_append_left _ List.mem_cons_self) _ ho, r⟩, fun x d e k => let ⟨v, hv', r⟩ := hm' x d e k; ⟨v, hv', r.monoC ht hv⟩⟩
  · intro x c hc hkx
    obtain ⟨v, ⟨o, ho, hd⟩, r⟩ := R.cell x c hc hkx
    refine ⟨v, ⟨o, up _ (List.mem_append_left _ (List.mem_cons_of_mem _ (hcell x c hc))) _ ho, hd⟩, fun d e => let ⟨v', e', r'⟩ := r d e; ⟨v', e', r'.monoC ht hv⟩⟩
end
end Mine

namespace Mine
section
variable {prog : Program} {w : World} {W : Glob prog w} {C : Act} {σ : Sg} {μ : Mu}

structure Ev {prog : Program} {w : World} (W : Glob prog w) (C : Act) (σ : Sg) (μ : Mu) (e : Expr) (d : D) : Prop where
  run : ∀ (s : Shared) (Q : Value → Shared → Prop) (E : Value → Shared → Prop), Rep W C σ μ s →
    (∀ v s', Stp s s' → VR (C.D μ) s'.toks s'.heap d v → Q v s') → wpAny (model prog w) C.A (eval e C.env) Q E s

structure Ts {prog : Program} {w : World} (W : Glob prog w) (C : Act) (σ : Sg) (μ : Mu) (e : Expr) (b : Bool) : Prop where
  run : ∀ (s : Shared) (Q : Bool → Shared → Prop) (E : Value → Shared → Prop), Rep W C σ μ s →
    (∀ s', Stp s s' → Q b s') → wpAny (model prog w) C.A (isTrue e C.env (eval e C.env)) Q E s

noncomputable def Op1 {prog : Program} {w : World} (W : Glob prog w) (C : Act) (σ : Sg) (μ : Mu) (t : Value → Sem Value) (d r : D) : Prop :=
  ∀ (s : Shared) (Q : Value → Shared → Prop) (E : Value → Shared → Prop) (v : Value), Rep W C σ μ s → VR (C.D μ) s.toks s.heap d v →
    (∀ v s', Stp s s' → VR (C.D μ) s'.toks s'.heap r v → Q v s') → wpAny (model prog w) C.A (t v) Q E s
noncomputable def Op2 {prog : Program} {w : World} (W : Glob prog w) (C : Act) (σ : Sg) (μ : Mu) (t : Value → Value → Sem Value) (d e r : D) : Prop :=
  ∀ (s : Shared) (Q : Value → Shared → Prop) (E : Value → Shared → Prop) (v u : Value), Rep W C σ μ s → VR (C.D μ) s.toks s.heap d v → VR (C.D μ) s.toks s.heap e u →
    (∀ v s', Stp s s' → VR (C.D μ) s'.toks s'.heap r v → Q v s') → wpAny (model prog w) C.A (t v u) Q E s
noncomputable def Tru {prog : Program} {w : World} (W : Glob prog w) (C : Act) (σ : Sg) (μ : Mu) (d : D) (b : Bool) : Prop :=
  ∀ (s : Shared) (Q : Bool → Shared → Prop) (E : Value → Shared → Prop) (v : Value), Rep W C σ μ s → VR (C.D μ) s.toks s.heap d v →
    (∀ s', Stp s s' → Q b s') → wpAny (model prog w) C.A (truthy v) Q E s

theorem wpAny_tk {α : Type} {M : Model} {A : Around} {E : Value → Shared → Prop} {s : Shared} {t : Sem α} {Q : α → Shared → Prop}
    (h : wpAny M A t (fun a s' => s.toks ≤ s'.toks → Q a s') (fun e s' => s.toks ≤ s'.toks → E e s') s) : wpAny M A t Q E s := wpAny_with_toks (Nat.le_refl _) h

theorem VR.chr_str {P : Addr → Prop} {k : Nat} {h : Heap} {l : List Nat} {v : Value} (x : VR P k h (.chr l) v) : VR P k h (.str l) v := by
  obtain ⟨t, e, _, _⟩ := x; exact ⟨t, e⟩
theorem Ev.ofChr {e : Expr} {l : List Nat} (h : Ev W C σ μ e (.chr l)) : Ev W C σ μ e (.str l) := ⟨fun s Q E R hQ => h.run s Q E R fun v s' y x => hQ v s' y x.chr_str⟩

theorem Ev.name (O : C.Ok) {x : Str} {pos : Pos} {d : D} (hk : C.env.kindOf x = some .local) (hx : σ x = some d) (hd : (x == ("__debug__" : Str)) = false := by decide) : Ev W C σ μ (.Name x pos) d := by
  refine ⟨fun s Q E R hQ => ?_⟩
  obtain ⟨m, hn, hm⟩ := R.loc
  obtain ⟨v, hv, r⟩ := hm x d hx hk
  exact wpAny_Name (wpAny_loadName_local O.kind hk hn hv (hQ v s (Mv.refl _ _) r)) hd
theorem Ev.cellName (O : C.Ok) {x : Str} {pos : Pos} {c : Addr} {d : D} (hk : C.env.kindOf x = some .cell) (hc : C.env.cells.lookup x = some c) (hx : σ x = some d) (hd : (x == ("__debug__" : Str)) = false := by decide) : Ev W C σ μ (.Name x pos) d := by
  refine ⟨fun s Q E R hQ => ?_⟩
  obtain ⟨v, hv, r₀⟩ := R.cell x c hc (.inl hk)
  obtain ⟨v', rfl, r⟩ := r₀ d hx
  exact wpAny_Name (wpAny_loadName_cell O.kind hk hc hv (hQ v' s (Mv.refl _ _) r)) hd
theorem Ev.freeName (O : C.Ok) {x : Str} {pos : Pos} {c : Addr} {d : D} (hk : C.env.kindOf x = some .free) (hc : C.env.cells.lookup x = some c) (hx : σ x = some d) (hd : (x == ("__debug__" : Str)) = false := by decide) (hcd : (x == ("__classdict__" : Str)) = false := by decide) : Ev W C σ μ (.Name x pos) d := by
  refine ⟨fun s Q E R hQ => ?_⟩
  obtain ⟨v, hv, r₀⟩ := R.cell x c hc (.inr hk)
  obtain ⟨v', rfl, r⟩ := r₀ d hx
  exact wpAny_Name (wpAny_loadName_free O.kind hk hc hv (hQ v' s (Mv.refl _ _) r) hcd) hd

theorem wp_global (O : C.Ok) {s : Shared} {Q : Value → Shared → Prop} {E : Value → Shared → Prop} (R : Rep W C σ μ s) {x : Str} {pos : Pos} {v : Value} (hk : C.env.kindOf x = some .globalImplicit) (hv : W.mg x = some v) (h : Q v s) (hd : (x == ("__debug__" : Str)) = false := by decide) :
    wpAny (model prog w) C.A (eval (.Name x pos) C.env) Q E s := by
  refine wpAny_Name ?_ hd
  rw [loadName_read O.kind hk]
  exact Calls.loadGlobal_global (by rw [O.glob]; exact W.nsg R.top) hv h
theorem wp_builtin (O : C.Ok) {s : Shared} {Q : Value → Shared → Prop} {E : Value → Shared → Prop} (R : Rep W C σ μ s) {x : Str} {pos : Pos} {v : Value} (hk : C.env.kindOf x = some .globalImplicit) (hm : W.mg x = none) (hv : W.mb x = some v) (h : Q v s) (hd : (x == ("__debug__" : Str)) = false := by decide) :
    wpAny (model prog w) C.A (eval (.Name x pos) C.env) Q E s := by
  refine wpAny_Name ?_ hd
  rw [loadName_read O.kind hk]
  exact Calls.loadGlobal_builtin (by rw [O.glob]; exact W.nsg R.top) hm (by rw [O.blt]; exact W.nsb R.top) hv h
theorem Ev.globInt (O : C.Ok) {x : Str} {pos : Pos} {i : Int} {t : Tok} (hk : C.env.kindOf x = some .globalImplicit) (hv : W.mg x = some (.int i t)) (hd : (x == ("__debug__" : Str)) = false := by decide) : Ev W C σ μ (.Name x pos) (.int i) :=
  ⟨fun s Q E R hQ => wp_global O R hk hv (hQ _ s (Mv.refl _ _) ⟨t, rfl⟩) hd⟩

theorem Ev.cint {i : Int} {k pos} : Ev W C σ μ (.Constant (.int i) k pos) (.int i) :=
  ⟨fun s Q E R hQ => wpAny_Constant_int (hQ _ _ (Stp.tk (Nat.le_succ _)) ⟨_, rfl⟩)⟩
theorem Ev.cstr {l : List Nat} {x : Str} {k pos} (hx : x = ⟨l.toArray⟩) : Ev W C σ μ (.Constant (.str x) k pos) (.chr l) :=
  ⟨fun s Q E R hQ => wpAny_Constant_str (hQ _ _ (Stp.tk (Nat.le_succ _)) ⟨_, by rw [hx], R.tpos, Nat.lt_succ_self _⟩)⟩
theorem Ev.cnone {k pos} : Ev W C σ μ (.Constant .none k pos) .none :=
  ⟨fun s Q E R hQ => wpAny_pure (hQ _ _ (Mv.refl _ _) rfl)⟩

theorem Ev.binop {l r : Expr} {op : Operator} {pos : Pos} {d e f : D} (hl : Ev W C σ μ l d) (hr : Ev W C σ μ r e) (ho : Op2 W C σ μ (binaryOp op) d e f) : Ev W C σ μ (.BinOp l op r pos) f :=
  ⟨fun s Q E R hQ => wpAny_BinOp (hl.run s _ _ R fun v s₁ y₁ x₁ => hr.run s₁ _ _ (R.step y₁) fun u s₂ y₂ x₂ => ho s₂ _ _ v u (R.step (y₁.trans y₂)) (x₁.step y₂) x₂ fun v s₃ y₃ x₃ => hQ v s₃ ((y₁.trans y₂).trans y₃) x₃)⟩
theorem Ev.cmp {l r : Expr} {op : CmpOp} {pos : Pos} {d e f : D} (hl : Ev W C σ μ l d) (hr : Ev W C σ μ r e) (ho : Op2 W C σ μ (compareOp op) d e f) (hm : behindInMarks op r = false := by with_unfolding_all rfl) : Ev W C σ μ (.Compare l [op] [r] pos) f :=
  ⟨fun s Q E R hQ => wpAny_Compare1 (hl.run s _ _ R fun v s₁ y₁ x₁ => hr.run s₁ _ _ (R.step y₁) fun u s₂ y₂ x₂ => ho s₂ _ _ v u (R.step (y₁.trans y₂)) (x₁.step y₂) x₂ fun v s₃ y₃ x₃ => hQ v s₃ ((y₁.trans y₂).trans y₃) x₃) hm⟩
theorem Ts.cmp {l r : Expr} {op : CmpOp} {pos : Pos} {d e : D} {b : Bool} (hl : Ev W C σ μ l d) (hr : Ev W C σ μ r e) (ho : Op2 W C σ μ (compareOp op) d e (.bool b)) (hm : behindInMarks op r = false := by with_unfolding_all rfl) : Ts W C σ μ (.Compare l [op] [r] pos) b :=
  ⟨fun s Q E R hQ => wpAny_isTrue_Compare1 (hl.run s _ _ R fun v s₁ y₁ x₁ => hr.run s₁ _ _ (R.step y₁) fun u s₂ y₂ x₂ => ho s₂ _ _ v u (R.step (y₁.trans y₂)) (x₁.step y₂) x₂ fun v s₃ y₃ x₃ => by
    cases x₃; exact wpAny_truthy_bool (hQ s₃ ((y₁.trans y₂).trans y₃))) hm⟩
theorem Ts.val {e : Expr} {d : D} {b : Bool} (he : Ev W C σ μ e d) (ht : Tru W C σ μ d b) (hp : isTrue e C.env (eval e C.env) = (do let v ← eval e C.env; standAt e.pos; holding [v] (truthy v)) := by rfl) : Ts W C σ μ e b :=
  ⟨fun s Q E R hQ => wpAny_isTrue_value (he.run s _ _ R fun v s₁ y₁ x₁ => ht s₁ _ _ v (R.step y₁) x₁ fun s₂ y₂ => hQ s₂ (y₁.trans y₂)) hp⟩
theorem Ts.not {e : Expr} {pos : Pos} {b : Bool} (he : Ts W C σ μ e b) : Ts W C σ μ (.UnaryOp .Not e pos) (!b) :=
  ⟨fun s Q E R hQ => wpAny_isTrue_Not (he.run s _ _ R fun s₁ y₁ => hQ s₁ y₁)⟩

structure TsAll {prog : Program} {w : World} (W : Glob prog w) (C : Act) (σ : Sg) (μ : Mu) (op : BoolOp) (es : List Expr) (b : Bool) : Prop where
  run : ∀ (s : Shared) (Q : Bool → Shared → Prop) (E : Value → Shared → Prop), Rep W C σ μ s →
    (∀ s', Stp s s' → Q b s') → wpAny (model prog w) C.A (allTrue op es C.env) Q E s
theorem TsAll.andNil : TsAll W C σ μ .And [] true := ⟨fun s Q E R hQ => wpAny_allTrue_And_nil (hQ s (Mv.refl _ _))⟩
theorem TsAll.orNil : TsAll W C σ μ .Or [] false := ⟨fun s Q E R hQ => wpAny_pure (hQ s (Mv.refl _ _))⟩
theorem TsAll.and {e : Expr} {es : List Expr} {b c : Bool} (he : Ts W C σ μ e b) (hr : b = true → TsAll W C σ μ .And es c) : TsAll W C σ μ .And (e :: es) (b && c) :=
  ⟨fun s Q E R hQ => wpAny_allTrue_And_cons (he.run s _ _ R fun s₁ y₁ => by
    cases b with
    | false => exact hQ s₁ y₁
    | true => exact (hr rfl).run s₁ _ _ (R.step y₁) fun s₂ y₂ => hQ s₂ (y₁.trans y₂))⟩
theorem TsAll.or {e : Expr} {es : List Expr} {b c : Bool} (he : Ts W C σ μ e b) (hr : b = false → TsAll W C σ μ .Or es c) : TsAll W C σ μ .Or (e :: es) (b || c) :=
  ⟨fun s Q E R hQ => wpAny_allTrue_Or_cons (he.run s _ _ R fun s₁ y₁ => by
    cases b with
    | true => exact hQ s₁ y₁
    | false => exact (hr rfl).run s₁ _ _ (R.step y₁) fun s₂ y₂ => hQ s₂ (y₁.trans y₂))⟩
theorem Ts.boolop {op : BoolOp} {es : List Expr} {pos : Pos} {b : Bool} (h : TsAll W C σ μ op es b) : Ts W C σ μ (.BoolOp op es pos) b :=
  ⟨fun s Q E R hQ => wpAny_isTrue_BoolOp (h.run s Q E R hQ)⟩
theorem Ts.and2 {e f : Expr} {pos : Pos} {b c : Bool} (he : Ts W C σ μ e b) (hf : b = true → Ts W C σ μ f c) : Ts W C σ μ (.BoolOp .And [e, f] pos) (b && c) := by
  have := TsAll.and he fun hb => by
    have := TsAll.and (hf hb) fun _ => TsAll.andNil (W := W) (C := C) (σ := σ) (μ := μ)
    rwa [Bool.and_true] at this
  exact Ts.boolop this
theorem Ts.or2 {e f : Expr} {pos : Pos} {b c : Bool} (he : Ts W C σ μ e b) (hf : b = false → Ts W C σ μ f c) : Ts W C σ μ (.BoolOp .Or [e, f] pos) (b || c) := by
  have := TsAll.or he fun hb => by
    have := TsAll.or (hf hb) fun _ => TsAll.orNil (W := W) (C := C) (σ := σ) (μ := μ)
    rwa [Bool.or_false] at this
  exact Ts.boolop this
theorem Ev.ifexp {t a b : Expr} {pos : Pos} {c : Bool} {d : D} (ht : Ts W C σ μ t c) (ha : c = true → Ev W C σ μ a d) (hb : c = false → Ev W C σ μ b d) : Ev W C σ μ (.IfExp t a b pos) d :=
  ⟨fun s Q E R hQ => wpAny_IfExp (ht.run s _ _ R fun s₁ y₁ => by
    cases c with
    | true => exact (ha rfl).run s₁ _ _ (R.step y₁) fun v s₂ y₂ x₂ => hQ v s₂ (y₁.trans y₂) x₂
    | false => exact (hb rfl).run s₁ _ _ (R.step y₁) fun v s₂ y₂ x₂ => hQ v s₂ (y₁.trans y₂) x₂)⟩
theorem Ev.or2 {x y : Expr} {pos : Pos} {d r : D} {b : Bool} (hx : Ev W C σ μ x d) (ht : Tru W C σ μ d b) (h1 : b = true → r = d) (h2 : b = false → Ev W C σ μ y r) : Ev W C σ μ (.BoolOp .Or [x, y] pos) r :=
  ⟨fun s Q E R hQ => wpAny_Or2 (hx.run s _ _ R fun v s₁ y₁ x₁ => ht s₁ _ _ v (R.step y₁) x₁ fun s₂ y₂ => by
    cases b with
    | true => rw [h1 rfl] at hQ; exact hQ v s₂ (y₁.trans y₂) (x₁.step y₂)
    | false => exact (h2 rfl).run s₂ _ _ (R.step (y₁.trans y₂)) fun u s₃ y₃ x₃ => hQ u s₃ ((y₁.trans y₂).trans y₃) x₃)⟩
theorem Ev.and2 {x y : Expr} {pos : Pos} {d r : D} {b : Bool} (hx : Ev W C σ μ x d) (ht : Tru W C σ μ d b) (h1 : b = false → r = d) (h2 : b = true → Ev W C σ μ y r) : Ev W C σ μ (.BoolOp .And [x, y] pos) r :=
  ⟨fun s Q E R hQ => wpAny_And2 (hx.run s _ _ R fun v s₁ y₁ x₁ => ht s₁ _ _ v (R.step y₁) x₁ fun s₂ y₂ => by
    cases b with
    | false => rw [h1 rfl] at hQ; exact hQ v s₂ (y₁.trans y₂) (x₁.step y₂)
    | true => exact (h2 rfl).run s₂ _ _ (R.step (y₁.trans y₂)) fun u s₃ y₃ x₃ => hQ u s₃ ((y₁.trans y₂).trans y₃) x₃)⟩

theorem Tru.cbool {b : Bool} : Tru W C σ μ (.bool b) b := fun s Q E v R x hQ => by cases x; exact wpAny_truthy_bool (hQ s (Mv.refl _ _))
theorem Tru.cint {i : Int} : Tru W C σ μ (.int i) (i != 0) := fun s Q E v R x hQ => by
  obtain ⟨t, rfl⟩ := x; exact PyProof.Rows.truthy_int (hQ s (Mv.refl _ _))
theorem Tru.cstr {l : List Nat} (hl : l.length ≤ sizeLine) : Tru W C σ μ (.str l) (!l.isEmpty) := fun s Q E v R x hQ => by
  obtain ⟨t, rfl⟩ := x
  have hl' : (l.length : Int) < 2 ^ 24 + 1 := by unfold sizeLine at hl; omega
  refine P.truthy_str (by simp [Str.length]; omega) ?_
  have e : (((Str.length ⟨l.toArray⟩ : Nat) : Int) != 0) = !l.isEmpty := by
    cases l with
    | nil => rfl
    | cons a r => simp [Str.length]; omega
  rw [e]; exact hQ _ (Stp.tk (by omega))
theorem Tru.lst {xs : List D} (hl : xs.length ≤ sizeLine) : Tru W C σ μ (.lst xs) (!xs.isEmpty) := fun s Q E v R x hQ => by
  obtain ⟨a, vs, rfl, hp, ⟨n, hg⟩, r⟩ := x
  have hlen := r.length
  have hl' : (vs.size : Int) < 2 ^ 24 + 1 := by have : vs.toList.length = vs.size := by simp
                                                unfold sizeLine at hl; omega
  refine wpAny_truthy_list ⟨_, hg, rfl, n, rfl⟩ (by omega) ?_
  have e : (!vs.isEmpty) = !xs.isEmpty := by
    cases xs with
    | nil => have : vs = #[] := by apply Array.ext'; exact r
             subst this; rfl
    | cons d r' => have : vs.toList ≠ [] := by intro z; rw [z] at hlen; simp at hlen
                   simp; intro z; apply this; simp [z]
  rw [e]; exact hQ _ (Stp.tk (by omega))
theorem Tru.cnone : Tru W C σ μ .none false := fun s Q E v R x hQ => by cases x; exact wpAny_pure (hQ s (Mv.refl _ _))
end
end Mine

namespace Mine
section
variable {prog : Program} {w : World} {W : Glob prog w} {C : Act} {σ : Sg} {μ : Mu}

theorem Op2.addI {i j : Int} : Op2 W C σ μ (binaryOp .Add) (.int i) (.int j) (.int (i + j)) := by
  rintro s Q E _ _ R ⟨t, rfl⟩ ⟨u, rfl⟩ hQ; exact P.add_int (hQ _ _ (Stp.tk (Nat.le_succ _)) ⟨_, rfl⟩)
theorem Op2.subI {i j : Int} : Op2 W C σ μ (binaryOp .Sub) (.int i) (.int j) (.int (i - j)) := by
  rintro s Q E _ _ R ⟨t, rfl⟩ ⟨u, rfl⟩ hQ; exact P.sub_int (hQ _ _ (Stp.tk (Nat.le_succ _)) ⟨_, rfl⟩)
theorem Op2.mulI {i j : Int} (h : (-(2 ^ 63) ≤ i ∧ i ≤ 2 ^ 63) ∨ (-(2 ^ 63) ≤ j ∧ j ≤ 2 ^ 63)) : Op2 W C σ μ (binaryOp .Mult) (.int i) (.int j) (.int (i * j)) := by
  rintro s Q E _ _ R ⟨t, rfl⟩ ⟨u, rfl⟩ hQ
  refine P.mul_int (hQ _ _ (Stp.tk (Nat.le_succ _)) ⟨_, rfl⟩) ?_
  rcases h with h | h
  · exact IntMulOk.of_left (intBits_le_64 (by omega) (by omega))
  · exact IntMulOk.of_right (intBits_le_64 (by omega) (by omega))
theorem Op2.modI {i j : Int} (h : j ≠ 0) : Op2 W C σ μ (binaryOp .Mod) (.int i) (.int j) (.int (i.fmod j)) := by
  rintro s Q E _ _ R ⟨t, rfl⟩ ⟨u, rfl⟩ hQ; exact PyProof.Rows.mod_int h (hQ _ _ (Stp.tk (Nat.le_succ _)) ⟨_, rfl⟩)
theorem Op2.divI {i j : Int} (h : j ≠ 0) (hj : j.natAbs < 1073741824 := by decide) : Op2 W C σ μ (binaryOp .FloorDiv) (.int i) (.int j) (.int (i.fdiv j)) := by
  rintro s Q E _ _ R ⟨t, rfl⟩ ⟨u, rfl⟩ hQ; exact PyProof.Rows.floordiv_int h (hQ _ _ (Stp.tk (Nat.le_succ _)) ⟨_, rfl⟩) (.inl (PyProof.noPylong_small hj))
theorem Op2.powI {i j : Int} (h : 0 ≤ j) (hs : (Builtin.Int.intBits i : Int) * j ≤ 2 ^ 27) : Op2 W C σ μ (binaryOp .Pow) (.int i) (.int j) (.int (i ^ j.toNat)) := by
  rintro s Q E _ _ R ⟨t, rfl⟩ ⟨u, rfl⟩ hQ; exact PyProof.Rows.pow_int h hs (hQ _ _ (Stp.tk (Nat.le_succ _)) ⟨_, rfl⟩)
theorem Op2.iaddI {i j : Int} : Op2 W C σ μ (inplaceOp .Add) (.int i) (.int j) (.int (i + j)) := by
  rintro s Q E _ _ R ⟨t, rfl⟩ ⟨u, rfl⟩ hQ; exact P.iadd_int (hQ _ _ (Stp.tk (Nat.le_succ _)) ⟨_, rfl⟩)
theorem Op2.isubI {i j : Int} : Op2 W C σ μ (inplaceOp .Sub) (.int i) (.int j) (.int (i - j)) := by
  rintro s Q E _ _ R ⟨t, rfl⟩ ⟨u, rfl⟩ hQ; exact P.isub_int (hQ _ _ (Stp.tk (Nat.le_succ _)) ⟨_, rfl⟩)
theorem Op2.ltI {i j : Int} : Op2 W C σ μ (compareOp .Lt) (.int i) (.int j) (.bool (decide (i < j))) := by
  rintro s Q E _ _ R ⟨t, rfl⟩ ⟨u, rfl⟩ hQ; exact P.lt_int (hQ _ _ (Mv.refl _ _) rfl)
theorem Op2.gtI {i j : Int} : Op2 W C σ μ (compareOp .Gt) (.int i) (.int j) (.bool (decide (j < i))) := by
  rintro s Q E _ _ R ⟨t, rfl⟩ ⟨u, rfl⟩ hQ; exact PyProof.Rows.gt_int (hQ _ _ (Mv.refl _ _) rfl)
theorem Op2.eqI {i j : Int} : Op2 W C σ μ (compareOp .Eq) (.int i) (.int j) (.bool (i == j)) := by
  rintro s Q E _ _ R ⟨t, rfl⟩ ⟨u, rfl⟩ hQ; exact P.eq_int (hQ _ _ (Mv.refl _ _) rfl)
theorem Op2.neI {i j : Int} : Op2 W C σ μ (compareOp .NotEq) (.int i) (.int j) (.bool (i != j)) := by
  rintro s Q E _ _ R ⟨t, rfl⟩ ⟨u, rfl⟩ hQ; exact P.ne_int (hQ _ _ (Mv.refl _ _) rfl)

theorem len_mk (l : List Nat) : Str.length ⟨l.toArray⟩ = l.length := by simp [Str.length]
theorem mk_append (l m : List Nat) : (⟨l.toArray⟩ : Str) ++ ⟨m.toArray⟩ = ⟨(l ++ m).toArray⟩ := by
  apply Str.ext'; simp [Str.cps_append]
theorem add_post {x y : List Nat} {t u : Tok} {s : Shared} {Q : Value → Shared → Prop} (hsz : x.length + y.length ≤ sizeLine)
    (hQ : ∀ t' s', Stp s s' → Q (.str ⟨(x ++ y).toArray⟩ t') s') :
    (if Str.length ⟨x.toArray⟩ == 0 then Made.val (.str ⟨y.toArray⟩ u) else if Str.length ⟨y.toArray⟩ == 0 then Made.val (.str ⟨x.toArray⟩ t) else Made.str (⟨x.toArray⟩ ++ ⟨y.toArray⟩)).post Q s := by
  rw [len_mk, len_mk]
  cases x with
  | nil => exact hQ u s (Mv.refl _ _)
  | cons a r =>
    cases y with
    | nil => show Q _ s; simpa using hQ t s (Mv.refl _ _)
    | cons b q =>
      refine ⟨?_, ?_⟩
      · rw [mk_append, len_mk, List.length_append]; exact hsz
      · rw [mk_append]; exact hQ _ _ (Stp.tk (Nat.le_succ _))
theorem Op2.addS {x y : List Nat} (hsz : x.length + y.length ≤ sizeLine) : Op2 W C σ μ (binaryOp .Add) (.str x) (.str y) (.str (x ++ y)) := by
  rintro s Q E _ _ R ⟨t, rfl⟩ ⟨u, rfl⟩ hQ
  exact P.add_str (add_post hsz fun t' s' y => hQ _ s' y ⟨t', rfl⟩)
theorem Op2.iaddS {x y : List Nat} (hsz : x.length + y.length ≤ sizeLine) : Op2 W C σ μ (inplaceOp .Add) (.str x) (.str y) (.str (x ++ y)) := by
  rintro s Q E _ _ R ⟨t, rfl⟩ ⟨u, rfl⟩ hQ
  exact P.iadd_str (add_post hsz fun t' s' y => hQ _ s' y ⟨t', rfl⟩)
theorem Op2.iaddC {y : List Nat} : Op2 W C σ μ (inplaceOp .Add) (.str []) (.chr y) (.chr y) := by
  rintro s Q E _ _ R ⟨t, rfl⟩ ⟨u, rfl, h0, h1⟩ hQ
  exact P.iadd_str (hQ _ s (Mv.refl _ _) ⟨u, rfl, h0, h1⟩)
theorem Op2.eqS {x y : List Nat} : Op2 W C σ μ (compareOp .Eq) (.str x) (.str y) (.bool (x == y)) := by
  rintro s Q E _ _ R ⟨t, rfl⟩ ⟨u, rfl⟩ hQ; exact P.eq_str (hQ _ _ (Mv.refl _ _) rfl)
theorem Op2.neS {x y : List Nat} : Op2 W C σ μ (compareOp .NotEq) (.str x) (.str y) (.bool (x != y)) := by
  rintro s Q E _ _ R ⟨t, rfl⟩ ⟨u, rfl⟩ hQ; exact P.ne_str (hQ _ _ (Mv.refl _ _) rfl)

noncomputable def at? {α : Type} (l : List α) (i : Int) : Option α := if i < 0 then (if 0 ≤ i + l.length then l[(i + l.length).toNat]? else none) else l[i.toNat]?

theorem at?_seqIndex {α : Type} {l : List α} {i : Int} {x : α} (h : at? l i = some x) : ∃ k, seqIndex? i l.length = some k ∧ l[k]? = some x := by
  unfold at? at h
  unfold seqIndex?
  split at h
  · rename_i hi
    split at h
    · rename_i h0
      have hlt : (i + l.length).toNat < l.length := by have := (List.getElem?_eq_some_iff.mp h).1; exact this
      refine ⟨(i + l.length).toNat, ?_, h⟩
      simp only [hi, if_true]
      rw [if_pos (by simp; omega)]
    · cases h
  · rename_i hi
    have hlt : i.toNat < l.length := (List.getElem?_eq_some_iff.mp h).1
    refine ⟨i.toNat, ?_, h⟩
    simp only [hi, if_false]
    rw [if_pos (by simp; omega)]

theorem subscr_plain {slice : Expr} (hs : ∀ o i, subscripted slice false o i = operate [o, i] (getItem o i)) : True := trivial

theorem Op2.itemS {value slice : Expr} {l : List Nat} {i : Int} {c : Nat} (hl : l.length ≤ sizeLine) (h : at? l i = some c)
    (hs : ∀ o i, subscripted slice false o i = operate [o, i] (getItem o i) := by intro _ _; with_unfolding_all rfl) :
    Op2 W C σ μ (subscriptTail value slice) (.str l) (.int i) (.chr [c]) := by
  rintro s Q E _ _ R ⟨t, rfl⟩ ⟨u, rfl⟩ hQ
  obtain ⟨k, hk, hc⟩ := at?_seqIndex h
  have hl' : (l.length : Int) ≤ 2 ^ 24 := by unfold sizeLine at hl; omega
  have hb : -(l.length : Int) ≤ i ∧ i < l.length := by
    unfold at? at h
    split at h
    · split at h
      · constructor <;> omega
      · cases h
    · have := (List.getElem?_eq_some_iff.mp h).1
      constructor <;> omega
  refine tail_any (typeIs_str s _ t) PySem.F.slot_str_getitem.lookup (P.getItem_str (c := c) ?_ ?_ (hQ _ _ (Stp.tk (Nat.le_succ _)) ⟨_, rfl, R.tpos, Nat.lt_succ_self _⟩)) (hs _ _)
  · simp; omega
  · rw [len_mk, hk]; simpa using hc

theorem Op2.itemL {value slice : Expr} {l : List D} {i : Int} {d : D} (h : l[i.toNat]? = some d) (h0 : 0 ≤ i) (h1 : i < 2 ^ 63)
    (hs : ∀ o i, subscripted slice false o i = operate [o, i] (getItem o i) := by intro _ _; with_unfolding_all rfl) :
    Op2 W C σ μ (subscriptTail value slice) (.lst l) (.int i) d := by
  rintro s Q E _ _ R ⟨a, vs, rfl, hp, ⟨n, hg⟩, r⟩ ⟨u, rfl⟩ hQ
  obtain ⟨v, hv, x⟩ := r.get h
  have hL : s.heap.IsList a vs := ⟨_, hg, rfl, n, rfl⟩
  exact tail_any hL.typeIs PySem.F.slot_list_getitem.lookup (wpAny_getItem_list hL h0 h1 (by simpa using hv) (hQ _ _ (Mv.refl _ _) x)) (hs _ _)

theorem Op2.itemT {value slice : Expr} {l : List D} {i : Int} {d : D} (h : l[i.toNat]? = some d) (h0 : 0 ≤ i) (h1 : i < 2 ^ 63)
    (hs : ∀ o i, subscripted slice false o i = operate [o, i] (getItem o i) := by intro _ _; with_unfolding_all rfl) :
    Op2 W C σ μ (subscriptTail value slice) (.tup l) (.int i) d := by
  rintro s Q E _ _ R ⟨a, vs, rfl, hp, ⟨n, hg⟩, r⟩ ⟨u, rfl⟩ hQ
  obtain ⟨v, hv, x⟩ := r.get h
  have hlt := (List.getElem?_eq_some_iff.mp hv).1
  have hT : IsTup s.heap a vs.toList.toArray := ⟨_, by simpa using hg, rfl, n, rfl⟩
  refine item_tupleT hT (by omega) h1 (j := i.toNat) ?_ hv (hQ _ _ (Mv.refl _ _) x) (hs _ _)
  obtain ⟨k, hk, hk2⟩ := at?_seqIndex (l := vs.toList) (i := i) (x := v) (by unfold at?; rw [if_neg (by omega)]; exact hv)
  have : k = i.toNat := by
    unfold seqIndex? at hk
    simp only [show ¬ i < 0 from by omega, if_false] at hk
    split at hk
    · exact (Option.some.inj hk).symm
    · cases hk
  rw [← this]; exact hk

theorem Ev.sub {o i : Expr} {pos : Pos} {d e f : D} (ho : Ev W C σ μ o d) (hi : Ev W C σ μ i e) (hs : Op2 W C σ μ (subscriptTail o i) d e f) : Ev W C σ μ (.Subscript o i pos) f :=
  ⟨fun s Q E R hQ => Subscript_ (ho.run s _ _ R fun v s₁ y₁ x₁ => hi.run s₁ _ _ (R.step y₁) fun u s₂ y₂ x₂ => hs s₂ _ _ v u (R.step (y₁.trans y₂)) (x₁.step y₂) x₂ fun v s₃ y₃ x₃ => hQ v s₃ ((y₁.trans y₂).trans y₃) x₃)⟩

noncomputable def slo (v : Option Int) (n : Nat) : Nat := kms_lo v n
noncomputable def shi (v : Option Int) (n : Nat) : Nat := kms_hi v n
noncomputable def slc {α : Type} (l : List α) (lo hi : Option Int) : List α := (l.drop (slo lo l.length)).take (shi hi l.length - slo lo l.length)
theorem slc_take {α : Type} (l : List α) (i : Nat) : slc l none (some (i : Int)) = l.take i := by
  unfold slc slo shi kms_lo kms_hi
  simp only [show ¬ ((i : Int) < 0) from by omega, if_false, List.drop_zero, Int.toNat_natCast, Nat.sub_zero]
  by_cases h : i ≤ l.length
  · rw [Nat.min_eq_left h]
  · rw [Nat.min_eq_right (by omega), List.take_of_length_le (Nat.le_refl _), List.take_of_length_le (by omega)]
theorem slc_drop {α : Type} (l : List α) (i : Nat) : slc l (some (i : Int)) none = l.drop i := by
  unfold slc slo shi kms_lo kms_hi
  simp only [show ¬ ((i : Int) < 0) from by omega, if_false, Int.toNat_natCast]
  by_cases h : i ≤ l.length
  · rw [Nat.min_eq_left h, List.take_of_length_le (by simp)]
  · rw [Nat.min_eq_right (by omega), List.drop_of_length_le (Nat.le_refl _), List.drop_of_length_le (by omega)]; simp
theorem slc_all {α : Type} (l : List α) : slc l none none = l := by
  unfold slc slo shi kms_lo kms_hi; simp
theorem slc_neg {α : Type} (l : List α) (i : Nat) (h : 0 < i) : slc l none (some (-(i : Int))) = l.take (l.length - i) := by
  unfold slc slo shi kms_lo kms_hi
  simp only [show (-(i : Int) < 0) from by omega, if_true, List.drop_zero, Nat.sub_zero]
  simp
theorem slc_mid {α : Type} (l : List α) (i j : Nat) (hi : i ≤ j) (hj : j ≤ l.length) : slc l (some (i : Int)) (some (j : Int)) = (l.take j).drop i := by
  unfold slc slo shi kms_lo kms_hi
  simp only [show ¬ ((i : Int) < 0) from by omega, show ¬ ((j : Int) < 0) from by omega, if_false, Int.toNat_natCast]
  rw [Nat.min_eq_left hj, Nat.min_eq_left (by omega), List.drop_take]

theorem sliceRange_same (lo hi : Option Int) (n : Nat) : Builtin.Str.strSliceIndices lo hi 1 n = sliceRange (sliceBounds lo hi none n).1 (sliceBounds lo hi none n).2.1 (sliceBounds lo hi none n).2.2 := rfl
theorem pick_slc {α : Type} (xs : Array α) (lo hi : Option Int) : (sliceRange (sliceBounds lo hi none xs.size).1 (sliceBounds lo hi none xs.size).2.1 (sliceBounds lo hi none xs.size).2.2).filterMap (xs[·]?) = slc xs.toList lo hi := by
  rw [kms_bounds]
  simp only [sliceRange_one]
  have e : (slo lo xs.size) = kms_lo lo xs.size := rfl
  have h := StrLaws.picks xs.toList (kms_hi hi xs.size - kms_lo lo xs.size) (kms_lo lo xs.size) (by
    have : kms_hi hi xs.size ≤ xs.size := by
      unfold kms_hi; split
      · exact Nat.le_refl _
      · split <;> omega
    have : kms_lo lo xs.size ≤ xs.size := by
      unfold kms_lo; split
      · omega
      · split <;> omega
    simp; omega)
  unfold slc slo shi
  simpa using h

structure Ep {prog : Program} {w : World} (W : Glob prog w) (C : Act) (σ : Sg) (μ : Mu) (e : Option Expr) (p : Option Int) : Prop where
  run : ∀ (s : Shared) (Q : Value → Shared → Prop) (E : Value → Shared → Prop), Rep W C σ μ s →
    (∀ v s', Stp s s' → (∃ q : Option (Int × Tok), v = partValue q ∧ q.map (·.1) = p) → Q v s') → wpAny (model prog w) C.A (evalPart e C.env) Q E s
theorem Ep.nil : Ep W C σ μ .none .none := ⟨fun s Q E R hQ => wpAny_pure (hQ _ _ (Mv.refl _ _) ⟨.none, rfl, rfl⟩)⟩
theorem Ep.int {e : Expr} {i : Int} (h : Ev W C σ μ e (.int i)) : Ep W C σ μ (some e) (some i) := ⟨fun s Q E R hQ =>
  h.run s _ _ R fun v s' y x => by obtain ⟨t, rfl⟩ := x; exact hQ _ s' y ⟨some (i, t), rfl, rfl⟩⟩
theorem Ep.no {e : Expr} (h : Ev W C σ μ e .none) : Ep W C σ μ (some e) .none := ⟨fun s Q E R hQ =>
  h.run s _ _ R fun v s' y x => by cases x; exact hQ _ s' y ⟨.none, rfl, rfl⟩⟩

theorem isPart_of {q : Option (Int × Tok)} {p : Option Int} (e : q.map (·.1) = p) : IsPart (partValue q) p := by
  subst e
  cases q with
  | none => exact .none
  | some a => exact .int a.1 a.2

theorem Ev.sliceS {o : Expr} {lo hi : Option Expr} {p pos : Pos} {l : List Nat} {a b : Option Int} (ho : Ev W C σ μ o (.str l)) (h1 : Ep W C σ μ lo a) (h2 : Ep W C σ μ hi b) (hl : l.length ≤ sizeLine)
    (ht : ∀ v r, letTemporaryGo o v r = pure () := by intro _ _; rfl) : Ev W C σ μ (.Subscript o (.Slice lo hi none p) pos) (.str (slc l a b)) := by
  refine ⟨fun s Q E R hQ => ?_⟩
  refine wpAny_tk (wpAny_Subscript_str_slice (ho.run s _ _ R fun v s₁ y₁ x₁ => h1.run s₁ _ _ (R.step y₁) fun u s₂ y₂ x₂ => h2.run s₂ _ _ (R.step (y₁.trans y₂)) fun u' s₃ y₃ x₃ => ?_) ht)
  obtain ⟨t, rfl⟩ := x₁
  obtain ⟨q, rfl, rfl⟩ := x₂
  obtain ⟨q', rfl, rfl⟩ := x₃
  refine ⟨_, t, q, q', rfl, rfl, rfl, ?_⟩
  have y := (y₁.trans y₂).trans y₃
  have key : (slicePicked ⟨l.toArray⟩ q q' .none).filterMap (l.toArray[·]?) = slc l (q.map (·.1)) (q'.map (·.1)) := by
    have := pick_slc l.toArray (q.map (·.1)) (q'.map (·.1))
    simpa [slicePicked, sliceRange_same, Str.length] using this
  have sub : (slc l (q.map (·.1)) (q'.map (·.1))).Sublist l := (List.take_sublist _ _).trans (List.drop_sublist _ _)
  have hcount : (slicePicked ⟨l.toArray⟩ q q' .none).length = kms_hi (q'.map (·.1)) l.length - kms_lo (q.map (·.1)) l.length := by
    show (Builtin.Str.strSliceIndices _ _ 1 _).length = _
    rw [sliceRange_same, len_mk, kms_bounds]
    simp only [sliceRange_one, List.length_map, List.length_range]
  have hhi : kms_hi (q'.map (·.1)) l.length ≤ l.length := by
    unfold kms_hi; split
    · exact Nat.le_refl _
    · split <;> omega
  unfold sliceMade
  split
  · rename_i hc
    intro hk
    have h3 : (slicePicked ⟨l.toArray⟩ q q' .none).length = l.length := by
      have := (Bool.and_eq_true _ _ ▸ hc).2
      simpa [Str.length] using this
    have hlen : (slc l (q.map (·.1)) (q'.map (·.1))) = l := by
      refine sub.eq_of_length ?_
      unfold slc slo shi
      rw [List.length_take, List.length_drop]
      omega
    rw [hlen] at hQ
    exact hQ _ _ (y.trans (Stp.push _ (Nat.le_refl _))) ⟨t, rfl⟩
  · refine ⟨?_, ?_⟩
    · rw [len_mk, key]
      exact Nat.le_trans sub.length_le hl
    · intro hk
      rw [← key] at hQ
      exact hQ _ _ ((y.trans (Stp.push _ (Nat.le_refl _))).trans (Stp.tk (Nat.le_succ _))) ⟨_, rfl⟩

theorem VRs.slc {P : Addr → Prop} {k : Nat} {h : Heap} {ds : List D} {vs : List Value} (x : VRs P k h ds vs) (a b : Option Int) : VRs P k h (slc ds a b) (Mine.slc vs a b) := by
  unfold Mine.slc
  rw [x.length]
  exact VRs.take _ (VRs.drop _ x)
theorem Ev.sliceL {o : Expr} {lo hi : Option Expr} {p pos : Pos} {l : List D} {a b : Option Int} (ho : Ev W C σ μ o (.lst l)) (h1 : Ep W C σ μ lo a) (h2 : Ep W C σ μ hi b) (hl : l.length ≤ sizeLine)
    (ht : ∀ v r, letTemporaryGo o v r = pure () := by intro _ _; rfl) : Ev W C σ μ (.Subscript o (.Slice lo hi .none p) pos) (.lst (slc l a b)) := by
  refine ⟨fun s Q E R hQ => ?_⟩
  refine wpAny_tk (wpAny_Subscript_list_slice (ho.run s _ _ R fun v s₁ y₁ x₁ => h1.run s₁ _ _ (R.step y₁) fun u s₂ y₂ x₂ => h2.run s₂ _ _ (R.step (y₁.trans y₂)) fun u' s₃ y₃ x₃ => ?_) ht)
  obtain ⟨q, rfl, e1⟩ := x₂
  obtain ⟨q', rfl, e2⟩ := x₃
  have y := (y₁.trans y₂).trans y₃
  have x₃ := (x₁.step y₂).step y₃
  obtain ⟨L, vs, rfl, hp, ⟨n, hg⟩, r⟩ := x₃
  have hlen : vs.size = l.length := by have := r.length; simpa using this
  refine ⟨L, vs, a, b, rfl, ⟨_, hg, rfl, n, rfl⟩, by omega, isPart_of e1, isPart_of e2, ?_⟩
  intro hk
  have R₃ := R.step y
  have up : ∀ c o, s₃.heap.get? c = some o → ((s₃.heap.push { cls := .type "slice", data := .fields #[partValue q, partValue q', .none] }).push { cls := .type "list", data := .seq (slicePick vs a b .none) }).get? c = some o :=
    fun c o e => Heap.get?_push_of_some _ (Heap.get?_push_of_some _ e)
  refine hQ _ _ (y.trans (Stp.mk' up (by simp [Heap.size_push]; omega))) ?_
  refine ⟨_, slicePick vs a b .none, rfl, C.D_new R₃ (Nat.le_succ _), ⟨0, ?_⟩, ?_⟩
  · have := Heap.get?_push_size (s₃.heap.push { cls := .type "slice", data := .fields #[partValue q, partValue q', .none] }) (o := { cls := .type "list", data := .seq (slicePick vs a b .none) }) rfl
    rw [Heap.size_push] at this
    exact this
  · have e : (slicePick vs a b .none).toList = Mine.slc vs.toList a b := by rw [kms_pick_eq]; rfl
    rw [e]
    exact (VRs.slc r a b).mono (Nat.le_refl _) fun c o hp e => ⟨hp, up c o e⟩

theorem Op2.addL {x y : List D} (hsz : x.length + y.length ≤ sizeLine) : Op2 W C σ μ (binaryOp .Add) (.lst x) (.lst y) (.lst (x ++ y)) := by
  rintro s Q E _ _ R ⟨a, vs, rfl, hp, ⟨n, hg⟩, r⟩ ⟨b, us, rfl, hp', ⟨n', hg'⟩, r'⟩ hQ
  have l1 : vs.size = x.length := by have := r.length; simpa using this
  have l2 : us.size = y.length := by have := r'.length; simpa using this
  refine P.add_list hg hg' (hQ _ _ (Stp.push _ (Nat.le_refl _)) ⟨_, vs ++ us, rfl, C.D_new R (Nat.le_refl _), ⟨0, Heap.get?_push_size _ rfl⟩, ?_⟩) (by omega)
  rw [Array.toList_append]
  exact (VRs.append r r').mono (Nat.le_refl _) fun c o hp e => ⟨hp, Heap.get?_push_of_some _ e⟩

structure Es {prog : Program} {w : World} (W : Glob prog w) (C : Act) (σ : Sg) (μ : Mu) (pos : Pos) (es : List Expr) (ds : List D) : Prop where
  run : ∀ (s : Shared) (Q : List Value → Shared → Prop) (E : Value → Shared → Prop), Rep W C σ μ s →
    (∀ vs s', Stp s s' → VRs (C.D μ) s'.toks s'.heap ds vs → Q vs s') → wpAny (model prog w) C.A (spliced (backTo pos (starEach es C.env))) Q E s
theorem Es.nil {pos : Pos} : Es W C σ μ pos [] [] := ⟨fun s Q E R hQ => wpAny_pure (hQ _ s (Mv.refl _ _) VRs.nil)⟩
theorem Es.cons {pos : Pos} {e : Expr} {es : List Expr} {d : D} {ds : List D} (h : Ev W C σ μ e d) (hr : Es W C σ μ pos es ds)
    (hn : starEach (e :: es) C.env = (false, eval e C.env) :: starEach es C.env := by rfl) : Es W C σ μ pos (e :: es) (d :: ds) := by
  refine ⟨fun s Q E R hQ => ?_⟩
  rw [hn]
  show wpAny _ _ (do
    let v ← eval e C.env
    let here ← (pure [v] : Sem (List Value))
    return here ++ (← holding here (spliced (backTo pos (starEach es C.env))))) _ _ s
  refine wpAny_bind (h.run s _ _ R fun v s₁ y₁ x₁ => wpAny_bind (wpAny_pure (wpAny_bind (wpAny_holding (hr.run s₁ _ _ (R.step y₁) fun vs s₂ y₂ x₂ => wpAny_pure ?_)))))
  exact hQ _ s₂ (y₁.trans y₂) (VRs.cons (x₁.step y₂) x₂)
theorem Ev.list {es : List Expr} {pos : Pos} {ds : List D} (h : Es W C σ μ pos es ds) (hl : ds.length ≤ sizeLine) : Ev W C σ μ (.List es pos) (.lst ds) := by
  refine ⟨fun s Q E R hQ => ?_⟩
  refine wpAny_List_spliced (h.run s _ _ R fun vs s₁ y₁ x₁ => ⟨by rw [x₁.length]; exact hl, ?_⟩)
  refine hQ _ _ (y₁.trans (Stp.push _ (Nat.le_refl _))) ⟨_, vs.toArray, rfl, C.D_new (R.step y₁) (Nat.le_refl _), ⟨0, Heap.get?_push_size _ rfl⟩, ?_⟩
  exact x₁.mono (Nat.le_refl _) fun c o hp e => ⟨hp, Heap.get?_push_of_some _ e⟩
theorem Ev.tuple {es : List Expr} {k : Nat} {pos : Pos} {ds : List D} (h : Es W C σ μ pos es ds) (hl : ds.length ≤ sizeLine) : Ev W C σ μ (.Tuple es k pos) (.tup ds) := by
  refine ⟨fun s Q E R hQ => ?_⟩
  refine wpAny_Tuple_spliced (h.run s _ _ R fun vs s₁ y₁ x₁ => ⟨by rw [x₁.length]; exact hl, ?_⟩)
  refine hQ _ _ (y₁.trans (Stp.push _ (Nat.le_refl _))) ⟨_, vs.toArray, rfl, C.D_new (R.step y₁) (Nat.le_refl _), ⟨0, Heap.get?_push_size _ rfl⟩, ?_⟩
  exact x₁.mono (Nat.le_refl _) fun c o hp e => ⟨hp, Heap.get?_push_of_some _ e⟩
end
end Mine

namespace Mine

inductive FD where
  | next | brk | cont
  | ret (d : D)
noncomputable def FR (P : Addr → Prop) (k : Nat) (h : Heap) : FD → Flow → Prop
  | .next, f => f = .next
  | .brk, f => f = .brk
  | .cont, f => f = .cont
  | .ret d, f => ∃ v, f = .ret v ∧ VR P k h d v
theorem FR.mono {P P' : Addr → Prop} {k k' : Nat} {h h' : Heap} (hkk : k ≤ k') (hk : ∀ a o, P a → h.get? a = some o → P' a ∧ h'.get? a = some o) : ∀ {d : FD} {f : Flow}, FR P k h d f → FR P' k' h' d f
  | .next, _, x => x
  | .brk, _, x => x
  | .cont, _, x => x
  | .ret _, _, x => let ⟨v, e, r⟩ := x; ⟨v, e, r.mono hkk hk⟩

noncomputable def upd (σ : Sg) (x : Str) (d : D) : Sg := fun y => if y = x then some d else σ y
noncomputable def sg (l : List (Str × D)) : Sg := fun x => l.lookup x
noncomputable def Le (σ' σ : Sg) : Prop := ∀ x d, σ' x = some d → σ x = some d
theorem Le.refl (σ : Sg) : Le σ σ := fun _ _ h => h
theorem Le.trans {σ σ' σ'' : Sg} (h : Le σ σ') (h' : Le σ' σ'') : Le σ σ'' := fun x d e => h' x d (h x d e)
theorem Le.sg {l : List (Str × D)} {σ : Sg} (h : ∀ p ∈ l, σ p.1 = some p.2) : Le (sg l) σ := fun x d e => h (x, d) (mem_of_lookup e)
theorem Le.nil {σ : Sg} : Le (Mine.sg []) σ := fun x d e => nomatch e
theorem Le.cons {l : List (Str × D)} {σ : Sg} {x : Str} {d : D} (h : σ x = some d) (hr : Le (Mine.sg l) σ) : Le (Mine.sg ((x, d) :: l)) σ := by
  intro y e he
  unfold Mine.sg at he
  rw [List.lookup_cons] at he
  cases hb : y == x with
  | true => rw [hb] at he; cases he; rw [beq_iff_eq.mp hb]; exact h
  | false => rw [hb] at he; exact hr y e he
theorem Le.upd {σ' σ : Sg} (h : Le σ' σ) (x : Str) (d : D) : Le (upd σ' x d) (upd σ x d) := by
  intro y e he
  unfold Mine.upd at he ⊢
  split <;> rename_i hh
  · rw [if_pos hh] at he; exact he
  · rw [if_neg hh] at he; exact h y e he

section
variable {prog : Program} {w : World} {W : Glob prog w} {C : Act} {σ : Sg} {μ : Mu}

structure Exs {prog : Program} {w : World} (W : Glob prog w) (C : Act) (σ : Sg) (μ : Mu) (sts : List Stmt) (K : FD → Sg → Mu → Prop) : Prop where
  run : ∀ (s : Shared) (Q : Flow → Shared → Prop) (E : Value → Shared → Prop), Rep W C σ μ s →
    (∀ fd fl σ' μ' s', K fd σ' μ' → Rep W C σ' μ' s' → Mv (C.mut μ) s s' → (∀ a ∈ C.mut μ', a ∈ C.mut μ ∨ s.heap.objs.size ≤ a) → FR (C.D μ') s'.toks s'.heap fd fl → Q fl s') →
    wpAny (model prog w) C.A (execs sts C.env) Q E s

theorem Rep.weaken {s : Shared} {σ' : Sg} (R : Rep W C σ μ s) (h : Le σ' σ) : Rep W C σ' μ s := by
  refine ⟨R.top, R.size, ?_, ?_, R.mem, R.nodup, R.low, R.lt, R.tpos⟩
  · obtain ⟨m, hn, hm⟩ := R.loc
    exact ⟨m, hn, fun x d e k => hm x d (h x d e) k⟩
  · intro x c hc hk
    obtain ⟨v, hv, r⟩ := R.cell x c hc hk
    exact ⟨v, hv, fun d e => r d (h x d e)⟩

theorem Exs.weaken {σ' : Sg} {sts : List Stmt} {K : FD → Sg → Mu → Prop} (h : Le σ' σ) (hx : Exs W C σ' μ sts K) : Exs W C σ μ sts K :=
  ⟨fun s Q E R hQ => hx.run s Q E (R.weaken h) hQ⟩
theorem Exs.conseq {sts : List Stmt} {K K' : FD → Sg → Mu → Prop} (hx : Exs W C σ μ sts K') (h : ∀ f σ' μ', K' f σ' μ' → K f σ' μ') : Exs W C σ μ sts K :=
  ⟨fun s Q E R hQ => hx.run s Q E R fun fd fl σ' μ' s' k => hQ fd fl σ' μ' s' (h _ _ _ k)⟩

theorem Exs.nil {K : FD → Sg → Mu → Prop} (h : K .next σ μ) : Exs W C σ μ [] K :=
  ⟨fun s Q E R hQ => wpAny_execs_nil (hQ .next _ σ μ s h R (Mv.refl _ _) (fun a ha => .inl ha) rfl)⟩

structure Ex1 {prog : Program} {w : World} (W : Glob prog w) (C : Act) (σ : Sg) (μ : Mu) (st : Stmt) (K : FD → Sg → Mu → Prop) : Prop where
  run : ∀ (s : Shared) (Q : Flow → Shared → Prop) (E : Value → Shared → Prop), Rep W C σ μ s →
    (∀ fd fl σ' μ' s', K fd σ' μ' → Rep W C σ' μ' s' → Mv (C.mut μ) s s' → (∀ a ∈ C.mut μ', a ∈ C.mut μ ∨ s.heap.objs.size ≤ a) → FR (C.D μ') s'.toks s'.heap fd fl → Q fl s') →
    wpAny (model prog w) C.A (exec st C.env) Q E s

theorem Exs.cons {st : Stmt} {rest : List Stmt} {K K' : FD → Sg → Mu → Prop} (h : Ex1 W C σ μ st K') (hn : ∀ σ' μ', K' .next σ' μ' → Exs W C σ' μ' rest K) (ho : ∀ f σ' μ', f ≠ .next → K' f σ' μ' → K f σ' μ') : Exs W C σ μ (st :: rest) K := by
  refine ⟨fun s Q E R hQ => ?_⟩
  refine wpAny_execs_cons (h.run s _ _ R fun fd fl σ' μ' s' k R' y new fr => ?_)
  cases fd with
  | next =>
    cases fr
    refine (hn σ' μ' k).run s' _ _ R' fun fd fl σ'' μ'' s'' k' R'' y' new' fr' => ?_
    refine hQ fd fl σ'' μ'' s'' k' R'' (y.trans y' fun a ha => ?_) (fun a ha => ?_) fr'
    · exact new a ha
    · rcases new' a ha with z | z
      · exact new a z
      · exact .inr (Nat.le_trans y.size z)
  | brk => cases fr; exact hQ .brk _ σ' μ' s' (ho _ _ _ (by intro z; cases z) k) R' y new rfl
  | cont => cases fr; exact hQ .cont _ σ' μ' s' (ho _ _ _ (by intro z; cases z) k) R' y new rfl
  | ret d =>
    obtain ⟨v, rfl, r⟩ := fr
    exact hQ (.ret d) _ σ' μ' s' (ho _ _ _ (by intro z; cases z) k) R' y new ⟨v, rfl, r⟩

theorem Exs.one {st : Stmt} {rest : List Stmt} {σ' : Sg} {μ' : Mu} {K : FD → Sg → Mu → Prop} (h : Ex1 W C σ μ st (fun f σ₁ μ₁ => f = .next ∧ σ₁ = σ' ∧ μ₁ = μ')) (hn : Exs W C σ' μ' rest K) : Exs W C σ μ (st :: rest) K :=
  Exs.cons h (fun _ _ ⟨_, a, b⟩ => a ▸ b ▸ hn) (fun _ _ _ n ⟨z, _⟩ => absurd z n)

theorem Rep.storeL (O : C.Ok) {s : Shared} (R : Rep W C σ μ s) {x : Str} {v : Value} {d : D} (r : VR (C.D μ) s.toks s.heap d v) {Q : Unit → Shared → Prop} {E : Value → Shared → Prop}
    (hk : C.env.kindOf x = some .local)
    (h : ∀ s', Rep W C (upd σ x d) μ s' → Mv [C.env.locals] s s' → Q () s') : wpAny (model prog w) C.A (storeName C.env x v) Q E s := by
  have hL : C.env.locals ∈ C.mut μ := List.mem_append_left _ List.mem_cons_self
  obtain ⟨m, hn, hm⟩ := R.loc
  refine wpAny_storeName_local hk hn (fun h' hn' hs => h _ ?_ ?_) (by rw [O.kind]; rfl)
  · have keyD : ∀ a o, C.D μ a → s.heap.get? a = some o → C.D μ a ∧ h'.get? a = some o := fun a o p e => ⟨p, hs.extBut a o (fun z => p.2 (z ▸ hL)) e⟩
    refine ⟨W.mono R.top (fun b o hb e => hs.extBut b o (fun z => R.low _ hL (z ▸ hb)) e) (Nat.le_of_eq hs.1.symm), by show C.bsz ≤ h'.objs.size; rw [hs.1]; exact R.size, ⟨_, hn', ?_⟩, ?_, ?_, R.nodup, R.low, fun a ha => by show a < h'.objs.size; rw [hs.1]; exact R.lt a ha, Nat.succ_pos _⟩
    · intro y e he hky
      unfold upd at he
      by_cases hy : y = x
      · subst hy
        rw [if_pos rfl] at he; cases he
        exact ⟨v, by simp, r.mono (Nat.le_succ _) keyD⟩
      · rw [if_neg hy] at he
        obtain ⟨u, hu, ru⟩ := hm y e he hky
        exact ⟨u, by simp [hy, hu], ru.mono (Nat.le_succ _) keyD⟩
    · intro y c hcy hky
      obtain ⟨u, ⟨o, ho, hd⟩, ru⟩ := R.cell y c hcy hky
      have hne : c ≠ C.env.locals := fun z => by
        have nd := (List.nodup_append.mp R.nodup).1
        have := (List.nodup_cons.mp nd).1
        exact this (z ▸ O.cell y c hcy)
      refine ⟨u, ⟨o, hs.extBut _ _ hne ho, hd⟩, fun e he => ?_⟩
      unfold upd at he
      by_cases hy : y = x
      · subst hy
        rcases hky with z | z <;> rw [z] at hk <;> cases hk
      · rw [if_neg hy] at he
        obtain ⟨u', hu', ru'⟩ := ru e he
        exact ⟨u', hu', ru'.mono (Nat.le_succ _) keyD⟩
    · intro p hp
      refine (R.mem p hp).mono (Nat.le_succ _) keyD fun o e => hs.extBut _ o (fun z => ?_) e
      have nd := List.nodup_append.mp R.nodup
      exact nd.2.2 _ List.mem_cons_self p.1 (List.mem_map_of_mem hp) z.symm
  · exact ⟨fun b o e hb => hs.extBut b o (fun z => hb (z ▸ List.mem_cons_self)) e, Nat.le_of_eq hs.1.symm, rfl, rfl, rfl, Nat.le_succ _⟩

theorem Rep.store (O : C.Ok) {s : Shared} (R : Rep W C σ μ s) {x : Str} {v : Value} {d : D} (r : VR (C.D μ) s.toks s.heap d v) {Q : Unit → Shared → Prop} {E : Value → Shared → Prop}
    (hk : C.env.kindOf x = some .local ∨ (C.env.kindOf x = some .cell ∧ (C.env.cells.lookup x).isSome = true))
    (h : ∀ s', Rep W C (upd σ x d) μ s' → Mv (C.mut μ) s s' → Q () s') : wpAny (model prog w) C.A (storeName C.env x v) Q E s := by
  have hL : C.env.locals ∈ C.mut μ := List.mem_append_left _ List.mem_cons_self
  rcases hk with hk | ⟨hk, hc⟩
  · exact Rep.storeL O R r hk fun s' R' y => h s' R' (y.wk fun a ha => by rcases List.mem_cons.mp ha with rfl | ha; exact hL; cases ha)
  obtain ⟨m, hn, hm⟩ := R.loc
  obtain ⟨c, hc⟩ := Option.isSome_iff_exists.mp hc
  have hcm : c ∈ C.fix := List.mem_cons_of_mem _ (O.cell x c hc)
  have hcM : c ∈ C.mut μ := List.mem_append_left _ hcm
  obtain ⟨v₀, hv₀, _⟩ := R.cell x c hc (.inl hk)
  have hne : C.env.locals ≠ c := fun z => by
    have nd := (List.nodup_append.mp R.nodup).1
    have := (List.nodup_cons.mp nd).1
    exact this (z ▸ O.cell x c hc)
  refine wpAny_storeName_cell O.kind hk hc hv₀ (fun h' hv' hs => h _ ?_ ?_)
  · have keyD : ∀ a o, C.D μ a → s.heap.get? a = some o → C.D μ a ∧ h'.get? a = some o := fun a o p e => ⟨p, hs.extBut a o (fun z => p.2 (z ▸ hcM)) e⟩
    refine ⟨W.mono R.top (fun b o hb e => hs.extBut b o (fun z => R.low _ hcM (z ▸ hb)) e) (Nat.le_of_eq hs.1.symm), by show C.bsz ≤ h'.objs.size; rw [hs.1]; exact R.size, ⟨_, hn.sameBut hs hne, ?_⟩, ?_, ?_, R.nodup, R.low, fun a ha => by show a < h'.objs.size; rw [hs.1]; exact R.lt a ha, R.tpos⟩
    · intro y e he hky
      unfold upd at he
      by_cases hy : y = x
      · subst hy; rw [hk] at hky; cases hky
      · rw [if_neg hy] at he
        obtain ⟨u, hu, ru⟩ := hm y e he hky
        exact ⟨u, hu, ru.mono (Nat.le_refl _) keyD⟩
    · intro y c' hcy hky
      by_cases hy : y = x
      · subst hy
        rw [hc] at hcy; cases hcy
        refine ⟨_, hv', fun e he => ?_⟩
        unfold upd at he
        rw [if_pos rfl] at he; cases he
        exact ⟨v, rfl, r.mono (Nat.le_refl _) keyD⟩
      · obtain ⟨u, ⟨o, ho, hd⟩, ru⟩ := R.cell y c' hcy hky
        have hne' : c' ≠ c := fun z => hy (O.inj y x c (z ▸ hcy) hc)
        refine ⟨u, ⟨o, hs.extBut _ _ hne' ho, hd⟩, fun e he => ?_⟩
        unfold upd at he
        rw [if_neg hy] at he
        obtain ⟨u', hu', ru'⟩ := ru e he
        exact ⟨u', hu', ru'.mono (Nat.le_refl _) keyD⟩
    · intro p hp
      refine (R.mem p hp).mono (Nat.le_refl _) keyD fun o e => hs.extBut _ o (fun z => ?_) e
      have nd := List.nodup_append.mp R.nodup
      exact nd.2.2 c hcm p.1 (List.mem_map_of_mem hp) z.symm
  · exact ⟨fun b o e hb => hs.extBut b o (fun z => hb (z ▸ hcM)) e, Nat.le_of_eq hs.1.symm, rfl, rfl, rfl, Nat.le_refl _⟩

noncomputable def Stores (C : Act) (x : Str) : Prop := C.env.kindOf x = some .local ∨ (C.env.kindOf x = some .cell ∧ (C.env.cells.lookup x).isSome = true)

theorem Mv.ofStp {M : List Addr} {s s' s'' : Shared} (y : Stp s s') (z : Mv M s' s'') : Mv M s s'' := Mv.trans (M := M) (y.wk (fun _ h => nomatch h)) z fun a ha => .inl ha

theorem Ex1.assign (O : C.Ok) {x : Str} {p pos : Pos} {e : Expr} {d : D} (hx : Stores C x) (he : Ev W C σ μ e d)
    (hs : swapsWith e (some (.Name x p)) pos.line C.env = pure false) : Ex1 W C σ μ (.Assign [.Name x p] e pos) (fun f σ' μ' => f = .next ∧ σ' = upd σ x d ∧ μ' = μ) := by
  refine ⟨fun s Q E R hQ => ?_⟩
  refine wpAny_Assign_Name (he.run s _ _ R fun v s₁ y₁ x₁ => Rep.store O (R.step y₁) x₁ hx fun s₂ R₂ y₂ => ?_) hs
  exact hQ .next _ _ _ s₂ ⟨rfl, rfl, rfl⟩ R₂ (Mv.ofStp y₁ y₂) (fun a ha => .inl ha) rfl
theorem Exs.assign (O : C.Ok) {x : Str} {p pos : Pos} {e : Expr} {d : D} {rest : List Stmt} {K : FD → Sg → Mu → Prop} (hx : Stores C x) (he : Ev W C σ μ e d)
    (hr : Exs W C (upd σ x d) μ rest K) (hs : swapsWith e (some (.Name x p)) pos.line C.env = pure false := by rfl) : Exs W C σ μ (.Assign [.Name x p] e pos :: rest) K :=
  Exs.one (Ex1.assign O hx he hs) hr

theorem Ex1.ret {e : Expr} {pos : Pos} {d : D} (he : Ev W C σ μ e d) : Ex1 W C σ μ (.Return (some e) pos) (fun f σ' μ' => f = .ret d ∧ σ' = σ ∧ μ' = μ) := by
  refine ⟨fun s Q E R hQ => ?_⟩
  refine wpAny_Return_some (he.run s _ _ R fun v s₁ y₁ x₁ => ?_)
  exact hQ (.ret d) _ _ _ s₁ ⟨rfl, rfl, rfl⟩ (R.step y₁) (y₁.wk fun _ h => nomatch h) (fun a ha => .inl ha) ⟨v, rfl, x₁⟩
theorem Exs.ret {e : Expr} {pos : Pos} {d : D} {rest : List Stmt} {K : FD → Sg → Mu → Prop} (he : Ev W C σ μ e d) (hk : K (.ret d) σ μ) : Exs W C σ μ (.Return (some e) pos :: rest) K :=
  Exs.cons (Ex1.ret he) (fun _ _ ⟨z, _⟩ => nomatch z) (fun _ _ _ _ ⟨a, b, c⟩ => a ▸ b ▸ c ▸ hk)

theorem Ex1.ite {t : Expr} {a b : List Stmt} {pos : Pos} {c : Bool} {K : FD → Sg → Mu → Prop} (ht : Ts W C σ μ t c) (ha : c = true → Exs W C σ μ a K) (hb : c = false → Exs W C σ μ b K) : Ex1 W C σ μ (.If t a b pos) K := by
  refine ⟨fun s Q E R hQ => ?_⟩
  refine wpAny_If (ht.run s _ _ R fun s₁ y₁ => ?_)
  have go : ∀ {st : List Stmt}, Exs W C σ μ st K → wpAny (model prog w) C.A (execs st C.env) Q E s₁ := fun h =>
    h.run s₁ Q E (R.step y₁) fun fd fl σ' μ' s' k R' y new fr => hQ fd fl σ' μ' s' k R' (Mv.ofStp y₁ y) (fun a ha => (new a ha).imp id fun z => Nat.le_trans y₁.size z) fr
  cases c with
  | true => exact go (ha rfl)
  | false => exact go (hb rfl)
theorem Exs.ite {t : Expr} {a b : List Stmt} {pos : Pos} {c : Bool} {rest : List Stmt} {K : FD → Sg → Mu → Prop} (ht : Ts W C σ μ t c)
    (ha : c = true → Exs W C σ μ a (fun f σ' μ' => match f with | .next => Exs W C σ' μ' rest K | f => K f σ' μ'))
    (hb : c = false → Exs W C σ μ b (fun f σ' μ' => match f with | .next => Exs W C σ' μ' rest K | f => K f σ' μ')) : Exs W C σ μ (.If t a b pos :: rest) K :=
  Exs.cons (Ex1.ite ht ha hb) (fun _ _ h => h) (fun f _ _ n h => by cases f <;> first | exact absurd rfl n | exact h)
end
end Mine

namespace Mine

noncomputable def Lvl (n : Nat) (A : Around) : Prop := A.depth + n ≤ 900 ∧ A.units + 8 * n ≤ 9000 ∧ A.handled = none
theorem Lvl.le {n m : Nat} {A : Around} (h : Lvl n A) (hm : m ≤ n) : Lvl m A := ⟨by have := h.1; omega, by have := h.2.1; omega, h.2.2⟩
theorem Lvl.deeper {n : Nat} {A : Around} (h : Lvl (n + 1) A) (env : Env) : Lvl n (A.deeper env) := ⟨by have := h.1; show A.depth + 1 + n ≤ _; omega, by have := h.2.1; show A.units + 3 + 8 * n ≤ _; omega, h.2.2⟩
theorem Lvl.in1 {n : Nat} {A : Around} (h : Lvl (n + 1) A) : Lvl n A.in1 := ⟨by have := h.1; show A.depth + n ≤ _; omega, by have := h.2.1; show A.units + 1 + 8 * n ≤ _; omega, h.2.2⟩

section
variable {prog : Program} {w : World} {W : Glob prog w} {C : Act} {σ : Sg} {μ : Mu}

noncomputable def Fn {prog : Program} {w : World} (W : Glob prog w) (a : Addr) (n : Nat) (ds : List D) (d : D) : Prop :=
  ∀ (A : Around) (s : Shared) (vals : List Value) (P : Addr → Prop) (R : Result → Shared → Prop), Lvl n A → W.G s.heap → W.n₀ ≤ s.heap.objs.size → 0 < s.toks → VRs P s.toks s.heap ds vals →
    (∀ v s', Stp s s' → VR (fun b => P b ∨ s.heap.objs.size ≤ b) s'.toks s'.heap d v → R (.ok (.ret v)) s') → codeAny (model prog w) A (.call (.ref a) ⟨vals, []⟩) R s

theorem Fn.le {a : Addr} {n m : Nat} {ds : List D} {d : D} (h : Fn W a n ds d) (hm : n ≤ m) : Fn W a m ds d :=
  fun A s vals P R hl => h A s vals P R (hl.le hm)

theorem Rep.n₀ {s : Shared} (R : Rep W C σ μ s) : W.n₀ ≤ s.heap.objs.size := W.big R.top

theorem Rep.res {s s' : Shared} (R : Rep W C σ μ s) {d : D} {v : Value} {k : Nat} {h : Heap} (x : VR (fun b => C.D μ b ∨ s.heap.objs.size ≤ b) k h d v) : VR (C.D μ) k h d v :=
  x.mono (Nat.le_refl _) fun a o hp e => ⟨hp.elim id fun z => C.D_new R z, e⟩

theorem Ev.callFn (O : C.Ok) {f : Str} {p pos : Pos} {args : List Expr} {ds : List D} {d : D} {a : Addr} {n : Nat} {fd : FuncData} (hk : C.env.kindOf f = some .globalImplicit) (hg : W.mg f = some (.ref a))
    (hf : ∀ {h : Heap}, W.G h → ∃ o, h.get? a = some o ∧ o.data = .func fd)
    (ha : Es W C σ μ pos args ds) (hF : Fn W a n ds d) (hl : Lvl n C.A) (hne : args ≠ [])
    (hq : starEach args C.env = args.map (fun e => (false, eval e C.env)) := by rfl) (hd : (f == ("__debug__" : Str)) = false := by decide) : Ev W C σ μ (.Call (.Name f p) args [] pos) d := by
  refine ⟨fun s Q E R hQ => ?_⟩
  refine wpAny_Call_NameR (wp_global O R hk hg ?_ hd)
  cases args with
  | nil => exact absurd rfl hne
  | cons e rest =>
    have hse : backTo pos (starEach (e :: rest) C.env) = (false, eval e C.env) :: backTo pos (starEach rest C.env) := by
      rw [hq]
      have : starEach rest C.env = rest.map (fun e => (false, eval e C.env)) := by
        have : starEach (e :: rest) C.env = (false, eval e C.env) :: starEach rest C.env := by
          cases e <;> first | rfl | (rw [hq]; simp [starEach] at hq)
        rw [this] at hq
        exact (List.cons.inj hq).2
      rw [this]; simp [backTo]
    obtain ⟨o, ho, hdat⟩ := hf R.top
    refine Calls.callWith_function (o := o) (fd := fd) ?_
    rw [hse]
    refine Calls.evalArgs_plain ?_
    rw [← hse]
    refine ha.run s _ _ R fun vs s₁ y₁ x₁ => ⟨⟨y₁.all _ _ ho, hdat⟩, wpAny_call ?_⟩
    have R₁ := R.step y₁
    refine hF C.A s₁ _ (C.D μ) _ hl R₁.top R₁.n₀ R₁.tpos x₁ fun v s₂ y₂ x₂ => ?_
    exact hQ v s₂ (y₁.trans y₂) (Rep.res (s' := s₂) R₁ x₂)

theorem bindL_get {kindOf : Str → Option NameKind} : ∀ {l : List (Str × Value)} {m : Str → Option Value} {x : Str} {v : Value}, (l.map (·.1)).Nodup → (x, v) ∈ l → kindOf x = some .local → bindL kindOf l m x = some v
  | (y, u) :: r, m, x, v, nd, hm, hk => by
    obtain ⟨h1, h2⟩ := List.nodup_cons.mp nd
    rw [bindL]
    rcases List.mem_cons.mp hm with e | hm
    · cases e
      rw [if_pos hk]
      clear hm h2
      have : ∀ (r : List (Str × Value)) (m : Str → Option Value), y ∉ r.map (·.1) → bindL kindOf r m y = m y := by
        intro r
        induction r with
        | nil => intro m _; rfl
        | cons z r ih =>
          intro m hx
          obtain ⟨z, b⟩ := z
          rw [bindL, ih _ (fun q => hx (List.mem_cons_of_mem _ q))]
          have : y ≠ z := fun q => hx (by rw [q]; exact List.mem_cons_self)
          split
          · simp [this]
          · rfl
      rw [this r _ h1]; simp
    · exact bindL_get h2 hm hk
theorem bindC_get {kindOf : Str → Option NameKind} : ∀ {l : List (Str × Value)} {m : Str → Option Value} {x : Str} {v : Value}, (l.map (·.1)).Nodup → (x, v) ∈ l → kindOf x ≠ some .local → bindC kindOf l m x = some v
  | (y, u) :: r, m, x, v, nd, hm, hk => by
    obtain ⟨h1, h2⟩ := List.nodup_cons.mp nd
    rw [bindC]
    rcases List.mem_cons.mp hm with e | hm
    · cases e
      rw [if_neg hk]
      clear hm h2
      have : ∀ (r : List (Str × Value)) (m : Str → Option Value), y ∉ r.map (·.1) → bindC kindOf r m y = m y := by
        intro r
        induction r with
        | nil => intro m _; rfl
        | cons z r ih =>
          intro m hx
          obtain ⟨z, b⟩ := z
          rw [bindC, ih _ (fun q => hx (List.mem_cons_of_mem _ q))]
          have : y ≠ z := fun q => hx (by rw [q]; exact List.mem_cons_self)
          split
          · rfl
          · simp [this]
      rw [this r _ h1]; simp
    · exact bindC_get h2 hm hk
theorem zip_mem {P : Addr → Prop} {k : Nat} {h : Heap} : ∀ {ps : List Str} {ds : List D} {vs : List Value} {x : Str} {d : D}, VRs P k h ds vs → (x, d) ∈ ps.zip ds → ∃ v, (x, v) ∈ ps.zip vs ∧ VR P k h d v
  | [], _, _, _, _, _, m => by simp at m
  | _ :: _, [], _, _, _, _, m => by simp at m
  | p :: ps, d :: ds, _, x, d', r, m => by
    obtain ⟨v, vs, rfl, a, b⟩ := r
    rw [List.zip_cons_cons] at m
    rcases List.mem_cons.mp m with e | m
    · cases e; exact ⟨v, by simp, a⟩
    · obtain ⟨u, hu, ru⟩ := zip_mem b m
      exact ⟨u, by rw [List.zip_cons_cons]; exact List.mem_cons_of_mem _ hu, ru⟩

theorem cellsFrom_names : ∀ (names : List (Str × NameKind)) (k : Nat) (acc : List (Str × Addr)), (cellsFrom k names acc).map (·.1) = ((names.filter (fun x => x.2 == .cell)).map (·.1)).reverse ++ acc.map (·.1)
  | [], k, acc => rfl
  | (n, kd) :: r, k, acc => by
    unfold cellsFrom
    cases h : kd == NameKind.cell with
    | true => simp only [if_true, List.filter_cons, h, List.map_cons, List.reverse_cons]; rw [cellsFrom_names r]; simp
    | false => simp only [Bool.false_eq_true, if_false, List.filter_cons, h]; exact cellsFrom_names r k acc

noncomputable abbrev mkC (A : Around) (fd : FuncData) (L a : Addr) (P : Addr → Prop) (bsz : Nat) : Act := ⟨A, callEnvC fd L a, P, bsz, (cellsFrom (L + 1) fd.scope.names []).map (·.2)⟩

structure IsDef (W : Glob prog w) (a : Addr) (nm : Str) (params : Arguments) (body : List Stmt) (scope : Scope) (pm cd doc : Value) : Prop where
  obj : ∀ {h : Heap}, W.G h → ∃ o, h.get? a = some o ∧ o.data = .func (Calls.docDef nm params body scope pm cd doc)
  code : ∀ {h : Heap}, W.G h → h.CodeRec cd nm

theorem Fn.of_body {a : Addr} {n : Nat} {ds : List D} {d : D} {nm : Str} {params : Arguments} {body : List Stmt} {scope : Scope} {pm cd doc : Value} (ps : List Str)
    (hf : IsDef W a nm params body scope pm cd doc)
    (hbind : ∀ vals, vals.length = ps.length → bindArgs (Calls.docDef nm params body scope pm cd doc) ⟨vals, []⟩ = pure (ps.zip vals))
    (hlen : ds.length = ps.length)
    (h : ∀ (A : Around) (L : Addr) (P : Addr → Prop) (bsz : Nat), (mkC A (Calls.docDef nm params body scope pm cd doc) L a P bsz).Ok → Lvl n A →
      Exs W (mkC A (Calls.docDef nm params body scope pm cd doc) L a P bsz) (fun x => (ps.zip ds).lookup x) [] body (fun f _ _ => f = .ret d ∨ (f = .next ∧ d = .none)))
    (hnd : ps.Nodup := by decide +kernel)
    (hkind : ∀ x ∈ ps, scope.names.lookup x = some .local ∨ (scope.names.lookup x = some .cell ∧ ∀ k, ((cellsFrom k scope.names []).lookup x).isSome = true) := by intro x hx; simp only [List.mem_cons, List.not_mem_nil, or_false] at hx; rcases hx with rfl | rfl | rfl <;> first | exact .inl rfl | exact .inr ⟨rfl, fun _ => rfl⟩)
    (hcnd₀ : ((scope.names.filter (fun x => x.2 == .cell)).map (·.1)).Nodup := by decide +kernel)
    (hco : scope.isCoroutine = false := by rfl) (hgen : scope.isGenerator = false := by rfl) (hk : scope.kind = .function := by rfl) : Fn W a (n + 1) ds d := by
  intro A s vals P R hl hG hn₀ htk hv hR
  have hcnd : ∀ k, ((cellsFrom k scope.names []).map (·.1)).Nodup := fun k => by rw [cellsFrom_names, List.map_nil, List.append_nil]; exact (List.reverse_perm _).nodup_iff.mpr hcnd₀
  obtain ⟨o, ho, hdat⟩ := hf.obj hG
  have hvl : vals.length = ps.length := hv.length.trans hlen
  have hmap : (ps.zip vals).map (·.1) = ps := by rw [List.map_fst_zip]; omega
  refine codeAny_call_function (by unfold recursionLimit; have := hl.1; omega) ho hdat hco hgen rfl (hf.code hG) ?_
  rw [hbind vals hvl]
  refine wpAny_pure (wpAny_tk (wpAny_newFunctionEnv_cells hk ?_ fun env he s₁ x₁ htk₁ => ?_))
  · intro x hx
    have hx' : x.1 ∈ ps := by rw [← hmap]; exact List.mem_map_of_mem hx
    exact (hkind x.1 hx').imp id fun z => ⟨z.1, z.2 _⟩
  have he' : env = callEnvC (Calls.docDef nm params body scope pm cd doc) s.heap.objs.size a := he
  subst he'
  refine ⟨(W.lim hG).keeps x₁.toInCall.keep, codeAny_func ?_⟩
  have kindOf : ∀ x, (callEnvC (Calls.docDef nm params body scope pm cd doc) s.heap.objs.size a).kindOf x = scope.names.lookup x := fun _ => rfl
  have hL : (callEnvC (Calls.docDef nm params body scope pm cd doc) s.heap.objs.size a).locals = s.heap.objs.size := rfl
  have hcs : (callEnvC (Calls.docDef nm params body scope pm cd doc) s.heap.objs.size a).cells = cellsFrom (s.heap.objs.size + 1) scope.names [] := rfl
  obtain ⟨h₁, tk₁, e₁⟩ := x₁.toInCall.same
  have hkeep := x₁.toInCall.keep
  rw [hL, hcs] at x₁
  have hlt : s.heap.objs.size < s₁.heap.objs.size := x₁.toInCall.ns.lt
  have lookup_of : ∀ {x : Str} {c : Addr}, (x, c) ∈ cellsFrom (s.heap.objs.size + 1) scope.names [] → (cellsFrom (s.heap.objs.size + 1) scope.names []).lookup x = some c := by
    have gen : ∀ {cs : List (Str × Addr)}, (cs.map (·.1)).Nodup → ∀ {x : Str} {c : Addr}, (x, c) ∈ cs → cs.lookup x = some c := by
      intro cs
      induction cs with
      | nil => intro _ x c h; cases h
      | cons z r ih =>
        intro nd x c hm
        obtain ⟨h1, h2⟩ := List.nodup_cons.mp nd
        rw [List.lookup_cons]
        rcases List.mem_cons.mp hm with e | hm
        · cases e; simp
        · have : (x == z.1) = false := beq_eq_false_iff_ne.mpr fun q => h1 (by show z.1 ∈ _; rw [← q]; exact List.mem_map_of_mem (f := (·.1)) hm)
          rw [this]; exact ih h2 hm
    intro x c hm; exact gen (hcnd _) hm
  -- what the callee's mutable addresses are
  have hmut : ∀ b ∈ (mkC (A.deeper (callEnvC (Calls.docDef nm params body scope pm cd doc) s.heap.objs.size a)) (Calls.docDef nm params body scope pm cd doc) s.heap.objs.size a P s.heap.objs.size).mut [], s.heap.objs.size ≤ b ∧ b < s₁.heap.objs.size := by
    intro b hb
    rcases List.mem_append.mp hb with hb | hb
    · rcases List.mem_cons.mp hb with rfl | hb
      · exact ⟨Nat.le_refl _, hlt⟩
      · obtain ⟨⟨x, c⟩, hm, rfl⟩ := List.mem_map.mp hb
        obtain ⟨o', ho', _⟩ := x₁.cell x c (lookup_of hm)
        exact ⟨Nat.le_of_lt (x₁.above x c hm), Heap.lt_size ho'⟩
    · cases hb
  have hD : ∀ b o, P b → s.heap.get? b = some o → (mkC (A.deeper (callEnvC (Calls.docDef nm params body scope pm cd doc) s.heap.objs.size a)) (Calls.docDef nm params body scope pm cd doc) s.heap.objs.size a P s.heap.objs.size).D [] b ∧ s₁.heap.get? b = some o :=
    fun b o hp e => ⟨⟨.inl hp, fun hm => Nat.lt_irrefl _ (Nat.lt_of_lt_of_le (Heap.lt_size e) (hmut b hm).1)⟩, hkeep b o e⟩
  have O : (mkC (A.deeper (callEnvC (Calls.docDef nm params body scope pm cd doc) s.heap.objs.size a)) (Calls.docDef nm params body scope pm cd doc) s.heap.objs.size a P s.heap.objs.size).Ok := by
    refine ⟨hk, hl.2.2, rfl, rfl, ?_, ?_, ?_, ?_⟩
    · intro x c hc; exact List.mem_map.mpr ⟨(x, c), mem_of_lookup hc, rfl⟩
    · intro x y c hx hy; exact name_of_addr x₁.apart (mem_of_lookup hx) (mem_of_lookup hy)
    · show A.depth + 1 < _; unfold recursionLimit; have := hl.1; omega
    · show A.units + 3 < _; unfold cLine; have := hl.2.1; omega
  have hnd' : ((ps.zip vals).map (·.1)).Nodup := by rw [hmap]; exact hnd
  have Rp : Rep W (mkC (A.deeper (callEnvC (Calls.docDef nm params body scope pm cd doc) s.heap.objs.size a)) (Calls.docDef nm params body scope pm cd doc) s.heap.objs.size a P s.heap.objs.size) (fun x => (ps.zip ds).lookup x) [] s₁ := by
    refine ⟨W.mono hG (fun b o _ e => hkeep b o e) (Nat.le_of_lt hlt), Nat.le_of_lt hlt, ⟨_, x₁.toInCall.ns, ?_⟩, ?_, fun p hp => (nomatch hp), ?_, fun b hb => W.nb (Nat.le_trans hn₀ (hmut b hb).1), fun b hb => (hmut b hb).2, Nat.lt_of_lt_of_le htk htk₁⟩
    · intro x e he hkx
      obtain ⟨v, hm, r⟩ := zip_mem hv (mem_of_lookup he)
      exact ⟨v, bindL_get hnd' hm hkx, r.mono htk₁ hD⟩
    · intro x c hc hkx
      refine ⟨_, x₁.cell x c hc, fun e he => ?_⟩
      obtain ⟨v, hm, r⟩ := zip_mem hv (mem_of_lookup he)
      refine ⟨v, bindC_get hnd' hm ?_, r.mono htk₁ hD⟩
      rcases hkx with z | z <;> rw [z] <;> intro q <;> cases q
    · show (s.heap.objs.size :: (cellsFrom (s.heap.objs.size + 1) scope.names []).map (·.2) ++ ([] : List Addr)).Nodup
      rw [List.append_nil, List.nodup_cons]
      refine ⟨fun hm => ?_, ?_⟩
      · obtain ⟨⟨x, c⟩, hm, e⟩ := List.mem_map.mp hm
        have := x₁.above x c hm
        have e' : c = s.heap.objs.size := e
        rw [e'] at this; exact Nat.lt_irrefl _ this
      · exact List.pairwise_map.mpr x₁.apart
  refine (h _ _ P _ O (hl.deeper _)).run s₁ _ _ Rp fun fd fl σ' μ' s' k R' y new fr => ?_
  have hS : Stp s s' := by
    have y0 : Stp s s₁ := ⟨fun b o e _ => hkeep b o e, Nat.le_of_lt hlt, by rw [e₁], by rw [e₁], by rw [e₁], htk₁⟩
    refine ⟨fun b o e _ => y.kept b o (hkeep b o e) fun hm => Nat.lt_irrefl _ (Nat.lt_of_lt_of_le (Heap.lt_size e) (hmut b hm).1), Nat.le_trans y0.size y.size, y.gens.trans y0.gens, y.drawn.trans y0.drawn, y.os.trans y0.os, Nat.le_trans y0.toks y.toks⟩
  rcases k with rfl | ⟨rfl, rfl⟩
  · obtain ⟨v, rfl, r⟩ := fr
    exact hR v s' hS (r.mono (Nat.le_refl _) fun b o hp e => ⟨hp.1, e⟩)
  · cases fr
    exact hR .none s' hS rfl
end
end Mine

namespace Mine
section
variable {prog : Program} {w : World} {W : Glob prog w} {C : Act} {σ : Sg} {μ : Mu}

structure Car (C : Act) (μ : Mu) (s : Shared) (μ' : Mu) (s' : Shared) : Prop where
  hk : ∀ a o, C.D μ a → s.heap.get? a = some o → Seqy o → C.D μ' a ∧ s'.heap.get? a = some o
  tk : s.toks ≤ s'.toks
theorem Car.vr {μ' : Mu} {s s' : Shared} (h : Car C μ s μ' s') {d : D} {v : Value} (x : VR (C.D μ) s.toks s.heap d v) : VR (C.D μ') s'.toks s'.heap d v := x.monoC h.tk h.hk
theorem Car.vrs {μ' : Mu} {s s' : Shared} (h : Car C μ s μ' s') {d : List D} {v : List Value} (x : VRs (C.D μ) s.toks s.heap d v) : VRs (C.D μ') s'.toks s'.heap d v := x.monoC h.tk h.hk
theorem Car.trans {μ' μ'' : Mu} {s s' s'' : Shared} (h : Car C μ s μ' s') (h' : Car C μ' s' μ'' s'') : Car C μ s μ'' s'' :=
  ⟨fun a o p e q => let ⟨p', e'⟩ := h.hk a o p e q; h'.hk a o p' e' q, Nat.le_trans h.tk h'.tk⟩
theorem Car.refl {s : Shared} : Car C μ s μ s := ⟨fun a o p e q => ⟨p, e⟩, Nat.le_refl _⟩
theorem Car.step {s s' : Shared} (y : Stp s s') : Car C μ s μ s' := ⟨fun a o p e q => ⟨p, y.all a o e⟩, y.toks⟩
theorem Car.mv {μ' : Mu} {s s' : Shared} (y : Mv (C.mut μ) s s') (new : ∀ a ∈ C.mut μ', a ∈ C.mut μ ∨ s.heap.objs.size ≤ a) : Car C μ s μ' s' :=
  ⟨fun a o p e q => ⟨⟨p.1, fun hm => (new a hm).elim p.2 fun z => Nat.lt_irrefl _ (Nat.lt_of_lt_of_le (Heap.lt_size e) z)⟩, y.kept a o e p.2⟩, y.toks⟩

noncomputable def Tgt {prog : Program} {w : World} (W : Glob prog w) (C : Act) (μ : Mu) (t : Expr) (d : D) (f : Sg → Sg) : Prop :=
  ∀ (σ : Sg) (s : Shared) (Q : Unit → Shared → Prop) (E : Value → Shared → Prop) (v : Value), Rep W C σ μ s → VR (C.D μ) s.toks s.heap d v →
    (∀ s', Rep W C (f σ) μ s' → Mv (C.mut μ) s s' → Q () s') → wpAny (model prog w) C.A (assign t C.env v) Q E s
theorem Tgt.name (O : C.Ok) {x : Str} {p : Pos} {d : D} (hx : Stores C x) : Tgt W C μ (.Name x p) d (fun σ => upd σ x d) :=
  fun σ s Q E v R r h => wpAny_assign_Name (Rep.store O R r hx h)
theorem Tgt.pair (O : C.Ok) {x y : Str} {p p' p'' : Pos} {k : Nat} {d e : D} (hx : Stores C x) (hy : Stores C y) : Tgt W C μ (.Tuple [.Name x p, .Name y p'] k p'') (.tup [d, e]) (fun σ => upd (upd σ x d) y e) := by
  intro σ s Q E v R r h
  obtain ⟨a, vs, rfl, hp, ⟨n, hg⟩, v₁, vs₁, e₁, r₁, v₂, vs₂, e₂, r₂, e₃⟩ := r
  subst e₃; subst e₂
  have hvs : vs = #[v₁, v₂] := Array.ext' e₁
  subst hvs
  show wpAny _ _ (do standAt p''; assignInOrder [assign (.Name x p) C.env, assign (.Name y p') C.env] (← holding [.ref a] (unpackItems (.ref a) 2 none))) _ _ s
  refine wpAny_bind (wpAny_standAt (wpAny_bind (wpAny_holding (wpAny_gr (wpAny_unpackItems_tuple (items := #[v₁, v₂]) O.hand ⟨_, hg, rfl, n, rfl⟩ fun h' hk => fun gt gs => ?_)))))
  show wpAny _ _ (do holding [v₂] (assign (.Name x p) C.env v₁); assignInOrder [assign (.Name y p') C.env] [v₂]) _ _ _
  have back : ∀ {s' : Shared}, (Stp s s' → Rep W C σ μ s') := fun y => R.step y
  -- the heap between: what stood stands
  have key : hsz s ≤ h'.objs.size := gs
  have y₁ : Stp s { s with heap := h' } := Stp.mk' (fun b o e => hk b o (Nat.ne_of_lt (Heap.lt_size e)) e) key
  refine wpAny_bind (wpAny_holding (Tgt.name O hx σ _ _ _ v₁ (R.step y₁) (r₁.step y₁) fun s₂ R₂ y₂ => ?_))
  show wpAny _ _ (do holding [] (assign (.Name y p') C.env v₂); assignInOrder [] []) _ _ _
  have c : Car C μ _ μ s₂ := Car.mv y₂ fun a ha => .inl ha
  refine wpAny_bind (wpAny_holding (Tgt.name O hy _ s₂ _ _ v₂ R₂ (c.vr (r₂.step y₁)) fun s₃ R₃ y₃ => ?_))
  refine wpAny_pure (h s₃ R₃ ?_)
  exact Mv.ofStp y₁ (y₂.trans y₃ fun a ha => .inl ha)

structure It {prog : Program} {w : World} (W : Glob prog w) (C : Act) (μ : Mu) (s : Shared) (I : Addr) (n : Nat) (vd : Nat → D) (fp : List Addr) (P : Nat → Value → Prop) (St : Nat → Heap → Prop) : Prop where
  walks : Walks prog w C.A I fp [I] n P St
  st : St 0 s.heap
  off : ∀ b ∈ fp, b ∉ C.mut μ ∧ b < s.heap.objs.size
  n0 : W.n₀ ≤ I
  isI : I ∈ fp
  cls : ∀ i h, St i h → ∀ o, h.get? I = some o → ¬ Seqy o
  val : ∀ i v, P i v → i < n → ∀ μ' s', Car C μ s μ' s' → VR (C.D μ') s'.toks s'.heap (vd i) v
  own : ∀ t v, letOwnedTupleGo t (.ref I) v = pure () ∨ ∀ (s' : Shared) (Q : Unit → Shared → Prop) (E : Value → Shared → Prop), (∃ i, St i s'.heap) → Q () s' → wpAny (model prog w) C.A (letOwnedTupleGo t (.ref I) v) Q E s'

structure Itr {prog : Program} {w : World} (W : Glob prog w) (C : Act) (σ : Sg) (μ : Mu) (e : Expr) (n : Nat) (vd : Nat → D) : Prop where
  run : ∀ (s : Shared) (Q : Value → Shared → Prop) (E : Value → Shared → Prop), Rep W C σ μ s →
    (∀ I s' fp P St, Stp s s' → s.heap.objs.size ≤ I → It W C μ s' I n vd fp P St → Q (.ref I) s') → wpAny (model prog w) C.A (eval e C.env) (fun x s₁ => wpAny (model prog w) C.A (pyIter x) Q E s₁) E s

theorem Ex1.for_ (O : C.Ok) {t iter : Expr} {body : List Stmt} {pos : Pos} {n : Nat} {vd : Nat → D} {f : Nat → Sg → Sg} {K : FD → Sg → Mu → Prop} (I : Nat → Sg → Mu → Prop)
    (hi : Itr W C σ μ iter n vd) (ht : ∀ i μ', Tgt W C μ' t (vd i) (f i)) (h0 : I 0 σ μ)
    (turn : ∀ i σ' μ', i < n → I i σ' μ' → Exs W C (f i σ') μ' body (fun fl σ'' μ'' => match fl with | .next | .cont => ∃ σ₃, Le σ₃ σ'' ∧ I (i + 1) σ₃ μ'' | .brk => K .next σ'' μ'' | .ret d => K (.ret d) σ'' μ''))
    (fin : ∀ σ' μ', I n σ' μ' → K .next σ' μ')
    (hs : ∀ x, foldedSetIterable iter C.env x = pure x := by intro _; rfl) : Ex1 W C σ μ (.For t iter body [] pos) K := by
  refine ⟨fun s Q E R hQ => ?_⟩
  refine wpAny_For (hi.run s _ _ R fun a s₂ fp P St y₂ fresh it => ?_) hs
  have R₂ := R.step y₂
  have shut : ∀ {s' : Shared}, Mv (a :: C.mut μ) s₂ s' → Mv (C.mut μ) s s' := fun y => ⟨fun b o e hb => y.kept b o (y₂.all b o e) fun hm => by
    rcases List.mem_cons.mp hm with z | z
    · exact Nat.lt_irrefl _ (Nat.lt_of_lt_of_le (Heap.lt_size e) (z ▸ fresh))
    · exact hb z, Nat.le_trans y₂.size y.size, y.gens.trans y₂.gens, y.drawn.trans y₂.drawn, y.os.trans y₂.os, Nat.le_trans y₂.toks y.toks⟩
  refine codeAny_forLoop_any (fun k s' => ∃ i σ' μ', k = n + 1 - i ∧ i ≤ n ∧ I i σ' μ' ∧ Rep W C σ' μ' s' ∧ Mv (a :: C.mut μ) s₂ s' ∧ (∀ b ∈ C.mut μ', b ∈ C.mut μ ∨ s₂.heap.objs.size ≤ b) ∧ St i s'.heap)
    ?_ (n + 1) ⟨0, σ, μ, rfl, Nat.zero_le _, h0, R₂, Mv.refl _ _, fun b hb => .inl hb, it.st⟩
  rintro k s' ⟨i, σ', μ', rfl, hi', hI, R', y', new, st⟩
  have offI : ∀ b ∈ fp, b ∉ C.mut μ' := fun b hb hm => (new b hm).elim (it.off b hb).1 fun z => Nat.lt_irrefl _ (Nat.lt_of_lt_of_le (it.off b hb).2 z)
  have haI := it.isI
  by_cases hlt : i < n
  · refine wpAny_gr (it.walks.item i s' _ _ hlt st fun v h₁ tk₁ hP st₁ hk₁ gt gs => ?_)
    have hk₁' : ∀ b o, b ≠ a → s'.heap.get? b = some o → h₁.get? b = some o := fun b o hb e => hk₁ b o (by simpa using hb) e
    have R₁ : Rep W C σ' μ' { s' with heap := h₁, toks := tk₁ } := Rep.but O.cell R' (it.cls i _ st) (offI a haI) it.n0 hk₁' gs gt
    have car : Car C μ s₂ μ' { s' with heap := h₁, toks := tk₁ } := by
      refine Car.trans (s' := s') (μ' := μ') ⟨fun b o p e q => ⟨⟨p.1, fun hm => (new b hm).elim p.2 fun z => Nat.lt_irrefl _ (Nat.lt_of_lt_of_le (Heap.lt_size e) z)⟩, y'.kept b o e fun hm => ?_⟩, y'.toks⟩ ⟨fun b o p e q => ⟨p, hk₁' b o (fun z => it.cls i _ st o (z ▸ e) q) e⟩, gt⟩
      rcases List.mem_cons.mp hm with z | z
      · exact it.cls 0 _ it.st o (z ▸ e) q
      · exact p.2 z
    have rv := it.val i v hP hlt μ' _ car
    have y₁ : Mv (a :: C.mut μ) s₂ { s' with heap := h₁, toks := tk₁ } := by
      refine ⟨fun b o e hb => hk₁' b o (fun z => hb (z ▸ List.mem_cons_self)) (y'.kept b o e hb), Nat.le_trans y'.size gs, y'.gens, y'.drawn, y'.os, Nat.le_trans y'.toks gt⟩
    have go : ∀ {Q' : Unit → Shared → Prop} {E' : Value → Shared → Prop}, Q' () { s' with heap := h₁, toks := tk₁ } → wpAny (model prog w) C.A (letOwnedTupleGo t (.ref a) v) Q' E' { s' with heap := h₁, toks := tk₁ } := fun hq => by
      rcases it.own t v with e | e
      · rw [e]; exact wpAny_pure hq
      · exact e _ _ _ ⟨_, st₁⟩ hq
    refine go ?_
    refine ht i μ' σ' _ _ _ v R₁ rv fun s₃ R₃ y₃ => ?_
    refine (turn i σ' μ' hlt hI).run s₃ _ _ R₃ fun fd fl σ'' μ'' s₄ hk R₄ y₄ new₄ fr => ?_
    have y₃₄ : Mv (C.mut μ') { s' with heap := h₁, toks := tk₁ } s₄ := y₃.trans y₄ fun b hb => .inl hb
    have st₄ : St (i + 1) s₄.heap := it.walks.frame _ _ _ st₁ fun b hb o e => y₃₄.kept b o e (offI b hb)
    have y₂₄ : Mv (a :: C.mut μ) s₂ s₄ := by
      refine ⟨fun b o e hb => ?_, Nat.le_trans y₁.size y₃₄.size, y₃₄.gens.trans y₁.gens, y₃₄.drawn.trans y₁.drawn, y₃₄.os.trans y₁.os, Nat.le_trans y₁.toks y₃₄.toks⟩
      refine y₃₄.kept b o (y₁.kept b o e hb) fun hm => ?_
      rcases new b hm with z | z
      · exact hb (List.mem_cons_of_mem _ z)
      · exact Nat.lt_irrefl _ (Nat.lt_of_lt_of_le (Heap.lt_size e) z)
    have new₂₄ : ∀ b ∈ C.mut μ'', b ∈ C.mut μ ∨ s₂.heap.objs.size ≤ b := by
      intro b hb
      rcases new₄ b hb with z | z
      · exact new b z
      · exact .inr (Nat.le_trans (Nat.le_trans y'.size gs) (Nat.le_trans y₃.size z))
    have out : ∀ {fd' : FD} {fl' : Flow}, K fd' σ'' μ'' → FR (C.D μ'') s₄.toks s₄.heap fd' fl' → Q fl' s₄ := fun hK hF =>
      hQ _ _ σ'' μ'' s₄ hK R₄ (shut y₂₄) (fun b hb => (new₂₄ b hb).imp id fun z => Nat.le_trans y₂.size z) hF
    cases fd with
    | next =>
      cases fr
      obtain ⟨σ₃, hle, hI'⟩ := hk
      exact ⟨n + 1 - (i + 1), by omega, i + 1, σ₃, μ'', rfl, hlt, hI', R₄.weaken hle, y₂₄, new₂₄, st₄⟩
    | cont =>
      cases fr
      obtain ⟨σ₃, hle, hI'⟩ := hk
      exact ⟨n + 1 - (i + 1), by omega, i + 1, σ₃, μ'', rfl, hlt, hI', R₄.weaken hle, y₂₄, new₂₄, st₄⟩
    | brk => cases fr; exact out hk rfl
    | ret d =>
      obtain ⟨u, rfl, r⟩ := fr
      exact out hk ⟨u, rfl, r⟩
  · have hin : i = n := by omega
    subst hin
    refine wpAny_gr (it.walks.done s' _ _ st fun h₁ tk₁ hk₁ gt gs => ?_)
    have hk₁' : ∀ b o, b ≠ a → s'.heap.get? b = some o → h₁.get? b = some o := fun b o hb e => hk₁ b o (by simpa using hb) e
    have R₁ : Rep W C σ' μ' { s' with heap := h₁, toks := tk₁ } := Rep.but O.cell R' (it.cls i _ st) (offI a haI) it.n0 hk₁' gs gt
    refine wpAny_execs_nil ?_
    refine hQ .next .next σ' μ' _ (fin _ _ hI) R₁ (shut ⟨fun b o e hb => hk₁' b o (fun z => hb (z ▸ List.mem_cons_self)) (y'.kept b o e hb), Nat.le_trans y'.size gs, y'.gens, y'.drawn, y'.os, Nat.le_trans y'.toks gt⟩) (fun b hb => (new b hb).imp id fun z => Nat.le_trans y₂.size z) rfl
end
end Mine

namespace Mine
section
variable {prog : Program} {w : World} {W : Glob prog w} {C : Act} {σ : Sg} {μ : Mu}

theorem Stp.gr {s : Shared} {h' : Heap} {tk : Nat} (hk : ∀ b o, s.heap.get? b = some o → h'.get? b = some o) (gt : s.toks ≤ tk) (gs : hsz s ≤ h'.objs.size) : Stp s { s with heap := h', toks := tk } :=
  ⟨fun b o e _ => hk b o e, gs, rfl, rfl, rfl, gt⟩

noncomputable def OpN {prog : Program} {w : World} (W : Glob prog w) (C : Act) (σ : Sg) (μ : Mu) (t : List Value → Sem Value) (ds : List D) (r : D) : Prop :=
  ∀ (s : Shared) (Q : Value → Shared → Prop) (E : Value → Shared → Prop) (vs : List Value), Rep W C σ μ s → VRs (C.D μ) s.toks s.heap ds vs →
    (∀ v s', Stp s s' → VR (C.D μ) s'.toks s'.heap r v → Q v s') → wpAny (model prog w) C.A (t vs) Q E s

noncomputable abbrev cB (id : String) (vs : List Value) : Sem Value := PySem.call (.builtin id) vs
noncomputable abbrev cT (T : String) (vs : List Value) : Sem Value := PySem.call (.type T) vs
theorem args_cons {e : Expr} {rest : List Expr} {env : Env} {pos : Pos} (hq : starEach (e :: rest) env = (e :: rest).map (fun e => (false, eval e env))) :
    backTo pos (starEach (e :: rest) env) = (false, eval e env) :: backTo pos (starEach rest env) := by
  rw [hq]
  have : starEach rest env = rest.map (fun e => (false, eval e env)) := by
    have : starEach (e :: rest) env = (false, eval e env) :: starEach rest env := by
      cases e <;> first | rfl | (simp [starEach] at hq)
    rw [this] at hq
    exact (List.cons.inj hq).2
  rw [this]; simp [backTo]
theorem backTo_plain {es : List Expr} {env : Env} {pos : Pos} (hq : starEach es env = es.map (fun e => (false, eval e env))) : (backTo pos (starEach es env)).any (·.1) = false := by
  rw [hq]; simp [backTo]

theorem Ev.callB (O : C.Ok) {f : Str} {id : String} {p pos : Pos} {args : List Expr} {ds : List D} {d : D} (hk : C.env.kindOf f = some .globalImplicit) (hm : W.mg f = none) (hb : W.mb f = some (.builtin id))
    (ha : Es W C σ μ pos args ds) (hF : OpN W C σ μ (cB id) ds d) (hne : args ≠ [])
    (hq : starEach args C.env = args.map (fun e => (false, eval e C.env)) := by rfl) (hd : (f == ("__debug__" : Str)) = false := by decide) : Ev W C σ μ (.Call (.Name f p) args [] pos) d := by
  refine ⟨fun s Q E R hQ => ?_⟩
  refine wpAny_Call_NameR (wp_builtin O R hk hm hb ?_ hd)
  cases args with
  | nil => exact absurd rfl hne
  | cons e rest =>
    refine Calls.callWith_builtin (backTo_plain hq) ?_
    rw [args_cons hq]
    refine Calls.evalArgs_plain ?_
    rw [← args_cons hq]
    exact ha.run s _ _ R fun vs s₁ y₁ x₁ => hF s₁ _ _ _ (R.step y₁) x₁ fun v s₂ y₂ x₂ => hQ v s₂ (y₁.trans y₂) x₂
theorem Ev.callT (O : C.Ok) {f : Str} {T : String} {p pos : Pos} {args : List Expr} {ds : List D} {d : D} (hk : C.env.kindOf f = some .globalImplicit) (hm : W.mg f = none) (hb : W.mb f = some (.type T))
    (ha : Es W C σ μ pos args ds) (hF : OpN W C σ μ (cT T) ds d) (hne : args ≠ [])
    (hq : starEach args C.env = args.map (fun e => (false, eval e C.env)) := by rfl) (hd : (f == ("__debug__" : Str)) = false := by decide) : Ev W C σ μ (.Call (.Name f p) args [] pos) d := by
  refine ⟨fun s Q E R hQ => ?_⟩
  refine wpAny_Call_NameR (wp_builtin O R hk hm hb ?_ hd)
  cases args with
  | nil => exact absurd rfl hne
  | cons e rest =>
    refine PySem.callWith_type (backTo_plain hq) ?_
    rw [args_cons hq]
    refine Calls.evalArgs_plain ?_
    rw [← args_cons hq]
    exact ha.run s _ _ R fun vs s₁ y₁ x₁ => hF s₁ _ _ _ (R.step y₁) x₁ fun v s₂ y₂ x₂ => hQ v s₂ (y₁.trans y₂) x₂

theorem OpN.lenS {l : List Nat} (hl : l.length ≤ sizeLine) : OpN W C σ μ (cB "len") [.str l] (.int l.length) := by
  rintro s Q E _ R ⟨v, _, rfl, ⟨t, rfl⟩, rfl⟩ hQ
  have hl' : (l.length : Int) ≤ 2 ^ 24 := by unfold sizeLine at hl; omega
  refine P.len_str (by rw [len_mk]; omega) ?_
  rw [len_mk]
  exact hQ _ _ (Stp.tk (by omega)) ⟨_, rfl⟩
theorem OpN.lenL {l : List D} (hl : l.length ≤ sizeLine) : OpN W C σ μ (cB "len") [.lst l] (.int l.length) := by
  rintro s Q E _ R ⟨v, _, rfl, ⟨a, vs, rfl, hp, ⟨n, hg⟩, r⟩, rfl⟩ hQ
  have hl' : (l.length : Int) ≤ 2 ^ 24 := by unfold sizeLine at hl; omega
  have e : vs.size = l.length := by have := r.length; simpa using this
  refine Calls.call_len_list ⟨_, hg, rfl, n, rfl⟩ (by omega) ?_
  rw [e]
  exact hQ _ _ (Stp.tk (by omega)) ⟨_, rfl⟩
theorem OpN.min2 (O : C.Ok) {i j : Int} : OpN W C σ μ (cB "min") [.int i, .int j] (.int (if j < i then j else i)) := by
  rintro s Q E _ R ⟨v, _, rfl, ⟨t, rfl⟩, u, _, rfl, ⟨t', rfl⟩, rfl⟩ hQ
  refine wpAny_gr (min_two_ints O.hand fun h' tk hk => ?_)
  by_cases c : j < i
  · rw [if_pos c]; rw [if_pos c] at hQ; exact fun gt gs => hQ _ _ (Stp.gr hk gt gs) ⟨_, rfl⟩
  · rw [if_neg c]; rw [if_neg c] at hQ; exact fun gt gs => hQ _ _ (Stp.gr hk gt gs) ⟨_, rfl⟩
theorem OpN.max2 (O : C.Ok) {i j : Int} : OpN W C σ μ (cB "max") [.int i, .int j] (.int (if j > i then j else i)) := by
  rintro s Q E _ R ⟨v, _, rfl, ⟨t, rfl⟩, u, _, rfl, ⟨t', rfl⟩, rfl⟩ hQ
  refine wpAny_gr (max_two_ints O.hand fun h' tk hk => ?_)
  by_cases c : j > i
  · rw [if_pos c]; rw [if_pos c] at hQ; exact fun gt gs => hQ _ _ (Stp.gr hk gt gs) ⟨_, rfl⟩
  · rw [if_neg c]; rw [if_neg c] at hQ; exact fun gt gs => hQ _ _ (Stp.gr hk gt gs) ⟨_, rfl⟩

noncomputable def RangeAt (s : Shared) (r : Addr) (a b c : Int) : Prop := ∃ t u v, IsRange s.heap r a b c t u v
structure Rg {prog : Program} {w : World} (W : Glob prog w) (C : Act) (σ : Sg) (μ : Mu) (e : Expr) (a b c : Int) : Prop where
  run : ∀ (s : Shared) (Q : Value → Shared → Prop) (E : Value → Shared → Prop), Rep W C σ μ s →
    (∀ r s', Stp s s' → RangeAt s' r a b c → s.heap.objs.size ≤ r → Q (.ref r) s') → wpAny (model prog w) C.A (eval e C.env) Q E s

theorem rg_call (O : C.Ok) {f : Str} {p pos : Pos} {args : List Expr} {ds : List D} {a b c : Int} (hk : C.env.kindOf f = some .globalImplicit) (hm : W.mg f = none) (hb : W.mb f = some (.type "range"))
    (ha : Es W C σ μ pos args ds) (hne : args ≠ [])
    (hF : ∀ (s : Shared) (Q : Value → Shared → Prop) (E : Value → Shared → Prop) (vs : List Value), VRs (C.D μ) s.toks s.heap ds vs →
      (∀ r s', Stp s s' → RangeAt s' r a b c → s.heap.objs.size ≤ r → Q (.ref r) s') → wpAny (model prog w) C.A (call (.type "range") vs) Q E s)
    (hq : starEach args C.env = args.map (fun e => (false, eval e C.env))) (hd : (f == ("__debug__" : Str)) = false) : Rg W C σ μ (.Call (.Name f p) args [] pos) a b c := by
  refine ⟨fun s Q E R hQ => ?_⟩
  refine wpAny_Call_NameR (wp_builtin O R hk hm hb ?_ hd)
  cases args with
  | nil => exact absurd rfl hne
  | cons e rest =>
    refine PySem.callWith_type (backTo_plain hq) ?_
    rw [args_cons hq]
    refine Calls.evalArgs_plain ?_
    rw [← args_cons hq]
    exact ha.run s _ _ R fun vs s₁ y₁ x₁ => hF s₁ _ _ _ x₁ fun v s₂ y₂ x₂ z => hQ v s₂ (y₁.trans y₂) x₂ (Nat.le_trans y₁.size z)
theorem Rg.one (O : C.Ok) {f : Str} {p pos : Pos} {e : Expr} {n : Int} (hk : C.env.kindOf f = some .globalImplicit) (hm : W.mg f = none) (hb : W.mb f = some (.type "range")) (he : Ev W C σ μ e (.int n))
    (hq : starEach [e] C.env = [e].map (fun e => (false, eval e C.env)) := by rfl) (hd : (f == ("__debug__" : Str)) = false := by decide) : Rg W C σ μ (.Call (.Name f p) [e] [] pos) 0 n 1 := by
  refine rg_call O hk hm hb (Es.cons he Es.nil hq) (by intro z; cases z) ?_ hq hd
  rintro s Q E _ ⟨v, _, rfl, ⟨t, rfl⟩, rfl⟩ hQ
  exact call_range_1 (hQ _ _ (Stp.push _ (by show s.toks ≤ s.toks + 1 + 1; omega)) ⟨_, _, _, IsRange.new ..⟩ (Nat.le_refl _))
theorem Rg.two (O : C.Ok) {f : Str} {p pos : Pos} {e g : Expr} {m n : Int} (hk : C.env.kindOf f = some .globalImplicit) (hm : W.mg f = none) (hb : W.mb f = some (.type "range")) (he : Ev W C σ μ e (.int m)) (hg : Ev W C σ μ g (.int n))
    (hq : starEach [e, g] C.env = [e, g].map (fun e => (false, eval e C.env)) := by rfl) (hq' : starEach [g] C.env = [g].map (fun e => (false, eval e C.env)) := by rfl) (hd : (f == ("__debug__" : Str)) = false := by decide) : Rg W C σ μ (.Call (.Name f p) [e, g] [] pos) m n 1 := by
  refine rg_call O hk hm hb (Es.cons he (Es.cons hg Es.nil hq') (by rw [hq, hq']; rfl)) (by intro z; cases z) ?_ hq hd
  rintro s Q E _ ⟨v, _, rfl, ⟨t, rfl⟩, u, _, rfl, ⟨t', rfl⟩, rfl⟩ hQ
  exact call_range_2 (hQ _ _ (Stp.push _ (by show s.toks ≤ s.toks + 1; omega)) ⟨_, _, _, IsRange.new ..⟩ (Nat.le_refl _))
theorem Rg.three (O : C.Ok) {f : Str} {p pos : Pos} {e g i : Expr} {m n c : Int} (hk : C.env.kindOf f = some .globalImplicit) (hm : W.mg f = none) (hb : W.mb f = some (.type "range")) (he : Ev W C σ μ e (.int m)) (hg : Ev W C σ μ g (.int n)) (hi : Ev W C σ μ i (.int c)) (hc : c ≠ 0) (hcs : c.natAbs < 1073741824 := by decide)
    (hq : starEach [e, g, i] C.env = [e, g, i].map (fun e => (false, eval e C.env)) := by rfl) (hq' : starEach [g, i] C.env = [g, i].map (fun e => (false, eval e C.env)) := by rfl) (hq'' : starEach [i] C.env = [i].map (fun e => (false, eval e C.env)) := by rfl) (hd : (f == ("__debug__" : Str)) = false := by decide) : Rg W C σ μ (.Call (.Name f p) [e, g, i] [] pos) m n c := by
  refine rg_call O hk hm hb (Es.cons he (Es.cons hg (Es.cons hi Es.nil hq'') (by rw [hq', hq'']; rfl)) (by rw [hq, hq']; rfl)) (by intro z; cases z) ?_ hq hd
  rintro s Q E _ ⟨v, _, rfl, ⟨t, rfl⟩, u, _, rfl, ⟨t', rfl⟩, x, _, rfl, ⟨t'', rfl⟩, rfl⟩ hQ
  exact call_range_3 hc (hQ _ _ (Stp.push _ (Nat.le_refl _)) ⟨_, _, _, IsRange.new ..⟩ (Nat.le_refl _)) (.inl (PyProof.noPylong_small hcs))

theorem notSeqy {o : Obj} {T : String} (h : o.cls = .type T) (h1 : T ≠ "list") (h2 : T ≠ "tuple") : ¬ Seqy o := by
  rintro ⟨q, _⟩
  rcases q with q | q <;> rw [h] at q <;> injection q with q
  · exact h1 q
  · exact h2 q
theorem own_of {T : String} {A : Around} {t : Expr} {I : Addr} {v : Value} {s : Shared} {Q : Unit → Shared → Prop} {E : Value → Shared → Prop} (hT : ∃ o, s.heap.get? I = some o ∧ o.cls = .type T)
    (hne : (["enumerate", "zip", "dict_itemiterator", "dict_reverseitemiterator", "odict_iterator", "itertools.zip_longest", "itertools.pairwise"].contains T) = false) (hQ : Q () s) : wpAny (model prog w) A (letOwnedTupleGo t (.ref I) v) Q E s := by
  obtain ⟨o, ho, hc⟩ := hT
  have key : wpAny (model prog w) A (do
      let (.ref r, .ref a) := ((Value.ref I), v) | return
      let o ← load r
      match o.cls, o.data with
      | .type n, .fields vs =>
        if ["enumerate", "zip", "dict_itemiterator", "dict_reverseitemiterator", "odict_iterator", "itertools.zip_longest", "itertools.pairwise"].contains n && vs[0]? == some (rawInt a) then
          rule "for.unpacks-the-owned-tuple"
          updateField r 0 .none
      | _, _ => pure () : Sem Unit) Q E s := by
    cases v <;> try exact wpAny_pure hQ
    refine wpAny_bind (wpAny_load ho ?_)
    rw [hc]
    cases o.data <;> try exact wpAny_pure hQ
    simp only [hne, Bool.false_and, Bool.false_eq_true, if_false]
    exact wpAny_pure hQ
  unfold letOwnedTupleGo
  cases t <;> first | exact wpAny_pure hQ | exact key

theorem Itr.list (O : C.Ok) {e : Expr} {ds : List D} (he : Ev W C σ μ e (.lst ds)) : Itr W C σ μ e ds.length (fun i => ds[i]?.getD .none) := by
  refine ⟨fun s Q E R hQ => ?_⟩
  refine he.run s _ _ R fun v s₁ y₁ x₁ => ?_
  obtain ⟨a, vs, rfl, hp, ⟨n, hg⟩, r⟩ := x₁
  have R₁ := R.step y₁
  have hlen : vs.size = ds.length := by have := r.length; simpa using this
  have hne : a ≠ s₁.heap.objs.size := Nat.ne_of_lt (Heap.lt_size hg)
  have W₁ := Walks.list (prog := prog) (w := w) O.hand s₁.heap.objs.size a hne vs
  rw [hlen] at W₁
  refine wpAny_pyIter_list ⟨_, hg, rfl, n, rfl⟩ (hQ _ _ [s₁.heap.objs.size, a] (fun i v => vs[i]? = some v) (fun i h => h.IsListIter s₁.heap.objs.size a i ∧ h.IsList a vs) (y₁.trans (Stp.push _ (Nat.le_refl _))) y₁.size ?_)
  refine ⟨W₁, ⟨⟨_, Heap.get?_push_size _ rfl, rfl, rfl⟩, ⟨_, Heap.get?_push_of_some _ hg, rfl, n, rfl⟩⟩, ?_, R₁.n₀, by simp, ?_, ?_, ?_⟩
  · intro b hb
    rcases List.mem_cons.mp hb with rfl | hb
    · exact ⟨fun hm => Nat.lt_irrefl _ (R₁.lt _ hm), by show _ < (s₁.heap.push _).objs.size; rw [Heap.size_push]; exact Nat.lt_succ_self _⟩
    · rcases List.mem_cons.mp hb with rfl | hb
      · exact ⟨hp.2, by show _ < (s₁.heap.push _).objs.size; rw [Heap.size_push]; exact Nat.lt_succ_of_lt (Heap.lt_size hg)⟩
      · cases hb
  · rintro i h ⟨⟨o, ho, hc, _⟩, _⟩ o' ho'
    rw [ho] at ho'; cases ho'
    exact notSeqy hc (by decide) (by decide)
  · intro i v hv hi μ' s' car
    have hd : ds[i]? = some (ds[i]?.getD .none) := by rw [List.getElem?_eq_getElem hi]; rfl
    obtain ⟨u, hu, ru⟩ := r.get hd
    have : v = u := by
      have e1 : vs.toList[i]? = some v := by simpa using hv
      rw [e1] at hu; exact Option.some.inj hu
    subst this
    exact car.vr (ru.step (Stp.push _ (Nat.le_refl _)))
  · intro t v
    refine .inr fun s' Q E ⟨i, ⟨o, ho, hc, _⟩, _⟩ hq => own_of ⟨o, ho, hc⟩ (by decide) hq

theorem Itr.str (O : C.Ok) {e : Expr} {l : List Nat} (he : Ev W C σ μ e (.str l)) : Itr W C σ μ e l.length (fun i => .str [l[i]?.getD 0]) := by
  refine ⟨fun s Q E R hQ => ?_⟩
  refine he.run s _ _ R fun v s₁ y₁ x₁ => ?_
  obtain ⟨t, rfl⟩ := x₁
  have R₁ := R.step y₁
  have hsz : Array.size (Str.cps ⟨l.toArray⟩) = l.length := by simp
  refine wpAny_pyIter_strU ?_
  obtain ⟨T, hT, hTn, WT⟩ : ∃ T, strIterType ⟨l.toArray⟩ = T ∧ (T = "str_ascii_iterator" ∨ T = "str_iterator") ∧ Walks prog w C.A s₁.heap.objs.size [s₁.heap.objs.size] [s₁.heap.objs.size] (Array.size (Str.cps ⟨l.toArray⟩)) (SignAt ⟨l.toArray⟩) (fun i h => h.IsStrIter s₁.heap.objs.size T ⟨l.toArray⟩ t i) := by
    unfold strIterType
    split
    · exact ⟨_, rfl, .inl rfl, Walks.strAscii O.hand _ _ t⟩
    · exact ⟨_, rfl, .inr rfl, Walks.strWide O.hand _ _ t⟩
  rw [hT]
  rw [hsz] at WT
  refine hQ _ _ [s₁.heap.objs.size] (SignAt ⟨l.toArray⟩) (fun i h => h.IsStrIter s₁.heap.objs.size T ⟨l.toArray⟩ t i) (y₁.trans (Stp.push _ (Nat.le_refl _))) y₁.size ⟨WT, ⟨_, Heap.get?_push_size _ rfl, rfl, rfl⟩, ?_, R₁.n₀, by simp, ?_, ?_, ?_⟩
  · intro b hb
    rcases List.mem_cons.mp hb with rfl | hb
    · exact ⟨fun hm => Nat.lt_irrefl _ (R₁.lt _ hm), by show _ < (s₁.heap.push _).objs.size; rw [Heap.size_push]; exact Nat.lt_succ_self _⟩
    · cases hb
  · rintro i h ⟨o, ho, hc, _⟩ o' ho'
    rw [ho] at ho'; cases ho'
    rcases hTn with rfl | rfl
    · exact notSeqy hc (by decide) (by decide)
    · exact notSeqy hc (by decide) (by decide)
  · rintro i v ⟨c, u, hc, rfl⟩ hi μ' s' car
    have : l[i]? = some c := by simpa using hc
    rw [this]
    exact ⟨u, rfl⟩
  · intro t v
    refine .inr fun s' Q E ⟨i, o, ho, hc, _⟩ hq => own_of ⟨o, ho, hc⟩ (by rcases hTn with rfl | rfl <;> decide) hq

theorem Itr.range (O : C.Ok) {e : Expr} {a b c : Int} {n : Nat} (he : Rg W C σ μ e a b c) (hs : Builtin.Range.small a b c = true) (hn : Builtin.Range.rangeSize a b c = n) : Itr W C σ μ e n (fun i => .int (a + i * c)) := by
  refine ⟨fun s Q E R hQ => ?_⟩
  refine he.run s _ _ R fun r s₁ y₁ x₁ fr => ?_
  obtain ⟨t, u, v, hr⟩ := x₁
  have R₁ := R.step y₁
  refine wpAny_pyIter_range hr hs (hQ _ _ [s₁.heap.objs.size] (fun i v => ∃ t, v = .int (a + i * c) t) (fun i h => IsRangeIter h s₁.heap.objs.size (a + (i : Nat) * c) ((n : Int) - (i : Nat)) c) (y₁.trans (Stp.push _ (Nat.le_refl _))) y₁.size ⟨Walks.range O.hand s₁.heap.objs.size a c n, ?_, ?_, R₁.n₀, by simp, ?_, ?_, ?_⟩)
  · have e1 : a + ((0 : Nat) : Int) * c = a := by simp
    have e2 : (n : Int) - ((0 : Nat) : Int) = Builtin.Range.rangeSize a b c := by rw [hn]; simp
    rw [e1, e2]
    exact Heap.get?_push_size _ rfl
  · intro b hb
    rcases List.mem_cons.mp hb with rfl | hb
    · exact ⟨fun hm => Nat.lt_irrefl _ (R₁.lt _ hm), by show _ < (s₁.heap.push _).objs.size; rw [Heap.size_push]; exact Nat.lt_succ_self _⟩
    · cases hb
  · rintro i h ho o' ho'
    have e := Option.some.inj (ho.symm.trans ho')
    subst e
    exact notSeqy (T := "range_iterator") rfl (by decide) (by decide)
  · rintro i v ⟨t, rfl⟩ hi μ' s' car
    exact ⟨t, rfl⟩
  · intro t v
    refine .inr fun s' Q E ⟨i, ho⟩ hq => own_of ⟨_, ho, rfl⟩ (by decide) hq
theorem Itr.range1 (O : C.Ok) {e : Expr} {a b : Int} (he : Rg W C σ μ e a b 1) (ha : -(2 ^ 62) ≤ a) (ha' : a < 2 ^ 62) (hb : -(2 ^ 62) ≤ b) (hb' : b < 2 ^ 62) : Itr W C σ μ e (b - a).toNat (fun i => .int (a + i)) := by
  have := Itr.range O he (small_one ha ha' hb hb') (rangeSize_nat a b)
  simpa using this

theorem Ev.listRange (O : C.Ok) {f : Str} {p pos : Pos} {e : Expr} {a b c : Int} {n : Nat} (hk : C.env.kindOf f = some .globalImplicit) (hm : W.mg f = none) (hb : W.mb f = some (.type "list"))
    (he : Rg W C σ μ e a b c) (hs : Builtin.Range.small a b c = true) (hn : Builtin.Range.rangeSize a b c = n) (hl : n ≤ 2 ^ 24)
    (hq : starEach [e] C.env = [(false, eval e C.env)] := by rfl) (hd : (f == ("__debug__" : Str)) = false := by decide) : Ev W C σ μ (.Call (.Name f p) [e] [] pos) (.lst ((List.range n).map fun i : Nat => .int (a + (i : Int) * c))) := by
  refine ⟨fun s Q E R hQ => ?_⟩
  refine wpAny_Call_NameR (wp_builtin O R hk hm hb ?_ hd)
  have hse : backTo pos (starEach [e] C.env) = [(false, eval e C.env)] := by rw [hq]; rfl
  rw [hse]
  refine PySem.callWith_type rfl (Calls.evalArgs_plain (Calls.spliced_cons (he.run s _ _ R fun r s₁ y₁ x₁ fr => Calls.spliced_nil ?_)))
  obtain ⟨t, u, v, hr⟩ := x₁
  have R₁ := R.step y₁
  refine wpAny_gr (call_list_range O.hand hr hs hn hl fun h' tk acc c' hk hg hi gt gs => ?_)
  refine hQ _ _ (y₁.trans (Stp.gr hk gt gs)) ⟨_, acc, rfl, C.D_new R₁ (Nat.le_refl _), ⟨c', hg⟩, ?_⟩
  obtain ⟨hsz, hit⟩ := hi
  have gen : ∀ (l : List Value) (k : Nat), (∀ j v, l[j]? = some v → ∃ t, v = Value.int (a + ((k + j : Nat) : Int) * c) t) → VRs (C.D μ) tk h' ((List.range l.length).map fun i : Nat => D.int (a + ((k + i : Nat) : Int) * c)) l := by
    intro l
    induction l with
    | nil => intro k _; exact VRs.nil
    | cons x l ih =>
      intro k hx
      rw [List.length_cons, List.range_succ_eq_map, List.map_cons, List.map_map]
      refine VRs.cons ?_ ?_
      · obtain ⟨t, rfl⟩ := hx 0 x rfl; exact ⟨t, rfl⟩
      · have := ih (k + 1) fun j v hv => by
          have := hx (j + 1) v (by simpa using hv)
          rwa [show k + (j + 1) = k + 1 + j by omega] at this
        have e2 : ((fun i : Nat => D.int (a + ((k + i : Nat) : Int) * c)) ∘ Nat.succ) = fun i : Nat => D.int (a + ((k + 1 + i : Nat) : Int) * c) := by
          funext i; simp only [Function.comp]; rw [show k + Nat.succ i = k + 1 + i by omega]
        rw [e2]; exact this
  have := gen acc.toList 0 fun j v hv => by
    have := hit j v (by simpa using hv)
    simpa using this
  rw [Array.length_toList, hsz] at this
  simpa using this
end
end Mine

namespace Mine
section
variable {prog : Program} {w : World} {W : Glob prog w} {C : Act} {σ : Sg} {μ : Mu}

theorem setItem_plain {A : Around} {E : Value → Shared → Prop} {s : Shared} {l : Addr} {items : Array Value} {k : Int} {t : Tok} {v : Value} {Q : Unit → Shared → Prop} (hl : LstAt s.heap l items)
    (h0 : 0 ≤ k) (hfit : k < 2 ^ 63) (hn : k < items.size)
    (hQ : ∀ h', LstAt h' l (items.setIfInBounds k.toNat v) → Heap.SameBut l s.heap h' → Q () { s with heap := h' }) :
    wpAny (model prog w) A (setItem (.ref l) (.int k t) v) Q E s := by
  obtain ⟨n, ho⟩ := hl
  have hl' : s.heap.IsList l items := ⟨_, ho, rfl, n, rfl⟩
  unfold setItem
  try with_reducible refine wpAny_holding ?_
  first | refine wpAny_bind (wpAny_pure ?_) | skip
  refine wpAny_bind (wpAny_sequenceKey hl'.typeIs (by decide) ?_)
  refine wpAny_bind (wpAny_callSpecial?_slot (name := Str.ofString "__setitem__") hl'.typeIs PySem.slot_list_setitem
    (wpAny_call_entry PySem.slot_list_setitem hl'.typeIs PySem.entry_list_setitem ?_ (PySem.args_list_setitem _ _ _)))
  show wpAny _ _ (Builtin.List.listSubscript? (.int k t) >>= _) _ _ s
  refine wpAny_bind (wpAny_listSubscript_int (fitsIndex_of h0 hfit) ?_)
  clear hfit
  obtain ⟨j, rfl⟩ := Int.eq_ofNat_of_zero_le h0
  have hj : j < items.size := by omega
  have hx' : items[j]? = some items[j] := Array.getElem?_eq_getElem hj
  show wpAny _ _ ((seqItemAt l j >>= fun r => pure (r.map (j, ·))) >>= _) _ _ s
  refine wpAny_bind (wpAny_bind (wpAny_seqItemAt ho rfl (wpAny_pure ?_)))
  rw [hx']
  show wpAny _ _ (setSeqItemAt l j v >>= _) _ _ s
  have hfin : LstAt (s.heap.update l (Obj.mapSeq (·.setIfInBounds j v))) l (items.setIfInBounds j v) :=
    ⟨_, Heap.get?_update_self (Obj.mapSeq (·.setIfInBounds j v)) ho rfl⟩
  refine wpAny_bind (wpAny_setSeqItemAt ho rfl ?_)
  first
    | exact wpAny_bind (wpAny_pure (wpAny_pure ⟨.none, rfl, wpAny_pure (hQ _ hfin (Heap.SameBut.update ..))⟩))
    | exact wpAny_pure ⟨.none, rfl, wpAny_pure (hQ _ hfin (Heap.SameBut.update ..))⟩

theorem nodup_inj {α : Type} : ∀ {l : List α} {i j : Nat} {x : α}, l.Nodup → l[i]? = some x → l[j]? = some x → i = j
  | [], _, _, _, _, h, _ => by simp at h
  | y :: l, 0, 0, _, _, _, _ => rfl
  | y :: l, 0, j + 1, x, nd, h, h' => by
    simp at h h'; subst h
    exact absurd (List.mem_of_getElem? h') (List.nodup_cons.mp nd).1
  | y :: l, i + 1, 0, x, nd, h, h' => by
    simp at h h'; subst h'
    exact absurd (List.mem_of_getElem? h) (List.nodup_cons.mp nd).1
  | y :: l, i + 1, j + 1, x, nd, h, h' => by
    simp at h h'
    rw [nodup_inj (List.nodup_cons.mp nd).2 h h']
theorem map_set_fst {μ : Mu} {i : Nat} {a : Addr} {c c' : MC} (h : μ[i]? = some (a, c)) : (μ.set i (a, c')).map (·.1) = μ.map (·.1) := by
  rw [List.map_set]
  apply List.ext_getElem?
  intro j
  rw [List.getElem?_set]
  split
  · rename_i e
    subst e
    split
    · rw [List.getElem?_map, h]; rfl
    · rename_i q
      have := (List.getElem?_eq_some_iff.mp h).1
      simp at q; omega
  · rfl
theorem Act.mut_set {i : Nat} {a : Addr} {c c' : MC} (h : μ[i]? = some (a, c)) : C.mut (μ.set i (a, c')) = C.mut μ := by unfold Act.mut; rw [map_set_fst h]
theorem Act.D_set {i : Nat} {a : Addr} {c c' : MC} (h : μ[i]? = some (a, c)) : C.D (μ.set i (a, c')) = C.D μ := by funext b; unfold Act.D; rw [Act.mut_set h]
theorem mem_mut {i : Nat} {a : Addr} {c : MC} (h : μ[i]? = some (a, c)) : a ∈ C.mut μ := List.mem_append_right _ (List.mem_map.mpr ⟨(a, c), List.mem_of_getElem? h, rfl⟩)

theorem Rep.turn (O : C.Ok) {s : Shared} (R : Rep W C σ μ s) {i : Nat} {a : Addr} {c c' : MC} (hi : μ[i]? = some (a, c)) {h' : Heap} {tk : Nat} (ht : s.toks ≤ tk) (hs : ∀ b o, b ≠ a → s.heap.get? b = some o → h'.get? b = some o) (hz : s.heap.objs.size ≤ h'.objs.size)
    (hc : CR (C.D μ) tk h' a c') : Rep W C σ (μ.set i (a, c')) { s with heap := h', toks := tk } := by
  have ha : a ∈ C.mut μ := mem_mut hi
  have keyD : ∀ b o, C.D μ b → s.heap.get? b = some o → C.D (μ.set i (a, c')) b ∧ h'.get? b = some o := fun b o p e => ⟨by rw [Act.D_set hi]; exact p, hs b o (fun z => p.2 (z ▸ ha)) e⟩
  have nd := List.nodup_append.mp R.nodup
  have notfix : ∀ b ∈ C.fix, b ≠ a := fun b hb z => nd.2.2 b hb a (List.mem_map.mpr ⟨(a, c), List.mem_of_getElem? hi, rfl⟩) z
  refine ⟨W.mono R.top (fun b o hb e => hs b o (fun z => R.low _ ha (z ▸ hb)) e) hz, Nat.le_trans R.size hz, ?_, ?_, ?_, by rw [Act.mut_set hi]; exact R.nodup, by rw [Act.mut_set hi]; exact R.low, ?_, Nat.lt_of_lt_of_le R.tpos ht⟩
  · obtain ⟨m, ⟨o, es, ep, ho, r⟩, hm⟩ := R.loc
    exact ⟨m, ⟨o, es, ep, hs _ _ (notfix _ List.mem_cons_self) ho, r⟩, fun x d e k => let ⟨v, hv, r⟩ := hm x d e k; ⟨v, hv, r.mono ht keyD⟩⟩
  · intro x k hk hkx
    obtain ⟨v, ⟨o, ho, hd⟩, r⟩ := R.cell x k hk hkx
    exact ⟨v, ⟨o, hs _ _ (notfix _ (List.mem_cons_of_mem _ (O.cell x k hk))) ho, hd⟩, fun d e => let ⟨v', e', r'⟩ := r d e; ⟨v', e', r'.mono ht keyD⟩⟩
  · intro p hp
    obtain ⟨j, hj⟩ := List.getElem?_of_mem hp
    rw [List.getElem?_set] at hj
    split at hj
    · split at hj
      · cases hj; rw [Act.D_set hi]; exact hc
      · cases hj
    · rename_i hne
      have hpm := List.mem_of_getElem? hj
      refine (R.mem p hpm).mono ht keyD fun o e => hs _ o (fun z => hne ?_) e
      have nd2 := nd.2.1
      have h1 : (μ.map (·.1))[i]? = some a := by rw [List.getElem?_map, hi]; rfl
      have h2 : (μ.map (·.1))[j]? = some a := by rw [List.getElem?_map, hj]; exact congrArg some z
      exact nodup_inj nd2 h1 h2
  · intro b hb
    rw [Act.mut_set hi] at hb
    exact Nat.lt_of_lt_of_le (R.lt b hb) hz

structure En {prog : Program} {w : World} (W : Glob prog w) (C : Act) (σ : Sg) (μ : Mu) (e : Expr) (ds : List D) : Prop where
  run : ∀ (s : Shared) (Q : Value → Shared → Prop) (E : Value → Shared → Prop), Rep W C σ μ s →
    (∀ a vs s', Stp s s' → s.heap.objs.size ≤ a → LstAt s'.heap a vs → VRs (fun b => C.D μ b ∧ b ≠ a) s'.toks s'.heap ds vs.toList → Q (.ref a) s') → wpAny (model prog w) C.A (eval e C.env) Q E s
theorem En.ev {e : Expr} {ds : List D} (h : En W C σ μ e ds) : Ev W C σ μ e (.lst ds) := ⟨fun s Q E R hQ =>
  h.run s Q E R fun a vs s' y fr hl hv => hQ _ s' y ⟨a, vs, rfl, ⟨.inr (Nat.le_trans R.size fr), fun hm => Nat.lt_irrefl _ (Nat.lt_of_lt_of_le (R.lt a hm) fr)⟩, hl, hv.mono (Nat.le_refl _) fun b o p e => ⟨p.1, e⟩⟩⟩
theorem En.list {es : List Expr} {pos : Pos} {ds : List D} (h : Es W C σ μ pos es ds) (hl : ds.length ≤ sizeLine) : En W C σ μ (.List es pos) ds := by
  refine ⟨fun s Q E R hQ => ?_⟩
  refine wpAny_List_spliced (h.run s _ _ R fun vs s₁ y₁ x₁ => ⟨by rw [x₁.length]; exact hl, ?_⟩)
  refine hQ _ vs.toArray _ (y₁.trans (Stp.push _ (Nat.le_refl _))) y₁.size ⟨0, Heap.get?_push_size _ rfl⟩ ?_
  exact x₁.mono (Nat.le_refl _) fun c o hp e => ⟨⟨hp, Nat.ne_of_lt (Heap.lt_size e)⟩, Heap.get?_push_of_some _ e⟩

theorem Exs.assignNew (O : C.Ok) {x : Str} {p pos : Pos} {e : Expr} {ds : List D} {rest : List Stmt} {K : FD → Sg → Mu → Prop} (hx : Stores C x) (he : En W C σ μ e ds)
    (hr : ∀ a, C.bsz ≤ a → Exs W C (upd σ x (.obj a)) ((a, .list ds) :: μ) rest K)
    (hs : swapsWith e (some (.Name x p)) pos.line C.env = pure false := by rfl) : Exs W C σ μ (.Assign [.Name x p] e pos :: rest) K := by
  refine ⟨fun s Q E R hQ => ?_⟩
  refine wpAny_execs_cons (wpAny_Assign_Name (he.run s _ _ R fun a vs s₁ y₁ fr hl hv => ?_) hs)
  have R₁ := R.step y₁
  -- the list joins what turns
  have ha : a < s₁.heap.objs.size := let ⟨n, g⟩ := hl; Heap.lt_size g
  have hna : a ∉ C.mut μ := fun hm => Nat.lt_irrefl _ (Nat.lt_of_lt_of_le (R.lt a hm) fr)
  have hmut : C.mut ((a, MC.list ds) :: μ) = C.fix ++ a :: μ.map (·.1) := rfl
  have keyD : ∀ b o, C.D μ b → s.heap.get? b = some o → C.D ((a, MC.list ds) :: μ) b ∧ s₁.heap.get? b = some o := fun b o p g => ⟨⟨p.1, fun hm => by
    rw [hmut] at hm
    rcases List.mem_append.mp hm with z | z
    · exact p.2 (List.mem_append_left _ z)
    · rcases List.mem_cons.mp z with z | z
      · exact Nat.lt_irrefl _ (Nat.lt_of_lt_of_le (z ▸ Heap.lt_size g) fr)
      · exact p.2 (List.mem_append_right _ z)⟩, y₁.all b o g⟩
  have R₂ : Rep W C σ ((a, MC.list ds) :: μ) s₁ := by
    refine ⟨R₁.top, R₁.size, ?_, ?_, ?_, ?_, ?_, ?_, R₁.tpos⟩
    · obtain ⟨m, hn, hm⟩ := R.loc
      exact ⟨m, hn.keeps y₁.all, fun x d e k => let ⟨v, hv, r⟩ := hm x d e k; ⟨v, hv, r.mono y₁.toks keyD⟩⟩
    · intro x k hk hkx
      obtain ⟨v, ⟨o, ho, hd⟩, r⟩ := R.cell x k hk hkx
      exact ⟨v, ⟨o, y₁.all _ _ ho, hd⟩, fun d e => let ⟨v', e', r'⟩ := r d e; ⟨v', e', r'.mono y₁.toks keyD⟩⟩
    · intro p hp
      rcases List.mem_cons.mp hp with rfl | hp
      · exact ⟨vs, hl, hv.mono (Nat.le_refl _) fun b o p g => ⟨⟨p.1.1, fun hm => by
          rw [hmut] at hm
          rcases List.mem_append.mp hm with z | z
          · exact p.1.2 (List.mem_append_left _ z)
          · rcases List.mem_cons.mp z with z | z
            · exact p.2 z
            · exact p.1.2 (List.mem_append_right _ z)⟩, g⟩⟩
      · exact (R.mem p hp).mono y₁.toks keyD fun o e => y₁.all _ o e
    · rw [hmut]
      have nd := R.nodup
      unfold Act.mut at nd hna
      have := List.nodup_append.mp nd
      refine List.nodup_append.mpr ⟨this.1, List.nodup_cons.mpr ⟨fun z => hna (List.mem_append_right _ z), this.2.1⟩, fun b hb c hc z => ?_⟩
      rcases List.mem_cons.mp hc with q | q
      · exact hna (List.mem_append_left _ (by rw [← q, ← z]; exact hb))
      · exact this.2.2 b hb c q z
    · intro b hb
      rw [hmut] at hb
      rcases List.mem_append.mp hb with z | z
      · exact R.low b (List.mem_append_left _ z)
      · rcases List.mem_cons.mp z with z | z
        · rw [z]; exact W.nb (Nat.le_trans R.n₀ fr)
        · exact R.low b (List.mem_append_right _ z)
    · intro b hb
      rw [hmut] at hb
      rcases List.mem_append.mp hb with z | z
      · exact R₁.lt b (List.mem_append_left _ z)
      · rcases List.mem_cons.mp z with z | z
        · rw [z]; exact ha
        · exact R₁.lt b (List.mem_append_right _ z)
  refine Rep.store O R₂ (d := .obj a) rfl hx fun s₂ R₃ y₂ => ?_
  have new : ∀ b ∈ C.mut ((a, MC.list ds) :: μ), b ∈ C.mut μ ∨ s.heap.objs.size ≤ b := by
    intro b hb
    rw [hmut] at hb
    rcases List.mem_append.mp hb with z | z
    · exact .inl (List.mem_append_left _ z)
    · rcases List.mem_cons.mp z with z | z
      · rw [z]; exact .inr fr
      · exact .inl (List.mem_append_right _ z)
  refine (hr a (Nat.le_trans R.size fr)).run s₂ Q E R₃ fun fd fl σ' μ' s' hk R' y' new' frr => ?_
  refine hQ fd fl σ' μ' s' hk R' ?_ ?_ frr
  · refine Mv.trans (M := C.mut μ) (M' := C.mut ((a, MC.list ds) :: μ)) (y₁.wk fun _ h => nomatch h) (y₂.trans y' fun b hb => .inl hb) new
  · intro b hb
    rcases new' b hb with z | z
    · exact new b z
    · exact .inr (Nat.le_trans y₁.size (Nat.le_trans y₂.size z))

theorem Exs.freeze {x : Str} {i : Nat} {a : Addr} {ds : List D} {sts : List Stmt} {K : FD → Sg → Mu → Prop} (hx : σ x = some (.obj a)) (hi : μ[i]? = some (a, .list ds)) (hb : C.bsz ≤ a ∨ C.P a)
    (hr : Exs W C (upd σ x (.lst ds)) (μ.eraseIdx i) sts K) : Exs W C σ μ sts K := by
  refine ⟨fun s Q E R hQ => ?_⟩
  have hsub : (μ.eraseIdx i).Sublist μ := List.eraseIdx_sublist ..
  have hmut : ∀ b ∈ C.mut (μ.eraseIdx i), b ∈ C.mut μ := fun b hb => by
    rcases List.mem_append.mp hb with z | z
    · exact List.mem_append_left _ z
    · exact List.mem_append_right _ ((hsub.map _).mem z)
  have nd := List.nodup_append.mp R.nodup
  have hna : a ∉ C.mut (μ.eraseIdx i) := fun hm => by
    rcases List.mem_append.mp hm with z | z
    · exact nd.2.2 a z a (List.mem_map.mpr ⟨(a, _), List.mem_of_getElem? hi, rfl⟩) rfl
    · obtain ⟨p, hp, e⟩ := List.mem_map.mp z
      obtain ⟨j, hj, hne⟩ := List.mem_eraseIdx_iff_getElem?.mp hp
      have h1 : (μ.map (·.1))[i]? = some a := by rw [List.getElem?_map, hi]; rfl
      have h2 : (μ.map (·.1))[j]? = some a := by rw [List.getElem?_map, hne]; exact congrArg some e
      exact hj (nodup_inj nd.2.1 h2 h1)
  have keyD : ∀ b o, C.D μ b → s.heap.get? b = some o → C.D (μ.eraseIdx i) b ∧ s.heap.get? b = some o := fun b o p e => ⟨⟨p.1, fun hm => p.2 (hmut b hm)⟩, e⟩
  have hDa : C.D (μ.eraseIdx i) a := ⟨hb.symm, hna⟩
  obtain ⟨vs, hl, hv⟩ := R.mem _ (List.mem_of_getElem? hi)
  have val : ∀ v, VR (C.D μ) s.toks s.heap (.obj a) v → VR (C.D (μ.eraseIdx i)) s.toks s.heap (.lst ds) v := fun v e => ⟨a, vs, e, hDa, hl, hv.mono (Nat.le_refl _) keyD⟩
  refine hr.run s Q E ?_ fun fd fl σ' μ' s' hk R' y' new' frr => hQ fd fl σ' μ' s' hk R' (y'.wk hmut) (fun b hb => (new' b hb).imp (hmut b) id) frr
  refine ⟨R.top, R.size, ?_, ?_, ?_, ?_, fun b hb => R.low b (hmut b hb), fun b hb => R.lt b (hmut b hb), R.tpos⟩
  · obtain ⟨m, hn, hm⟩ := R.loc
    refine ⟨m, hn, fun y d e k => ?_⟩
    unfold upd at e
    split at e
    · rename_i q; subst q; cases e
      obtain ⟨v, hv', r⟩ := hm y _ hx k
      exact ⟨v, hv', val v r⟩
    · obtain ⟨v, hv', r⟩ := hm y d e k
      exact ⟨v, hv', r.mono (Nat.le_refl _) keyD⟩
  · intro y c hc hky
    obtain ⟨v, hv', r⟩ := R.cell y c hc hky
    refine ⟨v, hv', fun d e => ?_⟩
    unfold upd at e
    split at e
    · rename_i q; subst q; cases e
      obtain ⟨v', e', r'⟩ := r _ hx
      exact ⟨v', e', val v' r'⟩
    · obtain ⟨v', e', r'⟩ := r d e
      exact ⟨v', e', r'.mono (Nat.le_refl _) keyD⟩
  · intro p hp
    exact (R.mem p (hsub.mem hp)).mono (Nat.le_refl _) keyD fun o e => e
  · exact List.nodup_append.mpr ⟨nd.1, nd.2.1.sublist (hsub.map _), fun b hb c hc z => nd.2.2 b hb c ((hsub.map _).mem hc) z⟩

theorem Op2.itemM {value slice : Expr} {i : Nat} {a : Addr} {l : List D} {k : Int} {d : D} (hi : μ[i]? = some (a, .list l)) (h : l[k.toNat]? = some d) (h0 : 0 ≤ k) (h1 : k < 2 ^ 63)
    (hs : ∀ o i, subscripted slice false o i = operate [o, i] (getItem o i) := by intro _ _; with_unfolding_all rfl) :
    Op2 W C σ μ (subscriptTail value slice) (.obj a) (.int k) d := by
  rintro s Q E _ _ R rfl ⟨u, rfl⟩ hQ
  obtain ⟨vs, ⟨n, hg⟩, r⟩ := R.mem _ (List.mem_of_getElem? hi)
  obtain ⟨v, hv, x⟩ := r.get h
  have hL : s.heap.IsList a vs := ⟨_, hg, rfl, n, rfl⟩
  exact tail_any hL.typeIs PySem.F.slot_list_getitem.lookup (wpAny_getItem_list hL h0 h1 (by simpa using hv) (hQ _ _ (Mv.refl _ _) x)) (hs _ _)

theorem Exs.append (O : C.Ok) {o e : Expr} {apos cpos pos : Pos} {i : Nat} {a : Addr} {l : List D} {d : D} {rest : List Stmt} {K : FD → Sg → Mu → Prop}
    (ho : Ev W C σ μ o (.obj a)) (hi : μ[i]? = some (a, .list l)) (he : Ev W C σ μ e d) (hsz : l.length ≤ sizeLine)
    (hr : Exs W C σ (μ.set i (a, .list (l ++ [d]))) rest K)
    (hbase : attributeBase o "append" C.env (eval o C.env) = eval o C.env := by rfl) (hline : (apos.endLine == cpos.line) = true := by rfl)
    (htrees : backTo cpos (starEach [e] C.env) = [(false, eval e C.env)] := by rfl) (hint : interactive C.env = false := by rfl)
    (hsw : swapsWith (.Call (.Attribute o "append" apos) [e] [] cpos) none pos.line C.env = pure false := by rfl) :
    Exs W C σ μ (.Expr (.Call (.Attribute o "append" apos) [e] [] cpos) pos :: rest) K := by
  refine ⟨fun s Q E R hQ => ?_⟩
  refine wpAny_execs_cons (wpAny_Expr_any (wpAny_Call_append hbase (by rw [htrees]; rfl) hline htrees (ho.run s _ _ R fun v s₁ y₁ x₁ => ?_)) hint hsw)
  cases x₁
  have R₁ := R.step y₁
  obtain ⟨vs₁, ⟨n₁, hg₁⟩, r₁⟩ := R₁.mem _ (List.mem_of_getElem? hi)
  refine ⟨a, vs₁, rfl, ⟨_, n₁, hg₁, rfl, rfl, rfl⟩, he.run s₁ _ _ R₁ fun v s₂ y₂ x₂ => ?_⟩
  have R₂ := R₁.step y₂
  obtain ⟨vs, ⟨n, hg⟩, r⟩ := R₂.mem _ (List.mem_of_getElem? hi)
  refine wpAny_list_append_plain ⟨n, hg⟩ (fun h' hl' hs' => ?_) (by have := r.length; simp at this; omega)
  have ha : a ∈ C.mut μ := mem_mut hi
  have keyD : ∀ b o, C.D μ b → s₂.heap.get? b = some o → C.D μ b ∧ h'.get? b = some o := fun b o p e => ⟨p, hs'.extBut b o (fun z => p.2 (z ▸ ha)) e⟩
  have R₃ : Rep W C σ (μ.set i (a, .list (l ++ [d]))) { s₂ with heap := h', toks := s₂.toks } :=
    R₂.turn O hi (Nat.le_refl _) (fun b o hb e => hs'.extBut b o hb e) (Nat.le_of_eq hs'.1.symm) ⟨_, hl', by
      rw [Array.toList_push]; exact (VRs.append r (VRs.one x₂)).mono (Nat.le_refl _) keyD⟩
  have y₃ : Mv (C.mut μ) s₂ { s₂ with heap := h', toks := s₂.toks } := ⟨fun b o e hb => hs'.extBut b o (fun z => hb (z ▸ ha)) e, Nat.le_of_eq hs'.1.symm, rfl, rfl, rfl, Nat.le_refl _⟩
  refine hr.run _ Q E R₃ fun fd fl σ' μ' s' hk R' y' new' frr => hQ fd fl σ' μ' s' hk R' ?_ ?_ frr
  · rw [Act.mut_set hi] at y'
    exact Mv.ofStp (y₁.trans y₂) (y₃.trans y' fun b hb => .inl hb)
  · intro b hb
    rcases new' b hb with z | z
    · rw [Act.mut_set hi] at z; exact .inl z
    · exact .inr (Nat.le_trans (y₁.trans y₂).size (Nat.le_trans y₃.size z))

theorem turn_item (O : C.Ok) {s : Shared} (R : Rep W C σ μ s) {i : Nat} {a : Addr} {l : List D} {k : Int} {t : Tok} {v : Value} {d : D} (hi : μ[i]? = some (a, .list l)) (h0 : 0 ≤ k) (h1 : k < l.length) (hf : k < 2 ^ 63) (x : VR (C.D μ) s.toks s.heap d v)
    {Q : Unit → Shared → Prop} {E : Value → Shared → Prop} (h : ∀ s', Rep W C σ (μ.set i (a, .list (l.set k.toNat d))) s' → Mv (C.mut μ) s s' → Q () s') : wpAny (model prog w) C.A (setItem (.ref a) (.int k t) v) Q E s := by
  obtain ⟨vs, ⟨n, hg⟩, r⟩ := R.mem _ (List.mem_of_getElem? hi)
  have ha : a ∈ C.mut μ := mem_mut hi
  have hlen : vs.size = l.length := by have := r.length; simpa using this
  refine setItem_plain ⟨n, hg⟩ h0 hf (by omega) fun h' hl' hs' => ?_
  have keyD : ∀ b o, C.D μ b → s.heap.get? b = some o → C.D μ b ∧ h'.get? b = some o := fun b o p e => ⟨p, hs'.extBut b o (fun z => p.2 (z ▸ ha)) e⟩
  refine h _ (R.turn O hi (Nat.le_refl _) (fun b o hb e => hs'.extBut b o hb e) (Nat.le_of_eq hs'.1.symm) ⟨_, hl', by
      rw [Array.toList_setIfInBounds]; exact (VRs.set r x).mono (Nat.le_refl _) keyD⟩) ⟨fun b o e hb => hs'.extBut b o (fun z => hb (z ▸ ha)) e, Nat.le_of_eq hs'.1.symm, rfl, rfl, rfl, Nat.le_refl _⟩

theorem Exs.setItem (O : C.Ok) {o e j : Expr} {tpos pos : Pos} {i : Nat} {a : Addr} {l : List D} {k : Int} {d : D} {rest : List Stmt} {K : FD → Sg → Mu → Prop}
    (he : Ev W C σ μ e d) (ho : Ev W C σ μ o (.obj a)) (hj : Ev W C σ μ j (.int k)) (hi : μ[i]? = some (a, .list l)) (h0 : 0 ≤ k) (h1 : k < l.length) (hf : k < 2 ^ 63)
    (hr : Exs W C σ (μ.set i (a, .list (l.set k.toNat d))) rest K)
    (hs : swapsWith e (some (.Subscript o j tpos)) pos.line C.env = pure false := by rfl) : Exs W C σ μ (.Assign [.Subscript o j tpos] e pos :: rest) K := by
  refine ⟨fun s Q E R hQ => ?_⟩
  refine wpAny_execs_cons (wpAny_Assign_Subscript (he.run s _ _ R fun v s₁ y₁ x₁ => ho.run s₁ _ _ (R.step y₁) fun u s₂ y₂ x₂ => hj.run s₂ _ _ (R.step (y₁.trans y₂)) fun z s₃ y₃ x₃ => ?_) hs)
  cases x₂
  obtain ⟨t, rfl⟩ := x₃
  have y := (y₁.trans y₂).trans y₃
  refine turn_item O (R.step y) hi h0 h1 hf ((x₁.step y₂).step y₃) fun s₄ R₄ y₄ => ?_
  refine hr.run _ Q E R₄ fun fd fl σ' μ' s' hk R' y' new' frr => hQ fd fl σ' μ' s' hk R' ?_ ?_ frr
  · rw [Act.mut_set hi] at y'
    exact Mv.ofStp y (y₄.trans y' fun b hb => .inl hb)
  · intro b hb
    rcases new' b hb with z | z
    · rw [Act.mut_set hi] at z; exact .inl z
    · exact .inr (Nat.le_trans y.size (Nat.le_trans y₄.size z))

theorem Exs.augItem (O : C.Ok) {o e j : Expr} {op : Operator} {tpos pos : Pos} {i : Nat} {a : Addr} {l : List D} {k : Int} {d₀ d₁ d : D} {rest : List Stmt} {K : FD → Sg → Mu → Prop}
    (ho : Ev W C σ μ o (.obj a)) (hj : Ev W C σ μ j (.int k)) (hi : μ[i]? = some (a, .list l)) (h0 : 0 ≤ k) (h1 : l[k.toNat]? = some d₀) (hf : k < 2 ^ 63)
    (he : Ev W C σ μ e d₁) (hop : Op2 W C σ μ (inplaceOp op) d₀ d₁ d)
    (hr : Exs W C σ (μ.set i (a, .list (l.set k.toNat d))) rest K)
    (ha : ∀ ov iv new, augStore j ov iv new = (do holding [new, ov, iv] (PySem.setItem ov iv new); release [new, ov, iv] []; pure .next) := by intro _ _ _; rfl) : Exs W C σ μ (.AugAssign (.Subscript o j tpos) op e pos :: rest) K := by
  refine ⟨fun s Q E R hQ => ?_⟩
  refine wpAny_execs_cons (wpAny_AugAssign_Subscript_any (ho.run s _ _ R fun v s₁ y₁ x₁ => hj.run s₁ _ _ (R.step y₁) fun u s₂ y₂ x₂ => ?_) ha)
  cases x₁
  obtain ⟨t, rfl⟩ := x₂
  have y₁₂ := y₁.trans y₂
  have R₂ := R.step y₁₂
  obtain ⟨vs, ⟨n, hg⟩, r⟩ := R₂.mem _ (List.mem_of_getElem? hi)
  obtain ⟨v₀, hv₀, x₀⟩ := r.get h1
  refine wpAny_getItem_list ⟨_, hg, rfl, n, rfl⟩ h0 hf (by simpa using hv₀) (he.run s₂ _ _ R₂ fun v s₃ y₃ x₃ => hop s₃ _ _ _ _ (R₂.step y₃) (x₀.step y₃) x₃ fun v s₄ y₄ x₄ => ?_)
  have y := (y₁₂.trans y₃).trans y₄
  have hk : k < l.length := by have := (List.getElem?_eq_some_iff.mp h1).1; omega
  refine turn_item O (R.step y) hi h0 hk hf x₄ fun s₅ R₅ y₅ => ?_
  refine hr.run _ Q E R₅ fun fd fl σ' μ' s' hk R' y' new' frr => hQ fd fl σ' μ' s' hk R' ?_ ?_ frr
  · rw [Act.mut_set hi] at y'
    exact Mv.ofStp y (y₅.trans y' fun b hb => .inl hb)
  · intro b hb
    rcases new' b hb with z | z
    · rw [Act.mut_set hi] at z; exact .inl z
    · exact .inr (Nat.le_trans y.size (Nat.le_trans y₅.size z))
end
end Mine

namespace Mine
section
variable {prog : Program} {w : World} {W : Glob prog w} {C : Act} {σ : Sg} {μ : Mu}

noncomputable def Tl {prog : Program} {w : World} (W : Glob prog w) (C : Act) (σ : Sg) (μ : Mu) (a : Addr) (t : Sem Unit) (new : List D) : Prop :=
  ∀ (xs : List D) (s : Shared) (Q : Unit → Shared → Prop) (E : Value → Shared → Prop), Rep W C σ ((a, .list xs) :: μ) s → xs.length + new.length ≤ sizeLine →
    (∀ s', Rep W C σ ((a, .list (xs ++ new)) :: μ) s' → Mv [C.env.locals, a] s s' → Q () s') → wpAny (model prog w) C.A t Q E s

theorem locals_ne {a : Addr} {c : MC} {s : Shared} (R : Rep W C σ ((a, c) :: μ) s) : C.env.locals ≠ a := fun z => by
  have := (List.nodup_append.mp R.nodup).2.2 C.env.locals List.mem_cons_self a List.mem_cons_self
  exact this z

theorem Tl.elt (O : C.Ok) {a : Addr} {e : Expr} {d : D} (he : ∀ xs, Ev W C σ ((a, .list xs) :: μ) e d) : Tl W C σ μ a (do let _ ← PySem.call (.builtin "list.append") [.ref a, ← eval e C.env]) [d] := by
  intro xs s Q E R hsz hQ
  refine wpAny_bind ((he xs).run s _ _ R fun v s₁ y₁ x₁ => ?_)
  have R₁ := R.step y₁
  obtain ⟨vs, ⟨n, hg⟩, r⟩ := R₁.mem _ List.mem_cons_self
  refine wpAny_bind (wpAny_list_append_plain ⟨n, hg⟩ (fun h' hl' hs' => ?_) (by have := r.length; simp at this hsz; omega))
  have ha : a ∈ C.mut ((a, MC.list xs) :: μ) := List.mem_append_right _ List.mem_cons_self
  have keyD : ∀ b o, C.D ((a, MC.list xs) :: μ) b → s₁.heap.get? b = some o → C.D ((a, MC.list xs) :: μ) b ∧ h'.get? b = some o := fun b o p e => ⟨p, hs'.extBut b o (fun z => p.2 (z ▸ ha)) e⟩
  have R₃ : Rep W C σ (((a, MC.list xs) :: μ).set 0 (a, .list (xs ++ [d]))) { s₁ with heap := h', toks := s₁.toks } :=
    R₁.turn O (i := 0) rfl (Nat.le_refl _) (fun b o hb e => hs'.extBut b o hb e) (Nat.le_of_eq hs'.1.symm) ⟨_, hl', by
      rw [Array.toList_push]; exact (VRs.append r (VRs.one x₁)).mono (Nat.le_refl _) keyD⟩
  refine wpAny_pure (hQ _ R₃ ?_)
  exact Mv.ofStp y₁ ⟨fun b o e hb => hs'.extBut b o (fun z => hb (z ▸ by simp)) e, Nat.le_of_eq hs'.1.symm, rfl, rfl, rfl, Nat.le_refl _⟩

noncomputable def flat (r : Nat → List D) (n : Nat) : List D := (List.range n).flatMap r
theorem flat_succ (r : Nat → List D) (n : Nat) : flat r (n + 1) = flat r n ++ r n := by unfold flat; rw [List.range_succ, List.flatMap_append]; simp
theorem flat_len_le {r : Nat → List D} {i n : Nat} (h : i ≤ n) : (flat r i).length ≤ (flat r n).length := by
  induction n with
  | zero => have : i = 0 := by omega
            subst this; exact Nat.le_refl _
  | succ n ih =>
    by_cases hi : i ≤ n
    · exact Nat.le_trans (ih hi) (by rw [flat_succ, List.length_append]; omega)
    · have : i = n + 1 := by omega
      subst this; exact Nat.le_refl _

theorem comp_loop (O : C.Ok) {e : Expr} {depth : Nat} {x : Str} {px : Pos} {tail : Sem Unit} {I a : Addr} {n : Nat} {vd : Nat → D} {fp : List Addr} {P : Nat → Value → Prop} {St : Nat → Heap → Prop} {xs : List D} {s₀ : Shared} {q : Pos}
    (hturn : compTurn e depth (.ref I) (.ref a) C.env = (do
      standAt q
      match ← pyNext (.ref I) with
      | .none => pure (.done .next)
      | some v => do
        letOwnedTupleGo (.Name x px) (.ref I) v
        assign (.Name x px) C.env v
        tail
        again (.compLoop e depth (.ref I) (.ref a) C.env)))
    (hfr : (Code.compLoop e depth (.ref I) (.ref a) C.env).isFrame = false) (hw : (Code.compLoop e depth (.ref I) (.ref a) C.env).weight = 0) (hu : (Code.compLoop e depth (.ref I) (.ref a) C.env).cUnits = 0)
    (it : It W C ((a, .list xs) :: μ) s₀ I n vd fp P St) (R₀ : Rep W C σ ((a, .list xs) :: μ) s₀) (hx : C.env.kindOf x = some .local) (hσ : σ x = .none) {r : Nat → List D}
    (tl : ∀ i, i < n → Tl W C (upd σ x (vd i)) μ a tail (r i)) (hsz : xs.length + (flat r n).length ≤ sizeLine) {K : Result → Shared → Prop}
    (hK : ∀ s', Rep W C σ ((a, .list (xs ++ flat r n)) :: μ) s' → Mv [C.env.locals, a, I] s₀ s' → K (.ok .next) s') :
    codeAny (model prog w) C.A (.compLoop e depth (.ref I) (.ref a) C.env) K s₀ := by
  have hLa : C.env.locals ≠ a := locals_ne R₀
  have offL : ∀ b ∈ fp, b ≠ C.env.locals ∧ b ≠ a := fun b hb => ⟨fun z => (it.off b hb).1 (z ▸ List.mem_append_left _ List.mem_cons_self), fun z => (it.off b hb).1 (z ▸ List.mem_append_right _ List.mem_cons_self)⟩
  refine codeAny_loop rfl (fun k s' => ∃ i, k = n + 1 - i ∧ i ≤ n ∧ Rep W C σ ((a, .list (xs ++ flat r i)) :: μ) s' ∧ Mv [C.env.locals, a, I] s₀ s' ∧ St i s'.heap) ?_ (n + 1)
    ⟨0, rfl, Nat.zero_le _, by simpa [flat] using R₀, Mv.refl _ _, it.st⟩
  rintro k s' ⟨i, rfl, hi, R', y', st⟩
  rw [Around.under_of_weight hw hu]
  have hden : (model prog w).den (.compLoop e depth (.ref I) (.ref a) C.env) = (compTurn e depth (.ref I) (.ref a) C.env).onRaise (fun x => do noteFrame x C.env; theTreesLotGoes x) := by
    show (if (Code.compLoop e depth (.ref I) (.ref a) C.env).isFrame = true then _ else _) = _
    rw [hfr]; rfl
  rw [hden]
  refine wpAny_noted ?_
  rw [hturn]
  refine wpAny_bind (wpAny_standAt (wpAny_bind ?_))
  have hmut : ∀ l l', C.mut ((a, MC.list l) :: μ) = C.mut ((a, MC.list l') :: μ) := fun _ _ => rfl
  have haI : I ∉ C.mut ((a, MC.list (xs ++ flat r i)) :: μ) := (it.off I it.isI).1
  by_cases hlt : i < n
  · refine wpAny_gr (it.walks.item i s' _ _ hlt st fun v h₁ tk₁ hP st₁ hk₁ gt gs => ?_)
    have hk₁' : ∀ b o, b ≠ I → s'.heap.get? b = some o → h₁.get? b = some o := fun b o hb e => hk₁ b o (by simpa using hb) e
    have R₁ : Rep W C σ ((a, .list (xs ++ flat r i)) :: μ) { s' with heap := h₁, toks := tk₁ } := Rep.but O.cell R' (it.cls i _ st) haI it.n0 hk₁' gs gt
    have y₁ : Mv [C.env.locals, a, I] s₀ { s' with heap := h₁, toks := tk₁ } :=
      ⟨fun b o e hb => hk₁' b o (fun z => hb (by simp [z])) (y'.kept b o e hb), Nat.le_trans y'.size gs, y'.gens, y'.drawn, y'.os, Nat.le_trans y'.toks gt⟩
    have car : Car C ((a, .list xs) :: μ) s₀ ((a, .list (xs ++ flat r i)) :: μ) { s' with heap := h₁, toks := tk₁ } :=
      ⟨fun b o p e q => ⟨p, y₁.kept b o e fun hm => by
        rcases List.mem_cons.mp hm with z | hm
        · exact p.2 (z ▸ List.mem_append_left _ List.mem_cons_self)
        · rcases List.mem_cons.mp hm with z | hm
          · exact p.2 (z ▸ List.mem_append_right _ List.mem_cons_self)
          · rcases List.mem_cons.mp hm with z | hm
            · exact it.cls 0 _ it.st o (z ▸ e) q
            · cases hm⟩, y₁.toks⟩
    have rv := it.val i v hP hlt _ _ car
    refine wpAny_bind (wpAny_of_eq (show letOwnedTupleGo (.Name x px) (.ref I) v = pure () from rfl) (wpAny_bind (wpAny_assign_Name (Rep.storeL O R₁ rv hx fun s₂ R₂ y₂ => ?_))))
    have hlen : (xs ++ flat r i).length + (r i).length ≤ sizeLine := by
      have := flat_len_le (r := r) (show i + 1 ≤ n from hlt)
      rw [flat_succ, List.length_append] at this
      rw [List.length_append]; omega
    refine wpAny_bind (tl i hlt _ s₂ _ _ R₂ hlen fun s₃ R₃ y₃ => wpAny_pure ⟨rfl, n + 1 - (i + 1), by omega, i + 1, rfl, hlt, ?_, ?_, ?_⟩)
    · rw [flat_succ, ← List.append_assoc]
      refine R₃.weaken fun z d hz => ?_
      unfold upd
      split
      · rename_i q; subst q; rw [hσ] at hz; cases hz
      · exact hz
    · refine y₁.trans (M' := [C.env.locals, a]) ((y₂.wk fun b hb => by simp at hb; simp [hb]).trans y₃ fun b hb => .inl hb) fun b hb => .inl (by simp at hb ⊢; rcases hb with rfl | rfl <;> simp)
    · refine it.walks.frame _ _ _ st₁ fun b hb o e => ?_
      refine y₃.kept b o (y₂.kept b o e fun hm => (offL b hb).1 (by simpa using hm)) fun hm => ?_
      rcases List.mem_cons.mp hm with z | hm
      · exact (offL b hb).1 z
      · exact (offL b hb).2 (by simpa using hm)
  · have hin : i = n := by omega
    subst hin
    refine wpAny_gr (it.walks.done s' _ _ st fun h₁ tk₁ hk₁ gt gs => ?_)
    have hk₁' : ∀ b o, b ≠ I → s'.heap.get? b = some o → h₁.get? b = some o := fun b o hb e => hk₁ b o (by simpa using hb) e
    have R₁ : Rep W C σ ((a, .list (xs ++ flat r i)) :: μ) { s' with heap := h₁, toks := tk₁ } := Rep.but O.cell R' (it.cls i _ st) haI it.n0 hk₁' gs gt
    refine wpAny_pure (hK _ R₁ ⟨fun b o e hb => hk₁' b o (fun z => hb (by simp [z])) (y'.kept b o e hb), Nat.le_trans y'.size gs, y'.gens, y'.drawn, y'.os, Nat.le_trans y'.toks gt⟩)

noncomputable abbrev compC (C : Act) (scope : Scope) (cl : List (Str × Addr)) (L : Addr) : Act := ⟨C.A, compEnvC scope cl L C.env, C.P, C.bsz, C.fix⟩

noncomputable def fromOuter (C : Act) (cl : List (Str × Addr)) : Prop := ∀ x c, cl.lookup x = some c → C.env.cells.lookup x = some c ∧ isCellKind (C.env.kindOf x)

theorem compC.ok (O : C.Ok) {scope : Scope} {cl : List (Str × Addr)} {L : Addr} (hk : scope.kind = .function) (hc : fromOuter C cl) : (compC C scope cl L).Ok :=
  ⟨hk, O.hand, O.glob, O.blt, fun x c h => List.mem_cons_of_mem _ (O.cell x c (hc x c h).1), fun x y c h h' => O.inj x y c (hc x c h).1 (hc y c h').1, O.room, O.units⟩

theorem comp_start {e : Expr} {depth : Nat} {g : Comprehension} {it acc : Value} {env : Env} {A : Around} {s : Shared} {R : Result → Shared → Prop}
    (hg : (clausesOf e)[depth]? = some g) (hga : g.is_async = 0)
    (hfr : (Code.compStart e depth it acc env).isFrame = false) (hw : (Code.compStart e depth it acc env).weight = 0) (hu : (Code.compStart e depth it acc env).cUnits = 0)
    (h0 : codeAny (model prog w) A (.compLoop e depth it acc env) R s)
    (h : wpAny (model prog w) A (pyIter it) (fun it' s' => codeAny (model prog w) A (.compLoop e depth it' acc env) R s') (notedBy (model prog w) A env fun x s' => R (.error x) s') s) :
    codeAny (model prog w) A (.compStart e depth it acc env) R s := by
  refine codeAny_of_tree ?_
  rw [Around.under_of_weight hw hu]
  have hden : (model prog w).den (.compStart e depth it acc env) = (compStart e depth it acc env).onRaise (fun x => do noteFrame x env; standAt theWindowsPlace) := by
    show (if (Code.compStart e depth it acc env).isFrame = true then _ else _) = _
    rw [hfr]; rfl
  rw [hden]
  refine wpAny_notedAt ?_
  unfold compStart
  rw [hg]
  simp only [Option.elim_some, hga]
  show wpAny _ _ (ask >>= _) _ _ s
  refine wpAny_bind (wpAny_askSetting (wpAny_ite ?_))
  split
  · first
      | exact wpAny_bind (wpAny_pure (wpAny_pure (And.intro rfl h0)))
      | exact wpAny_pure (And.intro rfl h0)
  · refine wpAny_bind (wpAny_rule ?_)
    show wpAny _ _ (standAt g.iter.pos >>= _) _ _ s
    exact wpAny_bind (wpAny_standAt (wpAny_bind (wpAny_mono h (fun it' s' h' => wpAny_pure (And.intro rfl h')) fun _ _ x => x)))

theorem no0 {b N : Nat} (h : b < N) (z : b = N) : False := by omega
theorem no1 {b N : Nat} (h : b < N) (z : b = N + 1) : False := by omega
theorem lt2 {b N M : Nat} (h : b < N) (e : M = N + 2) : b < M := by omega
theorem lookup_relabel {env : Env} {scope : Scope} : ∀ {names : List (Str × NameKind)} {y : Str},
    (names.map fun (n, k) => if (k == NameKind.free && env.scope.kind == .function && env.kindOf n == some .cell) then (n, NameKind.cell) else (n, k)).lookup y =
      (names.lookup y).map fun k => if (k == NameKind.free && env.scope.kind == .function && env.kindOf y == some .cell) then NameKind.cell else k
  | [], y => rfl
  | (n, k) :: r, y => by
    have ih := @lookup_relabel env scope r y
    show List.lookup y ((if (k == NameKind.free && env.scope.kind == .function && env.kindOf n == some .cell) = true then (n, NameKind.cell) else (n, k)) :: _) = _
    by_cases hy : y = n
    · subst hy
      by_cases hc : (k == NameKind.free && env.scope.kind == .function && env.kindOf y == some .cell) = true
      · rw [if_pos hc, List.lookup_cons, beq_self_eq_true, List.lookup_cons, beq_self_eq_true]; show some _ = Option.map _ (some k); rw [Option.map_some, if_pos hc]
      · rw [if_neg hc, List.lookup_cons, beq_self_eq_true, List.lookup_cons, beq_self_eq_true]; show some _ = Option.map _ (some k); rw [Option.map_some, if_neg hc]
    · have hb : (y == n) = false := beq_eq_false_iff_ne.mpr hy
      by_cases hc : (k == NameKind.free && env.scope.kind == .function && env.kindOf n == some .cell) = true
      · rw [if_pos hc, List.lookup_cons, hb, List.lookup_cons, hb]; exact ih
      · rw [if_neg hc, List.lookup_cons, hb, List.lookup_cons, hb]; exact ih
theorem compC.kindOf {scope : Scope} {cl : List (Str × Addr)} {L : Addr} {y : Str} : (compC C scope cl L).env.kindOf y = (scope.names.lookup y).map fun k => if (k == NameKind.free && C.env.scope.kind == .function && C.env.kindOf y == some .cell) then NameKind.cell else k :=
  lookup_relabel (scope := scope)

structure Cp {prog : Program} {w : World} (W : Glob prog w) (C : Act) (σ : Sg) (μ : Mu) (e : Expr) (scope : Scope) (pos : Pos) (first : Sem Value) (ds : List D) : Prop where
  run : ∀ (use : Option (Value → Sem Unit)) (s : Shared) (Q : Value → Shared → Prop) (E : Value → Shared → Prop), Rep W C σ μ s →
    (∀ acc vs L m s', Stp s s' → s.heap.objs.size ≤ acc → s.heap.objs.size ≤ L → acc ≠ L → LstAt s'.heap acc vs → VRs (fun b => C.D μ b ∧ b ≠ acc ∧ b ≠ L) s'.toks s'.heap ds vs.toList → s'.heap.Ns L m →
      compPost (model prog w) C.A E use Q (.ref acc) L (.ok .next) s') →
    wpAny (model prog w) C.A (comprehension e scope C.env pos (newList []) false first use) Q E s

theorem Cp.core (O : C.Ok) {e iter : Expr} {scope : Scope} {pos : Pos} {cl : List (Str × Addr)} {g : Comprehension} {gs : List Comprehension} {n : Nat} {vd : Nat → D} {σ' : Sg} {ds : List D}
    (hi : Itr W C σ μ iter n vd) (hcls : clausesOf e = g :: gs) (hit : g.iter = iter) (hga : g.is_async = 0)
    (hclos : closureFor scope C.env = pure cl) (hcl : fromOuter C cl) (hcell : ∀ y ∈ scope.names, y.2 ≠ .cell) (hkind : scope.kind = .function) (hnames : ∀ y ∈ scope.names, y.2 = .local → scope.names.lookup y.1 = some .local)
    (hσ : Le σ' σ) (hfree : ∀ y d, σ' y = some d → scope.names.lookup y = some .free)
    (hfr : ∀ it acc L, (Code.compStart e 0 it acc (compEnvC scope cl L C.env)).isFrame = false) (hw : ∀ it acc L, (Code.compStart e 0 it acc (compEnvC scope cl L C.env)).weight = 0) (hu : ∀ it acc L, (Code.compStart e 0 it acc (compEnvC scope cl L C.env)).cUnits = 0)
    (loop : ∀ (I a L : Addr) (fp : List Addr) (P : Nat → Value → Prop) (St : Nat → Heap → Prop) (s₀ : Shared) (K : Result → Shared → Prop), (compC C scope cl L).Ok → It W (compC C scope cl L) ((a, .list []) :: μ) s₀ I n vd fp P St → Rep W (compC C scope cl L) σ' ((a, .list []) :: μ) s₀ →
      (∀ s' , Rep W (compC C scope cl L) σ' ((a, .list ds) :: μ) s' → (∀ b o, b ≠ L → b ≠ a → b ≠ I → b < s₀.heap.objs.size → s₀.heap.get? b = some o → s'.heap.get? b = some o) → s₀.heap.objs.size ≤ s'.heap.objs.size → s'.gens = s₀.gens → s'.drawn = s₀.drawn → s'.os = s₀.os → s₀.toks ≤ s'.toks → K (.ok .next) s') →
      codeAny (model prog w) C.A (.compLoop e 0 (.ref I) (.ref a) (compEnvC scope cl L C.env)) K s₀)
    (hs : ∀ x, foldedSetIterable iter C.env x = pure x) : Cp W C σ μ e scope pos (eval iter C.env) ds := by
  refine ⟨fun use s Q E R hQ => ?_⟩
  refine wpAny_comprehension_free hcls (by rw [hit]; exact hs) hclos hkind hnames (hi.run s _ _ R fun I s₂ fp P St y₂ fresh it => ?_)
  have R₂ := R.step y₂
  refine wpAny_newObj_type (wpAny_newFunctionEnv hcell (by intro y hy; simp at hy) (fun h₁ hns₁ hsb₁ => ?_) hkind)
  dsimp only at hns₁ hsb₁ ⊢
  -- the new list, the new block
  have hz : (s₂.heap.push { cls := .type "list", dict := none, data := .seq ([] : List Value).toArray }).objs.size = s₂.heap.objs.size + 1 := Heap.size_push ..
  rw [hz] at hns₁ hsb₁ ⊢
  have hz₁ : h₁.objs.size = s₂.heap.objs.size + 2 := by rw [hsb₁.1, Heap.size_push, hz]
  have old : ∀ b o, s₂.heap.get? b = some o → h₁.get? b = some o := fun b o e => hsb₁.extBut b o (no1 (Heap.lt_size e)) (Heap.get?_push_of_some _ (Heap.get?_push_of_some _ e))
  have hacc : LstAt h₁ s₂.heap.objs.size #[] := ⟨0, hsb₁.extBut _ _ (Nat.ne_of_lt (Nat.lt_succ_self _)) (Heap.get?_push_of_some _ (Heap.get?_push_size _ rfl))⟩
  generalize hs₄ : ({ s₂ with heap := h₁, toks := s₂.toks + ([] : List (Str × Value)).length } : Shared) = s₄
  have e4 : s₄.heap = h₁ := by rw [← hs₄]
  have y₄ : Stp s₂ s₄ := by
    rw [← hs₄]
    exact Stp.mk' old (by show s₂.heap.objs.size ≤ h₁.objs.size; rw [hz₁]; exact Nat.le_add_right _ 2)
  have OC := compC.ok (scope := scope) (L := s₂.heap.objs.size + 1) O hkind hcl
  have hmut : (compC C scope cl (s₂.heap.objs.size + 1)).mut ((s₂.heap.objs.size, MC.list []) :: μ) = (s₂.heap.objs.size + 1) :: C.fix ++ s₂.heap.objs.size :: μ.map (·.1) := rfl
  have inmut : ∀ b ∈ (compC C scope cl (s₂.heap.objs.size + 1)).mut ((s₂.heap.objs.size, MC.list []) :: μ), b = s₂.heap.objs.size + 1 ∨ b = s₂.heap.objs.size ∨ b ∈ C.mut μ := by
    intro b hb
    rw [hmut] at hb
    rcases List.mem_append.mp hb with z | z
    · rcases List.mem_cons.mp z with z | z
      · exact .inl z
      · exact .inr (.inr (List.mem_append_left _ z))
    · rcases List.mem_cons.mp z with z | z
      · exact .inr (.inl z)
      · exact .inr (.inr (List.mem_append_right _ z))
  have keyD : ∀ b o, C.D μ b → s₂.heap.get? b = some o → (compC C scope cl (s₂.heap.objs.size + 1)).D ((s₂.heap.objs.size, MC.list []) :: μ) b ∧ s₄.heap.get? b = some o := fun b o p e => ⟨⟨p.1, fun hm => by
    rcases inmut b hm with z | z | z
    · exact no1 (Heap.lt_size e) z
    · exact no0 (Heap.lt_size e) z
    · exact p.2 z⟩, y₄.all b o e⟩
  have R₄ : Rep W (compC C scope cl (s₂.heap.objs.size + 1)) σ' ((s₂.heap.objs.size, MC.list []) :: μ) s₄ := by
    refine ⟨(R₂.step y₄).top, Nat.le_trans R₂.size y₄.size, ⟨_, e4 ▸ hns₁, ?_⟩, ?_, ?_, ?_, ?_, ?_, Nat.lt_of_lt_of_le R₂.tpos y₄.toks⟩
    · intro y d hy hk
      have := hfree y d hy
      rw [compC.kindOf, this] at hk
      simp only [Option.map_some] at hk
      split at hk <;> cases hk
    · intro y c hc hk
      obtain ⟨hc', hk'⟩ := hcl y c hc
      obtain ⟨v, ⟨o, ho, hd⟩, r⟩ := R₂.cell y c hc' hk'
      exact ⟨v, ⟨o, y₄.all _ _ ho, hd⟩, fun d e => let ⟨v', e', r'⟩ := r d (hσ y d e); ⟨v', e', r'.mono y₄.toks keyD⟩⟩
    · intro p hp
      rcases List.mem_cons.mp hp with rfl | hp
      · exact ⟨#[], e4 ▸ hacc, VRs.nil⟩
      · exact (R₂.mem p hp).mono y₄.toks keyD fun o e => y₄.all _ o e
    · rw [hmut]
      have nd := R₂.nodup
      unfold Act.mut at nd
      have nd' := List.nodup_append.mp nd
      have lt : ∀ b ∈ C.mut μ, b < s₂.heap.objs.size := R₂.lt
      refine List.nodup_append.mpr ⟨List.nodup_cons.mpr ⟨fun z => ?_, nd'.1⟩, List.nodup_cons.mpr ⟨fun z => ?_, nd'.2.1⟩, fun b hb c hc z => ?_⟩
      · exact no1 (lt _ (List.mem_append_left _ z)) rfl
      · exact no0 (lt _ (List.mem_append_right _ z)) rfl
      · rcases List.mem_cons.mp hb with q | q <;> rcases List.mem_cons.mp hc with q' | q'
        · rw [q, q'] at z; exact Nat.succ_ne_self _ z
        · exact no1 (lt _ (List.mem_append_right _ q')) (z.symm.trans q)
        · exact no0 (lt _ (List.mem_append_left _ q)) (z.trans q')
        · exact nd'.2.2 b q c q' z
    · intro b hb
      rcases inmut b hb with z | z | z
      · rw [z]; exact W.nb (Nat.le_succ_of_le R₂.n₀)
      · rw [z]; exact W.nb R₂.n₀
      · exact R₂.low b z
    · intro b hb
      rw [e4, hz₁]
      rcases inmut b hb with z | z | z
      · rw [z]; exact Nat.lt_succ_self _
      · rw [z]; exact Nat.lt_succ_of_lt (Nat.lt_succ_self _)
      · exact lt2 (R₂.lt b z) rfl
  have car₂ : ∀ {μ' : Mu} {s' : Shared}, Car (compC C scope cl (s₂.heap.objs.size + 1)) ((s₂.heap.objs.size, MC.list []) :: μ) s₄ μ' s' → Car C μ s₂ μ' s' → True := fun _ _ => trivial
  have it₄ : It W (compC C scope cl (s₂.heap.objs.size + 1)) ((s₂.heap.objs.size, MC.list []) :: μ) s₄ I n vd fp P St := by
    refine ⟨it.walks, it.walks.frame _ _ _ it.st fun b hb o e => y₄.all b o e, fun b hb => ⟨fun hm => ?_, Nat.lt_of_lt_of_le (it.off b hb).2 y₄.size⟩, it.n0, it.isI, it.cls, ?_, it.own⟩
    · have hlt := (it.off b hb).2
      rcases inmut b hm with z | z | z
      · exact no1 hlt z
      · exact no0 hlt z
      · exact (it.off b hb).1 z
    · intro i v hP hlt μ' s' car
      have hv := it.val i v hP hlt μ s₂ Car.refl
      exact (hv.mono y₄.toks keyD).monoC car.tk car.hk
  -- what is told at its end
  have fin : ∀ (I' : Addr), s.heap.objs.size ≤ I' → ∀ s', Rep W (compC C scope cl (s₂.heap.objs.size + 1)) σ' ((s₂.heap.objs.size, .list ds) :: μ) s' →
      (∀ b o, b ≠ s₂.heap.objs.size + 1 → b ≠ s₂.heap.objs.size → b ≠ I' → b < s₄.heap.objs.size → s₄.heap.get? b = some o → s'.heap.get? b = some o) → s₄.heap.objs.size ≤ s'.heap.objs.size → s'.gens = s₄.gens → s'.drawn = s₄.drawn → s'.os = s₄.os → s₄.toks ≤ s'.toks →
      compPost (model prog w) C.A E use Q (.ref s₂.heap.objs.size) (s₂.heap.objs.size + 1) (.ok .next) s' := by
    intro I' hI' s' R' hk hz' hg hd ho ht
    obtain ⟨m, hn, _⟩ := R'.loc
    obtain ⟨vs, hl, hv⟩ := R'.mem _ List.mem_cons_self
    have y₂₄ := y₂.trans y₄
    have ys : Stp s s' := by
      refine ⟨fun b o e _ => hk b o ?_ ?_ ?_ ?_ (y₂₄.all b o e), Nat.le_trans y₂₄.size hz', hg.trans y₂₄.gens, hd.trans y₂₄.drawn, ho.trans y₂₄.os, Nat.le_trans y₂₄.toks ht⟩
      · exact no1 (Nat.lt_of_lt_of_le (Heap.lt_size e) y₂.size)
      · exact no0 (Nat.lt_of_lt_of_le (Heap.lt_size e) y₂.size)
      · exact no0 (Nat.lt_of_lt_of_le (Heap.lt_size e) hI')
      · exact Nat.lt_of_lt_of_le (Heap.lt_size e) y₂₄.size
    refine hQ _ vs _ m s' ys y₂.size (Nat.le_succ_of_le y₂.size) (Nat.ne_of_lt (Nat.lt_succ_self _)) hl (hv.mono (Nat.le_refl _) fun b o p e => ⟨⟨⟨p.1, fun hm => p.2 ?_⟩, fun z => p.2 ?_, fun z => p.2 ?_⟩, e⟩) hn
    · rcases List.mem_append.mp hm with z | z
      · exact List.mem_append_left _ (List.mem_cons_of_mem _ z)
      · exact List.mem_append_right _ (List.mem_cons_of_mem _ z)
    · rw [z]; exact List.mem_append_right _ List.mem_cons_self
    · rw [z]; exact List.mem_append_left _ List.mem_cons_self
  have run : codeAny (model prog w) C.A (.compLoop e 0 (.ref I) (.ref s₂.heap.objs.size) (compEnvC scope cl (s₂.heap.objs.size + 1) C.env)) (compPost (model prog w) C.A E use Q (.ref s₂.heap.objs.size) (s₂.heap.objs.size + 1)) s₄ :=
    loop I _ _ fp P St s₄ _ OC it₄ R₄ (fin I fresh)
  show codeAny (model prog w) C.A (.compStart e 0 (.ref I) (.ref s₂.heap.objs.size) (compEnvC scope cl (s₂.heap.objs.size + 1) C.env)) _ _
  exact comp_start (g := g) (by rw [hcls]; rfl) hga (hfr _ _ _) (hw _ _ _) (hu _ _ _) run (it₄.walks.self 0 _ _ _ it₄.st run)

theorem Cp.one (O : C.Ok) {elt iter : Expr} {x : Str} {px : Pos} {scope : Scope} {pos p : Pos} {cl : List (Str × Addr)} {n : Nat} {vd r : Nat → D} (σ' : Sg)
    (hi : Itr W C σ μ iter n vd) (hn : n ≤ sizeLine)
    (hclos : closureFor scope C.env = pure cl) (hcl : fromOuter C cl) (hσ : Le σ' σ) (hfree : ∀ y d, σ' y = some d → scope.names.lookup y = some .free) (hx : scope.names.lookup x = some .local)
    (he : ∀ L a xs i, i < n → (compC C scope cl L).Ok → Ev W (compC C scope cl L) (upd σ' x (vd i)) ((a, .list xs) :: μ) elt (r i))
    (hcell : ∀ y ∈ scope.names, y.2 ≠ .cell := by decide) (hkind : scope.kind = .function := by rfl) (hnames : ∀ y ∈ scope.names, y.2 = .local → scope.names.lookup y.1 = some .local := by decide)
    (hs : ∀ x, foldedSetIterable iter C.env x = pure x := by intro _; rfl) : Cp W C σ μ (.ListComp elt [⟨.Name x px, iter, [], 0⟩] scope pos) scope p (eval iter C.env) ((List.range n).map r) := by
  refine Cp.core O hi rfl rfl rfl hclos hcl hcell hkind hnames hσ hfree (fun _ _ _ => rfl) (fun _ _ _ => rfl) (fun _ _ _ => rfl) ?_ hs
  intro I a L fp P St s₀ K OC it R₀ hK
  have hfl : flat (fun i => [r i]) n = (List.range n).map r := by
    unfold flat
    generalize List.range n = l
    induction l with
    | nil => rfl
    | cons b l ih => rw [List.flatMap_cons, List.map_cons, ih]; rfl
  refine comp_loop (C := compC C scope cl L) (tail := do let _ ← PySem.call (.builtin "list.append") [.ref a, ← eval elt (compEnvC scope cl L C.env)]) (r := fun i => [r i]) (x := x) (px := px) (q := iter.pos) OC rfl rfl rfl rfl it R₀ ?_ ?_ ?_ ?_ ?_
  · rw [compC.kindOf, hx]; rfl
  · cases e : σ' x with
    | none => rfl
    | some d => rw [hfree x d e] at hx; cases hx
  · exact fun i hlt => Tl.elt OC fun xs => he L a xs i hlt OC
  · rw [hfl]; simp; exact hn
  · intro s' R' y'
    rw [hfl] at R'
    exact hK s' R' (fun b o h1 h2 h3 _ e => y'.kept b o e (fun hm => (List.mem_cons.mp hm).elim h1 fun hm => (List.mem_cons.mp hm).elim h2 fun hm => (List.mem_cons.mp hm).elim h3 fun hm => nomatch hm)) y'.size y'.gens y'.drawn y'.os y'.toks
end
end Mine

namespace Mine
section
variable {prog : Program} {w : World} {W : Glob prog w} {C : Act} {σ : Sg} {μ : Mu}

theorem Tl.inner (O : C.Ok) {a : Addr} {e iter : Expr} {x : Str} {px : Pos} {n : Nat} {vd : Nat → D} {r : Nat → List D} {g : Comprehension} {tail : Sem Unit}
    (hi : ∀ xs, Itr W C σ ((a, .list xs) :: μ) iter n vd)
    (hturn : ∀ I, compTurn e 1 (.ref I) (.ref a) C.env = (do
      standAt iter.pos
      match ← pyNext (.ref I) with
      | .none => pure (.done .next)
      | some v => do
        letOwnedTupleGo (.Name x px) (.ref I) v
        assign (.Name x px) C.env v
        tail
        again (.compLoop e 1 (.ref I) (.ref a) C.env)))
    (hg : (clausesOf e)[1]? = some g) (hga : g.is_async = 0)
    (hfr : ∀ I, (Code.compLoop e 1 (.ref I) (.ref a) C.env).isFrame = false) (hw : ∀ I, (Code.compLoop e 1 (.ref I) (.ref a) C.env).weight = 0) (hu : ∀ I, (Code.compLoop e 1 (.ref I) (.ref a) C.env).cUnits = 0)
    (hfr' : ∀ I, (Code.compStart e 1 (.ref I) (.ref a) C.env).isFrame = false) (hw' : ∀ I, (Code.compStart e 1 (.ref I) (.ref a) C.env).weight = 0) (hu' : ∀ I, (Code.compStart e 1 (.ref I) (.ref a) C.env).cUnits = 0)
    (hx : C.env.kindOf x = some .local) (hσ : σ x = .none) (hs : ∀ x, foldedSetIterable iter C.env x = pure x)
    (tl : ∀ i, i < n → Tl W C (upd σ x (vd i)) μ a tail (r i)) :
    Tl W C σ μ a (do
      let x ← eval iter C.env
      standAt iter.pos
      let x ← foldedSetIterable iter C.env x
      let _ ← runOwn (.compStart e 1 (← holding [x] (pyIter x)) (.ref a) C.env) C.env) (flat r n) := by
  intro xs s Q E R hsz hQ
  refine wpAny_bind (wpAny_mono ((hi xs).run s (fun v s' => wpAny (model prog w) C.A (runOwn (.compStart e 1 v (.ref a) C.env) C.env) (fun _ s' => Q () s') E s') E R fun I s₂ fp P St y₂ fresh it => ?_) (fun v s₁ h₁ => ?_) fun _ _ x => x)
  · refine wpAny_runOwn ?_
    have run : ∀ {K : Result → Shared → Prop}, (∀ s', Rep W C σ ((a, .list (xs ++ flat r n)) :: μ) s' → Mv [C.env.locals, a, I] s₂ s' → K (.ok .next) s') → codeAny (model prog w) C.A (.compLoop e 1 (.ref I) (.ref a) C.env) K s₂ := fun hK =>
      comp_loop (C := C) (q := iter.pos) O (hturn I) (hfr I) (hw I) (hu I) it (R.step y₂) hx hσ tl hsz hK
    have fin : ∀ {E' : Value → Shared → Prop}, codeAny (model prog w) C.A (.compLoop e 1 (.ref I) (.ref a) C.env) (fun r s' => match r with | .ok f => Q () s' | .error e => E' e s') s₂ := run fun s' R' y' => hQ s' R' (by
      refine ⟨fun b o e hb => y'.kept b o (y₂.all b o e) fun hm => ?_, Nat.le_trans y₂.size y'.size, y'.gens.trans y₂.gens, y'.drawn.trans y₂.drawn, y'.os.trans y₂.os, Nat.le_trans y₂.toks y'.toks⟩
      rcases List.mem_cons.mp hm with z | hm
      · exact hb (by simp [z])
      · rcases List.mem_cons.mp hm with z | hm
        · exact hb (by simp [z])
        · rcases List.mem_cons.mp hm with z | hm
          · exact no0 (Nat.lt_of_lt_of_le (Heap.lt_size e) fresh) z
          · cases hm)
    have fin' := fin (E' := cameBackBy (model prog w) C.A C.env E)
    exact comp_start hg hga (hfr' I) (hw' I) (hu' I) fin' (it.walks.self 0 _ _ _ it.st fin')
  · refine wpAny_bind (wpAny_standAt (wpAny_bind (wpAny_of_eq (hs v) (wpAny_bind (wpAny_holding (wpAny_mono h₁ (fun u s₂ h₂ => wpAny_bind (wpAny_mono h₂ (fun _ _ q => wpAny_pure q) fun _ _ x => x)) fun _ _ x => x))))))

theorem Cp.two (O : C.Ok) {elt iter iter' : Expr} {x y : Str} {px py : Pos} {scope : Scope} {pos p : Pos} {cl : List (Str × Addr)} {n m : Nat} {vd ud : Nat → D} {r : Nat → Nat → D} (σ' : Sg)
    (hi : Itr W C σ μ iter n vd) (hn : (flat (fun i => (List.range m).map (r i)) n).length ≤ sizeLine)
    (hclos : closureFor scope C.env = pure cl) (hcl : fromOuter C cl) (hσ : Le σ' σ) (hfree : ∀ y d, σ' y = some d → scope.names.lookup y = some .free) (hx : scope.names.lookup x = some .local) (hy : scope.names.lookup y = some .local) (hxy : y ≠ x)
    (hi' : ∀ L a xs i, i < n → (compC C scope cl L).Ok → Itr W (compC C scope cl L) (upd σ' x (vd i)) ((a, .list xs) :: μ) iter' m ud)
    (he : ∀ L a xs i j, i < n → j < m → (compC C scope cl L).Ok → Ev W (compC C scope cl L) (upd (upd σ' x (vd i)) y (ud j)) ((a, .list xs) :: μ) elt (r i j))
    (hcell : ∀ y ∈ scope.names, y.2 ≠ .cell := by decide) (hkind : scope.kind = .function := by rfl) (hnames : ∀ y ∈ scope.names, y.2 = .local → scope.names.lookup y.1 = some .local := by decide)
    (hs : ∀ x, foldedSetIterable iter C.env x = pure x := by intro _; rfl) (hs' : ∀ (env : Env) x, foldedSetIterable iter' env x = pure x := by intro _ _; rfl) : Cp W C σ μ (.ListComp elt [⟨.Name x px, iter, [], 0⟩, ⟨.Name y py, iter', [], 0⟩] scope pos) scope p (eval iter C.env) (flat (fun i => (List.range m).map (r i)) n) := by
  refine Cp.core O hi rfl rfl rfl hclos hcl hcell hkind hnames hσ hfree (fun _ _ _ => rfl) (fun _ _ _ => rfl) (fun _ _ _ => rfl) ?_ hs
  intro I a L fp P St s₀ K OC it R₀ hK
  have hfl : ∀ i, flat (fun j => [r i j]) m = (List.range m).map (r i) := by
    intro i
    unfold flat
    generalize List.range m = l
    induction l with
    | nil => rfl
    | cons b l ih => rw [List.flatMap_cons, List.map_cons, ih]; rfl
  have hσx : ∀ z, scope.names.lookup z = some .local → σ' z = none := fun z hz => by
    cases e : σ' z with
    | none => rfl
    | some d => rw [hfree z d e] at hz; cases hz
  refine comp_loop (C := compC C scope cl L) (tail := do
      let q ← eval iter' (compEnvC scope cl L C.env)
      standAt iter'.pos
      let q ← foldedSetIterable iter' (compEnvC scope cl L C.env) q
      let _ ← runOwn (.compStart (.ListComp elt [⟨.Name x px, iter, [], 0⟩, ⟨.Name y py, iter', [], 0⟩] scope pos) 1 (← holding [q] (pyIter q)) (.ref a) (compEnvC scope cl L C.env)) (compEnvC scope cl L C.env))
    (r := fun i => (List.range m).map (r i)) (x := x) (px := px) (q := iter.pos) OC ?_ rfl rfl rfl it R₀ ?_ ?_ ?_ ?_ ?_
  · simp only [compTurn, bind_assoc]
    rfl
  · rw [compC.kindOf, hx]; rfl
  · exact hσx x hx
  · intro i hlt
    rw [← hfl i]
    refine Tl.inner (C := compC C scope cl L) (tail := do let _ ← PySem.call (.builtin "list.append") [.ref a, ← eval elt (compEnvC scope cl L C.env)]) (g := ⟨.Name y py, iter', [], 0⟩) (x := y) (px := py) OC (fun xs => hi' L a xs i hlt OC) (fun _ => rfl) rfl rfl (fun _ => rfl) (fun _ => rfl) (fun _ => rfl) (fun _ => rfl) (fun _ => rfl) (fun _ => rfl) ?_ ?_ (hs' _) ?_
    · rw [compC.kindOf, hy]; rfl
    · unfold upd; rw [if_neg hxy]; exact hσx y hy
    · exact fun j hj => Tl.elt OC fun xs => he L a xs i j hlt hj OC
  · simpa using hn
  · intro s' R' y'
    exact hK s' (by simpa using R') (fun b o h1 h2 h3 _ e => y'.kept b o e (fun hm => (List.mem_cons.mp hm).elim h1 fun hm => (List.mem_cons.mp hm).elim h2 fun hm => (List.mem_cons.mp hm).elim h3 fun hm => nomatch hm)) y'.size y'.gens y'.drawn y'.os y'.toks
end
end Mine

namespace Mine
section
variable {prog : Program} {w : World} {W : Glob prog w} {C : Act} {σ : Sg} {μ : Mu}

theorem En.comp {elt : Expr} {gens : List Comprehension} {scope : Scope} {pos : Pos} {ds : List D} (h : Cp W C σ μ (.ListComp elt gens scope pos) scope (firstIterPos gens pos) (firstIter gens C.env) ds)
    (ha : firstAsync gens = false := by rfl) : En W C σ μ (.ListComp elt gens scope pos) ds := by
  refine ⟨fun s Q E R hQ => ?_⟩
  rw [eval_ListComp, ha]
  refine h.run none s Q E R fun acc vs L m s' y fr frL ne hl hv hn => ⟨m, hn, fun h' hs' => ?_⟩
  have key : ∀ b o, b ≠ L → s'.heap.get? b = some o → h'.get? b = some o := fun b o hb e => hs'.extBut b o hb e
  refine hQ acc vs _ ⟨fun b o e _ => key b o (fun z => Nat.lt_irrefl _ (Nat.lt_of_lt_of_le (z ▸ Heap.lt_size e) frL)) (y.all b o e), by show _ ≤ h'.objs.size; rw [hs'.1]; exact y.size, y.gens, y.drawn, y.os, y.toks⟩ fr
    (let ⟨n, g⟩ := hl; ⟨n, key _ _ ne g⟩) (hv.mono (Nat.le_refl _) fun b o p e => ⟨⟨p.1, p.2.1⟩, key b o p.2.2 e⟩)

theorem Exs.assignComp (O : C.Ok) {x : Str} {p pos cpos : Pos} {elt : Expr} {gens : List Comprehension} {scope : Scope} {ds : List D} {rest : List Stmt} {K : FD → Sg → Mu → Prop} (hx : C.env.kindOf x = some .local)
    (he : Cp W C σ μ (.ListComp elt gens scope cpos) scope (firstIterPos gens cpos) (firstIter gens C.env) ds)
    (hr : Exs W C (upd σ x (.lst ds)) μ rest K)
    (hs : swapsWith (.ListComp elt gens scope cpos) (some (.Name x p)) pos.line C.env = pure true := by rfl) (ha : firstAsync gens = false := by rfl) : Exs W C σ μ (.Assign [.Name x p] (.ListComp elt gens scope cpos) pos :: rest) K := by
  refine Exs.one (σ' := upd σ x (.lst ds)) (μ' := μ) ?_ hr
  refine ⟨fun s Q E R hQ => ?_⟩
  rw [exec_Assign_Name_used _ _ _ _ hs]
  refine wpAny_bind (wpAny_standAt (wpAny_bind ?_))
  show wpAny _ _ (do let _ ← comprehension (.ListComp elt gens scope cpos) scope C.env (firstIterPos gens cpos) (newList []) (firstAsync gens) (firstIter gens C.env) (some (PySem.assign (.Name x p) C.env))) _ _ s
  rw [ha]
  refine wpAny_bind (wpAny_mono (he.run (some (PySem.assign (.Name x p) C.env)) s (fun _ s' => Q .next s') E R fun acc vs L m s' y fr frL ne hl hv hn => ?_) (fun _ s' hq => wpAny_pure (wpAny_pure hq)) fun _ _ e => e)
  show wpAny _ _ (PySem.assign (.Name x p) C.env (.ref acc)) _ _ _
  have R' := R.step y
  have hL : C.env.locals ∈ C.mut μ := List.mem_append_left _ List.mem_cons_self
  have nacc : acc ∉ C.mut μ := fun hm => Nat.lt_irrefl _ (Nat.lt_of_lt_of_le (R.lt acc hm) fr)
  have nL : L ∉ C.mut μ := fun hm => Nat.lt_irrefl _ (Nat.lt_of_lt_of_le (R.lt L hm) frL)
  -- the new block's names go, all else stays
  refine wpAny_assign_Name ?_
  -- as if L were of no account: it is no data of what is stored
  have xv : VR (fun b => C.D μ b ∧ b ≠ L) s'.toks s'.heap (.lst ds) (.ref acc) :=
    ⟨acc, vs, rfl, ⟨⟨.inr (Nat.le_trans R.size fr), nacc⟩, ne⟩, hl, hv.mono (Nat.le_refl _) fun b o p e => ⟨⟨p.1, p.2.2⟩, e⟩⟩
  obtain ⟨mm, hn', hm'⟩ := R'.loc
  refine Rep.storeL O R' (d := .lst ds) (xv.mono (Nat.le_refl _) fun b o p e => ⟨p.1, e⟩) hx fun s₂ R₂ y₂ => ?_
  have LL : L ≠ C.env.locals := fun z => nL (z ▸ hL)
  obtain ⟨oL, eL, pL, hoL, rL⟩ := hn
  refine ⟨m, ⟨oL, eL, pL, y₂.kept _ _ hoL (by simpa using LL), rL⟩, fun h' hs' => ?_⟩
  have key : ∀ b o, b ≠ L → s₂.heap.get? b = some o → h'.get? b = some o := fun b o hb e => hs'.extBut b o hb e
  have hL2 : ∀ o, s₂.heap.get? L = some o → ¬ Seqy o := by
    intro o e
    rw [y₂.kept _ _ hoL (by simpa using LL)] at e
    cases e
    rintro ⟨_, _, _, q⟩
    rw [rL.1] at q; cases q
  refine hQ .next .next (upd σ x (.lst ds)) μ _ ⟨rfl, rfl, rfl⟩ (Rep.but O.cell R₂ hL2 nL (Nat.le_trans R.n₀ frL) (fun b o hb e => key b o hb e) (Nat.le_of_eq hs'.1.symm) (Nat.le_refl _)) ?_ (fun a ha => .inl ha) rfl
  have y₃ := Mv.ofStp y y₂
  refine ⟨fun b o e hb => key b o (fun z => Nat.lt_irrefl _ (Nat.lt_of_lt_of_le (z ▸ Heap.lt_size e) frL)) (y₃.kept b o e fun hm => hb ?_), by show _ ≤ h'.objs.size; rw [hs'.1]; exact y₃.size, y₃.gens, y₃.drawn, y₃.os, y₃.toks⟩
  rw [List.mem_singleton.mp hm]; exact hL

theorem Exs.aug (O : C.Ok) {x : Str} {p pos : Pos} {op : Operator} {e : Expr} {d₀ d₁ d : D} {rest : List Stmt} {K : FD → Sg → Mu → Prop} (hk : C.env.kindOf x = some .local) (hx : σ x = some d₀)
    (he : Ev W C σ μ e d₁) (hop : Op2 W C σ μ (inplaceOp op) d₀ d₁ d) (hr : Exs W C (upd σ x d) μ rest K) : Exs W C σ μ (.AugAssign (.Name x p) op e pos :: rest) K := by
  refine Exs.one (σ' := upd σ x d) (μ' := μ) ?_ hr
  refine ⟨fun s Q E R hQ => ?_⟩
  obtain ⟨m, hn, hm⟩ := R.loc
  obtain ⟨v₀, hv₀, r₀⟩ := hm x d₀ hx hk
  refine wpAny_AugAssign_Name (wpAny_loadName_local O.kind hk hn hv₀ (he.run s _ _ R fun v s₁ y₁ x₁ => hop s₁ _ _ _ _ (R.step y₁) (r₀.step y₁) x₁ fun u s₂ y₂ x₂ => Rep.storeL O (R.step (y₁.trans y₂)) x₂ hk fun s₃ R₃ y₃ => ?_))
  exact hQ .next _ _ _ s₃ ⟨rfl, rfl, rfl⟩ R₃ (Mv.ofStp (y₁.trans y₂) (y₃.wk fun a ha => by rw [List.mem_singleton.mp ha]; exact List.mem_append_left _ List.mem_cons_self)) (fun a ha => .inl ha) rfl

theorem Exs.assign2 (O : C.Ok) {x y : Str} {p p' pos : Pos} {e : Expr} {d : D} {rest : List Stmt} {K : FD → Sg → Mu → Prop} (hx : Stores C x) (hy : Stores C y) (he : Ev W C σ μ e d)
    (hr : Exs W C (upd (upd σ x d) y d) μ rest K) (hw : swappedStores [.Name x p, .Name y p'] e C.env = pure none := by rfl) : Exs W C σ μ (.Assign [.Name x p, .Name y p'] e pos :: rest) K := by
  refine Exs.one (σ' := upd (upd σ x d) y d) (μ' := μ) ?_ hr
  refine ⟨fun s Q E R hQ => ?_⟩
  refine wpAny_Assign_two (he.run s _ _ R fun v s₁ y₁ x₁ => wpAny_assign_Name (Rep.store O (R.step y₁) x₁ hx fun s₂ R₂ y₂ => wpAny_assign_Name (Rep.store O R₂ ((Car.mv y₂ fun a ha => .inl ha).vr x₁) hy fun s₃ R₃ y₃ => ?_))) rfl hw
  exact hQ .next _ _ _ s₃ ⟨rfl, rfl, rfl⟩ R₃ (Mv.ofStp y₁ (y₂.trans y₃ fun b hb => .inl hb)) (fun a ha => .inl ha) rfl

theorem Exs.swap (O : C.Ok) {x y : Str} {k : Nat} {p p' tp pos : Pos} {e : Expr} {d d' : D} {rest : List Stmt} {K : FD → Sg → Mu → Prop} (hx : Stores C x) (hy : Stores C y) (he : Ev W C σ μ e (.tup [d, d']))
    (hr : Exs W C (upd (upd σ y d') x d) μ rest K) (hw : swappedStores [.Tuple [.Name x p, .Name y p'] k tp] e C.env = pure (some [x, y]) := by rfl) (hs : swapsWithSole [.Tuple [.Name x p, .Name y p'] k tp] e pos.line C.env = pure false := by rfl) : Exs W C σ μ (.Assign [.Tuple [.Name x p, .Name y p'] k tp] e pos :: rest) K := by
  refine Exs.one (σ' := upd (upd σ y d') x d) (μ' := μ) ?_ hr
  refine ⟨fun s Q E R hQ => ?_⟩
  refine Assign_Tuple_swapped (names := [x, y]) (he.run s _ _ R fun v s₁ y₁ x₁ => ?_) hs hw
  obtain ⟨a, vs, rfl, hp, ⟨n, hg⟩, v₁, vs₁, e₁, r₁, v₂, vs₂, e₂, r₂, e₃⟩ := x₁
  subst e₃; subst e₂
  have hvs : vs = #[v₁, v₂] := Array.ext' e₁
  subst hvs
  have R₁ := R.step y₁
  refine wpAny_gr (wpAny_unpackItems_tuple (items := #[v₁, v₂]) O.hand ⟨_, hg, rfl, n, rfl⟩ fun h' hk => fun gt gs => ?_)
  have key : hsz s₁ ≤ h'.objs.size := gs
  have y₂ : Stp s₁ { s₁ with heap := h' } := Stp.mk' (fun b o e => hk b o (Nat.ne_of_lt (Heap.lt_size e)) e) key
  show wpAny _ _ (do holding [v₁] (bindName C.env y v₂); assignInOrder [bindName C.env x] [v₁]) _ _ _
  refine wpAny_bind (wpAny_holding (wpAny_bindName (Rep.store O (R₁.step y₂) (r₂.step y₂) hy fun s₃ R₃ y₃ => ?_)))
  show wpAny _ _ (do holding [] (bindName C.env x v₁); assignInOrder [] []) _ _ _
  refine wpAny_bind (wpAny_holding (wpAny_bindName (Rep.store O R₃ ((Car.mv y₃ fun a ha => .inl ha).vr (r₁.step y₂)) hx fun s₄ R₄ y₄ => wpAny_pure ?_)))
  exact hQ .next _ _ _ s₄ ⟨rfl, rfl, rfl⟩ R₄ (Mv.ofStp (y₁.trans y₂) (y₃.trans y₄ fun b hb => .inl hb)) (fun a ha => .inl ha) rfl

theorem Exs.pair (O : C.Ok) {x y : Str} {k : Nat} {p p' tp pos : Pos} {e : Expr} {d d' : D} {rest : List Stmt} {K : FD → Sg → Mu → Prop} (hx : Stores C x) (hy : Stores C y) (he : Ev W C σ μ e (.tup [d, d']))
    (hr : Exs W C (upd (upd σ x d) y d') μ rest K) (hw : swappedStores [.Tuple [.Name x p, .Name y p'] k tp] e C.env = pure none := by rfl) (hs : swapsWithSole [.Tuple [.Name x p, .Name y p'] k tp] e pos.line C.env = pure false := by rfl) : Exs W C σ μ (.Assign [.Tuple [.Name x p, .Name y p'] k tp] e pos :: rest) K := by
  refine Exs.one (σ' := upd (upd σ x d) y d') (μ' := μ) ?_ hr
  refine ⟨fun s Q E R hQ => ?_⟩
  refine Assign_Tuple (he.run s _ _ R fun v s₁ y₁ x₁ => ?_) hs hw
  refine Tgt.pair O hx hy σ s₁ _ _ v (R.step y₁) x₁ fun s₂ R₂ y₂ => ?_
  exact hQ .next _ _ _ s₂ ⟨rfl, rfl, rfl⟩ R₂ (Mv.ofStp y₁ y₂) (fun a ha => .inl ha) rfl

theorem Ex1.while_ (O : C.Ok) {t : Expr} {body : List Stmt} {pos : Pos} {K : FD → Sg → Mu → Prop} (I : Nat → Sg → Mu → Prop) (b : Nat → Bool) (n : Nat)
    (ht : ∀ i σ' μ', I i σ' μ' → Ts W C σ' μ' t (b i)) (h0 : I n σ μ)
    (turn : ∀ i σ' μ', b i = true → I i σ' μ' → Exs W C σ' μ' body (fun fl σ'' μ'' => match fl with | .next | .cont => ∃ j σ₃, j < i ∧ Le σ₃ σ'' ∧ I j σ₃ μ'' | .brk => K .next σ'' μ'' | .ret d => K (.ret d) σ'' μ''))
    (fin : ∀ i σ' μ', b i = false → I i σ' μ' → K .next σ' μ') : Ex1 W C σ μ (.While t body [] pos) K := by
  refine ⟨fun s Q E R hQ => ?_⟩
  refine wpAny_While ?_
  refine codeAny_whileLoop (fun k s' => ∃ σ' μ', I k σ' μ' ∧ Rep W C σ' μ' s' ∧ Mv (C.mut μ) s s' ∧ (∀ a ∈ C.mut μ', a ∈ C.mut μ ∨ s.heap.objs.size ≤ a)) ?_ n ⟨σ, μ, h0, R, Mv.refl _ _, fun a ha => .inl ha⟩
  rintro i s' ⟨σ', μ', hI, R', y', new⟩
  refine (ht i σ' μ' hI).run s' _ _ R' fun s₁ y₁ => ?_
  have y₁' : Mv (C.mut μ) s s₁ := y'.trans y₁ fun _ h => nomatch h
  cases hb : b i with
  | false =>
    simp only [Bool.false_eq_true, if_false]
    exact wpAny_execs_nil (hQ .next .next σ' μ' s₁ (fin i _ _ hb hI) (R'.step y₁) y₁' new rfl)
  | true =>
    simp only [if_true]
    refine (turn i σ' μ' hb hI).run s₁ _ _ (R'.step y₁) fun fd fl σ'' μ'' s₂ hk R₂ y₂ new₂ fr => ?_
    have y₂' : Mv (C.mut μ) s s₂ := y₁'.trans y₂ fun a ha => (new a ha)
    have new' : ∀ a ∈ C.mut μ'', a ∈ C.mut μ ∨ s.heap.objs.size ≤ a := fun a ha => (new₂ a ha).elim (new a) fun z => .inr (Nat.le_trans y₁'.size z)
    cases fd with
    | next =>
      cases fr
      obtain ⟨j, σ₃, hj, hle, hI'⟩ := hk
      exact ⟨j, hj, σ₃, μ'', hI', R₂.weaken hle, y₂', new'⟩
    | cont =>
      cases fr
      obtain ⟨j, σ₃, hj, hle, hI'⟩ := hk
      exact ⟨j, hj, σ₃, μ'', hI', R₂.weaken hle, y₂', new'⟩
    | brk => cases fr; exact hQ .next _ σ'' μ'' s₂ hk R₂ y₂' new' rfl
    | ret d =>
      obtain ⟨u, rfl, r⟩ := fr
      exact hQ (.ret d) _ σ'' μ'' s₂ hk R₂ y₂' new' ⟨u, rfl, r⟩
end
end Mine

namespace Mine
section
variable {prog : Program} {w : World} {W : Glob prog w} {C : Act} {σ : Sg} {μ : Mu}

theorem Ev.meth (O : C.Ok) {o : Expr} {name : Str} {apos pos : Pos} {args : List Expr} {T id : String} {d₀ d : D} {ds : List D} (ho : Ev W C σ μ o d₀) (ha : Es W C σ μ pos args ds)
    (hF : OpN W C σ μ (cB id) (d₀ :: ds) d) (hne : args ≠ [])
    (hT : ∀ (s : Shared) v, VR (C.D μ) s.toks s.heap d₀ v → s.TypeIs v T ∧ ∀ a, v = .ref a → ∃ ob, s.heap.get? a = some ob ∧ ob.dict = none)
    (pa : PlainAttrs T) (slot : Slot T name id) (hty : typeOf (.builtin id) = pure (.type "method_descriptor"))
    (hbase : attributeBase o name C.env (eval o C.env) = eval o C.env := by rfl)
    (hfew : ((backTo pos (starEach args C.env)).all (fun x => !x.1) && (backToKw pos (keywordEach [] C.env)).all (fun x => x.1.isSome)
      && decide (args.length + ([] : List Keyword).length + (if ([] : List Keyword).isEmpty then 0 else 1) < 30)) = true := by rfl)
    (hline : (apos.endLine == pos.line) = true := by rfl)
    (hq : starEach args C.env = args.map (fun e => (false, eval e C.env)) := by rfl) : Ev W C σ μ (.Call (.Attribute o name apos) args [] pos) d := by
  refine ⟨fun s Q E R hQ => ?_⟩
  refine PySem.wpAny_Call_method hbase hfew hline pa slot hty (ho.run s _ _ R fun v s₁ y₁ x₁ => ⟨(hT s₁ v x₁).1, (hT s₁ v x₁).2, ?_⟩)
  cases args with
  | nil => exact absurd rfl hne
  | cons e rest =>
    refine Calls.callWith_builtin (backTo_plain hq) ?_
    rw [args_cons hq]
    refine Calls.evalArgs_plain ?_
    rw [← args_cons hq]
    exact ha.run s₁ _ _ (R.step y₁) fun vs s₂ y₂ x₂ => hF s₂ _ _ _ (R.step (y₁.trans y₂)) (VRs.cons (x₁.step y₂) x₂) fun v s₃ y₃ x₃ => hQ v s₃ ((y₁.trans y₂).trans y₃) x₃
theorem Ev.meth0 (O : C.Ok) {o : Expr} {name : Str} {apos pos : Pos} {T id : String} {d₀ d : D} (ho : Ev W C σ μ o d₀)
    (hF : OpN W C σ μ (cB id) [d₀] d)
    (hT : ∀ (s : Shared) v, VR (C.D μ) s.toks s.heap d₀ v → s.TypeIs v T ∧ ∀ a, v = .ref a → ∃ ob, s.heap.get? a = some ob ∧ ob.dict = none)
    (pa : PlainAttrs T) (slot : Slot T name id) (hty : typeOf (.builtin id) = pure (.type "method_descriptor"))
    (hbase : attributeBase o name C.env (eval o C.env) = eval o C.env := by rfl)
    (hfew : ((backTo pos (starEach [] C.env)).all (fun x => !x.1) && (backToKw pos (keywordEach [] C.env)).all (fun x => x.1.isSome)
      && decide (([] : List Expr).length + ([] : List Keyword).length + (if ([] : List Keyword).isEmpty then 0 else 1) < 30)) = true := by rfl)
    (hline : (apos.endLine == pos.line) = true := by rfl) : Ev W C σ μ (.Call (.Attribute o name apos) [] [] pos) d := by
  refine ⟨fun s Q E R hQ => ?_⟩
  refine PySem.wpAny_Call_method hbase hfew hline pa slot hty (ho.run s _ _ R fun v s₁ y₁ x₁ => ⟨(hT s₁ v x₁).1, (hT s₁ v x₁).2, ?_⟩)
  refine Calls.callWith_builtin rfl ?_
  refine evalArgs_nil3 ?_
  exact hF s₁ _ _ _ (R.step y₁) (VRs.one x₁) fun v s₃ y₃ x₃ => hQ v s₃ (y₁.trans y₃) x₃

theorem ty_str {P : Addr → Prop} {l : List Nat} : ∀ (s : Shared) v, VR P s.toks s.heap (.str l) v → s.TypeIs v "str" ∧ ∀ a, v = .ref a → ∃ ob, s.heap.get? a = some ob ∧ ob.dict = none := by
  rintro s _ ⟨t, rfl⟩
  exact ⟨typeIs_str _ _ _, fun a e => nomatch e⟩

theorem OpN.lower {l r : List Nat} (hr : Txt.lower ⟨l.toArray⟩ = ⟨r.toArray⟩) (hl : r.length ≤ sizeLine) : OpN W C σ μ (cB "str.lower") [.str l] (.str r) := by
  rintro s Q E _ R ⟨v, _, rfl, ⟨t, rfl⟩, rfl⟩ hQ
  refine SC.lower ?_ ?_
  · rw [hr, len_mk]; unfold Builtin.Str.tooLong; simp; exact hl
  · rw [hr]; exact hQ _ _ (Stp.tk (by omega)) ⟨_, rfl⟩
theorem OpN.isInstIB {i : Int} : OpN W C σ μ (cB "isinstance") [.int i, .typ "bool"] (.bool false) := by
  rintro s Q E _ R ⟨v, _, rfl, ⟨t, rfl⟩, u, _, rfl, rfl, rfl⟩ hQ
  exact IsiPair.int_bool (hQ _ _ (Stp.tk (by omega)) rfl)
theorem Ev.builtinType (O : C.Ok) {x : Str} {T : String} {pos : Pos} (hk : C.env.kindOf x = some .globalImplicit) (hm : W.mg x = none) (hb : W.mb x = some (.type T)) (hd : (x == ("__debug__" : Str)) = false := by decide) : Ev W C σ μ (.Name x pos) (.typ T) :=
  ⟨fun s Q E R hQ => wp_builtin O R hk hm hb (hQ _ s (Mv.refl _ _) rfl) hd⟩

theorem strsAre {P : Addr → Prop} {k : Nat} {h : Heap} : ∀ {ls : List (List Nat)} {vs : List Value}, VRs P k h (ls.map .str) vs → StrsAre vs (ls.map fun l => ⟨l.toArray⟩)
  | [], _, x => by cases x; exact .nil
  | l :: ls, _, x => by
    obtain ⟨v, vs, rfl, ⟨t, rfl⟩, b⟩ := x
    exact .cons _ _ (strsAre b)
theorem join_flat₀ : ∀ ls : List (List Nat), Str.join ⟨#[]⟩ (ls.map fun l => (⟨l.toArray⟩ : Str)) = ⟨ls.flatten.toArray⟩
  | [] => rfl
  | l :: ls => by rw [List.map_cons, PyProof.Rows.join_nil_cons, join_flat₀ ls, mk_append]; rfl
theorem join_flat (ls : List (List Nat)) : Txt.join ⟨#[]⟩ (ls.map fun l => (⟨l.toArray⟩ : Str)) = ⟨ls.flatten.toArray⟩ := by
  unfold Txt.join; rw [StrLaws.glued_eq_join, join_flat₀]
theorem OpN.join {ls : List (List Nat)} (hl : ls.flatten.length ≤ sizeLine) : OpN W C σ μ (cB "str.join") [.str [], .lst (ls.map .str)] (.str ls.flatten) := by
  rintro s Q E _ R ⟨v, _, rfl, ⟨t, rfl⟩, u, _, rfl, ⟨a, vs, rfl, hp, ⟨n, hg⟩, r⟩, rfl⟩ hQ
  have hlen : ((ls.map fun l => (⟨l.toArray⟩ : Str)).map (·.length)).sum = ls.flatten.length := by
    rw [List.map_map, List.length_flatten]; exact congrArg List.sum (List.map_congr_left fun l _ => len_mk l)
  refine wpAny_tk (join_list ⟨_, hg, rfl, n, rfl⟩ (strsAre r) ?_ fun t' k => ?_)
  · rw [hlen]
    show _ + _ * (Str.length ⟨#[]⟩) ≤ _
    have : Str.length ⟨#[]⟩ = 0 := rfl
    rw [this]; unfold sizeLine at hl; omega
  · intro hk
    have := join_flat ls
    show Q (.str (Txt.join ⟨#[]⟩ _) t') _
    rw [this]
    exact hQ _ _ (Stp.tk hk) ⟨_, rfl⟩

theorem OpN.minL (O : C.Ok) {l : List Int} {m : Int} (hne : 0 < l.length) (hm : m ∈ l) (hle : ∀ a ∈ l, m ≤ a) : OpN W C σ μ (cB "min") [.lst (l.map .int)] (.int m) := by
  rintro s Q E _ R ⟨v, _, rfl, ⟨a, vs, rfl, hp, ⟨n, hg⟩, r⟩, rfl⟩ hQ
  have hi : IntsAre vs.toList l := by
    clear hg hm hle hne
    generalize vs.toList = us at r
    induction l generalizing us with
    | nil => cases r; exact .nil
    | cons i l ih =>
      obtain ⟨v, us', rfl, ⟨t, rfl⟩, b⟩ := r
      exact .cons _ _ (ih _ b)
  obtain ⟨xs, e⟩ := hi.allInts.items
  have hns : l = xs.toList.map (·.1) := by rw [← hi.numsOf, ← nums_intItems, ← e]
  have hsz : 0 < xs.size := by
    have h3 := hne; rw [hns, List.length_map, Array.length_toList] at h3; exact h3
  have hL : s.heap.IsList a vs.toList.toArray := ⟨_, by simpa using hg, rfl, n, rfl⟩
  rw [e] at hL
  refine wpAny_gr (min_intList O.hand hL hsz fun v h' tk hv hk => fun gt gs => ?_)
  obtain ⟨t, rfl⟩ := intItems_at hv
  obtain ⟨h1, h2⟩ := argBest_lt (numAt xs) (xs.size - 1)
  have key : numAt xs (argBest (fun i j => decide (numAt xs i < numAt xs j)) (xs.size - 1)) = m := by
    have h3 : numAt xs (argBest (fun i j => decide (numAt xs i < numAt xs j)) (xs.size - 1)) ∈ l := by
      rw [hns, numAt_eq]; exact getD_mem (by rw [List.length_map, Array.length_toList]; omega)
    have h4 := hle _ h3
    have hm' := hm
    rw [hns] at hm'
    obtain ⟨j, hj, hj'⟩ := mem_getD hm'
    rw [List.length_map, Array.length_toList] at hj
    rw [← numAt_eq] at hj'
    have h5 := h2 j (by omega)
    rw [hj'] at h5
    omega
  rw [key]
  exact hQ _ _ (Stp.gr hk gt gs) ⟨_, rfl⟩
end
end Mine

namespace Mine
theorem kind_hasattr : builtinKind "hasattr" = none := by decide +kernel
theorem plain_hasattr : plainId "hasattr" = true := by decide +kernel
theorem entry_hasattr : entryFor table "hasattr" = some Builtin.«hasattr» := entryFor_of_tree (by kernel_rfl)
theorem args_hasattr (a b : Value) : argsOk "hasattr" ⟨[a, b], []⟩ := by unfold argsOk; kernel_rfl
theorem bind_list_getitem (v : Value) : True := trivial
theorem sub_list_getitem_owner : isSubtype (.type "list") (.type (".".intercalate ("list.__getitem__".cutAt '.').dropLast)) = pure true := by
  rw [show (".".intercalate ("list.__getitem__".cutAt '.').dropLast) = "list" by decide +kernel, isSubtype_type]; kernel_rfl

theorem slot_md_get : Slot "method_descriptor" "__get__" "method_descriptor.__get__" :=
  .of (owner := "method_descriptor") (n := "__get__") (by rw [typeLookup_type, builtinLookup_eq_fast]; kernel_rfl) (by decide +kernel) (by decide +kernel) (by decide +kernel)
    (by first | exact .inl (by decide +kernel) | exact .inr (by decide +kernel)) (by rw [isSubtype_type]; kernel_rfl)
theorem entry_md_get : entryFor table "method_descriptor.__get__" = some Builtin.«method_descriptor.__get__» := entryFor_of_tree (by kernel_rfl)
theorem args_md_get (a b c : Value) : argsOk "method_descriptor.__get__" ⟨[a, b, c], []⟩ := by unfold argsOk; kernel_rfl
theorem lk_md_set : typeLookup (.type "method_descriptor") "__set__" = pure none := by rw [typeLookup_type, builtinLookup_eq_fast]; kernel_rfl
theorem lk_md_delete : typeLookup (.type "method_descriptor") "__delete__" = pure none := by rw [typeLookup_type, builtinLookup_eq_fast]; kernel_rfl

section
variable {prog : Program} {w : World} {A : Around} {E : Value → Shared → Prop} {h : Heap} {g : Array GenState} {d : Drawn} {t : Nat} {os : OsState} {a : Addr} {o : Obj}
theorem md_get_list_getitem {R : Result → Shared → Prop} (hx : h.get? a = some o) (hc : o.cls = .type "list") (hq : ∀ v s', (∀ b o, h.get? b = some o → s'.heap.get? b = some o) → s'.gens = g → s'.drawn = d → s'.os = os → R (.ok (.ret (.ref v))) s') :
    codeAny (model prog w) A (.call (.builtin "method_descriptor.__get__") ⟨[.builtin "list.__getitem__", .ref a, .type "list"], []⟩) R ⟨h, g, d, t, os⟩ := by
  have hT : (⟨h, g, d, t, os⟩ : Shared).TypeIs (.ref a) "list" := ⟨_, hx, hc⟩
  have hT5 : (⟨h, g, d, t, os⟩ : Shared).TypeIs (.builtin "list.__getitem__") "method_descriptor" := F.type_list_getitem
  have f8 := sub_list_getitem_owner
  refine codeAny_call_builtin slot_md_get.plain entry_md_get (slot_md_get.check _ _ _ _ _ _ _ _ hT5 (args_md_get _ _ _) ?_)
  repeat (any_goals (first | assumption | wp_step))
  exact hq _ _ (fun b o e => Heap.get?_push_of_some _ e) rfl rfl rfl
theorem ga_list_getitem {tk : Tok} {R : Result → Shared → Prop} {vs : Array Value} {n : Nat} (hx : h.get? a = some { cls := .type "list", data := .seq vs n }) (hq : ∀ v s', (∀ b o, h.get? b = some o → s'.heap.get? b = some o) → s'.gens = g → s'.drawn = d → s'.os = os → R (.ok (.ret (.ref v))) s') :
    codeAny (model prog w) A (.call (.builtin "list.__getattribute__") ⟨[.ref a, .str "__getitem__" tk], []⟩) R ⟨h, g, d, t, os⟩ := by
  have hT : (⟨h, g, d, t, os⟩ : Shared).TypeIs (.ref a) "list" := ⟨_, hx, rfl⟩
  refine codeAny_call_builtin F.slot_list_getattribute.plain F.entry_list_ga (F.slot_list_getattribute.check _ _ _ _ _ _ _ _ hT (F.args_list_getattribute_2 _ _) ?_)
  have f1 := F.slot_list_getitem.lookup
  have f4 := F.type_list_getitem
  have f5 := slot_md_get.lookup
  have f6 := lk_md_set
  have f7 := lk_md_delete
  have f8 := slot_md_get.bind (.builtin "list.__getitem__")
  repeat (any_goals (first | assumption | wp_step))
  refine md_get_list_getitem hx rfl fun v s' hk e1 e2 e3 => ?_
  repeat (any_goals (first | assumption | wp_step))
  exact hq _ _ hk e1 e2 e3
theorem hasattr_list {tk : Tok} {Q : Value → Shared → Prop} {vs : Array Value} {n : Nat} (hx : h.get? a = some { cls := .type "list", data := .seq vs n }) (hq : ∀ s', (∀ b o, h.get? b = some o → s'.heap.get? b = some o) → s'.gens = g → s'.drawn = d → s'.os = os → Q (.bool true) s') :
    wpAny (model prog w) A (PySem.call (.builtin "hasattr") [.ref a, .str "__getitem__" tk]) Q E ⟨h, g, d, t, os⟩ := by
  refine call_function_tree kind_hasattr plain_hasattr entry_hasattr (args_hasattr _ _) ?_
  have hT : (⟨h, g, d, t, os⟩ : Shared).TypeIs (.ref a) "list" := ⟨_, hx, rfl⟩
  have f1 := F.slot_list_getitem.lookup
  have f2 := F.slot_list_getattribute.lookup
  have f3 := F.slot_list_getattribute.bind (.ref a)
  have f4 := F.type_list_getitem
  have f5 : isSubtype (.type "list") (.type "module") = pure false := by rw [isSubtype_type]; kernel_rfl
  unfold Builtin.«hasattr» getAttrBy?
  repeat (any_goals (first | assumption | wp_step))
  refine ga_list_getitem hx fun v s' hk e1 e2 e3 => ?_
  repeat (any_goals (first | assumption | wp_step))
  exact hq _ hk e1 e2 e3
end

section
variable {prog : Program} {w : World} {W : Glob prog w} {C : Act} {σ : Sg} {μ : Mu}
theorem OpN.hasGetitem {xs : List D} : OpN W C σ μ (cB "hasattr") [.lst xs, .chr [95, 95, 103, 101, 116, 105, 116, 101, 109, 95, 95]] (.bool true) := by
  rintro s Q E _ R ⟨v, _, rfl, ⟨a, vs, rfl, hp, ⟨n, hg⟩, r⟩, u, _, rfl, ⟨t, rfl, _, _⟩, rfl⟩ hQ
  refine wpAny_gr (hasattr_list (h := s.heap) (g := s.gens) (d := s.drawn) (t := s.toks) (os := s.os) hg fun s' hk e1 e2 e3 gt gs => ?_)
  exact hQ _ s' ⟨fun b o e _ => hk b o e, gs, e1, e2, e3, gt⟩ rfl

theorem OpN.neL (O : C.Ok) {xs ys : List (List Nat)} (hxy : xs = ys) : Op2 W C σ μ (compareOp .NotEq) (.lst (xs.map .str)) (.lst (ys.map .str)) (.bool false) := by
  subst hxy
  rintro s Q E _ _ R ⟨a, vs, rfl, hp, ⟨n, hg⟩, r⟩ ⟨b, us, rfl, hp', ⟨m, hg'⟩, r'⟩ hQ
  have e1 := r.length
  have e2 := r'.length
  have hsz : vs.size = us.size := by simp only [Array.length_toList] at e1 e2; omega
  have he : ∀ j (h1 : j < vs.size) (h2 : j < us.size), SeqAt.EqAt C.A.in1 s vs[j] us[j] true := by
    intro j h1 h2
    have hj : j < (xs.map D.str).length := by simp only [Array.length_toList] at e1; omega
    have hj' : j < xs.length := by simpa using hj
    obtain ⟨v, hv, q⟩ := r.get (List.getElem?_eq_getElem hj)
    obtain ⟨u, hu, q'⟩ := r'.get (List.getElem?_eq_getElem hj)
    rw [List.getElem_map] at q q'
    obtain ⟨t, rfl⟩ := q
    obtain ⟨t', rfl⟩ := q'
    have hv' : vs[j] = .str ⟨xs[j].toArray⟩ t := by
      have : vs[j]? = some (.str ⟨xs[j].toArray⟩ t) := by simpa using hv
      rw [Array.getElem?_eq_getElem h1] at this; exact Option.some.inj this
    have hu' : us[j] = .str ⟨xs[j].toArray⟩ t' := by
      have : us[j]? = some (.str ⟨xs[j].toArray⟩ t') := by simpa using hu
      rw [Array.getElem?_eq_getElem h2] at this; exact Option.some.inj this
    rw [hv', hu']
    have := SeqAt.EqAt.str_str (A := C.A.in1) (s := s) ⟨xs[j].toArray⟩ t ⟨xs[j].toArray⟩ t'
    rwa [beq_self_eq_true] at this
  have key := SeqAt.RcNeAt.lists (A := C.A) (s := s) (l := a) (b := b) (e := fun _ => true) ⟨_, hg, rfl, n, rfl⟩ ⟨_, hg', rfl, m, rfl⟩ hsz O.units he
  refine key _ _ _ _ ?_
  have : (!(List.range vs.size).all fun _ => true) = false := by simp
  rw [this]
  exact hQ _ _ (Mv.refl _ _) rfl
end
end Mine

namespace Mine

theorem range_filter {c : Nat} : ∀ l : List Nat, ((List.range l.length).filter (fun i => l[i]? == some c)).length = l.count c
  | [] => rfl
  | a :: l => by
    rw [List.length_cons, List.range_succ_eq_map, List.filter_cons]
    have h0 : ((a :: l)[0]? == some c) = (a == c) := by simp
    rw [h0, List.filter_map, List.count_cons]
    have : (fun i => (a :: l)[i]? == some c) ∘ Nat.succ = fun i => l[i]? == some c := by funext i; simp
    rw [this, ← range_filter l]
    split <;> simp

theorem occ_loop (x : Str) (c limit : Nat) : ∀ (n a : Nat) (found : Array Nat) (free : Nat), free ≤ a → found.size + n ≤ limit →
    ((forIn (List.range' a n) (found, free) (StrLaws.occBody x ⟨#[c]⟩ x.length limit)).run.fst).size = found.size + ((List.range' a n).filter (fun i => x.cps.toList[i]? == some c)).length
  | 0, a, found, free, _, _ => by simp
  | n + 1, a, found, free, hf, hl => by
    rw [List.range'_succ, List.forIn_cons]
    have key := StrLaws.subAt_one x c a
    unfold StrLaws.occBody
    by_cases hc : x.cps.toList[a]? = some c
    · obtain ⟨h1, h2⟩ := key.mpr hc
      have hb : (x.cps.toList[a]? == some c) = true := by rw [hc]; simp
      rw [if_pos ⟨⟨⟨by show found.size < limit; omega, hf⟩, h1⟩, h2⟩, List.filter_cons, hb]
      have ih := occ_loop x c limit n (a + 1) (found.push a) (a + 1) (Nat.le_refl _) (by simp; omega)
      simp only [pure_bind, if_true]
      refine Eq.trans ih ?_
      simp; omega
    · have hb : (x.cps.toList[a]? == some c) = false := by rw [beq_eq_false_iff_ne]; exact hc
      rw [if_neg (fun h => hc (key.mp ⟨h.1.2, h.2⟩)), List.filter_cons, hb]
      have ih := occ_loop x c limit n (a + 1) found free (by omega) (by omega)
      simp only [pure_bind, Bool.false_eq_true, if_false]
      exact ih

theorem count_one (l : List Nat) (c : Nat) : (Builtin.Str.occurrences ⟨l.toArray⟩ ⟨#[c]⟩ 0 (Str.length ⟨l.toArray⟩) (Str.length ⟨l.toArray⟩ + 1)).length = l.count c := by
  rw [StrLaws.occ_eq, len_mk]
  have h := occ_loop ⟨l.toArray⟩ c (l.length + 1) (l.length + 1) 0 #[] 0 (Nat.le_refl _) (by simp)
  rw [len_mk] at h
  rw [Array.length_toList]
  refine Eq.trans h ?_
  rw [← List.range_eq_range', List.range_succ, List.filter_append]
  have := range_filter (c := c) l
  simp at this ⊢
  exact this

section
variable {prog : Program} {w : World} {W : Glob prog w} {C : Act} {σ : Sg} {μ : Mu}
theorem OpN.count {l : List Nat} {c : Nat} : OpN W C σ μ (cB "str.count") [.str l, .str [c]] (.int (l.count c)) := by
  rintro s Q E _ R ⟨v, _, rfl, ⟨t, rfl⟩, u, _, rfl, ⟨t', rfl⟩, rfl⟩ hQ
  refine SC.count ?_
  show Q (.int ((Builtin.Str.occurrences _ _ 0 _ _).length : Nat) _) _
  rw [count_one]
  exact hQ _ _ (Stp.tk (by omega)) ⟨_, rfl⟩
theorem Op2.inS {l : List Nat} {c : Nat} : Op2 W C σ μ (compareOp .In) (.str [c]) (.str l) (.bool (decide (c ∈ l))) := by
  rintro s Q E _ _ R ⟨t, rfl⟩ ⟨u, rfl⟩ hQ
  refine P.in_str ?_
  have := StrLaws.found_one ⟨l.toArray⟩ c
  simp only at this
  rw [this]
  exact hQ _ _ (Mv.refl _ _) rfl
end
end Mine

namespace Mine
section
variable {prog : Program} {w : World} {W : Glob prog w} {C : Act} {σ : Sg} {μ : Mu}

structure MuOk {prog : Program} {w : World} (W : Glob prog w) (P : Addr → Prop) (μ : Mu) (s : Shared) : Prop where
  mem : ∀ p ∈ μ, CR P s.toks s.heap p.1 p.2
  nodup : (μ.map (·.1)).Nodup
  low : ∀ b ∈ μ.map (·.1), ¬ W.Base b
  lt : ∀ b ∈ μ.map (·.1), b < s.heap.objs.size

noncomputable def newP (P : Addr → Prop) (n : Nat) (μ' : Mu) : Addr → Prop := fun b => (P b ∨ n ≤ b) ∧ b ∉ μ'.map (·.1)

noncomputable def FnM {prog : Program} {w : World} (W : Glob prog w) (a : Addr) (n : Nat) (ds : List D) (μ : Mu) (K : D → Mu → Prop) : Prop :=
  ∀ (A : Around) (s : Shared) (vals : List Value) (P : Addr → Prop) (R : Result → Shared → Prop), Lvl n A → W.G s.heap → 0 < s.toks → MuOk W P μ s → (∀ b, P b → b ∉ μ.map (·.1)) → VRs P s.toks s.heap ds vals →
    (∀ d μ' v s', K d μ' → Mv (μ.map (·.1)) s s' → (∀ b ∈ μ'.map (·.1), b ∈ μ.map (·.1) ∨ s.heap.objs.size ≤ b) → MuOk W (newP P s.heap.objs.size μ') μ' s' → VR (newP P s.heap.objs.size μ') s'.toks s'.heap d v → R (.ok (.ret v)) s') →
    codeAny (model prog w) A (.call (.ref a) ⟨vals, []⟩) R s
theorem FnM.le {a : Addr} {n m : Nat} {ds : List D} {K : D → Mu → Prop} (h : FnM W a n ds μ K) (hm : n ≤ m) : FnM W a m ds μ K :=
  fun A s vals P R hl => h A s vals P R (hl.le hm)
theorem FnM.conseq {a : Addr} {n : Nat} {ds : List D} {K K' : D → Mu → Prop} (h : FnM W a n ds μ K) (hk : ∀ d μ', K d μ' → K' d μ') : FnM W a n ds μ K' :=
  fun A s vals P R hl hG ht hM hP hv hR => h A s vals P R hl hG ht hM hP hv fun d μ' v s' k => hR d μ' v s' (hk d μ' k)

theorem Act.mut_perm {μ' : Mu} (h : μ.Perm μ') (b : Addr) : b ∈ C.mut μ ↔ b ∈ C.mut μ' := by
  unfold Act.mut
  rw [List.mem_append, List.mem_append, (h.map _).mem_iff]
theorem Act.D_perm {μ' : Mu} (h : μ.Perm μ') : C.D μ = C.D μ' := by
  funext b; unfold Act.D; rw [Act.mut_perm h]
theorem Rep.perm {μ' : Mu} {s : Shared} (h : μ.Perm μ') (R : Rep W C σ μ s) : Rep W C σ μ' s := by
  have hD := Act.D_perm (C := C) h
  refine ⟨R.top, R.size, hD ▸ R.loc, hD ▸ R.cell, fun p hp => hD ▸ R.mem p (h.mem_iff.mpr hp), ?_, fun b hb => R.low b ((Act.mut_perm h b).mpr hb), fun b hb => R.lt b ((Act.mut_perm h b).mpr hb), R.tpos⟩
  have := R.nodup
  unfold Act.mut at this ⊢
  exact (List.Perm.append_left _ (h.map _)).nodup_iff.mp this
theorem Exs.perm {μ' : Mu} {sts : List Stmt} {K : FD → Sg → Mu → Prop} (h : μ.Perm μ') (hx : Exs W C σ μ' sts K) : Exs W C σ μ sts K := by
  refine ⟨fun s Q E R hQ => hx.run s Q E (R.perm h) fun fd fl σ' μ'' s' k R' y new fr => hQ fd fl σ' μ'' s' k R' (y.wk fun b hb => (Act.mut_perm h b).mpr hb) (fun b hb => (new b hb).imp (fun z => (Act.mut_perm h b).mpr z) id) fr⟩

theorem Rep.back {s s' : Shared} {μ₀ μ' rest : Mu} (R : Rep W C σ (μ₀ ++ rest) s) (hcell : ∀ x c, C.env.cells.lookup x = some c → c ∈ C.oth) (y : Mv (μ₀.map (·.1)) s s') (new : ∀ b ∈ μ'.map (·.1), b ∈ μ₀.map (·.1) ∨ s.heap.objs.size ≤ b)
    (M : MuOk W (newP (C.D (μ₀ ++ rest)) s.heap.objs.size μ') μ' s') :
    Rep W C σ (μ' ++ rest) s' ∧ Mv (C.mut (μ₀ ++ rest)) s s' ∧ (∀ b ∈ C.mut (μ' ++ rest), b ∈ C.mut (μ₀ ++ rest) ∨ s.heap.objs.size ≤ b) ∧
      (∀ b, newP (C.D (μ₀ ++ rest)) s.heap.objs.size μ' b → C.D (μ' ++ rest) b) := by
  have hmut : ∀ (ν : Mu), C.mut (ν ++ rest) = C.fix ++ (ν.map (·.1) ++ rest.map (·.1)) := fun ν => by unfold Act.mut; rw [List.map_append]
  have nd := R.nodup
  rw [hmut] at nd
  have nd1 := List.nodup_append.mp nd
  have nd2 := List.nodup_append.mp nd1.2.1
  have lt : ∀ b, b ∈ C.fix ∨ b ∈ μ₀.map (·.1) ∨ b ∈ rest.map (·.1) → b < s.heap.objs.size := fun b hb => R.lt b (by rw [hmut]; simpa using hb)
  have memM : ∀ b, b ∈ C.mut (μ₀ ++ rest) ↔ b ∈ C.fix ∨ b ∈ μ₀.map (·.1) ∨ b ∈ rest.map (·.1) := fun b => by rw [hmut]; simp
  have memM' : ∀ b, b ∈ C.mut (μ' ++ rest) ↔ b ∈ C.fix ∨ b ∈ μ'.map (·.1) ∨ b ∈ rest.map (·.1) := fun b => by rw [hmut]; simp
  have y1 : Mv (C.mut (μ₀ ++ rest)) s s' := y.wk fun b hb => (memM b).mpr (.inr (.inl hb))
  have new1 : ∀ b ∈ C.mut (μ' ++ rest), b ∈ C.mut (μ₀ ++ rest) ∨ s.heap.objs.size ≤ b := fun b hb => by
    rcases (memM' b).mp hb with z | z | z
    · exact .inl ((memM b).mpr (.inl z))
    · exact (new b z).imp (fun q => (memM b).mpr (.inr (.inl q))) id
    · exact .inl ((memM b).mpr (.inr (.inr z)))
  have car : Car C (μ₀ ++ rest) s (μ' ++ rest) s' := Car.mv y1 new1
  have fixNot : ∀ b ∈ C.fix, b ∉ μ₀.map (·.1) := fun b hb hm => nd1.2.2 b hb b (List.mem_append_left _ hm) rfl
  have restNot : ∀ b ∈ rest.map (·.1), b ∉ μ₀.map (·.1) := fun b hb hm => nd2.2.2 b hm b hb rfl
  have hD : ∀ b, newP (C.D (μ₀ ++ rest)) s.heap.objs.size μ' b → C.D (μ' ++ rest) b := fun b hb => by
    refine ⟨?_, fun hm => ?_⟩
    · rcases hb.1 with z | z
      · exact z.1
      · exact .inr (Nat.le_trans R.size z)
    · rcases (memM' b).mp hm with q | q | q
      · rcases hb.1 with z | z
        · exact z.2 ((memM b).mpr (.inl q))
        · exact Nat.lt_irrefl _ (Nat.lt_of_lt_of_le (lt b (.inl q)) z)
      · exact hb.2 q
      · rcases hb.1 with z | z
        · exact z.2 ((memM b).mpr (.inr (.inr q)))
        · exact Nat.lt_irrefl _ (Nat.lt_of_lt_of_le (lt b (.inr (.inr q))) z)
  refine ⟨⟨W.mono R.top (fun b o hb e => y.kept b o e fun hm => R.low b ((memM b).mpr (.inr (.inl hm))) hb) y.size, Nat.le_trans R.size y.size, ?_, ?_, ?_, ?_, ?_, ?_, Nat.lt_of_lt_of_le R.tpos y.toks⟩, y1, new1, hD⟩
  · obtain ⟨m, ⟨o, es, ep, ho, r⟩, hm⟩ := R.loc
    exact ⟨m, ⟨o, es, ep, y.kept _ _ ho (fixNot _ List.mem_cons_self), r⟩, fun x d e k => let ⟨v, hv, r⟩ := hm x d e k; ⟨v, hv, car.vr r⟩⟩
  · intro x c hc hk
    obtain ⟨v, ⟨o, ho, hd⟩, r⟩ := R.cell x c hc hk
    refine ⟨v, ⟨o, y.kept _ _ ho (fixNot _ (List.mem_cons_of_mem _ (hcell x c hc))), hd⟩, fun d e => let ⟨v', e', r'⟩ := r d e; ⟨v', e', car.vr r'⟩⟩
  · intro p hp
    rcases List.mem_append.mp hp with hp | hp
    · exact (M.mem p hp).mono (Nat.le_refl _) (fun a o q e => ⟨hD a q, e⟩) fun o e => e
    · have hpr : p.1 ∈ rest.map (·.1) := List.mem_map_of_mem hp
      exact (R.mem p (List.mem_append_right _ hp)).monoC y.toks car.hk fun o e => y.kept _ o e (restNot _ hpr)
  · rw [hmut]
    refine List.nodup_append.mpr ⟨nd1.1, List.nodup_append.mpr ⟨M.nodup, nd2.2.1, fun b hb c hc z => ?_⟩, fun b hb c hc z => ?_⟩
    · subst z
      rcases new b hb with q | q
      · exact restNot b hc q
      · exact Nat.lt_irrefl _ (Nat.lt_of_lt_of_le (lt b (.inr (.inr hc))) q)
    · subst z
      rcases List.mem_append.mp hc with hc | hc
      · rcases new b hc with q | q
        · exact fixNot b hb q
        · exact Nat.lt_irrefl _ (Nat.lt_of_lt_of_le (lt b (.inl hb)) q)
      · exact nd1.2.2 b hb b (List.mem_append_right _ hc) rfl
  · intro b hb
    rcases (memM' b).mp hb with q | q | q
    · exact R.low b ((memM b).mpr (.inl q))
    · exact M.low b q
    · exact R.low b ((memM b).mpr (.inr (.inr q)))
  · intro b hb
    rcases (memM' b).mp hb with q | q | q
    · exact Nat.lt_of_lt_of_le (lt b (.inl q)) y.size
    · exact M.lt b q
    · exact Nat.lt_of_lt_of_le (lt b (.inr (.inr q))) y.size

theorem call_frame (O : C.Ok) {s : Shared} {μ₀ rest : Mu} {a : Addr} {n : Nat} {ds : List D} {vals : List Value} {K : D → Mu → Prop} {R : Result → Shared → Prop} (Rp : Rep W C σ μ s) (hp : μ.Perm (μ₀ ++ rest)) (hF : FnM W a n ds μ₀ K) {A : Around} (hl : Lvl n A) (x : VRs (C.D μ) s.toks s.heap ds vals)
    (h : ∀ d μ' v s', K d μ' → Rep W C σ (μ' ++ rest) s' → Mv (C.mut μ) s s' → (∀ b ∈ C.mut (μ' ++ rest), b ∈ C.mut μ ∨ s.heap.objs.size ≤ b) → VR (C.D (μ' ++ rest)) s'.toks s'.heap d v → R (.ok (.ret v)) s') :
    codeAny (model prog w) A (.call (.ref a) ⟨vals, []⟩) R s := by
  have R₁ := Rp.perm hp
  rw [Act.D_perm hp] at x
  have memM : ∀ b ∈ μ₀.map (·.1), b ∈ C.mut (μ₀ ++ rest) := fun b hb => by unfold Act.mut; rw [List.map_append]; exact List.mem_append_right _ (List.mem_append_left _ hb)
  refine hF A s vals (C.D (μ₀ ++ rest)) R hl R₁.top R₁.tpos ⟨fun p hp => R₁.mem p (List.mem_append_left _ hp), ?_, fun b hb => R₁.low b (memM b hb), fun b hb => R₁.lt b (memM b hb)⟩ (fun b hb hm => hb.2 (memM b hm)) x fun d μ' v s' k y new M r => ?_
  · have := (List.nodup_append.mp R₁.nodup).2.1
    rw [List.map_append] at this
    exact (List.nodup_append.mp this).1
  · obtain ⟨R', y', new', hD⟩ := R₁.back O.cell y new M
    exact h d μ' v s' k R' (y'.wk fun b hb => (Act.mut_perm hp b).mpr hb) (fun b hb => (new' b hb).imp (fun z => (Act.mut_perm hp b).mpr z) id) (r.mono (Nat.le_refl _) fun a o q e => ⟨hD a q, e⟩)

structure EvM {prog : Program} {w : World} (W : Glob prog w) (C : Act) (σ : Sg) (μ : Mu) (e : Expr) (K : D → Mu → Prop) : Prop where
  run : ∀ (s : Shared) (Q : Value → Shared → Prop) (E : Value → Shared → Prop), Rep W C σ μ s →
    (∀ d μ' v s', K d μ' → Rep W C σ μ' s' → Mv (C.mut μ) s s' → (∀ b ∈ C.mut μ', b ∈ C.mut μ ∨ s.heap.objs.size ≤ b) → VR (C.D μ') s'.toks s'.heap d v → Q v s') → wpAny (model prog w) C.A (eval e C.env) Q E s
structure EsM {prog : Program} {w : World} (W : Glob prog w) (C : Act) (σ : Sg) (μ : Mu) (pos : Pos) (es : List Expr) (K : List D → Mu → Prop) : Prop where
  run : ∀ (s : Shared) (Q : List Value → Shared → Prop) (E : Value → Shared → Prop), Rep W C σ μ s →
    (∀ ds μ' vs s', K ds μ' → Rep W C σ μ' s' → Mv (C.mut μ) s s' → (∀ b ∈ C.mut μ', b ∈ C.mut μ ∨ s.heap.objs.size ≤ b) → VRs (C.D μ') s'.toks s'.heap ds vs → Q vs s') → wpAny (model prog w) C.A (spliced (backTo pos (starEach es C.env))) Q E s
theorem EvM.of {e : Expr} {d : D} (h : Ev W C σ μ e d) : EvM W C σ μ e (fun d' μ' => d' = d ∧ μ' = μ) :=
  ⟨fun s Q E R hQ => h.run s Q E R fun v s' y x => hQ d μ v s' ⟨rfl, rfl⟩ (R.step y) (y.wk fun _ h => nomatch h) (fun b hb => .inl hb) x⟩
theorem EvM.conseq {e : Expr} {K K' : D → Mu → Prop} (h : EvM W C σ μ e K) (hk : ∀ d μ', K d μ' → K' d μ') : EvM W C σ μ e K' :=
  ⟨fun s Q E R hQ => h.run s Q E R fun d μ' v s' k => hQ d μ' v s' (hk d μ' k)⟩
theorem EvM.perm {μ' : Mu} {e : Expr} {K : D → Mu → Prop} (h : μ.Perm μ') (hx : EvM W C σ μ' e K) : EvM W C σ μ e K :=
  ⟨fun s Q E R hQ => hx.run s Q E (R.perm h) fun d μ'' v s' k R' y new x => hQ d μ'' v s' k R' (y.wk fun b hb => (Act.mut_perm h b).mpr hb) (fun b hb => (new b hb).imp (fun z => (Act.mut_perm h b).mpr z) id) x⟩
theorem EsM.of {pos : Pos} {es : List Expr} {ds : List D} (h : Es W C σ μ pos es ds) : EsM W C σ μ pos es (fun ds' μ' => ds' = ds ∧ μ' = μ) :=
  ⟨fun s Q E R hQ => h.run s Q E R fun vs s' y x => hQ ds μ vs s' ⟨rfl, rfl⟩ (R.step y) (y.wk fun _ h => nomatch h) (fun b hb => .inl hb) x⟩
theorem EsM.cons {pos : Pos} {e : Expr} {es : List Expr} {K : D → Mu → Prop} {K' : List D → Mu → Prop} (h : EvM W C σ μ e K) (hr : ∀ d μ', K d μ' → EsM W C σ μ' pos es (fun ds μ'' => K' (d :: ds) μ''))
    (hn : starEach (e :: es) C.env = (false, eval e C.env) :: starEach es C.env := by rfl) : EsM W C σ μ pos (e :: es) K' := by
  refine ⟨fun s Q E R hQ => ?_⟩
  rw [hn]
  show wpAny _ _ (do
    let v ← eval e C.env
    let here ← (pure [v] : Sem (List Value))
    return here ++ (← holding here (spliced (backTo pos (starEach es C.env))))) _ _ s
  refine wpAny_bind (h.run s _ _ R fun d μ₁ v s₁ k R₁ y₁ new₁ x₁ => wpAny_bind (wpAny_pure (wpAny_bind (wpAny_holding ((hr d μ₁ k).run s₁ _ _ R₁ fun ds μ₂ vs s₂ k₂ R₂ y₂ new₂ x₂ => wpAny_pure ?_)))))
  exact hQ _ μ₂ _ s₂ k₂ R₂ (y₁.trans y₂ new₁) (fun b hb => (new₂ b hb).elim (new₁ b) fun z => .inr (Nat.le_trans y₁.size z)) (VRs.cons ((Car.mv y₂ new₂).vr x₁) x₂)
theorem EvM.tuple {es : List Expr} {k : Nat} {pos : Pos} {K : List D → Mu → Prop} {K' : D → Mu → Prop} (h : EsM W C σ μ pos es K) (hl : ∀ ds μ', K ds μ' → ds.length ≤ sizeLine ∧ K' (.tup ds) μ') : EvM W C σ μ (.Tuple es k pos) K' := by
  refine ⟨fun s Q E R hQ => ?_⟩
  refine wpAny_Tuple_spliced (h.run s _ _ R fun ds μ₁ vs s₁ k₁ R₁ y₁ new₁ x₁ => ⟨by rw [x₁.length]; exact (hl _ _ k₁).1, ?_⟩)
  have st : Stp s₁ { s₁ with heap := s₁.heap.push { cls := .type "tuple", data := .seq vs.toArray } } := Stp.push _ (Nat.le_refl _)
  refine hQ _ μ₁ _ _ (hl _ _ k₁).2 (R₁.step st) (y₁.trans st fun _ h => nomatch h) new₁ ⟨_, vs.toArray, rfl, C.D_new R₁ (Nat.le_refl _), ⟨0, Heap.get?_push_size _ rfl⟩, ?_⟩
  exact x₁.mono (Nat.le_refl _) fun c o hp e => ⟨hp, Heap.get?_push_of_some _ e⟩

structure TsM {prog : Program} {w : World} (W : Glob prog w) (C : Act) (σ : Sg) (μ : Mu) (e : Expr) (K : Bool → Mu → Prop) : Prop where
  run : ∀ (s : Shared) (Q : Bool → Shared → Prop) (E : Value → Shared → Prop), Rep W C σ μ s →
    (∀ b μ' s', K b μ' → Rep W C σ μ' s' → Mv (C.mut μ) s s' → (∀ b ∈ C.mut μ', b ∈ C.mut μ ∨ s.heap.objs.size ≤ b) → Q b s') → wpAny (model prog w) C.A (isTrue e C.env (eval e C.env)) Q E s
structure TsAllM {prog : Program} {w : World} (W : Glob prog w) (C : Act) (σ : Sg) (μ : Mu) (op : BoolOp) (es : List Expr) (K : Bool → Mu → Prop) : Prop where
  run : ∀ (s : Shared) (Q : Bool → Shared → Prop) (E : Value → Shared → Prop), Rep W C σ μ s →
    (∀ b μ' s', K b μ' → Rep W C σ μ' s' → Mv (C.mut μ) s s' → (∀ b ∈ C.mut μ', b ∈ C.mut μ ∨ s.heap.objs.size ≤ b) → Q b s') → wpAny (model prog w) C.A (allTrue op es C.env) Q E s
theorem TsM.of {e : Expr} {b : Bool} (h : Ts W C σ μ e b) : TsM W C σ μ e (fun b' μ' => b' = b ∧ μ' = μ) :=
  ⟨fun s Q E R hQ => h.run s Q E R fun s' y => hQ b μ s' ⟨rfl, rfl⟩ (R.step y) (y.wk fun _ h => nomatch h) (fun b hb => .inl hb)⟩
theorem TsAllM.nil {K : Bool → Mu → Prop} (h : K false μ) : TsAllM W C σ μ .Or [] K :=
  ⟨fun s Q E R hQ => wpAny_pure (hQ false μ s h R (Mv.refl _ _) fun b hb => .inl hb)⟩
theorem TsAllM.or {e : Expr} {es : List Expr} {K₁ : Bool → Mu → Prop} {K : Bool → Mu → Prop} (he : TsM W C σ μ e K₁) (h0 : ∀ b μ', K₁ b μ' → b = false) (hr : ∀ μ', K₁ false μ' → TsAllM W C σ μ' .Or es K) : TsAllM W C σ μ .Or (e :: es) K :=
  ⟨fun s Q E R hQ => wpAny_allTrue_Or_cons (he.run s _ _ R fun b μ₁ s₁ k₁ R₁ y₁ new₁ => by
    have := h0 b μ₁ k₁
    subst this
    exact (hr μ₁ k₁).run s₁ _ _ R₁ fun c μ₂ s₂ k₂ R₂ y₂ new₂ => hQ c μ₂ s₂ k₂ R₂ (y₁.trans y₂ new₁) fun b hb => (new₂ b hb).elim (new₁ b) fun z => .inr (Nat.le_trans y₁.size z))⟩
theorem TsM.boolop {op : BoolOp} {es : List Expr} {pos : Pos} {K : Bool → Mu → Prop} (h : TsAllM W C σ μ op es K) : TsM W C σ μ (.BoolOp op es pos) K :=
  ⟨fun s Q E R hQ => wpAny_isTrue_BoolOp (h.run s Q E R hQ)⟩
theorem TsM.cmp {l r : Expr} {op : CmpOp} {pos : Pos} {K₁ : D → Mu → Prop} {K : Bool → Mu → Prop} (hl : EvM W C σ μ l K₁) (hr : ∀ d μ', K₁ d μ' → ∃ e b, Ev W C σ μ' r e ∧ Op2 W C σ μ' (compareOp op) d e (.bool b) ∧ K b μ') (hm : behindInMarks op r = false := by with_unfolding_all rfl) : TsM W C σ μ (.Compare l [op] [r] pos) K :=
  ⟨fun s Q E R hQ => wpAny_isTrue_Compare1 (hl.run s _ _ R fun d μ₁ v s₁ k₁ R₁ y₁ new₁ x₁ => by
    obtain ⟨e, b, he, ho, k⟩ := hr d μ₁ k₁
    refine he.run s₁ _ _ R₁ fun u s₂ y₂ x₂ => ho s₂ _ _ v u (R₁.step y₂) (x₁.step y₂) x₂ fun v s₃ y₃ x₃ => ?_
    cases x₃
    have st := y₂.trans y₃
    exact wpAny_truthy_bool (hQ b μ₁ s₃ k (R₁.step st) (y₁.trans st fun _ h => nomatch h) new₁)) hm⟩

theorem Exs.assignM (O : C.Ok) {x : Str} {p pos : Pos} {e : Expr} {rest : List Stmt} {K₁ : D → Mu → Prop} {K : FD → Sg → Mu → Prop} (hx : Stores C x) (he : EvM W C σ μ e K₁)
    (hr : ∀ d μ', K₁ d μ' → Exs W C (upd σ x d) μ' rest K) (hs : swapsWith e (some (.Name x p)) pos.line C.env = pure false := by rfl) : Exs W C σ μ (.Assign [.Name x p] e pos :: rest) K := by
  refine ⟨fun s Q E R hQ => ?_⟩
  refine wpAny_execs_cons (wpAny_Assign_Name (he.run s _ _ R fun d μ₁ v s₁ k₁ R₁ y₁ new₁ x₁ => Rep.store O R₁ x₁ hx fun s₂ R₂ y₂ => ?_) hs)
  refine (hr d μ₁ k₁).run s₂ Q E R₂ fun fd fl σ' μ' s' hk R' y' new' frr => hQ fd fl σ' μ' s' hk R' ?_ ?_ frr
  · exact y₁.trans (y₂.trans y' fun b hb => .inl hb) new₁
  · exact fun b hb => (new' b hb).elim (new₁ b) fun z => .inr (Nat.le_trans y₁.size (Nat.le_trans y₂.size z))
theorem Exs.exprM {e : Expr} {pos : Pos} {rest : List Stmt} {K₁ : D → Mu → Prop} {K : FD → Sg → Mu → Prop} (he : EvM W C σ μ e K₁) (hr : ∀ d μ', K₁ d μ' → Exs W C σ μ' rest K)
    (hint : interactive C.env = false := by rfl) (hsw : swapsWith e none pos.line C.env = pure false := by rfl) : Exs W C σ μ (.Expr e pos :: rest) K := by
  refine ⟨fun s Q E R hQ => ?_⟩
  refine wpAny_execs_cons (wpAny_Expr_any (he.run s _ _ R fun d μ₁ v s₁ k₁ R₁ y₁ new₁ x₁ => ?_) hint hsw)
  refine (hr d μ₁ k₁).run s₁ Q E R₁ fun fd fl σ' μ' s' hk R' y' new' frr => hQ fd fl σ' μ' s' hk R' (y₁.trans y' new₁) (fun b hb => (new' b hb).elim (new₁ b) fun z => .inr (Nat.le_trans y₁.size z)) frr
theorem Exs.retM {e : Expr} {pos : Pos} {rest : List Stmt} {K₁ : D → Mu → Prop} {K : FD → Sg → Mu → Prop} (he : EvM W C σ μ e K₁) (hk : ∀ d μ', K₁ d μ' → K (.ret d) σ μ') : Exs W C σ μ (.Return (some e) pos :: rest) K := by
  refine Exs.cons (K' := fun f σ' μ' => ∃ d, f = .ret d ∧ σ' = σ ∧ K₁ d μ') ?_ (fun _ _ ⟨_, z, _⟩ => nomatch z) (fun f σ' μ' _ ⟨d, a, b, c⟩ => a ▸ b ▸ hk d μ' c)
  refine ⟨fun s Q E R hQ => ?_⟩
  refine wpAny_Return_some (he.run s _ _ R fun d μ₁ v s₁ k₁ R₁ y₁ new₁ x₁ => ?_)
  exact hQ (.ret d) _ _ _ s₁ ⟨d, rfl, rfl, k₁⟩ R₁ y₁ new₁ ⟨v, rfl, x₁⟩
theorem Ex1.iteM {t : Expr} {a b : List Stmt} {pos : Pos} {K₁ : Bool → Mu → Prop} {K : FD → Sg → Mu → Prop} (ht : TsM W C σ μ t K₁) (ha : ∀ μ', K₁ true μ' → Exs W C σ μ' a K) (hb : ∀ μ', K₁ false μ' → Exs W C σ μ' b K) : Ex1 W C σ μ (.If t a b pos) K := by
  refine ⟨fun s Q E R hQ => ?_⟩
  refine wpAny_If (ht.run s _ _ R fun c μ₁ s₁ k₁ R₁ y₁ new₁ => ?_)
  have go : ∀ {st : List Stmt}, Exs W C σ μ₁ st K → wpAny (model prog w) C.A (execs st C.env) Q E s₁ := fun h =>
    h.run s₁ Q E R₁ fun fd fl σ' μ' s' k R' y new fr => hQ fd fl σ' μ' s' k R' (y₁.trans y new₁) (fun b hb => (new b hb).elim (new₁ b) fun z => .inr (Nat.le_trans y₁.size z)) fr
  cases c with
  | true => exact go (ha μ₁ k₁)
  | false => exact go (hb μ₁ k₁)
theorem Exs.iteM {t : Expr} {a b : List Stmt} {pos : Pos} {K₁ : Bool → Mu → Prop} {rest : List Stmt} {K : FD → Sg → Mu → Prop} (ht : TsM W C σ μ t K₁)
    (ha : ∀ μ', K₁ true μ' → Exs W C σ μ' a (fun f σ' μ' => match f with | .next => Exs W C σ' μ' rest K | f => K f σ' μ'))
    (hb : ∀ μ', K₁ false μ' → Exs W C σ μ' b (fun f σ' μ' => match f with | .next => Exs W C σ' μ' rest K | f => K f σ' μ')) : Exs W C σ μ (.If t a b pos :: rest) K :=
  Exs.cons (Ex1.iteM ht ha hb) (fun _ _ h => h) (fun f _ _ n h => by cases f <;> first | exact absurd rfl n | exact h)
end
end Mine

namespace Mine
section
variable {prog : Program} {w : World} {W : Glob prog w} {C : Act} {σ : Sg} {μ : Mu}

structure IsFn {prog : Program} {w : World} (W : Glob prog w) (a : Addr) (fd : FuncData) (body : List Stmt) : Prop where
  obj : ∀ {h : Heap}, W.G h → ∃ o, h.get? a = some o ∧ o.data = .func fd
  code : ∀ {h : Heap}, W.G h → h.CodeRec fd.code fd.qualname
  bod : fd.body = .stmts body
  clos : fd.closure = []
  glob : fd.globals = mainGlobals
  blt : fd.builtins = builtinsNs
  co : fd.scope.isCoroutine = false
  gen : fd.scope.isGenerator = false
  kind : fd.scope.kind = .function

theorem IsDef.isFn {a : Addr} {nm : Str} {params : Arguments} {body : List Stmt} {scope : Scope} {pm cd doc : Value} (h : IsDef W a nm params body scope pm cd doc) (hco : scope.isCoroutine = false := by rfl) (hgen : scope.isGenerator = false := by rfl) (hk : scope.kind = .function := by rfl) :
    IsFn W a (Calls.docDef nm params body scope pm cd doc) body := ⟨h.obj, h.code, rfl, rfl, rfl, rfl, hco, hgen, hk⟩

theorem FnM.core {a : Addr} {n : Nat} {ds : List D} {fd : FuncData} {body : List Stmt} (ps : List Str) {K₀ : Addr → FD → Sg → Mu → Prop}
    (hf : IsFn W a fd body)
    (hbind : ∀ vals, vals.length = ps.length → bindArgs fd ⟨vals, []⟩ = pure (ps.zip vals))
    (hlen : ds.length = ps.length)
    (h : ∀ (A : Around) (L : Addr) (P : Addr → Prop), (mkC A fd L a P L).Ok → Lvl n A →
      Exs W (mkC A fd L a P L) (fun x => (ps.zip ds).lookup x) μ body (K₀ L))
    (hnd : ps.Nodup)
    (hkind : ∀ x ∈ ps, fd.scope.names.lookup x = some .local ∨ (fd.scope.names.lookup x = some .cell ∧ ∀ k, ((cellsFrom k fd.scope.names []).lookup x).isSome = true))
    (hcnd₀ : ((fd.scope.names.filter (fun x => x.2 == .cell)).map (·.1)).Nodup)
    (A : Around) (s : Shared) (vals : List Value) (P : Addr → Prop) (R : Result → Shared → Prop) (hl : Lvl (n + 1) A) (hG : W.G s.heap) (htk : 0 < s.toks) (hM : MuOk W P μ s) (hP : ∀ b, P b → b ∉ μ.map (·.1)) (hv : VRs P s.toks s.heap ds vals)
    (hR : ∀ A' f σ' μ' s' fl, K₀ s.heap.objs.size f σ' μ' → Rep W (mkC A' fd s.heap.objs.size a P s.heap.objs.size) σ' μ' s' → Mv (μ.map (·.1)) s s' → (∀ b ∈ μ'.map (·.1), b ∈ μ.map (·.1) ∨ s.heap.objs.size ≤ b) →
      FR ((mkC A' fd s.heap.objs.size a P s.heap.objs.size).D μ') s'.toks s'.heap f fl → R (.ok (.ret (match fl with | .ret v => v | _ => .none))) s') :
    codeAny (model prog w) A (.call (.ref a) ⟨vals, []⟩) R s := by
  have hn₀ := W.big hG
  have hcnd : ∀ k, ((cellsFrom k fd.scope.names []).map (·.1)).Nodup := fun k => by rw [cellsFrom_names, List.map_nil, List.append_nil]; exact (List.reverse_perm _).nodup_iff.mpr hcnd₀
  obtain ⟨o, ho, hdat⟩ := hf.obj hG
  have hvl : vals.length = ps.length := hv.length.trans hlen
  have hmap : (ps.zip vals).map (·.1) = ps := by rw [List.map_fst_zip]; omega
  refine codeAny_call_function (by unfold recursionLimit; have := hl.1; omega) ho hdat hf.co hf.gen hf.bod (hf.code hG) ?_
  rw [hbind vals hvl, hf.clos, hf.glob, hf.blt]
  refine wpAny_pure (wpAny_tk (wpAny_newFunctionEnv_cells hf.kind ?_ fun env he s₁ x₁ htk₁ => ?_))
  · intro x hx
    have hx' : x.1 ∈ ps := by rw [← hmap]; exact List.mem_map_of_mem hx
    exact (hkind x.1 hx').imp id fun z => ⟨z.1, z.2 _⟩
  have he' : env = callEnvC fd s.heap.objs.size a := by rw [he]; unfold callEnvC; rw [hf.glob, hf.blt]
  subst he'
  refine ⟨(W.lim hG).keeps x₁.toInCall.keep, codeAny_func ?_⟩
  have hL : (callEnvC fd s.heap.objs.size a).locals = s.heap.objs.size := rfl
  have hcs : (callEnvC fd s.heap.objs.size a).cells = cellsFrom (s.heap.objs.size + 1) fd.scope.names [] := rfl
  obtain ⟨h₁, tk₁, e₁⟩ := x₁.toInCall.same
  have hkeep := x₁.toInCall.keep
  rw [hL, hcs] at x₁
  have hlt : s.heap.objs.size < s₁.heap.objs.size := x₁.toInCall.ns.lt
  have lookup_of : ∀ {x : Str} {c : Addr}, (x, c) ∈ cellsFrom (s.heap.objs.size + 1) fd.scope.names [] → (cellsFrom (s.heap.objs.size + 1) fd.scope.names []).lookup x = some c := by
    have gen : ∀ {cs : List (Str × Addr)}, (cs.map (·.1)).Nodup → ∀ {x : Str} {c : Addr}, (x, c) ∈ cs → cs.lookup x = some c := by
      intro cs
      induction cs with
      | nil => intro _ x c h; cases h
      | cons z r ih =>
        intro nd x c hm
        obtain ⟨h1, h2⟩ := List.nodup_cons.mp nd
        rw [List.lookup_cons]
        rcases List.mem_cons.mp hm with e | hm
        · cases e; simp
        · have : (x == z.1) = false := beq_eq_false_iff_ne.mpr fun q => h1 (by show z.1 ∈ _; rw [← q]; exact List.mem_map_of_mem (f := (·.1)) hm)
          rw [this]; exact ih h2 hm
    intro x c hm; exact gen (hcnd _) hm
  have hfix : ∀ b ∈ (mkC (A.deeper (callEnvC fd s.heap.objs.size a)) fd s.heap.objs.size a P s.heap.objs.size).fix, s.heap.objs.size ≤ b ∧ b < s₁.heap.objs.size := by
    intro b hb
    rcases List.mem_cons.mp hb with rfl | hb
    · exact ⟨Nat.le_refl _, hlt⟩
    · obtain ⟨⟨x, c⟩, hm, rfl⟩ := List.mem_map.mp hb
      obtain ⟨o', ho', _⟩ := x₁.cell x c (lookup_of hm)
      exact ⟨Nat.le_of_lt (x₁.above x c hm), Heap.lt_size ho'⟩
  have hmut : ∀ b ∈ (mkC (A.deeper (callEnvC fd s.heap.objs.size a)) fd s.heap.objs.size a P s.heap.objs.size).mut μ, (s.heap.objs.size ≤ b ∧ b < s₁.heap.objs.size) ∨ (b ∈ μ.map (·.1) ∧ b < s.heap.objs.size) := by
    intro b hb
    rcases List.mem_append.mp hb with hb | hb
    · exact .inl (hfix b hb)
    · exact .inr ⟨hb, hM.lt b hb⟩
  have hD : ∀ b o, P b → s.heap.get? b = some o → (mkC (A.deeper (callEnvC fd s.heap.objs.size a)) fd s.heap.objs.size a P s.heap.objs.size).D μ b ∧ s₁.heap.get? b = some o :=
    fun b o hp e => ⟨⟨.inl hp, fun hm => by
      rcases hmut b hm with z | z
      · exact Nat.lt_irrefl _ (Nat.lt_of_lt_of_le (Heap.lt_size e) z.1)
      · exact hP b hp z.1⟩, hkeep b o e⟩
  have O : (mkC (A.deeper (callEnvC fd s.heap.objs.size a)) fd s.heap.objs.size a P s.heap.objs.size).Ok := by
    refine ⟨hf.kind, hl.2.2, hf.glob, hf.blt, ?_, ?_, ?_, ?_⟩
    · intro x c hc; exact List.mem_map.mpr ⟨(x, c), mem_of_lookup hc, rfl⟩
    · intro x y c hx hy; exact name_of_addr x₁.apart (mem_of_lookup hx) (mem_of_lookup hy)
    · show A.depth + 1 < _; unfold recursionLimit; have := hl.1; omega
    · show A.units + 3 < _; unfold cLine; have := hl.2.1; omega
  have hnd' : ((ps.zip vals).map (·.1)).Nodup := by rw [hmap]; exact hnd
  have Rp : Rep W (mkC (A.deeper (callEnvC fd s.heap.objs.size a)) fd s.heap.objs.size a P s.heap.objs.size) (fun x => (ps.zip ds).lookup x) μ s₁ := by
    refine ⟨W.mono hG (fun b o _ e => hkeep b o e) (Nat.le_of_lt hlt), Nat.le_of_lt hlt, ⟨_, x₁.toInCall.ns, ?_⟩, ?_, fun p hp => ?_, ?_, fun b hb => ?_, fun b hb => ?_, Nat.lt_of_lt_of_le htk htk₁⟩
    · intro x e he hkx
      obtain ⟨v, hm, r⟩ := zip_mem hv (mem_of_lookup he)
      exact ⟨v, bindL_get hnd' hm hkx, r.mono htk₁ hD⟩
    · intro x c hc hkx
      refine ⟨_, x₁.cell x c hc, fun e he => ?_⟩
      obtain ⟨v, hm, r⟩ := zip_mem hv (mem_of_lookup he)
      refine ⟨v, bindC_get hnd' hm ?_, r.mono htk₁ hD⟩
      rcases hkx with z | z <;> rw [z] <;> intro q <;> cases q
    · exact (hM.mem p hp).mono htk₁ hD fun o e => hkeep _ o e
    · show (s.heap.objs.size :: (cellsFrom (s.heap.objs.size + 1) fd.scope.names []).map (·.2) ++ μ.map (·.1)).Nodup
      refine List.nodup_append.mpr ⟨List.nodup_cons.mpr ⟨fun hm => ?_, List.pairwise_map.mpr x₁.apart⟩, hM.nodup, fun b hb c hc z => ?_⟩
      · obtain ⟨⟨x, c⟩, hm, e⟩ := List.mem_map.mp hm
        have := x₁.above x c hm
        have e' : c = s.heap.objs.size := e
        rw [e'] at this; exact Nat.lt_irrefl _ this
      · subst z
        exact Nat.lt_irrefl _ (Nat.lt_of_lt_of_le (hM.lt b hc) (hfix b hb).1)
    · rcases hmut b hb with z | z
      · exact W.nb (Nat.le_trans hn₀ z.1)
      · exact hM.low b z.1
    · rcases hmut b hb with z | z
      · exact z.2
      · exact Nat.lt_of_lt_of_le z.2 (Nat.le_of_lt hlt)
  have y0 : Stp s s₁ := ⟨fun b o e _ => hkeep b o e, Nat.le_of_lt hlt, by rw [e₁], by rw [e₁], by rw [e₁], htk₁⟩
  refine (h _ _ P O (hl.deeper _)).run s₁ _ _ Rp fun f fl σ' μ' s' k R' y new fr => ?_
  refine hR _ f σ' μ' s' fl k R' ?_ (fun b hb => ?_) fr
  · refine ⟨fun b o e hb => y.kept b o (hkeep b o e) fun hm => ?_, Nat.le_trans y0.size y.size, y.gens.trans y0.gens, y.drawn.trans y0.drawn, y.os.trans y0.os, Nat.le_trans y0.toks y.toks⟩
    rcases hmut b hm with z | z
    · exact Nat.lt_irrefl _ (Nat.lt_of_lt_of_le (Heap.lt_size e) z.1)
    · exact hb z.1
  · have hb' : b ∈ (mkC (A.deeper (callEnvC fd s.heap.objs.size a)) fd s.heap.objs.size a P s.heap.objs.size).mut μ' := List.mem_append_right _ hb
    rcases new b hb' with z | z
    · rcases hmut b z with q | q
      · exact .inr q.1
      · exact .inl q.1
    · exact .inr (Nat.le_trans y0.size z)

theorem mkC_D {A : Around} {fd : FuncData} {L a : Addr} {P : Addr → Prop} {μ' : Mu} {b : Addr} (h : (mkC A fd L a P L).D μ' b) : newP P L μ' b := ⟨h.1, fun hm => h.2 (List.mem_append_right _ hm)⟩
theorem Rep.muOk {A : Around} {fd : FuncData} {L a : Addr} {P : Addr → Prop} {μ' : Mu} {s : Shared} (R : Rep W (mkC A fd L a P L) σ μ' s) : MuOk W (newP P L μ') μ' s :=
  ⟨fun p hp => (R.mem p hp).mono (Nat.le_refl _) (fun b o q e => ⟨mkC_D q, e⟩) fun o e => e, (List.nodup_append.mp R.nodup).2.1, fun b hb => R.low b (List.mem_append_right _ hb), fun b hb => R.lt b (List.mem_append_right _ hb)⟩

theorem FnM.of_body {a : Addr} {n : Nat} {ds : List D} {fd : FuncData} {body : List Stmt} (ps : List Str) {K : D → Mu → Prop}
    (hf : IsFn W a fd body)
    (hbind : ∀ vals, vals.length = ps.length → bindArgs fd ⟨vals, []⟩ = pure (ps.zip vals))
    (hlen : ds.length = ps.length)
    (h : ∀ (A : Around) (L : Addr) (P : Addr → Prop), (mkC A fd L a P L).Ok → Lvl n A →
      Exs W (mkC A fd L a P L) (fun x => (ps.zip ds).lookup x) μ body (fun f _ μ' => ∃ d, (f = .ret d ∨ (f = .next ∧ d = .none)) ∧ K d μ'))
    (hnd : ps.Nodup := by decide +kernel)
    (hkind : ∀ x ∈ ps, fd.scope.names.lookup x = some .local ∨ (fd.scope.names.lookup x = some .cell ∧ ∀ k, ((cellsFrom k fd.scope.names []).lookup x).isSome = true) := by intro x hx; simp only [List.mem_cons, List.not_mem_nil, or_false] at hx; rcases hx with rfl | rfl | rfl <;> first | exact .inl rfl | exact .inr ⟨rfl, fun _ => rfl⟩)
    (hcnd₀ : ((fd.scope.names.filter (fun x => x.2 == .cell)).map (·.1)).Nodup := by decide +kernel) : FnM W a (n + 1) ds μ K := by
  intro A s vals P R hl hG htk hM hP hv hR
  refine FnM.core (K₀ := fun _ f _ μ' => ∃ d, (f = .ret d ∨ (f = .next ∧ d = .none)) ∧ K d μ') ps hf hbind hlen h hnd hkind hcnd₀ A s vals P R hl hG htk hM hP hv fun A' f σ' μ' s' fl k Rp y new fr => ?_
  obtain ⟨d, hd, k⟩ := k
  rcases hd with rfl | ⟨rfl, rfl⟩
  · obtain ⟨v, rfl, r⟩ := fr
    exact hR d μ' v s' k y new Rp.muOk (r.mono (Nat.le_refl _) fun b o q e => ⟨mkC_D q, e⟩)
  · cases fr
    exact hR .none μ' .none s' k y new Rp.muOk rfl

theorem FnM.of_body_cell {a : Addr} {n : Nat} {ds : List D} {fd : FuncData} {body : List Stmt} (ps : List Str) (x : Str) {K : D → Mu → Prop}
    (hf : IsFn W a fd body)
    (hbind : ∀ vals, vals.length = ps.length → bindArgs fd ⟨vals, []⟩ = pure (ps.zip vals))
    (hlen : ds.length = ps.length)
    (h : ∀ (A : Around) (L : Addr) (P : Addr → Prop), (mkC A fd L a P L).Ok → Lvl n A →
      Exs W (mkC A fd L a P L) (fun x => (ps.zip ds).lookup x) μ body (fun f σ' μ' => ∃ u z, f = .ret (.obj u) ∧ σ' x = some (.obj z) ∧ K (.obj u) ((L + 1, .cell (.obj z)) :: μ')))
    (hx : fd.scope.names.lookup x = some .cell) (hxc : ∀ k, (cellsFrom k fd.scope.names []).lookup x = some k)
    (hnd : ps.Nodup := by decide +kernel)
    (hkind : ∀ x ∈ ps, fd.scope.names.lookup x = some .local ∨ (fd.scope.names.lookup x = some .cell ∧ ∀ k, ((cellsFrom k fd.scope.names []).lookup x).isSome = true) := by intro x hx; simp only [List.mem_cons, List.not_mem_nil, or_false] at hx; rcases hx with rfl | rfl | rfl <;> first | exact .inl rfl | exact .inr ⟨rfl, fun _ => rfl⟩)
    (hcnd₀ : ((fd.scope.names.filter (fun x => x.2 == .cell)).map (·.1)).Nodup := by decide +kernel) : FnM W a (n + 1) ds μ K := by
  intro A s vals P R hl hG htk hM hP hv hR
  refine FnM.core (K₀ := fun L f σ' μ' => ∃ u z, f = .ret (.obj u) ∧ σ' x = some (.obj z) ∧ K (.obj u) ((L + 1, .cell (.obj z)) :: μ')) ps hf hbind hlen h hnd hkind hcnd₀ A s vals P R hl hG htk hM hP hv fun A' f σ' μ' s' fl k Rp y new fr => ?_
  obtain ⟨u, z, rfl, hσ, k⟩ := k
  obtain ⟨v, rfl, r⟩ := fr
  have hcx : (mkC A' fd s.heap.objs.size a P s.heap.objs.size).env.cells.lookup x = some (s.heap.objs.size + 1) := hxc _
  obtain ⟨v₀, hv₀, r₀⟩ := Rp.cell x _ hcx (.inl hx)
  obtain ⟨v', rfl, r'⟩ := r₀ _ hσ
  have hcf : s.heap.objs.size + 1 ∈ (mkC A' fd s.heap.objs.size a P s.heap.objs.size).fix := List.mem_cons_of_mem _ (List.mem_map.mpr ⟨(x, _), mem_of_lookup hcx, rfl⟩)
  have nd := List.nodup_append.mp Rp.nodup
  have hmem : ∀ b ∈ ((s.heap.objs.size + 1, MC.cell (.obj z)) :: μ').map (·.1), b ∈ (mkC A' fd s.heap.objs.size a P s.heap.objs.size).mut μ' := fun b hb => by
    rcases List.mem_cons.mp hb with q | q
    · rw [q]; exact List.mem_append_left _ hcf
    · exact List.mem_append_right _ q
  have hDn : ∀ b, (mkC A' fd s.heap.objs.size a P s.heap.objs.size).D μ' b → newP P s.heap.objs.size ((s.heap.objs.size + 1, MC.cell (.obj z)) :: μ') b := fun b q => ⟨q.1, fun hm => q.2 (hmem b hm)⟩
  refine hR _ _ v s' k y (fun b hb => ?_) ⟨fun p hp => ?_, ?_, fun b hb => Rp.low b (hmem b hb), fun b hb => Rp.lt b (hmem b hb)⟩ r
  · rcases List.mem_cons.mp hb with q | q
    · rw [q]; exact .inr (Nat.le_succ _)
    · exact new b q
  · rcases List.mem_cons.mp hp with q | q
    · rw [q]; exact ⟨v', hv₀, r'⟩
    · exact (Rp.mem p q).mono (Nat.le_refl _) (fun b o z e => ⟨hDn b z, e⟩) fun o e => e
  · exact List.nodup_cons.mpr ⟨fun hm => nd.2.2 _ hcf _ hm rfl, nd.2.1⟩
end
end Mine

namespace Mine

section
variable {P : Addr → Prop} {k : Nat} {h : Heap}
theorem VR.handed : ∀ {d : D} {v : Value}, VR P k h d v → handedIn v = true
  | .none, _, x => by cases x; rfl
  | .bool _, _, x => by cases x; rfl
  | .int _, _, x => by obtain ⟨t, rfl⟩ := x; rfl
  | .str _, _, x => by obtain ⟨t, rfl⟩ := x; rfl
  | .chr _, _, x => by obtain ⟨t, rfl, _⟩ := x; rfl
  | .tup _, _, x => by obtain ⟨a, vs, rfl, _⟩ := x; rfl
  | .lst _, _, x => by obtain ⟨a, vs, rfl, _⟩ := x; rfl
  | .obj _, _, x => by cases x; rfl
  | .typ _, _, x => by cases x; rfl
  | .sval _ _, _, x => by cases x; rfl
theorem isStr_str (x y : Str) (t : Tok) : (Value.str x t).isStr y = (x == y) := rfl
theorem VRd.get {name : Str} : ∀ {l : List (Str × D)} {es : List DictEntry} {d : D}, VRd P k h l es → l.lookup name = some d → ∃ v, getL name es = some (some v) ∧ VR P k h d v
  | [], _, _, _, e => by cases e
  | (x, d') :: l, _, d, r, e => by
    obtain ⟨hs, t, v, es', rfl, rv, rr⟩ := r
    rw [List.lookup_cons] at e
    cases hb : name == x with
    | true =>
      rw [hb] at e; cases e
      have hx := beq_iff_eq.mp hb
      subst hx
      refine ⟨v, ?_, rv⟩
      unfold getL
      rw [List.find?_cons]
      have : (Value.str name t).isStr name = true := by rw [isStr_str]; exact beq_self_eq_true _
      simp only [this]
    | false =>
      rw [hb] at e
      obtain ⟨u, hu, ru⟩ := VRd.get rr e
      refine ⟨u, ?_, ru⟩
      have hne : (Value.str x t).isStr name = false := by rw [isStr_str, beq_eq_false_iff_ne]; exact fun q => (beq_eq_false_iff_ne.mp hb) q.symm
      unfold getL at hu ⊢
      rw [List.find?_cons]
      simp only [hne]
      rw [List.any_cons]
      split at hu
      · rename_i en he; rw [he]; exact hu
      · rename_i he
        split at hu
        · cases hu
        · cases hu
theorem VRd.noRef : ∀ {l : List (Str × D)} {es : List DictEntry}, VRd P k h l es → es.any (·.refKey) = false
  | [], _, r => by cases r; rfl
  | (x, d') :: l, _, r => by
    obtain ⟨hs, t, v, es', rfl, rv, rr⟩ := r
    rw [List.any_cons, VRd.noRef rr]; rfl
theorem VRd.miss {name : Str} : ∀ {l : List (Str × D)} {es : List DictEntry}, VRd P k h l es → l.lookup name = none → es.find? (·.key.isStr name) = none
  | [], _, r, e => by cases r; rfl
  | (x, d') :: l, _, r, e => by
    obtain ⟨hs, t, v, es', rfl, rv, rr⟩ := r
    rw [List.lookup_cons] at e
    cases hb : name == x with
    | true => rw [hb] at e; cases e
    | false =>
      rw [hb] at e
      have hne : (Value.str x t).isStr name = false := by rw [isStr_str, beq_eq_false_iff_ne]; exact fun q => (beq_eq_false_iff_ne.mp hb) q.symm
      rw [List.find?_cons]
      simp only [hne]
      exact VRd.miss rr e
theorem VRd.none {name : Str} {l : List (Str × D)} {es : List DictEntry} (r : VRd P k h l es) (e : l.lookup name = none) : getL name es = some none := by
  unfold getL
  rw [r.miss e]
  simp only [r.noRef, Bool.false_eq_true, if_false]
theorem VRd.some {name : Str} {l : List (Str × D)} {es : List DictEntry} (r : VRd P k h l es) : (getL name es).isSome = true := by
  cases e : l.lookup name with
  | none => rw [r.none e]; rfl
  | some d => obtain ⟨v, hv, _⟩ := r.get e; rw [hv]; rfl
theorem VRd.length : ∀ {l : List (Str × D)} {es : List DictEntry}, VRd P k h l es → es.length = l.length
  | [], _, r => by cases r; rfl
  | (x, d') :: l, _, r => by
    obtain ⟨hs, t, v, es', rfl, rv, rr⟩ := r
    rw [List.length_cons, List.length_cons, VRd.length rr]

noncomputable def putD (name : Str) (d : D) : List (Str × D) → List (Str × D)
  | [] => [(name, d)]
  | (x, e) :: r => if x = name then (x, d) :: r else (x, e) :: putD name d r
theorem putD_len (name : Str) (d : D) : ∀ l : List (Str × D), (putD name d l).length ≤ l.length + 1
  | [] => by simp [putD]
  | (x, e) :: r => by
    have := putD_len name d r
    unfold putD
    split <;> simp <;> omega
theorem VRd.put {name : Str} {d : D} {v : Value} {hsh : Int} {t : Tok} : ∀ {l : List (Str × D)} {es : List DictEntry}, VRd P k h l es → VR P k h d v → VRd P k h (putD name d l) (putL name hsh (.str name t) v es)
  | [], _, r, rv => by cases r; exact ⟨hsh, t, v, [], rfl, rv, rfl⟩
  | (x, d') :: l, _, r, rv => by
    obtain ⟨hs, t', v', es', rfl, rv', rr⟩ := r
    unfold putD
    by_cases hx : x = name
    · subst hx
      have : (Value.str x t').isStr x = true := by rw [isStr_str]; exact beq_self_eq_true _
      rw [if_pos rfl, putL, if_pos this]
      exact ⟨hs, t', v, es', rfl, rv, rr⟩
    · have : (Value.str x t').isStr name = false := by rw [isStr_str, beq_eq_false_iff_ne]; exact hx
      rw [if_neg hx, putL, if_neg (by rw [this]; decide)]
      exact ⟨hs, t', v', _, rfl, rv', VRd.put rr rv⟩
end

section
variable {prog : Program} {w : World} {A : Around} {E : Value → Shared → Prop} {s : Shared} {K : Frag} {x Cl dx : Addr} {R : Result → Shared → Prop}
theorem osa_mu {ox : Obj} {name : Str} {tk : Tok} {v : Value} {es : List DictEntry} {n : Nat} (X : K.In s.heap) (I : InstAt s.heap x ox Cl (some (dictOf es n))) (hd : ox.dict = some dx)
    (hp : plainOver K Cl = true) (ht : takerIn K Cl name = some none) (hh : hasDictIn K Cl = true) (hl : (getL name es).isSome = true) (hz : es.length < 1000)
    (h : R (.ok (.ret .none)) { s with heap := s.heap.update dx (Obj.putName name (PyData.keyHash w.params name) (.str name s.toks) v), toks := s.toks + 1 }) :
    codeAny (model prog w) A (.call (.builtin "object.__setattr__") ⟨[.ref x, .str name tk, v], []⟩) R s := by
  refine osa_open X I hp ht fun b => ?_
  obtain ⟨cd, hc, hd'⟩ := any_some hh
  have e' := putName_dict name (PyData.keyHash w.params name) (.str name s.toks) v es n
  obtain ⟨hx, hcl, hn, hdx⟩ := I
  obtain ⟨oc, odi, oda, osl⟩ := ox
  dsimp only at hcl hd
  subst hcl hd
  have D : s.heap.get? dx = some (dictOf es n) := hdx
  have hzz : (putL name (PyData.keyHash w.params name) (.str name s.toks) v es).length ≤ 1000 := by
    have : ∀ l : List DictEntry, (putL name (PyData.keyHash w.params name) (.str name s.toks) v l).length ≤ l.length + 1 := by
      intro l
      induction l with
      | nil => simp [putL]
      | cons e r ih => unfold putL; split <;> simp <;> omega
    have := this es; omega
  have D' := Heap.get?_update_self (Obj.putName name (PyData.keyHash w.params name) (.str name s.toks) v) D (by rw [e']; rfl)
  refine wpAny_bind (wpAny_pure (wpAny_bind (wpAny_bind (wpAny_loadPart hx (wpAny_bind ((looks_clsIn X hc).here ?_))))))
  rw [hd']
  refine wpAny_pure (a := some dx) (wpAny_bind (wpAny_pure (wpAny_bind ?_)))
  unfold nsSet
  refine wpAny_bind (wpAny_bind (wpAny_askSetting (wpAny_pure (wpAny_bind (wpAny_mkText (wpAny_bind (wpAny_loadPart D ?_)))))))
  have c : (!es.toArray.any (·.key.isStr name) && es.toArray.any (·.refKey)) = false := by
    rw [List.any_toArray, List.any_toArray]
    unfold getL at hl
    split at hl
    · rename_i en he
      rw [List.any_eq_true.mpr ⟨en, List.mem_of_find?_eq_some he, List.find?_some he⟩]; rfl
    · split at hl
      · cases hl
      · rename_i z; rw [Bool.not_eq_true] at z; rw [z, Bool.and_false]
  dsimp only [dictOf]
  rw [aRefKeyMayBeTheName_at, c]
  refine wpAny_updatePart D ?_
  refine wpAny_bind (wpAny_lookBehind D' (by rw [e']; exact pastItsLine_dict (by rw [List.size_toArray, sizeLine_eq]; omega)) ?_)
  exact wpAny_pure h
end

structure Cls {prog : Program} {w : World} (W : Glob prog w) where
  K : Frag
  kin : ∀ {h : Heap}, W.G h → K.In h
  C : Addr
  pg : ∀ x, plainGet K C x = true
  hd : hasDictIn K C = true
  po : plainOver K C = true
  sa : findIn K (.ref C) "__setattr__" = some (some (.builtin "object.__setattr__"))
  no : ∀ x : Str, x ∈ (["lineno", "instream", "whitespace", "pushback", "read"] : List Str) → findIn K (.ref C) x = some none
  mkc : makesIn K C = true
  kp : keepIn K (.ref C) = true

section
variable {prog : Program} {w : World} {W : Glob prog w} {C : Act} {σ : Sg} {μ : Mu}

theorem inst_at {s : Shared} {Cl x dx : Addr} {l : List (Str × D)} (R : Rep W C σ μ s) (hx : (x, MC.raw (instObj Cl dx)) ∈ μ) (hd : (dx, MC.dct l) ∈ μ) :
    ∃ es n, InstAt s.heap x (instObj Cl dx) Cl (some (dictOf es n)) ∧ VRd (C.D μ) s.toks s.heap l es := by
  obtain ⟨es, n, g, r⟩ := R.mem _ hd
  exact ⟨es, n, ⟨R.mem _ hx, rfl, rfl, g⟩, r⟩

theorem getAttr_own (Z : Cls W) {s : Shared} {Q : Value → Shared → Prop} {E : Value → Shared → Prop} {x dx : Addr} {l : List (Str × D)} {name : Str} {d : D} {expr : Bool} {A : Around} (R : Rep W C σ μ s) (hx : (x, MC.raw (instObj Z.C dx)) ∈ μ) (hd : (dx, MC.dct l) ∈ μ)
    (hn : name ∈ (["lineno", "instream", "whitespace", "pushback", "read"] : List Str)) (hl : l.lookup name = some d)
    (h : ∀ v s', Stp s s' → VR (C.D μ) s'.toks s'.heap d v → Q v s') : wpAny (model prog w) A (getAttr (.ref x) name expr) Q E s := by
  obtain ⟨es, n, I, r⟩ := inst_at R hx hd
  obtain ⟨v, hv, rv⟩ := r.get hl
  have st : Stp s { s with toks := s.toks + 1 } := Stp.tk (Nat.le_succ _)
  exact PySem.W.get_value (Z.kin R.top) I (plainGet_of (Z.pg name)).1 (findObj_own Z.hd (Z.no name hn) rfl (by rw [lookIn_dict]; exact hv)) rv.handed (h v _ st (rv.step st))

theorem Ev.attr (Z : Cls W) {o : Expr} {name : Str} {apos : Pos} {x dx : Addr} {l : List (Str × D)} {d : D} (ho : Ev W C σ μ o (.obj x)) (hx : (x, MC.raw (instObj Z.C dx)) ∈ μ) (hd : (dx, MC.dct l) ∈ μ)
    (hn : name ∈ (["lineno", "instream", "whitespace", "pushback", "read"] : List Str)) (hl : l.lookup name = some d)
    (he : eval (.Attribute o name apos) C.env = (do
      let ov ← eval o C.env
      standAt apos.atName
      let r ← holding [ov] (getAttr ov name true)
      letTemporaryGo o ov r
      pure r) := by with_unfolding_all rfl) : Ev W C σ μ (.Attribute o name apos) d := by
  refine ⟨fun s Q E R hQ => ?_⟩
  refine Attribute_any_ (ho.run s _ _ R fun v s₁ y₁ x₁ => ?_) he
  cases x₁
  exact getAttr_own Z (R.step y₁) hx hd hn hl fun v s₂ y₂ x₂ => hQ v s₂ (y₁.trans y₂) x₂

theorem setAttr_turn (Z : Cls W) (O : C.Ok) {s : Shared} {Q : Unit → Shared → Prop} {E : Value → Shared → Prop} {x dx : Addr} {l : List (Str × D)} {name : Str} {d : D} {v : Value} {i : Nat} (R : Rep W C σ μ s) (hx : (x, MC.raw (instObj Z.C dx)) ∈ μ) (hd : μ[i]? = some (dx, MC.dct l))
    (hn : name ∈ (["lineno", "instream", "whitespace", "pushback", "read"] : List Str)) (hz : l.length < 999) (rv : VR (C.D μ) s.toks s.heap d v)
    (h : ∀ s', Rep W C σ (μ.set i (dx, .dct (putD name d l))) s' → Mv (C.mut μ) s s' → Q () s') : wpAny (model prog w) C.A (setAttr (.ref x) name v) Q E s := by
  obtain ⟨es, n, I, r⟩ := inst_at R hx (List.mem_of_getElem? hd)
  have hdx : s.heap.get? dx = some (dictOf es n) := I.dict
  have hlen := r.length
  refine set_plain (Z.kin R.top) I Z.sa (osa_mu (s := { s with toks := s.toks + 1 }) (Z.kin R.top) I rfl Z.po ?_ Z.hd r.some (by omega) ?_)
  · unfold takerIn; rw [Z.no name hn]; rfl
  have ha : dx ∈ C.mut μ := mem_mut hd
  have e' := putName_dict name (PyData.keyHash w.params name) (.str name (s.toks + 1)) v es n
  have hk : ∀ b o, b ≠ dx → s.heap.get? b = some o → (s.heap.update dx (Obj.putName name (PyData.keyHash w.params name) (.str name (s.toks + 1)) v)).get? b = some o := fun b o hb e => (Heap.get?_update_other _ _ (Ne.symm hb)).trans e
  have hsz : (s.heap.update dx (Obj.putName name (PyData.keyHash w.params name) (.str name (s.toks + 1)) v)).objs.size = s.heap.objs.size := Heap.size_after_update ..
  have D' := Heap.get?_update_self (Obj.putName name (PyData.keyHash w.params name) (.str name (s.toks + 1)) v) hdx (by rw [e']; rfl)
  rw [e'] at D'
  have keyD : ∀ b o, C.D μ b → s.heap.get? b = some o → C.D μ b ∧ (s.heap.update dx (Obj.putName name (PyData.keyHash w.params name) (.str name (s.toks + 1)) v)).get? b = some o := fun b o p e => ⟨p, hk b o (fun z => p.2 (z ▸ ha)) e⟩
  refine h _ (R.turn (tk := s.toks + 1 + 1) O hd (by omega) hk (Nat.le_of_eq hsz.symm) ⟨_, _, D', ?_⟩) ⟨fun b o e hb => hk b o (fun z => hb (z ▸ ha)) e, Nat.le_of_eq hsz.symm, rfl, rfl, rfl, by show s.toks ≤ s.toks + 1 + 1; omega⟩
  have r' := r.monoC (P' := C.D μ) (k' := s.toks + 1 + 1) (h' := s.heap.update dx (Obj.putName name (PyData.keyHash w.params name) (.str name (s.toks + 1)) v)) (by omega) fun b o p e _ => keyD b o p e
  exact r'.put (rv.mono (by omega) keyD)

theorem Exs.setAttrM (Z : Cls W) (O : C.Ok) {o e : Expr} {name : Str} {tpos pos : Pos} {K₁ : D → Mu → Prop} {rest : List Stmt} {K : FD → Sg → Mu → Prop} (he : EvM W C σ μ e K₁)
    (hn : name ∈ (["lineno", "instream", "whitespace", "pushback", "read"] : List Str))
    (hr : ∀ d μ', K₁ d μ' → ∃ x dx l i, Ev W C σ μ' o (.obj x) ∧ (x, MC.raw (instObj Z.C dx)) ∈ μ' ∧ μ'[i]? = some (dx, MC.dct l) ∧ l.length < 999 ∧ Exs W C σ (μ'.set i (dx, .dct (putD name d l))) rest K)
    (hs : swapsWith e (some (.Attribute o name tpos)) pos.line C.env = pure false := by rfl) : Exs W C σ μ (.Assign [.Attribute o name tpos] e pos :: rest) K := by
  refine ⟨fun s Q E R hQ => ?_⟩
  refine wpAny_execs_cons (plainObj_wpAny_Assign_Attribute (he.run s _ _ R fun d μ₁ v s₁ k₁ R₁ y₁ new₁ x₁ => ?_) hs)
  obtain ⟨x, dx, l, i, ho, hx, hd, hz, hr⟩ := hr d μ₁ k₁
  refine ho.run s₁ _ _ R₁ fun u s₂ y₂ x₂ => ?_
  cases x₂
  refine setAttr_turn Z O (R₁.step y₂) hx hd hn hz (x₁.step y₂) fun s₃ R₃ y₃ => ?_
  have y₁₃ : Mv (C.mut μ) s s₃ := y₁.trans (Mv.ofStp y₂ y₃) new₁
  refine hr.run s₃ Q E R₃ fun fd fl σ' μ' s' hk R' y' new' frr => hQ fd fl σ' μ' s' hk R' ?_ ?_ frr
  · rw [Act.mut_set hd] at y'
    exact y₁₃.trans y' new₁
  · intro b hb
    rcases new' b hb with z | z
    · rw [Act.mut_set hd] at z; exact new₁ b z
    · exact .inr (Nat.le_trans y₁₃.size z)

theorem Exs.setAttr (Z : Cls W) (O : C.Ok) {o e : Expr} {name : Str} {tpos pos : Pos} {d : D} {x dx : Addr} {l : List (Str × D)} {i : Nat} {rest : List Stmt} {K : FD → Sg → Mu → Prop} (he : Ev W C σ μ e d) (ho : Ev W C σ μ o (.obj x)) (hx : (x, MC.raw (instObj Z.C dx)) ∈ μ) (hd : μ[i]? = some (dx, MC.dct l))
    (hr : Exs W C σ (μ.set i (dx, .dct (putD name d l))) rest K)
    (hn : name ∈ (["lineno", "instream", "whitespace", "pushback", "read"] : List Str) := by decide) (hz : l.length < 999 := by exact Nat.le_of_ble_eq_true rfl)
    (hs : swapsWith e (some (.Attribute o name tpos)) pos.line C.env = pure false := by rfl) : Exs W C σ μ (.Assign [.Attribute o name tpos] e pos :: rest) K :=
  Exs.setAttrM Z O (EvM.of he) hn (fun d' μ' ⟨a, b⟩ => ⟨x, dx, l, i, b ▸ ho, b ▸ hx, b ▸ hd, hz, by rw [a, b]; exact hr⟩) hs

theorem Exs.augAttr (Z : Cls W) (O : C.Ok) {o e : Expr} {name : Str} {op : Operator} {tpos pos : Pos} {d₀ d₁ d : D} {x dx : Addr} {l : List (Str × D)} {i : Nat} {rest : List Stmt} {K : FD → Sg → Mu → Prop} (ho : Ev W C σ μ o (.obj x)) (hx : (x, MC.raw (instObj Z.C dx)) ∈ μ) (hd : μ[i]? = some (dx, MC.dct l)) (hl : l.lookup name = some d₀)
    (he : Ev W C σ μ e d₁) (hop : Op2 W C σ μ (inplaceOp op) d₀ d₁ d) (hr : Exs W C σ (μ.set i (dx, .dct (putD name d l))) rest K)
    (hn : name ∈ (["lineno", "instream", "whitespace", "pushback", "read"] : List Str) := by decide) (hz : l.length < 999 := by exact Nat.le_of_ble_eq_true rfl) : Exs W C σ μ (.AugAssign (.Attribute o name tpos) op e pos :: rest) K := by
  refine ⟨fun s Q E R hQ => ?_⟩
  refine wpAny_execs_cons (wpAny_AugAssign_AttributeAny (ho.run s _ _ R fun v s₁ y₁ x₁ => ?_))
  cases x₁
  refine getAttr_own Z (R.step y₁) hx (List.mem_of_getElem? hd) hn hl fun v s₂ y₂ x₂ => he.run s₂ _ _ (R.step (y₁.trans y₂)) fun u s₃ y₃ x₃ => hop s₃ _ _ v u (R.step ((y₁.trans y₂).trans y₃)) (x₂.step y₃) x₃ fun v' s₄ y₄ x₄ => ?_
  have st := ((y₁.trans y₂).trans y₃).trans y₄
  refine setAttr_turn Z O (R.step st) hx hd hn hz x₄ fun s₅ R₅ y₅ => ?_
  refine hr.run s₅ Q E R₅ fun fd fl σ' μ' s' hk R' y' new' frr => hQ fd fl σ' μ' s' hk R' ?_ ?_ frr
  · rw [Act.mut_set hd] at y'
    exact Mv.ofStp st (y₅.trans y' fun b hb => .inl hb)
  · intro b hb
    rcases new' b hb with z | z
    · rw [Act.mut_set hd] at z; exact .inl z
    · exact .inr (Nat.le_trans st.size (Nat.le_trans y₅.size z))
end
end Mine

namespace Mine
theorem slot_ci_next : Slot "callable_iterator" "__next__" "callable_iterator.__next__" :=
  .of (owner := "callable_iterator") (n := "__next__") (by rw [typeLookup_type, builtinLookup_eq_fast]; kernel_rfl) (by decide +kernel) (by decide +kernel) (by decide +kernel)
    (by first | exact .inl (by decide +kernel) | exact .inr (by decide +kernel)) (by rw [isSubtype_type]; kernel_rfl)
theorem slot_ci_iter : Slot "callable_iterator" "__iter__" "callable_iterator.__iter__" :=
  .of (owner := "callable_iterator") (n := "__iter__") (by rw [typeLookup_type, builtinLookup_eq_fast]; kernel_rfl) (by decide +kernel) (by decide +kernel) (by decide +kernel)
    (by first | exact .inl (by decide +kernel) | exact .inr (by decide +kernel)) (by rw [isSubtype_type]; kernel_rfl)
theorem entry_ci_next : entryFor table "callable_iterator.__next__" = some Builtin.«callable_iterator.__next__» := entryFor_of_tree (by kernel_rfl)
theorem args_ci_next (a : Value) : argsOk "callable_iterator.__next__" ⟨[a], []⟩ := by unfold argsOk; kernel_rfl
theorem entry_ci_iter : entryFor table "callable_iterator.__iter__" = some Builtin.«dict_keyiterator.__iter__» :=
  entryFor_alias (id' := "dict_keyiterator.__iter__") (by kernel_rfl) rfl (by decide +kernel) (by kernel_rfl)
theorem args_ci_iter (a : Value) : argsOk "callable_iterator.__iter__" ⟨[a], []⟩ := by unfold argsOk; kernel_rfl
theorem kind_iter : builtinKind "iter" = none := by decide +kernel
theorem plain_iter : plainId "iter" = true := by decide +kernel
theorem entry_iter : entryFor table "iter" = some Builtin.«iter» := entryFor_of_tree (by kernel_rfl)
theorem args_iter (a b : Value) : argsOk "iter" ⟨[a, b], []⟩ := by unfold argsOk; kernel_rfl
theorem lk_method_call : typeLookup (.type "method") "__call__" = pure (some (.builtin "method.__call__")) := by rw [typeLookup_type, builtinLookup_eq_fast]; kernel_rfl

noncomputable abbrev citObj (f z e : Value) : Obj := { cls := .type "callable_iterator", data := .fields #[f, z, e] }

section
variable {prog : Program} {w : World} {A : Around} {E : Value → Shared → Prop} {s : Shared}
theorem wpAny_callBorrowed {f : Value} {pos : List Value} {Q : Value → Shared → Prop}
    (hc : codeAny (model prog w) A (.call f ⟨pos, []⟩) (fun r s' => match r with | .ok (.ret v) => Q v s' | .ok _ => False | .error e => E e s') s) :
    wpAny (model prog w) A (callBorrowed f pos) Q E s := fun Γ p hΓ => by
  have h := wpAny_call (pos := pos) (kw := []) hc Γ p hΓ
  obtain ⟨r, s', hr, h⟩ := h
  refine ⟨r, s', hr, ?_⟩
  rcases r with e | (v | _ | _ | _) <;> exact h

theorem pyIter_ci {I : Addr} {f z e : Value} {Q : Value → Shared → Prop} (hI : s.heap.get? I = some (citObj f z e)) (h : Q (.ref I) s) :
    wpAny (model prog w) A (pyIter (.ref I)) Q E s := by
  have hT : s.TypeIs (.ref I) "callable_iterator" := ⟨_, hI, rfl⟩
  refine wpAny_pyIter_slot hT slot_ci_iter (wpAny_call_entry slot_ci_iter hT entry_ci_iter ?_ (args_ci_iter _))
  show wpAny _ _ (ret (.ref I)) _ _ s
  exact wpAny_pure ⟨_, rfl, "callable_iterator", _, hT, slot_ci_next.lookup, h⟩

theorem borrows_bound {m f : Addr} {x : Value} {o : Obj} {fd : FuncData} {Q : Bool → Shared → Prop} (hm : s.heap.get? m = some (methodObj (.ref f) x)) (hf : s.heap.get? f = some o) (ho : o.data = .func fd) (h : Q true s) :
    wpAny (model prog w) A (borrowsExactly (.ref m)) Q E s := by
  unfold borrowsExactly
  show wpAny _ _ (load m >>= _) _ _ s
  refine wpAny_bind (wpAny_load hm ?_)
  show wpAny _ _ (do
    match ← load f with
    | o => match o.data with
      | .func _ => pure true
      | _ => pure false) _ _ s
  refine wpAny_bind (wpAny_load hf ?_)
  dsimp only
  rw [ho]
  exact wpAny_pure h

theorem pyNext_ci {I m f : Addr} {x : Value} {z : Str} {tz : Tok} {o : Obj} {fd : FuncData} {Q : Option Value → Shared → Prop} (hh : A.handled = none) (hI : s.heap.get? I = some (citObj (.ref m) (.str z tz) (.bool false))) (hm : s.heap.get? m = some (methodObj (.ref f) x)) (hf : s.heap.get? f = some o) (ho : o.data = .func fd)
    (hc : codeAny (model prog w) A.in1 (.call (.ref f) ⟨[x], []⟩) (fun r s' => ∃ y t, r = .ok (.ret (.str y t)) ∧ s'.heap.get? I = some (citObj (.ref m) (.str z tz) (.bool false)) ∧ s'.heap.get? m = some (methodObj (.ref f) x) ∧ (∃ o' fd', s'.heap.get? f = some o' ∧ o'.data = .func fd') ∧
      (y ≠ z → Q (some (.str y t)) s') ∧ (y = z → ∀ h', Heap.ExtBut I s'.heap h' → s'.heap.objs.size ≤ h'.objs.size → Q none { s' with heap := h' })) s) :
    wpAny (model prog w) A (pyNext (.ref I)) Q E s := by
  have hT : s.TypeIs (.ref I) "callable_iterator" := ⟨_, hI, rfl⟩
  unfold pyNext
  refine wpAny_bind (wpAny_attempt (wpAny_callSpecial?_slot (name := Str.ofString "__next__") hT slot_ci_next
    (wpAny_call_entry slot_ci_next hT entry_ci_next ?_ (args_ci_next _))))
  show wpAny _ _ (field (.ref I) 2 >>= _) _ _ s
  refine wpAny_bind (wpAny_field hI rfl (x := .bool false) rfl ?_)
  rw [if_neg (by decide)]
  show wpAny _ _ (field (.ref I) 0 >>= _) _ _ s
  refine wpAny_bind (wpAny_field hI rfl (x := .ref m) rfl ?_)
  refine wpAny_bind (wpAny_attempt ?_)
  unfold callOutOfASlot
  refine wpAny_bind (borrows_bound hm hf ho ?_)
  rw [if_pos rfl]
  refine wpAny_callBorrowed (ks_codeAny_call_bound hm (codeAny_mono hc fun r s' hr => ?_))
  obtain ⟨y, t, rfl, hI', hm', ⟨o', fd', hf', ho'⟩, h1, h2⟩ := hr
  dsimp only
  refine wpAny_bind (wpAny_field hI' rfl (x := .bool false) rfl ?_)
  rw [if_neg (by decide)]
  refine wpAny_bind (wpAny_field hI' rfl (x := .str z tz) rfl ?_)
  refine wpAny_bind (wpAny_holding (wpAny_eqBool_str ?_))
  by_cases hy : z = y
  · rw [decide_eq_true hy]
    simp only [Bool.not_true, Bool.false_eq_true, if_false]
    refine wpAny_bind (wpAny_rule (wpAny_bind ?_))
    show wpAny _ _ (field (.ref I) 0 >>= _) _ _ _
    refine wpAny_bind (wpAny_field hI' rfl (x := .ref m) rfl ?_)
    refine wpAny_bind ?_
    unfold slotLetsGo
    dsimp only
    refine wpAny_bind (borrows_bound hm' hf' ho' ?_)
    rw [if_pos rfl]
    refine wpAny_pure ?_
    refine wpAny_bind (wpAny_setField_rec hI' (by simp) fun h₁ hI₁ hs₁ => ?_)
    refine wpAny_bind (wpAny_setField_rec hI₁ (by simp) fun h₂ hI₂ hs₂ => ?_)
    refine wpAny_setField_rec hI₂ (by simp) fun h₃ hI₃ hs₃ => ?_
    show wpAny _ _ (newExc (.type "StopIteration") [] >>= _) _ _ _
    refine wpAny_bind ?_
    simp only [newExc, newTuple]
    refine wpAny_bind (wpAny_newObj_type ?_ (by size_fits))
    refine wpAny_bind (m := firstArgMember _ _) (wpAny_of_eq (a := Value.none) (by first | rfl | (simp only [firstArgMember]; rfl)) ?_)
    refine wpAny_newObj_type ?_ (by size_fits)
    simp only [raiseNew]
    refine wpAny_bind (wpAny_handled ?_)
    rw [show A.in1.handled = none from hh]
    refine wpAny_bind (wpAny_pure (wpAny_throw ?_))
    refine wpAny_bind (wpAny_isInstance (T := "StopIteration") (b := true) ⟨_, Heap.get?_push_size _ rfl, rfl⟩ isSubtype_stop ?_)
    have hs := ((hs₁.trans hs₂).trans hs₃)
    refine wpAny_pure (h2 hy.symm _ ((hs.extBut.push _).push _) ?_)
    rw [Heap.size_push, Heap.size_push, hs.1]; omega
  · rw [decide_eq_false hy]
    simp only [Bool.not_false, if_true]
    exact wpAny_pure ⟨_, rfl, wpAny_pure (h1 (Ne.symm hy))⟩
end
end Mine

namespace Mine
section
variable {prog : Program} {w : World} {W : Glob prog w} {C : Act} {σ : Sg} {μ : Mu}

theorem Rep.join {s s₁ : Shared} {a : Addr} {c : MC} (R : Rep W C σ μ s) (y₁ : Stp s s₁) (fr : s.heap.objs.size ≤ a) (ha : a < s₁.heap.objs.size) (hc : CR (fun b => C.D μ b ∧ b ≠ a) s₁.toks s₁.heap a c) :
    Rep W C σ ((a, c) :: μ) s₁ := by
  have R₁ := R.step y₁
  have hna : a ∉ C.mut μ := fun hm => Nat.lt_irrefl _ (Nat.lt_of_lt_of_le (R.lt a hm) fr)
  have hmut : C.mut ((a, c) :: μ) = C.fix ++ a :: μ.map (·.1) := rfl
  have hin : ∀ b, b ∈ C.mut ((a, c) :: μ) → b = a ∨ b ∈ C.mut μ := fun b hm => by
    rw [hmut] at hm
    rcases List.mem_append.mp hm with z | z
    · exact .inr (List.mem_append_left _ z)
    · rcases List.mem_cons.mp z with z | z
      · exact .inl z
      · exact .inr (List.mem_append_right _ z)
  have keyD : ∀ b o, C.D μ b → s.heap.get? b = some o → C.D ((a, c) :: μ) b ∧ s₁.heap.get? b = some o := fun b o p g => ⟨⟨p.1, fun hm => by
    rcases hin b hm with z | z
    · exact Nat.lt_irrefl _ (Nat.lt_of_lt_of_le (z ▸ Heap.lt_size g) fr)
    · exact p.2 z⟩, y₁.all b o g⟩
  refine ⟨R₁.top, R₁.size, ?_, ?_, ?_, ?_, ?_, ?_, R₁.tpos⟩
  · obtain ⟨m, hn, hm⟩ := R.loc
    exact ⟨m, hn.keeps y₁.all, fun x d e k => let ⟨v, hv, r⟩ := hm x d e k; ⟨v, hv, r.mono y₁.toks keyD⟩⟩
  · intro x k hk hkx
    obtain ⟨v, ⟨o, ho, hd⟩, r⟩ := R.cell x k hk hkx
    exact ⟨v, ⟨o, y₁.all _ _ ho, hd⟩, fun d e => let ⟨v', e', r'⟩ := r d e; ⟨v', e', r'.mono y₁.toks keyD⟩⟩
  · intro p hp
    rcases List.mem_cons.mp hp with rfl | hp
    · exact hc.mono (Nat.le_refl _) (fun b o p g => ⟨⟨p.1.1, fun hm => (hin b hm).elim p.2 p.1.2⟩, g⟩) fun o e => e
    · exact (R.mem p hp).mono y₁.toks keyD fun o e => y₁.all _ o e
  · rw [hmut]
    have nd := R.nodup
    unfold Act.mut at nd hna
    have := List.nodup_append.mp nd
    refine List.nodup_append.mpr ⟨this.1, List.nodup_cons.mpr ⟨fun z => hna (List.mem_append_right _ z), this.2.1⟩, fun b hb c hc z => ?_⟩
    rcases List.mem_cons.mp hc with q | q
    · exact hna (List.mem_append_left _ (by rw [← q, ← z]; exact hb))
    · exact this.2.2 b hb c q z
  · intro b hb
    rcases hin b hb with z | z
    · rw [z]; exact W.nb (Nat.le_trans R.n₀ fr)
    · exact R.low b z
  · intro b hb
    rcases hin b hb with z | z
    · rw [z]; exact ha
    · exact R₁.lt b z
theorem join_new {s : Shared} {a : Addr} {c : MC} {n : Nat} (fr : n ≤ a) : ∀ b ∈ C.mut ((a, c) :: μ), b ∈ C.mut μ ∨ n ≤ b := fun b hb => by
  rcases List.mem_append.mp hb with z | z
  · exact .inl (List.mem_append_left _ z)
  · rcases List.mem_cons.mp z with z | z
    · rw [z]; exact .inr fr
    · exact .inl (List.mem_append_right _ z)

theorem EvM.new {e : Expr} {ds : List D} (h : En W C σ μ e ds) : EvM W C σ μ e (fun d μ' => ∃ a, d = .obj a ∧ μ' = (a, .list ds) :: μ) := by
  refine ⟨fun s Q E R hQ => h.run s Q E R fun a vs s' y fr hl hv => ?_⟩
  refine hQ (.obj a) _ _ s' ⟨a, rfl, rfl⟩ (R.join y fr (let ⟨n, g⟩ := hl; Heap.lt_size g) ⟨vs, hl, hv⟩) (y.wk fun _ h => nomatch h) (join_new (s := s) fr) rfl

theorem FnM.ofFn {a : Addr} {n : Nat} {ds : List D} {d : D} (h : Fn W a n ds d) : FnM W a n ds [] (fun d' μ' => d' = d ∧ μ' = []) := by
  intro A s vals P R hl hG ht hM hP hv hR
  refine h A s vals P R hl hG (W.big hG) ht hv fun v s' y x => ?_
  refine hR d [] v s' ⟨rfl, rfl⟩ y (fun b hb => absurd hb List.not_mem_nil) ⟨fun p hp => absurd hp List.not_mem_nil, List.nodup_nil, fun b hb => absurd hb List.not_mem_nil, fun b hb => absurd hb List.not_mem_nil⟩ (x.mono (Nat.le_refl _) fun b o q e => ⟨⟨q, List.not_mem_nil⟩, e⟩)

theorem args_cons' {e : Expr} {rest : List Expr} {env : Env} (hq : starEach (e :: rest) env = (e :: rest).map (fun e => (false, eval e env))) : starEach rest env = rest.map (fun e => (false, eval e env)) := by
  have : starEach (e :: rest) env = (false, eval e env) :: starEach rest env := by
    cases e <;> first | rfl | (simp [starEach] at hq)
  rw [this] at hq
  exact (List.cons.inj hq).2

noncomputable abbrev After (Q : Value → Shared → Prop) (E : Value → Shared → Prop) : Result → Shared → Prop := fun r s' => match r with | .ok (.ret v) => Q v s' | .ok _ => False | .error e => E e s'

theorem fnAt {a : Addr} {fd : FuncData} {h : Heap} (hf : ∃ o, h.get? a = some o ∧ o.data = .func fd) : FnAt a h := by
  obtain ⟨⟨oc, od, oda, sl⟩, ho, hd⟩ := hf
  dsimp only at hd
  subst hd
  exact ⟨oc, od, fd, sl, ho⟩

theorem call_obj (O : C.Ok) {s : Shared} {Q : Value → Shared → Prop} {E : Value → Shared → Prop} {pos : Pos} {args : List Expr} {first : List Value} {fds : List D} {K₁ : List D → Mu → Prop} {K' : D → Mu → Prop} {a : Addr} {n : Nat}
    (R : Rep W C σ μ s) (hfirst : VRs (C.D μ) s.toks s.heap fds first)
    (hf : ∀ {h : Heap}, W.G h → FnAt a h)
    (ha : EsM W C σ μ pos args K₁) (hl : Lvl n C.A)
    (hr : ∀ ds μ₁, K₁ ds μ₁ → ∃ μ₀ rest K, μ₁.Perm (μ₀ ++ rest) ∧ FnM W a n (fds ++ ds) μ₀ K ∧ ∀ d μ', K d μ' → K' d (μ' ++ rest))
    (hne : args ≠ [])
    (hq : starEach args C.env = args.map (fun e => (false, eval e C.env)))
    (hQ : ∀ d μ' v s', K' d μ' → Rep W C σ μ' s' → Mv (C.mut μ) s s' → (∀ b ∈ C.mut μ', b ∈ C.mut μ ∨ s.heap.objs.size ≤ b) → VR (C.D μ') s'.toks s'.heap d v → Q v s') :
    wpAny (model prog w) C.A (callWith pos (.ref a) first (backTo pos (starEach args C.env)) []) Q E s := by
  cases args with
  | nil => exact absurd rfl hne
  | cons e rest =>
    have hq' := args_cons' hq
    refine callWith_F (hf R.top) (ha.run s _ _ R fun ds μ₁ vs s₁ k₁ R₁ y₁ new₁ x₁ => ?_) (by rw [hq, hq']; rfl) ?_
    · refine ⟨hf R₁.top, wpAny_call ?_⟩
      obtain ⟨μ₀, rst, K, hp, hF, hK⟩ := hr ds μ₁ k₁
      refine call_frame O R₁ hp hF hl (VRs.append ((Car.mv y₁ new₁).vrs hfirst) x₁) fun d μ' v s₂ k₂ R₂ y₂ new₂ x₂ => ?_
      exact hQ d _ v s₂ (hK d μ' k₂) R₂ (y₁.trans y₂ new₁) (fun b hb => (new₂ b hb).elim (new₁ b) fun z => .inr (Nat.le_trans y₁.size z)) x₂
    · rw [hq']; simp [backTo]
theorem call_obj0 (O : C.Ok) {s : Shared} {Q : Value → Shared → Prop} {E : Value → Shared → Prop} {pos : Pos} {first : List Value} {fds : List D} {K' : D → Mu → Prop} {a : Addr} {n : Nat}
    (R : Rep W C σ μ s) (hfirst : VRs (C.D μ) s.toks s.heap fds first)
    (hf : ∀ {h : Heap}, W.G h → FnAt a h) (hl : Lvl n C.A)
    (hr : ∃ μ₀ rest K, μ.Perm (μ₀ ++ rest) ∧ FnM W a n fds μ₀ K ∧ ∀ d μ', K d μ' → K' d (μ' ++ rest))
    (hQ : ∀ d μ' v s', K' d μ' → Rep W C σ μ' s' → Mv (C.mut μ) s s' → (∀ b ∈ C.mut μ', b ∈ C.mut μ ∨ s.heap.objs.size ≤ b) → VR (C.D μ') s'.toks s'.heap d v → Q v s') :
    wpAny (model prog w) C.A (callWith pos (.ref a) first (backTo pos (starEach [] C.env)) []) Q E s := by
  obtain ⟨μ₀, rst, K, hp, hF, hK⟩ := hr
  refine callWith_F0 (hf R.top) (wpAny_call ?_)
  rw [List.append_nil]
  exact call_frame O R hp hF hl hfirst fun d μ' v s₂ k₂ R₂ y₂ new₂ x₂ => hQ d _ v s₂ (hK d μ' k₂) R₂ y₂ new₂ x₂

theorem EvM.callG (O : C.Ok) {f : Str} {p pos : Pos} {args : List Expr} {K₁ : List D → Mu → Prop} {K' : D → Mu → Prop} {a : Addr} {n : Nat} (hk : C.env.kindOf f = some .globalImplicit) (hg : W.mg f = some (.ref a))
    (hf : ∀ {h : Heap}, W.G h → FnAt a h)
    (ha : EsM W C σ μ pos args K₁) (hl : Lvl n C.A)
    (hr : ∀ ds μ₁, K₁ ds μ₁ → ∃ μ₀ rest K, μ₁.Perm (μ₀ ++ rest) ∧ FnM W a n ds μ₀ K ∧ ∀ d μ', K d μ' → K' d (μ' ++ rest)) (hne : args ≠ [] := by intro h; cases h)
    (hq : starEach args C.env = args.map (fun e => (false, eval e C.env)) := by rfl) (hd : (f == ("__debug__" : Str)) = false := by decide) : EvM W C σ μ (.Call (.Name f p) args [] pos) K' := by
  refine ⟨fun s Q E R hQ => ?_⟩
  refine wpAny_Call_NameR (wp_global O R hk hg ?_ hd)
  exact call_obj (fds := []) O R VRs.nil hf ha hl hr hne hq hQ

theorem Call_getM {env : Env} {A : Around} {E : Value → Shared → Prop} {s : Shared} {o : Expr} {name : Str} {apos pos : Pos} {args : List Expr} {Q : Value → Shared → Prop}
    (hbase : attributeBase o name env (eval o env) = eval o env)
    (hfew : ((backTo pos (starEach args env)).all (fun x => !x.1) && (backToKw pos (keywordEach [] env)).all (fun x => x.1.isSome)
      && decide (args.length + ([] : List Keyword).length + (if ([] : List Keyword).isEmpty then 0 else 1) < 30)) = true)
    (hline : (apos.endLine == pos.line) = true)
    (h : wpAny (model prog w) A (eval o env) (fun ov s₁ => ∀ pl, wpAny (model prog w) A (getMethod ov name pl) (fun p s₂ => wpAny (model prog w) A (callWith pos p.1 p.2 (backTo pos (starEach args env)) []) Q E s₂) E s₁) E s) :
    wpAny (model prog w) A (eval (.Call (.Attribute o name apos) args [] pos) env) Q E s := by
  rw [arm_eval_Call, hbase]
  refine wpAny_bind (wpAny_mono h (fun ov s₁ h₁ => ?_) fun _ _ e => e)
  refine wpAny_bind (wpAny_standAt ?_)
  have hform : methodCallForm (args.length + ([] : List Keyword).length) (backTo pos (starEach args env)) (backToKw pos (keywordEach [] env)) = true := hfew
  have hpos : methodCallPos true o env apos pos = pure pos := by unfold methodCallPos; simp [hline]
  unfold methodCall
  rw [hform]
  refine wpAny_bind (wpAny_holding (wpAny_mono (h₁ _) (fun p s₂ h₂ => ?_) fun _ _ e => e))
  exact wpAny_bind (wpAny_of_eq hpos h₂)

theorem EvM.meth (Z : Cls W) (O : C.Ok) {o : Expr} {name : Str} {apos pos : Pos} {args : List Expr} {K₁ : List D → Mu → Prop} {K' : D → Mu → Prop} {x dx f : Addr} {l : List (Str × D)} {n : Nat}
    (ho : Ev W C σ μ o (.obj x)) (hx : (x, MC.raw (instObj Z.C dx)) ∈ μ) (hd : (dx, MC.dct l) ∈ μ) (hlk : l.lookup name = none)
    (hfi : findIn Z.K (.ref Z.C) name = some (some (.ref f))) (hft : typeIn Z.K (.ref f) = some (.type "function")) (hf : ∀ {h : Heap}, W.G h → FnAt f h)
    (ha : EsM W C σ μ pos args K₁) (hl : Lvl n C.A)
    (hr : ∀ ds μ₁, K₁ ds μ₁ → ∃ μ₀ rest K, μ₁.Perm (μ₀ ++ rest) ∧ FnM W f n (.obj x :: ds) μ₀ K ∧ ∀ d μ', K d μ' → K' d (μ' ++ rest)) (hne : args ≠ [] := by intro h; cases h)
    (hbase : attributeBase o name C.env (eval o C.env) = eval o C.env := by rfl)
    (hfew : ((backTo pos (starEach args C.env)).all (fun x => !x.1) && (backToKw pos (keywordEach [] C.env)).all (fun x => x.1.isSome)
      && decide (args.length + ([] : List Keyword).length + (if ([] : List Keyword).isEmpty then 0 else 1) < 30)) = true := by rfl)
    (hline : (apos.endLine == pos.line) = true := by rfl)
    (hq : starEach args C.env = args.map (fun e => (false, eval e C.env)) := by rfl) : EvM W C σ μ (.Call (.Attribute o name apos) args [] pos) K' := by
  refine ⟨fun s Q E R hQ => ?_⟩
  refine Call_getM hbase hfew hline (ho.run s _ _ R fun v s₁ y₁ x₁ pl => ?_)
  cases x₁
  have R₁ := R.step y₁
  obtain ⟨es, m, I, r⟩ := inst_at R₁ hx hd
  refine method_fn (Z.kin R₁.top) I (plainGet_of (Z.pg name)).1 (plainGet_of (Z.pg name)).2 hfi hft (by show (lookIn name (dictOf es m)).map _ = _; rw [lookIn_dict, r.none hlk]; rfl) ?_
  refine call_obj (fds := [.obj x]) O R₁ (VRs.one rfl) hf ha hl hr hne hq fun d μ' v s' k R' y' new' x' => ?_
  exact hQ d μ' v s' k R' (Mv.ofStp y₁ y') (fun b hb => (new' b hb).imp id fun z => Nat.le_trans y₁.size z) x'
theorem EvM.meth0 (Z : Cls W) (O : C.Ok) {o : Expr} {name : Str} {apos pos : Pos} {K' : D → Mu → Prop} {x dx f : Addr} {l : List (Str × D)} {n : Nat}
    (ho : Ev W C σ μ o (.obj x)) (hx : (x, MC.raw (instObj Z.C dx)) ∈ μ) (hd : (dx, MC.dct l) ∈ μ) (hlk : l.lookup name = none)
    (hfi : findIn Z.K (.ref Z.C) name = some (some (.ref f))) (hft : typeIn Z.K (.ref f) = some (.type "function")) (hf : ∀ {h : Heap}, W.G h → FnAt f h)
    (hl : Lvl n C.A)
    (hr : ∃ μ₀ rest K, μ.Perm (μ₀ ++ rest) ∧ FnM W f n [.obj x] μ₀ K ∧ ∀ d μ', K d μ' → K' d (μ' ++ rest))
    (hbase : attributeBase o name C.env (eval o C.env) = eval o C.env := by rfl)
    (hfew : ((backTo pos (starEach [] C.env)).all (fun x => !x.1) && (backToKw pos (keywordEach [] C.env)).all (fun x => x.1.isSome)
      && decide (([] : List Expr).length + ([] : List Keyword).length + (if ([] : List Keyword).isEmpty then 0 else 1) < 30)) = true := by rfl)
    (hline : (apos.endLine == pos.line) = true := by rfl) : EvM W C σ μ (.Call (.Attribute o name apos) [] [] pos) K' := by
  refine ⟨fun s Q E R hQ => ?_⟩
  refine Call_getM hbase hfew hline (ho.run s _ _ R fun v s₁ y₁ x₁ pl => ?_)
  cases x₁
  have R₁ := R.step y₁
  obtain ⟨es, m, I, r⟩ := inst_at R₁ hx hd
  refine method_fn (Z.kin R₁.top) I (plainGet_of (Z.pg name)).1 (plainGet_of (Z.pg name)).2 hfi hft (by show (lookIn name (dictOf es m)).map _ = _; rw [lookIn_dict, r.none hlk]; rfl) ?_
  refine call_obj0 (fds := [.obj x]) O R₁ (VRs.one rfl) hf hl hr fun d μ' v s' k R' y' new' x' => ?_
  exact hQ d μ' v s' k R' (Mv.ofStp y₁ y') (fun b hb => (new' b hb).imp id fun z => Nat.le_trans y₁.size z) x'

theorem Lvl.tc {n : Nat} {A : Around} {c : Addr} {vals : List Value} (h : Lvl (n + 1) A) : Lvl n (A.under (.builtin "type.__call__" ⟨.ref c :: vals, []⟩)) := by
  refine ⟨?_, ?_, h.2.2⟩
  · rw [depth_under_kw]; have := h.1; omega
  · have hu : (Code.builtin "type.__call__" ⟨.ref c :: vals, []⟩).cUnits = 1 := by kernel_rfl
    show A.units + (Code.builtin "type.__call__" ⟨.ref c :: vals, []⟩).cUnits + 8 * n ≤ 9000
    rw [hu]; have := h.2.1; omega

theorem EvM.make (Z : Cls W) (O : C.Ok) {f : Str} {p pos : Pos} {e : Expr} {d₁ : D} {K' : D → Mu → Prop} {fi : Addr} {n : Nat} (hk : C.env.kindOf f = some .globalImplicit) (hg : W.mg f = some (.ref Z.C))
    (hfi : findIn Z.K (.ref Z.C) "__init__" = some (some (.ref fi))) (hft : typeIn Z.K (.ref fi) = some (.type "function"))
    (he : Ev W C σ μ e d₁) (hl : Lvl (n + 1) C.A)
    (hF : ∀ x dx, ∃ K, FnM W fi n [.obj x, d₁] [(x, .raw (instObj Z.C dx)), (dx, .dct [])] K ∧ ∀ d μ', K d μ' → d = .none ∧ K' (.obj x) (μ' ++ μ))
    (hq : starEach [e] C.env = [e].map (fun e => (false, eval e C.env)) := by rfl) (hd : (f == ("__debug__" : Str)) = false := by decide) : EvM W C σ μ (.Call (.Name f p) [e] [] pos) K' := by
  refine ⟨fun s Q E R hQ => ?_⟩
  refine wpAny_Call_NameR (wp_global O R hk hg ?_ hd)
  refine callWith_of (P := fun h => Z.K.In h) ?_ (fun h X => keeps_K Z.kp h X) ?_
  · rw [hq]; simp [backTo]
  rw [args_cons hq]
  refine Calls.evalArgs_plain ?_
  rw [← args_cons hq]
  refine (Es.cons he Es.nil hq).run s _ _ R fun vs s₁ y₁ x₁ => ⟨Z.kin (R.step y₁).top, wpAny_call ?_⟩
  obtain ⟨v, _, rfl, xv, rfl⟩ := x₁
  have R₁ := R.step y₁
  have X₁ := Z.kin R₁.top
  have y₂ : Stp s₁ { s₁ with heap := s₁.heap.push emptyDict } := Stp.push _ (Nat.le_refl _)
  have y₃ : Stp { s₁ with heap := s₁.heap.push emptyDict } { s₁ with heap := (s₁.heap.push emptyDict).push (instObj Z.C s₁.heap.objs.size) } := Stp.push (s := { s₁ with heap := s₁.heap.push emptyDict }) _ (Nat.le_refl _)
  have hz : (s₁.heap.push emptyDict).objs.size = s₁.heap.objs.size + 1 := Heap.size_push ..
  have R₂ : Rep W C σ ((s₁.heap.objs.size, .dct []) :: μ) { s₁ with heap := s₁.heap.push emptyDict } :=
    R₁.join y₂ (Nat.le_refl _) (by show _ < (s₁.heap.push emptyDict).objs.size; rw [hz]; omega) ⟨[], 0, Heap.get?_push_size _ rfl, rfl⟩
  have R₃ : Rep W C σ ((s₁.heap.objs.size + 1, .raw (instObj Z.C s₁.heap.objs.size)) :: (s₁.heap.objs.size, .dct []) :: μ) { s₁ with heap := (s₁.heap.push emptyDict).push (instObj Z.C s₁.heap.objs.size) } := by
    refine R₂.join y₃ (by show (s₁.heap.push emptyDict).objs.size ≤ _; rw [hz]; omega) (by show _ < ((s₁.heap.push emptyDict).push _).objs.size; rw [Heap.size_push, hz]; omega) ?_
    have := Heap.get?_push_size (s₁.heap.push emptyDict) (o := instObj Z.C s₁.heap.objs.size) rfl
    rw [hz] at this
    exact this
  obtain ⟨K, hFM, hK⟩ := hF (s₁.heap.objs.size + 1) s₁.heap.objs.size
  have new3 : ∀ b ∈ C.mut ((s₁.heap.objs.size + 1, MC.raw (instObj Z.C s₁.heap.objs.size)) :: (s₁.heap.objs.size, .dct []) :: μ), b ∈ C.mut μ ∨ s.heap.objs.size ≤ b := fun b hb => by
    rcases join_new (s := s₁) (n := s.heap.objs.size) (Nat.le_succ_of_le y₁.size) b hb with z | z
    · exact join_new (s := s₁) (n := s.heap.objs.size) y₁.size b z
    · exact .inr z
  have stp := (y₁.trans y₂).trans y₃
  have xv' : VR (C.D ((s₁.heap.objs.size + 1, MC.raw (instObj Z.C s₁.heap.objs.size)) :: (s₁.heap.objs.size, .dct []) :: μ)) s₁.toks ((s₁.heap.push emptyDict).push (instObj Z.C s₁.heap.objs.size)) d₁ v :=
    (Car.mv (C := C) (μ := μ) (μ' := (s₁.heap.objs.size + 1, MC.raw (instObj Z.C s₁.heap.objs.size)) :: (s₁.heap.objs.size, .dct []) :: μ) (s := s₁) (s' := { s₁ with heap := (s₁.heap.push emptyDict).push (instObj Z.C s₁.heap.objs.size) }) ((y₂.trans y₃).wk fun _ h => nomatch h) (fun b hb => by
      rcases join_new (s := s₁) (n := s₁.heap.objs.size) (Nat.le_succ _) b hb with z | z
      · exact join_new (s := s₁) (n := s₁.heap.objs.size) (Nat.le_refl _) b z
      · exact .inr z)).vr xv
  refine make_core (makes_of X₁ Z.mkc) (looks_findIn X₁ hfi) (fun self => bind_fn X₁ self hft) (.inl rfl) ?_
  refine call_frame O R₃ (List.Perm.refl _) hFM hl.tc (VRs.cons rfl (VRs.one xv')) fun d μ' v' s₄ k₄ R₄ y₄ new₄ x₄ => ?_
  obtain ⟨rfl, k⟩ := hK d μ' k₄
  cases x₄
  refine ⟨rfl, ?_⟩
  refine hQ (.obj (s₁.heap.objs.size + 1)) _ _ s₄ k R₄ ?_ (fun b hb => ?_) rfl
  · exact (stp.wk fun _ h => nomatch h).trans y₄ new3
  · rcases new₄ b hb with z | z
    · exact new3 b z
    · exact .inr (Nat.le_trans stp.size z)
end
end Mine

namespace Mine
section
variable {prog : Program} {w : World} {W : Glob prog w} {C : Act} {σ : Sg} {μ : Mu}

theorem Tru.lstM {i : Nat} {a : Addr} {xs : List D} (hi : μ[i]? = some (a, .list xs)) (hl : xs.length ≤ sizeLine) : Tru W C σ μ (.obj a) (!xs.isEmpty) := fun s Q E v R x hQ => by
  cases x
  obtain ⟨vs, ⟨n, hg⟩, r⟩ := R.mem _ (List.mem_of_getElem? hi)
  have hlen := r.length
  have hl' : (vs.size : Int) < 2 ^ 24 + 1 := by have : vs.toList.length = vs.size := by simp
                                                unfold sizeLine at hl; omega
  refine wpAny_truthy_list ⟨_, hg, rfl, n, rfl⟩ (by omega) ?_
  have e : (!vs.isEmpty) = !xs.isEmpty := by
    cases xs with
    | nil => have : vs = #[] := by apply Array.ext'; exact r
             subst this; rfl
    | cons d r' => have : vs.toList ≠ [] := by intro z; rw [z] at hlen; simp at hlen
                   simp; intro z; apply this; simp [z]
  rw [e]; exact hQ _ (Stp.tk (by omega))

theorem erase0 : ∀ (vs : Array Value), (vs.eraseIdxIfInBounds 0).toList = vs.toList.drop 1
  | ⟨[]⟩ => rfl
  | ⟨a :: l⟩ => by simp [Array.eraseIdxIfInBounds]

theorem EvM.pop0 (O : C.Ok) {o : Expr} {apos cpos pos : Pos} {k : Nat} {i : Nat} {a : Addr} {d : D} {ds : List D} (ho : Ev W C σ μ o (.obj a)) (hi : μ[i]? = some (a, .list (d :: ds))) (hsz : ds.length < sizeLine)
    (hbase : attributeBase o "pop" C.env (eval o C.env) = eval o C.env := by rfl) (hline : (apos.endLine == pos.line) = true := by rfl) :
    EvM W C σ μ (.Call (.Attribute o "pop" apos) [.Constant (.int 0) k cpos] [] pos) (fun d' μ' => d' = d ∧ μ' = μ.set i (a, .list ds)) := by
  refine ⟨fun s Q E R hQ => ?_⟩
  refine PySem.wpAny_Call_method hbase (by rfl) hline PySem.F.plainAttrs_list PySem.F.slot_list_pop PySem.F.type_list_pop (ho.run s _ _ R fun v s₁ y₁ x₁ => ?_)
  cases x₁
  have R₁ := R.step y₁
  obtain ⟨vs₁, ⟨n₁, hg₁⟩, r₁⟩ := R₁.mem _ (List.mem_of_getElem? hi)
  refine ⟨⟨_, hg₁, rfl⟩, fun b e => by cases e; exact ⟨_, hg₁, rfl⟩, ?_⟩
  refine PySem.P.pop_at_list ((Ev.cint (W := W) (σ := σ) (μ := μ) (k := k) (pos := cpos)).run s₁ _ _ R₁ fun v s₂ y₂ x₂ => ?_)
  obtain ⟨t, rfl⟩ := x₂
  have R₂ := R₁.step y₂
  obtain ⟨vs, ⟨n, hg⟩, r⟩ := R₂.mem _ (List.mem_of_getElem? hi)
  have hlen := r.length
  have hsize : vs.size = ds.length + 1 := by simpa using hlen
  obtain ⟨u, us, hu, xu, xus⟩ := r
  have h0 : vs[0]? = some u := by rw [← Array.getElem?_toList, hu]; rfl
  refine ⟨vs, n, 0, t, 0, u, by omega, rfl, hg, by decide, by rw [hsize]; unfold seqIndex?; rw [if_pos (by simp)]; rfl, h0, ?_⟩
  have ha : a ∈ C.mut μ := mem_mut hi
  have hk : ∀ b o, b ≠ a → s₂.heap.get? b = some o → (s₂.heap.update a (Obj.mapSeq fun xs => xs.eraseIdxIfInBounds 0)).get? b = some o := fun b o hb e => (Heap.get?_update_other _ _ (Ne.symm hb)).trans e
  have hz : (s₂.heap.update a (Obj.mapSeq fun xs => xs.eraseIdxIfInBounds 0)).objs.size = s₂.heap.objs.size := Heap.size_after_update ..
  have keyD : ∀ b o, C.D μ b → s₂.heap.get? b = some o → C.D μ b ∧ (s₂.heap.update a (Obj.mapSeq fun xs => xs.eraseIdxIfInBounds 0)).get? b = some o := fun b o p e => ⟨p, hk b o (fun z => p.2 (z ▸ ha)) e⟩
  have hl' : LstAt (s₂.heap.update a (Obj.mapSeq fun xs => xs.eraseIdxIfInBounds 0)) a (vs.eraseIdxIfInBounds 0) := ⟨_, Heap.get?_update_self (Obj.mapSeq fun xs => xs.eraseIdxIfInBounds 0) hg rfl⟩
  have R₃ : Rep W C σ (μ.set i (a, .list ds)) { s₂ with heap := s₂.heap.update a (Obj.mapSeq fun xs => xs.eraseIdxIfInBounds 0), toks := s₂.toks } :=
    R₂.turn O hi (Nat.le_refl _) hk (Nat.le_of_eq hz.symm) ⟨_, hl', by rw [erase0, hu]; exact xus.mono (Nat.le_refl _) keyD⟩
  refine hQ d _ u _ ⟨rfl, rfl⟩ R₃ ?_ (fun b hb => by rw [Act.mut_set hi] at hb; exact .inl hb) ?_
  · exact Mv.ofStp (y₁.trans y₂) ⟨fun b o e hb => hk b o (fun z => hb (z ▸ ha)) e, Nat.le_of_eq hz.symm, rfl, rfl, rfl, Nat.le_refl _⟩
  · rw [Act.D_set hi]; exact xu.mono (Nat.le_refl _) keyD

theorem EvM.ifexp {t a b : Expr} {pos : Pos} {c : Bool} {K : D → Mu → Prop} (ht : Ts W C σ μ t c) (ha : c = true → EvM W C σ μ a K) (hb : c = false → EvM W C σ μ b K) : EvM W C σ μ (.IfExp t a b pos) K :=
  ⟨fun s Q E R hQ => wpAny_IfExp (ht.run s _ _ R fun s₁ y₁ => by
    have go : ∀ {e : Expr}, EvM W C σ μ e K → wpAny (model prog w) C.A (eval e C.env) Q E s₁ := fun h => h.run s₁ _ _ (R.step y₁) fun d μ' v s' k R' y new x => hQ d μ' v s' k R' (Mv.ofStp y₁ y) (fun b hb => (new b hb).imp id fun z => Nat.le_trans y₁.size z) x
    cases c with
    | true => exact go (ha rfl)
    | false => exact go (hb rfl))⟩

theorem Rep.drop {p : Addr × MC} {s : Shared} (R : Rep W C σ (p :: μ) s) : Rep W C σ μ s := by
  have hmut : ∀ b ∈ C.mut μ, b ∈ C.mut (p :: μ) := fun b hb => by
    rcases List.mem_append.mp hb with z | z
    · exact List.mem_append_left _ z
    · exact List.mem_append_right _ (List.mem_cons_of_mem _ z)
  have keyD : ∀ b o, C.D (p :: μ) b → s.heap.get? b = some o → C.D μ b ∧ s.heap.get? b = some o := fun b o q e => ⟨⟨q.1, fun hm => q.2 (hmut b hm)⟩, e⟩
  refine ⟨R.top, R.size, ?_, ?_, fun q hq => (R.mem q (List.mem_cons_of_mem _ hq)).mono (Nat.le_refl _) keyD fun o e => e, ?_, fun b hb => R.low b (hmut b hb), fun b hb => R.lt b (hmut b hb), R.tpos⟩
  · obtain ⟨m, hn, hm⟩ := R.loc
    exact ⟨m, hn, fun x d e k => let ⟨v, hv, r⟩ := hm x d e k; ⟨v, hv, r.mono (Nat.le_refl _) keyD⟩⟩
  · intro x c hc hk
    obtain ⟨v, hv, r⟩ := R.cell x c hc hk
    exact ⟨v, hv, fun d e => let ⟨v', e', r'⟩ := r d e; ⟨v', e', r'.mono (Nat.le_refl _) keyD⟩⟩
  · have nd := R.nodup
    unfold Act.mut at nd ⊢
    have := List.nodup_append.mp nd
    exact List.nodup_append.mpr ⟨this.1, (List.nodup_cons.mp this.2.1).2, fun b hb c hc => this.2.2 b hb c (List.mem_cons_of_mem _ hc)⟩
theorem drop_mut {p : Addr × MC} : ∀ b ∈ C.mut μ, b ∈ C.mut (p :: μ) := fun b hb => by
  rcases List.mem_append.mp hb with z | z
  · exact List.mem_append_left _ z
  · exact List.mem_append_right _ (List.mem_cons_of_mem _ z)

theorem MuOk.sub {P : Addr → Prop} {s s' : Shared} {μ' ν ex : Mu} (hp : μ'.Perm (ex ++ ν)) (M : MuOk W (newP P s.heap.objs.size μ') μ' s') : MuOk W (newP P s.heap.objs.size ν) ν s' ∧ ∀ b, newP P s.heap.objs.size μ' b → newP P s.heap.objs.size ν b := by
  have hm : ∀ q ∈ ν, q ∈ μ' := fun q hq => hp.mem_iff.mpr (List.mem_append_right _ hq)
  have hm' : ∀ b ∈ ν.map (·.1), b ∈ μ'.map (·.1) := fun b hb => by obtain ⟨q, hq, e⟩ := List.mem_map.mp hb; exact e ▸ List.mem_map_of_mem (hm q hq)
  have hD : ∀ b, newP P s.heap.objs.size μ' b → newP P s.heap.objs.size ν b := fun b q => ⟨q.1, fun z => q.2 (hm' b z)⟩
  refine ⟨⟨fun q hq => (M.mem q (hm q hq)).mono (Nat.le_refl _) (fun b o z e => ⟨hD b z, e⟩) fun o e => e, ?_, fun b hb => M.low b (hm' b hb), fun b hb => M.lt b (hm' b hb)⟩, hD⟩
  have := (hp.map (·.1)).nodup_iff.mp M.nodup
  rw [List.map_append] at this
  exact (List.nodup_append.mp this).2.1
theorem FnM.drop {a : Addr} {n : Nat} {ds : List D} {K : D → Mu → Prop} (h : FnM W a n ds μ (fun d μ' => ∃ ex ν, μ'.Perm (ex ++ ν) ∧ K d ν)) : FnM W a n ds μ K := by
  intro A s vals P R hl hG ht hM hP hv hR
  refine h A s vals P R hl hG ht hM hP hv fun d μ' v s' k y new M x => ?_
  obtain ⟨ex, ν, hp, k⟩ := k
  obtain ⟨M', hD⟩ := M.sub hp
  refine hR d ν v s' k y (fun b hb => new b ?_) M' (x.mono (Nat.le_refl _) fun b o z e => ⟨hD b z, e⟩)
  obtain ⟨q, hq, e⟩ := List.mem_map.mp hb
  exact e ▸ List.mem_map_of_mem (hp.mem_iff.mpr (List.mem_append_right _ hq))

structure NextM {prog : Program} {w : World} (W : Glob prog w) (C : Act) (σ : Sg) (μ : Mu) (It : Addr) (r : Option D) (μ₁ : Mu) : Prop where
  run : ∀ (s : Shared) (Q : Option Value → Shared → Prop) (E : Value → Shared → Prop), Rep W C σ μ s →
    (∀ v s', Rep W C σ μ₁ s' → Mv (C.mut μ) s s' → (∀ b ∈ C.mut μ₁, b ∈ C.mut μ ∨ s.heap.objs.size ≤ b) →
      (match r with | some d => ∃ u, v = some u ∧ VR (C.D μ₁) s'.toks s'.heap d u | .none => v = none) → Q v s') → wpAny (model prog w) C.A (pyNext (.ref It)) Q E s

theorem Ex1.forCall (O : C.Ok) {x : Str} {px pos : Pos} {iter : Expr} {body : List Stmt} {It : Addr} {f z e : Value} {K : FD → Sg → Mu → Prop} (Inv : Nat → Sg → Mu → Prop) (k₀ : Nat) (hx : Stores C x)
    (hit : Ev W C σ μ iter (.obj It)) (hraw : (It, MC.raw (citObj f z e)) ∈ μ) (h0 : Inv k₀ σ μ)
    (turn : ∀ k σ' μ', Inv k σ' μ' → ∃ r μ₁, NextM W C σ' μ' It r μ₁ ∧ (match r with
      | some d => Exs W C (upd σ' x d) μ₁ body (fun fl σ'' μ'' => match fl with | .next | .cont => ∃ j σ₃, j < k ∧ Le σ₃ σ'' ∧ Inv j σ₃ μ'' | .brk => K .next σ'' μ'' | .ret d => K (.ret d) σ'' μ'')
      | .none => K .next σ' μ₁))
    (hs : ∀ x, foldedSetIterable iter C.env x = pure x := by intro _; rfl) : Ex1 W C σ μ (.For (.Name x px) iter body [] pos) K := by
  refine ⟨fun s Q E R hQ => ?_⟩
  refine wpAny_For (hit.run s _ _ R fun v s₁ y₁ x₁ => ?_) hs
  cases x₁
  have R₁ := R.step y₁
  refine pyIter_ci (R₁.mem _ hraw) ?_
  have y₁' : Mv (C.mut μ) s s₁ := y₁.wk fun _ h => nomatch h
  refine codeAny_forLoop_any (fun k s' => ∃ σ' μ', Inv k σ' μ' ∧ Rep W C σ' μ' s' ∧ Mv (C.mut μ) s s' ∧ (∀ b ∈ C.mut μ', b ∈ C.mut μ ∨ s.heap.objs.size ≤ b)) ?_ k₀ ⟨σ, μ, h0, R₁, y₁', fun b hb => .inl hb⟩
  rintro k s' ⟨σ', μ', hI, R', y', new⟩
  obtain ⟨r, μ₁, hN, hT⟩ := turn k σ' μ' hI
  refine hN.run s' _ _ R' fun v s₂ R₂ y₂ new₂ hv => ?_
  have y₂' : Mv (C.mut μ) s s₂ := y'.trans y₂ new
  have new₂' : ∀ b ∈ C.mut μ₁, b ∈ C.mut μ ∨ s.heap.objs.size ≤ b := fun b hb => (new₂ b hb).elim (new b) fun z => .inr (Nat.le_trans y'.size z)
  cases r with
  | none =>
    cases hv
    exact wpAny_execs_nil (hQ FD.next Flow.next σ' μ₁ s₂ hT R₂ y₂' new₂' rfl)
  | some d =>
    obtain ⟨u, rfl, xu⟩ := hv
    refine wpAny_of_eq (a := ()) rfl ?_
    refine wpAny_assign_Name (Rep.store O R₂ xu hx fun s₃ R₃ y₃ => ?_)
    refine hT.run s₃ _ _ R₃ fun fd fl σ'' μ'' s₄ hk R₄ y₄ new₄ fr => ?_
    have y₄' : Mv (C.mut μ) s s₄ := y₂'.trans (y₃.trans y₄ fun b hb => .inl hb) new₂'
    have new₄' : ∀ b ∈ C.mut μ'', b ∈ C.mut μ ∨ s.heap.objs.size ≤ b := fun b hb => (new₄ b hb).elim (new₂' b) fun z => .inr (Nat.le_trans y₂'.size (Nat.le_trans y₃.size z))
    cases fd with
    | next =>
      cases fr
      obtain ⟨j, σ₃, hj, hle, hI'⟩ := hk
      exact ⟨j, hj, σ₃, μ'', hI', R₄.weaken hle, y₄', new₄'⟩
    | cont =>
      cases fr
      obtain ⟨j, σ₃, hj, hle, hI'⟩ := hk
      exact ⟨j, hj, σ₃, μ'', hI', R₄.weaken hle, y₄', new₄'⟩
    | brk => cases fr; exact hQ .next _ σ'' μ'' s₄ hk R₄ y₄' new₄' rfl
    | ret d =>
      obtain ⟨u, rfl, r⟩ := fr
      exact hQ (.ret d) _ σ'' μ'' s₄ hk R₄ y₄' new₄' ⟨u, rfl, r⟩
end
end Mine

namespace Mine
section
variable {prog : Program} {w : World} {W : Glob prog w} {C : Act} {σ : Sg} {μ : Mu}

theorem Rep.butB {s s' : Shared} (hcell : ∀ x c, C.env.cells.lookup x = some c → c ∈ C.oth) (R : Rep W C σ μ s) {I : Addr} (hI : ∀ o, s.heap.get? I = some o → ¬ Seqy o) (hm : I ∉ C.mut μ) (hn : ¬ W.Base I) (hk : ∀ b o, b ≠ I → s.heap.get? b = some o → s'.heap.get? b = some o)
    (hz : s.heap.objs.size ≤ s'.heap.objs.size) (ht : s.toks ≤ s'.toks) : Rep W C σ μ s' := by
  have hv : ∀ a o, C.D μ a → s.heap.get? a = some o → Seqy o → C.D μ a ∧ s'.heap.get? a = some o := fun a o p e q => ⟨p, hk a o (fun z => hI o (z ▸ e) q) e⟩
  have up : ∀ a ∈ C.mut μ, ∀ o, s.heap.get? a = some o → s'.heap.get? a = some o := fun a ha o e => hk a o (fun z => hm (z ▸ ha)) e
  refine ⟨W.mono R.top (fun b o hb e => hk b o (fun z => hn (z ▸ hb)) e) hz, Nat.le_trans R.size hz, ?_, ?_, fun p hp => (R.mem p hp).monoC ht hv (fun o e => up _ (List.mem_append_right _ (List.mem_map_of_mem hp)) o e), R.nodup, R.low, fun a ha => Nat.lt_of_lt_of_le (R.lt a ha) hz, Nat.lt_of_lt_of_le R.tpos ht⟩
  · obtain ⟨m, ⟨o, es, ep, ho, r⟩, hm'⟩ := R.loc
    exact ⟨m, ⟨o, es, ep, up _ (List.mem_append_left _ List.mem_cons_self) _ ho, r⟩, fun x d e k => let ⟨v, hv', r⟩ := hm' x d e k; ⟨v, hv', r.monoC ht hv⟩⟩
  · intro x c hc hkx
    obtain ⟨v, ⟨o, ho, hd⟩, r⟩ := R.cell x c hc hkx
    refine ⟨v, ⟨o, up _ (List.mem_append_left _ (List.mem_cons_of_mem _ (hcell x c hc))) _ ho, hd⟩, fun d e => let ⟨v', e', r'⟩ := r d e; ⟨v', e', r'.monoC ht hv⟩⟩

theorem NextM.item (O : C.Ok) {It m f x : Addr} {z y : List Nat} {tz : Tok} {n : Nat} {μ₀ μ₁ rest : Mu} {fd : FuncData} (hp : μ.Perm (μ₀ ++ rest)) (hI : (It, MC.raw (citObj (.ref m) (.str ⟨z.toArray⟩ tz) (.bool false))) ∈ rest) (hm : (m, MC.raw (methodObj (.ref f) (.ref x))) ∈ rest)
    (hf : ∀ {h : Heap}, W.G h → ∃ o, h.get? f = some o ∧ o.data = .func fd) (hl : Lvl (n + 1) C.A) (hF : FnM W f n [.obj x] μ₀ (fun d μ' => d = .chr y ∧ μ' = μ₁)) (hy : y ≠ z) : NextM W C σ μ It (some (.chr y)) (μ₁ ++ rest) := by
  refine ⟨fun s Q E R hQ => ?_⟩
  obtain ⟨o, ho, hd⟩ := hf R.top
  refine pyNext_ci O.hand (R.mem _ (hp.mem_iff.mpr (List.mem_append_right _ hI))) (R.mem _ (hp.mem_iff.mpr (List.mem_append_right _ hm))) ho hd ?_
  refine call_frame O R hp hF hl.in1 (VRs.one rfl) fun d μ' v s' k R' y' new x' => ?_
  obtain ⟨rfl, rfl⟩ := k
  obtain ⟨t, rfl, h0, h1⟩ := id x'
  obtain ⟨o', ho', hd'⟩ := hf R'.top
  refine ⟨_, t, rfl, R'.mem _ (List.mem_append_right _ hI), R'.mem _ (List.mem_append_right _ hm), ⟨o', fd, ho', hd'⟩, fun _ => hQ _ s' R' y' new ⟨_, rfl, x'⟩, fun e => absurd ?_ hy⟩
  have := congrArg (fun s : Str => s.cps.toList) e
  simpa using this

theorem NextM.stop (O : C.Ok) {It m f x : Addr} {z : List Nat} {tz : Tok} {n : Nat} {μ₀ μ₁ rest : Mu} {fd : FuncData} (hp : μ.Perm (μ₀ ++ (It, MC.raw (citObj (.ref m) (.str ⟨z.toArray⟩ tz) (.bool false))) :: rest)) (hm : (m, MC.raw (methodObj (.ref f) (.ref x))) ∈ rest)
    (hf : ∀ {h : Heap}, W.G h → ∃ o, h.get? f = some o ∧ o.data = .func fd) (hl : Lvl (n + 1) C.A) (hF : FnM W f n [.obj x] μ₀ (fun d μ' => d = .chr z ∧ μ' = μ₁)) : NextM W C σ μ It none (μ₁ ++ rest) := by
  refine ⟨fun s Q E R hQ => ?_⟩
  obtain ⟨o, ho, hd⟩ := hf R.top
  have hI : (It, MC.raw (citObj (.ref m) (.str ⟨z.toArray⟩ tz) (.bool false))) ∈ (It, MC.raw (citObj (.ref m) (.str ⟨z.toArray⟩ tz) (.bool false))) :: rest := List.mem_cons_self
  have hm' := List.mem_cons_of_mem (It, MC.raw (citObj (.ref m) (.str ⟨z.toArray⟩ tz) (.bool false))) hm
  refine pyNext_ci O.hand (R.mem _ (hp.mem_iff.mpr (List.mem_append_right _ hI))) (R.mem _ (hp.mem_iff.mpr (List.mem_append_right _ hm'))) ho hd ?_
  refine call_frame O R hp hF hl.in1 (VRs.one rfl) fun d μ' v s' k R' y' new x' => ?_
  obtain ⟨rfl, rfl⟩ := k
  obtain ⟨t, rfl, h0, h1⟩ := id x'
  obtain ⟨o', ho', hd'⟩ := hf R'.top
  refine ⟨_, t, rfl, R'.mem _ (List.mem_append_right _ hI), R'.mem _ (List.mem_append_right _ hm'), ⟨o', fd, ho', hd'⟩, fun e => absurd rfl e, fun _ h' he hz => ?_⟩
  have R₁ := R'.perm (List.perm_middle (a := (It, MC.raw (citObj (.ref m) (.str ⟨z.toArray⟩ tz) (.bool false)))) (l₁ := μ') (l₂ := rest))
  have R₂ := R₁.drop
  have hIm : It ∈ C.mut ((It, MC.raw (citObj (.ref m) (.str ⟨z.toArray⟩ tz) (.bool false))) :: (μ' ++ rest)) := List.mem_append_right _ List.mem_cons_self
  have hnI : It ∉ C.mut (μ' ++ rest) := fun hmm => by
    have nd := R₁.nodup
    unfold Act.mut at nd hmm
    have nd1 := List.nodup_append.mp nd
    rcases List.mem_append.mp hmm with q | q
    · exact nd1.2.2 It q It List.mem_cons_self rfl
    · exact (List.nodup_cons.mp nd1.2.1).1 q
  have hIo : s'.heap.get? It = some (citObj (.ref m) (.str ⟨z.toArray⟩ tz) (.bool false)) := R₁.mem _ List.mem_cons_self
  have R₃ : Rep W C σ (μ' ++ rest) { s' with heap := h' } := Rep.butB O.cell R₂ (I := It) (fun o e => by rw [hIo] at e; cases e; exact notSeqy (T := "callable_iterator") rfl (by decide) (by decide)) hnI (R₁.low It hIm) (fun b o hb e => he b o hb e) hz (Nat.le_refl _)
  have hItM : It ∈ C.mut μ := (Act.mut_perm hp It).mpr (List.mem_append_right _ (by rw [List.map_append]; exact List.mem_append_right _ List.mem_cons_self))
  refine hQ _ _ R₃ ⟨fun b o e hb => he b o (fun z => hb (z ▸ hItM)) (y'.kept b o e hb), Nat.le_trans y'.size hz, y'.gens, y'.drawn, y'.os, y'.toks⟩ (fun b hb => new b ?_) rfl
  exact (Act.mut_perm (List.perm_middle (a := (It, MC.raw (citObj (.ref m) (.str ⟨z.toArray⟩ tz) (.bool false)))) (l₁ := μ') (l₂ := rest)) b).mpr (drop_mut b hb)

theorem EvM.iter (Z : Cls W) (O : C.Ok) {g : Str} {p pos apos cpos : Pos} {o : Expr} {name : Str} {k : Nat} {z : Str} {zl : List Nat} {x dx f : Addr} {l : List (Str × D)} (hz : z = ⟨zl.toArray⟩)
    (hk : C.env.kindOf g = some .globalImplicit) (hgm : W.mg g = none) (hgb : W.mb g = some (.builtin "iter"))
    (ho : Ev W C σ μ o (.obj x)) (hx : (x, MC.raw (instObj Z.C dx)) ∈ μ) (hd : (dx, MC.dct l) ∈ μ) (hlk : l.lookup name = none)
    (hfi : findIn Z.K (.ref Z.C) name = some (some (.ref f))) (hft : typeIn Z.K (.ref f) = some (.type "function")) (hfg : specialIn Z.K (.ref f) "__get__" = some (some (.builtin "function.__get__"))) (hfk : takesIn Z.K (.ref f) = some false)
    (hc : copiedNames.contains name = false)
    (he : eval (.Attribute o name apos) C.env = (do
      let ov ← eval o C.env
      standAt apos.atName
      let r ← holding [ov] (getAttr ov name true)
      letTemporaryGo o ov r
      pure r) := by with_unfolding_all rfl)
    (hq : starEach [.Attribute o name apos, .Constant (.str z) k cpos] C.env = [.Attribute o name apos, .Constant (.str z) k cpos].map (fun e => (false, eval e C.env)) := by rfl) (hdb : (g == ("__debug__" : Str)) = false := by decide) :
    EvM W C σ μ (.Call (.Name g p) [.Attribute o name apos, .Constant (.str z) k cpos] [] pos) (fun d μ' => ∃ m I t, d = .obj I ∧ μ' = (I, .raw (citObj (.ref m) (.str ⟨zl.toArray⟩ t) (.bool false))) :: (m, .raw (methodObj (.ref f) (.ref x))) :: μ) := by
  subst hz
  refine ⟨fun s Q E R hQ => ?_⟩
  refine wpAny_Call_NameR (wp_builtin O R hk hgm hgb ?_ hdb)
  refine Calls.callWith_builtin (backTo_plain hq) ?_
  rw [args_cons hq]
  refine Calls.evalArgs_plain (Calls.spliced_cons ?_)
  refine Attribute_any_ (ho.run s _ _ R fun v s₁ y₁ x₁ => ?_) he
  cases x₁
  have R₁ := R.step y₁
  have X₁ := Z.kin R₁.top
  obtain ⟨es, n, I, r⟩ := inst_at R₁ hx hd
  have y₂ : Stp s₁ { s₁ with heap := s₁.heap.push (methodObj (.ref f) (.ref x)), toks := s₁.toks + 1 } := Stp.push _ (Nat.le_succ _)
  refine get_bind X₁ I (plainGet_of (Z.pg name)).1 (findObj_fn Z.hd hfi hfg hfk hc (by rw [lookIn_dict]; exact r.none hlk)) (plainGet_of (Z.pg name)).2 (wpAny_call (fn_get (s := { s₁ with toks := s₁.toks + 1 }) X₁ hft ?_))
  refine handed_on rfl ?_
  have hm : (s₁.heap.push (methodObj (.ref f) (.ref x))).get? s₁.heap.objs.size = some (methodObj (.ref f) (.ref x)) := Heap.get?_push_size _ rfl
  have R₂ : Rep W C σ ((s₁.heap.objs.size, .raw (methodObj (.ref f) (.ref x))) :: μ) { s₁ with heap := s₁.heap.push (methodObj (.ref f) (.ref x)), toks := s₁.toks + 1 } :=
    R₁.join y₂ (Nat.le_refl _) (by show _ < (s₁.heap.push _).objs.size; rw [Heap.size_push]; omega) hm
  have hse : backTo pos (starEach [.Constant (.str ⟨zl.toArray⟩) k cpos] C.env) = [(false, eval (.Constant (.str ⟨zl.toArray⟩) k cpos) C.env)] := by rw [args_cons' hq]; rfl
  rw [hse]
  refine Calls.spliced_cons ((Ev.cstr (W := W) (σ := σ) (μ := (s₁.heap.objs.size, .raw (methodObj (.ref f) (.ref x))) :: μ) (l := zl) rfl).run _ _ _ R₂ fun u s₃ y₃ x₃ => Calls.spliced_nil ?_)
  obtain ⟨t, rfl, h0, h1⟩ := x₃
  have R₃ := R₂.step y₃
  have hm₃ : s₃.heap.get? s₁.heap.objs.size = some (methodObj (.ref f) (.ref x)) := R₃.mem _ List.mem_cons_self
  have y₄ : Stp s₃ { s₃ with heap := s₃.heap.push (citObj (.ref s₁.heap.objs.size) (.str ⟨zl.toArray⟩ t) (.bool false)) } := Stp.push _ (Nat.le_refl _)
  refine call_function_tree kind_iter plain_iter entry_iter (args_iter _ _) ?_
  unfold Builtin.«iter»
  refine wpAny_bind (wpAny_of_eq (a := [.ref s₁.heap.objs.size, .str ⟨zl.toArray⟩ t]) (by first | rfl | kernel_rfl) ?_)
  dsimp only
  refine wpAny_bind (wpAny_specialOf (T := "method") ⟨_, hm₃, rfl⟩ lk_method_call ?_)
  simp only [Option.isNone_some, Bool.false_eq_true, if_false]
  refine wpAny_bind (wpAny_rule ?_)
  show wpAny _ _ (newObj (.type "callable_iterator") (.fields #[Value.ref s₁.heap.objs.size, Value.str { cps := zl.toArray } t, Value.bool false]) >>= _) _ _ _
  refine wpAny_bind (wpAny_newObj_type ?_ (by size_fits))
  refine wpAny_pure ?_
  have hsz : s₁.heap.objs.size + 1 ≤ s₃.heap.objs.size := by
    have := y₃.size
    have e : (s₁.heap.push (methodObj (.ref f) (.ref x))).objs.size = s₁.heap.objs.size + 1 := Heap.size_push ..
    have h2 : (s₁.heap.push (methodObj (.ref f) (.ref x))).objs.size ≤ s₃.heap.objs.size := this
    omega
  have R₄ := R₃.join (a := s₃.heap.objs.size) (c := .raw (citObj (.ref s₁.heap.objs.size) (.str ⟨zl.toArray⟩ t) (.bool false))) y₄ (Nat.le_refl _) (by show _ < (s₃.heap.push _).objs.size; rw [Heap.size_push]; omega) (Heap.get?_push_size _ rfl)
  refine hQ (.obj s₃.heap.objs.size) _ _ _ ⟨_, _, t, rfl, rfl⟩ R₄ ((((y₁.trans y₂).trans y₃).trans y₄).wk fun _ h => nomatch h) (fun b hb => ?_) rfl
  rcases join_new (s := s₃) (n := s.heap.objs.size) (Nat.le_trans ((y₁.trans y₂).trans y₃).size (Nat.le_refl _)) b hb with q | q
  · exact join_new (s := s₁) (n := s.heap.objs.size) y₁.size b q
  · exact .inr q
end
end Mine

namespace Mine
section
variable {prog : Program} {w : World} {W : Glob prog w} {C : Act} {σ : Sg} {μ : Mu}

theorem EvM.ownCall (Z : Cls W) (O : C.Ok) {o : Expr} {name : Str} {apos pos : Pos} {args : List Expr} {ds : List D} {K' : D → Mu → Prop} {x dx fn : Addr} {l : List (Str × D)} {fobj : Obj} {fd : FuncData} {n : Nat}
    (ho : Ev W C σ μ o (.obj x)) (hx : (x, MC.raw (instObj Z.C dx)) ∈ μ) (hd : (dx, MC.dct l) ∈ μ)
    (hn : name ∈ (["lineno", "instream", "whitespace", "pushback", "read"] : List Str)) (hlk : l.lookup name = some (.obj fn)) (hfo : (fn, MC.raw fobj) ∈ μ) (hfd : fobj.data = .func fd)
    (ha : Es W C σ μ pos args ds) (hl : Lvl n C.A)
    (hr : ∃ μ₀ rest K, μ.Perm (μ₀ ++ rest) ∧ FnM W fn n ds μ₀ K ∧ ∀ d μ', K d μ' → K' d (μ' ++ rest)) (hne : args ≠ [] := by intro h; cases h)
    (hbase : attributeBase o name C.env (eval o C.env) = eval o C.env := by rfl)
    (hfew : ((backTo pos (starEach args C.env)).all (fun x => !x.1) && (backToKw pos (keywordEach [] C.env)).all (fun x => x.1.isSome)
      && decide (args.length + ([] : List Keyword).length + (if ([] : List Keyword).isEmpty then 0 else 1) < 30)) = true := by rfl)
    (hline : (apos.endLine == pos.line) = true := by rfl)
    (hq : starEach args C.env = args.map (fun e => (false, eval e C.env)) := by rfl) : EvM W C σ μ (.Call (.Attribute o name apos) args [] pos) K' := by
  refine ⟨fun s Q E R hQ => ?_⟩
  refine Call_getM hbase hfew hline (ho.run s _ _ R fun v s₁ y₁ x₁ pl => ?_)
  cases x₁
  have R₁ := R.step y₁
  obtain ⟨es, m, I, r⟩ := inst_at R₁ hx hd
  refine method_usual (Z.kin R₁.top) I (plainGet_of (Z.pg name)).1 (plainGet_of (Z.pg name)).2 (Z.no name hn) rfl ?_
  refine getAttr_own Z R₁ hx hd hn hlk fun v s₂ y₂ x₂ => ?_
  cases x₂
  have R₂ := R₁.step y₂
  have fa : ∀ {s : Shared}, Rep W C σ μ s → FnAt fn s.heap := fun R => fnAt ⟨fobj, R.mem _ hfo, hfd⟩
  obtain ⟨μ₀, rst, K, hp, hF, hK⟩ := hr
  cases args with
  | nil => exact absurd rfl hne
  | cons e rest =>
    have hq' := args_cons' hq
    refine callWith_F (fa R₂) (ha.run s₂ _ _ R₂ fun vs s₃ y₃ x₃ => ?_) (by rw [hq, hq']; rfl) (by rw [hq']; simp [backTo])
    have R₃ := R₂.step y₃
    have st := (y₁.trans y₂).trans y₃
    refine ⟨fa R₃, wpAny_call ?_⟩
    refine call_frame O R₃ hp hF hl x₃ fun d μ' v s₄ k₄ R₄ y₄ new₄ x₄ => ?_
    exact hQ d _ v s₄ (hK d μ' k₄) R₄ (Mv.ofStp st y₄) (fun b hb => (new₄ b hb).imp id fun z => Nat.le_trans st.size z) x₄

noncomputable abbrev lamC (A : Around) (fd : FuncData) (L fn c : Addr) (P : Addr → Prop) : Act := ⟨A, newEnv fd.scope L fd.globals fd.closure (fd.qualname ++ ".<locals>.") (some fn) fd.code none fd.builtins, P, L, [c]⟩

theorem FnM.lam {fn c cc : Addr} {oc : Obj} {name qual : Str} {params : Arguments} {body : Expr} {scope : Scope} {x y : Str} {pm ctv : Value} {z : Addr} {dy : D} {n : Nat} {vs : Array Value} {tq : Tok} {μ₁ : Mu} {K : D → Mu → Prop}
    (hoc : oc.data = .fields vs) (hvs : vs[1]? = some (.str qual tq))
    (hbind : ∀ v, bindArgs (kla_fn name qual params body scope [(x, c)] pm (.ref cc) ctv) ⟨[v], []⟩ = pure [(y, v)])
    (hcells : ∀ z ∈ scope.names, z.2 ≠ .cell) (hy : scope.names.lookup y = some .local) (hxf : scope.names.lookup x = some .free)
    (h : ∀ (A : Around) (L : Addr) (P : Addr → Prop), (lamC A (kla_fn name qual params body scope [(x, c)] pm (.ref cc) ctv) L fn c P).Ok → Lvl n A →
      EvM W (lamC A (kla_fn name qual params body scope [(x, c)] pm (.ref cc) ctv) L fn c P) (sg [(x, .obj z), (y, dy)]) ((fn, .raw (kla_obj name qual params body scope [(x, c)] pm cc ctv)) :: (cc, .raw oc) :: μ₁) body (fun d μ' => K d ((c, .cell (.obj z)) :: μ')))
    (hco : scope.isCoroutine = false := by rfl) (hgen : scope.isGenerator = false := by rfl) (hk : scope.kind = .function := by rfl) :
    FnM W fn (n + 1) [dy] ((c, .cell (.obj z)) :: (fn, .raw (kla_obj name qual params body scope [(x, c)] pm cc ctv)) :: (cc, .raw oc) :: μ₁) K := by
  intro A s vals P R hl hG htk hM hP hv hR
  obtain ⟨v, _, rfl, rv, rfl⟩ := hv
  have hfo : s.heap.get? fn = some (kla_obj name qual params body scope [(x, c)] pm cc ctv) := hM.mem _ (List.mem_cons_of_mem _ List.mem_cons_self)
  have hcc : s.heap.get? cc = some oc := hM.mem _ (List.mem_cons_of_mem _ (List.mem_cons_of_mem _ List.mem_cons_self))
  obtain ⟨vc, hcell, xc⟩ := hM.mem _ List.mem_cons_self
  cases xc
  have hn₀ := W.big hG
  refine kla_callFunE (by unfold recursionLimit; have := hl.1; omega) hfo rfl hco hgen rfl ⟨cc, oc, vs, tq, rfl, hcc, hoc, hvs⟩ ?_
  rw [hbind v]
  refine wpAny_pure (wpAny_newFunctionEnv hcells (by intro q hq; rw [List.mem_singleton] at hq; subst hq; exact hy) (fun h₁ hns hsb => ?_) hk)
  have hk₁ : ∀ b o, s.heap.get? b = some o → h₁.get? b = some o := fun b o e => hsb.extBut b o (Nat.ne_of_lt (Heap.lt_size e)) (Heap.get?_push_of_some _ e)
  have hsz : h₁.objs.size = s.heap.objs.size + 1 := by rw [hsb.1, Heap.size_push]
  refine ⟨(W.lim hG).keeps hk₁, ?_⟩
  have y0 : Stp s { s with heap := h₁, toks := s.toks + [(y, v)].length } := ⟨fun b o e _ => hk₁ b o e, by show s.heap.objs.size ≤ h₁.objs.size; omega, rfl, rfl, rfl, Nat.le_add_right _ _⟩
  have hlt : ∀ b ∈ ((c, MC.cell (.obj z)) :: (fn, .raw (kla_obj name qual params body scope [(x, c)] pm cc ctv)) :: (cc, .raw oc) :: μ₁).map (·.1), b < s.heap.objs.size := hM.lt
  have hmut : ∀ (A' : Around) b, b ∈ (lamC A' (kla_fn name qual params body scope [(x, c)] pm (.ref cc) ctv) s.heap.objs.size fn c P).mut ((fn, .raw (kla_obj name qual params body scope [(x, c)] pm cc ctv)) :: (cc, .raw oc) :: μ₁) →
      b = s.heap.objs.size ∨ b ∈ ((c, MC.cell (.obj z)) :: (fn, .raw (kla_obj name qual params body scope [(x, c)] pm cc ctv)) :: (cc, .raw oc) :: μ₁).map (·.1) := fun A' b hb => by
    rcases List.mem_append.mp hb with q | q
    · rcases List.mem_cons.mp q with q | q
      · exact .inl q
      · rw [List.mem_singleton] at q; rw [q]; exact .inr List.mem_cons_self
    · exact .inr (List.mem_cons_of_mem _ q)
  generalize hA' : A.deeper (newEnv scope s.heap.objs.size mainGlobals [(x, c)] (qual ++ ".<locals>.") (some fn) (.ref cc) none builtinsNs) = A'
  have hl' : Lvl n A' := hA' ▸ hl.deeper _
  have O : (lamC A' (kla_fn name qual params body scope [(x, c)] pm (.ref cc) ctv) s.heap.objs.size fn c P).Ok := by
    refine ⟨hk, hl'.2.2, rfl, rfl, ?_, ?_, ?_, ?_⟩
    · intro q d hq
      have hq' : List.lookup q [(x, c)] = some d := hq
      rw [List.lookup_cons] at hq'
      split at hq'
      · cases hq'; exact List.mem_cons_self
      · cases hq'
    · intro q q' d hq hq'
      have hq1 : List.lookup q [(x, c)] = some d := hq
      have hq2 : List.lookup q' [(x, c)] = some d := hq'
      rw [List.lookup_cons] at hq1 hq2
      cases e1 : q == x with
      | false => rw [e1] at hq1; cases hq1
      | true =>
        cases e2 : q' == x with
        | false => rw [e2] at hq2; cases hq2
        | true => rw [beq_iff_eq.mp e1, beq_iff_eq.mp e2]
    · show A'.depth < _; unfold recursionLimit; have := hl'.1; omega
    · show A'.units < _; unfold cLine; have := hl'.2.1; omega
  have hD : ∀ b o, P b → s.heap.get? b = some o → (lamC A' (kla_fn name qual params body scope [(x, c)] pm (.ref cc) ctv) s.heap.objs.size fn c P).D ((fn, .raw (kla_obj name qual params body scope [(x, c)] pm cc ctv)) :: (cc, .raw oc) :: μ₁) b ∧ h₁.get? b = some o :=
    fun b o hp e => ⟨⟨.inl hp, fun hm => by
      rcases hmut A' b hm with q | q
      · exact Nat.lt_irrefl _ (q ▸ Heap.lt_size e)
      · exact hP b hp q⟩, hk₁ b o e⟩
  have kindOf : ∀ q, (lamC A' (kla_fn name qual params body scope [(x, c)] pm (.ref cc) ctv) s.heap.objs.size fn c P).env.kindOf q = scope.names.lookup q := fun _ => rfl
  have Rp : Rep W (lamC A' (kla_fn name qual params body scope [(x, c)] pm (.ref cc) ctv) s.heap.objs.size fn c P) (sg [(x, .obj z), (y, dy)]) ((fn, .raw (kla_obj name qual params body scope [(x, c)] pm cc ctv)) :: (cc, .raw oc) :: μ₁) { s with heap := h₁, toks := s.toks + [(y, v)].length } := by
    refine ⟨W.mono hG (fun b o _ e => hk₁ b o e) y0.size, y0.size, ⟨_, hns, ?_⟩, ?_, fun p hp => ?_, ?_, fun b hb => ?_, fun b hb => ?_, Nat.lt_of_lt_of_le htk y0.toks⟩
    · intro q e he hkq
      rw [kindOf] at hkq
      have hqy : q ≠ x := fun z => by rw [z, hxf] at hkq; cases hkq
      unfold sg at he
      rw [List.lookup_cons, beq_eq_false_iff_ne.mpr hqy, List.lookup_cons] at he
      cases e2 : q == y with
      | false => rw [e2] at he; cases he
      | true =>
        rw [e2] at he; cases he
        rw [beq_iff_eq.mp e2]
        exact ⟨v, by simp [List.lookup_cons], rv.mono y0.toks hD⟩
    · intro q d hq hkq
      have hq1 : List.lookup q [(x, c)] = some d := hq
      rw [List.lookup_cons] at hq1
      cases e1 : q == x with
      | false => rw [e1] at hq1; cases hq1
      | true =>
        rw [e1] at hq1; cases hq1
        rw [beq_iff_eq.mp e1]
        obtain ⟨o, ho, hod⟩ := hcell
        refine ⟨_, ⟨o, hk₁ _ _ ho, hod⟩, fun e he => ?_⟩
        unfold sg at he
        rw [List.lookup_cons, beq_self_eq_true] at he
        cases he
        exact ⟨_, rfl, rfl⟩
    · exact (hM.mem p (List.mem_cons_of_mem _ hp)).mono y0.toks hD fun o e => hk₁ _ o e
    · show (s.heap.objs.size :: [c] ++ ((fn, MC.raw (kla_obj name qual params body scope [(x, c)] pm cc ctv)) :: (cc, .raw oc) :: μ₁).map (·.1)).Nodup
      have nd := hM.nodup
      rw [List.cons_append, List.singleton_append]
      exact List.nodup_cons.mpr ⟨fun hm => Nat.lt_irrefl _ (hlt _ hm), nd⟩
    · rcases hmut A' b hb with q | q
      · rw [q]; exact W.nb hn₀
      · exact hM.low b q
    · show b < h₁.objs.size
      rcases hmut A' b hb with q | q
      · rw [q]; exact Nat.lt_of_lt_of_le (Nat.lt_succ_self _) (Nat.le_of_eq hsz.symm)
      · exact Nat.lt_of_lt_of_le (hlt b q) (Nat.le_trans (Nat.le_succ _) (Nat.le_of_eq hsz.symm))
  show codeAny _ _ (.expr body (newEnv scope s.heap.objs.size mainGlobals [(x, c)] (qual ++ ".<locals>.") (some fn) (.ref cc) none builtinsNs)) _ _
  refine kla_codeExpr ?_
  rw [hA']
  refine (h A' s.heap.objs.size P O hl').run _ (fun v s' => R (.ok (.ret v)) s') _ Rp fun d μ' u s' k R' y' new' xu => ?_
  have nd := List.nodup_append.mp R'.nodup
  have hcf : c ∈ (lamC A' (kla_fn name qual params body scope [(x, c)] pm (.ref cc) ctv) s.heap.objs.size fn c P).fix := List.mem_cons_of_mem _ List.mem_cons_self
  have hmem : ∀ b ∈ ((c, MC.cell (.obj z)) :: μ').map (·.1), b ∈ (lamC A' (kla_fn name qual params body scope [(x, c)] pm (.ref cc) ctv) s.heap.objs.size fn c P).mut μ' := fun b hb => by
    rcases List.mem_cons.mp hb with q | q
    · rw [q]; exact List.mem_append_left _ hcf
    · exact List.mem_append_right _ q
  have hDn : ∀ b, (lamC A' (kla_fn name qual params body scope [(x, c)] pm (.ref cc) ctv) s.heap.objs.size fn c P).D μ' b → newP P s.heap.objs.size ((c, MC.cell (.obj z)) :: μ') b := fun b q => ⟨q.1, fun hm => q.2 (hmem b hm)⟩
  obtain ⟨v₀, hv₀, r₀⟩ := R'.cell x c (by show List.lookup x [(x, c)] = _; rw [List.lookup_cons, beq_self_eq_true]) (.inr hxf)
  obtain ⟨v', rfl, r'⟩ := r₀ (.obj z) (by unfold sg; rw [List.lookup_cons, beq_self_eq_true])
  cases r'
  refine hR d _ u s' k ⟨fun b o e hb => y'.kept b o (hk₁ b o e) fun hm => ?_, Nat.le_trans y0.size y'.size, y'.gens, y'.drawn, y'.os, Nat.le_trans y0.toks y'.toks⟩ (fun b hb => ?_) ⟨fun p hp => ?_, ?_, fun b hb => R'.low b (hmem b hb), fun b hb => R'.lt b (hmem b hb)⟩ (xu.mono (Nat.le_refl _) fun b o q e => ⟨hDn b q, e⟩)
  · rcases hmut A' b hm with q | q
    · exact Nat.lt_irrefl _ (q ▸ Heap.lt_size e)
    · exact hb q
  · rcases List.mem_cons.mp hb with q | q
    · rw [q]; exact .inl List.mem_cons_self
    · rcases new' b (List.mem_append_right _ q) with q' | q'
      · rcases hmut A' b q' with q'' | q''
        · rw [q'']; exact .inr (Nat.le_refl _)
        · exact .inl q''
      · exact .inr (Nat.le_trans y0.size q')
  · rcases List.mem_cons.mp hp with q | q
    · rw [q]; exact ⟨_, hv₀, rfl⟩
    · exact (R'.mem p q).mono (Nat.le_refl _) (fun b o q e => ⟨hDn b q, e⟩) fun o e => e
  · exact List.nodup_cons.mpr ⟨fun hm => nd.2.2 c hcf c hm rfl, nd.2.1⟩

theorem Rep.joinRaw {s : Shared} {a : Addr} {o : Obj} (R : Rep W C σ μ s) (ho : s.heap.get? a = some o) (hs : ¬ Seqy o) (hm : a ∉ C.mut μ) (hB : ¬ W.Base a) : Rep W C σ ((a, .raw o) :: μ) s := by
  have hmut : C.mut ((a, MC.raw o) :: μ) = C.fix ++ a :: μ.map (·.1) := rfl
  have hin : ∀ b, b ∈ C.mut ((a, MC.raw o) :: μ) → b = a ∨ b ∈ C.mut μ := fun b hm => by
    rw [hmut] at hm
    rcases List.mem_append.mp hm with z | z
    · exact .inr (List.mem_append_left _ z)
    · rcases List.mem_cons.mp z with z | z
      · exact .inl z
      · exact .inr (List.mem_append_right _ z)
  have keyD : ∀ b o', C.D μ b → s.heap.get? b = some o' → Seqy o' → C.D ((a, MC.raw o) :: μ) b ∧ s.heap.get? b = some o' := fun b o' p g q => ⟨⟨p.1, fun hm => by
    rcases hin b hm with z | z
    · subst z; rw [ho] at g; cases g; exact hs q
    · exact p.2 z⟩, g⟩
  refine ⟨R.top, R.size, ?_, ?_, ?_, ?_, ?_, ?_, R.tpos⟩
  · obtain ⟨m, hn, hm⟩ := R.loc
    exact ⟨m, hn, fun x d e k => let ⟨v, hv, r⟩ := hm x d e k; ⟨v, hv, r.monoC (Nat.le_refl _) keyD⟩⟩
  · intro x k hk hkx
    obtain ⟨v, hv, r⟩ := R.cell x k hk hkx
    exact ⟨v, hv, fun d e => let ⟨v', e', r'⟩ := r d e; ⟨v', e', r'.monoC (Nat.le_refl _) keyD⟩⟩
  · intro p hp
    rcases List.mem_cons.mp hp with rfl | hp
    · exact ho
    · exact (R.mem p hp).monoC (Nat.le_refl _) keyD fun o e => e
  · rw [hmut]
    have nd := R.nodup
    unfold Act.mut at nd hm
    have := List.nodup_append.mp nd
    refine List.nodup_append.mpr ⟨this.1, List.nodup_cons.mpr ⟨fun z => hm (List.mem_append_right _ z), this.2.1⟩, fun b hb c hc z => ?_⟩
    rcases List.mem_cons.mp hc with q | q
    · exact hm (List.mem_append_left _ (by rw [← q, ← z]; exact hb))
    · exact this.2.2 b hb c q z
  · intro b hb
    rcases hin b hb with z | z
    · rw [z]; exact hB
    · exact R.low b z
  · intro b hb
    rcases hin b hb with z | z
    · rw [z]; exact Heap.lt_size ho
    · exact R.lt b z
theorem fields_notSeqy {o : Obj} {vs : Array Value} (h : o.data = .fields vs) : ¬ Seqy o := by
  rintro ⟨_, us, n, e⟩; rw [h] at e; cases e

theorem EvM.lambda (O : C.Ok) {params : Arguments} {body : Expr} {scope : Scope} {pos : Pos} {clos : List (Str × Addr)} {c P : Addr} {ps : Array Value} {i : Nat} (hcl : closureFor scope C.env = pure clos) (hcode : C.env.code = .ref c)
    (hhd : ∀ {h : Heap}, W.G h → CodeHd h c P) (hba : ∀ {h : Heap}, W.G h → h.BuiltinsAt W.mg P) (hgP : mainGlobals ≠ P)
    (hi : μ[i]? = some (P, .raw (tabObj ps))) (ht : TriplesOk ps.toList) (hnf : codeAmong pos ps.toList = none) (hdef : defaultsOf params C.env = ([], []) := by rfl) :
    EvM W C σ μ (.Lambda params body scope pos) (fun d μ' => ∃ fn c' oc vs t ctv pm, d = .obj fn ∧ oc.data = .fields vs ∧ vs[1]? = some (.str (C.env.qual ++ "<lambda>") t) ∧
      μ' = (fn, .raw (kla_obj "<lambda>" (C.env.qual ++ "<lambda>") params body scope clos pm c' ctv)) :: (c', .raw oc) :: μ.set i (P, .raw (tabObj (ps ++ #[rawInt pos.line, rawInt pos.col, .ref c'])))) := by
  refine ⟨fun s Q E R hQ => ?_⟩
  have hP := R.mem _ (List.mem_of_getElem? hi)
  refine kla_eval hdef (wpAny_gr (kla_makeFunction hcl O.glob (W.nsg R.top) hcode (hhd R.top) hP ht hnf hgP (hba R.top) fun c' ctv h' tk hx hge hlt hrec htb gt gs => ?_))
  obtain ⟨c₂, oc, vs, t, e2, hoc, hd, hv⟩ := hrec
  cases e2
  have hPm : P ∈ C.mut μ := mem_mut hi
  have hz : s.heap.objs.size ≤ h'.objs.size := by omega
  have hP' : h'.get? P = some (tabObj (ps ++ #[rawInt pos.line, rawInt pos.col, .ref c'])) := htb
  -- first the table and the code object
  have R₁ : Rep W C σ (μ.set i (P, .raw (tabObj (ps ++ #[rawInt pos.line, rawInt pos.col, .ref c'])))) { s with heap := h', toks := tk } :=
    R.turn O hi gt (fun b o hb e => hx b o hb e) hz hP'
  -- the code object was made behind s
  have hnc : c' ∉ C.mut (μ.set i (P, .raw (tabObj (ps ++ #[rawInt pos.line, rawInt pos.col, .ref c'])))) := fun hm => by rw [Act.mut_set hi] at hm; exact Nat.lt_irrefl _ (Nat.lt_of_lt_of_le (R.lt _ hm) hge)
  have R₂ := R₁.joinRaw hoc (fields_notSeqy hd) hnc (W.nb (Nat.le_trans R.n₀ hge))
  have y₃ : Stp { s with heap := h', toks := tk } { s with heap := h'.push (kla_obj "<lambda>" (C.env.qual ++ "<lambda>") params body scope clos ((W.mg "__name__").getD .none) c' ctv), toks := tk } := Stp.push (s := { s with heap := h', toks := tk }) _ (Nat.le_refl _)
  have R₃ := R₂.join (a := h'.objs.size) (c := .raw (kla_obj "<lambda>" (C.env.qual ++ "<lambda>") params body scope clos ((W.mg "__name__").getD .none) c' ctv)) y₃ (Nat.le_refl _) (by show _ < (h'.push _).objs.size; rw [Heap.size_push]; omega) (Heap.get?_push_size _ rfl)
  have y₁ : Mv (C.mut μ) s { s with heap := h', toks := tk } := ⟨fun b o e hb => hx b o (fun z => hb (z ▸ hPm)) e, hz, rfl, rfl, rfl, gt⟩
  refine hQ (.obj h'.objs.size) _ _ _ ⟨_, c', oc, vs, t, ctv, _, rfl, hd, hv, rfl⟩ R₃ (y₁.trans y₃ fun _ h => nomatch h) (fun b hb => ?_) rfl
  rcases join_new (s := s) (n := s.heap.objs.size) hz b hb with q | q
  · rcases join_new (s := s) (n := s.heap.objs.size) hge b q with q | q
    · rw [Act.mut_set hi] at q; exact .inl q
    · exact .inr q
  · exact .inr q
theorem EvM.lambdaHit (O : C.Ok) {params : Arguments} {body : Expr} {scope : Scope} {pos : Pos} {clos : List (Str × Addr)} {c P c' : Addr} {ps : Array Value} (hcl : closureFor scope C.env = pure clos) (hcode : C.env.code = .ref c)
    (hhd : ∀ {h : Heap}, W.G h → CodeHd h c P) (hba : ∀ {h : Heap}, W.G h → h.BuiltinsAt W.mg P)
    (hi : (P, MC.raw (tabObj ps)) ∈ μ) (ht : TriplesOk ps.toList) (hf : codeAmong pos ps.toList = some (.ref c')) (hdef : defaultsOf params C.env = ([], []) := by rfl) :
    EvM W C σ μ (.Lambda params body scope pos) (fun d μ' => ∃ fn ctv pm, d = .obj fn ∧
      μ' = (fn, .raw (kla_obj "<lambda>" (C.env.qual ++ "<lambda>") params body scope clos pm c' ctv)) :: μ) := by
  refine ⟨fun s Q E R hQ => ?_⟩
  have hP := R.mem _ hi
  refine kla_eval hdef (wpAny_gr (kla_makeFunctionHit hcl O.glob (W.nsg R.top) hcode (hhd R.top) hP ht hf (hba R.top) fun ctv h' tk hk hz gt gs => ?_))
  have y₁ : Stp s { s with heap := h'.push (kla_obj "<lambda>" (C.env.qual ++ "<lambda>") params body scope clos ((W.mg "__name__").getD .none) c' ctv), toks := tk } :=
    ⟨fun b o e _ => Heap.get?_push_of_some _ (hk b o e), gs, rfl, rfl, rfl, gt⟩
  have R₃ := R.join (a := h'.objs.size) (c := .raw (kla_obj "<lambda>" (C.env.qual ++ "<lambda>") params body scope clos ((W.mg "__name__").getD .none) c' ctv)) y₁ hz (by show _ < (h'.push _).objs.size; rw [Heap.size_push]; omega) (Heap.get?_push_size _ rfl)
  exact hQ (.obj h'.objs.size) _ _ _ ⟨_, ctv, _, rfl, rfl⟩ R₃ (y₁.wk fun _ h => nomatch h) (join_new (s := s) hz) rfl
end
end Mine

namespace Mine
noncomputable def stm (i : Nat) : Stmt := (PySem.Challenge.pw_sw0024_01.main.body[i]?).getD (.Pass default)
noncomputable def fNm (st : Stmt) : Str := match st with | .FunctionDef n _ _ _ _ _ _ _ _ _ => n | _ => ""
noncomputable def fPar (st : Stmt) : Arguments := match st with | .FunctionDef _ a _ _ _ _ _ _ _ _ => a | _ => ⟨[], [], none, [], [], none, []⟩
noncomputable def fBody (st : Stmt) : List Stmt := match st with | .FunctionDef _ _ b _ _ _ _ _ _ _ => b | _ => []
noncomputable def fSco (st : Stmt) : Scope := match st with | .FunctionDef _ _ _ _ _ _ s _ _ _ => s | _ => default

section
variable {prog : Program} {w : World}

structure HasDef (W : Glob prog w) (i : Nat) (a : Addr) : Prop where
  ex : ∃ pm cd doc, W.mg (fNm (stm i)) = some (.ref a) ∧ IsDef W a (fNm (stm i)) (fPar (stm i)) (fBody (stm i)) (fSco (stm i)) pm cd doc

noncomputable def usedNames : List Str := ["hasattr", "type", "TypeError", "enumerate", "ValueError", "iter", "len", "list", "range", "min", "max", "isinstance", "bool"]
noncomputable def defIdx : List Nat := [1, 2, 3, 4, 5, 12, 13, 15, 16, 17, 18, 19, 20, 21, 22, 23, 24, 25, 26]

structure Pr (W : Glob prog w) where
  f : Nat → Addr
  has : ∀ i ∈ defIdx, HasDef W i (f i)
  bi : ∀ x ∈ usedNames, W.mg x = none
  bb : ∀ x ∈ usedNames, W.mb x = bootBuiltins x
  cMax : ∃ t, W.mg "_MAX_STRING_SIZE" = some (.int 40 t)
  cMove : ∃ t, W.mg "_MOVE_COST" = some (.int 2 t)
  cCase : ∃ t, W.mg "_CASE_COST" = some (.int 1 t)

variable {W : Glob prog w} {C : Act} {σ : Sg} {μ : Mu}
theorem Ev.fn (S : Pr W) (O : C.Ok) (i : Nat) {f : Str} {p pos : Pos} {args : List Expr} {ds : List D} {d : D} {n : Nat} (hF : Fn W (S.f i) n ds d) (hl : Lvl n C.A) (ha : Es W C σ μ pos args ds)
    (hi : i ∈ defIdx := by decide) (hf : f = fNm (stm i) := by rfl) (hk : C.env.kindOf f = some .globalImplicit := by rfl) (hne : args ≠ [] := by intro h; cases h)
    (hq : starEach args C.env = args.map (fun e => (false, eval e C.env)) := by rfl) (hd : (f == ("__debug__" : Str)) = false := by decide) : Ev W C σ μ (.Call (.Name f p) args [] pos) d := by
  obtain ⟨pm, cd, doc, h1, h2⟩ := (S.has i hi).ex
  subst hf
  exact Ev.callFn O hk h1 h2.obj ha hF hl hne hq hd
theorem Fn.def_ (S : Pr W) (i : Nat) {n : Nat} {ds : List D} {d : D} (ps : List Str)
    (h : ∀ (A : Around) (L : Addr) (P : Addr → Prop) (bsz : Nat) (pm cd doc : Value), (mkC A (Calls.docDef (fNm (stm i)) (fPar (stm i)) (fBody (stm i)) (fSco (stm i)) pm cd doc) L (S.f i) P bsz).Ok → Lvl n A →
      Exs W (mkC A (Calls.docDef (fNm (stm i)) (fPar (stm i)) (fBody (stm i)) (fSco (stm i)) pm cd doc) L (S.f i) P bsz) (fun x => (ps.zip ds).lookup x) [] (fBody (stm i)) (fun f _ _ => f = .ret d ∨ (f = .next ∧ d = .none)))
    (hbind : ∀ pm cd doc vals, vals.length = ps.length → bindArgs (Calls.docDef (fNm (stm i)) (fPar (stm i)) (fBody (stm i)) (fSco (stm i)) pm cd doc) ⟨vals, []⟩ = pure (ps.zip vals))
    (hlen : ds.length = ps.length := by rfl)
    (hi : i ∈ defIdx := by decide)
    (hnd : ps.Nodup := by decide +kernel)
    (hkind : ∀ x ∈ ps, (fSco (stm i)).names.lookup x = some .local ∨ ((fSco (stm i)).names.lookup x = some .cell ∧ ∀ k, ((cellsFrom k (fSco (stm i)).names []).lookup x).isSome = true) := by intro x hx; simp only [List.mem_cons, List.not_mem_nil, or_false] at hx; rcases hx with rfl | rfl | rfl <;> first | exact .inl rfl | exact .inr ⟨rfl, fun _ => rfl⟩)
    (hcnd₀ : (((fSco (stm i)).names.filter (fun x => x.2 == .cell)).map (·.1)).Nodup := by decide +kernel)
    (hco : (fSco (stm i)).isCoroutine = false := by rfl) (hgen : (fSco (stm i)).isGenerator = false := by rfl) (hk : (fSco (stm i)).kind = .function := by rfl) : Fn W (S.f i) (n + 1) ds d := by
  obtain ⟨pm, cd, doc, h1, h2⟩ := (S.has i hi).ex
  exact Fn.of_body ps h2 (hbind pm cd doc) hlen (fun A L P bsz => h A L P bsz pm cd doc) hnd hkind hcnd₀ hco hgen hk

theorem Pr.b (S : Pr W) {x : Str} {v : Value} (hx : x ∈ usedNames := by decide) (hv : bootBuiltins x = some v := by decide +kernel) : W.mg x = none ∧ W.mb x = some v := ⟨S.bi x hx, (S.bb x hx).trans hv⟩
theorem Pr.len (S : Pr W) : W.mg "len" = none ∧ W.mb "len" = some (.builtin "len") := S.b
theorem Pr.min (S : Pr W) : W.mg "min" = none ∧ W.mb "min" = some (.builtin "min") := S.b
theorem Pr.max (S : Pr W) : W.mg "max" = none ∧ W.mb "max" = some (.builtin "max") := S.b
theorem Pr.hasattr (S : Pr W) : W.mg "hasattr" = none ∧ W.mb "hasattr" = some (.builtin "hasattr") := S.b
theorem Pr.isinstance (S : Pr W) : W.mg "isinstance" = none ∧ W.mb "isinstance" = some (.builtin "isinstance") := S.b
theorem Pr.iter (S : Pr W) : W.mg "iter" = none ∧ W.mb "iter" = some (.builtin "iter") := S.b
theorem Pr.range (S : Pr W) : W.mg "range" = none ∧ W.mb "range" = some (.type "range") := S.b
theorem Pr.list (S : Pr W) : W.mg "list" = none ∧ W.mb "list" = some (.type "list") := S.b
theorem Pr.bool (S : Pr W) : W.mg "bool" = none ∧ W.mb "bool" = some (.type "bool") := S.b
theorem Pr.enumerate (S : Pr W) : W.mg "enumerate" = none ∧ W.mb "enumerate" = some (.type "enumerate") := S.b


theorem lt_fn (S : Pr W) (i j : Int) : Fn W (S.f 1) 1 [.int i, .int j] (.bool (decide (i < j))) :=
  Fn.def_ S 1 ["a", "b"] (fun A L P bsz pm cd doc O hl => Exs.ret (Ev.cmp (Ev.name O rfl rfl) (Ev.name O rfl rfl) Op2.ltI) (.inl rfl)) (by intro pm cd doc vals hv; obtain ⟨x, y, rfl⟩ := len2 hv; rfl)
theorem eq_fn (S : Pr W) (x y : List Nat) : Fn W (S.f 2) 1 [.str x, .str y] (.bool (x == y)) :=
  Fn.def_ S 2 ["a", "b"] (fun A L P bsz pm cd doc O hl => Exs.ret (Ev.cmp (Ev.name O rfl rfl) (Ev.name O rfl rfl) Op2.eqS) (.inl rfl)) (by intro pm cd doc vals hv; obtain ⟨x, y, rfl⟩ := len2 hv; rfl)
theorem addI_fn (S : Pr W) (i j : Int) : Fn W (S.f 3) 1 [.int i, .int j] (.int (i + j)) :=
  Fn.def_ S 3 ["a", "b"] (fun A L P bsz pm cd doc O hl => Exs.ret (Ev.binop (Ev.name O rfl rfl) (Ev.name O rfl rfl) Op2.addI) (.inl rfl)) (by intro pm cd doc vals hv; obtain ⟨x, y, rfl⟩ := len2 hv; rfl)
theorem addS_fn (S : Pr W) (x y : List Nat) (hsz : x.length + y.length ≤ sizeLine) : Fn W (S.f 3) 1 [.str x, .str y] (.str (x ++ y)) :=
  Fn.def_ S 3 ["a", "b"] (fun A L P bsz pm cd doc O hl => Exs.ret (Ev.binop (Ev.name O rfl rfl) (Ev.name O rfl rfl) (Op2.addS hsz)) (.inl rfl)) (by intro pm cd doc vals hv; obtain ⟨x, y, rfl⟩ := len2 hv; rfl)
theorem concat_fn (S : Pr W) (x y : List D) (hsz : x.length + y.length ≤ sizeLine) : Fn W (S.f 4) 1 [.lst x, .lst y] (.lst (x ++ y)) := by
  refine Fn.def_ S 4 ["a", "b"] (fun A L P bsz pm cd doc O hl => ?_) (by intro pm cd doc vals hv; obtain ⟨x, y, rfl⟩ := len2 hv; rfl)
  refine Exs.ite (Ts.not (Ts.val (Ev.callB O rfl S.hasattr.1 S.hasattr.2 (Es.cons (Ev.name O rfl rfl) (Es.cons (Ev.cstr rfl) Es.nil)) OpN.hasGetitem (by intro h; cases h)) Tru.cbool)) (fun h => nomatch h) fun _ => ?_
  refine Exs.nil ?_
  exact Exs.ret (Ev.binop (Ev.name O rfl rfl) (Ev.name O rfl rfl) (Op2.addL hsz)) (.inl rfl)
end
end Mine

namespace Mine
noncomputable def low (c : Nat) : Nat := if c = 65 then 97 else c
noncomputable def sgn6 : List Nat := [97, 65, 98, 34, 92, 10]
noncomputable def sub (c d : Nat) : Int := if c = d then 0 else if low c = low d then 1 else 2
theorem lower_one : ∀ c ∈ sgn6, Txt.lower ⟨[c].toArray⟩ = ⟨[low c].toArray⟩ := by decide +kernel

section
variable {prog : Program} {w : World} {W : Glob prog w} {C : Act} {σ : Sg} {μ : Mu}
theorem beq_one (c d : Nat) : (([c] : List Nat) == [d]) = decide (c = d) := by
  by_cases h : c = d
  · subst h; simp
  · simp [h]

theorem Ev.move (S : Pr W) (O : C.Ok) {pos : Pos} (hk : C.env.kindOf "_MOVE_COST" = some .globalImplicit := by rfl) : Ev W C σ μ (.Name "_MOVE_COST" pos) (.int 2) := let ⟨t, h⟩ := S.cMove; Ev.globInt O hk h
theorem Ev.case (S : Pr W) (O : C.Ok) {pos : Pos} (hk : C.env.kindOf "_CASE_COST" = some .globalImplicit := by rfl) : Ev W C σ μ (.Name "_CASE_COST" pos) (.int 1) := let ⟨t, h⟩ := S.cCase; Ev.globInt O hk h
theorem Ev.maxS (S : Pr W) (O : C.Ok) {pos : Pos} (hk : C.env.kindOf "_MAX_STRING_SIZE" = some .globalImplicit := by rfl) : Ev W C σ μ (.Name "_MAX_STRING_SIZE" pos) (.int 40) := let ⟨t, h⟩ := S.cMax; Ev.globInt O hk h

theorem subst_fn (S : Pr W) (c d : Nat) (hc : c ∈ sgn6) (hd : d ∈ sgn6) : Fn W (S.f 12) 1 [.str [c], .str [d]] (.int (sub c d)) := by
  refine Fn.def_ S 12 ["ch_a", "ch_b"] (fun A L P bsz pm cd doc O hl => ?_) (by intro pm cd doc vals hv; obtain ⟨x, y, rfl⟩ := len2 hv; rfl)
  refine Exs.ite (Ts.cmp (Ev.name O rfl rfl) (Ev.name O rfl rfl) (b := decide (c = d)) (by rw [← beq_one]; exact Op2.eqS)) (fun h => ?_) fun h => ?_
  · refine Exs.ret Ev.cint (.inl ?_)
    unfold sub; rw [if_pos (of_decide_eq_true h)]
  refine Exs.nil ?_
  have hne := of_decide_eq_false h
  refine Exs.ite (Ts.cmp (Ev.meth0 O (Ev.name O rfl rfl) (OpN.lower (lower_one c hc) (by simp [sizeLine])) ty_str F.plainAttrs_str F.slot_str_lower F.type_str_lower)
    (Ev.meth0 O (Ev.name O rfl rfl) (OpN.lower (lower_one d hd) (by simp [sizeLine])) ty_str F.plainAttrs_str F.slot_str_lower F.type_str_lower) (b := decide (low c = low d)) (by rw [← beq_one]; exact Op2.eqS)) (fun h => ?_) fun h => ?_
  · refine Exs.ret (Ev.case S O) (.inl ?_)
    unfold sub; rw [if_neg hne, if_pos (of_decide_eq_true h)]
  refine Exs.nil (Exs.ret (Ev.move S O) (.inl ?_))
  unfold sub; rw [if_neg hne, if_neg (of_decide_eq_false h)]
end
end Mine

namespace Mine
noncomputable def wt (c d : Nat) : Nat := if c = d then 4 else if low c = low d then 3 else 2
theorem wt_le (c d : Nat) : wt c d ≤ 4 := by
  unfold wt
  split
  · omega
  · split <;> omega
theorem wt_self (c : Nat) : wt c c = 4 := by simp [wt]
theorem wt_comm (c d : Nat) : wt c d = wt d c := by
  unfold wt
  by_cases h : c = d
  · subst h; rfl
  · rw [if_neg h, if_neg (Ne.symm h)]
    by_cases h' : low c = low d
    · rw [if_pos h', if_pos h'.symm]
    · rw [if_neg h', if_neg (Ne.symm h')]
theorem sub_wt (c d : Nat) : sub c d = 4 - (wt c d : Int) := by
  unfold sub wt
  split
  · rfl
  · split <;> rfl
theorem wt_ge (c d : Nat) : 2 ≤ wt c d := by
  unfold wt
  split
  · omega
  · split <;> omega

noncomputable def L : List Nat → List Nat → Nat
  | [], _ => 0
  | _ :: _, [] => 0
  | c :: x, d :: y => max (max (L x (d :: y)) (L (c :: x) y)) (wt c d + L x y)
termination_by x y => x.length + y.length

theorem L_nil (y : List Nat) : L [] y = 0 := by rw [L]
theorem L_nil_r (x : List Nat) : L x [] = 0 := by cases x <;> rw [L]
theorem L_cons (c d : Nat) (x y : List Nat) : L (c :: x) (d :: y) = max (max (L x (d :: y)) (L (c :: x) y)) (wt c d + L x y) := by rw [L]
theorem L_up (c : Nat) (x y : List Nat) : L x y ≤ L (c :: x) y := by
  cases y with
  | nil => rw [L_nil_r]; omega
  | cons d y => rw [L_cons]; omega
theorem L_up_r (d : Nat) (x y : List Nat) : L x y ≤ L x (d :: y) := by
  cases x with
  | nil => rw [L_nil]; omega
  | cons c x => rw [L_cons c d]; omega

inductive Al : List Nat → List Nat → Nat → Prop
  | nil : Al [] [] 0
  | l {x y n} (c : Nat) : Al x y n → Al (c :: x) y n
  | r {x y n} (d : Nat) : Al x y n → Al x (d :: y) n
  | p {x y n} (c d : Nat) : Al x y n → Al (c :: x) (d :: y) (wt c d + n)
theorem Al.le {x y : List Nat} {n : Nat} (h : Al x y n) : n ≤ L x y := by
  induction h with
  | nil => omega
  | l c _ ih => exact Nat.le_trans ih (L_up c _ _)
  | r d _ ih => exact Nat.le_trans ih (L_up_r d _ _)
  | p c d _ ih => rw [L_cons]; omega
theorem Al.zero : ∀ (x y : List Nat), Al x y 0
  | [], [] => .nil
  | c :: x, y => .l c (Al.zero x y)
  | [], d :: y => .r d (Al.zero [] y)
theorem Al.best : ∀ (x y : List Nat), Al x y (L x y)
  | [], y => by rw [L_nil]; exact Al.zero _ _
  | c :: x, [] => by rw [L_nil_r]; exact Al.zero _ _
  | c :: x, d :: y => by
    have h1 := Al.best x (d :: y)
    have h2 := Al.best (c :: x) y
    have h3 := Al.best x y
    rw [L_cons]
    rcases Nat.le_total (max (L x (d :: y)) (L (c :: x) y)) (wt c d + L x y) with h | h
    · rw [Nat.max_eq_right h]; exact .p c d h3
    · rw [Nat.max_eq_left h]
      rcases Nat.le_total (L x (d :: y)) (L (c :: x) y) with h' | h'
      · rw [Nat.max_eq_right h']; exact .r d h2
      · rw [Nat.max_eq_left h']; exact .l c h1
termination_by x y => x.length + y.length
theorem Al.append {x y x' y' : List Nat} {n m : Nat} (h : Al x y n) (h' : Al x' y' m) : Al (x ++ x') (y ++ y') (n + m) := by
  induction h with
  | nil => simpa using h'
  | l c _ ih => exact .l c ih
  | r d _ ih => exact .r d ih
  | p c d _ ih => rw [Nat.add_assoc]; exact .p c d ih
theorem Al.rev {x y : List Nat} {n : Nat} (h : Al x y n) : Al x.reverse y.reverse n := by
  induction h with
  | nil => exact .nil
  | l c _ ih => simpa using ih.append (Al.l c .nil)
  | r d _ ih => simpa using ih.append (Al.r d .nil)
  | @p x y n c d _ ih =>
    have := ih.append (Al.p c d .nil)
    simp only [List.reverse_cons]
    rwa [Nat.add_zero, Nat.add_comm n] at this
theorem Al.symm {x y : List Nat} {n : Nat} (h : Al x y n) : Al y x n := by
  induction h with
  | nil => exact .nil
  | l c _ ih => exact .r c ih
  | r d _ ih => exact .l d ih
  | p c d _ ih => rw [wt_comm]; exact .p d c ih
theorem L_rev (x y : List Nat) : L x.reverse y.reverse = L x y := by
  apply Nat.le_antisymm
  · have := (Al.best x.reverse y.reverse).rev.le
    simpa using this
  · exact (Al.best x y).rev.le
theorem L_comm (x y : List Nat) : L x y = L y x := Nat.le_antisymm (Al.best x y).symm.le (Al.best y x).symm.le
theorem L_step (c : Nat) : ∀ (x y : List Nat), L (c :: x) y ≤ L x y + 4
  | x, [] => by rw [L_nil_r]; omega
  | x, d :: y => by
    have h1 := L_step c x y
    have h2 := L_up_r d x y
    have h3 := wt_le c d
    rw [L_cons]; omega
theorem L_step_r (d : Nat) (x y : List Nat) : L x (d :: y) ≤ L x y + 4 := by
  rw [L_comm x (d :: y), L_comm x y]; exact L_step d y x
theorem L_cancel (c : Nat) (x y : List Nat) : L (c :: x) (c :: y) = L x y + 4 := by
  have h1 := L_step c x y
  have h2 := L_step_r c x y
  rw [L_cons, wt_self]; omega
theorem L_cancel_pre : ∀ (p x y : List Nat), L (p ++ x) (p ++ y) = L x y + 4 * p.length
  | [], x, y => by simp
  | c :: p, x, y => by rw [List.cons_append, List.cons_append, L_cancel, L_cancel_pre p, List.length_cons]; omega
theorem L_cancel_post (p x y : List Nat) : L (x ++ p) (y ++ p) = L x y + 4 * p.length := by
  rw [← L_rev (x ++ p), List.reverse_append, List.reverse_append, L_cancel_pre, L_rev, List.length_reverse]
theorem L_snoc (c d : Nat) (x y : List Nat) : L (x ++ [c]) (y ++ [d]) = max (max (L x (y ++ [d])) (L (x ++ [c]) y)) (wt c d + L x y) := by
  have h := L_cons c d x.reverse y.reverse
  have e1 : c :: x.reverse = (x ++ [c]).reverse := by simp
  have e2 : d :: y.reverse = (y ++ [d]).reverse := by simp
  rw [e1, e2] at h
  simpa only [L_rev] using h
theorem L_le_l : ∀ (x y : List Nat), L x y ≤ 4 * x.length
  | [], y => by rw [L_nil]; omega
  | c :: x, y => by have h1 := L_step c x y; have h2 := L_le_l x y; rw [List.length_cons]; omega
theorem L_le_r (x y : List Nat) : L x y ≤ 4 * y.length := by rw [L_comm]; exact L_le_l y x
theorem L_self (x : List Nat) : L x x = 4 * x.length := by have := L_cancel_pre x [] []; rw [L_nil] at this; simpa using this

noncomputable def ed (x y : List Nat) : Int := 2 * ((x.length : Int) + y.length) - L x y
theorem ed_self (x : List Nat) : ed x x = 0 := by unfold ed; rw [L_self]; omega
theorem ed_nil (x : List Nat) : ed x [] = 2 * (x.length : Int) := by unfold ed; rw [L_nil_r]; simp
theorem ed_nil_l (x : List Nat) : ed [] x = 2 * (x.length : Int) := by unfold ed; rw [L_nil]; simp
theorem ed_comm (x y : List Nat) : ed x y = ed y x := by unfold ed; rw [L_comm]; omega
theorem ed_pre (p x y : List Nat) : ed (p ++ x) (p ++ y) = ed x y := by unfold ed; rw [L_cancel_pre]; simp; omega
theorem ed_post (p x y : List Nat) : ed (x ++ p) (y ++ p) = ed x y := by unfold ed; rw [L_cancel_post]; simp; omega
theorem ed_gap (x y : List Nat) : 2 * ((y.length : Int) - x.length) ≤ ed x y := by unfold ed; have := L_le_l x y; omega
theorem ed_nonneg (x y : List Nat) : 0 ≤ ed x y := by unfold ed; have := L_le_l x y; have := L_le_r x y; omega
theorem ed_le (x y : List Nat) : ed x y ≤ 2 * ((x.length : Int) + y.length) := by unfold ed; omega

noncomputable def tb (a b : List Nat) (i j : Nat) : Int := ed (a.take i) (b.take j)
theorem tb_zero_l (a b : List Nat) {j : Nat} (h : j ≤ b.length) : tb a b 0 j = 2 * (j : Int) := by
  unfold tb; rw [List.take_zero, ed_nil_l, List.length_take, Nat.min_eq_left h]
theorem tb_zero_r (a b : List Nat) {i : Nat} (h : i ≤ a.length) : tb a b i 0 = 2 * (i : Int) := by
  unfold tb; rw [List.take_zero, ed_nil, List.length_take, Nat.min_eq_left h]
theorem tb_full (a b : List Nat) : tb a b a.length b.length = ed a b := by unfold tb; rw [List.take_length, List.take_length]
theorem tb_step (a b : List Nat) {i j : Nat} {c d : Nat} (hi : a[i]? = some c) (hj : b[j]? = some d) :
    tb a b (i + 1) (j + 1) = min (min (tb a b i (j + 1)) (tb a b (i + 1) j) + 2) (tb a b i j + sub d c) := by
  have e1 : a.take (i + 1) = a.take i ++ [c] := by rw [List.take_add_one, hi]; rfl
  have e2 : b.take (j + 1) = b.take j ++ [d] := by rw [List.take_add_one, hj]; rfl
  unfold tb
  rw [e1, e2]
  unfold ed
  rw [L_snoc, sub_wt, wt_comm d c]
  simp only [List.length_append, List.length_cons, List.length_nil]
  omega
theorem tb_one (a b : List Nat) {j : Nat} {c d : Nat} (hi : a[0]? = some c) (hj : b[j]? = some d) :
    tb a b 1 (j + 1) = min (min (2 * (j : Int)) (tb a b 1 j) + 2) (2 * (j : Int) + sub d c) ∧ tb a b 1 (j + 1) ≤ 2 * (j : Int) + 2 := by
  have hjl : j < b.length := (List.getElem?_eq_some_iff.mp hj).1
  have h := tb_step a b hi hj
  simp only [Nat.zero_add] at h
  rw [tb_zero_l a b (show j + 1 ≤ b.length from hjl), tb_zero_l a b (Nat.le_of_lt hjl)] at h
  have hs : sub d c ≤ 2 := by rw [sub_wt]; have := wt_ge d c; omega
  omega
theorem tb_dear (a b : List Nat) {K : Int} {j : Nat} (hj : j < b.length) (ha : 0 < a.length) (h : ∀ i, i < a.length → K < tb a b (i + 1) (j + 1)) : K < ed a b := by
  have key : ∀ k, j + 1 + k ≤ b.length → ∀ i, i ≤ a.length → K < tb a b i (j + 1 + k) := by
    intro k
    induction k with
    | zero =>
      intro _ i hi
      cases i with
      | zero =>
        have h1 := h 0 ha
        obtain ⟨c, hc⟩ : ∃ c, a[0]? = some c := ⟨_, List.getElem?_eq_getElem ha⟩
        have h2 := (tb_one a b hc (List.getElem?_eq_getElem hj)).2
        rw [tb_zero_l a b (by omega)]
        simp only [Nat.add_zero, Nat.zero_add] at *
        omega
      | succ i => exact h i hi
    | succ k ih =>
      intro hk i
      have hk' : j + 1 + k < b.length := by omega
      induction i with
      | zero =>
        intro _
        have h1 := ih (by omega) 0 (Nat.zero_le _)
        rw [tb_zero_l a b (by omega)] at h1 ⊢
        omega
      | succ i ih' =>
        intro hi
        have h1 := ih' (by omega)
        have h2 := ih (by omega) i (by omega)
        have h3 := ih (by omega) (i + 1) hi
        have h4 := tb_step a b (List.getElem?_eq_getElem (show i < a.length by omega)) (List.getElem?_eq_getElem hk')
        have h5 : 0 ≤ sub b[j + 1 + k] (a[i]) := by rw [sub_wt]; have := wt_le b[j + 1 + k] a[i]; omega
        show K < tb a b (i + 1) (j + 1 + k + 1)
        rw [h4]
        have e : j + 1 + (k + 1) = j + 1 + k + 1 := by omega
        rw [e] at h1
        omega
  have := key (b.length - (j + 1)) (by omega) a.length (Nat.le_refl _)
  have e : j + 1 + (b.length - (j + 1)) = b.length := by omega
  rwa [e, tb_full] at this
end Mine

namespace Mine
section
variable {prog : Program} {w : World} {W : Glob prog w} {C : Act} {σ : Sg} {μ : Mu}

theorem En.listRange (O : C.Ok) {f : Str} {p pos : Pos} {e : Expr} {a b c : Int} {n : Nat} (hk : C.env.kindOf f = some .globalImplicit) (hm : W.mg f = none) (hb : W.mb f = some (.type "list"))
    (he : Rg W C σ μ e a b c) (hs : Builtin.Range.small a b c = true) (hn : Builtin.Range.rangeSize a b c = n) (hl : n ≤ 2 ^ 24)
    (hq : starEach [e] C.env = [(false, eval e C.env)] := by rfl) (hd : (f == ("__debug__" : Str)) = false := by decide) : En W C σ μ (.Call (.Name f p) [e] [] pos) ((List.range n).map fun i : Nat => .int (a + (i : Int) * c)) := by
  refine ⟨fun s Q E R hQ => ?_⟩
  refine wpAny_Call_NameR (wp_builtin O R hk hm hb ?_ hd)
  have hse : backTo pos (starEach [e] C.env) = [(false, eval e C.env)] := by rw [hq]; rfl
  rw [hse]
  refine PySem.callWith_type rfl (Calls.evalArgs_plain (Calls.spliced_cons (he.run s _ _ R fun r s₁ y₁ x₁ fr => Calls.spliced_nil ?_)))
  obtain ⟨t, u, v, hr⟩ := x₁
  have R₁ := R.step y₁
  refine wpAny_gr (call_list_range O.hand hr hs hn hl fun h' tk acc c' hk hg hi gt gs => ?_)
  refine hQ _ acc _ (y₁.trans (Stp.gr hk gt gs)) y₁.size ⟨c', hg⟩ ?_
  obtain ⟨hsz, hit⟩ := hi
  have gen : ∀ (l : List Value) (k : Nat), (∀ j v, l[j]? = some v → ∃ t, v = Value.int (a + ((k + j : Nat) : Int) * c) t) → VRs (fun b => C.D μ b ∧ b ≠ s₁.heap.objs.size) tk h' ((List.range l.length).map fun i : Nat => D.int (a + ((k + i : Nat) : Int) * c)) l := by
    intro l
    induction l with
    | nil => intro k _; exact VRs.nil
    | cons x l ih =>
      intro k hx
      rw [List.length_cons, List.range_succ_eq_map, List.map_cons, List.map_map]
      refine VRs.cons ?_ ?_
      · obtain ⟨t, rfl⟩ := hx 0 x rfl; exact ⟨t, rfl⟩
      · have := ih (k + 1) fun j v hv => by
          have := hx (j + 1) v (by simpa using hv)
          rwa [show k + (j + 1) = k + 1 + j by omega] at this
        have e2 : ((fun i : Nat => D.int (a + ((k + i : Nat) : Int) * c)) ∘ Nat.succ) = fun i : Nat => D.int (a + ((k + 1 + i : Nat) : Int) * c) := by
          funext i; simp only [Function.comp]; rw [show k + Nat.succ i = k + 1 + i by omega]
        rw [e2]; exact this
  have := gen acc.toList 0 fun j v hv => by
    have := hit j v (by simpa using hv)
    simpa using this
  rw [Array.length_toList, hsz] at this
  simpa using this

noncomputable abbrev intL (l : List Int) : List D := l.map .int
theorem intL_get {l : List Int} {i : Nat} {x : Int} (h : l[i]? = some x) : (intL l)[i]? = some (.int x) := by unfold intL; rw [List.getElem?_map, h]; rfl

noncomputable def rowAt (a b : List Nat) (j i : Nat) : List Int := (List.range a.length).map fun k => if k < i then tb a b (k + 1) (j + 1) else tb a b (k + 1) j
noncomputable def resAt (a b : List Nat) (j i : Nat) : Int := if i = 0 then 2 * (j : Int) else tb a b i (j + 1)
noncomputable def minAt (a b : List Nat) (j : Nat) : Nat → Int
  | 0 => 9223372036854775807
  | i + 1 => if tb a b (i + 1) (j + 1) < minAt a b j i then tb a b (i + 1) (j + 1) else minAt a b j i
theorem minAt_le (a b : List Nat) (j : Nat) : ∀ n i, i < n → minAt a b j n ≤ tb a b (i + 1) (j + 1)
  | 0, i, h => by omega
  | n + 1, i, h => by
    rw [minAt]
    by_cases hi : i = n
    · subst hi; split <;> omega
    · have := minAt_le a b j n i (by omega)
      split <;> omega
theorem rowAt_len (a b : List Nat) (j i : Nat) : (rowAt a b j i).length = a.length := by simp [rowAt]
theorem rowAt_get (a b : List Nat) {j i : Nat} (h : i < a.length) : (rowAt a b j i)[i]? = some (tb a b (i + 1) j) := by
  unfold rowAt; rw [List.getElem?_map, List.getElem?_range h]; simp
theorem rowAt_set (a b : List Nat) {j i : Nat} : (rowAt a b j i).set i (tb a b (i + 1) (j + 1)) = rowAt a b j (i + 1) := by
  apply List.ext_getElem?
  intro k
  rw [List.getElem?_set]
  unfold rowAt
  simp only [List.getElem?_map, List.length_map, List.length_range]
  by_cases hk : k < a.length
  · rw [List.getElem?_range hk]
    by_cases h : i = k
    · subst h
      simp [hk]
    · rw [if_neg h]
      simp only [Option.map_some]
      by_cases h2 : k < i
      · rw [if_pos h2, if_pos (by omega)]
      · rw [if_neg h2, if_neg (by omega)]
  · have : (List.range a.length)[k]? = none := List.getElem?_eq_none (by simp; omega)
    rw [this]
    simp
    intro h
    omega
theorem rowAt_next (a b : List Nat) (j : Nat) : rowAt a b j a.length = rowAt a b (j + 1) 0 := by
  unfold rowAt
  apply List.map_congr_left
  intro k hk
  rw [if_pos (List.mem_range.mp hk), if_neg (by omega)]
theorem rowAt_first (a b : List Nat) : (List.range a.length).map (fun i : Nat => D.int (2 + (i : Int) * 2)) = intL (rowAt a b 0 0) := by
  unfold rowAt intL
  rw [List.map_map]
  apply List.map_congr_left
  intro k hk
  have hk := List.mem_range.mp hk
  simp only [Function.comp, Nat.not_lt_zero, if_false]
  rw [tb_zero_r a b (show k + 1 ≤ a.length by omega)]
  congr 1
  push_cast; omega
theorem turn_eq (a b : List Nat) {j i : Nat} {c d : Nat} (hi : a[i]? = some c) (hj : b[j]? = some d) :
    (if tb a b i j + sub d c < (if tb a b (i + 1) j < resAt a b j i then tb a b (i + 1) j else resAt a b j i) + 2 then tb a b i j + sub d c
      else (if tb a b (i + 1) j < resAt a b j i then tb a b (i + 1) j else resAt a b j i) + 2) = tb a b (i + 1) (j + 1) := by
  have hjl : j < b.length := (List.getElem?_eq_some_iff.mp hj).1
  cases i with
  | zero =>
    have h := (tb_one a b hi hj).1
    rw [tb_zero_l a b (Nat.le_of_lt hjl)]
    simp only [Nat.zero_add, resAt, if_true]
    have hs : sub d c ≤ 2 := by rw [sub_wt]; have := wt_ge d c; omega
    rw [h]
    split <;> split <;> omega
  | succ i =>
    have h := tb_step a b hi hj
    have e : resAt a b j (i + 1) = tb a b (i + 1) (j + 1) := by unfold resAt; rw [if_neg (by omega)]
    rw [e, h]
    split <;> split <;> omega
end
end Mine

namespace Mine
section
variable {prog : Program} {w : World} {W : Glob prog w} {C : Act} {σ : Sg} {μ : Mu}

theorem at?_nat {α : Type} {l : List α} {j : Nat} {c : α} (h : l[j]? = some c) : at? l (j : Int) = some c := by
  unfold at?; rw [if_neg (by omega)]; simpa using h
theorem at?_back {α : Type} {l : List α} {q : Nat} {c : α} (hq : q < l.length) (h : l[l.length - (q + 1)]? = some c) : at? l (-(q : Int) - 1) = some c := by
  unfold at?
  rw [if_pos (by omega), if_pos (by omega)]
  have : (-(q : Int) - 1 + l.length).toNat = l.length - (q + 1) := by omega
  rw [this]; exact h
theorem Itr.upto (S : Pr W) (O : C.Ok) {p pos : Pos} {e : Expr} {n : Nat} (he : Ev W C σ μ e (.int (n : Int))) (hn : n ≤ 2 ^ 24) (hk : C.env.kindOf "range" = some .globalImplicit := by rfl)
    (hq : starEach [e] C.env = [e].map (fun e => (false, eval e C.env)) := by rfl) : Itr W C σ μ (.Call (.Name "range" p) [e] [] pos) n (fun i => .int (i : Int)) := by
  have := Itr.range1 O (Rg.one (p := p) (pos := pos) O hk S.range.1 S.range.2 he hq) (by decide) (by decide) (by omega) (by omega)
  simpa using this
theorem Itr.between (S : Pr W) (O : C.Ok) {p pos : Pos} {e g : Expr} {m n : Nat} (he : Ev W C σ μ e (.int (m : Int))) (hg : Ev W C σ μ g (.int (n : Int))) (hm : m ≤ 2 ^ 24) (hn : n ≤ 2 ^ 24) (hk : C.env.kindOf "range" = some .globalImplicit := by rfl)
    (hq : starEach [e, g] C.env = [e, g].map (fun e => (false, eval e C.env)) := by rfl) (hq' : starEach [g] C.env = [g].map (fun e => (false, eval e C.env)) := by rfl) : Itr W C σ μ (.Call (.Name "range" p) [e, g] [] pos) (n - m) (fun i => .int ((m + i : Nat) : Int)) := by
  have := Itr.range1 O (Rg.two (p := p) (pos := pos) O hk S.range.1 S.range.2 he hg hq hq') (by omega) (by omega) (by omega) (by omega)
  have e : ((n : Int) - (m : Int)).toNat = n - m := by omega
  rw [e] at this
  simpa using this

noncomputable abbrev cC (S : Pr W) (i : Nat) (A : Around) (L : Addr) (P : Addr → Prop) (bsz : Nat) (pm cd doc : Value) : Act := mkC A (Calls.docDef (fNm (stm i)) (fPar (stm i)) (fBody (stm i)) (fSco (stm i)) pm cd doc) L (S.f i) P bsz

theorem lev_for (S : Pr W) {A : Around} {L : Addr} {P : Addr → Prop} {bsz : Nat} {pm cd doc : Value} (O : (cC S 13 A L P bsz pm cd doc).Ok) (hl : Lvl 1 A) (a b : List Nat) (K : Int) (ha : ∀ c ∈ a, c ∈ sgn6) (hb : ∀ c ∈ b, c ∈ sgn6)
    (hla : a.length ≤ 40) (hlb : b.length ≤ 40) (hpos : 0 < a.length) (hab : a.length ≤ b.length) (hK : ed a b ≤ K + 1) (r : Addr) :
    Exs W (cC S 13 A L P bsz pm cd doc) (sg [("a", .str a), ("b", .str b), ("max_cost", .int K), ("row", .obj r), ("result", .int 0)]) [(r, .list (intL (rowAt a b 0 0)))] ((fBody (stm 13)).drop 15) (fun f _ _ => f = .ret (.int (ed a b))) := by
  have sl : ∀ {n : Nat}, n ≤ 40 → n ≤ sizeLine := fun h => by unfold sizeLine; omega
  refine Exs.cons (K' := fun f σ' μ' => match f with | .next => σ' "result" = some (.int (ed a b)) | .ret d => d = .int (ed a b) | _ => False)
    (Ex1.for_ O (f := fun i σ => upd σ "bindex" (.int (i : Int)))
      (fun j σ' μ' => σ' = sg [("a", .str a), ("b", .str b), ("max_cost", .int K), ("row", .obj r), ("result", .int (if j = 0 then 0 else tb a b a.length j))] ∧ μ' = [(r, .list (intL (rowAt a b j 0)))])
      (Itr.upto S O (Ev.callB O rfl S.len.1 S.len.2 (Es.cons (Ev.name O rfl rfl) Es.nil) (OpN.lenS (sl hlb)) (by intro h; cases h)) (by omega))
      (fun i μ' => Tgt.name O (.inl rfl)) ⟨rfl, rfl⟩ ?_ ?_) ?_ ?_
  · rintro j _ _ hj ⟨rfl, rfl⟩
    have hd := List.getElem?_eq_getElem hj
    generalize b[j] = d at hd
    refine Exs.assign O (.inl rfl) (Ev.ofChr (Ev.sub (Ev.name O rfl rfl) (Ev.name O rfl rfl) (Op2.itemS (sl hlb) (at?_nat hd)))) ?_
    refine Exs.assign2 O (.inl rfl) (.inl rfl) (Ev.binop (Ev.name O rfl rfl) (Ev.move S O) (Op2.mulI (.inr (by decide)))) ?_
    refine Exs.assign O (.inl rfl) Ev.cint ?_
    refine Exs.weaken (σ' := sg [("a", .str a), ("b", .str b), ("max_cost", .int K), ("row", .obj r), ("bindex", .int j), ("bchar", .str [d]), ("distance", .int (tb a b 0 j)), ("result", .int (resAt a b j 0)), ("minimum", .int (minAt a b j 0))]) ?_ ?_
    · have e : (j : Int) * 2 = 2 * (j : Int) := by omega
      rw [tb_zero_l a b (Nat.le_of_lt hj), e]
      exact Le.cons rfl (Le.cons rfl (Le.cons rfl (Le.cons rfl (Le.cons rfl (Le.cons rfl (Le.cons rfl (Le.cons rfl (Le.cons rfl Le.nil))))))))
    refine Exs.cons (K' := fun f σ' μ' => match f with | .next => σ' = sg [("a", .str a), ("b", .str b), ("max_cost", .int K), ("row", .obj r), ("bindex", .int j), ("bchar", .str [d]), ("distance", .int (tb a b a.length j)), ("result", .int (resAt a b j a.length)), ("minimum", .int (minAt a b j a.length))] ∧ μ' = [(r, .list (intL (rowAt a b j a.length)))] | _ => False)
      (Ex1.for_ O (f := fun i σ => upd σ "index" (.int (i : Int)))
        (fun i σ' μ' => σ' = sg [("a", .str a), ("b", .str b), ("max_cost", .int K), ("row", .obj r), ("bindex", .int j), ("bchar", .str [d]), ("distance", .int (tb a b i j)), ("result", .int (resAt a b j i)), ("minimum", .int (minAt a b j i))] ∧ μ' = [(r, .list (intL (rowAt a b j i)))])
        (Itr.upto S O (Ev.callB O rfl S.len.1 S.len.2 (Es.cons (Ev.name O rfl rfl) Es.nil) (OpN.lenS (sl hla)) (by intro h; cases h)) (by omega))
        (fun i μ' => Tgt.name O (.inl rfl)) ⟨rfl, rfl⟩ ?_ ?_) ?_ ?_
    · rintro i _ _ hi ⟨rfl, rfl⟩
      have hc := List.getElem?_eq_getElem hi
      have hcs : a[i] ∈ sgn6 := ha _ (List.getElem_mem hi)
      have hds : d ∈ sgn6 := hb _ (List.mem_of_getElem? hd)
      generalize a[i] = c at hc hcs
      have hlen : (intL (rowAt a b j i)).length = a.length := by simp [intL, rowAt_len]
      refine Exs.assign O (.inl rfl) (Ev.binop (Ev.name O rfl rfl) (Ev.fn S O 12 (subst_fn S d c hds hcs) hl (Es.cons (Ev.name O rfl rfl) (Es.cons (Ev.ofChr (Ev.sub (Ev.name O rfl rfl) (Ev.name O rfl rfl) (Op2.itemS (sl hla) (at?_nat hc)))) Es.nil))) Op2.addI) ?_
      refine Exs.assign O (.inl rfl) (Ev.sub (Ev.name O rfl rfl) (Ev.name O rfl rfl) (by refine Op2.itemM (i := 0) rfl (intL_get (by rw [Int.toNat_natCast]; exact rowAt_get a b hi)) (by omega) (by omega))) ?_
      refine Exs.assign O (.inl rfl) (Ev.binop (Ev.callB O rfl S.min.1 S.min.2 (Es.cons (Ev.name O rfl rfl) (Es.cons (Ev.name O rfl rfl) Es.nil)) (OpN.min2 O) (by intro h; cases h)) (Ev.move S O) Op2.addI) ?_
      refine Exs.assign O (d := .int (tb a b (i + 1) (j + 1))) (.inl rfl) (Ev.callB O rfl S.min.1 S.min.2 (Es.cons (Ev.name O rfl rfl) (Es.cons (Ev.name O rfl rfl) Es.nil)) (by rw [← turn_eq a b hc hd]; exact OpN.min2 O) (by intro h; cases h)) ?_
      refine Exs.setItem O (i := 0) (Ev.name O rfl rfl) (Ev.name O rfl rfl) (Ev.name O rfl rfl) rfl (by omega) (by omega) (by omega) ?_
      have hset : (intL (rowAt a b j i)).set ((i : Int).toNat) (.int (tb a b (i + 1) (j + 1))) = intL (rowAt a b j (i + 1)) := by
        rw [Int.toNat_natCast, ← rowAt_set]; unfold intL; rw [List.map_set]
      rw [hset]
      have hres : resAt a b j (i + 1) = tb a b (i + 1) (j + 1) := by unfold resAt; rw [if_neg (by omega)]
      refine Exs.ite (Ts.cmp (Ev.name O rfl rfl) (Ev.name O rfl rfl) Op2.ltI) (fun h => ?_) fun h => ?_
      · refine Exs.assign O (.inl rfl) (Ev.name O rfl rfl) (Exs.nil (Exs.nil ⟨_, ?_, rfl, rfl⟩))
        have hm : minAt a b j (i + 1) = tb a b (i + 1) (j + 1) := by rw [minAt, if_pos (of_decide_eq_true h)]
        rw [hres, hm]
        exact Le.cons rfl (Le.cons rfl (Le.cons rfl (Le.cons rfl (Le.cons rfl (Le.cons rfl (Le.cons rfl (Le.cons rfl (Le.cons rfl Le.nil))))))))
      · refine Exs.nil (Exs.nil ⟨_, ?_, rfl, rfl⟩)
        have hm : minAt a b j (i + 1) = minAt a b j i := by rw [minAt, if_neg (of_decide_eq_false h)]
        rw [hres, hm]
        exact Le.cons rfl (Le.cons rfl (Le.cons rfl (Le.cons rfl (Le.cons rfl (Le.cons rfl (Le.cons rfl (Le.cons rfl (Le.cons rfl Le.nil))))))))
    · rintro _ _ ⟨rfl, rfl⟩
      exact ⟨rfl, rfl⟩
    · rintro _ _ ⟨rfl, rfl⟩
      have hres : resAt a b j a.length = tb a b a.length (j + 1) := by unfold resAt; rw [if_neg (by omega)]
      refine Exs.ite (Ts.cmp (Ev.name O rfl rfl) (Ev.name O rfl rfl) Op2.gtI) (fun h => ?_) fun h => ?_
      · refine Exs.ret (Ev.binop (Ev.name O rfl rfl) Ev.cint Op2.addI) ?_
        have h1 : K < ed a b := tb_dear a b hj hpos fun i hi => by
          have := minAt_le a b j a.length i hi
          have := of_decide_eq_true h
          omega
        show D.int (K + 1) = _
        rw [show K + 1 = ed a b by omega]
      · refine Exs.nil (Exs.nil ⟨_, ?_, rfl, ?_⟩)
        · rw [hres]
          refine Le.cons rfl (Le.cons rfl (Le.cons rfl (Le.cons rfl (Le.cons ?_ Le.nil))))
          rw [if_neg (by omega)]; rfl
        · rw [rowAt_next]
    · rintro f σ' μ' hn h
      cases f <;> first | exact absurd rfl hn | exact h.elim
  · rintro _ _ ⟨rfl, rfl⟩
    show some (D.int _) = _
    rw [if_neg (by omega), tb_full]
  · rintro σ' μ' h
    exact Exs.ret (Ev.name O rfl h) rfl
  · rintro f σ' μ' hn h
    cases f with
    | next => exact absurd rfl hn
    | ret d => exact congrArg FD.ret h
    | brk => exact h.elim
    | cont => exact h.elim
end
end Mine

namespace Mine
section
variable {prog : Program} {w : World} {W : Glob prog w} {C : Act} {σ : Sg} {μ : Mu}

theorem Ts.and3 {e f g : Expr} {pos : Pos} {b c d : Bool} (he : Ts W C σ μ e b) (hf : b = true → Ts W C σ μ f c) (hg : b = true → c = true → Ts W C σ μ g d) : Ts W C σ μ (.BoolOp .And [e, f, g] pos) (b && (c && d)) := by
  have := TsAll.and he fun hb => TsAll.and (hf hb) fun hc => by
    have := TsAll.and (hg hb hc) fun _ => TsAll.andNil (W := W) (C := C) (σ := σ) (μ := μ)
    rwa [Bool.and_true] at this
  exact Ts.boolop this

theorem Ev.butLast {o e : Expr} {k : Nat} {p1 p2 p3 pos : Pos} {l : List Nat} {q : Nat} (ho : Ev W C σ μ o (.str l)) (he : Ev W C σ μ e (.int (-(q : Int)))) (hl : l.length ≤ sizeLine)
    (ht : ∀ v r, letTemporaryGo o v r = pure () := by intro _ _; rfl) : Ev W C σ μ (.Subscript o (.Slice none (some (.BoolOp .Or [e, .Constant .none k p1] p2)) none p3) pos) (.str (l.take (l.length - q))) := by
  cases q with
  | zero =>
    have := Ev.sliceS (p := p3) (pos := pos) ho Ep.nil (Ep.no (Ev.or2 (pos := p2) (y := .Constant .none k p1) (r := .none) he Tru.cint (fun h => by simp at h) (fun _ => Ev.cnone))) hl ht
    rw [slc_all] at this
    simpa using this
  | succ q =>
    have hb : ((-((q + 1 : Nat) : Int)) != 0) = true := by simp; omega
    have := Ev.sliceS (p := p3) (pos := pos) ho Ep.nil (Ep.int (i := -((q + 1 : Nat) : Int)) (Ev.or2 (pos := p2) (y := .Constant .none k p1) he Tru.cint (fun _ => rfl) (fun h => by rw [hb] at h; cases h))) hl ht
    rw [slc_neg _ _ (by omega)] at this
    exact this
theorem Ev.from_ {o e : Expr} {p3 pos : Pos} {l : List Nat} {q : Nat} (ho : Ev W C σ μ o (.str l)) (he : Ev W C σ μ e (.int (q : Int))) (hl : l.length ≤ sizeLine)
    (ht : ∀ v r, letTemporaryGo o v r = pure () := by intro _ _; rfl) : Ev W C σ μ (.Subscript o (.Slice (some e) none none p3) pos) (.str (l.drop q)) := by
  have := Ev.sliceS (p := p3) (pos := pos) ho (Ep.int he) Ep.nil hl ht
  rwa [slc_drop] at this

theorem range_two (n : Nat) : Builtin.Range.rangeSize 2 (2 * ((n : Int) + 1)) 2 = n := by
  unfold Builtin.Range.rangeSize
  rw [if_pos (by decide)]
  split <;> omega

theorem fits_long {i : Int} (h : -(2 ^ 62) ≤ i) (h' : i < 2 ^ 62) : Builtin.Range.rangeFitsLong i = true := by
  unfold Builtin.Range.rangeFitsLong
  rw [Bool.and_eq_true, decide_eq_true_eq, decide_eq_true_eq]
  omega
theorem small_two (n : Nat) (hn : n ≤ 2 ^ 24) : Builtin.Range.small 2 (2 * ((n : Int) + 1)) 2 = true := by
  have h := range_two n
  unfold Builtin.Range.small
  rw [h]
  rw [fits_long (by omega) (by omega), fits_long (by omega) (by omega), fits_long (by omega) (by omega), if_pos (by decide), fits_long (by omega) (by omega)]
  simp
theorem lenLe {n : Nat} (h : n ≤ 40) : n ≤ sizeLine := by unfold sizeLine; omega

theorem lev_tail (S : Pr W) {A : Around} {L : Addr} {P : Addr → Prop} {bsz : Nat} {pm cd doc : Value} (O : (cC S 13 A L P bsz pm cd doc).Ok) (hl : Lvl 1 A) (a b : List Nat) (K : Int) (ha : ∀ c ∈ a, c ∈ sgn6) (hb : ∀ c ∈ b, c ∈ sgn6)
    (hla : a.length ≤ 40) (hlb : b.length ≤ 40) (hpos : 0 < a.length) (hab : a.length ≤ b.length) (hK : ed a b ≤ K + 1) :
    Exs W (cC S 13 A L P bsz pm cd doc) (sg [("a", .str a), ("b", .str b), ("max_cost", .int K)]) [] ((fBody (stm 13)).drop 12) (fun f _ _ => f = .ret (.int (ed a b))) := by
  have len : ∀ {σ : Sg} {μ : Mu} {x : Str} {p p' pos : Pos} {l : List Nat}, Ev W (cC S 13 A L P bsz pm cd doc) σ μ (.Name x p) (.str l) → l.length ≤ 40 → Ev W (cC S 13 A L P bsz pm cd doc) σ μ (.Call (.Name "len" p') [.Name x p] [] pos) (.int l.length) :=
    fun h hh => Ev.callB O rfl S.len.1 S.len.2 (Es.cons h Es.nil) (OpN.lenS (lenLe hh)) (by intro h; cases h)
  refine Exs.ite (Ts.cmp (Ev.binop (Ev.binop (len (Ev.name O rfl rfl) hlb) (len (Ev.name O rfl rfl) hla) Op2.subI) (Ev.move S O) (Op2.mulI (.inr (by decide)))) (Ev.name O rfl rfl) Op2.gtI) (fun h => ?_) fun h => ?_
  · refine Exs.ret (Ev.binop (Ev.name O rfl rfl) Ev.cint Op2.addI) ?_
    have h1 : K < ((b.length : Int) - a.length) * 2 := of_decide_eq_true h
    have h2 := ed_gap a b
    show FD.ret (.int (K + 1)) = _
    rw [show K + 1 = ed a b by omega]
  refine Exs.nil ?_
  refine Exs.assignNew O (.inl rfl) (En.listRange O rfl S.list.1 S.list.2 (Rg.three O rfl S.range.1 S.range.2 (Ev.move S O) (Ev.binop (Ev.move S O) (Ev.binop (len (Ev.name O rfl rfl) hla) Ev.cint Op2.addI) (Op2.mulI (.inl (by decide)))) (Ev.move S O) (by decide)) ?_ (range_two a.length) (by omega)) fun r _ => ?_
  · exact small_two a.length (by omega)
  rw [rowAt_first a b]
  refine Exs.assign O (.inl rfl) Ev.cint ?_
  refine Exs.weaken (σ' := sg [("a", .str a), ("b", .str b), ("max_cost", .int K), ("row", .obj r), ("result", .int 0)]) ?_ (lev_for S O hl a b K ha hb hla hlb hpos hab hK r)
  exact Le.cons rfl (Le.cons rfl (Le.cons rfl (Le.cons rfl (Le.cons rfl Le.nil))))

noncomputable def preT (a b : List Nat) (p : Nat) : Bool := !(a.drop p).isEmpty && (!(b.drop p).isEmpty && (a[p]? == b[p]?))
noncomputable def sufT (a b : List Nat) (q : Nat) : Bool := !(a.take (a.length - q)).isEmpty && (!(b.take (b.length - q)).isEmpty && (a[a.length - (q + 1)]? == b[b.length - (q + 1)]?))
theorem drop_ne {a : List Nat} {p : Nat} (h : (!(a.drop p).isEmpty) = true) : p < a.length := by
  refine Nat.lt_of_not_le fun hle => ?_
  rw [List.drop_of_length_le hle] at h; simp at h
theorem take_ne {a : List Nat} {q : Nat} (h : (!(a.take (a.length - q)).isEmpty) = true) : q < a.length := by
  refine Nat.lt_of_not_le fun hle => ?_
  rw [show a.length - q = 0 by omega] at h; simp at h
theorem some_beq (c d : Nat) : ((some c : Option Nat) == some d) = (([c] : List Nat) == [d]) := by rw [beq_one]; by_cases h : c = d <;> simp [h]

theorem lev_fn (S : Pr W) (a b : List Nat) (K : Int) (ha : ∀ c ∈ a, c ∈ sgn6) (hb : ∀ c ∈ b, c ∈ sgn6) (hla : a.length ≤ 40) (hlb : b.length ≤ 40) (hK : ed a b ≤ K + 1) : Fn W (S.f 13) 2 [.str a, .str b, .int K] (.int (ed a b)) := by
  refine Fn.def_ S 13 ["a", "b", "max_cost"] (fun A L P bsz pm cd doc O hl => ?_) (by intro pm cd doc vals hv; obtain ⟨x, y, z, rfl⟩ := len3 hv; rfl)
  have len : ∀ {σ : Sg} {μ : Mu} {x : Str} {p p' pos : Pos} {l : List Nat}, Ev W (cC S 13 A L P bsz pm cd doc) σ μ (.Name x p) (.str l) → l.length ≤ 40 → Ev W (cC S 13 A L P bsz pm cd doc) σ μ (.Call (.Name "len" p') [.Name x p] [] pos) (.int l.length) :=
    fun h hh => Ev.callB O rfl S.len.1 S.len.2 (Es.cons h Es.nil) (OpN.lenS (lenLe hh)) (by intro h; cases h)
  refine Exs.ite (Ts.cmp (Ev.name O rfl rfl) (Ev.name O rfl rfl) (b := decide (a = b)) (by
    have : (a == b) = decide (a = b) := by by_cases h : a = b <;> simp [h]
    rw [← this]; exact Op2.eqS)) (fun h => ?_) fun _ => ?_
  · refine Exs.ret Ev.cint (.inl ?_)
    have := of_decide_eq_true h
    subst this
    rw [ed_self]
  refine Exs.nil (Exs.assign O (.inl rfl) Ev.cint ?_)
  -- the signs that both begin with
  refine Exs.cons (K' := fun f σ' μ' => f = .next ∧ μ' = [] ∧ ∃ p : Nat, p ≤ a.length ∧ p ≤ b.length ∧ a.take p = b.take p ∧ Le (sg [("a", .str a), ("b", .str b), ("max_cost", .int K), ("pre", .int (p : Int))]) σ')
    (Ex1.while_ O (fun k σ' μ' => μ' = [] ∧ ∃ p : Nat, k = a.length - p ∧ p ≤ a.length ∧ p ≤ b.length ∧ a.take p = b.take p ∧ Le (sg [("a", .str a), ("b", .str b), ("max_cost", .int K), ("pre", .int (p : Int))]) σ') (fun k => preT a b (a.length - k)) a.length ?_ ?_ ?_ ?_) ?_ ?_
  · rintro _ σ' _ ⟨rfl, p, rfl, h1, h2, h3, h4⟩
    have e : a.length - (a.length - p) = p := by omega
    simp only [e]
    refine ⟨fun s Q E R => ?_⟩
    refine (Ts.and3 (σ := sg [("a", .str a), ("b", .str b), ("max_cost", .int K), ("pre", .int (p : Int))]) (Ts.val (Ev.from_ (Ev.name O rfl rfl) (Ev.name O rfl rfl) (lenLe hla)) (Tru.cstr (by rw [List.length_drop]; exact lenLe (by omega)))) (fun _ => Ts.val (Ev.from_ (Ev.name O rfl rfl) (Ev.name O rfl rfl) (lenLe hlb)) (Tru.cstr (by rw [List.length_drop]; exact lenLe (by omega)))) (fun h h' => ?_)).run s Q E (R.weaken h4)
    have hp := drop_ne h
    have hp' := drop_ne h'
    rw [List.getElem?_eq_getElem hp, List.getElem?_eq_getElem hp', some_beq]
    exact Ts.cmp (Ev.ofChr (Ev.sub (Ev.name O rfl rfl) (Ev.name O rfl rfl) (Op2.itemS (lenLe hla) (at?_nat (List.getElem?_eq_getElem hp))))) (Ev.ofChr (Ev.sub (Ev.name O rfl rfl) (Ev.name O rfl rfl) (Op2.itemS (lenLe hlb) (at?_nat (List.getElem?_eq_getElem hp'))))) Op2.eqS
  · exact ⟨rfl, 0, by omega, by omega, by omega, by simp, Le.cons rfl (Le.cons rfl (Le.cons rfl (Le.cons rfl Le.nil)))⟩
  · rintro _ σ' _ hb' ⟨rfl, p, rfl, h1, h2, h3, h4⟩
    have e : a.length - (a.length - p) = p := by omega
    simp only [e] at hb'
    unfold preT at hb'
    rw [Bool.and_eq_true, Bool.and_eq_true] at hb'
    have hp := drop_ne hb'.1
    have hp' := drop_ne hb'.2.1
    refine Exs.weaken h4 (Exs.aug O rfl rfl Ev.cint Op2.iaddI (Exs.nil ⟨a.length - (p + 1), sg [("a", .str a), ("b", .str b), ("max_cost", .int K), ("pre", .int ((p + 1 : Nat) : Int))], by omega, ?_, rfl, p + 1, rfl, hp, hp', ?_, Le.refl _⟩))
    · exact Le.cons rfl (Le.cons rfl (Le.cons rfl (Le.cons rfl Le.nil)))
    · rw [List.take_add_one, List.take_add_one, h3, eq_of_beq hb'.2.2]
  · rintro _ σ' _ _ ⟨rfl, p, rfl, h1, h2, h3, h4⟩
    exact ⟨rfl, rfl, p, h1, h2, h3, h4⟩
  rotate_left
  · rintro f _ _ hn ⟨h, _⟩
    exact absurd h hn
  rintro σ' _ ⟨_, rfl, p, h1, h2, h3, h4⟩
  refine Exs.weaken h4 ?_
  have hed : ed a b = ed (a.drop p) (b.drop p) := by
    have := ed_pre (a.take p) (a.drop p) (b.drop p)
    rw [List.take_append_drop] at this
    rw [h3, List.take_append_drop] at this
    exact this
  refine Exs.assign O (.inl rfl) (Ev.from_ (Ev.name O rfl rfl) (Ev.name O rfl rfl) (lenLe hla)) (Exs.assign O (.inl rfl) (Ev.from_ (Ev.name O rfl rfl) (Ev.name O rfl rfl) (lenLe hlb)) (Exs.assign O (.inl rfl) Ev.cint ?_))
  refine Exs.weaken (σ' := sg [("a", .str (a.drop p)), ("b", .str (b.drop p)), ("max_cost", .int K), ("post", .int (-((0 : Nat) : Int)))]) (Le.cons rfl (Le.cons rfl (Le.cons rfl (Le.cons rfl Le.nil)))) ?_
  have ha₁ : ∀ c ∈ a.drop p, c ∈ sgn6 := fun c hc => ha c (List.mem_of_mem_drop hc)
  have hb₁ : ∀ c ∈ b.drop p, c ∈ sgn6 := fun c hc => hb c (List.mem_of_mem_drop hc)
  have hla₁ : (a.drop p).length ≤ 40 := by rw [List.length_drop]; omega
  have hlb₁ : (b.drop p).length ≤ 40 := by rw [List.length_drop]; omega
  rw [hed] at hK ⊢
  clear h1 h2 h3 h4 hed ha hb hla hlb
  generalize a.drop p = a at *
  generalize b.drop p = b at *
  -- the signs that both end in
  refine Exs.cons (K' := fun f σ' μ' => f = .next ∧ μ' = [] ∧ ∃ q : Nat, q ≤ a.length ∧ q ≤ b.length ∧ a.drop (a.length - q) = b.drop (b.length - q) ∧ Le (sg [("a", .str a), ("b", .str b), ("max_cost", .int K), ("post", .int (-(q : Int)))]) σ')
    (Ex1.while_ O (fun k σ' μ' => μ' = [] ∧ ∃ q : Nat, k = a.length - q ∧ q ≤ a.length ∧ q ≤ b.length ∧ a.drop (a.length - q) = b.drop (b.length - q) ∧ Le (sg [("a", .str a), ("b", .str b), ("max_cost", .int K), ("post", .int (-(q : Int)))]) σ') (fun k => sufT a b (a.length - k)) a.length ?_ ?_ ?_ ?_) ?_ ?_
  · rintro _ σ' _ ⟨rfl, q, rfl, h1, h2, h3, h4⟩
    have e : a.length - (a.length - q) = q := by omega
    simp only [e]
    refine ⟨fun s Q E R => ?_⟩
    refine (Ts.and3 (σ := sg [("a", .str a), ("b", .str b), ("max_cost", .int K), ("post", .int (-(q : Int)))]) (Ts.val (Ev.butLast (Ev.name O rfl rfl) (Ev.name O rfl rfl) (lenLe hla₁)) (Tru.cstr (by rw [List.length_take]; exact lenLe (by omega)))) (fun _ => Ts.val (Ev.butLast (Ev.name O rfl rfl) (Ev.name O rfl rfl) (lenLe hlb₁)) (Tru.cstr (by rw [List.length_take]; exact lenLe (by omega)))) (fun h h' => ?_)).run s Q E (R.weaken h4)
    have hp := take_ne h
    have hp' := take_ne h'
    have g1 : a.length - (q + 1) < a.length := by omega
    have g2 : b.length - (q + 1) < b.length := by omega
    rw [List.getElem?_eq_getElem g1, List.getElem?_eq_getElem g2, some_beq]
    exact Ts.cmp (Ev.ofChr (Ev.sub (Ev.name O rfl rfl) (Ev.binop (Ev.name O rfl rfl) Ev.cint Op2.subI) (Op2.itemS (lenLe hla₁) (at?_back hp (List.getElem?_eq_getElem g1))))) (Ev.ofChr (Ev.sub (Ev.name O rfl rfl) (Ev.binop (Ev.name O rfl rfl) Ev.cint Op2.subI) (Op2.itemS (lenLe hlb₁) (at?_back hp' (List.getElem?_eq_getElem g2))))) Op2.eqS
  · exact ⟨rfl, 0, by omega, by omega, by omega, by simp, Le.cons rfl (Le.cons rfl (Le.cons rfl (Le.cons rfl Le.nil)))⟩
  · rintro _ σ' _ hb' ⟨rfl, q, rfl, h1, h2, h3, h4⟩
    have e : a.length - (a.length - q) = q := by omega
    simp only [e] at hb'
    unfold sufT at hb'
    rw [Bool.and_eq_true, Bool.and_eq_true] at hb'
    have hp := take_ne hb'.1
    have hp' := take_ne hb'.2.1
    refine Exs.weaken h4 (Exs.aug O rfl rfl Ev.cint Op2.isubI (Exs.nil ⟨a.length - (q + 1), sg [("a", .str a), ("b", .str b), ("max_cost", .int K), ("post", .int (-((q + 1 : Nat) : Int)))], by omega, ?_, rfl, q + 1, rfl, hp, hp', ?_, Le.refl _⟩))
    · have e2 : -((q + 1 : Nat) : Int) = -(q : Int) - 1 := by omega
      rw [e2]
      exact Le.cons rfl (Le.cons rfl (Le.cons rfl (Le.cons rfl Le.nil)))
    · have g1 : a.length - (q + 1) < a.length := by omega
      have g2 : b.length - (q + 1) < b.length := by omega
      have g3 := eq_of_beq hb'.2.2
      rw [List.getElem?_eq_getElem g1, List.getElem?_eq_getElem g2] at g3
      rw [List.drop_eq_getElem_cons g1, List.drop_eq_getElem_cons g2, Option.some.inj g3]
      have e1 : a.length - (q + 1) + 1 = a.length - q := by omega
      have e2 : b.length - (q + 1) + 1 = b.length - q := by omega
      rw [e1, e2, h3]
  · rintro _ σ' _ _ ⟨rfl, q, rfl, h1, h2, h3, h4⟩
    exact ⟨rfl, rfl, q, h1, h2, h3, h4⟩
  rotate_left
  · rintro f _ _ hn ⟨h, _⟩
    exact absurd h hn
  rintro σ' _ ⟨_, rfl, q, h1, h2, h3, h4⟩
  refine Exs.weaken h4 ?_
  have hed : ed a b = ed (a.take (a.length - q)) (b.take (b.length - q)) := by
    have := ed_post (a.drop (a.length - q)) (a.take (a.length - q)) (b.take (b.length - q))
    rw [List.take_append_drop] at this
    rw [h3, List.take_append_drop] at this
    exact this
  refine Exs.assign O (.inl rfl) (Ev.butLast (Ev.name O rfl rfl) (Ev.name O rfl rfl) (lenLe hla₁)) (Exs.assign O (.inl rfl) (Ev.butLast (Ev.name O rfl rfl) (Ev.name O rfl rfl) (lenLe hlb₁)) ?_)
  refine Exs.weaken (σ' := sg [("a", .str (a.take (a.length - q))), ("b", .str (b.take (b.length - q))), ("max_cost", .int K)]) (Le.cons rfl (Le.cons rfl (Le.cons rfl Le.nil))) ?_
  have ha₂ : ∀ c ∈ a.take (a.length - q), c ∈ sgn6 := fun c hc => ha₁ c (List.mem_of_mem_take hc)
  have hb₂ : ∀ c ∈ b.take (b.length - q), c ∈ sgn6 := fun c hc => hb₁ c (List.mem_of_mem_take hc)
  have hla₂ : (a.take (a.length - q)).length ≤ 40 := by rw [List.length_take]; omega
  have hlb₂ : (b.take (b.length - q)).length ≤ 40 := by rw [List.length_take]; omega
  rw [hed] at hK ⊢
  clear h1 h2 h3 h4 hed ha₁ hb₁ hla₁ hlb₁
  generalize a.take (a.length - q) = a at *
  generalize b.take (b.length - q) = b at *
  refine Exs.ite (Ts.or2 (Ts.not (Ts.val (Ev.name O rfl rfl) (Tru.cstr (lenLe hla₂)))) (fun _ => Ts.not (Ts.val (Ev.name O rfl rfl) (Tru.cstr (lenLe hlb₂))))) (fun h => ?_) fun h => ?_
  · refine Exs.ret (Ev.binop (Ev.move S O) (Ev.binop (len (Ev.name O rfl rfl) hla₂) (len (Ev.name O rfl rfl) hlb₂) Op2.addI) (Op2.mulI (.inl (by decide)))) (.inl ?_)
    simp only [Bool.not_not, Bool.or_eq_true, List.isEmpty_iff] at h
    rcases h with rfl | rfl
    · rw [ed_nil_l]; simp
    · rw [ed_nil]; simp
  simp only [Bool.not_not, Bool.or_eq_false_iff, List.isEmpty_eq_false_iff] at h
  have hpa : 0 < a.length := List.length_pos_iff.mpr h.1
  have hpb : 0 < b.length := List.length_pos_iff.mpr h.2
  refine Exs.nil (Exs.ite (Ts.or2 (Ts.cmp (len (Ev.name O rfl rfl) hla₂) (Ev.maxS S O) Op2.gtI) (fun _ => Ts.cmp (len (Ev.name O rfl rfl) hlb₂) (Ev.maxS S O) Op2.gtI)) (fun h => ?_) fun _ => ?_)
  · exfalso
    rw [Bool.or_eq_true, decide_eq_true_eq, decide_eq_true_eq] at h
    omega
  refine Exs.nil (Exs.ite (Ts.cmp (len (Ev.name O rfl rfl) hlb₂) (len (Ev.name O rfl rfl) hla₂) Op2.ltI) (fun h => ?_) fun h => ?_)
  · have h := of_decide_eq_true h
    refine Exs.swap O (.inl rfl) (.inl rfl) (Ev.tuple (Es.cons (Ev.name O rfl rfl) (Es.cons (Ev.name O rfl rfl) Es.nil)) (lenLe (by simp))) (Exs.nil ?_)
    refine Exs.weaken (σ' := sg [("a", .str b), ("b", .str a), ("max_cost", .int K)]) (Le.cons rfl (Le.cons rfl (Le.cons rfl Le.nil))) ?_
    rw [ed_comm] at hK ⊢
    exact Exs.conseq (lev_tail S O hl b a K hb₂ ha₂ hlb₂ hla₂ hpb (by omega) hK) fun f _ _ h => .inl h
  · have h := of_decide_eq_false h
    refine Exs.nil ?_
    exact Exs.conseq (lev_tail S O hl a b K ha₂ hb₂ hla₂ hlb₂ hpa (by omega) hK) fun f _ _ h => .inl h
end
end Mine

namespace Mine
section
variable {prog : Program} {w : World} {W : Glob prog w} {C : Act} {σ : Sg} {μ : Mu}

theorem fmod_nat (i j : Nat) (hj : 0 < j) : (i : Int).fmod (j : Int) = ((i % j : Nat) : Int) := by
  rw [Int.fmod_eq_emod_of_nonneg _ (by omega)]; rfl
theorem fdiv_nat (i j : Nat) (hj : 0 < j) : (i : Int).fdiv (j : Int) = ((i / j : Nat) : Int) := by
  rw [Int.fdiv_eq_ediv_of_nonneg _ (by omega)]; rfl

noncomputable def cRow (l : List Int) : Nat → List Nat
  | 0 => [270, 2, 53, 33, 87, 6, 7, 0, 0]
  | i + 1 => (cRow l i).set (i % 9) ((cRow l i)[i % 9]?.getD 0 + ((l[i]?.getD 0).fmod 1000000).toNat)
theorem cRow_len (l : List Int) : ∀ i, (cRow l i).length = 9
  | 0 => rfl
  | i + 1 => by rw [cRow, List.length_set, cRow_len l i]
noncomputable def cellsF (l : List Int) : List Nat := cRow l (min l.length 45)
theorem cellsF_len (l : List Int) : (cellsF l).length = 9 := cRow_len l _
noncomputable abbrev natL (l : List Nat) : List D := l.map fun n : Nat => D.int (n : Int)
theorem natL_get {l : List Nat} {i : Nat} {x : Nat} (h : l[i]? = some x) : (natL l)[i]? = some (.int (x : Int)) := by unfold natL; rw [List.getElem?_map, h]; rfl

theorem cells_fn (S : Pr W) (l : List Int) (hl' : l.length ≤ 63) : Fn W (S.f 15) 1 [.lst (intL l)] (.lst (natL (cellsF l))) := by
  refine Fn.def_ S 15 ["script"] (fun A L P bsz pm cd doc O hl => ?_) (by intro pm cd doc vals hv; obtain ⟨x, rfl⟩ := len1 hv; rfl)
  have hll : (intL l).length = l.length := by simp [intL]
  refine Exs.assignNew O (.inl rfl) (En.list (ds := [.int 270, .int 2, .int 53, .int 33, .int 87, .int 6, .int 7, .int 0, .int 0]) (Es.cons Ev.cint (Es.cons Ev.cint (Es.cons Ev.cint (Es.cons Ev.cint (Es.cons Ev.cint (Es.cons Ev.cint (Es.cons Ev.cint (Es.cons Ev.cint (Es.cons Ev.cint Es.nil))))))))) (by decide)) fun r hr => ?_
  have h0 : ([.int 270, .int 2, .int 53, .int 33, .int 87, .int 6, .int 7, .int 0, .int 0] : List D) = natL (cRow l 0) := by simp [natL, cRow]
  rw [h0]
  refine Exs.cons (K' := fun f σ' μ' => f = .next ∧ Le (sg [("script", .lst (intL l)), ("cells", .obj r)]) σ' ∧ μ' = [(r, .list (natL (cellsF l)))])
    (Ex1.for_ O (f := fun i σ => upd σ "k" (.int (i : Int)))
      (fun j σ' μ' => Le (sg [("script", .lst (intL l)), ("cells", .obj r)]) σ' ∧ μ' = [(r, .list (natL (cRow l j)))])
      (Itr.upto S O (n := min l.length 45) (Ev.callB O rfl S.min.1 S.min.2 (Es.cons (Ev.callB O rfl S.len.1 S.len.2 (Es.cons (Ev.name O rfl rfl) Es.nil) (OpN.lenL (by rw [hll]; unfold sizeLine; omega)) (by intro h; cases h)) (Es.cons Ev.cint Es.nil)) (by
        have e : ((min l.length 45 : Nat) : Int) = (if (45 : Int) < ((intL l).length : Int) then 45 else ((intL l).length : Int)) := by rw [hll]; split <;> omega
        rw [e]; exact OpN.min2 O) (by intro h; cases h)) (by omega))
      (fun i μ' => Tgt.name O (.inl rfl)) ⟨Le.cons rfl (Le.cons rfl Le.nil), rfl⟩ ?_ ?_) ?_ ?_
  · rintro i σ' _ hi ⟨hle, rfl⟩
    have hi' : i < l.length := by omega
    refine Exs.weaken (hle.upd _ _) ?_
    have hc : i % 9 < (cRow l i).length := by rw [cRow_len]; exact Nat.mod_lt _ (by omega)
    have h9 : ((i : Int).fmod 9) = ((i % 9 : Nat) : Int) := fmod_nat i 9 (by omega)
    have hm : 0 ≤ (l[i]).fmod 1000000 := Int.fmod_nonneg_of_pos _ (by decide)
    refine Exs.augItem O (i := 0) (d₀ := .int (((cRow l i)[i % 9] : Nat) : Int)) (d₁ := .int ((l[i]).fmod 1000000)) (Ev.name O rfl rfl) (Ev.binop (Ev.name O rfl rfl) Ev.cint (Op2.modI (by decide))) rfl (by rw [h9]; omega) (by rw [h9, Int.toNat_natCast]; exact natL_get (List.getElem?_eq_getElem hc)) (by rw [h9]; omega)
      (Ev.binop (Ev.sub (Ev.name O rfl rfl) (Ev.name O rfl rfl) (Op2.itemL (by rw [Int.toNat_natCast]; exact intL_get (List.getElem?_eq_getElem hi')) (by omega) (by omega))) Ev.cint (Op2.modI (by decide))) Op2.iaddI ?_
    refine Exs.nil ⟨_, Le.cons rfl (Le.cons rfl Le.nil), Le.refl _, ?_⟩
    show [(r, MC.list ((natL (cRow l i)).set ((i : Int).fmod 9).toNat (.int (((cRow l i)[i % 9] : Nat) + (l[i]).fmod 1000000))))] = _
    have e1 : (((cRow l i)[i % 9] : Nat) : Int) + (l[i]).fmod 1000000 = (((cRow l i)[i % 9]?.getD 0 + ((l[i]?.getD 0).fmod 1000000).toNat : Nat) : Int) := by
      rw [List.getElem?_eq_getElem hc, List.getElem?_eq_getElem hi']
      simp only [Option.getD_some]
      omega
    rw [e1, h9, Int.toNat_natCast, cRow]
    unfold natL
    rw [List.map_set]
  · rintro σ' _ ⟨hle, rfl⟩
    exact ⟨rfl, hle, rfl⟩
  · rintro σ' _ ⟨_, hle, rfl⟩
    refine Exs.weaken hle (Exs.freeze (x := "cells") (i := 0) rfl rfl (.inl hr) ?_)
    exact Exs.ret (Ev.name O rfl rfl) (.inl rfl)
  · rintro f _ _ hn ⟨h, _⟩
    exact absurd h hn
end
end Mine

namespace Mine
section
variable {prog : Program} {w : World} {W : Glob prog w} {C : Act} {σ : Sg} {μ : Mu}

theorem fromOuter.nil : fromOuter C [] := fun x c h => nomatch h
theorem fromOuter.cons {x : Str} {c : Addr} {l : List (Str × Addr)} (h : C.env.cells.lookup x = some c) (hk : isCellKind (C.env.kindOf x)) (hr : fromOuter C l) : fromOuter C ((x, c) :: l) := by
  intro y d hy
  rw [List.lookup_cons] at hy
  cases hb : y == x with
  | true => rw [hb] at hy; cases hy; rw [beq_iff_eq.mp hb]; exact ⟨h, hk⟩
  | false => rw [hb] at hy; exact hr y d hy
theorem sgF_nil {names : List (Str × NameKind)} : ∀ y d, sg [] y = some d → names.lookup y = some .free := fun y d h => nomatch h
theorem sgF_cons {names : List (Str × NameKind)} {x : Str} {d : D} {l : List (Str × D)} (h : names.lookup x = some .free) (hr : ∀ y d, sg l y = some d → names.lookup y = some .free) : ∀ y e, sg ((x, d) :: l) y = some e → names.lookup y = some .free := by
  intro y e he
  unfold sg at he
  rw [List.lookup_cons] at he
  cases hb : y == x with
  | true => rw [beq_iff_eq.mp hb]; exact h
  | false => rw [hb] at he; exact hr y e he

theorem Op2.pow6 {k : Nat} (hk : k ≤ 3) : Op2 W C σ μ (binaryOp .Pow) (.int 6) (.int (k : Int)) (.int (6 ^ k)) := by
  have := Op2.powI (W := W) (C := C) (σ := σ) (μ := μ) (i := 6) (j := (k : Int)) (by omega) (by
    have : Builtin.Int.intBits 6 = 3 := by decide
    rw [this]; omega)
  rwa [Int.toNat_natCast] at this

noncomputable abbrev sigs (l : List Nat) : List (List Nat) := l.map fun c => [c]
theorem sigs_flat : ∀ l : List Nat, (sigs l).flatten = l
  | [] => rfl
  | c :: l => by show [c] ++ (sigs l).flatten = _; rw [sigs_flat l]; rfl

noncomputable def wSign (n k : Nat) : Nat := sgn6[n / 6 ^ k % 6]?.getD 0
noncomputable def wordF (n size : Nat) : List Nat := (List.range size).map (wSign n)
theorem wSign_mem (n k : Nat) : wSign n k ∈ sgn6 := by
  have h : n / 6 ^ k % 6 < sgn6.length := Nat.mod_lt _ (by decide)
  unfold wSign
  rw [List.getElem?_eq_getElem h]
  exact List.getElem_mem h
theorem wSign_get (n k : Nat) : sgn6[n / 6 ^ k % 6]? = some (wSign n k) := by
  have h : n / 6 ^ k % 6 < sgn6.length := Nat.mod_lt _ (by decide)
  unfold wSign
  rw [List.getElem?_eq_getElem h]; rfl
theorem wordF_len (n size : Nat) : (wordF n size).length = size := by simp [wordF]
theorem wordF_mem {n size c : Nat} (h : c ∈ wordF n size) : c ∈ sgn6 := by
  obtain ⟨k, _, rfl⟩ := List.mem_map.mp h; exact wSign_mem n k

theorem word_fn (S : Pr W) (n size : Nat) (hs : size ≤ 3) : Fn W (S.f 16) 1 [.int (n : Int), .int (size : Int)] (.str (wordF n size)) := by
  refine Fn.def_ S 16 ["n", "size"] (fun A L P bsz pm cd doc O hl => ?_) (by intro pm cd doc vals hv; obtain ⟨x, y, rfl⟩ := len2 hv; rfl)
  have he : (sigs (wordF n size)).flatten = wordF n size := sigs_flat _
  refine Exs.ret (d := .str (sigs (wordF n size)).flatten) (Ev.meth O (Ev.ofChr (Ev.cstr rfl)) (Es.cons (En.ev (En.comp (ds := (sigs (wordF n size)).map .str) ?_)) Es.nil) (OpN.join (by rw [he, wordF_len]; unfold sizeLine; omega)) (by intro h; cases h) ty_str F.plainAttrs_str F.slot_str_join F.type_str_join) (.inl (by rw [he]))
  have hds : (sigs (wordF n size)).map D.str = (List.range size).map fun k => D.str [wSign n k] := by
    unfold sigs wordF; rw [List.map_map, List.map_map]; rfl
  rw [hds]
  refine Cp.one O (cl := [("n", L + 1)]) (sg [("n", .int (n : Int))]) (Itr.upto S O (Ev.name O rfl rfl) (by omega)) (by unfold sizeLine; omega) rfl ?_ (Le.cons rfl Le.nil) ?_ rfl ?_
  · exact fromOuter.cons rfl (.inl rfl) fromOuter.nil
  · exact sgF_cons rfl sgF_nil
  · intro L' a xs k hk O'
    have h6 : (6 : Int) ^ k = ((6 ^ k : Nat) : Int) := by push_cast; rfl
    have hp : 0 < 6 ^ k := Nat.pos_of_ne_zero (by simp)
    have hb : 6 ^ k ≤ 36 := by
      have : k = 0 ∨ k = 1 ∨ k = 2 := by omega
      rcases this with rfl | rfl | rfl <;> decide
    refine Ev.ofChr (Ev.sub (Ev.ofChr (Ev.cstr (l := sgn6) rfl)) (e := .int ((n / 6 ^ k % 6 : Nat) : Int)) ?_ (Op2.itemS (by decide) (at?_nat (wSign_get n k))))
    rw [← fmod_nat _ 6 (by omega)]
    refine Ev.binop (d := .int ((n / 6 ^ k : Nat) : Int)) ?_ Ev.cint (Op2.modI (by decide))
    rw [← fdiv_nat _ _ hp]
    refine Ev.binop (Ev.cellName O' rfl rfl rfl) (e := .int ((6 ^ k : Nat) : Int)) ?_ (Op2.divI (by omega) (by omega))
    rw [← h6]
    refine Ev.binop Ev.cint (Ev.name O' rfl rfl) ?_
    exact Op2.pow6 (by omega)
end
end Mine

namespace Mine
section
variable {prog : Program} {w : World} {W : Glob prog w} {C : Act} {σ : Sg} {μ : Mu}

noncomputable def pieceF (n : Nat) : List Nat := if n % 43 = 0 then [] else if n % 43 < 7 then wordF (n % 43 - 1) 1 else wordF (n % 43 - 7) 2
theorem pieceF_len (n : Nat) : (pieceF n).length ≤ 2 := by
  unfold pieceF; split
  · simp
  · split <;> rw [wordF_len] <;> omega
theorem pieceF_mem {n c : Nat} (h : c ∈ pieceF n) : c ∈ sgn6 := by
  unfold pieceF at h
  split at h
  · cases h
  · split at h <;> exact wordF_mem h
theorem Ev.mod43 (n : Nat) {e : Expr} {k : Nat} {p pos : Pos} (he : Ev W C σ μ e (.int (n : Int))) : Ev W C σ μ (.BinOp e .Mod (.Constant (.int 43) k p) pos) (.int ((n % 43 : Nat) : Int)) := by
  rw [← fmod_nat n 43 (by omega)]
  exact Ev.binop he Ev.cint (Op2.modI (by decide))

theorem piece_fn (S : Pr W) (n : Nat) : Fn W (S.f 17) 2 [.int (n : Int)] (.str (pieceF n)) := by
  refine Fn.def_ S 17 ["n"] (fun A L P bsz pm cd doc O hl => ?_) (by intro pm cd doc vals hv; obtain ⟨x, rfl⟩ := len1 hv; rfl)
  refine Exs.ite (Ts.cmp (Ev.mod43 n (Ev.name O rfl rfl)) Ev.cint (b := decide (n % 43 = 0)) (by
    have : (((n % 43 : Nat) : Int) == 0) = decide (n % 43 = 0) := by
      by_cases h : n % 43 = 0
      · rw [h]; rfl
      · simp [h]; omega
    rw [← this]; exact Op2.eqI)) (fun h => ?_) fun h => ?_
  · refine Exs.ret (Ev.ofChr (Ev.cstr (l := []) rfl)) (.inl ?_)
    unfold pieceF; rw [if_pos (of_decide_eq_true h)]
  have h0 := of_decide_eq_false h
  refine Exs.nil (Exs.ite (Ts.cmp (Ev.mod43 n (Ev.name O rfl rfl)) Ev.cint Op2.ltI) (fun h => ?_) fun h => ?_)
  · have h1 : ((n % 43 : Nat) : Int) < 7 := of_decide_eq_true h
    have h2 : pieceF n = wordF (n % 43 - 1) 1 := by unfold pieceF; rw [if_neg h0, if_pos (by omega)]
    rw [h2]
    refine Exs.ret (Ev.fn S O 16 (word_fn S (n % 43 - 1) 1 (by omega)) hl (Es.cons ?_ (Es.cons Ev.cint Es.nil))) (.inl rfl)
    have e : ((n % 43 - 1 : Nat) : Int) = ((n % 43 : Nat) : Int) - 1 := by omega
    rw [e]
    exact Ev.binop (Ev.mod43 n (Ev.name O rfl rfl)) Ev.cint Op2.subI
  · have h1 : ¬ ((n % 43 : Nat) : Int) < 7 := of_decide_eq_false h
    have h2 : pieceF n = wordF (n % 43 - 7) 2 := by unfold pieceF; rw [if_neg h0, if_neg (by omega)]
    rw [h2]
    refine Exs.nil (Exs.ret (Ev.fn S O 16 (word_fn S (n % 43 - 7) 2 (by omega)) hl (Es.cons ?_ (Es.cons Ev.cint Es.nil))) (.inl rfl))
    have e : ((n % 43 - 7 : Nat) : Int) = ((n % 43 : Nat) : Int) - 7 := by omega
    rw [e]
    exact Ev.binop (Ev.mod43 n (Ev.name O rfl rfl)) Ev.cint Op2.subI

noncomputable def esc (c : Nat) : List Nat := if c = 34 ∨ c = 92 then [92, c] else [c]
noncomputable def quoted (word : List Nat) : List Nat := [34] ++ word.flatMap esc ++ [34]
noncomputable def bare (word : List Nat) (way : Nat) : List Nat := (word.flatMap fun c => [92, c]) ++ [if way % 3 = 1 then 9 else 10]
noncomputable def writtenF (word : List Nat) (way : Nat) : List Nat := if way % 3 = 0 ∨ word = [] then quoted word else bare word way
theorem flatMap_len_le {f : Nat → List Nat} (hf : ∀ c, (f c).length ≤ 2) : ∀ l : List Nat, (l.flatMap f).length ≤ 2 * l.length
  | [] => by simp
  | c :: l => by
    have := flatMap_len_le hf l
    have := hf c
    rw [List.flatMap_cons, List.length_append, List.length_cons]; omega
theorem esc_len (c : Nat) : (esc c).length ≤ 2 := by unfold esc; split <;> simp
theorem written_len (word : List Nat) (way : Nat) (h : word.length ≤ 3) : (writtenF word way).length ≤ 8 := by
  unfold writtenF quoted bare
  have h1 := flatMap_len_le esc_len word
  have h2 := flatMap_len_le (f := fun c => [92, c]) (fun c => by simp) word
  split <;> simp only [List.length_append, List.length_cons, List.length_nil] <;> omega
theorem map_flat (f : Nat → List Nat) (l : List Nat) : (l.map f).flatten = l.flatMap f := rfl
theorem range_map (l : List Nat) (f : Nat → D) : (List.range l.length).map (fun i => f (l[i]?.getD 0)) = l.map f := by
  apply List.ext_getElem?
  intro i
  rw [List.getElem?_map, List.getElem?_map]
  by_cases h : i < l.length
  · rw [List.getElem?_range h, List.getElem?_eq_getElem h]; simp [List.getElem?_eq_getElem h]
  · rw [List.getElem?_eq_none (l := List.range l.length) (by simpa using h), List.getElem?_eq_none (l := l) (by simpa using h)]; rfl

theorem written_fn (S : Pr W) (word : List Nat) (way : Nat) (hw : word.length ≤ 3) : Fn W (S.f 18) 1 [.str word, .int (way : Int)] (.str (writtenF word way)) := by
  refine Fn.def_ S 18 ["word", "way"] (fun A L P bsz pm cd doc O hl => ?_) (by intro pm cd doc vals hv; obtain ⟨x, y, rfl⟩ := len2 hv; rfl)
  have h3 : (way : Int).fmod 3 = ((way % 3 : Nat) : Int) := fmod_nat way 3 (by omega)
  have hwl : word.length ≤ sizeLine := lenLe (by omega)
  refine Exs.ite (Ts.or2 (b := decide (way % 3 = 0)) (c := decide (word = [])) (Ts.cmp (Ev.binop (Ev.name O rfl rfl) Ev.cint (Op2.modI (by decide))) Ev.cint (by
    have : ((way : Int).fmod 3 == 0) = decide (way % 3 = 0) := by
      rw [h3]
      by_cases h : way % 3 = 0
      · rw [h]; rfl
      · simp [h]; omega
    rw [← this]; exact Op2.eqI)) fun _ => Ts.cmp (Ev.name O rfl rfl) (Ev.ofChr (Ev.cstr (l := []) rfl)) (by
    have : (word == []) = decide (word = []) := by by_cases h : word = [] <;> simp [h]
    rw [← this]; exact Op2.eqS)) (fun h => ?_) fun h => ?_
  · rw [Bool.or_eq_true, decide_eq_true_eq, decide_eq_true_eq] at h
    have hwr : writtenF word way = quoted word := by unfold writtenF; rw [if_pos h]
    rw [hwr]
    have hl1 := flatMap_len_le esc_len word
    refine Exs.ret (d := .str ([34] ++ (word.map esc).flatten ++ [34])) (Ev.binop (Ev.binop (Ev.ofChr (Ev.cstr (l := [34]) rfl)) (Ev.meth O (Ev.ofChr (Ev.cstr rfl)) (Es.cons (En.ev (En.comp (ds := (word.map esc).map .str) ?_)) Es.nil) (OpN.join (by rw [map_flat]; unfold sizeLine; omega)) (by intro h; cases h) ty_str F.plainAttrs_str F.slot_str_join F.type_str_join) (Op2.addS (by rw [map_flat]; simp only [List.length_append, List.length_cons, List.length_nil]; unfold sizeLine; omega))) (Ev.ofChr (Ev.cstr (l := [34]) rfl)) (Op2.addS (by rw [map_flat]; simp only [List.length_append, List.length_cons, List.length_nil]; unfold sizeLine; omega))) (.inl (by rw [map_flat]; rfl))
    have hds : (word.map esc).map D.str = (List.range word.length).map fun i => D.str (esc (word[i]?.getD 0)) := by rw [range_map word (fun c => D.str (esc c)), List.map_map]; rfl
    rw [hds]
    refine Cp.one O (cl := []) (sg []) (Itr.str O (Ev.name O rfl rfl)) hwl rfl fromOuter.nil Le.nil sgF_nil rfl ?_
    intro L' a xs i hi O'
    generalize word[i]?.getD 0 = c
    refine Ev.ifexp (c := decide (c = 34 ∨ c = 92)) (Ts.cmp (Ev.name O' rfl rfl) (Ev.ofChr (Ev.cstr (l := [34, 92]) rfl)) (by
      have : decide (c ∈ [34, 92]) = decide (c = 34 ∨ c = 92) := by simp
      rw [← this]; exact Op2.inS)) (fun h => ?_) fun h => ?_
    · have : esc c = [92] ++ [c] := by unfold esc; rw [if_pos (of_decide_eq_true h)]; rfl
      rw [this]
      exact Ev.binop (Ev.ofChr (Ev.cstr (l := [92]) rfl)) (Ev.name O' rfl rfl) (Op2.addS (by simp [sizeLine]))
    · have : esc c = [c] := by unfold esc; rw [if_neg (of_decide_eq_false h)]
      rw [this]
      exact Ev.name O' rfl rfl
  · rw [Bool.or_eq_false_iff, decide_eq_false_iff_not, decide_eq_false_iff_not] at h
    have hwr : writtenF word way = bare word way := by unfold writtenF; rw [if_neg (by rintro (x | x); exact h.1 x; exact h.2 x)]
    rw [hwr]
    have hl1 := flatMap_len_le (f := fun c => [92, c]) (fun c => by simp) word
    refine Exs.nil (Exs.ret (d := .str ((word.map fun c => [92, c]).flatten ++ [if way % 3 = 1 then 9 else 10])) (Ev.binop (Ev.meth O (Ev.ofChr (Ev.cstr rfl)) (Es.cons (En.ev (En.comp (ds := (word.map fun c => [92, c]).map .str) ?_)) Es.nil) (OpN.join (by rw [map_flat]; unfold sizeLine; omega)) (by intro h; cases h) ty_str F.plainAttrs_str F.slot_str_join F.type_str_join)
      (Ev.ofChr (Ev.sub (Ev.ofChr (Ev.cstr (l := [9, 10]) rfl)) (Ev.binop (Ev.binop (Ev.name O rfl rfl) Ev.cint (Op2.modI (by decide))) Ev.cint Op2.subI) (Op2.itemS (by decide) ?_))) (Op2.addS (by rw [map_flat]; simp only [List.length_append, List.length_cons, List.length_nil]; unfold sizeLine; omega))) (.inl (by rw [map_flat]; rfl)))
    · have hds : (word.map fun c => [92, c]).map D.str = (List.range word.length).map fun i => D.str ([92] ++ [word[i]?.getD 0]) := by rw [range_map word (fun c => D.str ([92] ++ [c])), List.map_map]; rfl
      rw [hds]
      refine Cp.one O (cl := []) (sg []) (Itr.str O (Ev.name O rfl rfl)) hwl rfl fromOuter.nil Le.nil sgF_nil rfl ?_
      intro L' a xs i hi O'
      exact Ev.binop (Ev.ofChr (Ev.cstr (l := [92]) rfl)) (Ev.name O' rfl rfl) (Op2.addS (by simp [sizeLine]))
    · rw [h3]
      have : way % 3 = 1 ∨ way % 3 = 2 := by omega
      rcases this with e | e <;> rw [e] <;> rfl
end
end Mine

namespace Mine
section
variable {prog : Program} {w : World} {W : Glob prog w} {C : Act} {σ : Sg} {μ : Mu}

noncomputable def cut (l : List Nat) (i j : Nat) : List Nat := (l.take j).drop i
theorem cut_mem {l : List Nat} {i j c : Nat} (h : c ∈ cut l i j) : c ∈ l := List.mem_of_mem_take (List.mem_of_mem_drop h)
theorem cut_len_le (l : List Nat) (i j : Nat) : (cut l i j).length ≤ l.length := by unfold cut; rw [List.length_drop, List.length_take]; omega

noncomputable abbrev rowD (n : Nat) (T : Nat → Nat → Int) (i : Nat) : List D := (List.range (n - i)).map fun k => D.int (T i k)
noncomputable abbrev tabL (n : Nat) (T : Nat → Nat → Int) : List D := (List.range n).map fun i => D.lst (rowD n T i)
noncomputable abbrev tabD (n : Nat) (T : Nat → Nat → Int) : D := .lst (tabL n T)
theorem row_get {n i k : Nat} {T : Nat → Nat → Int} (h : i + k < n) : (rowD n T i)[k]? = some (.int (T i k)) := by
  unfold rowD; rw [List.getElem?_map, List.getElem?_range (by omega)]; rfl
theorem tab_get {n i : Nat} {T : Nat → Nat → Int} (h : i < n) : (tabL n T)[i]? = some (.lst (rowD n T i)) := by
  unfold tabL; rw [List.getElem?_map, List.getElem?_range h]; rfl
theorem row_len (n i : Nat) (T : Nat → Nat → Int) : (rowD n T i).length = n - i := by simp
theorem tab_len (n : Nat) (T : Nat → Nat → Int) : (tabL n T).length = n := by simp

theorem Ev.cell2 {n i k : Nat} {T : Nat → Nat → Int} {e f g : Expr} {p p' : Pos} (he : Ev W C σ μ e (tabD n T)) (hf : Ev W C σ μ f (.int (i : Int))) (hg : Ev W C σ μ g (.int (k : Int))) (h : i + k < n) (hn : n ≤ 8)
    (hs : ∀ o i, subscripted f false o i = operate [o, i] (getItem o i) := by intro _ _; with_unfolding_all rfl) (hs' : ∀ o i, subscripted g false o i = operate [o, i] (getItem o i) := by intro _ _; with_unfolding_all rfl) :
    Ev W C σ μ (.Subscript (.Subscript e f p) g p') (.int (T i k)) :=
  Ev.sub (Ev.sub he hf (Op2.itemL (by rw [Int.toNat_natCast]; exact tab_get (by omega)) (by omega) (by omega) hs)) hg (Op2.itemL (by rw [Int.toNat_natCast]; exact row_get h) (by omega) (by omega) hs')

theorem Ev.lenPlus {l : List Nat} {x : Expr} {p p' p2 : Pos} {k : Nat} {p3 : Pos} (S : Pr W) (O : C.Ok) (h : Ev W C σ μ x (.str l)) (hl : l.length ≤ 40) (hk : C.env.kindOf "len" = some .globalImplicit := by rfl) (hq : starEach [x] C.env = [x].map (fun e => (false, eval e C.env)) := by rfl) :
    Ev W C σ μ (.BinOp (.Call (.Name "len" p) [x] [] p') .Add (.Constant (.int 1) k p2) p3) (.int ((l.length + 1 : Nat) : Int)) := by
  have := Ev.binop (pos := p3) (Ev.callB (p := p) (pos := p') O hk S.len.1 S.len.2 (Es.cons h Es.nil hq) (OpN.lenS (lenLe hl)) (by intro h; cases h) hq) (Ev.cint (i := 1) (k := k) (pos := p2)) Op2.addI
  simpa using this

theorem leaf_fn (S : Pr W) (word piece : List Nat) (hw : word.length ≤ 3) (hp : piece.length ≤ 2) (hws : ∀ c ∈ word, c ∈ sgn6) (hps : ∀ c ∈ piece, c ∈ sgn6) :
    Fn W (S.f 20) 3 [.str word, .str piece] (tabD (word.length + 1) (fun i k => ed (cut word i (i + k)) piece)) := by
  refine Fn.def_ S 20 ["word", "piece"] (fun A L P bsz pm cd doc O hl => ?_) (by intro pm cd doc vals hv; obtain ⟨x, y, rfl⟩ := len2 hv; rfl)
  refine Exs.assignNew O (.inl rfl) (En.list Es.nil (by decide)) fun r hr => ?_
  refine Exs.cons (K' := fun f σ' μ' => f = .next ∧ Le (sg [("word", .str word), ("piece", .str piece), ("table", .obj r)]) σ' ∧ μ' = [(r, .list (tabL (word.length + 1) (fun i k => ed (cut word i (i + k)) piece)))])
    (Ex1.for_ O (f := fun i σ => upd σ "i" (.int (i : Int)))
      (fun i σ' μ' => Le (sg [("word", .str word), ("piece", .str piece), ("table", .obj r)]) σ' ∧ μ' = [(r, .list ((List.range i).map fun i => D.lst (rowD (word.length + 1) (fun i k => ed (cut word i (i + k)) piece) i)))])
      (Itr.upto S O (n := word.length + 1) (Ev.lenPlus S O (Ev.cellName O rfl rfl rfl) (by omega)) (by omega))
      (fun i μ' => Tgt.name O (.inr ⟨rfl, rfl⟩)) ⟨Le.cons rfl (Le.cons rfl (Le.cons rfl Le.nil)), rfl⟩ ?_ ?_) ?_ ?_
  · rintro i σ' _ hi ⟨hle, rfl⟩
    refine Exs.weaken (hle.upd _ _) ?_
    refine Exs.append O (i := 0) (d := .lst (rowD (word.length + 1) (fun i k => ed (cut word i (i + k)) piece) i)) (Ev.name O rfl rfl) rfl (En.ev (En.comp ?_)) (by simp; unfold sizeLine; omega) ?_
    · refine Cp.one O (cl := [("word", L + 1), ("piece", L + 2), ("i", L + 3)]) (sg [("word", .str word), ("piece", .str piece), ("i", .int (i : Int))]) (Itr.between S O (m := i) (n := word.length + 1) (Ev.cellName O rfl rfl rfl) (Ev.lenPlus S O (Ev.cellName O rfl rfl rfl) (by omega)) (by omega) (by omega)) (by unfold sizeLine; omega) rfl
        (fromOuter.cons rfl (.inl rfl) (fromOuter.cons rfl (.inl rfl) (fromOuter.cons rfl (.inl rfl) fromOuter.nil))) (Le.cons rfl (Le.cons rfl (Le.cons rfl Le.nil))) (sgF_cons rfl (sgF_cons rfl (sgF_cons rfl sgF_nil))) rfl ?_
      intro L' a xs k hk O'
      have hc : slc word (some (i : Int)) (some ((i + k : Nat) : Int)) = cut word i (i + k) := slc_mid word i (i + k) (by omega) (by omega)
      have h1 := cut_len_le word i (i + k)
      have h2 := ed_le (cut word i (i + k)) piece
      refine Ev.fn S O' 13 (lev_fn S (cut word i (i + k)) piece 16 (fun c hc => hws c (cut_mem hc)) hps (by omega) (by omega) (by omega)) hl (Es.cons ?_ (Es.cons (Ev.cellName O' rfl rfl rfl) (Es.cons Ev.cint Es.nil)))
      rw [← hc]
      exact Ev.sliceS (Ev.cellName O' rfl rfl rfl) (Ep.int (Ev.cellName O' rfl rfl rfl)) (Ep.int (Ev.name O' rfl rfl)) (lenLe (by omega))
    · refine Exs.nil ⟨_, Le.cons rfl (Le.cons rfl (Le.cons rfl Le.nil)), Le.refl _, ?_⟩
      rw [List.range_succ, List.map_append]; rfl
  · rintro σ' _ ⟨hle, rfl⟩
    exact ⟨rfl, hle, rfl⟩
  · rintro σ' _ ⟨_, hle, rfl⟩
    refine Exs.weaken hle (Exs.freeze (x := "table") (i := 0) rfl rfl (.inl hr) ?_)
    exact Exs.ret (Ev.name O rfl rfl) (.inl rfl)
  · rintro f _ _ hn ⟨h, _⟩
    exact absurd h hn
end
end Mine

namespace Mine
section
variable {prog : Program} {w : World} {W : Glob prog w} {C : Act} {σ : Sg} {μ : Mu}

noncomputable def eitherT (T U : Nat → Nat → Int) (i k : Nat) : Int := if T i k < U i k then T i k else U i k
noncomputable def bothR (T U : Nat → Nat → Int) (i k : Nat) : Nat → Int
  | 0 => T i 0 + U i k
  | m + 1 => if T i (m + 1) + U (i + (m + 1)) (k - (m + 1)) < bothR T U i k m then T i (m + 1) + U (i + (m + 1)) (k - (m + 1)) else bothR T U i k m
noncomputable def bothT (T U : Nat → Nat → Int) (i k : Nat) : Int := bothR T U i k k

theorem Ev.lenTab {n : Nat} {T : Nat → Nat → Int} {x : Expr} {p p' : Pos} (S : Pr W) (O : C.Ok) (h : Ev W C σ μ x (tabD n T)) (hn : n ≤ 8) (hk : C.env.kindOf "len" = some .globalImplicit := by rfl) (hq : starEach [x] C.env = [x].map (fun e => (false, eval e C.env)) := by rfl) :
    Ev W C σ μ (.Call (.Name "len" p) [x] [] p') (.int (n : Int)) := by
  have := Ev.callB (p := p) (pos := p') O hk S.len.1 S.len.2 (Es.cons h Es.nil hq) (OpN.lenL (by rw [tab_len]; unfold sizeLine; omega)) (by intro h; cases h) hq
  rwa [tab_len] at this
theorem Ev.lenRow {n i : Nat} {T : Nat → Nat → Int} {x : Expr} {p p' : Pos} (S : Pr W) (O : C.Ok) (h : Ev W C σ μ x (.lst (rowD n T i))) (hn : n ≤ 8) (hk : C.env.kindOf "len" = some .globalImplicit := by rfl) (hq : starEach [x] C.env = [x].map (fun e => (false, eval e C.env)) := by rfl) :
    Ev W C σ μ (.Call (.Name "len" p) [x] [] p') (.int ((n - i : Nat) : Int)) := by
  have := Ev.callB (p := p) (pos := p') O hk S.len.1 S.len.2 (Es.cons h Es.nil hq) (OpN.lenL (by rw [row_len]; unfold sizeLine; omega)) (by intro h; cases h) hq
  rwa [row_len] at this
theorem Ev.rowOf {n i : Nat} {T : Nat → Nat → Int} {e f : Expr} {p : Pos} (he : Ev W C σ μ e (tabD n T)) (hf : Ev W C σ μ f (.int (i : Int))) (h : i < n) (hn : n ≤ 8)
    (hs : ∀ o i, subscripted f false o i = operate [o, i] (getItem o i) := by intro _ _; with_unfolding_all rfl) : Ev W C σ μ (.Subscript e f p) (.lst (rowD n T i)) :=
  Ev.sub he hf (Op2.itemL (by rw [Int.toNat_natCast]; exact tab_get h) (by omega) (by omega) hs)

theorem Ev.minus {a b c : Nat} {e f : Expr} {p : Pos} (h : c + b = a) (he : Ev W C σ μ e (.int (a : Int))) (hf : Ev W C σ μ f (.int (b : Int))) : Ev W C σ μ (.BinOp e .Sub f p) (.int (c : Int)) := by
  have := Ev.binop (pos := p) he hf Op2.subI
  rwa [show (a : Int) - (b : Int) = (c : Int) by omega] at this

theorem either_fn (S : Pr W) (n : Nat) (T U : Nat → Nat → Int) (hn : n ≤ 8) : Fn W (S.f 21) 2 [tabD n T, tabD n U] (tabD n (eitherT T U)) := by
  refine Fn.def_ S 21 ["one", "two"] (fun A L P bsz pm cd doc O hl => ?_) (by intro pm cd doc vals hv; obtain ⟨x, y, rfl⟩ := len2 hv; rfl)
  refine Exs.assignNew O (.inl rfl) (En.list Es.nil (by decide)) fun r hr => ?_
  refine Exs.cons (K' := fun f σ' μ' => f = .next ∧ Le (sg [("one", tabD n T), ("two", tabD n U), ("table", .obj r)]) σ' ∧ μ' = [(r, .list (tabL n (eitherT T U)))])
    (Ex1.for_ O (f := fun i σ => upd σ "i" (.int (i : Int)))
      (fun i σ' μ' => Le (sg [("one", tabD n T), ("two", tabD n U), ("table", .obj r)]) σ' ∧ μ' = [(r, .list ((List.range i).map fun i => D.lst (rowD n (eitherT T U) i)))])
      (Itr.upto S O (n := n) (Ev.lenTab S O (Ev.name O rfl rfl) hn) (by omega))
      (fun i μ' => Tgt.name O (.inl rfl)) ⟨Le.cons rfl (Le.cons rfl (Le.cons rfl Le.nil)), rfl⟩ ?_ ?_) ?_ ?_
  · rintro i σ' _ hi ⟨hle, rfl⟩
    refine Exs.weaken (hle.upd _ _) ?_
    refine Exs.assignNew O (.inl rfl) (En.list Es.nil (by decide)) fun r2 hr2 => ?_
    refine Exs.cons (K' := fun f σ' μ' => f = .next ∧ Le (sg [("one", tabD n T), ("two", tabD n U), ("table", .obj r), ("i", .int (i : Int)), ("row", .obj r2)]) σ' ∧ μ' = [(r2, .list (rowD n (eitherT T U) i)), (r, .list ((List.range i).map fun i => D.lst (rowD n (eitherT T U) i)))])
      (Ex1.for_ O (f := fun j σ => upd σ "j" (.int (j : Int)))
        (fun j σ' μ' => Le (sg [("one", tabD n T), ("two", tabD n U), ("table", .obj r), ("i", .int (i : Int)), ("row", .obj r2)]) σ' ∧ μ' = [(r2, .list ((List.range j).map fun k => D.int (eitherT T U i k))), (r, .list ((List.range i).map fun i => D.lst (rowD n (eitherT T U) i)))])
        (Itr.upto S O (n := n - i) (Ev.lenRow S O (Ev.rowOf (Ev.name O rfl rfl) (Ev.name O rfl rfl) hi hn) hn) (by omega))
        (fun i μ' => Tgt.name O (.inl rfl)) ⟨Le.cons rfl (Le.cons rfl (Le.cons rfl (Le.cons rfl (Le.cons rfl Le.nil)))), rfl⟩ ?_ ?_) ?_ ?_
    · rintro j σ' _ hj ⟨hle', rfl⟩
      refine Exs.weaken (hle'.upd _ _) ?_
      have hij : i + j < n := by omega
      refine Exs.append O (i := 0) (d := .int (eitherT T U i j)) (Ev.name O rfl rfl) rfl (Ev.ifexp (Ts.val (Ev.fn S O 1 (lt_fn S (T i j) (U i j)) hl (Es.cons (Ev.cell2 (Ev.name O rfl rfl) (Ev.name O rfl rfl) (Ev.name O rfl rfl) hij hn) (Es.cons (Ev.cell2 (Ev.name O rfl rfl) (Ev.name O rfl rfl) (Ev.name O rfl rfl) hij hn) Es.nil))) Tru.cbool) (fun h => ?_) fun h => ?_) (by simp; unfold sizeLine; omega) ?_
      · have : eitherT T U i j = T i j := by unfold eitherT; rw [if_pos (of_decide_eq_true h)]
        rw [this]
        exact Ev.cell2 (Ev.name O rfl rfl) (Ev.name O rfl rfl) (Ev.name O rfl rfl) hij hn
      · have : eitherT T U i j = U i j := by unfold eitherT; rw [if_neg (of_decide_eq_false h)]
        rw [this]
        exact Ev.cell2 (Ev.name O rfl rfl) (Ev.name O rfl rfl) (Ev.name O rfl rfl) hij hn
      · refine Exs.nil ⟨_, Le.cons rfl (Le.cons rfl (Le.cons rfl (Le.cons rfl (Le.cons rfl Le.nil)))), Le.refl _, ?_⟩
        rw [List.range_succ, List.map_append]; rfl
    · rintro σ' _ ⟨hle', rfl⟩
      exact ⟨rfl, hle', rfl⟩
    · rintro σ' _ ⟨_, hle', rfl⟩
      refine Exs.weaken hle' (Exs.freeze (x := "row") (i := 0) rfl rfl (.inl hr2) ?_)
      refine Exs.append O (i := 0) (Ev.name O rfl rfl) rfl (Ev.name O rfl rfl) (by simp; unfold sizeLine; omega) ?_
      refine Exs.nil ⟨_, Le.cons rfl (Le.cons rfl (Le.cons rfl Le.nil)), Le.refl _, ?_⟩
      rw [List.range_succ, List.map_append]; rfl
    · rintro f _ _ hn ⟨h, _⟩
      exact absurd h hn
  · rintro σ' _ ⟨hle, rfl⟩
    exact ⟨rfl, hle, rfl⟩
  · rintro σ' _ ⟨_, hle, rfl⟩
    refine Exs.weaken hle (Exs.freeze (x := "table") (i := 0) rfl rfl (.inl hr) ?_)
    exact Exs.ret (Ev.name O rfl rfl) (.inl rfl)
  · rintro f _ _ hn ⟨h, _⟩
    exact absurd h hn

theorem both_fn (S : Pr W) (n : Nat) (T U : Nat → Nat → Int) (hn : n ≤ 8) : Fn W (S.f 22) 2 [tabD n T, tabD n U] (tabD n (bothT T U)) := by
  refine Fn.def_ S 22 ["one", "two"] (fun A L P bsz pm cd doc O hl => ?_) (by intro pm cd doc vals hv; obtain ⟨x, y, rfl⟩ := len2 hv; rfl)
  refine Exs.assignNew O (.inl rfl) (En.list Es.nil (by decide)) fun r hr => ?_
  refine Exs.cons (K' := fun f σ' μ' => f = .next ∧ Le (sg [("one", tabD n T), ("two", tabD n U), ("table", .obj r)]) σ' ∧ μ' = [(r, .list (tabL n (bothT T U)))])
    (Ex1.for_ O (f := fun i σ => upd σ "i" (.int (i : Int)))
      (fun i σ' μ' => Le (sg [("one", tabD n T), ("two", tabD n U), ("table", .obj r)]) σ' ∧ μ' = [(r, .list ((List.range i).map fun i => D.lst (rowD n (bothT T U) i)))])
      (Itr.upto S O (n := n) (Ev.lenTab S O (Ev.name O rfl rfl) hn) (by omega))
      (fun i μ' => Tgt.name O (.inl rfl)) ⟨Le.cons rfl (Le.cons rfl (Le.cons rfl Le.nil)), rfl⟩ ?_ ?_) ?_ ?_
  · rintro i σ' _ hi ⟨hle, rfl⟩
    refine Exs.weaken (hle.upd _ _) ?_
    refine Exs.assignNew O (.inl rfl) (En.list Es.nil (by decide)) fun r2 hr2 => ?_
    refine Exs.cons (K' := fun f σ' μ' => f = .next ∧ Le (sg [("one", tabD n T), ("two", tabD n U), ("table", .obj r), ("i", .int (i : Int)), ("row", .obj r2)]) σ' ∧ μ' = [(r2, .list (rowD n (bothT T U) i)), (r, .list ((List.range i).map fun i => D.lst (rowD n (bothT T U) i)))])
      (Ex1.for_ O (f := fun j σ => upd σ "j" (.int ((i + j : Nat) : Int)))
        (fun j σ' μ' => Le (sg [("one", tabD n T), ("two", tabD n U), ("table", .obj r), ("i", .int (i : Int)), ("row", .obj r2)]) σ' ∧ μ' = [(r2, .list ((List.range j).map fun k => D.int (bothT T U i k))), (r, .list ((List.range i).map fun i => D.lst (rowD n (bothT T U) i)))])
        (Itr.between S O (m := i) (n := n) (Ev.name O rfl rfl) (Ev.lenTab S O (Ev.name O rfl rfl) hn) (by omega) (by omega))
        (fun i μ' => Tgt.name O (.inl rfl)) ⟨Le.cons rfl (Le.cons rfl (Le.cons rfl (Le.cons rfl (Le.cons rfl Le.nil)))), rfl⟩ ?_ ?_) ?_ ?_
    · rintro j σ' _ hj ⟨hle', rfl⟩
      refine Exs.weaken (hle'.upd _ _) ?_
      have hij : i + j < n := by omega
      refine Exs.assign O (d := .int (bothR T U i j 0)) (.inl rfl) (Ev.fn S O 3 (addI_fn S (T i 0) (U i j)) hl (Es.cons (Ev.cell2 (k := 0) (Ev.name O rfl rfl) (Ev.name O rfl rfl) Ev.cint (by omega) hn) (Es.cons (Ev.cell2 (Ev.name O rfl rfl) (Ev.name O rfl rfl) (Ev.minus (a := i + j) (b := i) (c := j) (by omega) (Ev.name O rfl rfl) (Ev.name O rfl rfl)) hij hn) Es.nil))) ?_
      refine Exs.cons (K' := fun f σ' μ' => f = .next ∧ Le (sg [("one", tabD n T), ("two", tabD n U), ("table", .obj r), ("i", .int (i : Int)), ("row", .obj r2), ("least", .int (bothT T U i j))]) σ' ∧ μ' = [(r2, .list ((List.range j).map fun k => D.int (bothT T U i k))), (r, .list ((List.range i).map fun i => D.lst (rowD n (bothT T U) i)))])
        (Ex1.for_ O (f := fun t σ => upd σ "k" (.int ((i + 1 + t : Nat) : Int)))
          (fun t σ' μ' => Le (sg [("one", tabD n T), ("two", tabD n U), ("table", .obj r), ("i", .int (i : Int)), ("row", .obj r2), ("j", .int ((i + j : Nat) : Int)), ("least", .int (bothR T U i j t))]) σ' ∧ μ' = [(r2, .list ((List.range j).map fun k => D.int (bothT T U i k))), (r, .list ((List.range i).map fun i => D.lst (rowD n (bothT T U) i)))])
          (Itr.between S O (m := i + 1) (n := i + j + 1) (Ev.binop (Ev.name O rfl rfl) Ev.cint Op2.addI) (Ev.binop (Ev.name O rfl rfl) Ev.cint Op2.addI) (by omega) (by omega))
          (fun i μ' => Tgt.name O (.inl rfl)) ⟨Le.cons rfl (Le.cons rfl (Le.cons rfl (Le.cons rfl (Le.cons rfl (Le.cons rfl (Le.cons rfl Le.nil)))))), rfl⟩ ?_ ?_) ?_ ?_
      · rintro t σ' _ ht ⟨hle'', rfl⟩
        refine Exs.weaken (hle''.upd _ _) ?_
        have htj : t < j := by omega
        have e : i + 1 + t = i + (t + 1) := by omega
        rw [e]
        refine Exs.assign O (.inl rfl) (Ev.fn S O 3 (addI_fn S (T i (t + 1)) (U (i + (t + 1)) (j - (t + 1)))) hl (Es.cons (Ev.cell2 (Ev.name O rfl rfl) (Ev.name O rfl rfl) (Ev.minus (a := i + (t + 1)) (b := i) (c := t + 1) (by omega) (Ev.name O rfl rfl) (Ev.name O rfl rfl)) (by omega) hn)
          (Es.cons (Ev.cell2 (Ev.name O rfl rfl) (Ev.name O rfl rfl) (Ev.minus (a := i + j) (b := i + (t + 1)) (c := j - (t + 1)) (by omega) (Ev.name O rfl rfl) (Ev.name O rfl rfl)) (by omega) hn) Es.nil))) ?_
        refine Exs.ite (Ts.val (Ev.fn S O 1 (lt_fn S _ _) hl (Es.cons (Ev.name O rfl rfl) (Es.cons (Ev.name O rfl rfl) Es.nil))) Tru.cbool) (fun h => ?_) fun h => ?_
        · refine Exs.assign O (.inl rfl) (Ev.name O rfl rfl) (Exs.nil (Exs.nil ⟨_, ?_, Le.refl _, rfl⟩))
          have : bothR T U i j (t + 1) = T i (t + 1) + U (i + (t + 1)) (j - (t + 1)) := by rw [bothR, if_pos (of_decide_eq_true h)]
          rw [this]
          exact Le.cons rfl (Le.cons rfl (Le.cons rfl (Le.cons rfl (Le.cons rfl (Le.cons rfl (Le.cons rfl Le.nil))))))
        · refine Exs.nil (Exs.nil ⟨_, ?_, Le.refl _, rfl⟩)
          have : bothR T U i j (t + 1) = bothR T U i j t := by rw [bothR, if_neg (of_decide_eq_false h)]
          rw [this]
          exact Le.cons rfl (Le.cons rfl (Le.cons rfl (Le.cons rfl (Le.cons rfl (Le.cons rfl (Le.cons rfl Le.nil))))))
      · rintro σ' _ ⟨hle'', rfl⟩
        have e : i + j + 1 - (i + 1) = j := by omega
        rw [e] at hle''
        exact ⟨rfl, Le.trans (Le.cons rfl (Le.cons rfl (Le.cons rfl (Le.cons rfl (Le.cons rfl (Le.cons rfl Le.nil)))))) hle'', rfl⟩
      · rintro σ' _ ⟨_, hle'', rfl⟩
        refine Exs.weaken hle'' (Exs.append O (i := 0) (Ev.name O rfl rfl) rfl (Ev.name O rfl rfl) (by simp; unfold sizeLine; omega) ?_)
        refine Exs.nil ⟨_, Le.cons rfl (Le.cons rfl (Le.cons rfl (Le.cons rfl (Le.cons rfl Le.nil)))), Le.refl _, ?_⟩
        rw [List.range_succ, List.map_append]; rfl
      · rintro f _ _ hn ⟨h, _⟩
        exact absurd h hn
    · rintro σ' _ ⟨hle', rfl⟩
      exact ⟨rfl, hle', rfl⟩
    · rintro σ' _ ⟨_, hle', rfl⟩
      refine Exs.weaken hle' (Exs.freeze (x := "row") (i := 0) rfl rfl (.inl hr2) ?_)
      refine Exs.append O (i := 0) (Ev.name O rfl rfl) rfl (Ev.name O rfl rfl) (by simp; unfold sizeLine; omega) ?_
      refine Exs.nil ⟨_, Le.cons rfl (Le.cons rfl (Le.cons rfl Le.nil)), Le.refl _, ?_⟩
      rw [List.range_succ, List.map_append]; rfl
    · rintro f _ _ hn ⟨h, _⟩
      exact absurd h hn
  · rintro σ' _ ⟨hle, rfl⟩
    exact ⟨rfl, hle, rfl⟩
  · rintro σ' _ ⟨_, hle, rfl⟩
    refine Exs.weaken hle (Exs.freeze (x := "table") (i := 0) rfl rfl (.inl hr) ?_)
    exact Exs.ret (Ev.name O rfl rfl) (.inl rfl)
  · rintro f _ _ hn ⟨h, _⟩
    exact absurd h hn
end
end Mine

namespace Mine
noncomputable def clsBody : List Stmt := match stm 7 with | .ClassDef _ _ _ b _ _ _ _ _ _ _ => b | _ => []
noncomputable def mth (j : Nat) : Stmt := (clsBody[j]?).getD (.Pass default)
noncomputable abbrev mFn (j : Nat) (q : Str) (pm cd doc ct : Value) (an : Option Addr) : FuncData := fnOf (fNm (mth j)) q (fPar (mth j)) (fBody (mth j)) (fSco (mth j)) .none .none doc pm an cd ct
noncomputable def lamOf : Expr := match ((fBody (stm 19))[1]? : Option Stmt) with | some (Stmt.Assign _ e _) => e | _ => Expr.Name "" default
noncomputable def lamPar : Arguments := match lamOf with | .Lambda a _ _ _ => a | _ => ⟨[], [], none, [], [], none, []⟩
noncomputable def lamBody : Expr := match lamOf with | .Lambda _ b _ _ => b | _ => .Name "" default
noncomputable def lamSco : Scope := match lamOf with | .Lambda _ _ s _ => s | _ => default
noncomputable def lamPos : Pos := match lamOf with | .Lambda _ _ _ p => p | _ => default
theorem lamOf_eq : lamOf = .Lambda lamPar lamBody lamSco lamPos := by rfl
noncomputable def lamQ : Str := (("_law_lexer" : Str) ++ ".<locals>.") ++ "<lambda>"
noncomputable abbrev lamObj (c cc : Addr) (pm ctv : Value) : Obj := kla_obj "<lambda>" lamQ lamPar lamBody lamSco [("signs", c)] pm cc ctv

noncomputable def wsL : List Nat := [10, 9, 13, 32]
structure LX where
  S : Addr
  I1 : Addr
  d1 : Addr
  p1 : Addr
  c : Addr
  fn : Addr
  I2 : Addr
  d2 : Addr
  p2 : Addr
  cc : Addr
  oc : Obj
  pm : Value
  ctv : Value
structure LX.Good (X : LX) : Prop where
  oc : ∃ vs t, X.oc.data = .fields vs ∧ vs[1]? = some (.str lamQ t)

noncomputable abbrev chrs (l : List Nat) : List D := l.map fun c => D.chr [c]
noncomputable abbrev lineD (i : Int) (d : D) (p : Addr) : List (Str × D) := [("lineno", .int i), ("instream", d), ("whitespace", .str wsL), ("pushback", .obj p)]
noncomputable abbrev LMr (Cl : Addr) (X : LX) (tot : Int) (rest : List Nat) (push : List D) : Mu :=
  (X.S, .list (chrs rest)) :: (X.I2, .raw (instObj Cl X.d2)) :: (X.d2, .dct (lineD (tot - (rest.count 10 : Nat)) (.obj X.I1) X.p2)) :: (X.p2, .list push) :: (X.I1, .raw (instObj Cl X.d1)) :: (X.d1, .dct [("lineno", .int 1), ("instream", .none), ("whitespace", .str wsL), ("pushback", .obj X.p1), ("read", .obj X.fn)]) :: []
noncomputable abbrev LM (Cl : Addr) (X : LX) (tot : Int) (rest : List Nat) (push : List D) : Mu :=
  (X.c, .cell (.obj X.S)) :: (X.fn, .raw (lamObj X.c X.cc X.pm X.ctv)) :: (X.cc, .raw X.oc) :: LMr Cl X tot rest push
noncomputable abbrev lexMu (Cl : Addr) (X : LX) (tot : Int) (rest : List Nat) (push : List D) : Mu :=
  (X.c, .cell (.obj X.S)) :: (X.fn, .raw (lamObj X.c X.cc X.pm X.ctv)) :: LMr Cl X tot rest push

section
variable {prog : Program} {w : World} {W : Glob prog w} {C : Act} {σ : Sg} {μ : Mu}

structure Meth (Z : Cls W) (j : Nat) (q name : Str) (f : Addr) : Prop where
  fi : findIn Z.K (.ref Z.C) name = some (some (.ref f))
  ft : typeIn Z.K (.ref f) = some (.type "function")
  fn : ∃ pm cd doc ct an, IsFn W f (mFn j q pm cd doc ct an) (fBody (mth j))

structure Lex {prog : Program} {w : World} (W : Glob prog w) where
  S : Pr W
  Z : Cls W
  ini : Addr
  rc : Addr
  gt : Addr
  pt : Addr
  mini : Meth Z 0 "_netrclex.__init__" "__init__" ini
  mrc : Meth Z 1 "_netrclex._read_char" "_read_char" rc
  mgt : Meth Z 2 "_netrclex.get_token" "get_token" gt
  mpt : Meth Z 3 "_netrclex.push_token" "push_token" pt
  rcg : specialIn Z.K (.ref rc) "__get__" = some (some (.builtin "function.__get__"))
  rck : takesIn Z.K (.ref rc) = some false
  mgC : W.mg "_netrclex" = some (.ref Z.C)

theorem Meth.at {Z : Cls W} {j : Nat} {q name : Str} {f : Addr} (m : Meth Z j q name f) : ∀ {h : Heap}, W.G h → FnAt f h := fun hG => by
  obtain ⟨pm, cd, doc, ct, an, h⟩ := m.fn
  exact fnAt (h.obj hG)

theorem FnM.meth {Z : Cls W} {j : Nat} {q name : Str} {f : Addr} (m : Meth Z j q name f) {n : Nat} {ds : List D} {K : D → Mu → Prop} (ps : List Str)
    (h : ∀ (A : Around) (L : Addr) (P : Addr → Prop) (pm cd doc ct : Value) (an : Option Addr), (mkC A (mFn j q pm cd doc ct an) L f P L).Ok → Lvl n A →
      Exs W (mkC A (mFn j q pm cd doc ct an) L f P L) (fun x => (ps.zip ds).lookup x) μ (fBody (mth j)) (fun f _ μ' => ∃ d, (f = .ret d ∨ (f = .next ∧ d = .none)) ∧ K d μ'))
    (hbind : ∀ pm cd doc ct an vals, vals.length = ps.length → bindArgs (mFn j q pm cd doc ct an) ⟨vals, []⟩ = pure (ps.zip vals))
    (hlen : ds.length = ps.length := by rfl)
    (hnd : ps.Nodup := by decide +kernel)
    (hkind : ∀ x ∈ ps, (fSco (mth j)).names.lookup x = some .local ∨ ((fSco (mth j)).names.lookup x = some .cell ∧ ∀ k, ((cellsFrom k (fSco (mth j)).names []).lookup x).isSome = true) := by intro x hx; simp only [List.mem_cons, List.not_mem_nil, or_false] at hx; rcases hx with rfl | rfl | rfl <;> first | exact .inl rfl | exact .inr ⟨rfl, fun _ => rfl⟩)
    (hcnd₀ : (((fSco (mth j)).names.filter (fun x => x.2 == .cell)).map (·.1)).Nodup := by decide +kernel) : FnM W f (n + 1) ds μ K := by
  obtain ⟨pm, cd, doc, ct, an, hf⟩ := m.fn
  exact FnM.of_body ps hf (hbind pm cd doc ct an) hlen (fun A L P => h A L P pm cd doc ct an) hnd hkind hcnd₀

theorem getμ {μ : Mu} {p : Addr × MC} (i : Nat) (h : μ[i]? = some p) : p ∈ μ := List.mem_of_getElem? h

theorem init_fn (Λ : Lex W) (x dx : Addr) (d : D) : FnM W Λ.ini 1 [.obj x, d] [(x, .raw (instObj Λ.Z.C dx)), (dx, .dct [])]
    (fun r μ' => r = .none ∧ ∃ p, μ' = [(p, .list []), (x, .raw (instObj Λ.Z.C dx)), (dx, .dct (lineD 1 d p))]) := by
  refine FnM.meth Λ.mini ["self", "fp"] (fun A L P pm cd doc ct an O hl => ?_) (by intro pm cd doc ct an vals hv; obtain ⟨x, y, rfl⟩ := len2 hv; rfl)
  refine Exs.setAttr Λ.Z O (i := 1) Ev.cint (Ev.name O rfl rfl) (getμ 0 rfl) rfl ?_
  refine Exs.setAttr Λ.Z O (i := 1) (Ev.name O rfl rfl) (Ev.name O rfl rfl) (getμ 0 rfl) rfl ?_
  refine Exs.setAttr Λ.Z O (i := 1) (Ev.ofChr (Ev.cstr (l := wsL) rfl)) (Ev.name O rfl rfl) (getμ 0 rfl) rfl ?_
  refine Exs.setAttrM Λ.Z O (EvM.new (En.list Es.nil (by decide))) (by decide) fun e μ' => ?_
  rintro ⟨p, rfl, rfl⟩
  refine ⟨x, dx, _, 2, Ev.name O rfl rfl, getμ 1 rfl, rfl, Nat.le_of_ble_eq_true rfl, ?_⟩
  exact Exs.nil ⟨.none, .inr ⟨rfl, rfl⟩, rfl, p, rfl⟩

theorem read_fn {X : LX} (hX : X.Good) (rest : List Nat) (hlen : rest.length ≤ 1000) : FnM W X.fn 1 [.int 1] [(X.c, .cell (.obj X.S)), (X.fn, .raw (lamObj X.c X.cc X.pm X.ctv)), (X.cc, .raw X.oc), (X.S, .list (chrs rest))]
    (fun d μ' => d = .chr (rest.take 1) ∧ μ' = [(X.c, .cell (.obj X.S)), (X.fn, .raw (lamObj X.c X.cc X.pm X.ctv)), (X.cc, .raw X.oc), (X.S, .list (chrs (rest.drop 1)))]) := by
  obtain ⟨vs, t, h1, h2⟩ := hX.oc
  refine FnM.lam (y := "size") h1 h2 (fun v => by rfl) (by decide) rfl rfl fun A L P O hl => ?_
  have hsz : (chrs rest).length ≤ sizeLine := by simp; unfold sizeLine; omega
  refine EvM.ifexp (Ts.val (Ev.freeName O rfl (by with_unfolding_all rfl) rfl) (Tru.lstM (i := 2) rfl hsz)) (fun h => ?_) fun h => ?_
  · cases rest with
    | nil => simp at h
    | cons c r =>
      refine (EvM.pop0 O (i := 2) (d := .chr [c]) (ds := chrs r) (Ev.freeName O rfl (by with_unfolding_all rfl) rfl) rfl (by simp at hsz ⊢; omega)).conseq fun d μ' => ?_
      rintro ⟨rfl, rfl⟩
      exact ⟨rfl, rfl⟩
  · cases rest with
    | cons c r => simp at h
    | nil =>
      refine (EvM.of (Ev.cstr (l := []) rfl)).conseq fun d μ' => ?_
      rintro ⟨rfl, rfl⟩
      exact ⟨rfl, rfl⟩
end
end Mine

namespace Mine
section
variable {prog : Program} {w : World} {W : Glob prog w} {C : Act} {σ : Sg} {μ : Mu}

theorem Op2.iaddChr {x y : List Nat} (hsz : x.length + y.length ≤ sizeLine) : Op2 W C σ μ (inplaceOp .Add) (.chr x) (.chr y) (.chr (x ++ y)) := by
  rintro s Q E _ _ R ⟨t, rfl, t0, t1⟩ ⟨u, rfl, u0, u1⟩ hQ
  refine P.iadd_str ?_
  rw [len_mk, len_mk]
  cases x with
  | nil => exact hQ _ s (Mv.refl _ _) ⟨u, rfl, u0, u1⟩
  | cons a r =>
    cases y with
    | nil => rw [List.append_nil] at hQ; exact hQ _ s (Mv.refl _ _) ⟨t, rfl, t0, t1⟩
    | cons b q =>
      refine ⟨?_, ?_⟩
      · rw [mk_append, len_mk, List.length_append]; exact hsz
      · rw [mk_append]; exact hQ _ _ (Stp.tk (Nat.le_succ _)) ⟨_, rfl, R.tpos, Nat.lt_succ_self _⟩

theorem Exs.cont {pos : Pos} {rest : List Stmt} {K : FD → Sg → Mu → Prop} (h : K .cont σ μ) : Exs W C σ μ (.Continue pos :: rest) K := by
  refine Exs.cons (K' := fun f σ' μ' => f = .cont ∧ σ' = σ ∧ μ' = μ) ?_ (fun _ _ ⟨z, _⟩ => nomatch z) (fun f σ' μ' _ ⟨a, b, c⟩ => a ▸ b ▸ c ▸ h)
  exact ⟨fun s Q E R hQ => wpAny_Continue (hQ .cont .cont σ μ s ⟨rfl, rfl, rfl⟩ R (Mv.refl _ _) (fun a ha => .inl ha) rfl)⟩

theorem rc_fn (Λ : Lex W) {X : LX} (hX : X.Good) (tot : Int) (rest : List Nat) (push : List D) (hlen : rest.length ≤ 1000) : FnM W Λ.rc 3 [.obj X.I2] (LM Λ.Z.C X tot rest push)
    (fun d μ' => d = .chr (rest.take 1) ∧ μ' = LM Λ.Z.C X tot (rest.drop 1) push) := by
  refine FnM.meth Λ.mrc ["self"] (fun A L P pm cd doc ct an O hl => ?_) (by intro pm cd doc ct an vals hv; obtain ⟨x, rfl⟩ := len1 hv; rfl)
  have hin : ∀ {σ : Sg} {p p' : Pos} {rest' : List Nat} {push' : List D} {tot' : Int}, Ev W (mkC A (mFn 1 "_netrclex._read_char" pm cd doc ct an) L Λ.rc P L) σ (LM Λ.Z.C X tot' rest' push') (.Name "self" p) (.obj X.I2) →
      Ev W (mkC A (mFn 1 "_netrclex._read_char" pm cd doc ct an) L Λ.rc P L) σ (LM Λ.Z.C X tot' rest' push') (.Attribute (.Name "self" p) "instream" p') (.obj X.I1) := fun h =>
    Ev.attr Λ.Z h (getμ 4 rfl) (getμ 5 rfl) (by decide) rfl
  refine Exs.assignM O (.inl rfl) (EvM.ownCall (K' := fun d μ' => d = .chr (rest.take 1) ∧ μ' = (X.c, .cell (.obj X.S)) :: (X.fn, .raw (lamObj X.c X.cc X.pm X.ctv)) :: (X.cc, .raw X.oc) :: (X.S, .list (chrs (rest.drop 1))) :: (LMr Λ.Z.C X tot rest push).drop 1) (n := 1) Λ.Z O (hin (Ev.name O rfl rfl)) (getμ 7 rfl) (getμ 8 rfl) (by decide) rfl (getμ 1 rfl) rfl (Es.cons Ev.cint Es.nil) (hl.le (by omega))
    ⟨[(X.c, .cell (.obj X.S)), (X.fn, .raw (lamObj X.c X.cc X.pm X.ctv)), (X.cc, .raw X.oc), (X.S, .list (chrs rest))], (LMr Λ.Z.C X tot rest push).drop 1, _, List.Perm.refl _, read_fn hX rest hlen, fun d μ' ⟨a, b⟩ => ⟨a, by rw [b]; rfl⟩⟩) ?_
  rintro d μ' ⟨rfl, rfl⟩
  refine Exs.ite (Ts.cmp (Ev.ofChr (Ev.name O rfl rfl)) (Ev.ofChr (Ev.cstr (l := [10]) rfl)) Op2.eqS) (fun h => ?_) fun h => ?_
  · have h1 : rest.take 1 = [10] := eq_of_beq h
    have h2 : rest.count 10 = (rest.drop 1).count 10 + 1 := by
      cases rest with
      | nil => cases h1
      | cons c r => simp at h1; subst h1; simp
    refine Exs.augAttr Λ.Z O (i := 5) (Ev.name O rfl rfl) (getμ 4 rfl) rfl rfl Ev.cint Op2.iaddI (Exs.nil (Exs.ret (Ev.name O rfl rfl) ⟨_, .inl rfl, rfl, ?_⟩))
    have e : tot - (rest.count 10 : Nat) + 1 = tot - ((rest.drop 1).count 10 : Nat) := by omega
    show (X.c, _) :: (X.fn, _) :: (X.cc, _) :: (X.S, _) :: (X.I2, _) :: (X.d2, MC.dct (lineD (tot - (rest.count 10 : Nat) + 1) (.obj X.I1) X.p2)) :: _ = _
    rw [e]
  · have h1 : ¬ rest.take 1 = [10] := fun z => by rw [z] at h; simp at h
    have h2 : rest.count 10 = (rest.drop 1).count 10 := by
      cases rest with
      | nil => rfl
      | cons c r => simp at h1; simp [h1]
    refine Exs.nil (Exs.ret (Ev.name O rfl rfl) ⟨_, .inl rfl, rfl, ?_⟩)
    show (X.c, _) :: (X.fn, _) :: (X.cc, _) :: (X.S, _) :: (X.I2, _) :: (X.d2, MC.dct (lineD (tot - (rest.count 10 : Nat)) (.obj X.I1) X.p2)) :: _ = _
    rw [h2]

theorem pt_fn (Λ : Lex W) {X : LX} (tot : Int) (rest : List Nat) (push : List D) (d : D) (hlen : push.length ≤ 1000) : FnM W Λ.pt 1 [.obj X.I2, d] (LM Λ.Z.C X tot rest push)
    (fun r μ' => r = .none ∧ μ' = LM Λ.Z.C X tot rest (push ++ [d])) := by
  refine FnM.meth Λ.mpt ["self", "token"] (fun A L P pm cd doc ct an O hl => ?_) (by intro pm cd doc ct an vals hv; obtain ⟨x, y, rfl⟩ := len2 hv; rfl)
  refine Exs.append O (i := 6) (Ev.attr Λ.Z (Ev.name O rfl rfl) (getμ 4 rfl) (getμ 5 rfl) (by decide) rfl) rfl (Ev.name O rfl rfl) (by unfold sizeLine; omega) ?_
  exact Exs.nil ⟨.none, .inr ⟨rfl, rfl⟩, rfl, rfl⟩

theorem gt_push (Λ : Lex W) {X : LX} (tot : Int) (rest : List Nat) (push : List D) (d : D) (hlen : push.length ≤ 1000) : FnM W Λ.gt 1 [.obj X.I2] (LM Λ.Z.C X tot rest (d :: push))
    (fun r μ' => r = d ∧ μ' = LM Λ.Z.C X tot rest push) := by
  refine FnM.meth Λ.mgt ["self"] (fun A L P pm cd doc ct an O hl => ?_) (by intro pm cd doc ct an vals hv; obtain ⟨x, rfl⟩ := len1 hv; rfl)
  refine Exs.ite (c := true) (Ts.val (Ev.attr Λ.Z (Ev.name O rfl rfl) (getμ 4 rfl) (getμ 5 rfl) (by decide) rfl) (Tru.lstM (i := 6) (xs := d :: push) rfl (by simp; unfold sizeLine; omega))) (fun _ => ?_) (fun h => nomatch h)
  refine Exs.retM (EvM.pop0 O (i := 6) (Ev.attr Λ.Z (Ev.name O rfl rfl) (getμ 4 rfl) (getμ 5 rfl) (by decide) rfl) rfl (by unfold sizeLine; omega)) fun d' μ' => ?_
  rintro ⟨rfl, rfl⟩
  exact ⟨_, .inl rfl, rfl, rfl⟩

noncomputable def qTok : List Nat → Option (List Nat × List Nat)
  | [] => none
  | c :: r => if c = 34 then some ([], r) else if c = 92 then (match r with | [] => none | d :: r' => (qTok r').map fun p => (d :: p.1, p.2)) else (qTok r).map fun p => (c :: p.1, p.2)
noncomputable def bTok : List Nat → Option (List Nat × List Nat)
  | [] => none
  | c :: r => if c ∈ wsL then some ([], r) else if c = 92 then (match r with | [] => none | d :: r' => (bTok r').map fun p => (d :: p.1, p.2)) else (bTok r).map fun p => (c :: p.1, p.2)
noncomputable def tokF : List Nat → Option (List Nat × List Nat)
  | [] => some ([], [])
  | c :: r => if c ∈ wsL then tokF r else if c = 34 then qTok r else if c = 92 then (match r with | [] => none | d :: r' => (bTok r').map fun p => (d :: p.1, p.2)) else (bTok r).map fun p => (c :: p.1, p.2)

theorem qTok_len : ∀ (r : List Nat) {t q : List Nat}, qTok r = some (t, q) → t.length + q.length ≤ r.length
  | [], _, _, h => by cases h
  | [c], _, _, h => by
    unfold qTok at h
    split at h
    · cases h; simp
    · split at h
      · cases h
      · simp [qTok] at h
  | c :: d :: r, _, _, h => by
    rw [qTok] at h
    split at h
    · cases h; simp
    · split at h
      · obtain ⟨p, hp, e⟩ := Option.map_eq_some_iff.mp h
        cases e
        have := qTok_len r hp
        simp; omega
      · obtain ⟨p, hp, e⟩ := Option.map_eq_some_iff.mp h
        cases e
        have := qTok_len (d :: r) hp
        simp at this ⊢; omega
theorem bTok_len : ∀ (r : List Nat) {t q : List Nat}, bTok r = some (t, q) → t.length + q.length ≤ r.length
  | [], _, _, h => by cases h
  | [c], _, _, h => by
    unfold bTok at h
    split at h
    · cases h; simp
    · split at h
      · cases h
      · simp [bTok] at h
  | c :: d :: r, _, _, h => by
    rw [bTok] at h
    split at h
    · cases h; simp
    · split at h
      · obtain ⟨p, hp, e⟩ := Option.map_eq_some_iff.mp h
        cases e
        have := bTok_len r hp
        simp; omega
      · obtain ⟨p, hp, e⟩ := Option.map_eq_some_iff.mp h
        cases e
        have := bTok_len (d :: r) hp
        simp at this ⊢; omega
end
end Mine

namespace Mine
section
variable {prog : Program} {w : World} {W : Glob prog w} {σ : Sg} {μ : Mu}

noncomputable abbrev itMu (It m f x : Addr) (t : Tok) : Mu := [(It, .raw (citObj (.ref m) (.str ⟨([] : List Nat).toArray⟩ t) (.bool false))), (m, .raw (methodObj (.ref f) (.ref x)))]
noncomputable abbrev gC (A : Around) (Λ : Lex W) (pm cd doc ct : Value) (an : Option Addr) (L : Addr) (P : Addr → Prop) : Act := mkC A (mFn 2 "_netrclex.get_token" pm cd doc ct an) L Λ.gt P L
noncomputable abbrev gS (X : LX) (It : Addr) (tk : List Nat) : Sg := sg [("self", .obj X.I2), ("token", .chr tk), ("fiter", .obj It)]
noncomputable abbrev gM (Λ : Lex W) (X : LX) (tot : Int) (rest : List Nat) (It m : Addr) (t : Tok) : Mu := LM Λ.Z.C X tot rest [] ++ itMu It m Λ.rc X.I2 t

variable {A : Around} {Λ : Lex W} {X : LX} {pm cd doc ct : Value} {an : Option Addr} {L : Addr} {P : Addr → Prop} {It m : Addr} {t : Tok} {tot : Int}

theorem g_next (O : (gC A Λ pm cd doc ct an L P).Ok) (hl : Lvl 5 A) (hX : X.Good) {c : Nat} {r : List Nat} (hlen : (c :: r).length ≤ 1000) : NextM W (gC A Λ pm cd doc ct an L P) σ (gM Λ X tot (c :: r) It m t) It (some (.chr [c])) (gM Λ X tot r It m t) := by
  obtain ⟨pm', cd', doc', ct', an', hf⟩ := Λ.mrc.fn
  exact NextM.item (n := 3) O (List.Perm.refl _) (getμ 0 rfl) (getμ 1 rfl) hf.obj (hl.le (by omega)) (rc_fn Λ hX tot (c :: r) [] hlen) (by simp)
theorem g_stop (O : (gC A Λ pm cd doc ct an L P).Ok) (hl : Lvl 5 A) (hX : X.Good) : NextM W (gC A Λ pm cd doc ct an L P) σ (gM Λ X tot [] It m t) It none (LM Λ.Z.C X tot [] [] ++ [(m, .raw (methodObj (.ref Λ.rc) (.ref X.I2)))]) := by
  obtain ⟨pm', cd', doc', ct', an', hf⟩ := Λ.mrc.fn
  exact NextM.stop (n := 3) O (List.Perm.refl _) (getμ 0 rfl) hf.obj (hl.le (by omega)) (rc_fn Λ hX tot [] [] (by simp))
theorem g_read (O : (gC A Λ pm cd doc ct an L P).Ok) (hl : Lvl 5 A) (hX : X.Good) {c : Nat} {r : List Nat} (hlen : (c :: r).length ≤ 1000) {p ap pos : Pos} (hs : Ev W (gC A Λ pm cd doc ct an L P) σ (gM Λ X tot (c :: r) It m t) (.Name "self" p) (.obj X.I2)) (hline : (ap.endLine == pos.line) = true) :
    EvM W (gC A Λ pm cd doc ct an L P) σ (gM Λ X tot (c :: r) It m t) (.Call (.Attribute (.Name "self" p) "_read_char" ap) [] [] pos) (fun d μ' => d = .chr [c] ∧ μ' = gM Λ X tot r It m t) :=
  EvM.meth0 (n := 3) Λ.Z O hs (getμ 4 rfl) (getμ 5 rfl) rfl Λ.mrc.fi Λ.mrc.ft Λ.mrc.at (hl.le (by omega))
    ⟨_, itMu It m Λ.rc X.I2 t, _, List.Perm.refl _, rc_fn Λ hX tot (c :: r) [] hlen, fun d μ' ⟨a, b⟩ => ⟨a, by rw [b]; rfl⟩⟩ rfl rfl hline
theorem g_ws (O : (gC A Λ pm cd doc ct an L P).Ok) {rest : List Nat} {p ap : Pos} (hs : Ev W (gC A Λ pm cd doc ct an L P) σ (gM Λ X tot rest It m t) (.Name "self" p) (.obj X.I2)) :
    Ev W (gC A Λ pm cd doc ct an L P) σ (gM Λ X tot rest It m t) (.Attribute (.Name "self" p) "whitespace" ap) (.str wsL) :=
  Ev.attr Λ.Z hs (getμ 4 rfl) (getμ 5 rfl) (by decide) rfl

theorem two_len {c d : Nat} {r : List Nat} (h : (c :: d :: r).length ≤ 1000) : (d :: r).length ≤ 1000 := by simp at h ⊢; omega

theorem g_quoted (O : (gC A Λ pm cd doc ct an L P).Ok) (hl : Lvl 5 A) (hX : X.Good) {r₀ T q : List Nat} (hlen : r₀.length ≤ 1000) (hq : qTok r₀ = some (T, q))
    {px pi pos p1 p2 p3 p4 p5 p6 p7 p8 p9 p10 p11 p12 p13 p14 p15 p18 p19 p20 : Pos} {k1 k2 : Nat} (hline : (p10.endLine == p11.line) = true)
    {K : FD → Sg → Mu → Prop} (hK : ∀ σ', K (.ret (.chr T)) σ' (gM Λ X tot q It m t)) :
    Ex1 W (gC A Λ pm cd doc ct an L P) (gS X It []) (gM Λ X tot r₀ It m t)
      (.For (.Name "ch" px) (.Name "fiter" pi)
        [.If (.Compare (.Name "ch" p1) [.Eq] [.Constant (.str "\"") k1 p2] p3) [.Return (some (.Name "token" p4)) p5]
          [.If (.Compare (.Name "ch" p6) [.Eq] [.Constant (.str "\\") k2 p7] p8) [.Assign [.Name "ch" p9] (.Call (.Attribute (.Name "self" p12) "_read_char" p10) [] [] p11) p13] [] p14] p15,
         .AugAssign (.Name "token" p18) .Add (.Name "ch" p19) p20] [] pos) K := by
  refine Ex1.forCall O (fun k σ' μ' => ∃ t0 r t1, k = r.length ∧ r.length ≤ 1000 ∧ t0.length + r.length ≤ 1000 ∧ qTok r = some (t1, q) ∧ t0 ++ t1 = T ∧ Le (gS X It t0) σ' ∧ μ' = gM Λ X tot r It m t) r₀.length (.inl rfl) (Ev.name O rfl rfl) (getμ 9 rfl) ⟨[], r₀, T, rfl, hlen, by simpa using hlen, hq, rfl, Le.refl _, rfl⟩ ?_
  rintro k σ' μ' ⟨t0, r, t1, rfl, hr, hb, hq', rfl, hle, rfl⟩
  cases r with
  | nil => cases hq'
  | cons c r =>
    refine ⟨some (.chr [c]), gM Λ X tot r It m t, g_next O hl hX hr, ?_⟩
    refine Exs.weaken (hle.upd _ _) ?_
    refine Exs.ite (Ts.cmp (Ev.ofChr (Ev.name O rfl rfl)) (Ev.ofChr (Ev.cstr (l := [34]) rfl)) Op2.eqS) (fun h => ?_) fun h => ?_
    · have hc : c = 34 := by have := eq_of_beq h; simpa using this
      subst hc
      have e : qTok (34 :: r) = some ([], r) := by rw [qTok.eq_def]; rfl
      rw [e] at hq'
      cases hq'
      rw [List.append_nil]
      exact Exs.ret (Ev.name O rfl rfl) (by rw [List.append_nil] at hK; exact hK _)
    have hc : ¬ c = 34 := fun z => by subst z; simp at h
    refine Exs.ite (Ts.cmp (Ev.ofChr (Ev.name O rfl rfl)) (Ev.ofChr (Ev.cstr (l := [92]) rfl)) Op2.eqS) (fun h2 => ?_) fun h2 => ?_
    · have hc2 : c = 92 := by have := eq_of_beq h2; simpa using this
      subst hc2
      cases r with
      | nil => rw [qTok.eq_def] at hq'; simp at hq'
      | cons d r' =>
        have e : qTok (92 :: d :: r') = (qTok r').map fun p => (d :: p.1, p.2) := by rw [qTok.eq_def]; simp
        rw [e] at hq'
        obtain ⟨⟨t2, q2⟩, hp, e2⟩ := Option.map_eq_some_iff.mp hq'
        cases e2
        refine Exs.assignM O (.inl rfl) (g_read O hl hX (two_len hr) (Ev.name O rfl rfl) hline) ?_
        rintro _ _ ⟨rfl, rfl⟩
        refine Exs.nil (Exs.nil (Exs.aug O rfl rfl (Ev.name O rfl rfl) (Op2.iaddChr (by simp at hb ⊢; unfold sizeLine; omega)) (Exs.nil ?_)))
        refine ⟨r'.length, gS X It (t0 ++ [d]), by simp; omega, ?_, t0 ++ [d], r', t2, rfl, by simp at hr; omega, by simp at hb ⊢; omega, hp, by simp, Le.refl _, rfl⟩
        exact Le.cons rfl (Le.cons rfl (Le.cons rfl Le.nil))
    · have hc2 : ¬ c = 92 := fun z => by subst z; simp at h2
      have e : qTok (c :: r) = (qTok r).map fun p => (c :: p.1, p.2) := by rw [qTok.eq_def]; simp only; rw [if_neg hc, if_neg hc2]
      rw [e] at hq'
      obtain ⟨⟨t2, q2⟩, hp, e2⟩ := Option.map_eq_some_iff.mp hq'
      cases e2
      refine Exs.nil (Exs.nil (Exs.aug O rfl rfl (Ev.name O rfl rfl) (Op2.iaddChr (by simp at hb ⊢; unfold sizeLine; omega)) (Exs.nil ?_)))
      refine ⟨r.length, gS X It (t0 ++ [c]), by simp, ?_, t0 ++ [c], r, t2, rfl, by simp at hr; omega, by simp at hb ⊢; omega, hp, by simp, Le.refl _, rfl⟩
      exact Le.cons rfl (Le.cons rfl (Le.cons rfl Le.nil))

theorem g_bare (O : (gC A Λ pm cd doc ct an L P).Ok) (hl : Lvl 5 A) (hX : X.Good) {r₀ t₀ T q : List Nat} (hlen : r₀.length ≤ 1000) (hlen0 : t₀.length + r₀.length ≤ 1000) {T₁ : List Nat} (hq : bTok r₀ = some (T₁, q)) (hT : t₀ ++ T₁ = T)
    {px pi pos p1 p2 p3 p4 p5 p6 p7 p8 p9 p10 p11 p12 p13 p14 p15 p16 p17 p19 p20 : Pos} {k2 : Nat} (hline : (p10.endLine == p11.line) = true)
    {K : FD → Sg → Mu → Prop} (hK : ∀ σ', K (.ret (.chr T)) σ' (gM Λ X tot q It m t)) :
    Ex1 W (gC A Λ pm cd doc ct an L P) (gS X It t₀) (gM Λ X tot r₀ It m t)
      (.For (.Name "ch" px) (.Name "fiter" pi)
        [.If (.Compare (.Name "ch" p1) [.In] [.Attribute (.Name "self" p16) "whitespace" p2] p3) [.Return (some (.Name "token" p4)) p5]
          [.If (.Compare (.Name "ch" p6) [.Eq] [.Constant (.str "\\") k2 p7] p8) [.Assign [.Name "ch" p9] (.Call (.Attribute (.Name "self" p12) "_read_char" p10) [] [] p11) p13] [] p14] p15,
         .AugAssign (.Name "token" p17) .Add (.Name "ch" p19) p20] [] pos) K := by
  refine Ex1.forCall O (fun k σ' μ' => ∃ t0 r t1, k = r.length ∧ r.length ≤ 1000 ∧ t0.length + r.length ≤ 1000 ∧ bTok r = some (t1, q) ∧ t0 ++ t1 = T ∧ Le (gS X It t0) σ' ∧ μ' = gM Λ X tot r It m t) r₀.length (.inl rfl) (Ev.name O rfl rfl) (getμ 9 rfl) ⟨t₀, r₀, T₁, rfl, hlen, hlen0, hq, hT, Le.refl _, rfl⟩ ?_
  rintro k σ' μ' ⟨t0, r, t1, rfl, hr, hb, hq', rfl, hle, rfl⟩
  cases r with
  | nil => cases hq'
  | cons c r =>
    refine ⟨some (.chr [c]), gM Λ X tot r It m t, g_next O hl hX hr, ?_⟩
    refine Exs.weaken (hle.upd _ _) ?_
    refine Exs.ite (Ts.cmp (Ev.ofChr (Ev.name O rfl rfl)) (g_ws O (Ev.name O rfl rfl)) Op2.inS) (fun h => ?_) fun h => ?_
    · have hc : c ∈ wsL := of_decide_eq_true h
      have e : bTok (c :: r) = some ([], r) := by rw [bTok.eq_def]; simp only; rw [if_pos hc]
      rw [e] at hq'
      cases hq'
      rw [List.append_nil]
      exact Exs.ret (Ev.name O rfl rfl) (by rw [List.append_nil] at hK; exact hK _)
    have hc : ¬ c ∈ wsL := of_decide_eq_false h
    refine Exs.ite (Ts.cmp (Ev.ofChr (Ev.name O rfl rfl)) (Ev.ofChr (Ev.cstr (l := [92]) rfl)) Op2.eqS) (fun h2 => ?_) fun h2 => ?_
    · have hc2 : c = 92 := by have := eq_of_beq h2; simpa using this
      subst hc2
      cases r with
      | nil => rw [bTok.eq_def] at hq'; simp [hc] at hq'
      | cons d r' =>
        have e : bTok (92 :: d :: r') = (bTok r').map fun p => (d :: p.1, p.2) := by rw [bTok.eq_def]; simp [hc]
        rw [e] at hq'
        obtain ⟨⟨t2, q2⟩, hp, e2⟩ := Option.map_eq_some_iff.mp hq'
        cases e2
        refine Exs.assignM O (.inl rfl) (g_read O hl hX (two_len hr) (Ev.name O rfl rfl) hline) ?_
        rintro _ _ ⟨rfl, rfl⟩
        refine Exs.nil (Exs.nil (Exs.aug O rfl rfl (Ev.name O rfl rfl) (Op2.iaddChr (by simp at hb ⊢; unfold sizeLine; omega)) (Exs.nil ?_)))
        refine ⟨r'.length, gS X It (t0 ++ [d]), by simp; omega, ?_, t0 ++ [d], r', t2, rfl, by simp at hr; omega, by simp at hb ⊢; omega, hp, by simp, Le.refl _, rfl⟩
        exact Le.cons rfl (Le.cons rfl (Le.cons rfl Le.nil))
    · have hc2 : ¬ c = 92 := fun z => by subst z; simp at h2
      have e : bTok (c :: r) = (bTok r).map fun p => (c :: p.1, p.2) := by rw [bTok.eq_def]; simp only; rw [if_neg hc, if_neg hc2]
      rw [e] at hq'
      obtain ⟨⟨t2, q2⟩, hp, e2⟩ := Option.map_eq_some_iff.mp hq'
      cases e2
      refine Exs.nil (Exs.nil (Exs.aug O rfl rfl (Ev.name O rfl rfl) (Op2.iaddChr (by simp at hb ⊢; unfold sizeLine; omega)) (Exs.nil ?_)))
      refine ⟨r.length, gS X It (t0 ++ [c]), by simp, ?_, t0 ++ [c], r, t2, rfl, by simp at hr; omega, by simp at hb ⊢; omega, hp, by simp, Le.refl _, rfl⟩
      exact Le.cons rfl (Le.cons rfl (Le.cons rfl Le.nil))
end

section
variable {prog : Program} {w : World} {W : Glob prog w}
theorem gt_read (Λ : Lex W) {X : LX} (hX : X.Good) (tot : Int) (rest : List Nat) {T q : List Nat} (hlen : rest.length ≤ 1000) (ht : tokF rest = some (T, q)) : FnM W Λ.gt 6 [.obj X.I2] (LM Λ.Z.C X tot rest [])
    (fun r μ' => r = .chr T ∧ μ' = LM Λ.Z.C X tot q []) := by
  refine FnM.drop (FnM.meth Λ.mgt ["self"] (fun A L P pm cd doc ct an O hl => ?_) (by intro pm cd doc ct an vals hv; obtain ⟨x, rfl⟩ := len1 hv; rfl))
  refine Exs.ite (c := false) (Ts.val (Ev.attr Λ.Z (Ev.name O rfl rfl) (getμ 4 rfl) (getμ 5 rfl) (by decide) rfl) (Tru.lstM (i := 6) (xs := []) rfl (by decide))) (fun h => nomatch h) (fun _ => ?_)
  refine Exs.nil (Exs.assign O (.inl rfl) (Ev.cstr (l := []) rfl) ?_)
  refine Exs.assignM O (.inl rfl) (EvM.iter (zl := []) Λ.Z O rfl rfl Λ.S.iter.1 Λ.S.iter.2 (Ev.name O rfl rfl) (getμ 4 rfl) (getμ 5 rfl) rfl Λ.mrc.fi Λ.mrc.ft Λ.rcg Λ.rck (by decide +kernel)) ?_
  rintro _ _ ⟨m, It, t, rfl, rfl⟩
  have hperm : ((It, MC.raw (citObj (.ref m) (.str ⟨([] : List Nat).toArray⟩ t) (.bool false))) :: (m, MC.raw (methodObj (.ref Λ.rc) (.ref X.I2))) :: LM Λ.Z.C X tot rest []).Perm (gM Λ X tot rest It m t) := List.perm_append_comm (l₁ := itMu It m Λ.rc X.I2 t)
  refine Exs.perm hperm (Exs.weaken (σ' := gS X It []) (Le.cons rfl (Le.cons rfl (Le.cons rfl Le.nil))) ?_)
  have fin : ∀ q', (gM Λ X tot q' It m t).Perm (itMu It m Λ.rc X.I2 t ++ LM Λ.Z.C X tot q' []) := fun q' => List.perm_append_comm
  refine Exs.cons (K' := fun f σ' μ' => (f = .ret (.chr T) ∧ μ' = gM Λ X tot q It m t) ∨ (f = .next ∧ T = [] ∧ q = [] ∧ Le (gS X It []) σ' ∧ μ' = LM Λ.Z.C X tot [] [] ++ [(m, .raw (methodObj (.ref Λ.rc) (.ref X.I2)))]))
    (Ex1.forCall O (fun k σ' μ' => ∃ r, k = r.length ∧ r.length ≤ 1000 ∧ tokF r = some (T, q) ∧ Le (gS X It []) σ' ∧ μ' = gM Λ X tot r It m t) rest.length (.inl rfl) (Ev.name O rfl rfl) (getμ 9 rfl) ⟨rest, rfl, hlen, ht, Le.refl _, rfl⟩ ?_) ?_ ?_
  · rintro k σ' μ' ⟨r, rfl, hr, ht', hle, rfl⟩
    cases r with
    | nil =>
      cases ht'
      exact ⟨none, _, g_stop O hl hX, .inr ⟨rfl, rfl, rfl, hle, rfl⟩⟩
    | cons c r =>
      refine ⟨some (.chr [c]), gM Λ X tot r It m t, g_next O hl hX hr, ?_⟩
      refine Exs.weaken (hle.upd _ _) ?_
      have hr' : r.length ≤ 1000 := by simp at hr; omega
      refine Exs.ite (Ts.cmp (Ev.ofChr (Ev.name O rfl rfl)) (g_ws O (Ev.name O rfl rfl)) Op2.inS) (fun h => ?_) fun h => ?_
      · have hc : c ∈ wsL := of_decide_eq_true h
        have e : tokF (c :: r) = tokF r := by rw [tokF.eq_def]; simp only; rw [if_pos hc]
        refine Exs.cont ⟨r.length, gS X It [], by simp, Le.cons rfl (Le.cons rfl (Le.cons rfl Le.nil)), r, rfl, hr', by rw [← e]; exact ht', Le.refl _, rfl⟩
      have hc : ¬ c ∈ wsL := of_decide_eq_false h
      refine Exs.nil (Exs.ite (Ts.cmp (Ev.ofChr (Ev.name O rfl rfl)) (Ev.ofChr (Ev.cstr (l := [34]) rfl)) Op2.eqS) (fun h2 => ?_) fun h2 => ?_)
      · have hc2 : c = 34 := by have := eq_of_beq h2; simpa using this
        subst hc2
        have e : tokF (34 :: r) = qTok r := by rw [tokF.eq_def]; simp [hc]
        rw [e] at ht'
        refine Exs.weaken (σ' := gS X It []) (Le.cons rfl (Le.cons rfl (Le.cons rfl Le.nil))) ?_
        refine Exs.cons (K' := fun f σ' μ' => f = .ret (.chr T) ∧ μ' = gM Λ X tot q It m t) (g_quoted O hl hX hr' ht' rfl fun σ' => ⟨rfl, rfl⟩) (fun _ _ ⟨z, _⟩ => nomatch z) ?_
        rintro f σ' μ' _ ⟨rfl, rfl⟩
        exact .inl ⟨rfl, rfl⟩
      · have hc2 : ¬ c = 34 := fun z => by subst z; simp at h2
        refine Exs.ite (Ts.cmp (Ev.ofChr (Ev.name O rfl rfl)) (Ev.ofChr (Ev.cstr (l := [92]) rfl)) Op2.eqS) (fun h3 => ?_) fun h3 => ?_
        · have hc3 : c = 92 := by have := eq_of_beq h3; simpa using this
          subst hc3
          cases r with
          | nil => rw [tokF.eq_def] at ht'; simp [hc] at ht'
          | cons d r' =>
            have e : tokF (92 :: d :: r') = (bTok r').map fun p => (d :: p.1, p.2) := by rw [tokF.eq_def]; simp [hc]
            rw [e] at ht'
            obtain ⟨⟨t2, q2⟩, hp, e2⟩ := Option.map_eq_some_iff.mp ht'
            cases e2
            refine Exs.assignM O (.inl rfl) (g_read O hl hX (two_len hr) (Ev.name O rfl rfl) rfl) ?_
            rintro _ _ ⟨rfl, rfl⟩
            refine Exs.nil (Exs.aug O rfl rfl (Ev.name O rfl rfl) (Op2.iaddChr (by simp; unfold sizeLine; omega)) ?_)
            refine Exs.weaken (σ' := gS X It [d]) (Le.cons rfl (Le.cons rfl (Le.cons rfl Le.nil))) ?_
            refine Exs.cons (K' := fun f σ' μ' => f = .ret (.chr (d :: t2)) ∧ μ' = gM Λ X tot q2 It m t) (g_bare O hl hX (by simp at hr; omega) (by simp at hr ⊢; omega) hp rfl rfl fun σ' => ⟨rfl, rfl⟩) (fun _ _ ⟨z, _⟩ => nomatch z) ?_
            rintro f σ' μ' _ ⟨rfl, rfl⟩
            exact .inl ⟨rfl, rfl⟩
        · have hc3 : ¬ c = 92 := fun z => by subst z; simp at h3
          have e : tokF (c :: r) = (bTok r).map fun p => (c :: p.1, p.2) := by rw [tokF.eq_def]; simp only; rw [if_neg hc, if_neg hc2, if_neg hc3]
          rw [e] at ht'
          obtain ⟨⟨t2, q2⟩, hp, e2⟩ := Option.map_eq_some_iff.mp ht'
          cases e2
          refine Exs.nil (Exs.aug O rfl rfl (Ev.name O rfl rfl) (Op2.iaddChr (by simp; unfold sizeLine; omega)) ?_)
          refine Exs.weaken (σ' := gS X It [c]) (Le.cons rfl (Le.cons rfl (Le.cons rfl Le.nil))) ?_
          refine Exs.cons (K' := fun f σ' μ' => f = .ret (.chr (c :: t2)) ∧ μ' = gM Λ X tot q2 It m t) (g_bare O hl hX hr' (by simp at hr ⊢; omega) hp rfl rfl fun σ' => ⟨rfl, rfl⟩) (fun _ _ ⟨z, _⟩ => nomatch z) ?_
          rintro f σ' μ' _ ⟨rfl, rfl⟩
          exact .inl ⟨rfl, rfl⟩
  · rintro σ' μ' (⟨z, _⟩ | ⟨_, rfl, rfl, hle, rfl⟩)
    · cases z
    · refine Exs.weaken hle (Exs.ret (Ev.name O rfl rfl) ⟨_, .inl rfl, [(m, .raw (methodObj (.ref Λ.rc) (.ref X.I2)))], LM Λ.Z.C X tot [] [], List.perm_append_comm, rfl, rfl⟩)
  · rintro f σ' μ' hn (⟨rfl, rfl⟩ | ⟨z, _⟩)
    · exact ⟨_, .inl rfl, itMu It m Λ.rc X.I2 t, LM Λ.Z.C X tot q [], fin q, rfl, rfl⟩
    · exact absurd z hn
end
end Mine

namespace Mine
theorem perm_by {α : Type} (is : List Nat) (d : α) {l l' : List α} (n : Nat) (hn : l.length = n) (h : is.Perm (List.range n)) (e : is.map (fun i => l[i]?.getD d) = l') : l.Perm l' := by
  subst hn
  rw [← e]
  have h1 : (List.range l.length).map (fun i => l[i]?.getD d) = l := by
    apply List.ext_getElem?
    intro i
    rw [List.getElem?_map]
    by_cases hi : i < l.length
    · rw [List.getElem?_range hi, List.getElem?_eq_getElem hi]; simp [List.getElem?_eq_getElem hi]
    · rw [List.getElem?_eq_none (l := List.range l.length) (by simpa using hi), List.getElem?_eq_none (by simpa using hi)]; rfl
  have := (h.map (fun i => l[i]?.getD d)).symm
  rwa [h1] at this
noncomputable abbrev dμ : Addr × MC := (0, .list [])

section
variable {prog : Program} {w : World} {W : Glob prog w}
structure LexDef {prog : Program} {w : World} {W : Glob prog w} (Λ : Lex W) where
  T : Addr
  ex : ∃ pm doc c, IsDef W (Λ.S.f 19) (fNm (stm 19)) (fPar (stm 19)) (fBody (stm 19)) (fSco (stm 19)) pm (.ref c) doc ∧ ∀ {h : Heap}, W.G h → CodeHd h c T
  bat : ∀ {h : Heap}, W.G h → h.BuiltinsAt W.mg T
  gne : mainGlobals ≠ T

noncomputable abbrev tab1 (cc : Addr) : Obj := tabObj (#[] ++ #[rawInt lamPos.line, rawInt lamPos.col, .ref cc])

theorem make_K {C : Act} {σ : Sg} {μ : Mu} (Λ : Lex W) (O : C.Ok) {p pos : Pos} {e : Expr} {d₁ : D} (hk : C.env.kindOf "_netrclex" = some .globalImplicit) (he : Ev W C σ μ e d₁) (hl : Lvl 2 C.A)
    (hq : starEach [e] C.env = [e].map (fun e => (false, eval e C.env)) := by rfl) :
    EvM W C σ μ (.Call (.Name "_netrclex" p) [e] [] pos) (fun d μ' => ∃ x dx q, d = .obj x ∧ μ' = (q, .list []) :: (x, .raw (instObj Λ.Z.C dx)) :: (dx, .dct (lineD 1 d₁ q)) :: μ) := by
  refine EvM.make (n := 1) Λ.Z O hk Λ.mgC Λ.mini.fi Λ.mini.ft he hl (fun x dx => ⟨_, init_fn Λ x dx d₁, fun d μ' => ?_⟩) hq
  rintro ⟨rfl, q, rfl⟩
  exact ⟨rfl, x, dx, q, rfl, rfl⟩

theorem lexer_first (Λ : Lex W) (Δ : LexDef Λ) (Sg : Addr) (rest : List Nat) : FnM W (Λ.S.f 19) 3 [.obj Sg] [(Sg, .list (chrs rest)), (Δ.T, .raw (tabObj #[]))]
    (fun d μ' => ∃ X : LX, X.Good ∧ X.S = Sg ∧ d = .obj X.I2 ∧ μ' = lexMu Λ.Z.C X (1 + (rest.count 10 : Nat)) rest [] ++ [(X.cc, .raw X.oc), (Δ.T, .raw (tab1 X.cc))]) := by
  obtain ⟨pm, doc, c, hd, hc⟩ := Δ.ex
  refine FnM.drop (FnM.of_body_cell ["signs"] "signs" hd.isFn (by intro vals hv; obtain ⟨x, rfl⟩ := len1 hv; rfl) rfl (fun A L P O hl => ?_) rfl (fun _ => rfl) (hcnd₀ := (by decide +kernel : (((fSco (stm 19)).names.filter (fun x => x.2 == .cell)).map (·.1)).Nodup)))
  refine Exs.assignM O (.inl rfl) (make_K Λ O rfl Ev.cnone hl) ?_
  rintro _ _ ⟨I1, d1, p1, rfl, rfl⟩
  have hlam := EvM.lambda (W := W) (C := mkC A (Calls.docDef (fNm (stm 19)) (fPar (stm 19)) (fBody (stm 19)) (fSco (stm 19)) pm (.ref c) doc) L (Λ.S.f 19) P L) (σ := upd (fun x => ([("signs" : Str)].zip [D.obj Sg]).lookup x) "stream" (.obj I1)) (μ := [(p1, .list []), (I1, .raw (instObj Λ.Z.C d1)), (d1, .dct (lineD 1 .none p1)), (Sg, .list (chrs rest)), (Δ.T, .raw (tabObj #[]))])
    (params := lamPar) (body := lamBody) (scope := lamSco) (pos := lamPos) (clos := [("signs", L + 1)]) (ps := #[]) O rfl rfl hc Δ.bat Δ.gne (i := 4) rfl trivial rfl rfl
  refine Exs.setAttrM Λ.Z O hlam (by decide) ?_
  rintro _ _ ⟨fn, cc, oc, vs, t, ctv, pm', rfl, h1, h2, rfl⟩
  refine ⟨I1, d1, _, 4, Ev.name O rfl rfl, getμ 3 rfl, rfl, Nat.le_of_ble_eq_true rfl, ?_⟩
  refine Exs.retM (make_K Λ O rfl (Ev.name O rfl rfl) hl) ?_
  rintro _ _ ⟨I2, d2, p2, rfl, rfl⟩
  refine ⟨I2, Sg, rfl, rfl, [(p1, .list [])], _, ?_, ⟨Sg, I1, d1, p1, L + 1, fn, I2, d2, p2, cc, oc, pm', ctv⟩, ⟨vs, t, h1, h2⟩, rfl, rfl, rfl⟩
  have e : (1 : Int) + (rest.count 10 : Nat) - (rest.count 10 : Nat) = 1 := by omega
  simp only [lexMu, LMr]
  rw [e]
  exact perm_by [6, 0, 4, 9, 2, 3, 1, 7, 8, 5, 10] dμ 11 rfl (by decide) rfl

theorem lexer_again (Λ : Lex W) (Δ : LexDef Λ) (Sg : Addr) (rest : List Nat) (Y : LX) (hY : Y.Good) : FnM W (Λ.S.f 19) 3 [.obj Sg] [(Sg, .list (chrs rest)), (Y.cc, .raw Y.oc), (Δ.T, .raw (tab1 Y.cc))]
    (fun d μ' => ∃ X : LX, X.Good ∧ X.S = Sg ∧ X.cc = Y.cc ∧ X.oc = Y.oc ∧ d = .obj X.I2 ∧ μ' = lexMu Λ.Z.C X (1 + (rest.count 10 : Nat)) rest [] ++ [(Y.cc, .raw Y.oc), (Δ.T, .raw (tab1 Y.cc))]) := by
  obtain ⟨pm, doc, c, hd, hc⟩ := Δ.ex
  refine FnM.drop (FnM.of_body_cell ["signs"] "signs" hd.isFn (by intro vals hv; obtain ⟨x, rfl⟩ := len1 hv; rfl) rfl (fun A L P O hl => ?_) rfl (fun _ => rfl) (hcnd₀ := (by decide +kernel : (((fSco (stm 19)).names.filter (fun x => x.2 == .cell)).map (·.1)).Nodup)))
  refine Exs.assignM O (.inl rfl) (make_K Λ O rfl Ev.cnone hl) ?_
  rintro _ _ ⟨I1, d1, p1, rfl, rfl⟩
  have hlam := EvM.lambdaHit (W := W) (C := mkC A (Calls.docDef (fNm (stm 19)) (fPar (stm 19)) (fBody (stm 19)) (fSco (stm 19)) pm (.ref c) doc) L (Λ.S.f 19) P L) (σ := upd (fun x => ([("signs" : Str)].zip [D.obj Sg]).lookup x) "stream" (.obj I1)) (μ := [(p1, .list []), (I1, .raw (instObj Λ.Z.C d1)), (d1, .dct (lineD 1 .none p1)), (Sg, .list (chrs rest)), (Y.cc, .raw Y.oc), (Δ.T, .raw (tab1 Y.cc))])
    (params := lamPar) (body := lamBody) (scope := lamSco) (pos := lamPos) (clos := [("signs", L + 1)]) (ps := #[] ++ #[rawInt lamPos.line, rawInt lamPos.col, .ref Y.cc]) O rfl rfl hc Δ.bat (getμ 5 rfl) trivial rfl rfl
  refine Exs.setAttrM Λ.Z O hlam (by decide) ?_
  rintro _ _ ⟨fn, ctv, pm', rfl, rfl⟩
  refine ⟨I1, d1, _, 3, Ev.name O rfl rfl, getμ 2 rfl, rfl, Nat.le_of_ble_eq_true rfl, ?_⟩
  refine Exs.retM (make_K Λ O rfl (Ev.name O rfl rfl) hl) ?_
  rintro _ _ ⟨I2, d2, p2, rfl, rfl⟩
  obtain ⟨vs, t, h1, h2⟩ := hY.oc
  refine ⟨I2, Sg, rfl, rfl, [(p1, .list [])], _, ?_, ⟨Sg, I1, d1, p1, L + 1, fn, I2, d2, p2, Y.cc, Y.oc, pm', ctv⟩, ⟨vs, t, h1, h2⟩, rfl, rfl, rfl, rfl, rfl⟩
  have e : (1 : Int) + (rest.count 10 : Nat) - (rest.count 10 : Nat) = 1 := by omega
  simp only [lexMu, LMr]
  rw [e]
  exact perm_by [5, 0, 4, 8, 2, 3, 1, 6, 7, 9, 10] dμ 11 rfl (by decide) rfl
end
end Mine

namespace Mine
theorem chrs_any {P P' : Addr → Prop} {k k' : Nat} {h h' : Heap} (hk : k ≤ k') : ∀ {l : List Nat} {vs : List Value}, VRs P k h (chrs l) vs → VRs P' k' h' (chrs l) vs
  | [], _, x => by cases x; exact VRs.nil
  | c :: l, _, x => by
    obtain ⟨v, vs', rfl, ⟨t, e, a, b⟩, r⟩ := x
    exact ⟨v, vs', rfl, ⟨t, e, a, Nat.lt_of_lt_of_le b hk⟩, chrs_any hk r⟩

section
variable {prog : Program} {w : World} {A : Around} {E : Value → Shared → Prop} {R : Result → Shared → Prop}
theorem extend_loopT (hh : A.in1.handled = none) (l : List Nat) (t : Tok) (I S : Addr) (hne : S ≠ I) (res : Value) (hl : l.length ≤ sizeLine) : ∀ (k i : Nat) (s : Shared) (acc : Array Value) (c : Nat), l.length - i = k → i ≤ l.length →
    s.heap.IsStrIter I "str_ascii_iterator" ⟨l.toArray⟩ t i → s.heap.get? S = some { cls := .type "list", dict := none, data := .seq acc c, slots := #[] } → VRs (fun _ => True) s.toks s.heap (chrs (l.take i)) acc.toList → 0 < s.toks →
    (∀ s' acc' c', (∀ b o, b ≠ S → b ≠ I → s.heap.get? b = some o → s'.heap.get? b = some o) → s.heap.objs.size ≤ s'.heap.objs.size → s'.gens = s.gens → s'.drawn = s.drawn → s'.os = s.os → s.toks ≤ s'.toks →
      s'.heap.get? S = some { cls := .type "list", dict := none, data := .seq acc' c', slots := #[] } → VRs (fun _ => True) s'.toks s'.heap (chrs l) acc'.toList → R (.ok (.ret res)) s') →
    codeAny (model prog w) A (.builtin "list.extend.loop" ⟨[.ref S, .ref I, res], []⟩) R s := by
  intro k
  induction k with
  | zero =>
    intro i s acc c hk hi hst hS hacc htk hR
    have hin : i = l.length := by omega
    subst hin
    refine codeAny_builtin F.entry_extend_loop ?_
    rw [Around.under_plainId F.plain_extend_loop _]
    show wpAny _ A.in1 (pyNext (.ref I) >>= _) _ _ s
    refine wpAny_bind (wpAny_gr (wpAny_pyNext_ascii_end hh hst (by simp) fun h' he gt gs => ?_))
    rw [List.take_length] at hacc
    exact wpAny_pure (hR _ acc c (fun b o hb hbI e => he b o hbI e) gs rfl rfl rfl (Nat.le_refl _) (he S _ hne hS) (chrs_any (Nat.le_refl _) hacc))
  | succ k ih =>
    intro i s acc c hk hi hst hS hacc htk hR
    have hlt : i < l.length := by omega
    have hlen := hacc.length
    have hasz : acc.size = i := by simpa [Nat.min_eq_left hi] using hlen
    refine codeAny_builtin F.entry_extend_loop ?_
    rw [Around.under_plainId F.plain_extend_loop _]
    show wpAny _ A.in1 (pyNext (.ref I) >>= _) _ _ s
    refine wpAny_bind (wpAny_pyNext_ascii_item hst (c := l[i]) (by simp [hlt]) fun h' hst' hs' => ?_)
    have hS' := hs'.2 S hne ▸ hS
    show wpAny _ A.in1 (updateSeq S (·.push _) >>= _) _ _ _
    refine wpAny_bind ?_
    have hk2 : ∀ b o, b ≠ S → b ≠ I → s.heap.get? b = some o → (h'.update S (Obj.mapSeq (·.push (.str ⟨#[l[i]]⟩ s.toks)))).get? b = some o := fun b o hb hbI e => (Heap.get?_update_other _ _ (Ne.symm hb)).trans (hs'.extBut b o hbI e)
    have hz : (h'.update S (Obj.mapSeq (·.push (.str ⟨#[l[i]]⟩ s.toks)))).objs.size = s.heap.objs.size := by rw [Heap.size_after_update, hs'.1]
    refine wpAny_updateSeq hS' rfl (wpAny_pure ⟨plainId_quiet F.plain_extend_loop _, ih (i + 1) _ (acc.push (.str ⟨#[l[i]]⟩ s.toks)) _ (by omega) hlt ?_ (Heap.get?_update_self _ hS' rfl) ?_ (Nat.succ_pos _) fun s'' acc' c' hm hsz hg hd ho ht hS'' hacc' => ?_⟩)
      (by rw [hasz]; omega) (by show (acc.push _).size ≤ sizeLine + 1; rw [Array.size_push, hasz]; omega)
    · obtain ⟨o, ho, r⟩ := hst'
      exact ⟨o, (Heap.get?_update_other _ _ hne).trans ho, r⟩
    · rw [Array.toList_push, List.take_add_one, List.getElem?_eq_getElem hlt]
      show VRs _ _ _ ((l.take i ++ [l[i]]).map fun c => D.chr [c]) _
      rw [List.map_append]
      exact VRs.append (chrs_any (Nat.le_succ _) hacc) (VRs.one ⟨s.toks, rfl, htk, Nat.lt_succ_self _⟩)
    · refine hR s'' acc' c' (fun b o hb hbI e => hm b o hb hbI (hk2 b o hb hbI e)) (by have h2 : (h'.update S (Obj.mapSeq (·.push (.str ⟨#[l[i]]⟩ s.toks)))).objs.size ≤ s''.heap.objs.size := hsz; omega) hg hd ho (Nat.le_of_succ_le ht) hS'' hacc'

theorem list_init_strT {s : Shared} (hh : A.handled = none) (l : List Nat) (ha : ∀ c ∈ l, c < 128) (t : Tok) (S : Addr) (hS : s.heap.get? S = some { cls := .type "list", data := .seq #[] }) (hl : l.length ≤ sizeLine) (htk : 0 < s.toks)
    (hR : ∀ s' acc' c', (∀ b o, b ≠ S → s.heap.get? b = some o → s'.heap.get? b = some o) → s.heap.objs.size ≤ s'.heap.objs.size → s'.gens = s.gens → s'.drawn = s.drawn → s'.os = s.os → s.toks ≤ s'.toks → s'.heap.get? S = some { cls := .type "list", dict := none, data := .seq acc' c', slots := #[] } →
      VRs (fun _ => True) s'.toks s'.heap (chrs l) acc'.toList → R (.ok (.ret .none)) s') :
    wpAny (model prog w) A.in1 (Builtin.«list.__init__» ⟨[.ref S, .str ⟨l.toArray⟩ t], []⟩)
      (fun fin s' => match fin with | .done f => R (.ok f) s' | .again c' => c'.quiet = true ∧ codeAny (model prog w) A c' R s') (fun e s' => R (.error e) s') s := by
  show wpAny _ _ (do let old ← Builtin.List.listItems (.ref S); Builtin.List.listUpdate (.ref S) (fun _ => #[]); letGo old.toList.reverse; Builtin.List.listExtendWith (.ref S) (.str ⟨l.toArray⟩ t) .none) _ _ s
  refine wpAny_bind ?_
  unfold Builtin.List.listItems
  refine wpAny_bind (wpAny_seqItems hS rfl (wpAny_pure ?_))
  show wpAny _ _ (updateSeq S (fun _ => #[]) >>= fun _ => letGo (#[] : Array Value).toList.reverse >>= fun _ => Builtin.List.listExtendWith (.ref S) (.str ⟨l.toArray⟩ t) .none) _ _ s
  refine wpAny_bind (wpAny_updateSeq hS rfl ?_)
  have hS₂ := Heap.get?_update_self (Obj.mapSeq (fun _ => (#[] : Array Value))) hS rfl
  have oth : ∀ b o, b ≠ S → s.heap.get? b = some o → (s.heap.update S (Obj.mapSeq (fun _ => (#[] : Array Value)))).get? b = some o :=
    fun b o hb e => (Heap.get?_update_other _ _ (Ne.symm hb)).trans e
  have hz₂ : (s.heap.update S (Obj.mapSeq (fun _ => (#[] : Array Value)))).objs.size = s.heap.objs.size := Heap.size_after_update ..
  refine wpAny_bind (wpAny_letGo ?_)
  generalize hH : s.heap.update S (Obj.mapSeq (fun _ => (#[] : Array Value))) = H at hS₂ oth hz₂
  have hSI : S ≠ H.objs.size := Nat.ne_of_lt (Heap.lt_size hS₂)
  unfold Builtin.List.listExtendWith
  refine wpAny_bind (wpAny_typeOf (T := "str") (v := .str ⟨l.toArray⟩ t) rfl ?_)
  have h1 : Builtin.List.listSameRef (.ref S) (.str ⟨l.toArray⟩ t) = false := rfl
  have h2 : (Value.type "str" == Value.type "list") = false := by decide
  have h3 : (Value.type "str" == Value.type "tuple") = false := by decide
  simp only [h1, h2, h3, Bool.or_false, Bool.false_eq_true, if_false]
  refine wpAny_bind (wpAny_pyIter_ascii (by simp [List.all_eq_true]; exact ha) ?_)
  refine wpAny_bind (wpAny_holding ?_)
  unfold Builtin.List.listLengthHint
  refine wpAny_bind (wpAny_specialOf (T := "str") (v := .str ⟨l.toArray⟩ t) rfl F.str_len ?_)
  wp_delta
  refine wpAny_bind (wpAny_isInstance (T := "str") (v := .str ⟨l.toArray⟩ t) (b := true) rfl (by rw [isSubtype_type]; kernel_rfl) ?_)
  show wpAny _ _ (typeOf (Value.str ⟨l.toArray⟩ t) >>= _) _ _ _
  refine wpAny_bind (wpAny_typeOf (T := "str") (v := .str ⟨l.toArray⟩ t) rfl ?_)
  refine wpAny_pure ?_
  rw [if_neg (by decide)]
  refine wpAny_pure ⟨plainId_quiet F.plain_extend_loop _, extend_loopT hh l t H.objs.size S hSI _ hl l.length 0 _ _ _ rfl (Nat.zero_le _) ⟨_, Heap.get?_push_size _ rfl, rfl, rfl⟩ (Heap.get?_push_of_some _ hS₂) VRs.nil htk fun s' acc' c' hm hsz hg hd ho ht hS' hacc => ?_⟩
  refine hR s' acc' c' (fun b o hb e => hm b o hb (Nat.ne_of_lt (Heap.lt_size (oth b o hb e))) (Heap.get?_push_of_some _ (oth b o hb e))) ?_ hg hd ho ht hS' hacc
  have h5 : (H.push { cls := .type "str_ascii_iterator", data := .fields #[.str ⟨l.toArray⟩ t, .int 0 0] }).objs.size ≤ s'.heap.objs.size := hsz
  rw [Heap.size_push] at h5
  omega

theorem call_list_strT {s : Shared} {Q : Value → Shared → Prop} (hh : A.handled = none) (l : List Nat) (ha : ∀ c ∈ l, c < 128) (t : Tok) (hl : l.length ≤ sizeLine) (htk : 0 < s.toks)
    (hQ : ∀ s' acc', Stp s s' → LstAt s'.heap s.heap.objs.size acc' → VRs (fun _ => True) s'.toks s'.heap (chrs l) acc'.toList → Q (.ref s.heap.objs.size) s') :
    wpAny (model prog w) A (call (.type "list") [.str ⟨l.toArray⟩ t]) Q E s := by
  refine callType_codes (Q₁ := fun obj s₁ => obj = .ref s.heap.objs.size ∧ s₁ = { s with heap := s.heap.push { cls := .type "list", data := .seq #[] } }) F.called_list (F.typeCall_list_1 _) F.entry_list_init
    (code_list_new _ ⟨rfl, rfl⟩) fun obj s₁ h₁ => ?_
  obtain ⟨rfl, rfl⟩ := h₁
  have hS : (s.heap.push { cls := .type "list", data := .seq #[] }).get? s.heap.objs.size = some { cls := .type "list", data := .seq #[] } := Heap.get?_push_size _ rfl
  refine ⟨⟨_, hS, rfl⟩, F.args_list_init_2 _ _, list_init_strT (A := A.in1) hh l ha t _ hS hl htk fun s' acc' c' hk hsz hg hd ho ht hS' hacc => ?_⟩
  refine ⟨rfl, hQ s' acc' ⟨fun b o e _ => hk b o (Nat.ne_of_lt (Heap.lt_size e)) (Heap.get?_push_of_some _ e), ?_, hg, hd, ho, ht⟩ ⟨c', hS'⟩ hacc⟩
  have h5 : (s.heap.push { cls := .type "list", data := .seq #[] }).objs.size ≤ s'.heap.objs.size := hsz
  rw [Heap.size_push] at h5
  omega
end

section
variable {prog : Program} {w : World} {W : Glob prog w} {C : Act} {σ : Sg} {μ : Mu}
theorem En.listStr (O : C.Ok) {f : Str} {p pos : Pos} {e : Expr} {l : List Nat} (ha : ∀ c ∈ l, c < 128) (hl : l.length ≤ sizeLine) (hk : C.env.kindOf f = some .globalImplicit) (hm : W.mg f = none) (hb : W.mb f = some (.type "list"))
    (he : Ev W C σ μ e (.str l))
    (hq : starEach [e] C.env = [(false, eval e C.env)] := by rfl) (hd : (f == ("__debug__" : Str)) = false := by decide) : En W C σ μ (.Call (.Name f p) [e] [] pos) (chrs l) := by
  refine ⟨fun s Q E R hQ => ?_⟩
  refine wpAny_Call_NameR (wp_builtin O R hk hm hb ?_ hd)
  have hse : backTo pos (starEach [e] C.env) = [(false, eval e C.env)] := by rw [hq]; rfl
  rw [hse]
  refine PySem.callWith_type rfl (Calls.evalArgs_plain (Calls.spliced_cons (he.run s _ _ R fun v s₁ y₁ x₁ => Calls.spliced_nil ?_)))
  obtain ⟨t, rfl⟩ := x₁
  have R₁ := R.step y₁
  refine call_list_strT O.hand l ha t hl R₁.tpos fun s' acc' y' hl' hv => ?_
  exact hQ _ acc' s' (y₁.trans y') y₁.size hl' (chrs_any (Nat.le_refl _) hv)
end
end Mine

namespace Mine
noncomputable abbrev enO (v0 v2 v3 v5 : Value) : Obj := { cls := .type "enumerate", dict := none, data := .fields #[v0, .bool false, v2, v3, .none, v5], slots := #[] }
structure EnSt (h₀ h : Heap) (e it : Addr) (x : Str) (t : Tok) (i : Nat) (o : Obj) : Prop where
  en : h.get? e = some o
  st : h.IsStrIter it "str_ascii_iterator" x t i
  old : ∀ b o, b ≠ e → b ≠ it → h₀.get? b = some o → h.get? b = some o
theorem EnSt.turn {h₀ h h' : Heap} {e it : Addr} {x : Str} {t : Tok} {i : Nat} {o o' : Obj} (S : EnSt h₀ h e it x t i o) (hne : e ≠ it) (g : h'.get? e = some o') (hs : Heap.SameBut e h h') : EnSt h₀ h' e it x t i o' := by
  obtain ⟨p, hp, r⟩ := S.st
  exact ⟨g, ⟨p, (hs.2 it hne.symm).trans hp, r⟩, fun b o hb hb' q => hs.extBut b o hb (S.old b o hb hb' q)⟩

section
variable {prog : Program} {w : World} {A : Around} {E : Value → Shared → Prop} {s : Shared}
theorem enum_next {e it : Addr} {x : Str} {t : Tok} {i c : Nat} {v5 : Value} {Q : Option Value → Shared → Prop} (S : EnSt s.heap s.heap e it x t i (enO .none (.ref it) (rawInt i) v5)) (hne : e ≠ it) (hx : x.cps[i]? = some c)
    (hQ : ∀ h' v5, EnSt s.heap h' e it x t (i + 1) (enO (rawInt s.heap.objs.size) (.ref it) (rawInt ((i : Int) + 1)) v5) → h'.objs.size = s.heap.objs.size + 1 →
      h'.get? s.heap.objs.size = some { cls := .type "tuple", data := .seq #[.int i (s.toks + 1), .str ⟨#[c]⟩ s.toks] } → Q (some (.ref s.heap.objs.size)) { s with heap := h', toks := s.toks + 2 }) :
    wpAny (model prog w) A (pyNext (.ref e)) Q E s := by
  have hT : s.TypeIs (.ref e) "enumerate" := ⟨_, S.en, rfl⟩
  have hel : e < s.heap.objs.size := Heap.lt_size S.en
  unfold pyNext
  refine wpAny_bind (wpAny_attempt (wpAny_callSpecial?_slot (name := Str.ofString "__next__") hT F.slot_enumerate_next (wpAny_call_entry F.slot_enumerate_next hT F.entry_enumerate_next ?_ (F.args_enumerate_next_1 _))))
  show wpAny _ _ (field (.ref e) 2 >>= _) _ _ s
  refine wpAny_bind (wpAny_field S.en rfl (x := .ref it) rfl (wpAny_bind (wpAny_nextOf_ascii_item S.st hx fun h₁ i₁ s₁ => ?_)))
  have S₁ : EnSt s.heap h₁ e it x t (i + 1) (enO .none (.ref it) (rawInt i) v5) := ⟨(s₁.2 e hne).trans S.en, i₁, fun b o hb hb' q => s₁.extBut b o hb' q⟩
  refine wpAny_bind (wpAny_field S₁.en rfl (x := rawInt i) rfl ?_)
  dsimp only [rawInt]
  refine wpAny_bind (wpAny_field S₁.en rfl (x := .none) rfl ?_)
  show wpAny _ _ (mkInt i >>= _) _ _ _
  refine wpAny_bind (wpAny_mkInt (wpAny_bind (wpAny_setField_rec S₁.en (by simp) fun h₂ g₂ s₂ => wpAny_bind (wpAny_setField_rec g₂ (by simp) fun h₃ g₃ s₃ => wpAny_bind (wpAny_newTuple ?_)))))
  have S₃ := (S₁.turn hne g₂ s₂).turn hne g₃ s₃
  have z₃ : h₃.objs.size = s.heap.objs.size := by
    have e1 : h₁.objs.size = s.heap.objs.size := s₁.1
    have e2 : h₂.objs.size = h₁.objs.size := s₂.1
    have e3 : h₃.objs.size = h₂.objs.size := s₃.1
    omega
  generalize hh₄ : h₃.push { cls := .type "tuple", data := .seq #[.int i (s.toks + 1), .str ⟨#[c]⟩ s.toks] } = h₄
  have z₄ : h₄.objs.size = s.heap.objs.size + 1 := by rw [← hh₄, Heap.size_push, z₃]
  have t₄ : h₄.get? s.heap.objs.size = some { cls := .type "tuple", data := .seq #[.int i (s.toks + 1), .str ⟨#[c]⟩ s.toks] } := by rw [← hh₄, ← z₃]; exact Heap.get?_push_size _ rfl
  have S₄ : EnSt s.heap h₄ e it x t (i + 1) (enO .none (.ref it) (rawInt ((i : Int) + 1)) v5) := by
    obtain ⟨p, hp, r⟩ := S₃.st
    rw [← hh₄]
    exact ⟨Heap.get?_push_of_some _ S₃.en, ⟨p, Heap.get?_push_of_some _ hp, r⟩, fun b o hb hb' q => Heap.get?_push_of_some _ (S₃.old b o hb hb' q)⟩
  clear S₃ hh₄ S₁
  rw [z₃]
  unfold Builtin.SmallTypes.ownedTupleIsFree Builtin.SmallTypes.ownedTupleHandOut
  refine wpAny_bind (wpAny_bind (wpAny_field S₄.en rfl (x := .none) rfl (wpAny_pure ?_)))
  simp only [if_true]
  refine wpAny_bind (wpAny_rule (wpAny_bind (wpAny_field S₄.en rfl (x := v5) rfl (wpAny_bind (wpAny_setField_rec S₄.en (by simp) fun h₅ g₅ s₅ => ?_)))))
  have S₅ := S₄.turn hne g₅ s₅
  refine wpAny_bind (wpAny_bind (wpAny_setField_rec S₅.en (by simp) fun h₆ g₆ s₆ => wpAny_setField_rec g₆ (by simp) fun h₇ g₇ s₇ => ?_))
  have S₇ := (S₅.turn hne g₆ s₆).turn hne g₇ s₇
  have hte : s.heap.objs.size ≠ e := Nat.ne_of_gt hel
  refine wpAny_bind (wpAny_letGo (wpAny_pure ⟨_, rfl, wpAny_pure (hQ h₇ (.str ⟨#[c]⟩ s.toks) S₇ ?_ ?_)⟩))
  · have e5 : h₅.objs.size = h₄.objs.size := s₅.1
    have e6 : h₆.objs.size = h₅.objs.size := s₆.1
    have e7 : h₇.objs.size = h₆.objs.size := s₇.1
    omega
  · exact s₇.extBut _ _ hte (s₆.extBut _ _ hte (s₅.extBut _ _ hte t₄))

theorem is_other {p q : Str} {t u : Tok} {Q : Value → Shared → Prop} (ht : t ≠ 0) (hu : u ≠ 0) (htu : t ≠ u) (hpq : p ≠ q) (h : Q (.bool false) s) : wpAny (model prog w) A (compareOp .Is (.str p t) (.str q u)) Q E s := by
  show wpAny _ _ (do return .bool (← isSame (.str p t) (.str q u))) Q E s
  refine wpAny_bind ?_
  show wpAny _ _ (isSame.created (p == q) t u) _ _ s
  unfold isSame.created
  rw [if_neg (by simp [ht, hu]), if_neg (by simpa using htu)]
  rw [if_pos (by simp [hpq])]
  exact wpAny_pure (wpAny_pure h)
theorem is_either {p q : Str} {t u : Tok} {Q : Value → Shared → Prop} (ht : t ≠ 0) (hu : u ≠ 0) (hpq : p = q) (hb : NoneBooked s.heap) (h : ∀ b, Q (.bool b) s) : wpAny (model prog w) A (compareOp .Is (.str p t) (.str q u)) Q E s := by
  obtain ⟨mc, hn, hm⟩ := hb
  show wpAny _ _ (do return .bool (← isSame (.str p t) (.str q u))) Q E s
  refine wpAny_bind ?_
  show wpAny _ _ (isSame.created (p == q) t u) _ _ s
  unfold isSame.created
  rw [if_neg (by simp [ht, hu])]
  split
  · exact wpAny_pure (wpAny_pure (h _))
  rw [if_neg (by simp [hpq])]
  have ns : ∀ {t : Tok} {Q' : Bool → Shared → Prop}, Q' false s → wpAny (model prog w) A (sharingNotTold t) Q' E s := fun hq => by
    unfold sharingNotTold
    refine wpAny_bind (wpAny_nsGet hn ?_)
    rw [hm]
    exact wpAny_pure hq
  refine wpAny_bind (ns ?_)
  refine wpAny_bind (ns ?_)
  refine wpAny_bind (wpAny_rule (wpAny_bind (wpAny_askSetting (wpAny_pure (wpAny_pure (h _))))))
end
end Mine

namespace Mine
section
variable {prog : Program} {w : World} {W : Glob prog w} {C : Act} {σ : Sg} {μ : Mu}

theorem Ev.sval_str {e : Expr} {l : List Nat} {t : Tok} (h : Ev W C σ μ e (.sval l t)) : Ev W C σ μ e (.str l) := ⟨fun s Q E R hQ => h.run s Q E R fun v s' y x => hQ v s' y ⟨t, x⟩⟩

theorem Ts.isOrEq (hnb : ∀ {h : Heap}, W.G h → NoneBooked h) {x y x' y' : Expr} {p1 p2 p3 : Pos} {p q : List Nat} {t u : Tok} (hx : Ev W C σ μ x (.sval p t)) (hy : Ev W C σ μ y (.sval q u)) (hx' : Ev W C σ μ x' (.sval p t)) (hy' : Ev W C σ μ y' (.sval q u)) (ht : t ≠ 0) (hu : u ≠ 0) (htu : p ≠ q → t ≠ u) (hm1 : behindInMarks .Is y = false := by with_unfolding_all rfl) (hm2 : behindInMarks .Eq y' = false := by with_unfolding_all rfl) :
    Ts W C σ μ (.BoolOp .Or [.Compare x [.Is] [y] p1, .Compare x' [.Eq] [y'] p2] p3) (decide (p = q)) := by
  have inj : ∀ {l l' : List Nat}, (⟨l.toArray⟩ : Str) = ⟨l'.toArray⟩ → l = l' := fun e => by simpa using congrArg (fun s : Str => s.cps.toList) e
  by_cases hpq : p = q
  · subst hpq
    refine ⟨fun s Q E R hQ => ?_⟩
    refine wpAny_isTrue_BoolOp (wpAny_allTrue_Or_cons (wpAny_isTrue_Compare1 (hx.run s _ _ R fun v s₁ y₁ x₁ => hy.run s₁ _ _ (R.step y₁) fun v' s₂ y₂ x₂ => ?_) hm1))
    cases x₁; cases x₂
    have y := y₁.trans y₂
    refine is_either ht hu rfl (hnb (R.step y).top) fun b => wpAny_truthy_bool ?_
    rw [decide_eq_true rfl] at hQ
    cases b with
    | true => exact hQ s₂ y
    | false =>
      refine wpAny_allTrue_Or_cons (wpAny_isTrue_Compare1 (hx'.run s₂ _ _ (R.step y) fun v s₃ y₃ x₃ => hy'.run s₃ _ _ (R.step (y.trans y₃)) fun v' s₄ y₄ x₄ => ?_) hm2)
      cases x₃; cases x₄
      refine P.eq_str (wpAny_truthy_bool ?_)
      rw [beq_self_eq_true]
      exact hQ s₄ ((y.trans y₃).trans y₄)
  · have e := Ts.or2 (W := W) (C := C) (σ := σ) (μ := μ) (e := .Compare x [.Is] [y] p1) (f := .Compare x' [.Eq] [y'] p2) (pos := p3) (b := false) (c := decide (p = q)) ?_ fun _ => ?_
    · rwa [Bool.false_or] at e
    · refine Ts.cmp hx hy ?_ hm1
      rintro s Q E _ _ R rfl rfl hQ
      exact is_other ht hu (htu hpq) (fun z => hpq (inj z)) (hQ _ _ (Mv.refl _ _) rfl)
    · refine Ts.cmp (Ev.sval_str hx') (Ev.sval_str hy') ?_ hm2
      have : (p == q) = decide (p = q) := by by_cases h : p = q <;> simp [h]
      rw [← this]; exact Op2.eqS

noncomputable abbrev strIt (h : Obj) (x : Str) (t : Tok) (i : Nat) : Prop := h.cls = .type "str_ascii_iterator" ∧ h.data = .fields #[.str x t, .int i 0]

theorem Exs.nextR {st : Stmt} {rest : List Stmt} {K K' : FD → Sg → Mu → Prop} (h : Ex1 W C σ μ st K') (ho : ∀ f σ' μ', K' f σ' μ' → f ≠ .next ∧ K f σ' μ') : Exs W C σ μ (st :: rest) K :=
  Exs.cons h (fun σ' μ' k => absurd rfl (ho _ _ _ k).1) (fun f σ' μ' _ k => (ho f σ' μ' k).2)

theorem Rep.butL {s s' : Shared} (hcell : ∀ x c, C.env.cells.lookup x = some c → c ∈ C.oth) (R : Rep W C σ μ s) (Is : List Addr) (hI : ∀ I ∈ Is, ∀ o, s.heap.get? I = some o → ¬ Seqy o) (hm : ∀ I ∈ Is, I ∉ C.mut μ) (hn : ∀ I ∈ Is, ¬ W.Base I) (hk : ∀ b o, b ∉ Is → s.heap.get? b = some o → s'.heap.get? b = some o)
    (hz : s.heap.objs.size ≤ s'.heap.objs.size) (ht : s.toks ≤ s'.toks) : Rep W C σ μ s' := by
  have hv : ∀ a o, C.D μ a → s.heap.get? a = some o → Seqy o → C.D μ a ∧ s'.heap.get? a = some o := fun a o p e q => ⟨p, hk a o (fun z => hI a z o e q) e⟩
  have up : ∀ a ∈ C.mut μ, ∀ o, s.heap.get? a = some o → s'.heap.get? a = some o := fun a ha o e => hk a o (fun z => hm a z ha) e
  refine ⟨W.mono R.top (fun b o hb e => hk b o (fun z => hn b z hb) e) hz, Nat.le_trans R.size hz, ?_, ?_, fun p hp => (R.mem p hp).monoC ht hv (fun o e => up _ (List.mem_append_right _ (List.mem_map_of_mem hp)) o e), R.nodup, R.low, fun a ha => Nat.lt_of_lt_of_le (R.lt a ha) hz, Nat.lt_of_lt_of_le R.tpos ht⟩
  · obtain ⟨m, ⟨o, es, ep, ho, r⟩, hm'⟩ := R.loc
    exact ⟨m, ⟨o, es, ep, up _ (List.mem_append_left _ List.mem_cons_self) _ ho, r⟩, fun x d e k => let ⟨v, hv', r⟩ := hm' x d e k; ⟨v, hv', r.monoC ht hv⟩⟩
  · intro x c hc hkx
    obtain ⟨v, ⟨o, ho, hd⟩, r⟩ := R.cell x c hc hkx
    refine ⟨v, ⟨o, up _ (List.mem_append_left _ (List.mem_cons_of_mem _ (hcell x c hc))) _ ho, hd⟩, fun d e => let ⟨v', e', r'⟩ := r d e; ⟨v', e', r'.monoC ht hv⟩⟩

theorem slot_en_iter : Slot "enumerate" "__iter__" "enumerate.__iter__" :=
  .of (owner := "enumerate") (n := "__iter__") (by rw [typeLookup_type, builtinLookup_eq_fast]; kernel_rfl) (by decide +kernel) (by decide +kernel) (by decide +kernel)
    (by first | exact .inl (by decide +kernel) | exact .inr (by decide +kernel)) (by rw [isSubtype_type]; kernel_rfl)
theorem args_en_iter (a : Value) : argsOk "enumerate.__iter__" ⟨[a], []⟩ := by unfold argsOk; kernel_rfl
theorem pyIter_en {A : Around} {E : Value → Shared → Prop} {s : Shared} {e : Addr} {v0 v2 v3 v5 : Value} {Q : Value → Shared → Prop} (he : s.heap.get? e = some (enO v0 v2 v3 v5)) (h : Q (.ref e) s) : wpAny (model prog w) A (pyIter (.ref e)) Q E s := by
  have hT : s.TypeIs (.ref e) "enumerate" := ⟨_, he, rfl⟩
  refine wpAny_pyIter_slot hT slot_en_iter (wpAny_call_entry slot_en_iter hT F.entry_enumerate_iter ?_ (args_en_iter _))
  show wpAny _ _ (ret (.ref e)) _ _ s
  exact wpAny_pure ⟨_, rfl, "enumerate", _, hT, F.slot_enumerate_next.lookup, h⟩

noncomputable def digits3 : List Nat := [48, 49, 50]
theorem upd_upd_ne {σ : Sg} {x y z : Str} {d e : D} (hx : z ≠ x) (hy : z ≠ y) : upd (upd σ x d) y e z = σ z := by unfold upd; rw [if_neg hy, if_neg hx]

theorem index_fn (S : Pr W) (hnb : ∀ {h : Heap}, W.G h → NoneBooked h) (n : Nat) (hn : n < 3) : Fn W (S.f 5) 2 [.str digits3, .chr [48 + n]] (.int (n : Int)) := by
  refine Fn.def_ S 5 ["a", "b"] (fun A L P bsz pm cd doc O hl => ?_) (by intro pm cd doc vals hv; obtain ⟨x, y, rfl⟩ := len2 hv; rfl)
  refine Exs.nextR (K' := fun f _ _ => f = .ret (.int (n : Int))) ?_ (fun f σ' μ' e => ⟨(by rw [e]; intro z; cases z), .inl e⟩)
  refine ⟨fun s Q E R hQ => ?_⟩
  generalize hC : mkC A (Calls.docDef (fNm (stm 5)) (fPar (stm 5)) (fBody (stm 5)) (fSco (stm 5)) pm cd doc) L (S.f 5) P bsz = C at O R hQ ⊢
  have kl : ∀ x, x = "a" ∨ x = "b" ∨ x = "i" ∨ x = "j" → C.env.kindOf x = some .local := by
    rw [← hC]; rintro x (rfl | rfl | rfl | rfl) <;> rfl
  have ke : C.env.kindOf "enumerate" = some .globalImplicit := by rw [← hC]; rfl
  have hA : C.A = A := by rw [← hC]
  -- b's own token
  obtain ⟨m, hnm, hm⟩ := R.loc
  obtain ⟨vb, hvb, ⟨tb, rfl, tb0, tb1⟩⟩ := hm "b" (.chr [48 + n]) rfl (kl _ (by simp))
  obtain ⟨va, hva, ⟨ta, rfl⟩⟩ := hm "a" (.str digits3) rfl (kl _ (by simp))
  have R₀ : Rep W C (sg [("a", .sval digits3 ta), ("b", .sval [48 + n] tb)]) [] s := by
    refine ⟨R.top, R.size, ⟨m, hnm, fun x d e k => ?_⟩, fun x c hc hk => ?_, R.mem, R.nodup, R.low, R.lt, R.tpos⟩
    · unfold sg at e
      rw [List.lookup_cons, List.lookup_cons] at e
      cases h1 : x == ("a" : Str) with
      | true => rw [h1] at e; cases e; rw [beq_iff_eq.mp h1]; exact ⟨_, hva, rfl⟩
      | false =>
        rw [h1] at e
        cases h2 : x == ("b" : Str) with
        | true => rw [h2] at e; cases e; rw [beq_iff_eq.mp h2]; exact ⟨_, hvb, rfl⟩
        | false => rw [h2] at e; cases e
    · exfalso
      rw [← hC] at hc
      have : List.lookup x (cellsFrom (L + 1) (fSco (stm 5)).names []) = some c := hc
      have e : cellsFrom (L + 1) (fSco (stm 5)).names [] = [] := rfl
      rw [e] at this; cases this
  have hasc : strIterType ⟨digits3.toArray⟩ = "str_ascii_iterator" := by decide +kernel
  refine wpAny_For ?_
  refine wpAny_Call_NameR (wp_builtin O R₀ ke S.enumerate.1 S.enumerate.2 ?_)
  refine PySem.callWith_type rfl (Calls.evalArgs_plain (Calls.spliced_cons ((Ev.name (W := W) (μ := []) O (x := "a") (kl _ (by simp)) rfl).run s _ _ R₀ fun v s₁ y₁ x₁ => Calls.spliced_nil ?_)))
  cases x₁
  have R₁ := R₀.step y₁
  refine call_enumerate_str fun h' hen hst hsz hkp => ?_
  rw [hasc] at hst
  have y₂ : Stp s₁ { s₁ with heap := h' } := Stp.mk' hkp (Nat.le_trans (Nat.le_add_right _ 2) (Nat.le_of_eq hsz.symm))
  have R₂ := R₁.step y₂
  obtain ⟨oi, hoi, hoc, hod⟩ := id hst
  generalize hit : s₁.heap.objs.size = it at *
  have hnit : it ∉ C.mut [] := fun hm => by have := R₁.lt it hm; rw [hit] at this; exact Nat.lt_irrefl _ this
  have hnen : it + 1 ∉ C.mut [] := fun hm => by have := R₁.lt _ hm; rw [hit] at this; exact absurd this (Nat.not_lt.mpr (Nat.le_succ it))
  have hn0 : W.n₀ ≤ it := hit ▸ R₁.n₀
  have hs_it : s.heap.objs.size ≤ it := hit ▸ y₁.size
  refine pyIter_en (v0 := .none) (v2 := .ref it) (v3 := rawInt 0) (v5 := .none) hen ?_
  have ne : it + 1 ≠ it := Nat.succ_ne_self it
  have mkR : ∀ {σ' : Sg} {s' : Shared} {o1 o2 : Obj}, Rep W C σ' [] s' → s'.heap.get? (it + 1) = some o1 → s'.heap.get? it = some o2 → ¬ Seqy o1 → ¬ Seqy o2 → Rep W C σ' [(it + 1, .raw o1), (it, .raw o2)] s' := fun R' g1 g2 n1 n2 => by
    have Ra := R'.joinRaw g2 n2 hnit (W.nb hn0)
    refine Ra.joinRaw g1 n1 (fun hm => ?_) (W.nb (Nat.le_succ_of_le hn0))
    rcases List.mem_append.mp hm with q | q
    · exact hnen (List.mem_append_left _ q)
    · rw [List.map_cons, List.map_nil, List.mem_singleton] at q; exact ne q
  have seqI : ∀ {o : Obj} {i : Nat}, strIt o ⟨digits3.toArray⟩ ta i → ¬ Seqy o := fun h => fields_notSeqy h.2
  have seqE : ∀ {v0 v2 v3 v5 : Value}, ¬ Seqy (enO v0 v2 v3 v5) := fields_notSeqy rfl
  refine codeAny_forLoop_any (fun k s' => ∃ i v5 oi σ', k = 3 - i ∧ i ≤ n ∧ Le (sg [("a", .sval digits3 ta), ("b", .sval [48 + n] tb)]) σ' ∧ Rep W C σ' [(it + 1, .raw (enO .none (.ref it) (rawInt (i : Nat)) v5)), (it, .raw oi)] s' ∧ strIt oi ⟨digits3.toArray⟩ ta i ∧ Mv ((it + 1) :: it :: C.mut []) s s') ?_ 3
    ⟨0, .none, oi, _, rfl, Nat.zero_le _, Le.refl _, mkR R₂ hen hoi seqE (seqI ⟨hoc, hod⟩), ⟨hoc, hod⟩, (y₁.trans y₂).wk fun _ h => nomatch h⟩
  rintro k s' ⟨i, v5, oi, σ', rfl, hi, hle, R', hoi', y'⟩
  have hi3 : i < 3 := by omega
  have hcx : (⟨digits3.toArray⟩ : Str).cps[i]? = some (48 + i) := by
    have : i = 0 ∨ i = 1 ∨ i = 2 := by omega
    rcases this with rfl | rfl | rfl <;> rfl
  have ge : s'.heap.get? (it + 1) = some (enO .none (.ref it) (rawInt (i : Nat)) v5) := R'.mem _ List.mem_cons_self
  have gi : s'.heap.get? it = some oi := R'.mem _ (List.mem_cons_of_mem _ List.mem_cons_self)
  refine wpAny_gr (enum_next ⟨ge, ⟨oi, gi, hoi'⟩, fun b o _ _ e => e⟩ ne hcx fun h₃ v5' S₃ z₃ t₃ gt gs => ?_)
  refine wpAny_letOwnedTupleGo_enum S₃.en fun h₄ g₄ s₄ => ?_
  have S₄ := S₃.turn ne g₄ s₄
  obtain ⟨oi₄, goi₄, hoi₄⟩ := S₄.st
  have z₄ : h₄.objs.size = s'.heap.objs.size + 1 := s₄.1.trans z₃
  have k₄ : ∀ b o, b ∉ [it + 1, it] → s'.heap.get? b = some o → h₄.get? b = some o := fun b o hb e => S₄.old b o (fun z => hb (by simp [z])) (fun z => hb (by simp [z])) e
  have Rd := R'.drop.drop
  have R₄ : Rep W C σ' [] { s' with heap := h₄, toks := s'.toks + 2 } := Rep.butL O.cell Rd [it + 1, it] (fun I hI o e => by
      simp at hI
      rcases hI with rfl | rfl
      · rw [ge] at e; cases e; exact seqE
      · rw [gi] at e; cases e; exact seqI hoi') (fun I hI => by simp at hI; rcases hI with rfl | rfl; exact hnen; exact hnit)
    (fun I hI => by simp at hI; rcases hI with rfl | rfl; exact W.nb (Nat.le_succ_of_le hn0); exact W.nb hn0) k₄ (Nat.le_trans (Nat.le_succ _) (Nat.le_of_eq z₄.symm)) (by show s'.toks ≤ s'.toks + 2; omega)
  have hTit : it < s'.heap.objs.size := Heap.lt_size gi
  have hTe : it + 1 < s'.heap.objs.size := Heap.lt_size ge
  have t₄ : h₄.get? s'.heap.objs.size = some { cls := .type "tuple", data := .seq #[.int i (s'.toks + 1), .str ⟨#[48 + i]⟩ s'.toks] } := s₄.extBut _ _ (Nat.ne_of_gt hTe) t₃
  have hTD : C.D [] s'.heap.objs.size := C.D_new R'.drop.drop (Nat.le_refl _)
  have RT := mkR R₄ g₄ goi₄ seqE (seqI ⟨hoi₄.1, hoi₄.2⟩)
  have hTD' : C.D [(it + 1, MC.raw (enO .none (.ref it) (rawInt ((i : Int) + 1)) v5')), (it, .raw oi₄)] s'.heap.objs.size := by
    refine ⟨hTD.1, fun hm => ?_⟩
    rcases List.mem_append.mp hm with q | q
    · exact hTD.2 (List.mem_append_left _ q)
    · simp at q
      rcases q with q | q
      · exact Nat.ne_of_gt hTe q
      · exact Nat.ne_of_gt hTit q
  have tbs : tb < s'.toks := Nat.lt_of_lt_of_le tb1 y'.toks
  refine (Tgt.pair O (x := "i") (y := "j") (.inl (kl _ (by simp))) (.inl (kl _ (by simp))) : Tgt W C [(it + 1, .raw (enO .none (.ref it) (rawInt ((i : Int) + 1)) v5')), (it, .raw oi₄)] _ (.tup [.int (i : Int), .sval [48 + i] s'.toks]) _) σ' _ _ _ _ RT ⟨_, _, rfl, hTD', ⟨0, t₄⟩, _, _, rfl, ⟨_, rfl⟩, _, _, rfl, rfl, rfl⟩ fun s₅ R₅ y₅ => ?_
  have hje : upd (upd σ' "i" (.int (i : Int))) "j" (.sval [48 + i] s'.toks) "b" = some (.sval [48 + n] tb) := by rw [upd_upd_ne (by decide) (by decide)]; exact hle _ _ rfl
  have y₄ : Mv ((it + 1) :: it :: C.mut []) s { s' with heap := h₄, toks := s'.toks + 2 } :=
    ⟨fun b o e hb => k₄ b o (fun z => by simp at z; exact hb (by rcases z with z | z <;> simp [z])) (y'.kept b o e hb), Nat.le_trans y'.size (Nat.le_trans (Nat.le_succ _) (Nat.le_of_eq z₄.symm)), y'.gens, y'.drawn, y'.os, Nat.le_trans y'.toks (by show s'.toks ≤ s'.toks + 2; omega)⟩
  have cm : ∀ b ∈ C.mut [(it + 1, MC.raw (enO .none (.ref it) (rawInt ((i : Int) + 1)) v5')), (it, .raw oi₄)], b ∈ (it + 1) :: it :: C.mut [] := fun b hb => by
    rcases List.mem_append.mp hb with q | q
    · exact List.mem_cons_of_mem _ (List.mem_cons_of_mem _ (List.mem_append_left _ q))
    · simp at q; rcases q with q | q <;> simp [q]
  have body : Exs W C (upd (upd σ' "i" (.int (i : Int))) "j" (.sval [48 + i] s'.toks)) [(it + 1, .raw (enO .none (.ref it) (rawInt ((i : Int) + 1)) v5')), (it, .raw oi₄)]
      (match ((fBody (stm 5))[0]? : Option Stmt) with | some (Stmt.For _ _ b _ _) => b | _ => []) (fun f σ'' μ'' => (f = .ret (.int (n : Int)) ∨ (f = .next ∧ i ≠ n ∧ σ'' = upd (upd σ' "i" (.int (i : Int))) "j" (.sval [48 + i] s'.toks) ∧ μ'' = [(it + 1, .raw (enO .none (.ref it) (rawInt ((i : Int) + 1)) v5')), (it, .raw oi₄)]))) := by
    refine Exs.ite (Ts.isOrEq hnb (p := [48 + i]) (q := [48 + n]) (t := s'.toks) (u := tb) (Ev.name O (kl "j" (.inr (.inr (.inr rfl)))) (by unfold upd; rw [if_pos rfl])) (Ev.name O (kl "b" (.inr (.inl rfl))) hje) (Ev.name O (kl "j" (.inr (.inr (.inr rfl)))) (by unfold upd; rw [if_pos rfl])) (Ev.name O (kl "b" (.inr (.inl rfl))) hje) (Nat.ne_of_gt (Nat.lt_trans tb0 tbs)) (Nat.ne_of_gt tb0) (fun _ => Nat.ne_of_gt tbs)) (fun h => ?_) fun h => ?_
    · have e := of_decide_eq_true h
      have e2 : i = n := by simp at e; omega
      subst e2
      refine Exs.ret (d := .int (i : Int)) (Ev.name O (kl "i" (.inr (.inr (.inl rfl)))) (by unfold upd; rw [if_neg (by decide), if_pos rfl])) (.inl rfl)
    · have e := of_decide_eq_false h
      exact Exs.nil (Exs.nil (.inr ⟨rfl, fun z => e (by rw [z]), rfl, rfl⟩))
  refine body.run s₅ _ _ R₅ fun fd fl σ'' μ'' s₆ hk R₆ y₆ new₆ fr => ?_
  have y₆' : Mv ((it + 1) :: it :: C.mut []) s s₆ := y₄.trans (y₅.trans y₆ fun b hb => .inl hb) fun b hb => .inl (cm b hb)
  rcases hk with rfl | ⟨rfl, hin, rfl, rfl⟩
  · obtain ⟨v, rfl, r⟩ := fr
    refine hQ _ (.ret v) σ'' μ'' s₆ rfl R₆ ⟨fun b o e hb => y₆'.kept b o e fun hm => ?_, y₆'.size, y₆'.gens, y₆'.drawn, y₆'.os, y₆'.toks⟩ (fun b hb => ?_) ⟨v, rfl, r⟩
    · have := Heap.lt_size e
      rcases List.mem_cons.mp hm with q | hm
      · subst q; exact Nat.lt_irrefl _ (Nat.lt_of_lt_of_le this (Nat.le_succ_of_le hs_it))
      · rcases List.mem_cons.mp hm with q | hm
        · subst q; exact Nat.lt_irrefl _ (Nat.lt_of_lt_of_le this hs_it)
        · exact hb hm
    · rcases new₆ b hb with q | q
      · have := cm b q
        rcases List.mem_cons.mp this with q | hm
        · rw [q]; exact .inr (Nat.le_succ_of_le hs_it)
        · rcases List.mem_cons.mp hm with q | hm
          · rw [q]; exact .inr hs_it
          · exact .inl hm
      · refine .inr (Nat.le_trans y₄.size (Nat.le_trans y₅.size q))
  · cases fr
    refine ⟨3 - (i + 1), by omega, i + 1, v5', oi₄, _, rfl, by omega, ?_, by exact_mod_cast R₆, hoi₄, y₆'⟩
    intro z d hz
    have hzz : z = "a" ∨ z = "b" := by
      unfold sg at hz
      rw [List.lookup_cons, List.lookup_cons] at hz
      cases h1 : z == ("a" : Str) with
      | true => exact .inl (beq_iff_eq.mp h1)
      | false =>
        rw [h1] at hz
        cases h2 : z == ("b" : Str) with
        | true => exact .inr (beq_iff_eq.mp h2)
        | false => rw [h2] at hz; cases hz
    rw [upd_upd_ne (by rcases hzz with rfl | rfl <;> decide) (by rcases hzz with rfl | rfl <;> decide)]
    exact hle z d hz
end
end Mine

namespace Mine
inductive Chain : List Nat → List (List Nat) → List Nat → Prop
  | nil {r} : Chain r [] r
  | cons {r t q ts r'} : tokF r = some (t, q) → Chain q ts r' → Chain r (t :: ts) r'

noncomputable abbrev M2 (Cl : Addr) (X : LX) (tx : Int) (rx : List Nat) (Y : LX) (ty : Int) (ry : List Nat) (py : List D) : Mu :=
  lexMu Cl X tx rx [] ++ (lexMu Cl Y ty ry py ++ [(X.cc, .raw X.oc)])

section
variable {prog : Program} {w : World} {W : Glob prog w} {C : Act} {σ : Sg} {μ : Mu}

theorem EvM.out {e : Expr} {K K' : D → Mu → Prop} (h : EvM W C σ μ e K) (hk : ∀ d μ', K d μ' → ∃ μ'', μ'.Perm μ'' ∧ K' d μ'') : EvM W C σ μ e K' := by
  refine ⟨fun s Q E R hQ => h.run s Q E R fun d μ' v s' k R' y new x => ?_⟩
  obtain ⟨μ'', hp, k'⟩ := hk d μ' k
  exact hQ d μ'' v s' k' (R'.perm hp) y (fun b hb => new b ((Act.mut_perm hp b).mpr hb)) (Act.D_perm (C := C) hp ▸ x)

theorem permX (Cl : Addr) (X : LX) (tx : Int) (rx : List Nat) (Y : LX) (ty : Int) (ry : List Nat) (py : List D) : (M2 Cl X tx rx Y ty ry py).Perm (LM Cl X tx rx [] ++ lexMu Cl Y ty ry py) :=
  perm_by [0, 1, 16, 2, 3, 4, 5, 6, 7, 8, 9, 10, 11, 12, 13, 14, 15] dμ 17 rfl (by decide) rfl
theorem permY (Cl : Addr) {X : LX} (tx : Int) (rx : List Nat) {Y : LX} (ty : Int) (ry : List Nat) (py : List D) (hcc : Y.cc = X.cc) (hoc : Y.oc = X.oc) : (M2 Cl X tx rx Y ty ry py).Perm (LM Cl Y ty ry py ++ lexMu Cl X tx rx []) := by
  have e : ((X.cc, MC.raw X.oc) : Addr × MC) = (Y.cc, .raw Y.oc) := by rw [hcc, hoc]
  unfold M2
  rw [e]
  exact perm_by [8, 9, 16, 10, 11, 12, 13, 14, 15, 0, 1, 2, 3, 4, 5, 6, 7] dμ 17 rfl (by decide) rfl

theorem getX (Λ : Lex W) (O : C.Ok) {X Y : LX} (hX : X.Good) {tx ty : Int} {rx ry t q : List Nat} {py : List D} (ht : tokF rx = some (t, q)) (hlen : rx.length ≤ 1000) (hl : Lvl 6 C.A) {o : Expr} {ap pos : Pos} (ho : Ev W C σ (M2 Λ.Z.C X tx rx Y ty ry py) o (.obj X.I2))
    (hbase : attributeBase o "get_token" C.env (eval o C.env) = eval o C.env := by rfl) (hline : (ap.endLine == pos.line) = true := by rfl) :
    EvM W C σ (M2 Λ.Z.C X tx rx Y ty ry py) (.Call (.Attribute o "get_token" ap) [] [] pos) (fun d μ' => d = .chr t ∧ μ' = M2 Λ.Z.C X tx q Y ty ry py) := by
  refine EvM.out (EvM.meth0 (K' := fun d μ' => d = .chr t ∧ μ' = LM Λ.Z.C X tx q [] ++ lexMu Λ.Z.C Y ty ry py) (n := 6) Λ.Z O ho (getμ 3 rfl) (getμ 4 rfl) rfl Λ.mgt.fi Λ.mgt.ft Λ.mgt.at hl
    ⟨_, _, _, permX _ _ _ _ _ _ _ _, gt_read Λ hX tx rx hlen ht, fun d μ' ⟨a, b⟩ => ⟨a, by rw [b]⟩⟩ hbase rfl hline) ?_
  rintro d μ' ⟨rfl, rfl⟩
  exact ⟨_, (permX Λ.Z.C X tx q Y ty ry py).symm, rfl, rfl⟩
theorem getY_read (Λ : Lex W) (O : C.Ok) {X Y : LX} (hY : Y.Good) (hcc : Y.cc = X.cc) (hoc : Y.oc = X.oc) {tx ty : Int} {rx ry t q : List Nat} (ht : tokF ry = some (t, q)) (hlen : ry.length ≤ 1000) (hl : Lvl 6 C.A) {o : Expr} {ap pos : Pos} (ho : Ev W C σ (M2 Λ.Z.C X tx rx Y ty ry []) o (.obj Y.I2))
    (hbase : attributeBase o "get_token" C.env (eval o C.env) = eval o C.env := by rfl) (hline : (ap.endLine == pos.line) = true := by rfl) :
    EvM W C σ (M2 Λ.Z.C X tx rx Y ty ry []) (.Call (.Attribute o "get_token" ap) [] [] pos) (fun d μ' => d = .chr t ∧ μ' = M2 Λ.Z.C X tx rx Y ty q []) := by
  refine EvM.out (EvM.meth0 (K' := fun d μ' => d = .chr t ∧ μ' = LM Λ.Z.C Y ty q [] ++ lexMu Λ.Z.C X tx rx []) (n := 6) Λ.Z O ho (getμ 11 rfl) (getμ 12 rfl) rfl Λ.mgt.fi Λ.mgt.ft Λ.mgt.at hl
    ⟨_, _, _, permY _ _ _ _ _ _ hcc hoc, gt_read Λ hY ty ry hlen ht, fun d μ' ⟨a, b⟩ => ⟨a, by rw [b]⟩⟩ hbase rfl hline) ?_
  rintro d μ' ⟨rfl, rfl⟩
  exact ⟨_, (permY Λ.Z.C tx rx ty q [] hcc hoc).symm, rfl, rfl⟩
theorem getY (Λ : Lex W) (O : C.Ok) {X Y : LX} (hcc : Y.cc = X.cc) (hoc : Y.oc = X.oc) {tx ty : Int} {rx ry : List Nat} {d : D} {py : List D} (hlen : py.length ≤ 1000) (hl : Lvl 6 C.A) {o : Expr} {ap pos : Pos} (ho : Ev W C σ (M2 Λ.Z.C X tx rx Y ty ry (d :: py)) o (.obj Y.I2))
    (hbase : attributeBase o "get_token" C.env (eval o C.env) = eval o C.env := by rfl) (hline : (ap.endLine == pos.line) = true := by rfl) :
    EvM W C σ (M2 Λ.Z.C X tx rx Y ty ry (d :: py)) (.Call (.Attribute o "get_token" ap) [] [] pos) (fun d' μ' => d' = d ∧ μ' = M2 Λ.Z.C X tx rx Y ty ry py) := by
  refine EvM.out (EvM.meth0 (K' := fun d' μ' => d' = d ∧ μ' = LM Λ.Z.C Y ty ry py ++ lexMu Λ.Z.C X tx rx []) (n := 6) Λ.Z O ho (getμ 11 rfl) (getμ 12 rfl) rfl Λ.mgt.fi Λ.mgt.ft Λ.mgt.at hl
    ⟨_, _, _, permY _ _ _ _ _ _ hcc hoc, (gt_push Λ ty ry py d hlen).le (by omega), fun d μ' ⟨a, b⟩ => ⟨a, by rw [b]⟩⟩ hbase rfl hline) ?_
  rintro d μ' ⟨rfl, rfl⟩
  exact ⟨_, (permY Λ.Z.C tx rx ty ry py hcc hoc).symm, rfl, rfl⟩
theorem pushY (Λ : Lex W) (O : C.Ok) {X Y : LX} (hcc : Y.cc = X.cc) (hoc : Y.oc = X.oc) {tx ty : Int} {rx ry : List Nat} {py : List D} (hl : Lvl 6 C.A) {o e : Expr} {ap pos : Pos} {K₁ : List D → Mu → Prop} {K' : Mu → Prop} (ho : Ev W C σ (M2 Λ.Z.C X tx rx Y ty ry py) o (.obj Y.I2))
    (ha : EsM W C σ (M2 Λ.Z.C X tx rx Y ty ry py) pos [e] K₁) (hr : ∀ ds μ₁, K₁ ds μ₁ → ∃ d py', ds = [d] ∧ μ₁ = M2 Λ.Z.C X tx rx Y ty ry py' ∧ py'.length ≤ 1000 ∧ K' (M2 Λ.Z.C X tx rx Y ty ry (py' ++ [d])))
    (hbase : attributeBase o "push_token" C.env (eval o C.env) = eval o C.env := by rfl) (hline : (ap.endLine == pos.line) = true := by rfl)
    (hfew : ((backTo pos (starEach [e] C.env)).all (fun x => !x.1) && (backToKw pos (keywordEach [] C.env)).all (fun x => x.1.isSome)
      && decide (([e] : List Expr).length + ([] : List Keyword).length + (if ([] : List Keyword).isEmpty then 0 else 1) < 30)) = true := by rfl)
    (hq : starEach [e] C.env = [e].map (fun e => (false, eval e C.env)) := by rfl) :
    EvM W C σ (M2 Λ.Z.C X tx rx Y ty ry py) (.Call (.Attribute o "push_token" ap) [e] [] pos) (fun _ μ' => K' μ') := by
  refine EvM.out (EvM.meth (K' := fun _ μ' => ∃ py'' , μ' = LM Λ.Z.C Y ty ry py'' ++ lexMu Λ.Z.C X tx rx [] ∧ K' (M2 Λ.Z.C X tx rx Y ty ry py'')) (n := 6) Λ.Z O ho (getμ 11 rfl) (getμ 12 rfl) rfl Λ.mpt.fi Λ.mpt.ft Λ.mpt.at ha hl (fun ds μ₁ k => ?_) (by intro h; cases h) hbase hfew hline hq) ?_
  · obtain ⟨d, py', rfl, rfl, hlen, hk⟩ := hr ds μ₁ k
    exact ⟨_, _, _, permY _ _ _ _ _ _ hcc hoc, (pt_fn Λ ty ry py' d hlen).le (by omega), fun d μ' ⟨a, b⟩ => ⟨_, by rw [b], hk⟩⟩
  · rintro d μ' ⟨py'', rfl, k⟩
    exact ⟨_, (permY Λ.Z.C tx rx ty ry py'' hcc hoc).symm, k⟩

noncomputable abbrev Pair := List (List Nat) × (Nat → Nat → Int)
noncomputable abbrev pairD (p : Pair) : D := .tup [.lst (p.1.map .str), tabD 4 p.2]
noncomputable def prodT (xs ys : List (List Nat)) : List (List Nat) := xs.flatMap fun x => ys.map fun y => x ++ y
noncomputable def joinP (o : Nat) (a b : Pair) : Pair := if o = 1 then (a.1 ++ b.1, eitherT a.2 b.2) else (prodT a.1 b.1, bothT a.2 b.2)
noncomputable def concatL : List Nat := [99, 111, 110, 99, 97, 116]
noncomputable def addL : List Nat := [97, 100, 100]
noncomputable def jTok (js : List (Nat × Nat)) : List (List Nat) := js.flatMap fun j => [[48 + j.1], if j.2 = 1 then concatL else addL]
noncomputable def stepRow {α : Type} (f : α → α → α) (p : Nat) (Q : List α) : List α := match Q.drop p with
  | a :: b :: r => Q.take p ++ f a b :: r
  | _ => Q
theorem stepRow_eq {α : Type} (f : α → α → α) {p : Nat} {A B : List α} {a b : α} (hp : A.length = p) : stepRow f p (A ++ a :: b :: B) = A ++ f a b :: B := by
  unfold stepRow
  subst hp
  simp
noncomputable def runRow : List (Nat × Nat) → List Pair → List Pair
  | [], Q => Q
  | (p, o) :: js, Q => runRow js (stepRow (joinP o) p Q)

theorem turn_loop (Λ : Lex W) (O : C.Ok) {X Y : LX} (hcc : Y.cc = X.cc) (hoc : Y.oc = X.oc) {tx ty : Int} {rx ry : List Nat} (A B : List D) (hlen : (A ++ B).length ≤ 500) (hl : Lvl 6 C.A) {σ₀ : Sg} (hk : C.env.kindOf "turn" = some .local) (hσ₀ : Le σ₀ σ) (hfree : σ₀ "turn" = none)
    {iter : Expr} {pt p1 p2 p3 p4 p5 p6 p7 p8 : Pos} {rest : List Stmt} {K : FD → Sg → Mu → Prop}
    (hi : Itr W C σ (M2 Λ.Z.C X tx rx Y ty ry (A ++ B)) iter A.length (fun i => .int (i : Int)))
    (ho : ∀ σ' μ' p, Le σ₀ σ' → Ev W C σ' μ' (.Name "line" p) (.obj Y.I2))
    (hr : ∀ σ', Le σ₀ σ' → Exs W C σ' (M2 Λ.Z.C X tx rx Y ty ry (B ++ A)) rest K)
    (hl1 : (p1.endLine == p2.line) = true := by rfl) (hl2 : (p3.endLine == p4.line) = true := by rfl)
    (hint : interactive C.env = false := by rfl) (hs : ∀ x, foldedSetIterable iter C.env x = pure x := by intro _; rfl) :
    Exs W C σ (M2 Λ.Z.C X tx rx Y ty ry (A ++ B)) (.For (.Name "turn" pt) iter [.Expr (.Call (.Attribute (.Name "line" p5) "push_token" p1) [.Call (.Attribute (.Name "line" p6) "get_token" p3) [] [] p4] [] p2) p7] [] p8 :: rest) K := by
  refine Exs.cons (K' := fun f σ' μ' => f = .next ∧ Le σ₀ σ' ∧ μ' = M2 Λ.Z.C X tx rx Y ty ry (B ++ A))
    (Ex1.for_ O (f := fun i σ => upd σ "turn" (.int (i : Int))) (fun i σ' μ' => Le σ₀ σ' ∧ μ' = M2 Λ.Z.C X tx rx Y ty ry (A.drop i ++ (B ++ A.take i))) hi (fun i μ' => Tgt.name O (.inl hk)) ⟨hσ₀, by simp⟩ ?_ ?_ hs) ?_ ?_
  · rintro i σ' _ hi' ⟨hle, rfl⟩
    have hle' : Le σ₀ (upd σ' "turn" (.int (i : Int))) := fun x d e => by
      unfold upd
      split
      · rename_i q; subst q; rw [hfree] at e; cases e
      · exact hle x d e
    have hd : A.drop i = A[i] :: A.drop (i + 1) := List.drop_eq_getElem_cons hi'
    have hb : (A.drop (i + 1) ++ (B ++ A.take i)).length ≤ 500 := by
      simp only [List.length_append, List.length_drop, List.length_take] at hlen ⊢; omega
    rw [hd, List.cons_append]
    refine Exs.exprM (pushY (K' := fun μ' => μ' = M2 Λ.Z.C X tx rx Y ty ry (A.drop (i + 1) ++ (B ++ A.take (i + 1)))) Λ O hcc hoc hl (ho _ _ _ hle')
      (EsM.cons (K' := fun ds μ' => ds = [A[i]] ∧ μ' = M2 Λ.Z.C X tx rx Y ty ry (A.drop (i + 1) ++ (B ++ A.take i))) (getY Λ O hcc hoc (by omega) hl (ho _ _ _ hle') (by rfl) hl2) (fun d μ' ⟨a, b⟩ => ?_) rfl) ?_ (by rfl) hl1) (fun d μ' k => Exs.nil ⟨_, hle', Le.refl _, k⟩) hint
    · subst a; subst b
      refine ⟨fun s Q E R hQ => (EsM.of (Es.nil (W := W))).run s Q E R fun ds μ' vs s' k => hQ ds μ' vs s' ?_⟩
      obtain ⟨rfl, rfl⟩ := k
      exact ⟨rfl, rfl⟩
    · rintro ds μ₁ ⟨rfl, rfl⟩
      refine ⟨_, _, rfl, rfl, by omega, ?_⟩
      rw [List.take_add_one, List.getElem?_eq_getElem hi']
      simp
  · rintro σ' _ ⟨hle, rfl⟩
    exact ⟨rfl, hle, by simp⟩
  · rintro σ' _ ⟨_, hle, rfl⟩
    exact hr σ' hle
  · rintro f _ _ hn ⟨h, _⟩
    exact absurd h hn
end
end Mine

namespace Mine
theorem tokF_len : ∀ (r : List Nat) {t q : List Nat}, tokF r = some (t, q) → q.length ≤ r.length ∧ t.length ≤ r.length
  | [], _, _, h => by cases h; simp
  | c :: r, t, q, h => by
    rw [tokF.eq_def] at h
    simp only at h
    split at h
    · have := tokF_len r h; simp; omega
    · split at h
      · have := qTok_len r h; simp; omega
      · split at h
        · cases r with
          | nil => cases h
          | cons d r' =>
            obtain ⟨p, hp, e⟩ := Option.map_eq_some_iff.mp h
            cases e
            have := bTok_len r' hp
            simp; omega
        · obtain ⟨p, hp, e⟩ := Option.map_eq_some_iff.mp h
          cases e
          have := bTok_len r hp
          simp; omega

theorem flat_prod (xs ys : List (List Nat)) : flat (fun i => (List.range ys.length).map fun j => D.str (xs[i]?.getD [] ++ ys[j]?.getD [])) xs.length = (prodT xs ys).map D.str := by
  have inner : ∀ x : List Nat, ((List.range ys.length).map fun j => D.str (x ++ ys[j]?.getD [])) = (ys.map fun y => x ++ y).map D.str := fun x => by
    apply List.ext_getElem?
    intro i
    simp only [List.getElem?_map]
    by_cases h : i < ys.length
    · rw [List.getElem?_range h, List.getElem?_eq_getElem h]; simp [List.getElem?_eq_getElem h]
    · rw [List.getElem?_eq_none (l := List.range ys.length) (by simpa using h), List.getElem?_eq_none (l := ys) (by simpa using h)]; rfl
  have gen : ∀ n, n ≤ xs.length → flat (fun i => (List.range ys.length).map fun j => D.str (xs[i]?.getD [] ++ ys[j]?.getD [])) n = (prodT (xs.take n) ys).map D.str := by
    intro n
    induction n with
    | zero => intro _; rfl
    | succ n ih =>
      intro hn
      have hn' : n < xs.length := by omega
      have e : prodT (xs.take (n + 1)) ys = prodT (xs.take n) ys ++ ys.map (fun y => xs[n] ++ y) := by
        unfold prodT
        rw [List.take_add_one, List.getElem?_eq_getElem hn']
        show (xs.take n ++ [xs[n]]).flatMap _ = _
        rw [List.flatMap_append]
        simp only [List.flatMap_cons, List.flatMap_nil, List.append_nil]
      rw [flat_succ, ih (by omega), inner, e, List.map_append, List.getElem?_eq_getElem hn']
      rfl
  have := gen xs.length (Nat.le_refl _)
  rwa [List.take_length] at this
theorem prodT_len (xs ys : List (List Nat)) : (prodT xs ys).length = xs.length * ys.length := by
  unfold prodT
  induction xs with
  | nil => simp
  | cons x xs ih => rw [List.flatMap_cons, List.length_append, ih, List.length_map, List.length_cons, Nat.succ_mul]; omega
theorem prodT_mem {xs ys : List (List Nat)} {z : List Nat} (h : z ∈ prodT xs ys) : ∃ x ∈ xs, ∃ y ∈ ys, z = x ++ y := by
  unfold prodT at h
  obtain ⟨x, hx, h⟩ := List.mem_flatMap.mp h
  obtain ⟨y, hy, e⟩ := List.mem_map.mp h
  exact ⟨x, hx, y, hy, e.symm⟩

section
variable {prog : Program} {w : World} {W : Glob prog w} {C : Act} {σ : Sg} {μ : Mu}
theorem EsM.nilK {pos : Pos} {K : List D → Mu → Prop} (h : K [] μ) : EsM W C σ μ pos [] K :=
  ⟨fun s Q E R hQ => (EsM.of (Es.nil (W := W))).run s Q E R fun ds μ' vs s' ⟨a, b⟩ => hQ ds μ' vs s' (by rw [a, b]; exact h)⟩
theorem Ev.usub {e : Expr} {pos : Pos} {i : Int} (h : Ev W C σ μ e (.int i)) : Ev W C σ μ (.UnaryOp .USub e pos) (.int (-i)) :=
  ⟨fun s Q E R hQ => wpAny_UnaryOp (h.run s _ _ R fun v s₁ y₁ x₁ => by
    obtain ⟨t, rfl⟩ := x₁
    exact PyProof.Rows.neg_int (hQ _ _ (y₁.trans (Stp.tk (Nat.le_succ _))) ⟨_, rfl⟩))⟩

noncomputable def nbF : Nat → Nat
  | 0 => 1
  | t + 1 => 2 * nbF t + nbF t * nbF t
noncomputable def lbF : Nat → Nat
  | 0 => 2
  | t + 1 => 2 * lbF t
noncomputable def leafP (word p : List Nat) : Pair := ([p], fun i k => ed (cut word i (i + k)) p)
noncomputable def Bnd (t : Nat) (p : Pair) : Prop := p.1.length ≤ nbF t ∧ ∀ x ∈ p.1, x.length ≤ lbF t
theorem nbF_pos : ∀ t, 1 ≤ nbF t
  | 0 => by decide
  | t + 1 => by have := nbF_pos t; rw [nbF]; omega
theorem Bnd.up {t : Nat} {p : Pair} (h : Bnd t p) : Bnd (t + 1) p := by
  refine ⟨?_, fun x hx => ?_⟩
  · have := h.1; rw [nbF]; omega
  · have := h.2 x hx; rw [lbF]; omega
theorem Bnd.join {t o : Nat} {a b : Pair} (ha : Bnd t a) (hb : Bnd t b) : Bnd (t + 1) (joinP o a b) := by
  unfold joinP
  split
  · refine ⟨?_, fun x hx => ?_⟩
    · have h1 := ha.1; have h2 := hb.1
      show (a.1 ++ b.1).length ≤ _
      rw [List.length_append, nbF]; omega
    · have hx' : x ∈ a.1 ++ b.1 := hx
      rw [lbF]
      rcases List.mem_append.mp hx' with h | h
      · have := ha.2 x h; omega
      · have := hb.2 x h; omega
  · refine ⟨?_, fun x hx => ?_⟩
    · show (prodT a.1 b.1).length ≤ _
      rw [prodT_len, nbF]
      have := Nat.mul_le_mul ha.1 hb.1
      omega
    · have hx' : x ∈ prodT a.1 b.1 := hx
      obtain ⟨y, hy, z, hz, rfl⟩ := prodT_mem hx'
      have h1 := ha.2 y hy
      have h2 := hb.2 z hz
      rw [lbF, List.length_append]; omega
theorem small_nb {t : Nat} (h : t ≤ 2) : nbF t ≤ 15 ∧ lbF t ≤ 8 := by
  have : t = 0 ∨ t = 1 ∨ t = 2 := by omega
  rcases this with rfl | rfl | rfl <;> decide

noncomputable abbrev wC (S : Pr W) (A : Around) (L : Addr) (P : Addr → Prop) (pm cd doc : Value) : Act := mkC A (Calls.docDef (fNm (stm 23)) (fPar (stm 23)) (fBody (stm 23)) (fSco (stm 23)) pm cd doc) L (S.f 23) P L

theorem chain_cons {r : List Nat} {t : List Nat} {ts : List (List Nat)} {r' : List Nat} (h : Chain r (t :: ts) r') : ∃ q, tokF r = some (t, q) ∧ Chain q ts r' := by cases h; exact ⟨_, ‹_›, ‹_›⟩

set_option maxHeartbeats 1000000 in
theorem worked_fn (Λ : Lex W) (hnb : ∀ {h : Heap}, W.G h → NoneBooked h) {X Y : LX} (hX : X.Good) (hcc : Y.cc = X.cc) (hoc : Y.oc = X.oc) (tx ty : Int) (rx ry rend : List Nat) (hrx : rx.length ≤ 1000)
    (word : List Nat) (hw3 : word.length = 3) (hws : ∀ c ∈ word, c ∈ sgn6) (ps : List (List Nat)) (hps4 : ps.length = 4) (hps : ∀ p ∈ ps, p.length ≤ 2 ∧ ∀ c ∈ p, c ∈ sgn6)
    (js : List (Nat × Nat)) (hjs3 : js.length = 3) (hjs : ∀ t p, js[t]? = some p → p.1 < 3 - t) (hch : Chain rx (word :: (ps ++ jTok js)) rend) (fin : Pair) (hfin : runRow js (ps.map (leafP word)) = [fin]) :
    FnM W (Λ.S.f 23) 9 [.obj X.I2, .obj Y.I2] (M2 Λ.Z.C X tx rx Y ty ry []) (fun d μ' => d = .tup [.chr word, pairD fin] ∧ μ' = M2 Λ.Z.C X tx rend Y ty ry []) := by
  obtain ⟨pm, cd, doc, h1, h2⟩ := (Λ.S.has 23 (by decide)).ex
  refine FnM.of_body ["lexer", "line"] h2.isFn (by intro vals hv; obtain ⟨x, y, rfl⟩ := len2 hv; rfl) rfl (fun A L P O hl => ?_) (hcnd₀ := (by decide +kernel : (((fSco (stm 23)).names.filter (fun x => x.2 == .cell)).map (·.1)).Nodup))
  have S := Λ.S
  have hl6 : Lvl 6 A := hl.le (by omega)
  obtain ⟨r0, ht0, hch0⟩ := chain_cons hch
  refine Exs.assignM O (.inl rfl) (getX Λ O hX ht0 hrx hl6 (Ev.name O rfl rfl)) ?_
  rintro _ _ ⟨rfl, rfl⟩
  have hr0 : r0.length ≤ 1000 := Nat.le_trans (tokF_len rx ht0).1 hrx
  refine Exs.weaken (σ' := sg [("lexer", .obj X.I2), ("line", .obj Y.I2), ("word", .chr word)]) (Le.cons rfl (Le.cons rfl (Le.cons rfl Le.nil))) ?_
  -- the four pieces
  refine Exs.cons (K' := fun f σ' μ' => f = .next ∧ Le (sg [("lexer", .obj X.I2), ("line", .obj Y.I2), ("word", .chr word)]) σ' ∧ ∃ r, r.length ≤ 1000 ∧ Chain r (jTok js) rend ∧ μ' = M2 Λ.Z.C X tx r Y ty ry ((ps.map (leafP word)).map pairD))
    (Ex1.for_ O (f := fun i σ => upd σ "k" (.int (i : Int)))
      (fun k σ' μ' => Le (sg [("lexer", .obj X.I2), ("line", .obj Y.I2), ("word", .chr word)]) σ' ∧ ∃ r, r.length ≤ 1000 ∧ Chain r (ps.drop k ++ jTok js) rend ∧ μ' = M2 Λ.Z.C X tx r Y ty ry (((ps.take k).map (leafP word)).map pairD))
      (Itr.upto Λ.S O (n := 4) Ev.cint (by decide)) (fun i μ' => Tgt.name O (.inl rfl)) ⟨Le.refl _, r0, hr0, hch0, rfl⟩ ?_ ?_) ?_ ?_
  · rintro k σ' _ hk ⟨hle, r, hr, hcr, rfl⟩
    have hk' : k < ps.length := by omega
    rw [List.drop_eq_getElem_cons hk', List.cons_append] at hcr
    obtain ⟨q, htq, hcq⟩ := chain_cons hcr
    obtain ⟨hp2, hps'⟩ := hps _ (List.getElem_mem hk')
    have hq1 : q.length ≤ 1000 := Nat.le_trans (tokF_len r htq).1 hr
    refine Exs.weaken (hle.upd _ _) ?_
    refine Exs.assignM O (.inl rfl) (getX Λ O hX htq hr hl6 (Ev.name O rfl rfl)) ?_
    rintro _ _ ⟨rfl, rfl⟩
    have hleaf := leaf_fn Λ.S word ps[k] (by omega) hp2 hws hps'
    rw [hw3] at hleaf
    refine Exs.exprM (pushY (K' := fun μ' => μ' = M2 Λ.Z.C X tx q Y ty ry (((ps.take (k + 1)).map (leafP word)).map pairD)) Λ O hcc hoc hl6 (Ev.name O rfl rfl)
      (EsM.of (Es.cons (Ev.tuple (Es.cons (En.ev (En.list (ds := [.str ps[k]]) (Es.cons (Ev.ofChr (Ev.name O rfl rfl)) Es.nil) (by simp; unfold sizeLine; omega))) (Es.cons (Ev.fn Λ.S O 20 hleaf (hl.le (by omega)) (Es.cons (Ev.ofChr (Ev.name O rfl rfl)) (Es.cons (Ev.ofChr (Ev.name O rfl rfl)) Es.nil))) Es.nil)) (by simp; unfold sizeLine; omega)) Es.nil)) ?_) (fun d μ' k' => Exs.nil ⟨_, ?_, Le.refl _, q, hq1, hcq, k'⟩)
    · rintro ds μ₁ ⟨rfl, rfl⟩
      refine ⟨_, _, rfl, rfl, by simp; omega, ?_⟩
      have e : ((ps.take (k + 1)).map (leafP word)).map pairD = ((ps.take k).map (leafP word)).map pairD ++ [pairD (leafP word ps[k])] := by
        rw [List.take_add_one, List.getElem?_eq_getElem hk', List.map_append, List.map_append]; rfl
      rw [e]; rfl
    · exact Le.cons rfl (Le.cons rfl (Le.cons rfl Le.nil))
  · rintro σ' _ ⟨hle, r, hr, hcr, rfl⟩
    rw [← hps4] at hcr
    rw [List.drop_length, List.nil_append] at hcr
    exact ⟨rfl, hle, r, hr, hcr, by rw [← hps4, List.take_length]⟩
  rotate_left
  · rintro f _ _ hn ⟨h, _⟩
    exact absurd h hn
  rintro σ' _ ⟨_, hle, r1, hr1, hch1, rfl⟩
  refine Exs.weaken hle ?_
  -- the three joins
  have hB0 : ∀ p ∈ ps.map (leafP word), Bnd 0 p := fun p hp => by
    obtain ⟨x, hx, rfl⟩ := List.mem_map.mp hp
    refine ⟨by simp [leafP, nbF], fun y hy => ?_⟩
    simp [leafP] at hy; subst hy
    exact (hps _ hx).1
  refine Exs.cons (K' := fun f σ' μ' => f = .next ∧ Le (sg [("lexer", .obj X.I2), ("line", .obj Y.I2), ("word", .chr word)]) σ' ∧ μ' = M2 Λ.Z.C X tx rend Y ty ry [pairD fin])
    (Ex1.for_ O (f := fun i σ => upd σ "waiting" (.int (4 + (i : Int) * (-1))))
      (fun t σ' μ' => Le (sg [("lexer", .obj X.I2), ("line", .obj Y.I2), ("word", .chr word)]) σ' ∧ ∃ r Q, r.length ≤ 1000 ∧ Chain r (jTok (js.drop t)) rend ∧ runRow (js.drop t) Q = [fin] ∧ Q.length = 4 - t ∧ (∀ p ∈ Q, Bnd t p) ∧ μ' = M2 Λ.Z.C X tx r Y ty ry (Q.map pairD))
      (Itr.range O (n := 3) (Rg.three O rfl Λ.S.range.1 Λ.S.range.2 Ev.cint Ev.cint (Ev.usub Ev.cint) (by decide)) (by decide) (by decide)) (fun i μ' => Tgt.name O (.inl rfl)) ⟨Le.refl _, r1, ps.map (leafP word), hr1, hch1, hfin, by simpa using hps4, hB0, rfl⟩ ?_ ?_) ?_ ?_
  · rintro t σ' _ ht ⟨hle, r, Q, hr, hcr, hrun, hQl, hQB, rfl⟩
    have ht' : t < js.length := by omega
    rw [List.drop_eq_getElem_cons ht'] at hcr hrun
    obtain ⟨pl, od, hjt⟩ : ∃ pl od, js[t] = (pl, od) := ⟨_, _, rfl⟩
    have hpl : pl < 3 - t := hjs t (pl, od) (by rw [List.getElem?_eq_getElem ht', hjt])
    rw [hjt] at hcr hrun
    have hcr' : Chain r ([48 + pl] :: (if od = 1 then concatL else addL) :: jTok (js.drop (t + 1))) rend := hcr
    obtain ⟨q1, hq1, hcr1⟩ := chain_cons hcr'
    obtain ⟨q2, hq2, hcr2⟩ := chain_cons hcr1
    have hl1 : q1.length ≤ 1000 := Nat.le_trans (tokF_len r hq1).1 hr
    have hl2 : q2.length ≤ 1000 := Nat.le_trans (tokF_len q1 hq2).1 hl1
    obtain ⟨A0, a, b, B0, rfl, hA0⟩ : ∃ A0 a b B0, Q = A0 ++ a :: b :: B0 ∧ A0.length = pl := by
      refine ⟨Q.take pl, Q[pl]'(by omega), Q[pl + 1]'(by omega), Q.drop (pl + 2), ?_, by rw [List.length_take]; omega⟩
      rw [← List.drop_eq_getElem_cons, ← List.drop_eq_getElem_cons, List.take_append_drop]
    have hBl : B0.length = 4 - t - pl - 2 := by simp at hQl; omega
    have hba : Bnd t a := hQB a (by simp)
    have hbb : Bnd t b := hQB b (by simp)
    obtain ⟨hn1, hn2⟩ := small_nb (t := t) (by omega)
    have ha1 := hba.1; have hb1 := hbb.1
    have hmul : a.1.length * b.1.length ≤ 15 * 15 := Nat.mul_le_mul (by omega) (by omega)
    refine Exs.weaken (hle.upd _ _) ?_
    -- place, deed
    refine Exs.assignM O (.inl rfl) (EvM.callG (K₁ := fun ds μ' => ds = [.str digits3, .chr [48 + pl]] ∧ μ' = M2 Λ.Z.C X tx q1 Y ty ry ((A0 ++ a :: b :: B0).map pairD)) (K' := fun d μ' => d = .int (pl : Int) ∧ μ' = M2 Λ.Z.C X tx q1 Y ty ry ((A0 ++ a :: b :: B0).map pairD)) (n := 2) O rfl (by obtain ⟨_, _, _, g, _⟩ := (Λ.S.has 5 (by decide)).ex; exact g) (fun hG => by obtain ⟨_, _, _, _, g⟩ := (Λ.S.has 5 (by decide)).ex; exact fnAt (g.obj hG))
      (EsM.cons (EvM.of (Ev.ofChr (Ev.cstr (l := digits3) rfl))) (fun d μ' h => by
        obtain ⟨rfl, rfl⟩ := h
        exact EsM.cons (getX Λ O hX hq1 hr hl6 (Ev.name O rfl rfl)) (fun d μ' h => by
          obtain ⟨rfl, rfl⟩ := h
          exact EsM.nilK ⟨rfl, rfl⟩) rfl) rfl) (hl.le (by omega)) (fun ds μ₁ h => by
        obtain ⟨rfl, rfl⟩ := h
        exact ⟨[], _, _, List.Perm.refl _, FnM.ofFn (index_fn Λ.S hnb pl (by omega)), fun d μ' ⟨x, y⟩ => ⟨x, by rw [y]; rfl⟩⟩)) ?_
    rintro _ _ ⟨rfl, rfl⟩
    refine Exs.assignM O (.inl rfl) (getX Λ O hX hq2 hl1 hl6 (Ev.name O rfl rfl)) ?_
    rintro _ _ ⟨rfl, rfl⟩
    -- up to the two neighbours
    have em1 : (A0 ++ a :: b :: B0).map pairD = A0.map pairD ++ (a :: b :: B0).map pairD := List.map_append
    rw [em1]
    refine turn_loop Λ O hcc hoc (A0.map pairD) ((a :: b :: B0).map pairD) (by simp at hQl ⊢; omega) hl6 (σ₀ := sg [("lexer", .obj X.I2), ("line", .obj Y.I2), ("word", .chr word), ("waiting", .int (4 + (t : Int) * (-1))), ("place", .int (pl : Int)), ("deed", .chr (if od = 1 then concatL else addL))]) rfl
      (Le.cons rfl (Le.cons rfl (Le.cons rfl (Le.cons rfl (Le.cons rfl (Le.cons rfl Le.nil)))))) rfl ?_ (fun σ' μ' p h => Ev.name O rfl (h _ _ rfl)) (fun σ' hle2 => ?_)
    · have : (A0.map pairD).length = pl := by rw [List.length_map]; exact hA0
      rw [this]
      exact Itr.upto Λ.S O (Ev.name O rfl rfl) (by omega)
    refine Exs.weaken hle2 ?_
    rw [show (a :: b :: B0).map pairD ++ A0.map pairD = pairD a :: pairD b :: ((B0 ++ A0).map pairD) by simp]
    refine Exs.assignM O (.inl rfl) (getY Λ O hcc hoc (by simp at hQl ⊢; omega) hl6 (Ev.name O rfl rfl)) ?_
    rintro _ _ ⟨rfl, rfl⟩
    refine Exs.assignM O (.inr ⟨rfl, rfl⟩) (getY Λ O hcc hoc (by simp at hQl ⊢; omega) hl6 (Ev.name O rfl rfl)) ?_
    rintro _ _ ⟨rfl, rfl⟩
    refine Exs.weaken (σ' := sg [("lexer", .obj X.I2), ("line", .obj Y.I2), ("word", .chr word), ("waiting", .int (4 + (t : Int) * (-1))), ("place", .int (pl : Int)), ("deed", .chr (if od = 1 then concatL else addL)), ("one", pairD a), ("two", pairD b)]) (Le.cons rfl (Le.cons rfl (Le.cons rfl (Le.cons rfl (Le.cons rfl (Le.cons rfl (Le.cons rfl (Le.cons rfl Le.nil)))))))) ?_
    refine Exs.cons (K' := fun f σ' μ' => f = .next ∧ Le (sg [("lexer", .obj X.I2), ("line", .obj Y.I2), ("word", .chr word), ("waiting", .int (4 + (t : Int) * (-1))), ("place", .int (pl : Int))]) σ' ∧ μ' = M2 Λ.Z.C X tx q2 Y ty ry ((B0 ++ A0).map pairD ++ [pairD (joinP od a b)])) (Ex1.ite (c := (if od = 1 then concatL else addL) == addL) (Ts.val (Ev.fn Λ.S O 2 (eq_fn Λ.S _ _) (hl.le (by omega)) (Es.cons (Ev.ofChr (Ev.name O rfl rfl)) (Es.cons (Ev.ofChr (Ev.cstr (l := addL) rfl)) Es.nil))) Tru.cbool) (fun h => ?_) fun h => ?_) ?_ ?_
    · have hod : od ≠ 1 := fun z => by rw [if_pos z] at h; exact absurd h (by decide)
      have hj : joinP od a b = (prodT a.1 b.1, bothT a.2 b.2) := by unfold joinP; rw [if_neg hod]
      rw [hj]
      refine Exs.assignComp O rfl (ds := (prodT a.1 b.1).map .str) ?_ ?_
      · rw [← flat_prod]
        have hfl : (flat (fun i => (List.range b.1.length).map fun j => D.str (a.1[i]?.getD [] ++ b.1[j]?.getD [])) a.1.length).length ≤ sizeLine := by
          rw [flat_prod, List.length_map, prodT_len]; unfold sizeLine; omega
        have ia : ∀ {p1 p2 p3 : Pos} {k0 : Nat}, Itr W (wC Λ.S A L P pm cd doc) (sg [("lexer", .obj X.I2), ("line", .obj Y.I2), ("word", .chr word), ("waiting", .int (4 + (t : Int) * (-1))), ("place", .int (pl : Int)), ("deed", .chr (if od = 1 then concatL else addL)), ("one", pairD a), ("two", pairD b)]) (M2 Λ.Z.C X tx q2 Y ty ry ((B0 ++ A0).map pairD)) (.Subscript (.Name "one" p1) (.Constant (.int 0) k0 p2) p3) a.1.length (fun i => (a.1.map D.str)[i]?.getD .none) := by
          intro p1 p2 p3 k0
          have := Itr.list (W := W) (σ := (sg [("lexer", .obj X.I2), ("line", .obj Y.I2), ("word", .chr word), ("waiting", .int (4 + (t : Int) * (-1))), ("place", .int (pl : Int)), ("deed", .chr (if od = 1 then concatL else addL)), ("one", pairD a), ("two", pairD b)])) (μ := M2 Λ.Z.C X tx q2 Y ty ry ((B0 ++ A0).map pairD)) O (Ev.sub (pos := p3) (Ev.name O (x := "one") (pos := p1) rfl rfl) (Ev.cint (i := 0) (k := k0) (pos := p2)) (Op2.itemT (l := [.lst (a.1.map .str), tabD 4 a.2]) (d := .lst (a.1.map .str)) rfl (by decide) (by decide)))
          rwa [List.length_map] at this
        refine Cp.two O (cl := [("two", L + 1)]) (m := b.1.length) (ud := fun i => (b.1.map D.str)[i]?.getD .none) (sg [("two", pairD b)]) ia hfl rfl (fromOuter.cons rfl (.inl rfl) fromOuter.nil) (Le.cons rfl Le.nil) (sgF_cons rfl sgF_nil) rfl rfl (by decide) ?_ ?_
        · intro L' ad xs i hi O'
          have e : (b.1.map D.str).length = b.1.length := List.length_map ..
          rw [← e]
          exact Itr.list O' (Ev.sub (Ev.cellName O' (x := "two") rfl rfl rfl) Ev.cint (Op2.itemT (l := [.lst (b.1.map .str), tabD 4 b.2]) (d := .lst (b.1.map .str)) rfl (by decide) (by decide)))
        · intro L' ad xs i j hi hj' O'
          have e1 : (a.1.map D.str)[i]?.getD .none = .str (a.1[i]?.getD []) := by rw [List.getElem?_map, List.getElem?_eq_getElem hi]; rfl
          have e2 : (b.1.map D.str)[j]?.getD .none = .str (b.1[j]?.getD []) := by rw [List.getElem?_map, List.getElem?_eq_getElem hj']; rfl
          rw [e1, e2]
          have l1 : (a.1[i]?.getD []).length ≤ 8 := by rw [List.getElem?_eq_getElem hi]; exact Nat.le_trans (hba.2 _ (List.getElem_mem hi)) hn2
          have l2 : (b.1[j]?.getD []).length ≤ 8 := by rw [List.getElem?_eq_getElem hj']; exact Nat.le_trans (hbb.2 _ (List.getElem_mem hj')) hn2
          exact Ev.fn Λ.S O' 3 (addS_fn Λ.S _ _ (by unfold sizeLine; omega)) (hl.le (by omega)) (Es.cons (Ev.name O' rfl rfl) (Es.cons (Ev.name O' rfl rfl) Es.nil))
      · refine Exs.exprM (pushY (K' := fun μ' => μ' = M2 Λ.Z.C X tx q2 Y ty ry ((B0 ++ A0).map pairD ++ [pairD (prodT a.1 b.1, bothT a.2 b.2)])) Λ O hcc hoc hl6 (Ev.name O rfl rfl)
          (EsM.of (Es.cons (Ev.tuple (Es.cons (Ev.name O rfl rfl) (Es.cons (Ev.fn Λ.S O 22 (both_fn Λ.S 4 a.2 b.2 (by decide)) (hl.le (by omega)) (Es.cons (Ev.sub (Ev.name O rfl rfl) Ev.cint (Op2.itemT rfl (by decide) (by decide))) (Es.cons (Ev.sub (Ev.cellName O rfl rfl rfl) Ev.cint (Op2.itemT rfl (by decide) (by decide))) Es.nil))) Es.nil)) (by simp; unfold sizeLine; omega)) Es.nil)) ?_) (fun d μ' k' => Exs.nil ⟨rfl, ?_, k'⟩)
        · rintro ds μ₁ ⟨rfl, rfl⟩
          exact ⟨_, _, rfl, rfl, by simp at hQl ⊢; omega, rfl⟩
        · exact Le.cons rfl (Le.cons rfl (Le.cons rfl (Le.cons rfl (Le.cons rfl Le.nil))))
    · have hod : od = 1 := Decidable.byContradiction fun z => by rw [if_neg z] at h; exact absurd h (by decide)
      have hj : joinP od a b = (a.1 ++ b.1, eitherT a.2 b.2) := by unfold joinP; rw [if_pos hod]
      rw [hj]
      have hcat : Fn W (Λ.S.f 4) 1 [.lst (a.1.map .str), .lst (b.1.map .str)] (.lst ((a.1 ++ b.1).map .str)) := by
        have := concat_fn Λ.S (a.1.map D.str) (b.1.map D.str) (by simp; unfold sizeLine; omega)
        rwa [← List.map_append] at this
      refine Exs.exprM (pushY (K' := fun μ' => μ' = M2 Λ.Z.C X tx q2 Y ty ry ((B0 ++ A0).map pairD ++ [pairD (a.1 ++ b.1, eitherT a.2 b.2)])) Λ O hcc hoc hl6 (Ev.name O rfl rfl)
          (EsM.of (Es.cons (Ev.tuple (Es.cons (Ev.fn Λ.S O 4 hcat (hl.le (by omega)) (Es.cons (Ev.sub (Ev.name O rfl rfl) Ev.cint (Op2.itemT rfl (by decide) (by decide))) (Es.cons (Ev.sub (Ev.cellName O rfl rfl rfl) Ev.cint (Op2.itemT rfl (by decide) (by decide))) Es.nil))) (Es.cons (Ev.fn Λ.S O 21 (either_fn Λ.S 4 a.2 b.2 (by decide)) (hl.le (by omega)) (Es.cons (Ev.sub (Ev.name O rfl rfl) Ev.cint (Op2.itemT rfl (by decide) (by decide))) (Es.cons (Ev.sub (Ev.cellName O rfl rfl rfl) Ev.cint (Op2.itemT rfl (by decide) (by decide))) Es.nil))) Es.nil)) (by simp; unfold sizeLine; omega)) Es.nil)) ?_) (fun d μ' k' => Exs.nil ⟨rfl, ?_, k'⟩)
      · rintro ds μ₁ ⟨rfl, rfl⟩
        exact ⟨_, _, rfl, rfl, by simp at hQl ⊢; omega, rfl⟩
      · exact Le.cons rfl (Le.cons rfl (Le.cons rfl (Le.cons rfl (Le.cons rfl Le.nil))))
    rotate_left
    · rintro f _ _ hn ⟨h, _⟩
      exact absurd h hn
    rintro σ' _ ⟨_, hle3, rfl⟩
    rw [show (B0 ++ A0).map pairD ++ [pairD (joinP od a b)] = B0.map pairD ++ (A0 ++ [joinP od a b]).map pairD by simp]
    refine turn_loop Λ O hcc hoc (B0.map pairD) ((A0 ++ [joinP od a b]).map pairD) (by simp at hQl ⊢; omega) hl6 rfl hle3 rfl ?_ (fun σ' μ' p h => Ev.name O rfl (h _ _ rfl)) (fun σ' hle4 => ?_)
    · rw [List.length_map]
      have e : (4 + (t : Int) * (-1)) - (pl : Int) - 2 = (B0.length : Int) := by rw [hBl]; omega
      refine Itr.upto Λ.S O (n := B0.length) ?_ (by omega)
      rw [← e]
      exact Ev.binop (Ev.binop (Ev.name O rfl (hle3 _ _ rfl)) (Ev.name O rfl (hle3 _ _ rfl)) Op2.subI) Ev.cint Op2.subI
    · refine Exs.nil ⟨_, hle4, ?_, q2, A0 ++ joinP od a b :: B0, hl2, hcr2, ?_, by simp at hQl ⊢; omega, fun p hp => ?_, by simp⟩
      · intro x d e
        have : Le (sg [("lexer", .obj X.I2), ("line", .obj Y.I2), ("word", .chr word)]) (sg [("lexer", .obj X.I2), ("line", .obj Y.I2), ("word", .chr word), ("waiting", .int (4 + (t : Int) * (-1))), ("place", .int (pl : Int))]) := Le.cons rfl (Le.cons rfl (Le.cons rfl Le.nil))
        exact this x d e
      · rw [runRow, stepRow_eq _ hA0] at hrun
        exact hrun
      · simp at hp
        rcases hp with hp | hp | hp
        · exact (hQB p (by simp [hp])).up
        · subst hp; exact hba.join hbb
        · exact (hQB p (by simp [hp])).up
  · rintro σ' _ ⟨hle, r, Q, hr, hcr, hrun, hQl, hQB, rfl⟩
    rw [← hjs3, List.drop_length] at hcr hrun
    cases hcr
    rw [runRow] at hrun
    subst hrun
    exact ⟨rfl, hle, rfl⟩
  · rintro σ' _ ⟨_, hle, rfl⟩
    refine Exs.weaken hle (Exs.retM (EvM.tuple (K := fun ds μ' => ds = [.chr word, pairD fin] ∧ μ' = M2 Λ.Z.C X tx rend Y ty ry []) (K' := fun d μ' => d = .tup [.chr word, pairD fin] ∧ μ' = M2 Λ.Z.C X tx rend Y ty ry []) (EsM.cons (EvM.of (Ev.name O rfl rfl)) (fun d μ' h => by
      obtain ⟨rfl, rfl⟩ := h
      exact EsM.cons (getY Λ O hcc hoc (by simp) hl6 (Ev.name O rfl rfl)) (fun d μ' h => by
        obtain ⟨rfl, rfl⟩ := h
        exact EsM.nilK ⟨rfl, rfl⟩) rfl) rfl) (fun ds μ' h => by obtain ⟨rfl, rfl⟩ := h; exact ⟨by simp; unfold sizeLine; omega, rfl, rfl⟩)) (fun d μ' h => ⟨d, .inl rfl, h⟩))
  · rintro f _ _ hn ⟨h, _⟩
    exact absurd h hn
end
end Mine

namespace Mine
theorem L_take (c : Nat) (x : List Nat) : ∀ (y : List Nat) (i : Nat) (hi : i < y.length), wt c y[i] + L x (y.drop (i + 1)) ≤ L (c :: x) y
  | d :: y, 0, _ => by rw [L_cons]; simp only [List.getElem_cons_zero, List.drop_succ_cons, List.drop_zero]; omega
  | d :: y, i + 1, hi => by
    have h := L_take c x y i (by simpa using hi)
    have h2 := L_up_r d (c :: x) y
    simp only [List.getElem_cons_succ, List.drop_succ_cons]
    omega
theorem L_least (c : Nat) (x : List Nat) (B : Nat) : ∀ (y : List Nat), L x y ≤ B → (∀ i (hi : i < y.length), wt c y[i] + L x (y.drop (i + 1)) ≤ B) → L (c :: x) y ≤ B
  | [], _, _ => by rw [L_nil_r]; omega
  | d :: y, h0, hs => by
    have h1 := L_least c x B y (Nat.le_trans (L_up_r d x y) h0) fun i hi => by
      have := hs (i + 1) (by simpa using hi)
      simpa using this
    have h2 := hs 0 (by simp)
    simp at h2
    rw [L_cons]
    omega
noncomputable def mxF (c : Nat) (x y : List Nat) : Nat → Nat
  | 0 => L x y
  | k + 1 => max (mxF c x y k) (wt c (y[k]?.getD 0) + L x (y.drop (k + 1)))
theorem mxF_le (c : Nat) (x y : List Nat) : ∀ k, k ≤ y.length → mxF c x y k ≤ L (c :: x) y
  | 0, _ => L_up c x y
  | k + 1, h => by
    have h1 := mxF_le c x y k (by omega)
    have h2 := L_take c x y k (by omega)
    rw [mxF, List.getElem?_eq_getElem (by omega : k < y.length), Option.getD_some]
    omega
theorem mxF_ge (c : Nat) (x y : List Nat) : ∀ k, L x y ≤ mxF c x y k ∧ ∀ i, i < k → wt c (y[i]?.getD 0) + L x (y.drop (i + 1)) ≤ mxF c x y k
  | 0 => ⟨Nat.le_refl _, fun i h => by omega⟩
  | k + 1 => by
    obtain ⟨h1, h2⟩ := mxF_ge c x y k
    refine ⟨by rw [mxF]; omega, fun i hi => ?_⟩
    rw [mxF]
    by_cases h : i = k
    · subst h; omega
    · have := h2 i (by omega); omega
theorem mxF_full (c : Nat) (x y : List Nat) : mxF c x y y.length = L (c :: x) y := by
  refine Nat.le_antisymm (mxF_le c x y _ (Nat.le_refl _)) ?_
  obtain ⟨h1, h2⟩ := mxF_ge c x y y.length
  refine L_least c x _ y h1 fun i hi => ?_
  have := h2 i hi
  rwa [List.getElem?_eq_getElem hi, Option.getD_some] at this

section
variable {prog : Program} {w : World} {W : Glob prog w} {C : Act} {σ : Sg} {μ : Mu}

theorem aA_low₀ : ∀ c ∈ sgn6, ∀ d ∈ sgn6, c ≠ d → ((low c = low d) ↔ (c ∈ ([97, 65] : List Nat) ∧ d ∈ ([97, 65] : List Nat))) := by decide
theorem aA_low {c d : Nat} (hc : c ∈ sgn6) (hd : d ∈ sgn6) (h : c ≠ d) : (low c = low d) ↔ (c ∈ ([97, 65] : List Nat) ∧ d ∈ ([97, 65] : List Nat)) := aA_low₀ c hc d hd h

theorem saved_fn (S : Pr W) : ∀ (x y : List Nat), x.length ≤ 3 → y.length ≤ 40 → (∀ c ∈ x, c ∈ sgn6) → (∀ c ∈ y, c ∈ sgn6) → Fn W (S.f 25) (x.length + 1) [.str x, .str y] (.int (L x y : Nat))
  | [], y, hx, hy, hxs, hys => by
    refine Fn.def_ S 25 ["x", "y"] (fun A L₀ P bsz pm cd doc O hl => ?_) (by intro pm cd doc vals hv; obtain ⟨x, y, rfl⟩ := len2 hv; rfl)
    refine Exs.ite (c := true) (Ts.or2 (b := true) (c := false) (Ts.cmp (Ev.name O rfl rfl) (Ev.ofChr (Ev.cstr (l := []) rfl)) (Op2.eqS (x := []) (y := []))) (fun h => nomatch h)) (fun _ => ?_) (fun h => nomatch h)
    rw [L_nil]
    exact Exs.ret Ev.cint (.inl rfl)
  | c :: x, y, hx, hy, hxs, hys => by
    have ih1 := saved_fn S x
    refine Fn.def_ S 25 ["x", "y"] (fun A L₀ P bsz pm cd doc O hl => ?_) (by intro pm cd doc vals hv; obtain ⟨x, y, rfl⟩ := len2 hv; rfl)
    have hx' : x.length ≤ 3 := by simp at hx; omega
    have hxs' : ∀ e ∈ x, e ∈ sgn6 := fun e he => hxs e (List.mem_cons_of_mem _ he)
    have hcs : c ∈ sgn6 := hxs c List.mem_cons_self
    have hlx : (c :: x).length ≤ sizeLine := lenLe (by omega)
    have hly : y.length ≤ sizeLine := lenLe hy
    have hx0 : ((c :: x : List Nat) == []) = false := rfl
    refine Exs.ite (Ts.or2 (b := false) (c := decide (y = [])) (Ts.cmp (Ev.name O rfl rfl) (Ev.ofChr (Ev.cstr (l := []) rfl)) (hx0 ▸ Op2.eqS)) (fun _ => Ts.cmp (Ev.name O rfl rfl) (Ev.ofChr (Ev.cstr (l := []) rfl)) (by
      have e : (y == []) = decide (y = []) := by by_cases h : y = [] <;> simp [h]
      rw [← e]; exact Op2.eqS))) (fun h => ?_) fun h => ?_
    · have hy0 : y = [] := by simpa using h
      subst hy0
      rw [L_nil_r]
      exact Exs.ret Ev.cint (.inl rfl)
    refine Exs.nil (Exs.assign O (.inl rfl) (Ev.fn S O 25 (ih1 y hx' hy hxs' hys) (hl.le (by simp)) (Es.cons (Ev.from_ (q := 1) (Ev.name O rfl rfl) Ev.cint hlx) (Es.cons (Ev.name O rfl rfl) Es.nil))) ?_)
    refine Exs.cons (K' := fun f σ' μ' => f = .next ∧ μ' = [] ∧ Le (sg [("x", .str (c :: x)), ("y", .str y), ("most", .int (L (c :: x) y : Nat))]) σ')
      (Ex1.for_ O (f := fun i σ => upd σ "k" (.int (i : Int))) (fun k σ' μ' => μ' = [] ∧ Le (sg [("x", .str (c :: x)), ("y", .str y), ("most", .int (mxF c x y k : Nat))]) σ')
        (Itr.upto S O (n := y.length) (Ev.callB O rfl S.len.1 S.len.2 (Es.cons (Ev.name O rfl rfl) Es.nil) (OpN.lenS hly) (by intro h; cases h)) (by omega)) (fun i μ' => Tgt.name O (.inl rfl)) ⟨rfl, Le.cons rfl (Le.cons rfl (Le.cons rfl Le.nil))⟩ ?_ ?_) ?_ ?_
    · rintro k σ' _ hk ⟨rfl, hle⟩
      refine Exs.weaken (hle.upd _ _) ?_
      have hds : y[k] ∈ sgn6 := hys _ (List.getElem_mem hk)
      have x0 : ∀ {σ : Sg} {p p' : Pos} {k' : Nat} {p2 : Pos}, Ev W (mkC A (Calls.docDef (fNm (stm 25)) (fPar (stm 25)) (fBody (stm 25)) (fSco (stm 25)) pm cd doc) L₀ (S.f 25) P bsz) σ [] (.Name "x" p) (.str (c :: x)) → Ev W (mkC A (Calls.docDef (fNm (stm 25)) (fPar (stm 25)) (fBody (stm 25)) (fSco (stm 25)) pm cd doc) L₀ (S.f 25) P bsz) σ [] (.Subscript (.Name "x" p) (.Constant (.int 0) k' p2) p') (.str [c]) := fun h =>
        Ev.ofChr (Ev.sub h Ev.cint (Op2.itemS hlx (at?_nat (l := c :: x) (j := 0) (c := c) rfl)))
      have yk : ∀ {σ : Sg} {p p' p2 : Pos}, Ev W (mkC A (Calls.docDef (fNm (stm 25)) (fPar (stm 25)) (fBody (stm 25)) (fSco (stm 25)) pm cd doc) L₀ (S.f 25) P bsz) σ [] (.Name "y" p) (.str y) → Ev W (mkC A (Calls.docDef (fNm (stm 25)) (fPar (stm 25)) (fBody (stm 25)) (fSco (stm 25)) pm cd doc) L₀ (S.f 25) P bsz) σ [] (.Name "k" p2) (.int (k : Int)) → Ev W (mkC A (Calls.docDef (fNm (stm 25)) (fPar (stm 25)) (fBody (stm 25)) (fSco (stm 25)) pm cd doc) L₀ (S.f 25) P bsz) σ [] (.Subscript (.Name "y" p) (.Name "k" p2) p') (.str [y[k]]) := fun h h' =>
        Ev.ofChr (Ev.sub h h' (Op2.itemS hly (at?_nat (List.getElem?_eq_getElem hk))))
      refine Exs.assign O (.inl rfl) (d := .int (wt c y[k] : Nat)) (Ev.ifexp (c := decide (c = y[k])) (Ts.cmp (x0 (Ev.name O rfl rfl)) (yk (Ev.name O rfl rfl) (Ev.name O rfl rfl)) (by rw [← beq_one]; exact Op2.eqS)) (fun h => ?_) fun h => ?_) ?_
      · have e : wt c y[k] = 4 := by unfold wt; rw [if_pos (of_decide_eq_true h)]
        rw [e]; exact Ev.cint
      · have hne := of_decide_eq_false h
        refine Ev.ifexp (Ts.and2 (Ts.cmp (x0 (Ev.name O rfl rfl)) (Ev.ofChr (Ev.cstr (l := [97, 65]) rfl)) Op2.inS) (fun _ => Ts.cmp (yk (Ev.name O rfl rfl) (Ev.name O rfl rfl)) (Ev.ofChr (Ev.cstr (l := [97, 65]) rfl)) Op2.inS)) (fun h2 => ?_) fun h2 => ?_
        · rw [Bool.and_eq_true, decide_eq_true_eq, decide_eq_true_eq] at h2
          have e : wt c y[k] = 3 := by unfold wt; rw [if_neg hne, if_pos ((aA_low hcs hds hne).mpr h2)]
          rw [e]; exact Ev.cint
        · have h3 : ¬ (c ∈ ([97, 65] : List Nat) ∧ y[k] ∈ ([97, 65] : List Nat)) := fun z => by
            rw [decide_eq_true z.1, decide_eq_true z.2] at h2; cases h2
          have e : wt c y[k] = 2 := by unfold wt; rw [if_neg hne, if_neg fun z => h3 ((aA_low hcs hds hne).mp z)]
          rw [e]; exact Ev.cint
      · have ih2 := ih1 (y.drop (k + 1)) hx' (by rw [List.length_drop]; omega) hxs' (fun e he => hys e (List.mem_of_mem_drop he))
        refine Exs.assign O (.inl rfl) (Ev.callB O rfl S.max.1 S.max.2 (Es.cons (Ev.name O rfl rfl) (Es.cons (Ev.binop (Ev.name O rfl rfl) (Ev.fn S O 25 ih2 (hl.le (by simp)) (Es.cons (Ev.from_ (q := 1) (Ev.name O rfl rfl) Ev.cint hlx) (Es.cons (Ev.from_ (q := k + 1) (Ev.name O rfl rfl) (Ev.binop (Ev.name O rfl rfl) Ev.cint Op2.addI) hly) Es.nil))) Op2.addI) Es.nil)) (OpN.max2 O) (by intro h; cases h)) (Exs.nil ⟨_, ?_, rfl, Le.refl _⟩)
        have e : (if (wt c y[k] : Nat) + ((L x (y.drop (k + 1)) : Nat) : Int) > ((mxF c x y k : Nat) : Int) then ((wt c y[k] : Nat) : Int) + ((L x (y.drop (k + 1)) : Nat) : Int) else ((mxF c x y k : Nat) : Int)) = ((mxF c x y (k + 1) : Nat) : Int) := by
          rw [mxF, List.getElem?_eq_getElem hk, Option.getD_some]
          split <;> omega
        refine Le.cons rfl (Le.cons rfl (Le.cons ?_ Le.nil))
        rw [← e]; rfl
    · rintro σ' _ ⟨rfl, hle⟩
      rw [mxF_full] at hle
      exact ⟨rfl, rfl, hle⟩
    · rintro σ' _ ⟨_, rfl, hle⟩
      exact Exs.weaken hle (Exs.ret (Ev.name O rfl rfl) (.inl rfl))
    · rintro f _ _ hn ⟨h, _⟩
      exact absurd h hn
end
end Mine

namespace Mine
noncomputable def joinT (o : Nat) (a b : List (List Nat)) : List (List Nat) := if o = 1 then a ++ b else prodT a b
noncomputable def runT : List (Nat × Nat) → List (List (List Nat)) → List (List (List Nat))
  | [], R => R
  | (p, o) :: js, R => runT js (stepRow (joinT o) p R)
noncomputable abbrev jD (j : Nat × Nat) : D := .tup [.int (j.1 : Int), .int (j.2 : Int)]
noncomputable abbrev rowD1 (ts : List (List Nat)) : D := .lst (ts.map .str)
noncomputable abbrev rowsD (R : List (List (List Nat))) : D := .lst (R.map rowD1)
theorem joinP_fst (o : Nat) (a b : Pair) : (joinP o a b).1 = joinT o a.1 b.1 := by unfold joinP joinT; split <;> rfl
theorem BndJ {t o : Nat} {a b : List (List Nat)} {T U : Nat → Nat → Int} (ha : Bnd t (a, T)) (hb : Bnd t (b, U)) {V : Nat → Nat → Int} : Bnd (t + 1) (joinT o a b, V) := by
  have h := ha.join (o := o) hb
  unfold Bnd at h ⊢
  rw [joinP_fst] at h
  exact h

section
variable {prog : Program} {w : World} {W : Glob prog w} {C : Act} {σ : Sg} {μ : Mu}
theorem Itr.congr {e : Expr} {n : Nat} {vd vd' : Nat → D} (h : Itr W C σ μ e n vd) (hv : ∀ i, i < n → vd i = vd' i) : Itr W C σ μ e n vd' := by
  refine ⟨fun s Q E R hQ => h.run s Q E R fun I s' fp P St y fr it => hQ I s' fp P St y fr ?_⟩
  exact ⟨it.walks, it.st, it.off, it.n0, it.isI, it.cls, fun i v hP hi μ' s'' car => hv i hi ▸ it.val i v hP hi μ' s'' car, it.own⟩

theorem Itr.listMap (O : C.Ok) {α : Type} {e : Expr} (f : α → D) (d0 : α) (xs : List α) (he : Ev W C σ μ e (.lst (xs.map f))) : Itr W C σ μ e xs.length (fun i => f (xs[i]?.getD d0)) := by
  have h := Itr.list O he
  rw [List.length_map] at h
  refine h.congr fun i hi => ?_
  rw [List.getElem?_map, List.getElem?_eq_getElem hi]; rfl
theorem range_mapG {α β : Type} (l : List α) (d : α) (f : α → β) : (List.range l.length).map (fun i => f (l[i]?.getD d)) = l.map f := by
  apply List.ext_getElem?
  intro i
  rw [List.getElem?_map, List.getElem?_map]
  by_cases h : i < l.length
  · rw [List.getElem?_range h, List.getElem?_eq_getElem h]; simp [List.getElem?_eq_getElem h]
  · rw [List.getElem?_eq_none (l := List.range l.length) (by simpa using h), List.getElem?_eq_none (l := l) (by simpa using h)]; rfl

set_option maxHeartbeats 1000000 in
theorem texts_fn (S : Pr W) (ps : List (List Nat)) (hps4 : ps.length = 4) (hps : ∀ p ∈ ps, p.length ≤ 2) (js : List (Nat × Nat)) (hjs3 : js.length = 3) (hjs : ∀ t p, js[t]? = some p → p.1 < 3 - t) (fin : List (List Nat)) (hfin : runT js (ps.map fun p => [p]) = [fin]) :
    Fn W (S.f 24) 2 [.lst (ps.map .str), .lst (js.map jD)] (rowD1 fin) := by
  refine Fn.def_ S 24 ["pieces", "joins"] (fun A L P bsz pm cd doc O hl => ?_) (by intro pm cd doc vals hv; obtain ⟨x, y, rfl⟩ := len2 hv; rfl)
  refine Exs.assign O (.inr ⟨rfl, rfl⟩) (d := rowsD (ps.map fun p => [p])) (En.ev (En.comp ?_)) ?_
  · have e : (ps.map fun p => [p]).map rowD1 = (List.range ps.length).map fun i => rowD1 [ps[i]?.getD []] := by
      rw [List.map_map]; exact (range_mapG ps [] (fun p => rowD1 [p])).symm
    rw [e]
    refine Cp.one O (cl := []) (sg []) (Itr.listMap O D.str [] ps (Ev.name O rfl rfl)) (by unfold sizeLine; omega) rfl fromOuter.nil Le.nil sgF_nil rfl fun L' a xs i hi O' => ?_
    exact En.ev (En.list (Es.cons (Ev.name O' rfl rfl) Es.nil) (by simp; unfold sizeLine; omega))
  have hB0 : ∀ ts ∈ ps.map (fun p => [p]), Bnd 0 (ts, fun _ _ => 0) := fun ts hts => by
    obtain ⟨x, hx, rfl⟩ := List.mem_map.mp hts
    refine ⟨by simp [nbF], fun y hy => ?_⟩
    simp at hy; subst hy
    exact hps _ hx
  refine Exs.cons (K' := fun f σ' μ' => f = .next ∧ Le (sg [("rows", rowsD [fin])]) σ' ∧ μ' = [])
    (Ex1.for_ O (f := fun i σ => upd (upd σ "place" (.int ((js[i]?.getD (0, 0)).1 : Int))) "odd" (.int ((js[i]?.getD (0, 0)).2 : Int)))
      (fun t σ' μ' => ∃ R, runT (js.drop t) R = [fin] ∧ R.length = 4 - t ∧ (∀ ts ∈ R, Bnd t (ts, fun _ _ => 0)) ∧ Le (sg [("rows", rowsD R)]) σ' ∧ μ' = [])
      (Itr.listMap O jD (0, 0) js (Ev.name O rfl rfl)) (fun i μ' => Tgt.pair O (.inr ⟨rfl, rfl⟩) (.inl rfl)) ⟨_, hfin, by simpa using hps4, hB0, Le.cons rfl Le.nil, rfl⟩ ?_ ?_) ?_ ?_
  · rintro t σ' _ ht ⟨R, hrun, hRl, hRB, hle, rfl⟩
    obtain ⟨pl, od, hjt⟩ : ∃ pl od, js[t] = (pl, od) := ⟨_, _, rfl⟩
    have hpl : pl < 3 - t := hjs t (pl, od) (by rw [List.getElem?_eq_getElem ht, hjt])
    rw [List.drop_eq_getElem_cons ht, hjt] at hrun
    rw [List.getElem?_eq_getElem ht, hjt]
    obtain ⟨A0, a, b, B0, rfl, hA0⟩ : ∃ A0 a b B0, R = A0 ++ a :: b :: B0 ∧ A0.length = pl := by
      refine ⟨R.take pl, R[pl]'(by omega), R[pl + 1]'(by omega), R.drop (pl + 2), ?_, by rw [List.length_take]; omega⟩
      rw [← List.drop_eq_getElem_cons, ← List.drop_eq_getElem_cons, List.take_append_drop]
    have hba := hRB a (by simp)
    have hbb := hRB b (by simp)
    obtain ⟨hn1, hn2⟩ := small_nb (t := t) (by omega)
    have ha1 : a.length ≤ nbF t := hba.1
    have hb1 : b.length ≤ nbF t := hbb.1
    have hmul : a.length * b.length ≤ 15 * 15 := Nat.mul_le_mul (by omega) (by omega)
    have hra : ((A0 ++ a :: b :: B0).map rowD1)[((pl : Nat) : Int).toNat]? = some (rowD1 a) := by
      rw [Int.toNat_natCast, List.map_append, List.getElem?_append_right (by simp; omega)]; simp [hA0]
    have hrb : ((A0 ++ a :: b :: B0).map rowD1)[((pl + 1 : Nat) : Int).toNat]? = some (rowD1 b) := by
      rw [Int.toNat_natCast, List.map_append, List.getElem?_append_right (by simp; omega)]; simp [hA0]
    have hRl' : ((A0 ++ a :: b :: B0).map rowD1).length ≤ sizeLine := by rw [List.length_map, hRl]; unfold sizeLine; omega
    refine Exs.weaken (σ' := sg [("rows", rowsD (A0 ++ a :: b :: B0)), ("place", .int (pl : Int)), ("odd", .int (od : Int))]) ?_ ?_
    · exact Le.cons (by rw [upd_upd_ne (by decide) (by decide)]; exact hle _ _ rfl) (Le.cons rfl (Le.cons rfl Le.nil))
    refine Exs.cons (K' := fun f σ' μ' => f = .next ∧ Le (sg [("rows", rowsD (A0 ++ a :: b :: B0)), ("place", .int (pl : Int)), ("joined", rowD1 (joinT od a b))]) σ' ∧ μ' = []) (Ex1.ite (c := decide (od = 1)) (Ts.cmp (Ev.name O rfl rfl) Ev.cint (by
        have e : (((od : Nat) : Int) == 1) = decide (od = 1) := by
          by_cases h : od = 1
          · subst h; rfl
          · simp [h]; omega
        rw [← e]; exact Op2.eqI)) (fun h => ?_) fun h => ?_) ?_ ?_
    · have hod := of_decide_eq_true h
      have hj : joinT od a b = a ++ b := by unfold joinT; rw [if_pos hod]
      rw [hj]
      refine Exs.assign O (.inl rfl) (d := rowD1 (a ++ b)) ?_ (Exs.nil ⟨rfl, Le.cons rfl (Le.cons rfl (Le.cons rfl Le.nil)), rfl⟩)
      have hadd := Op2.addL (W := W) (C := mkC A (Calls.docDef (fNm (stm 24)) (fPar (stm 24)) (fBody (stm 24)) (fSco (stm 24)) pm cd doc) L (S.f 24) P bsz) (σ := sg [("rows", rowsD (A0 ++ a :: b :: B0)), ("place", .int (pl : Int)), ("odd", .int (od : Int))]) (μ := []) (x := a.map D.str) (y := b.map D.str) (by simp; unfold sizeLine; omega)
      rw [← List.map_append] at hadd
      exact Ev.binop (Ev.sub (Ev.cellName O rfl rfl rfl) (Ev.cellName O rfl rfl rfl) (Op2.itemL hra (by omega) (by omega))) (Ev.sub (Ev.cellName O rfl rfl rfl) (Ev.binop (Ev.cellName O rfl rfl rfl) Ev.cint Op2.addI) (Op2.itemL hrb (by omega) (by omega))) hadd
    · have hod := of_decide_eq_false h
      have hj : joinT od a b = prodT a b := by unfold joinT; rw [if_neg hod]
      rw [hj]
      refine Exs.assignComp O rfl (ds := (prodT a b).map .str) ?_ (Exs.nil ⟨rfl, Le.cons rfl (Le.cons rfl (Le.cons rfl Le.nil)), rfl⟩)
      rw [← flat_prod]
      have hfl : (flat (fun i => (List.range b.length).map fun j => D.str (a[i]?.getD [] ++ b[j]?.getD [])) a.length).length ≤ sizeLine := by
        rw [flat_prod, List.length_map, prodT_len]; unfold sizeLine; omega
      refine Cp.two O (cl := [("rows", L + 1), ("place", L + 2)]) (m := b.length) (ud := fun i => .str (b[i]?.getD [])) (sg [("place", .int (pl : Int)), ("rows", rowsD (A0 ++ a :: b :: B0))]) (Itr.listMap O D.str [] a (Ev.sub (Ev.cellName O rfl rfl rfl) (Ev.cellName O rfl rfl rfl) (Op2.itemL hra (by omega) (by omega)))) hfl rfl (fromOuter.cons rfl (.inl rfl) (fromOuter.cons rfl (.inl rfl) fromOuter.nil)) (Le.cons rfl (Le.cons rfl Le.nil)) (sgF_cons rfl (sgF_cons rfl sgF_nil)) rfl rfl (by decide) ?_ ?_
      · intro L' ad xs i hi O'
        exact Itr.listMap O' D.str [] b (Ev.sub (Ev.cellName O' rfl rfl rfl) (Ev.binop (Ev.cellName O' rfl rfl rfl) Ev.cint Op2.addI) (Op2.itemL hrb (by omega) (by omega)))
      · intro L' ad xs i j hi hj' O'
        have l1 : (a[i]?.getD []).length ≤ 8 := by rw [List.getElem?_eq_getElem hi]; exact Nat.le_trans (hba.2 _ (List.getElem_mem hi)) hn2
        have l2 : (b[j]?.getD []).length ≤ 8 := by rw [List.getElem?_eq_getElem hj']; exact Nat.le_trans (hbb.2 _ (List.getElem_mem hj')) hn2
        exact Ev.binop (Ev.name O' rfl rfl) (Ev.name O' rfl rfl) (Op2.addS (by unfold sizeLine; omega))
    rotate_left
    · rintro f _ _ hn ⟨h, _⟩
      exact absurd h hn
    rintro σ'' _ ⟨_, hle2, rfl⟩
    refine Exs.weaken hle2 ?_
    refine Exs.assign O (.inr ⟨rfl, rfl⟩) (d := rowsD (A0 ++ joinT od a b :: B0)) ?_ (Exs.nil ⟨sg [("rows", rowsD (A0 ++ joinT od a b :: B0))], Le.cons rfl Le.nil, A0 ++ joinT od a b :: B0, ?_, by simp at hRl ⊢; omega, fun ts hts => ?_, Le.refl _, rfl⟩)
    · have s1 := slc_take ((A0 ++ a :: b :: B0).map rowD1) pl
      have s2 := slc_drop ((A0 ++ a :: b :: B0).map rowD1) (pl + 2)
      have e1 : ((A0 ++ a :: b :: B0).map rowD1).take pl = A0.map rowD1 := by rw [List.map_append, List.take_left' (by simp [hA0])]
      have e2 : ((A0 ++ a :: b :: B0).map rowD1).drop (pl + 2) = B0.map rowD1 := by
        rw [List.map_append, List.drop_append]
        simp [hA0]
      rw [e1] at s1
      rw [e2] at s2
      have v1 := Ev.sliceL (p := ⟨0, 0, 0, 0⟩) (pos := ⟨0, 0, 0, 0⟩) (Ev.cellName (W := W) (μ := []) (σ := sg [("rows", rowsD (A0 ++ a :: b :: B0)), ("place", .int (pl : Int)), ("joined", rowD1 (joinT od a b))]) O (x := "rows") (pos := ⟨0, 0, 0, 0⟩) rfl rfl rfl) Ep.nil (Ep.int (Ev.cellName O (x := "place") (pos := ⟨0, 0, 0, 0⟩) rfl rfl rfl)) hRl'
      have goal : rowsD (A0 ++ joinT od a b :: B0) = .lst ((A0.map rowD1 ++ [rowD1 (joinT od a b)]) ++ B0.map rowD1) := by simp [rowsD]
      rw [goal]
      have q1 : (A0.map rowD1 ++ [rowD1 (joinT od a b)]).length + (B0.map rowD1).length ≤ sizeLine := by simp at hRl ⊢; unfold sizeLine; omega
      have q2 : (A0.map rowD1).length + [rowD1 (joinT od a b)].length ≤ sizeLine := by simp at hRl ⊢; unfold sizeLine; omega
      refine Ev.binop (Ev.binop (d := .lst (A0.map rowD1)) (e := .lst [rowD1 (joinT od a b)]) ?_ (En.ev (En.list (Es.cons (Ev.name O rfl rfl) Es.nil) (by simp; unfold sizeLine; omega))) (Op2.addL q2)) (e := .lst (B0.map rowD1)) ?_ (Op2.addL q1)
      · rw [← s1]
        exact Ev.sliceL (Ev.cellName O rfl rfl rfl) Ep.nil (Ep.int (Ev.cellName O rfl rfl rfl)) hRl'
      · rw [← s2]
        exact Ev.sliceL (Ev.cellName O rfl rfl rfl) (Ep.int (Ev.binop (Ev.cellName O rfl rfl rfl) Ev.cint Op2.addI)) Ep.nil hRl'
    · rw [runT, stepRow_eq _ hA0] at hrun
      exact hrun
    · simp at hts
      rcases hts with hp | hp | hp
      · exact (hRB ts (by simp [hp])).up
      · subst hp; exact BndJ hba hbb
      · exact (hRB ts (by simp [hp])).up
  · rintro σ' _ ⟨R, hrun, hRl, hRB, hle, rfl⟩
    rw [List.drop_length, runT] at hrun
    subst hrun
    exact ⟨rfl, hle, rfl⟩
  · rintro σ' _ ⟨_, hle, rfl⟩
    exact Exs.weaken hle (Exs.ret (Ev.sub (Ev.cellName O rfl rfl rfl) Ev.cint (Op2.itemL rfl (by decide) (by decide))) (.inl rfl))
  · rintro f _ _ hn ⟨h, _⟩
    exact absurd h hn
end
end Mine

namespace Mine
section
variable {prog : Program} {w : World} {W : Glob prog w} {C : Act} {σ : Sg} {μ : Mu}
theorem Exs.pairM (O : C.Ok) {x y : Str} {k : Nat} {p p' tp pos : Pos} {e : Expr} {K₁ : D → Mu → Prop} {rest : List Stmt} {K : FD → Sg → Mu → Prop} (hx : Stores C x) (hy : Stores C y) (he : EvM W C σ μ e K₁)
    (hr : ∀ d μ', K₁ d μ' → ∃ a b, d = .tup [a, b] ∧ Exs W C (upd (upd σ x a) y b) μ' rest K) (hw : swappedStores [.Tuple [.Name x p, .Name y p'] k tp] e C.env = pure none := by rfl) (hs : swapsWithSole [.Tuple [.Name x p, .Name y p'] k tp] e pos.line C.env = pure false := by rfl) : Exs W C σ μ (.Assign [.Tuple [.Name x p, .Name y p'] k tp] e pos :: rest) K := by
  refine ⟨fun s Q E R hQ => ?_⟩
  refine wpAny_execs_cons (Assign_Tuple (he.run s _ _ R fun d μ₁ v s₁ k₁ R₁ y₁ new₁ x₁ => ?_) hs hw)
  obtain ⟨a, b, rfl, hrest⟩ := hr d μ₁ k₁
  refine Tgt.pair O hx hy σ s₁ _ _ v R₁ x₁ fun s₂ R₂ y₂ => ?_
  refine hrest.run s₂ Q E R₂ fun fd fl σ' μ' s' hk R' y' new' frr => hQ fd fl σ' μ' s' hk R' ?_ ?_ frr
  · exact y₁.trans (y₂.trans y' fun b hb => .inl hb) new₁
  · exact fun b hb => (new' b hb).elim (new₁ b) fun z => .inr (Nat.le_trans y₁.size (Nat.le_trans y₂.size z))

theorem Exs.parkRaw {a : Addr} {o : Obj} {sts : List Stmt} {K : FD → Sg → Mu → Prop} (ho : ¬ Seqy o) (h : Exs W C σ μ sts K) : Exs W C σ ((a, .raw o) :: μ) sts (fun f σ' μ' => ∃ ν, μ' = (a, .raw o) :: ν ∧ K f σ' ν) := by
  refine ⟨fun s Q E R hQ => ?_⟩
  have ha : s.heap.get? a = some o := R.mem (a, .raw o) List.mem_cons_self
  have ham : a ∈ C.mut ((a, .raw o) :: μ) := List.mem_append_right _ List.mem_cons_self
  have hna : a ∉ C.mut μ := fun hm => by
    have nd := R.nodup
    unfold Act.mut at nd hm
    have := List.nodup_append.mp nd
    rcases List.mem_append.mp hm with z | z
    · exact this.2.2 a z a List.mem_cons_self rfl
    · exact (List.nodup_cons.mp this.2.1).1 z
  have low := R.low a ham
  have lt := R.lt a ham
  refine h.run s Q E R.drop fun fd fl σ' μ' s' k R' y new fr => ?_
  have ha' : s'.heap.get? a = some o := y.kept _ _ ha hna
  have hna' : a ∉ C.mut μ' := fun hm => (new a hm).elim hna fun z => Nat.lt_irrefl _ (Nat.lt_of_lt_of_le lt z)
  have split : ∀ b ∈ C.mut ((a, .raw o) :: μ'), b = a ∨ b ∈ C.mut μ' := fun b hb => by
    rcases List.mem_append.mp hb with z | z
    · exact .inr (List.mem_append_left _ z)
    · rcases List.mem_cons.mp z with z | z
      · exact .inl z
      · exact .inr (List.mem_append_right _ z)
  refine hQ fd fl σ' ((a, .raw o) :: μ') s' ⟨μ', rfl, k⟩ (R'.joinRaw ha' ho hna' low) (y.wk drop_mut) (fun b hb => ?_) ?_
  · rcases split b hb with rfl | z
    · exact .inl ham
    · exact (new b z).imp (drop_mut b) id
  · cases fd with
    | ret d =>
      obtain ⟨v, e, r⟩ := fr
      refine ⟨v, e, r.monoC (Nat.le_refl _) fun b ob p g q => ⟨⟨p.1, fun hm => ?_⟩, g⟩⟩
      rcases split b hm with rfl | z
      · rw [ha'] at g; cases g; exact ho q
      · exact p.2 z
    | _ => exact fr

theorem Op2.neLM (O : C.Ok) {i : Nat} {a : Addr} (hi : μ[i]? = some (a, .list [])) : Op2 W C σ μ (compareOp .NotEq) (.obj a) (.lst []) (.bool false) := by
  rintro s Q E _ _ R rfl ⟨b, us, rfl, hp', ⟨m, hg'⟩, r'⟩ hQ
  obtain ⟨vs, ⟨n, hg⟩, r⟩ := R.mem _ (List.mem_of_getElem? hi)
  have e1 := r.length
  have e2 := r'.length
  have hsz : vs.size = us.size := by simp only [Array.length_toList] at e1 e2; omega
  have h0 : us.size = 0 := by simp only [Array.length_toList] at e2; simpa using e2
  have key := SeqAt.RcNeAt.lists (A := C.A) (s := s) (l := a) (b := b) (e := fun _ => true) ⟨_, hg, rfl, n, rfl⟩ ⟨_, hg', rfl, m, rfl⟩ hsz O.units (fun j h1 h2 => absurd h2 (by rw [h0]; exact Nat.not_lt_zero _))
  refine key _ _ _ _ ?_
  have : (!(List.range vs.size).all fun _ => true) = false := by simp
  rw [this]
  exact hQ _ _ (Mv.refl _ _) rfl

theorem Ev.modN (j : Nat) (hj : 0 < j) {n : Nat} {e f : Expr} {pos : Pos} (he : Ev W C σ μ e (.int (n : Int))) (hf : Ev W C σ μ f (.int (j : Int))) : Ev W C σ μ (.BinOp e .Mod f pos) (.int ((n % j : Nat) : Int)) := by
  rw [← fmod_nat n j hj]
  exact Ev.binop he hf (Op2.modI (by omega))
theorem Ev.divN (j : Nat) (hj : 0 < j) (hj' : j < 1000000) {n : Nat} {e f : Expr} {pos : Pos} (he : Ev W C σ μ e (.int (n : Int))) (hf : Ev W C σ μ f (.int (j : Int))) : Ev W C σ μ (.BinOp e .FloorDiv f pos) (.int ((n / j : Nat) : Int)) := by
  rw [← fdiv_nat n j hj]
  exact Ev.binop he hf (Op2.divI (by omega) (by omega))
theorem Ev.natAt {l : List Nat} {e f : Expr} {k : Nat} {pos : Pos} (he : Ev W C σ μ e (.lst (natL l))) (hf : Ev W C σ μ f (.int (k : Int))) (hk : k < l.length) (hl : l.length ≤ 100)
    (hs : ∀ o i, subscripted f false o i = operate [o, i] (getItem o i) := by intro _ _; with_unfolding_all rfl) : Ev W C σ μ (.Subscript e f pos) (.int ((l[k]?.getD 0 : Nat) : Int)) := by
  refine Ev.sub he hf (Op2.itemL ?_ (by omega) (by omega) hs)
  rw [Int.toNat_natCast, List.getElem?_eq_getElem hk]
  exact natL_get (List.getElem?_eq_getElem hk)

theorem Ev.lenMap {α : Type} {x : Expr} {p p' : Pos} (S : Pr W) (O : C.Ok) (f : α → D) (l : List α) (h : Ev W C σ μ x (.lst (l.map f))) (hl : l.length ≤ sizeLine) (hk : C.env.kindOf "len" = some .globalImplicit := by rfl) (hq : starEach [x] C.env = [x].map (fun e => (false, eval e C.env)) := by rfl) :
    Ev W C σ μ (.Call (.Name "len" p) [x] [] p') (.int (l.length : Int)) := by
  have := Ev.callB (p := p) (pos := p') O hk S.len.1 S.len.2 (Es.cons h Es.nil hq) (OpN.lenL (by rw [List.length_map]; exact hl)) (by intro h; cases h) hq
  rwa [List.length_map] at this

noncomputable def bF (n : Nat) : Nat := ([0, 0, 0, 1, 2] : List Nat)[n % 5]?.getD 0
noncomputable def eF (n : Nat) : Nat := ([3, 3, 2] : List Nat)[n / 5 % 3]?.getD 0
theorem bF_le (n : Nat) : bF n ≤ 2 := by
  unfold bF
  have : n % 5 = 0 ∨ n % 5 = 1 ∨ n % 5 = 2 ∨ n % 5 = 3 ∨ n % 5 = 4 := by omega
  rcases this with e | e | e | e | e <;> rw [e] <;> decide
theorem eF_ge (n : Nat) : 2 ≤ eF n ∧ eF n ≤ 3 := by
  unfold eF
  have : n / 5 % 3 = 0 ∨ n / 5 % 3 = 1 ∨ n / 5 % 3 = 2 := by omega
  rcases this with e | e | e <;> rw [e] <;> decide

noncomputable abbrev lawC (S : Pr W) (A : Around) (L : Addr) (P : Addr → Prop) (pm cd doc : Value) : Act := mkC A (Calls.docDef (fNm (stm 26)) (fPar (stm 26)) (fBody (stm 26)) (fSco (stm 26)) pm cd doc) L (S.f 26) P L

set_option maxHeartbeats 1000000 in
theorem law_end (S : Pr W) {A : Around} {L : Addr} {P : Addr → Prop} {pm cd doc : Value} (O : (lawC S A L P pm cd doc).Ok) (hl : Lvl 9 A) (cs : List Nat) (hcs : cs.length = 9) (word : List Nat) (hw3 : word.length = 3) (hws : ∀ c ∈ word, c ∈ sgn6)
    (fin : Pair) (hf0 : 0 < fin.1.length) (hf1 : fin.1.length ≤ 255) (hfx : ∀ x ∈ fin.1, x.length ≤ 16 ∧ ∀ c ∈ x, c ∈ sgn6) (b e : Nat) (hb : b = bF (cs[8]?.getD 0)) (he : e = eF (cs[8]?.getD 0))
    (hm : fin.2 b (e - b) ∈ fin.1.map (ed (cut word b e))) (hle : ∀ x ∈ fin.1, fin.2 b (e - b) ≤ ed (cut word b e) x) :
    Exs W (lawC S A L P pm cd doc) (sg [("cells", .lst (natL cs)), ("word", .str word), ("pair", pairD fin), ("due", rowD1 fin.1)]) μ ((fBody (stm 26)).drop 15) (fun f _ _ => f = .ret (.bool true)) := by
  have hb2 := bF_le (cs[8]?.getD 0)
  obtain ⟨he2, he3⟩ := eF_ge (cs[8]?.getD 0)
  rw [← hb] at hb2
  rw [← he] at he2 he3
  have hpl := cut_len_le word b e
  have hps : ∀ c ∈ cut word b e, c ∈ sgn6 := fun c hc => hws c (cut_mem hc)
  have c8 : ∀ {σ : Sg} {μ : Mu} {p p2 p3 : Pos} {k : Nat}, σ "cells" = some (.lst (natL cs)) → Ev W (lawC S A L P pm cd doc) σ μ (.Subscript (.Name "cells" p) (.Constant (.int 8) k p2) p3) (.int ((cs[8]?.getD 0 : Nat) : Int)) := fun h => Ev.natAt (k := 8) (Ev.cellName O rfl rfl h) Ev.cint (by omega) (by omega)
  refine Exs.assign O (.inl rfl) (d := .int (b : Int)) ?_ ?_
  · refine Ev.sub (En.ev (En.list (ds := [.int 0, .int 0, .int 0, .int 1, .int 2]) (Es.cons Ev.cint (Es.cons Ev.cint (Es.cons Ev.cint (Es.cons Ev.cint (Es.cons Ev.cint Es.nil))))) (by decide))) (Ev.modN 5 (by decide) (c8 rfl) Ev.cint) (Op2.itemL ?_ (by omega) (by omega))
    rw [hb, Int.toNat_natCast]
    generalize cs[8]?.getD 0 = n
    unfold bF
    have : n % 5 = 0 ∨ n % 5 = 1 ∨ n % 5 = 2 ∨ n % 5 = 3 ∨ n % 5 = 4 := by omega
    rcases this with e | e | e | e | e <;> rw [e] <;> rfl
  refine Exs.assign O (.inl rfl) (d := .int (e : Int)) ?_ ?_
  · refine Ev.sub (En.ev (En.list (ds := [.int 3, .int 3, .int 2]) (Es.cons Ev.cint (Es.cons Ev.cint (Es.cons Ev.cint Es.nil))) (by decide))) (Ev.modN 3 (by decide) (Ev.divN 5 (by decide) (by decide) (c8 rfl) Ev.cint) Ev.cint) (Op2.itemL ?_ (by omega) (by omega))
    rw [he, Int.toNat_natCast]
    generalize cs[8]?.getD 0 = n
    unfold eF
    have : n / 5 % 3 = 0 ∨ n / 5 % 3 = 1 ∨ n / 5 % 3 = 2 := by omega
    rcases this with e | e | e <;> rw [e] <;> rfl
  refine Exs.assign O (.inr ⟨rfl, rfl⟩) (d := .str (cut word b e)) ?_ ?_
  · have hc : slc word (some (b : Int)) (some (e : Int)) = cut word b e := slc_mid word b e (by omega) (by omega)
    rw [← hc]
    exact Ev.sliceS (Ev.name O rfl rfl) (Ep.int (Ev.name O rfl rfl)) (Ep.int (Ev.name O rfl rfl)) (lenLe (by omega))
  refine Exs.assignComp O rfl (ds := fin.1.map fun x => .int (ed (cut word b e) x)) ?_ ?_
  · have e1 : (fin.1.map fun x => D.int (ed (cut word b e) x)) = (List.range fin.1.length).map fun i => D.int (ed (cut word b e) (fin.1[i]?.getD [])) := (range_mapG fin.1 [] fun x => D.int (ed (cut word b e) x)).symm
    rw [e1]
    refine Cp.one O (cl := [("part", L + 2)]) (sg [("part", .str (cut word b e))]) (Itr.listMap O D.str [] fin.1 (Ev.name O rfl rfl)) (by unfold sizeLine; omega) rfl (fromOuter.cons rfl (.inl rfl) fromOuter.nil) (Le.cons rfl Le.nil) (sgF_cons rfl sgF_nil) rfl fun L' a xs i hi O' => ?_
    obtain ⟨hx16, hxs⟩ := hfx _ (List.getElem_mem hi)
    rw [List.getElem?_eq_getElem hi]
    show Ev W _ _ _ _ (.int (2 * (((cut word b e).length : Int) + ((fin.1[i]).length : Int)) - (Mine.L (cut word b e) fin.1[i] : Nat)))
    exact Ev.binop (Ev.binop Ev.cint (Ev.binop (Ev.callB O' rfl S.len.1 S.len.2 (Es.cons (Ev.cellName O' rfl rfl rfl) Es.nil) (OpN.lenS (lenLe (by omega))) (by intro h; cases h)) (Ev.callB O' rfl S.len.1 S.len.2 (Es.cons (Ev.name O' rfl rfl) Es.nil) (OpN.lenS (l := fin.1[i]) (lenLe (by omega))) (by intro h; cases h)) Op2.addI) (Op2.mulI (.inl (by decide)))) (Ev.fn S O' 25 (saved_fn S (cut word b e) fin.1[i] (by omega) (by omega) hps hxs) (hl.le (by omega)) (Es.cons (Ev.cellName O' rfl rfl rfl) (Es.cons (Ev.name O' rfl rfl) Es.nil))) Op2.subI
  refine Exs.weaken (σ' := sg [("pair", pairD fin), ("due", rowD1 fin.1), ("begin", .int (b : Int)), ("stop", .int (e : Int)), ("part", .str (cut word b e)), ("prices", .lst (fin.1.map fun x => .int (ed (cut word b e) x)))]) (Le.cons rfl (Le.cons rfl (Le.cons rfl (Le.cons rfl (Le.cons rfl (Le.cons rfl Le.nil)))))) ?_
  refine Exs.cons (K' := fun f σ' μ' => f = .next ∧ Le (sg [("pair", pairD fin), ("due", rowD1 fin.1), ("begin", .int (b : Int)), ("stop", .int (e : Int)), ("part", .str (cut word b e)), ("prices", .lst (fin.1.map fun x => .int (ed (cut word b e) x)))]) σ')
    (Ex1.for_ O (f := fun i σ => upd σ "k" (.int (i : Int))) (fun t σ' μ' => Le (sg [("pair", pairD fin), ("due", rowD1 fin.1), ("begin", .int (b : Int)), ("stop", .int (e : Int)), ("part", .str (cut word b e)), ("prices", .lst (fin.1.map fun x => .int (ed (cut word b e) x)))]) σ')
      (Itr.upto S O (n := fin.1.length) (Ev.lenMap S O D.str fin.1 (Ev.name O rfl rfl) (by unfold sizeLine; omega)) (by omega)) (fun i μ' => Tgt.name O (.inl rfl)) (Le.refl _) ?_ ?_) ?_ ?_
  · rintro i σ' μ' hi hle'
    refine Exs.weaken (hle'.upd _ _) ?_
    obtain ⟨hx16, hxs⟩ := hfx _ (List.getElem_mem hi)
    have hdue : (fin.1.map D.str)[((i : Nat) : Int).toNat]? = some (.str fin.1[i]) := by rw [Int.toNat_natCast, List.getElem?_map, List.getElem?_eq_getElem hi]; rfl
    have hpr : (fin.1.map fun x => D.int (ed (cut word b e) x))[((i : Nat) : Int).toNat]? = some (.int (ed (cut word b e) fin.1[i])) := by rw [Int.toNat_natCast, List.getElem?_map, List.getElem?_eq_getElem hi]; rfl
    refine Exs.assign O (.inl rfl) (d := .int (ed (cut word b e) fin.1[i])) (Ev.fn S O 13 (lev_fn S (cut word b e) fin.1[i] (ed (cut word b e) fin.1[i] - ((i % 2 : Nat) : Int)) hps hxs (by omega) (by omega) (by omega)) (hl.le (by omega)) (Es.cons (Ev.cellName O rfl rfl rfl) (Es.cons (Ev.sub (Ev.name O rfl rfl) (Ev.name O rfl rfl) (Op2.itemL hdue (by omega) (by omega))) (Es.cons (Ev.binop (Ev.sub (Ev.name O rfl rfl) (Ev.name O rfl rfl) (Op2.itemL hpr (by omega) (by omega))) (Ev.modN 2 (by decide) (Ev.name O rfl rfl) Ev.cint) Op2.subI) Es.nil)))) ?_
    refine Exs.ite (Ts.or2 (b := ed (cut word b e) fin.1[i] != ed (cut word b e) fin.1[i]) (c := false) (Ts.cmp (Ev.name O rfl rfl) (Ev.sub (Ev.name O rfl rfl) (Ev.name O rfl rfl) (Op2.itemL hpr (by omega) (by omega))) Op2.neI) fun _ => Ts.val (Ev.callB O rfl S.isinstance.1 S.isinstance.2 (Es.cons (Ev.name O rfl rfl) (Es.cons (Ev.builtinType O rfl S.bool.1 S.bool.2) Es.nil)) OpN.isInstIB (by intro h; cases h)) Tru.cbool) (fun h => ?_) fun h => ?_
    · simp at h
    · exact Exs.nil (Exs.nil ⟨_, Le.cons rfl (Le.cons rfl (Le.cons rfl (Le.cons rfl (Le.cons rfl (Le.cons rfl Le.nil))))), Le.refl _⟩)
  · rintro σ' μ' hle'
    exact ⟨rfl, hle'⟩
  · rintro σ' μ' ⟨_, hle'⟩
    refine Exs.weaken hle' (Exs.ret (d := .bool true) ?_ rfl)
    have hmin := OpN.minL (W := W) (σ := sg [("pair", pairD fin), ("due", rowD1 fin.1), ("begin", .int (b : Int)), ("stop", .int (e : Int)), ("part", .str (cut word b e)), ("prices", .lst (fin.1.map fun x => .int (ed (cut word b e) x)))]) (μ := μ') O (l := fin.1.map (ed (cut word b e))) (m := fin.2 b (e - b)) (by rw [List.length_map]; exact hf0) hm (fun a ha => by obtain ⟨x, hx, rfl⟩ := List.mem_map.mp ha; exact hle x hx)
    rw [List.map_map] at hmin
    have e2 : (D.bool true) = .bool (fin.2 b (e - b) == fin.2 b (e - b)) := by simp
    rw [e2]
    exact Ev.cmp (Ev.cell2 (n := 4) (i := b) (k := e - b) (T := fin.2) (Ev.sub (Ev.name O rfl rfl) Ev.cint (Op2.itemT rfl (by decide) (by decide))) (Ev.name O rfl rfl) (Ev.minus (a := e) (b := b) (by omega) (Ev.name O rfl rfl) (Ev.name O rfl rfl)) (by omega) (by decide)) (Ev.callB O rfl S.min.1 S.min.2 (Es.cons (Ev.name O rfl rfl) Es.nil) hmin (by intro h; cases h)) Op2.eqI
  · rintro f _ _ hn ⟨h, _⟩
    exact absurd h hn
end
end Mine

namespace Mine
section
variable {prog : Program} {w : World} {W : Glob prog w} {C : Act} {σ : Sg} {μ : Mu}
theorem EvM.ofChr {e : Expr} {t : List Nat} {μ₁ : Mu} (h : EvM W C σ μ e (fun d μ' => d = .chr t ∧ μ' = μ₁)) : EvM W C σ μ e (fun d μ' => d = .str t ∧ μ' = μ₁) :=
  ⟨fun s Q E R hQ => h.run s Q E R fun d μ' v s' k R' y new x => hQ (.str t) μ' v s' ⟨rfl, k.2⟩ R' y new (by obtain ⟨rfl, _⟩ := k; exact x.chr_str)⟩
noncomputable def endL : List Nat := [101, 110, 100, 10]

set_option maxHeartbeats 1000000 in
theorem law_mid (Λ : Lex W) (Δ : LexDef Λ) (hnb : ∀ {h : Heap}, W.G h → NoneBooked h) {A : Around} {L : Addr} {P : Addr → Prop} {pm cd doc : Value} (O : (lawC Λ.S A L P pm cd doc).Ok) (hl : Lvl 9 A) (cs : List Nat) (hcs : cs.length = 9) (word : List Nat) (hw3 : word.length = 3) (hws : ∀ c ∈ word, c ∈ sgn6)
    (ps : List (List Nat)) (hps4 : ps.length = 4) (hps : ∀ p ∈ ps, p.length ≤ 2 ∧ ∀ c ∈ p, c ∈ sgn6)
    (js : List (Nat × Nat)) (hjs3 : js.length = 3) (hjs : ∀ t p, js[t]? = some p → p.1 < 3 - t) (text : List Nat) (ht : text.length ≤ 1000) (htc : ∀ c ∈ text, c < 128)
    (hch : Chain text (word :: (ps ++ jTok js)) [10, 32]) (fin : Pair) (hfin : runRow js (ps.map (leafP word)) = [fin]) (hfinT : runT js (ps.map fun p => [p]) = [fin.1])
    (hf0 : 0 < fin.1.length) (hf1 : fin.1.length ≤ 255) (hfx : ∀ x ∈ fin.1, x.length ≤ 16 ∧ ∀ c ∈ x, c ∈ sgn6) (b e : Nat) (hb : b = bF (cs[8]?.getD 0)) (he : e = eF (cs[8]?.getD 0))
    (hm : fin.2 b (e - b) ∈ fin.1.map (ed (cut word b e))) (hle : ∀ x ∈ fin.1, fin.2 b (e - b) ≤ ed (cut word b e) x) :
    Exs W (lawC Λ.S A L P pm cd doc) (sg [("cells", .lst (natL cs)), ("word", .str word), ("pieces", .lst (ps.map .str)), ("joins", .lst (js.map jD)), ("text", .str text)]) [(Δ.T, .raw (tabObj #[]))] ((fBody (stm 26)).drop 8) (fun f _ μ' => f = .ret (.bool true) ∧ ∃ ps, (Δ.T, MC.raw (tabObj ps)) ∈ μ') := by
  have S := Λ.S
  obtain ⟨_, _, _, g19, d19⟩ := (Λ.S.has 19 (by decide)).ex
  obtain ⟨_, _, _, g23, d23⟩ := (Λ.S.has 23 (by decide)).ex
  refine Exs.assignM O (.inl rfl) (EvM.new (En.listStr O htc (by unfold sizeLine; omega) rfl Λ.S.list.1 Λ.S.list.2 (Ev.name O rfl rfl))) ?_
  rintro _ _ ⟨a, rfl, rfl⟩
  refine Exs.assignM O (.inl rfl) (EvM.callG (K' := fun d μ' => ∃ X : LX, X.Good ∧ X.S = a ∧ d = .obj X.I2 ∧ μ' = lexMu Λ.Z.C X (1 + (text.count 10 : Nat)) text [] ++ [(X.cc, .raw X.oc), (Δ.T, .raw (tab1 X.cc))]) (n := 3) O rfl g19 (fun hG => fnAt (d19.obj hG))
    (EsM.of (Es.cons (Ev.name O rfl rfl) Es.nil)) (hl.le (by omega)) (fun ds μ₁ h => by
      obtain ⟨rfl, rfl⟩ := h
      exact ⟨_, [], _, by rw [List.append_nil], lexer_first Λ Δ a text, fun d μ' k => by rw [List.append_nil]; exact k⟩)) ?_
  rintro _ _ ⟨X, hX, hS, rfl, rfl⟩
  subst hS
  refine Exs.assignM O (.inl rfl) (EvM.callG (K₁ := fun ds μ' => ∃ b, ds = [.obj b] ∧ μ' = (b, .list (chrs endL)) :: (lexMu Λ.Z.C X (1 + (text.count 10 : Nat)) text [] ++ [(X.cc, .raw X.oc), (Δ.T, .raw (tab1 X.cc))])) (K' := fun d μ' => ∃ Y : LX, Y.Good ∧ Y.cc = X.cc ∧ Y.oc = X.oc ∧ d = .obj Y.I2 ∧ μ' = (lexMu Λ.Z.C Y (1 + (endL.count 10 : Nat)) endL [] ++ [(X.cc, .raw X.oc), (Δ.T, .raw (tab1 X.cc))]) ++ lexMu Λ.Z.C X (1 + (text.count 10 : Nat)) text []) (n := 3) O rfl g19 (fun hG => fnAt (d19.obj hG))
    (EsM.cons (EvM.new (En.listStr (l := endL) O (by decide) (by decide) rfl Λ.S.list.1 Λ.S.list.2 (Ev.ofChr (Ev.cstr rfl)))) (fun d μ' h => by
      obtain ⟨b, rfl, rfl⟩ := h
      exact EsM.nilK ⟨b, rfl, rfl⟩)) (hl.le (by omega)) (fun ds μ₁ h => by
      obtain ⟨b, rfl, rfl⟩ := h
      refine ⟨[(b, .list (chrs endL)), (X.cc, .raw X.oc), (Δ.T, .raw (tab1 X.cc))], lexMu Λ.Z.C X (1 + (text.count 10 : Nat)) text [], _, perm_by [0, 9, 10, 1, 2, 3, 4, 5, 6, 7, 8] dμ 11 rfl (by decide) rfl, lexer_again Λ Δ b endL X hX, ?_⟩
      rintro d μ' ⟨Y, hY, _, hcc, hoc, rfl, rfl⟩
      exact ⟨Y, hY, hcc, hoc, rfl, rfl⟩)) ?_
  rintro _ _ ⟨Y, hY, hcc, hoc, rfl, rfl⟩
  refine Exs.perm (μ' := (Δ.T, .raw (tab1 X.cc)) :: M2 Λ.Z.C X (1 + (text.count 10 : Nat)) text Y (1 + (endL.count 10 : Nat)) endL []) (perm_by [9, 10, 11, 12, 13, 14, 15, 16, 17, 0, 1, 2, 3, 4, 5, 6, 7, 8] dμ 18 rfl (by decide) rfl) (Exs.conseq (Exs.parkRaw (K := fun f _ _ => f = .ret (.bool true)) (fields_notSeqy rfl) ?_) (fun f σ' μ' ⟨ν, e, h⟩ => ⟨h, _, e ▸ List.mem_cons_self (a := (Δ.T, MC.raw (tab1 X.cc)))⟩))
  refine Exs.pairM O (.inl rfl) (.inl rfl) (EvM.callG (K' := fun d μ' => d = .tup [.chr word, pairD fin] ∧ μ' = M2 Λ.Z.C X (1 + (text.count 10 : Nat)) [10, 32] Y (1 + (endL.count 10 : Nat)) endL []) (n := 9) O rfl g23 (fun hG => fnAt (d23.obj hG))
    (EsM.of (Es.cons (Ev.name O rfl rfl) (Es.cons (Ev.name O rfl rfl) Es.nil))) hl (fun ds μ₁ h => by
      obtain ⟨rfl, rfl⟩ := h
      exact ⟨_, [], _, by rw [List.append_nil], worked_fn Λ hnb hX hcc hoc _ _ text endL [10, 32] ht word hw3 hws ps hps4 hps js hjs3 hjs hch fin hfin, fun d μ' k => by rw [List.append_nil]; exact k⟩)) ?_
  rintro _ _ ⟨rfl, rfl⟩
  refine ⟨_, _, rfl, ?_⟩
  refine Exs.weaken (σ' := sg [("cells", .lst (natL cs)), ("word", .str word), ("pieces", .lst (ps.map .str)), ("joins", .lst (js.map jD)), ("text", .str text), ("signs", .obj X.S), ("lexer", .obj X.I2), ("line", .obj Y.I2), ("first", .chr word), ("pair", pairD fin)]) (Le.cons rfl (Le.cons rfl (Le.cons rfl (Le.cons rfl (Le.cons rfl (Le.cons rfl (Le.cons rfl (Le.cons rfl (Le.cons rfl (Le.cons rfl Le.nil)))))))))) ?_
  refine Exs.iteM (K₁ := fun b μ' => b = false ∧ μ' = M2 Λ.Z.C X (1 + (text.count 10 : Nat)) [] Y (1 + (endL.count 10 : Nat)) endL []) (TsM.boolop (TsAllM.or (TsM.of (Ts.cmp (Ev.ofChr (Ev.name O rfl rfl)) (Ev.name O rfl rfl) Op2.neS)) ?_ ?_)) ?_ ?_
  · rintro b μ' ⟨rfl, rfl⟩
    simp
  · rintro μ' ⟨_, rfl⟩
    refine TsAllM.or (K₁ := fun b μ' => b = (([] : List Nat) != []) ∧ μ' = M2 Λ.Z.C X (1 + (text.count 10 : Nat)) [] Y (1 + (endL.count 10 : Nat)) endL []) (TsM.cmp (EvM.ofChr (getX Λ O hX (t := []) (q := []) rfl (by decide) (hl.le (by omega)) (Ev.name O rfl rfl))) ?_) ?_ ?_
    · rintro d μ' ⟨rfl, rfl⟩
      exact ⟨_, _, Ev.ofChr (Ev.cstr (l := []) rfl), Op2.neS, rfl, rfl⟩
    · rintro b μ' ⟨rfl, rfl⟩
      rfl
    · rintro μ' ⟨_, rfl⟩
      refine TsAllM.or (TsM.of (Ts.cmp (Ev.name O rfl rfl) (En.ev (En.list Es.nil (by decide))) (Op2.neLM O (i := 2) rfl))) ?_ ?_
      · rintro b μ' ⟨rfl, rfl⟩
        rfl
      · rintro μ' ⟨_, rfl⟩
        refine TsAllM.or (TsM.of (Ts.cmp (Ev.attr Λ.Z (Ev.name O rfl rfl) (getμ 3 rfl) (getμ 4 rfl) (by decide) rfl) (Ev.binop Ev.cint (Ev.meth O (Ev.name O rfl rfl) (Es.cons (Ev.ofChr (Ev.cstr (l := [10]) rfl)) Es.nil) OpN.count (by intro h; cases h) ty_str F.plainAttrs_str F.slot_str_count F.type_str_count) Op2.addI) Op2.neI)) ?_ ?_
        · rintro b μ' ⟨rfl, rfl⟩
          have : (1 : Int) + (text.count 10 : Nat) - ((([] : List Nat).count 10 : Nat) : Int) = 1 + (text.count 10 : Nat) := by simp
          rw [this]
          simp
        · rintro μ' ⟨_, rfl⟩
          exact TsAllM.nil ⟨rfl, rfl⟩
  · rintro μ' ⟨h, _⟩
    cases h
  rintro μ' ⟨_, rfl⟩
  refine Exs.nil ?_
  refine Exs.assign O (.inl rfl) (Ev.fn Λ.S O 24 (texts_fn Λ.S ps hps4 (fun p hp => (hps p hp).1) js hjs3 hjs fin.1 hfinT) (hl.le (by omega)) (Es.cons (Ev.name O rfl rfl) (Es.cons (Ev.name O rfl rfl) Es.nil))) ?_
  refine Exs.iteM (K₁ := fun b μ' => b = false) (TsM.boolop (TsAllM.or (K₁ := fun b μ' => b = (([101, 110, 100] : List Nat) != [101, 110, 100])) (TsM.cmp (EvM.ofChr (getY_read Λ O hY hcc hoc (t := [101, 110, 100]) (q := []) rfl (by decide) (hl.le (by omega)) (Ev.name O rfl rfl))) ?_) ?_ ?_)) ?_ ?_
  · rintro d μ' ⟨rfl, rfl⟩
    exact ⟨_, _, Ev.ofChr (Ev.cstr (l := [101, 110, 100]) rfl), Op2.neS, rfl⟩
  · rintro b μ' rfl
    rfl
  · rintro μ' _
    refine TsAllM.or (TsM.of (Ts.cmp (Ev.sub (Ev.name O rfl rfl) Ev.cint (Op2.itemT rfl (by decide) (by decide))) (Ev.name O rfl rfl) (OpN.neL O rfl))) ?_ ?_
    · rintro b μ' ⟨rfl, rfl⟩
      rfl
    · rintro μ' ⟨_, rfl⟩
      exact TsAllM.nil rfl
  · rintro μ' h
    cases h
  rintro μ' _
  refine Exs.nil ?_
  refine Exs.weaken ?_ (law_end Λ.S O hl cs hcs word hw3 hws fin hf0 hf1 hfx b e hb he hm hle)
  exact Le.cons rfl (Le.cons rfl (Le.cons rfl (Le.cons rfl Le.nil)))
end
end Mine

namespace Mine
structure Rep0 {prog : Program} {w : World} (W : Glob prog w) (C : Act) (σ : Sg) (μ : Mu) (s : Shared) : Prop where
  top : W.G s.heap
  size : C.bsz ≤ s.heap.objs.size
  loc : ∃ m, s.heap.Ns C.env.locals m ∧ ∀ x d, σ x = some d → C.env.kindOf x = some .local → ∃ v, m x = some v ∧ VR (C.D μ) s.toks s.heap d v
  cell : ∀ x c, C.env.cells.lookup x = some c → isCellKind (C.env.kindOf x) → ∃ v, s.heap.IsCell c v ∧ ∀ d, σ x = some d → ∃ v', v = some v' ∧ VR (C.D μ) s.toks s.heap d v'
  mem : ∀ p ∈ μ, CR (C.D μ) s.toks s.heap p.1 p.2
  nodup : (C.mut μ).Nodup
  low : ∀ a ∈ C.mut μ, ¬ W.Base a
  lt : ∀ a ∈ C.mut μ, a < s.heap.objs.size

section
variable {prog : Program} {w : World} {W : Glob prog w} {C : Act} {σ : Sg} {μ : Mu} {s s' : Shared}
theorem Rep0.up (R : Rep0 W C σ μ s) (h : 0 < s.toks) : Rep W C σ μ s := ⟨R.top, R.size, R.loc, R.cell, R.mem, R.nodup, R.low, R.lt, h⟩
theorem Rep0.n₀ (R : Rep0 W C σ μ s) : W.n₀ ≤ s.heap.objs.size := W.big R.top
theorem Act.D_new0 (C : Act) {μ : Mu} (R : Rep0 W C σ μ s) {a : Addr} (h : s.heap.objs.size ≤ a) : C.D μ a :=
  ⟨.inr (Nat.le_trans R.size h), fun hm => Nat.lt_irrefl _ (Nat.lt_of_lt_of_le (R.lt a hm) h)⟩

theorem Rep0.step (R : Rep0 W C σ μ s) (y : Stp s s') : Rep0 W C σ μ s' := by
  have up := y.all
  have hv : ∀ a o, C.D μ a → s.heap.get? a = some o → C.D μ a ∧ s'.heap.get? a = some o := fun a o p e => ⟨p, up a o e⟩
  refine ⟨W.mono R.top (fun b o _ e => up b o e) y.size, Nat.le_trans R.size y.size, ?_, ?_, fun p hp => (R.mem p hp).mono y.toks hv (fun o e => up _ o e), R.nodup, R.low, fun a ha => Nat.lt_of_lt_of_le (R.lt a ha) y.size⟩
  · obtain ⟨m, hn, hm⟩ := R.loc
    exact ⟨m, hn.keeps up, fun x d e k => let ⟨v, hv', r⟩ := hm x d e k; ⟨v, hv', r.mono y.toks hv⟩⟩
  · intro x c hc hk
    obtain ⟨v, ⟨o, ho, hd⟩, r⟩ := R.cell x c hc hk
    exact ⟨v, ⟨o, up _ _ ho, hd⟩, fun d e => let ⟨v', e', r'⟩ := r d e; ⟨v', e', r'.mono y.toks hv⟩⟩


end


section
variable {prog : Program} {w : World} {W : Glob prog w} {C : Act} {σ : Sg} {μ : Mu}
structure Es0 {prog : Program} {w : World} (W : Glob prog w) (C : Act) (σ : Sg) (μ : Mu) (pos : Pos) (es : List Expr) (ds : List D) : Prop where
  run : ∀ (s : Shared) (Q : List Value → Shared → Prop) (E : Value → Shared → Prop), Rep0 W C σ μ s →
    (∀ vs s', Stp s s' → VRs (C.D μ) s'.toks s'.heap ds vs → Q vs s') → wpAny (model prog w) C.A (spliced (backTo pos (starEach es C.env))) Q E s
structure Es01 {prog : Program} {w : World} (W : Glob prog w) (C : Act) (σ : Sg) (μ : Mu) (pos : Pos) (es : List Expr) (ds : List D) : Prop where
  run : ∀ (s : Shared) (Q : List Value → Shared → Prop) (E : Value → Shared → Prop), Rep0 W C σ μ s →
    (∀ vs s', Stp s s' → 0 < s'.toks → VRs (C.D μ) s'.toks s'.heap ds vs → Q vs s') → wpAny (model prog w) C.A (spliced (backTo pos (starEach es C.env))) Q E s
structure Ev01 {prog : Program} {w : World} (W : Glob prog w) (C : Act) (σ : Sg) (μ : Mu) (e : Expr) (d : D) : Prop where
  run : ∀ (s : Shared) (Q : Value → Shared → Prop) (E : Value → Shared → Prop), Rep0 W C σ μ s →
    (∀ v s', Stp s s' → 0 < s'.toks → VR (C.D μ) s'.toks s'.heap d v → Q v s') → wpAny (model prog w) C.A (eval e C.env) Q E s
structure En01 {prog : Program} {w : World} (W : Glob prog w) (C : Act) (σ : Sg) (μ : Mu) (e : Expr) (ds : List D) : Prop where
  run : ∀ (s : Shared) (Q : Value → Shared → Prop) (E : Value → Shared → Prop), Rep0 W C σ μ s →
    (∀ a vs s', Stp s s' → 0 < s'.toks → s.heap.objs.size ≤ a → LstAt s'.heap a vs → VRs (fun b => C.D μ b ∧ b ≠ a) s'.toks s'.heap ds vs.toList → Q (.ref a) s') → wpAny (model prog w) C.A (eval e C.env) Q E s
structure Exs01 {prog : Program} {w : World} (W : Glob prog w) (C : Act) (σ : Sg) (μ : Mu) (sts : List Stmt) (K : FD → Sg → Mu → Prop) : Prop where
  run : ∀ (s : Shared) (Q : Flow → Shared → Prop) (E : Value → Shared → Prop), Rep0 W C σ μ s →
    (∀ fd fl σ' μ' s', K fd σ' μ' → Rep W C σ' μ' s' → Mv (C.mut μ) s s' → (∀ a ∈ C.mut μ', a ∈ C.mut μ ∨ s.heap.objs.size ≤ a) → FR (C.D μ') s'.toks s'.heap fd fl → Q fl s') →
    wpAny (model prog w) C.A (execs sts C.env) Q E s

theorem Es0.name (O : C.Ok) {x : Str} {p pos : Pos} {d : D} (hk : C.env.kindOf x = some .local) (hx : σ x = some d) (hd : (x == ("__debug__" : Str)) = false := by decide)
    (hn : starEach [.Name x p] C.env = [(false, eval (.Name x p) C.env)] := by rfl) : Es0 W C σ μ pos [.Name x p] [d] := by
  refine ⟨fun s Q E R hQ => ?_⟩
  rw [hn]
  show wpAny _ _ (do
    let v ← eval (.Name x p) C.env
    let here ← (pure [v] : Sem (List Value))
    return here ++ (← holding here (spliced (backTo pos [])))) _ _ s
  obtain ⟨m, hns, hm⟩ := R.loc
  obtain ⟨v, hv, r⟩ := hm x d hx hk
  refine wpAny_bind (wpAny_Name (wpAny_loadName_local O.kind hk hns hv (wpAny_bind (wpAny_pure (wpAny_bind (wpAny_holding (wpAny_pure (wpAny_pure ?_))))))) hd)
  exact hQ _ s (Mv.refl _ _) (VRs.one r)
theorem Es01.consInt {pos : Pos} {i : Int} {k : Nat} {p : Pos} {es : List Expr} {ds : List D} (hr : Es W C σ μ pos es ds)
    (hn : starEach (.Constant (.int i) k p :: es) C.env = (false, eval (.Constant (.int i) k p) C.env) :: starEach es C.env := by rfl) : Es01 W C σ μ pos (.Constant (.int i) k p :: es) (.int i :: ds) := by
  refine ⟨fun s Q E R hQ => ?_⟩
  rw [hn]
  show wpAny _ _ (do
    let v ← eval (.Constant (.int i) k p) C.env
    let here ← (pure [v] : Sem (List Value))
    return here ++ (← holding here (spliced (backTo pos (starEach es C.env))))) _ _ s
  have y₁ : Stp s { s with toks := s.toks + 1 } := Stp.tk (Nat.le_succ _)
  refine wpAny_bind (wpAny_Constant_int (wpAny_bind (wpAny_pure (wpAny_bind (wpAny_holding (hr.run _ _ _ ((R.step y₁).up (Nat.succ_pos _)) fun vs s₂ y₂ x₂ => wpAny_pure ?_))))))
  exact hQ _ s₂ (y₁.trans y₂) (Nat.lt_of_lt_of_le (Nat.succ_pos _) y₂.toks) (VRs.cons ⟨_, rfl⟩ x₂)
theorem En01.list {es : List Expr} {pos : Pos} {ds : List D} (h : Es01 W C σ μ pos es ds) (hl : ds.length ≤ sizeLine) : En01 W C σ μ (.List es pos) ds := by
  refine ⟨fun s Q E R hQ => ?_⟩
  refine wpAny_List_spliced (h.run s _ _ R fun vs s₁ y₁ hp x₁ => ⟨by rw [x₁.length]; exact hl, ?_⟩)
  refine hQ _ vs.toArray _ (y₁.trans (Stp.push _ (Nat.le_refl _))) hp y₁.size ⟨0, Heap.get?_push_size _ rfl⟩ ?_
  exact x₁.mono (Nat.le_refl _) fun c o hp e => ⟨⟨hp, Nat.ne_of_lt (Heap.lt_size e)⟩, Heap.get?_push_of_some _ e⟩
theorem Exs01.assign (O : C.Ok) {x : Str} {p pos : Pos} {e : Expr} {d : D} {rest : List Stmt} {K : FD → Sg → Mu → Prop} (hx : Stores C x) (he : Ev01 W C σ μ e d)
    (hr : Exs W C (upd σ x d) μ rest K) (hs : swapsWith e (some (.Name x p)) pos.line C.env = pure false := by rfl) : Exs01 W C σ μ (.Assign [.Name x p] e pos :: rest) K := by
  refine ⟨fun s Q E R hQ => ?_⟩
  refine wpAny_execs_cons (wpAny_Assign_Name (he.run s _ _ R fun v s₁ y₁ hp x₁ => Rep.store O ((R.step y₁).up hp) x₁ hx fun s₂ R₂ y₂ => ?_) hs)
  refine hr.run s₂ Q E R₂ fun fd fl σ' μ' s' hk R' y' new' frr => hQ fd fl σ' μ' s' hk R' ?_ ?_ frr
  · exact Mv.ofStp y₁ (y₂.trans y' fun b hb => .inl hb)
  · exact fun b hb => (new' b hb).elim .inl fun z => .inr (Nat.le_trans y₁.size (Nat.le_trans y₂.size z))

theorem Exs01.assignNew (O : C.Ok) {x : Str} {p pos : Pos} {e : Expr} {ds : List D} {rest : List Stmt} {K : FD → Sg → Mu → Prop} (hx : Stores C x) (he : En01 W C σ μ e ds)
    (hr : ∀ a, C.bsz ≤ a → Exs W C (upd σ x (.obj a)) ((a, .list ds) :: μ) rest K)
    (hs : swapsWith e (some (.Name x p)) pos.line C.env = pure false := by rfl) : Exs01 W C σ μ (.Assign [.Name x p] e pos :: rest) K := by
  refine ⟨fun s Q E R hQ => ?_⟩
  refine wpAny_execs_cons (wpAny_Assign_Name (he.run s _ _ R fun a vs s₁ y₁ hp0 fr hl hv => ?_) hs)
  have R₁ := (R.step y₁).up hp0
  -- the list joins what turns
  have ha : a < s₁.heap.objs.size := let ⟨n, g⟩ := hl; Heap.lt_size g
  have hna : a ∉ C.mut μ := fun hm => Nat.lt_irrefl _ (Nat.lt_of_lt_of_le (R.lt a hm) fr)
  have hmut : C.mut ((a, MC.list ds) :: μ) = C.fix ++ a :: μ.map (·.1) := rfl
  have keyD : ∀ b o, C.D μ b → s.heap.get? b = some o → C.D ((a, MC.list ds) :: μ) b ∧ s₁.heap.get? b = some o := fun b o p g => ⟨⟨p.1, fun hm => by
    rw [hmut] at hm
    rcases List.mem_append.mp hm with z | z
    · exact p.2 (List.mem_append_left _ z)
    · rcases List.mem_cons.mp z with z | z
      · exact Nat.lt_irrefl _ (Nat.lt_of_lt_of_le (z ▸ Heap.lt_size g) fr)
      · exact p.2 (List.mem_append_right _ z)⟩, y₁.all b o g⟩
  have R₂ : Rep W C σ ((a, MC.list ds) :: μ) s₁ := by
    refine ⟨R₁.top, R₁.size, ?_, ?_, ?_, ?_, ?_, ?_, R₁.tpos⟩
    · obtain ⟨m, hn, hm⟩ := R.loc
      exact ⟨m, hn.keeps y₁.all, fun x d e k => let ⟨v, hv, r⟩ := hm x d e k; ⟨v, hv, r.mono y₁.toks keyD⟩⟩
    · intro x k hk hkx
      obtain ⟨v, ⟨o, ho, hd⟩, r⟩ := R.cell x k hk hkx
      exact ⟨v, ⟨o, y₁.all _ _ ho, hd⟩, fun d e => let ⟨v', e', r'⟩ := r d e; ⟨v', e', r'.mono y₁.toks keyD⟩⟩
    · intro p hp
      rcases List.mem_cons.mp hp with rfl | hp
      · exact ⟨vs, hl, hv.mono (Nat.le_refl _) fun b o p g => ⟨⟨p.1.1, fun hm => by
          rw [hmut] at hm
          rcases List.mem_append.mp hm with z | z
          · exact p.1.2 (List.mem_append_left _ z)
          · rcases List.mem_cons.mp z with z | z
            · exact p.2 z
            · exact p.1.2 (List.mem_append_right _ z)⟩, g⟩⟩
      · exact (R.mem p hp).mono y₁.toks keyD fun o e => y₁.all _ o e
    · rw [hmut]
      have nd := R.nodup
      unfold Act.mut at nd hna
      have := List.nodup_append.mp nd
      refine List.nodup_append.mpr ⟨this.1, List.nodup_cons.mpr ⟨fun z => hna (List.mem_append_right _ z), this.2.1⟩, fun b hb c hc z => ?_⟩
      rcases List.mem_cons.mp hc with q | q
      · exact hna (List.mem_append_left _ (by rw [← q, ← z]; exact hb))
      · exact this.2.2 b hb c q z
    · intro b hb
      rw [hmut] at hb
      rcases List.mem_append.mp hb with z | z
      · exact R.low b (List.mem_append_left _ z)
      · rcases List.mem_cons.mp z with z | z
        · rw [z]; exact W.nb (Nat.le_trans R.n₀ fr)
        · exact R.low b (List.mem_append_right _ z)
    · intro b hb
      rw [hmut] at hb
      rcases List.mem_append.mp hb with z | z
      · exact R₁.lt b (List.mem_append_left _ z)
      · rcases List.mem_cons.mp z with z | z
        · rw [z]; exact ha
        · exact R₁.lt b (List.mem_append_right _ z)
  refine Rep.store O R₂ (d := .obj a) rfl hx fun s₂ R₃ y₂ => ?_
  have new : ∀ b ∈ C.mut ((a, MC.list ds) :: μ), b ∈ C.mut μ ∨ s.heap.objs.size ≤ b := by
    intro b hb
    rw [hmut] at hb
    rcases List.mem_append.mp hb with z | z
    · exact .inl (List.mem_append_left _ z)
    · rcases List.mem_cons.mp z with z | z
      · rw [z]; exact .inr fr
      · exact .inl (List.mem_append_right _ z)
  refine (hr a (Nat.le_trans R.size fr)).run s₂ Q E R₃ fun fd fl σ' μ' s' hk R' y' new' frr => ?_
  refine hQ fd fl σ' μ' s' hk R' ?_ ?_ frr
  · refine Mv.trans (M := C.mut μ) (M' := C.mut ((a, MC.list ds) :: μ)) (y₁.wk fun _ h => nomatch h) (y₂.trans y' fun b hb => .inl hb) new
  · intro b hb
    rcases new' b hb with z | z
    · exact new b z
    · exact .inr (Nat.le_trans y₁.size (Nat.le_trans y₂.size z))



noncomputable def Fn01 {prog : Program} {w : World} (W : Glob prog w) (a : Addr) (n : Nat) (ds : List D) (d : D) : Prop :=
  ∀ (A : Around) (s : Shared) (vals : List Value) (P : Addr → Prop) (R : Result → Shared → Prop), Lvl n A → W.G s.heap → W.n₀ ≤ s.heap.objs.size → VRs P s.toks s.heap ds vals →
    (∀ v s', Stp s s' → 0 < s'.toks → VR (fun b => P b ∨ s.heap.objs.size ≤ b) s'.toks s'.heap d v → R (.ok (.ret v)) s') → codeAny (model prog w) A (.call (.ref a) ⟨vals, []⟩) R s
theorem Rep0.res {s s' : Shared} (R : Rep0 W C σ μ s) {d : D} {v : Value} {k : Nat} {h : Heap} (x : VR (fun b => C.D μ b ∨ s.heap.objs.size ≤ b) k h d v) : VR (C.D μ) k h d v :=
  x.mono (Nat.le_refl _) fun a o hp e => ⟨hp.elim id fun z => C.D_new0 R z, e⟩
theorem wp_global0 (O : C.Ok) {s : Shared} {Q : Value → Shared → Prop} {E : Value → Shared → Prop} (R : Rep0 W C σ μ s) {x : Str} {pos : Pos} {v : Value} (hk : C.env.kindOf x = some .globalImplicit) (hv : W.mg x = some v) (h : Q v s) (hd : (x == ("__debug__" : Str)) = false := by decide) :
    wpAny (model prog w) C.A (eval (.Name x pos) C.env) Q E s := by
  refine wpAny_Name ?_ hd
  rw [loadName_read O.kind hk]
  exact Calls.loadGlobal_global (by rw [O.glob]; exact W.nsg R.top) hv h

theorem Ev01.callFn (O : C.Ok) {f : Str} {p pos : Pos} {args : List Expr} {ds : List D} {d : D} {a : Addr} {n : Nat} {fd : FuncData} (hk : C.env.kindOf f = some .globalImplicit) (hg : W.mg f = some (.ref a))
    (hf : ∀ {h : Heap}, W.G h → ∃ o, h.get? a = some o ∧ o.data = .func fd)
    (ha : Es0 W C σ μ pos args ds) (hF : Fn01 W a n ds d) (hl : Lvl n C.A) (hne : args ≠ [])
    (hq : starEach args C.env = args.map (fun e => (false, eval e C.env)) := by rfl) (hd : (f == ("__debug__" : Str)) = false := by decide) : Ev01 W C σ μ (.Call (.Name f p) args [] pos) d := by
  refine ⟨fun s Q E R hQ => ?_⟩
  refine wpAny_Call_NameR (wp_global0 O R hk hg ?_ hd)
  cases args with
  | nil => exact absurd rfl hne
  | cons e rest =>
    have hse : backTo pos (starEach (e :: rest) C.env) = (false, eval e C.env) :: backTo pos (starEach rest C.env) := by
      rw [hq]
      have : starEach rest C.env = rest.map (fun e => (false, eval e C.env)) := by
        have : starEach (e :: rest) C.env = (false, eval e C.env) :: starEach rest C.env := by
          cases e <;> first | rfl | (rw [hq]; simp [starEach] at hq)
        rw [this] at hq
        exact (List.cons.inj hq).2
      rw [this]; simp [backTo]
    obtain ⟨o, ho, hdat⟩ := hf R.top
    refine Calls.callWith_function (o := o) (fd := fd) ?_
    rw [hse]
    refine Calls.evalArgs_plain ?_
    rw [← hse]
    refine ha.run s _ _ R fun vs s₁ y₁ x₁ => ⟨⟨y₁.all _ _ ho, hdat⟩, wpAny_call ?_⟩
    have R₁ := R.step y₁
    refine hF C.A s₁ _ (C.D μ) _ hl R₁.top R₁.n₀ x₁ fun v s₂ y₂ hp x₂ => ?_
    exact hQ v s₂ (y₁.trans y₂) hp (Rep0.res (s' := s₂) R₁ x₂)

theorem Fn01.of_body {a : Addr} {n : Nat} {ds : List D} {d : D} {nm : Str} {params : Arguments} {body : List Stmt} {scope : Scope} {pm cd doc : Value} (ps : List Str)
    (hf : IsDef W a nm params body scope pm cd doc)
    (hbind : ∀ vals, vals.length = ps.length → bindArgs (Calls.docDef nm params body scope pm cd doc) ⟨vals, []⟩ = pure (ps.zip vals))
    (hlen : ds.length = ps.length)
    (h : ∀ (A : Around) (L : Addr) (P : Addr → Prop) (bsz : Nat), (mkC A (Calls.docDef nm params body scope pm cd doc) L a P bsz).Ok → Lvl n A →
      Exs01 W (mkC A (Calls.docDef nm params body scope pm cd doc) L a P bsz) (fun x => (ps.zip ds).lookup x) [] body (fun f _ _ => f = .ret d ∨ (f = .next ∧ d = .none)))
    (hnd : ps.Nodup := by decide +kernel)
    (hkind : ∀ x ∈ ps, scope.names.lookup x = some .local ∨ (scope.names.lookup x = some .cell ∧ ∀ k, ((cellsFrom k scope.names []).lookup x).isSome = true) := by intro x hx; simp only [List.mem_cons, List.not_mem_nil, or_false] at hx; rcases hx with rfl | rfl | rfl <;> first | exact .inl rfl | exact .inr ⟨rfl, fun _ => rfl⟩)
    (hcnd₀ : ((scope.names.filter (fun x => x.2 == .cell)).map (·.1)).Nodup := by decide +kernel)
    (hco : scope.isCoroutine = false := by rfl) (hgen : scope.isGenerator = false := by rfl) (hk : scope.kind = .function := by rfl) : Fn01 W a (n + 1) ds d := by
  intro A s vals P R hl hG hn₀ hv hR
  have hcnd : ∀ k, ((cellsFrom k scope.names []).map (·.1)).Nodup := fun k => by rw [cellsFrom_names, List.map_nil, List.append_nil]; exact (List.reverse_perm _).nodup_iff.mpr hcnd₀
  obtain ⟨o, ho, hdat⟩ := hf.obj hG
  have hvl : vals.length = ps.length := hv.length.trans hlen
  have hmap : (ps.zip vals).map (·.1) = ps := by rw [List.map_fst_zip]; omega
  refine codeAny_call_function (by unfold recursionLimit; have := hl.1; omega) ho hdat hco hgen rfl (hf.code hG) ?_
  rw [hbind vals hvl]
  refine wpAny_pure (wpAny_tk (wpAny_newFunctionEnv_cells hk ?_ fun env he s₁ x₁ htk₁ => ?_))
  · intro x hx
    have hx' : x.1 ∈ ps := by rw [← hmap]; exact List.mem_map_of_mem hx
    exact (hkind x.1 hx').imp id fun z => ⟨z.1, z.2 _⟩
  have he' : env = callEnvC (Calls.docDef nm params body scope pm cd doc) s.heap.objs.size a := he
  subst he'
  refine ⟨(W.lim hG).keeps x₁.toInCall.keep, codeAny_func ?_⟩
  have kindOf : ∀ x, (callEnvC (Calls.docDef nm params body scope pm cd doc) s.heap.objs.size a).kindOf x = scope.names.lookup x := fun _ => rfl
  have hL : (callEnvC (Calls.docDef nm params body scope pm cd doc) s.heap.objs.size a).locals = s.heap.objs.size := rfl
  have hcs : (callEnvC (Calls.docDef nm params body scope pm cd doc) s.heap.objs.size a).cells = cellsFrom (s.heap.objs.size + 1) scope.names [] := rfl
  obtain ⟨h₁, tk₁, e₁⟩ := x₁.toInCall.same
  have hkeep := x₁.toInCall.keep
  rw [hL, hcs] at x₁
  have hlt : s.heap.objs.size < s₁.heap.objs.size := x₁.toInCall.ns.lt
  have lookup_of : ∀ {x : Str} {c : Addr}, (x, c) ∈ cellsFrom (s.heap.objs.size + 1) scope.names [] → (cellsFrom (s.heap.objs.size + 1) scope.names []).lookup x = some c := by
    have gen : ∀ {cs : List (Str × Addr)}, (cs.map (·.1)).Nodup → ∀ {x : Str} {c : Addr}, (x, c) ∈ cs → cs.lookup x = some c := by
      intro cs
      induction cs with
      | nil => intro _ x c h; cases h
      | cons z r ih =>
        intro nd x c hm
        obtain ⟨h1, h2⟩ := List.nodup_cons.mp nd
        rw [List.lookup_cons]
        rcases List.mem_cons.mp hm with e | hm
        · cases e; simp
        · have : (x == z.1) = false := beq_eq_false_iff_ne.mpr fun q => h1 (by show z.1 ∈ _; rw [← q]; exact List.mem_map_of_mem (f := (·.1)) hm)
          rw [this]; exact ih h2 hm
    intro x c hm; exact gen (hcnd _) hm
  -- what the callee's mutable addresses are
  have hmut : ∀ b ∈ (mkC (A.deeper (callEnvC (Calls.docDef nm params body scope pm cd doc) s.heap.objs.size a)) (Calls.docDef nm params body scope pm cd doc) s.heap.objs.size a P s.heap.objs.size).mut [], s.heap.objs.size ≤ b ∧ b < s₁.heap.objs.size := by
    intro b hb
    rcases List.mem_append.mp hb with hb | hb
    · rcases List.mem_cons.mp hb with rfl | hb
      · exact ⟨Nat.le_refl _, hlt⟩
      · obtain ⟨⟨x, c⟩, hm, rfl⟩ := List.mem_map.mp hb
        obtain ⟨o', ho', _⟩ := x₁.cell x c (lookup_of hm)
        exact ⟨Nat.le_of_lt (x₁.above x c hm), Heap.lt_size ho'⟩
    · cases hb
  have hD : ∀ b o, P b → s.heap.get? b = some o → (mkC (A.deeper (callEnvC (Calls.docDef nm params body scope pm cd doc) s.heap.objs.size a)) (Calls.docDef nm params body scope pm cd doc) s.heap.objs.size a P s.heap.objs.size).D [] b ∧ s₁.heap.get? b = some o :=
    fun b o hp e => ⟨⟨.inl hp, fun hm => Nat.lt_irrefl _ (Nat.lt_of_lt_of_le (Heap.lt_size e) (hmut b hm).1)⟩, hkeep b o e⟩
  have O : (mkC (A.deeper (callEnvC (Calls.docDef nm params body scope pm cd doc) s.heap.objs.size a)) (Calls.docDef nm params body scope pm cd doc) s.heap.objs.size a P s.heap.objs.size).Ok := by
    refine ⟨hk, hl.2.2, rfl, rfl, ?_, ?_, ?_, ?_⟩
    · intro x c hc; exact List.mem_map.mpr ⟨(x, c), mem_of_lookup hc, rfl⟩
    · intro x y c hx hy; exact name_of_addr x₁.apart (mem_of_lookup hx) (mem_of_lookup hy)
    · show A.depth + 1 < _; unfold recursionLimit; have := hl.1; omega
    · show A.units + 3 < _; unfold cLine; have := hl.2.1; omega
  have hnd' : ((ps.zip vals).map (·.1)).Nodup := by rw [hmap]; exact hnd
  have Rp : Rep0 W (mkC (A.deeper (callEnvC (Calls.docDef nm params body scope pm cd doc) s.heap.objs.size a)) (Calls.docDef nm params body scope pm cd doc) s.heap.objs.size a P s.heap.objs.size) (fun x => (ps.zip ds).lookup x) [] s₁ := by
    refine ⟨W.mono hG (fun b o _ e => hkeep b o e) (Nat.le_of_lt hlt), Nat.le_of_lt hlt, ⟨_, x₁.toInCall.ns, ?_⟩, ?_, fun p hp => (nomatch hp), ?_, fun b hb => W.nb (Nat.le_trans hn₀ (hmut b hb).1), fun b hb => (hmut b hb).2⟩
    · intro x e he hkx
      obtain ⟨v, hm, r⟩ := zip_mem hv (mem_of_lookup he)
      exact ⟨v, bindL_get hnd' hm hkx, r.mono htk₁ hD⟩
    · intro x c hc hkx
      refine ⟨_, x₁.cell x c hc, fun e he => ?_⟩
      obtain ⟨v, hm, r⟩ := zip_mem hv (mem_of_lookup he)
      refine ⟨v, bindC_get hnd' hm ?_, r.mono htk₁ hD⟩
      rcases hkx with z | z <;> rw [z] <;> intro q <;> cases q
    · show (s.heap.objs.size :: (cellsFrom (s.heap.objs.size + 1) scope.names []).map (·.2) ++ ([] : List Addr)).Nodup
      rw [List.append_nil, List.nodup_cons]
      refine ⟨fun hm => ?_, ?_⟩
      · obtain ⟨⟨x, c⟩, hm, e⟩ := List.mem_map.mp hm
        have := x₁.above x c hm
        have e' : c = s.heap.objs.size := e
        rw [e'] at this; exact Nat.lt_irrefl _ this
      · exact List.pairwise_map.mpr x₁.apart
  refine (h _ _ P _ O (hl.deeper _)).run s₁ _ _ Rp fun fd fl σ' μ' s' k R' y new fr => ?_
  have hS : Stp s s' := by
    have y0 : Stp s s₁ := ⟨fun b o e _ => hkeep b o e, Nat.le_of_lt hlt, by rw [e₁], by rw [e₁], by rw [e₁], htk₁⟩
    refine ⟨fun b o e _ => y.kept b o (hkeep b o e) fun hm => Nat.lt_irrefl _ (Nat.lt_of_lt_of_le (Heap.lt_size e) (hmut b hm).1), Nat.le_trans y0.size y.size, y.gens.trans y0.gens, y.drawn.trans y0.drawn, y.os.trans y0.os, Nat.le_trans y0.toks y.toks⟩
  rcases k with rfl | ⟨rfl, rfl⟩
  · obtain ⟨v, rfl, r⟩ := fr
    exact hR v s' hS R'.tpos (r.mono (Nat.le_refl _) fun b o hp e => ⟨hp.1, e⟩)
  · cases fr
    exact hR .none s' hS R'.tpos rfl


noncomputable def FnM01 {prog : Program} {w : World} (W : Glob prog w) (a : Addr) (n : Nat) (ds : List D) (μ : Mu) (K : D → Mu → Prop) : Prop :=
  ∀ (A : Around) (s : Shared) (vals : List Value) (P : Addr → Prop) (R : Result → Shared → Prop), Lvl n A → W.G s.heap → MuOk W P μ s → (∀ b, P b → b ∉ μ.map (·.1)) → VRs P s.toks s.heap ds vals →
    (∀ d μ' v s', K d μ' → Mv (μ.map (·.1)) s s' → (∀ b ∈ μ'.map (·.1), b ∈ μ.map (·.1) ∨ s.heap.objs.size ≤ b) → MuOk W (newP P s.heap.objs.size μ') μ' s' → VR (newP P s.heap.objs.size μ') s'.toks s'.heap d v → R (.ok (.ret v)) s') →
    codeAny (model prog w) A (.call (.ref a) ⟨vals, []⟩) R s

theorem FnM01.core {a : Addr} {n : Nat} {ds : List D} {fd : FuncData} {body : List Stmt} (ps : List Str) {K₀ : Addr → FD → Sg → Mu → Prop}
    (hf : IsFn W a fd body)
    (hbind : ∀ vals, vals.length = ps.length → bindArgs fd ⟨vals, []⟩ = pure (ps.zip vals))
    (hlen : ds.length = ps.length)
    (h : ∀ (A : Around) (L : Addr) (P : Addr → Prop), (mkC A fd L a P L).Ok → Lvl n A →
      Exs01 W (mkC A fd L a P L) (fun x => (ps.zip ds).lookup x) μ body (K₀ L))
    (hnd : ps.Nodup)
    (hkind : ∀ x ∈ ps, fd.scope.names.lookup x = some .local ∨ (fd.scope.names.lookup x = some .cell ∧ ∀ k, ((cellsFrom k fd.scope.names []).lookup x).isSome = true))
    (hcnd₀ : ((fd.scope.names.filter (fun x => x.2 == .cell)).map (·.1)).Nodup)
    (A : Around) (s : Shared) (vals : List Value) (P : Addr → Prop) (R : Result → Shared → Prop) (hl : Lvl (n + 1) A) (hG : W.G s.heap) (hM : MuOk W P μ s) (hP : ∀ b, P b → b ∉ μ.map (·.1)) (hv : VRs P s.toks s.heap ds vals)
    (hR : ∀ A' f σ' μ' s' fl, K₀ s.heap.objs.size f σ' μ' → Rep W (mkC A' fd s.heap.objs.size a P s.heap.objs.size) σ' μ' s' → Mv (μ.map (·.1)) s s' → (∀ b ∈ μ'.map (·.1), b ∈ μ.map (·.1) ∨ s.heap.objs.size ≤ b) →
      FR ((mkC A' fd s.heap.objs.size a P s.heap.objs.size).D μ') s'.toks s'.heap f fl → R (.ok (.ret (match fl with | .ret v => v | _ => .none))) s') :
    codeAny (model prog w) A (.call (.ref a) ⟨vals, []⟩) R s := by
  have hn₀ := W.big hG
  have hcnd : ∀ k, ((cellsFrom k fd.scope.names []).map (·.1)).Nodup := fun k => by rw [cellsFrom_names, List.map_nil, List.append_nil]; exact (List.reverse_perm _).nodup_iff.mpr hcnd₀
  obtain ⟨o, ho, hdat⟩ := hf.obj hG
  have hvl : vals.length = ps.length := hv.length.trans hlen
  have hmap : (ps.zip vals).map (·.1) = ps := by rw [List.map_fst_zip]; omega
  refine codeAny_call_function (by unfold recursionLimit; have := hl.1; omega) ho hdat hf.co hf.gen hf.bod (hf.code hG) ?_
  rw [hbind vals hvl, hf.clos, hf.glob, hf.blt]
  refine wpAny_pure (wpAny_tk (wpAny_newFunctionEnv_cells hf.kind ?_ fun env he s₁ x₁ htk₁ => ?_))
  · intro x hx
    have hx' : x.1 ∈ ps := by rw [← hmap]; exact List.mem_map_of_mem hx
    exact (hkind x.1 hx').imp id fun z => ⟨z.1, z.2 _⟩
  have he' : env = callEnvC fd s.heap.objs.size a := by rw [he]; unfold callEnvC; rw [hf.glob, hf.blt]
  subst he'
  refine ⟨(W.lim hG).keeps x₁.toInCall.keep, codeAny_func ?_⟩
  have hL : (callEnvC fd s.heap.objs.size a).locals = s.heap.objs.size := rfl
  have hcs : (callEnvC fd s.heap.objs.size a).cells = cellsFrom (s.heap.objs.size + 1) fd.scope.names [] := rfl
  obtain ⟨h₁, tk₁, e₁⟩ := x₁.toInCall.same
  have hkeep := x₁.toInCall.keep
  rw [hL, hcs] at x₁
  have hlt : s.heap.objs.size < s₁.heap.objs.size := x₁.toInCall.ns.lt
  have lookup_of : ∀ {x : Str} {c : Addr}, (x, c) ∈ cellsFrom (s.heap.objs.size + 1) fd.scope.names [] → (cellsFrom (s.heap.objs.size + 1) fd.scope.names []).lookup x = some c := by
    have gen : ∀ {cs : List (Str × Addr)}, (cs.map (·.1)).Nodup → ∀ {x : Str} {c : Addr}, (x, c) ∈ cs → cs.lookup x = some c := by
      intro cs
      induction cs with
      | nil => intro _ x c h; cases h
      | cons z r ih =>
        intro nd x c hm
        obtain ⟨h1, h2⟩ := List.nodup_cons.mp nd
        rw [List.lookup_cons]
        rcases List.mem_cons.mp hm with e | hm
        · cases e; simp
        · have : (x == z.1) = false := beq_eq_false_iff_ne.mpr fun q => h1 (by show z.1 ∈ _; rw [← q]; exact List.mem_map_of_mem (f := (·.1)) hm)
          rw [this]; exact ih h2 hm
    intro x c hm; exact gen (hcnd _) hm
  have hfix : ∀ b ∈ (mkC (A.deeper (callEnvC fd s.heap.objs.size a)) fd s.heap.objs.size a P s.heap.objs.size).fix, s.heap.objs.size ≤ b ∧ b < s₁.heap.objs.size := by
    intro b hb
    rcases List.mem_cons.mp hb with rfl | hb
    · exact ⟨Nat.le_refl _, hlt⟩
    · obtain ⟨⟨x, c⟩, hm, rfl⟩ := List.mem_map.mp hb
      obtain ⟨o', ho', _⟩ := x₁.cell x c (lookup_of hm)
      exact ⟨Nat.le_of_lt (x₁.above x c hm), Heap.lt_size ho'⟩
  have hmut : ∀ b ∈ (mkC (A.deeper (callEnvC fd s.heap.objs.size a)) fd s.heap.objs.size a P s.heap.objs.size).mut μ, (s.heap.objs.size ≤ b ∧ b < s₁.heap.objs.size) ∨ (b ∈ μ.map (·.1) ∧ b < s.heap.objs.size) := by
    intro b hb
    rcases List.mem_append.mp hb with hb | hb
    · exact .inl (hfix b hb)
    · exact .inr ⟨hb, hM.lt b hb⟩
  have hD : ∀ b o, P b → s.heap.get? b = some o → (mkC (A.deeper (callEnvC fd s.heap.objs.size a)) fd s.heap.objs.size a P s.heap.objs.size).D μ b ∧ s₁.heap.get? b = some o :=
    fun b o hp e => ⟨⟨.inl hp, fun hm => by
      rcases hmut b hm with z | z
      · exact Nat.lt_irrefl _ (Nat.lt_of_lt_of_le (Heap.lt_size e) z.1)
      · exact hP b hp z.1⟩, hkeep b o e⟩
  have O : (mkC (A.deeper (callEnvC fd s.heap.objs.size a)) fd s.heap.objs.size a P s.heap.objs.size).Ok := by
    refine ⟨hf.kind, hl.2.2, hf.glob, hf.blt, ?_, ?_, ?_, ?_⟩
    · intro x c hc; exact List.mem_map.mpr ⟨(x, c), mem_of_lookup hc, rfl⟩
    · intro x y c hx hy; exact name_of_addr x₁.apart (mem_of_lookup hx) (mem_of_lookup hy)
    · show A.depth + 1 < _; unfold recursionLimit; have := hl.1; omega
    · show A.units + 3 < _; unfold cLine; have := hl.2.1; omega
  have hnd' : ((ps.zip vals).map (·.1)).Nodup := by rw [hmap]; exact hnd
  have Rp : Rep0 W (mkC (A.deeper (callEnvC fd s.heap.objs.size a)) fd s.heap.objs.size a P s.heap.objs.size) (fun x => (ps.zip ds).lookup x) μ s₁ := by
    refine ⟨W.mono hG (fun b o _ e => hkeep b o e) (Nat.le_of_lt hlt), Nat.le_of_lt hlt, ⟨_, x₁.toInCall.ns, ?_⟩, ?_, fun p hp => ?_, ?_, fun b hb => ?_, fun b hb => ?_⟩
    · intro x e he hkx
      obtain ⟨v, hm, r⟩ := zip_mem hv (mem_of_lookup he)
      exact ⟨v, bindL_get hnd' hm hkx, r.mono htk₁ hD⟩
    · intro x c hc hkx
      refine ⟨_, x₁.cell x c hc, fun e he => ?_⟩
      obtain ⟨v, hm, r⟩ := zip_mem hv (mem_of_lookup he)
      refine ⟨v, bindC_get hnd' hm ?_, r.mono htk₁ hD⟩
      rcases hkx with z | z <;> rw [z] <;> intro q <;> cases q
    · exact (hM.mem p hp).mono htk₁ hD fun o e => hkeep _ o e
    · show (s.heap.objs.size :: (cellsFrom (s.heap.objs.size + 1) fd.scope.names []).map (·.2) ++ μ.map (·.1)).Nodup
      refine List.nodup_append.mpr ⟨List.nodup_cons.mpr ⟨fun hm => ?_, List.pairwise_map.mpr x₁.apart⟩, hM.nodup, fun b hb c hc z => ?_⟩
      · obtain ⟨⟨x, c⟩, hm, e⟩ := List.mem_map.mp hm
        have := x₁.above x c hm
        have e' : c = s.heap.objs.size := e
        rw [e'] at this; exact Nat.lt_irrefl _ this
      · subst z
        exact Nat.lt_irrefl _ (Nat.lt_of_lt_of_le (hM.lt b hc) (hfix b hb).1)
    · rcases hmut b hb with z | z
      · exact W.nb (Nat.le_trans hn₀ z.1)
      · exact hM.low b z.1
    · rcases hmut b hb with z | z
      · exact z.2
      · exact Nat.lt_of_lt_of_le z.2 (Nat.le_of_lt hlt)
  have y0 : Stp s s₁ := ⟨fun b o e _ => hkeep b o e, Nat.le_of_lt hlt, by rw [e₁], by rw [e₁], by rw [e₁], htk₁⟩
  refine (h _ _ P O (hl.deeper _)).run s₁ _ _ Rp fun f fl σ' μ' s' k R' y new fr => ?_
  refine hR _ f σ' μ' s' fl k R' ?_ (fun b hb => ?_) fr
  · refine ⟨fun b o e hb => y.kept b o (hkeep b o e) fun hm => ?_, Nat.le_trans y0.size y.size, y.gens.trans y0.gens, y.drawn.trans y0.drawn, y.os.trans y0.os, Nat.le_trans y0.toks y.toks⟩
    rcases hmut b hm with z | z
    · exact Nat.lt_irrefl _ (Nat.lt_of_lt_of_le (Heap.lt_size e) z.1)
    · exact hb z.1
  · have hb' : b ∈ (mkC (A.deeper (callEnvC fd s.heap.objs.size a)) fd s.heap.objs.size a P s.heap.objs.size).mut μ' := List.mem_append_right _ hb
    rcases new b hb' with z | z
    · rcases hmut b z with q | q
      · exact .inr q.1
      · exact .inl q.1
    · exact .inr (Nat.le_trans y0.size z)


theorem FnM01.of_body {a : Addr} {n : Nat} {ds : List D} {fd : FuncData} {body : List Stmt} (ps : List Str) {K : D → Mu → Prop}
    (hf : IsFn W a fd body)
    (hbind : ∀ vals, vals.length = ps.length → bindArgs fd ⟨vals, []⟩ = pure (ps.zip vals))
    (hlen : ds.length = ps.length)
    (h : ∀ (A : Around) (L : Addr) (P : Addr → Prop), (mkC A fd L a P L).Ok → Lvl n A →
      Exs01 W (mkC A fd L a P L) (fun x => (ps.zip ds).lookup x) μ body (fun f _ μ' => ∃ d, (f = .ret d ∨ (f = .next ∧ d = .none)) ∧ K d μ'))
    (hnd : ps.Nodup := by decide +kernel)
    (hkind : ∀ x ∈ ps, fd.scope.names.lookup x = some .local ∨ (fd.scope.names.lookup x = some .cell ∧ ∀ k, ((cellsFrom k fd.scope.names []).lookup x).isSome = true) := by intro x hx; simp only [List.mem_cons, List.not_mem_nil, or_false] at hx; rcases hx with rfl | rfl | rfl <;> first | exact .inl rfl | exact .inr ⟨rfl, fun _ => rfl⟩)
    (hcnd₀ : ((fd.scope.names.filter (fun x => x.2 == .cell)).map (·.1)).Nodup := by decide +kernel) : FnM01 W a (n + 1) ds μ K := by
  intro A s vals P R hl hG hM hP hv hR
  refine FnM01.core (K₀ := fun _ f _ μ' => ∃ d, (f = .ret d ∨ (f = .next ∧ d = .none)) ∧ K d μ') ps hf hbind hlen h hnd hkind hcnd₀ A s vals P R hl hG hM hP hv fun A' f σ' μ' s' fl k Rp y new fr => ?_
  obtain ⟨d, hd, k⟩ := k
  rcases hd with rfl | ⟨rfl, rfl⟩
  · obtain ⟨v, rfl, r⟩ := fr
    exact hR d μ' v s' k y new Rp.muOk (r.mono (Nat.le_refl _) fun b o q e => ⟨mkC_D q, e⟩)
  · cases fr
    exact hR .none μ' .none s' k y new Rp.muOk rfl


theorem cells_fn01 (S : Pr W) (l : List Int) (hl' : l.length ≤ 63) : Fn01 W (S.f 15) 1 [.lst (intL l)] (.lst (natL (cellsF l))) := by
  obtain ⟨pm, cd, doc, h1, h2⟩ := (S.has 15 (by decide)).ex
  refine Fn01.of_body ["script"] h2 (by intro vals hv; obtain ⟨x, rfl⟩ := len1 hv; rfl) rfl (fun A L P bsz O hl => ?_) (hcnd₀ := (by decide +kernel : (((fSco (stm 15)).names.filter (fun x => x.2 == .cell)).map (·.1)).Nodup))
  have hll : (intL l).length = l.length := by simp [intL]
  refine Exs01.assignNew O (.inl rfl) (En01.list (ds := [.int 270, .int 2, .int 53, .int 33, .int 87, .int 6, .int 7, .int 0, .int 0]) (Es01.consInt (Es.cons Ev.cint (Es.cons Ev.cint (Es.cons Ev.cint (Es.cons Ev.cint (Es.cons Ev.cint (Es.cons Ev.cint (Es.cons Ev.cint (Es.cons Ev.cint Es.nil))))))))) (by decide)) fun r hr => ?_
  have h0 : ([.int 270, .int 2, .int 53, .int 33, .int 87, .int 6, .int 7, .int 0, .int 0] : List D) = natL (cRow l 0) := by simp [natL, cRow]
  rw [h0]
  refine Exs.cons (K' := fun f σ' μ' => f = .next ∧ Le (sg [("script", .lst (intL l)), ("cells", .obj r)]) σ' ∧ μ' = [(r, .list (natL (cellsF l)))])
    (Ex1.for_ O (f := fun i σ => upd σ "k" (.int (i : Int)))
      (fun j σ' μ' => Le (sg [("script", .lst (intL l)), ("cells", .obj r)]) σ' ∧ μ' = [(r, .list (natL (cRow l j)))])
      (Itr.upto S O (n := min l.length 45) (Ev.callB O rfl S.min.1 S.min.2 (Es.cons (Ev.callB O rfl S.len.1 S.len.2 (Es.cons (Ev.name O rfl rfl) Es.nil) (OpN.lenL (by rw [hll]; unfold sizeLine; omega)) (by intro h; cases h)) (Es.cons Ev.cint Es.nil)) (by
        have e : ((min l.length 45 : Nat) : Int) = (if (45 : Int) < ((intL l).length : Int) then 45 else ((intL l).length : Int)) := by rw [hll]; split <;> omega
        rw [e]; exact OpN.min2 O) (by intro h; cases h)) (by omega))
      (fun i μ' => Tgt.name O (.inl rfl)) ⟨Le.cons rfl (Le.cons rfl Le.nil), rfl⟩ ?_ ?_) ?_ ?_
  · rintro i σ' _ hi ⟨hle, rfl⟩
    have hi' : i < l.length := by omega
    refine Exs.weaken (hle.upd _ _) ?_
    have hc : i % 9 < (cRow l i).length := by rw [cRow_len]; exact Nat.mod_lt _ (by omega)
    have h9 : ((i : Int).fmod 9) = ((i % 9 : Nat) : Int) := fmod_nat i 9 (by omega)
    have hm : 0 ≤ (l[i]).fmod 1000000 := Int.fmod_nonneg_of_pos _ (by decide)
    refine Exs.augItem O (i := 0) (d₀ := .int (((cRow l i)[i % 9] : Nat) : Int)) (d₁ := .int ((l[i]).fmod 1000000)) (Ev.name O rfl rfl) (Ev.binop (Ev.name O rfl rfl) Ev.cint (Op2.modI (by decide))) rfl (by rw [h9]; omega) (by rw [h9, Int.toNat_natCast]; exact natL_get (List.getElem?_eq_getElem hc)) (by rw [h9]; omega)
      (Ev.binop (Ev.sub (Ev.name O rfl rfl) (Ev.name O rfl rfl) (Op2.itemL (by rw [Int.toNat_natCast]; exact intL_get (List.getElem?_eq_getElem hi')) (by omega) (by omega))) Ev.cint (Op2.modI (by decide))) Op2.iaddI ?_
    refine Exs.nil ⟨_, Le.cons rfl (Le.cons rfl Le.nil), Le.refl _, ?_⟩
    show [(r, MC.list ((natL (cRow l i)).set ((i : Int).fmod 9).toNat (.int (((cRow l i)[i % 9] : Nat) + (l[i]).fmod 1000000))))] = _
    have e1 : (((cRow l i)[i % 9] : Nat) : Int) + (l[i]).fmod 1000000 = (((cRow l i)[i % 9]?.getD 0 + ((l[i]?.getD 0).fmod 1000000).toNat : Nat) : Int) := by
      rw [List.getElem?_eq_getElem hc, List.getElem?_eq_getElem hi']
      simp only [Option.getD_some]
      omega
    rw [e1, h9, Int.toNat_natCast, cRow]
    unfold natL
    rw [List.map_set]
  · rintro σ' _ ⟨hle, rfl⟩
    exact ⟨rfl, hle, rfl⟩
  · rintro σ' _ ⟨_, hle, rfl⟩
    refine Exs.weaken hle (Exs.freeze (x := "cells") (i := 0) rfl rfl (.inl hr) ?_)
    exact Exs.ret (Ev.name O rfl rfl) (.inl rfl)
  · rintro f _ _ hn ⟨h, _⟩
    exact absurd h hn

end
end Mine

namespace Mine
noncomputable def psF (cs : List Nat) : List (List Nat) := (List.range 4).map fun k => pieceF (cs[1 + k]?.getD 0)
noncomputable def jsF (cs : List Nat) : List (Nat × Nat) := (List.range 3).map fun k => (cs[k + 5]?.getD 0 % (3 - k), cs[k + 5]?.getD 0 / 6 % 2)
noncomputable def jW (j : Nat × Nat) : List Nat := [48 + j.1] ++ [32] ++ (if j.2 = 1 then concatL else addL) ++ [10]
noncomputable def tA (cs : List Nat) : Nat → List Nat
  | 0 => writtenF (wordF (cs[0]?.getD 0) 3) (cs[0]?.getD 0 / 216)
  | k + 1 => tA cs k ++ writtenF (pieceF (cs[1 + k]?.getD 0)) (cs[1 + k]?.getD 0 / 43)
noncomputable def tB (t : List Nat) : List (Nat × Nat) → List Nat
  | [] => t
  | j :: js => tB (t ++ jW j) js
noncomputable def textF (cs : List Nat) : List Nat := tB (tA cs 4) (jsF cs) ++ [10, 32]
theorem tA_len (cs : List Nat) : ∀ k, (tA cs k).length ≤ 8 + 8 * k
  | 0 => by have := written_len (wordF (cs[0]?.getD 0) 3) (cs[0]?.getD 0 / 216) (by rw [wordF_len]; omega); rw [tA]; omega
  | k + 1 => by
    have h1 := tA_len cs k
    have h2 := written_len (pieceF (cs[1 + k]?.getD 0)) (cs[1 + k]?.getD 0 / 43) (by have := pieceF_len (cs[1 + k]?.getD 0); omega)
    rw [tA, List.length_append]; omega
theorem jW_len (j : Nat × Nat) : (jW j).length ≤ 9 := by unfold jW concatL addL; split <;> simp
theorem tB_app (t : List Nat) : ∀ js : List (Nat × Nat), tB t js = t ++ js.flatMap jW
  | [] => by simp [tB]
  | j :: js => by rw [tB, tB_app (t ++ jW j) js, List.flatMap_cons, List.append_assoc]
theorem jsF_bound (cs : List Nat) : ∀ t p, (jsF cs)[t]? = some p → p.1 < 3 - t := by
  intro t p h
  unfold jsF at h
  rw [List.getElem?_map] at h
  by_cases ht : t < 3
  · rw [List.getElem?_range ht] at h
    cases h
    exact Nat.mod_lt _ (by omega)
  · rw [List.getElem?_eq_none (by simp; omega)] at h
    cases h
section
variable {prog : Program} {w : World} {W : Glob prog w} {C : Act} {σ : Sg} {μ : Mu}

set_option maxHeartbeats 1000000 in
theorem law_fn (Λ : Lex W) (Δ : LexDef Λ) (hnb : ∀ {h : Heap}, W.G h → NoneBooked h) (ns : List Int) (h63 : ns.length ≤ 63) (cs : List Nat) (hcs0 : cs = cellsF ns) (htc : ∀ c ∈ textF cs, c < 128)
    (hch : Chain (textF cs) (wordF (cs[0]?.getD 0) 3 :: (psF cs ++ jTok (jsF cs))) [10, 32]) (fin : Pair) (hfin : runRow (jsF cs) ((psF cs).map (leafP (wordF (cs[0]?.getD 0) 3))) = [fin]) (hfinT : runT (jsF cs) ((psF cs).map fun p => [p]) = [fin.1])
    (hf0 : 0 < fin.1.length) (hf1 : fin.1.length ≤ 255) (hfx : ∀ x ∈ fin.1, x.length ≤ 16 ∧ ∀ c ∈ x, c ∈ sgn6) (b e : Nat) (hb : b = bF (cs[8]?.getD 0)) (he : e = eF (cs[8]?.getD 0))
    (hm : fin.2 b (e - b) ∈ fin.1.map (ed (cut (wordF (cs[0]?.getD 0) 3) b e))) (hle : ∀ x ∈ fin.1, fin.2 b (e - b) ≤ ed (cut (wordF (cs[0]?.getD 0) 3) b e) x) :
    FnM01 W (Λ.S.f 26) 10 [.lst (intL ns)] [(Δ.T, .raw (tabObj #[]))] (fun d μ' => d = .bool true ∧ ∃ ps, (Δ.T, MC.raw (tabObj ps)) ∈ μ') := by
  have hcs : cs.length = 9 := by rw [hcs0]; exact cellsF_len ns
  obtain ⟨pm, cd, doc, h1, h2⟩ := (Λ.S.has 26 (by decide)).ex
  have S := Λ.S
  refine FnM01.of_body ["script"] h2.isFn (by intro vals hv; obtain ⟨x, rfl⟩ := len1 hv; rfl) rfl (fun A L P O hl => ?_) (hcnd₀ := (by decide +kernel : (((fSco (stm 26)).names.filter (fun x => x.2 == .cell)).map (·.1)).Nodup))
  have cAt : ∀ {C : Act} {σ : Sg} {μ : Mu} {e f : Expr} {p : Pos} {k : Nat}, Ev W C σ μ e (.lst (natL cs)) → Ev W C σ μ f (.int (k : Int)) → k < 9 →
      (∀ o i, subscripted f false o i = operate [o, i] (getItem o i)) → Ev W C σ μ (.Subscript e f p) (.int ((cs[k]?.getD 0 : Nat) : Int)) := fun he hf hk hs => Ev.natAt he hf (by omega) (by omega) hs
  obtain ⟨pm', cd', doc', g1, g2⟩ := (Λ.S.has 15 (by decide)).ex
  refine Exs01.assign O (.inr ⟨rfl, rfl⟩) (d := .lst (natL cs)) (by rw [hcs0]; exact Ev01.callFn O rfl g1 g2.obj (Es0.name O rfl rfl) (cells_fn01 Λ.S ns h63) (hl.le (by omega)) (by intro h; cases h)) ?_
  refine Exs.conseq (K' := fun f _ μ' => f = .ret (.bool true) ∧ ∃ ps, (Δ.T, MC.raw (tabObj ps)) ∈ μ') ?_ (fun f σ' μ' h => ⟨_, .inl h.1, rfl, h.2⟩)
  refine Exs.assign O (.inl rfl) (Ev.fn Λ.S O 16 (word_fn Λ.S (cs[0]?.getD 0) 3 (by omega)) (hl.le (by omega)) (Es.cons (cAt (k := 0) (Ev.cellName O rfl rfl rfl) Ev.cint (by omega) (by intro _ _; with_unfolding_all rfl)) (Es.cons Ev.cint Es.nil))) ?_
  refine Exs.assignComp O rfl (ds := (psF cs).map .str) ?_ ?_
  · have e1 : (psF cs).map D.str = (List.range 4).map fun k => D.str (pieceF (cs[1 + k]?.getD 0)) := by unfold psF; rw [List.map_map]; rfl
    rw [e1]
    refine Cp.one O (cl := [("cells", L + 1)]) (sg [("cells", .lst (natL cs))]) (Itr.between Λ.S O (m := 1) (n := 5) Ev.cint Ev.cint (by decide) (by decide)) (by decide) rfl (fromOuter.cons rfl (.inl rfl) fromOuter.nil) (Le.cons rfl Le.nil) (sgF_cons rfl sgF_nil) rfl fun L' a xs k hk O' => ?_
    exact Ev.fn Λ.S O' 17 (piece_fn Λ.S _) (hl.le (by omega)) (Es.cons (cAt (k := 1 + k) (Ev.cellName O' rfl rfl rfl) (Ev.name O' rfl rfl) (by omega) (by intro _ _; with_unfolding_all rfl)) Es.nil)
  refine Exs.assignComp O rfl (ds := (jsF cs).map jD) ?_ ?_
  · have e1 : (jsF cs).map jD = (List.range 3).map fun k => jD (cs[k + 5]?.getD 0 % (3 - k), cs[k + 5]?.getD 0 / 6 % 2) := by unfold jsF; rw [List.map_map]; rfl
    rw [e1]
    refine Cp.one O (cl := [("cells", L + 1)]) (sg [("cells", .lst (natL cs))]) (Itr.upto Λ.S O (n := 3) Ev.cint (by decide)) (by decide) rfl (fromOuter.cons rfl (.inl rfl) fromOuter.nil) (Le.cons rfl Le.nil) (sgF_cons rfl sgF_nil) rfl fun L' a xs k hk O' => ?_
    exact Ev.tuple (Es.cons (Ev.modN (3 - k) (by omega) (cAt (k := k + 5) (Ev.cellName O' rfl rfl rfl) (Ev.binop (Ev.name O' rfl rfl) Ev.cint Op2.addI) (by omega) (by intro _ _; with_unfolding_all rfl)) (Ev.minus (a := 3) (b := k) (by omega) Ev.cint (Ev.name O' rfl rfl))) (Es.cons (Ev.modN 2 (by decide) (Ev.divN 6 (by decide) (by decide) (cAt (k := k + 5) (Ev.cellName O' rfl rfl rfl) (Ev.binop (Ev.name O' rfl rfl) Ev.cint Op2.addI) (by omega) (by intro _ _; with_unfolding_all rfl)) Ev.cint) Ev.cint) Es.nil)) (by simp; unfold sizeLine; omega)
  refine Exs.assign O (.inl rfl) (d := .str (tA cs 0)) (Ev.fn Λ.S O 18 (written_fn Λ.S (wordF (cs[0]?.getD 0) 3) (cs[0]?.getD 0 / 216) (by rw [wordF_len]; omega)) (hl.le (by omega)) (Es.cons (Ev.name O rfl rfl) (Es.cons (Ev.divN 216 (by decide) (by decide) (cAt (k := 0) (Ev.cellName O rfl rfl rfl) Ev.cint (by omega) (by intro _ _; with_unfolding_all rfl)) Ev.cint) Es.nil))) ?_
  refine Exs.weaken (σ' := sg [("cells", .lst (natL cs)), ("word", .str (wordF (cs[0]?.getD 0) 3)), ("pieces", .lst ((psF cs).map .str)), ("joins", .lst ((jsF cs).map jD)), ("text", .str (tA cs 0))]) (Le.cons rfl (Le.cons rfl (Le.cons rfl (Le.cons rfl (Le.cons rfl Le.nil))))) ?_
  refine Exs.cons (K' := fun f σ' μ' => f = .next ∧ Le (sg [("cells", .lst (natL cs)), ("word", .str (wordF (cs[0]?.getD 0) 3)), ("pieces", .lst ((psF cs).map .str)), ("joins", .lst ((jsF cs).map jD)), ("text", .str (tA cs 4))]) σ' ∧ μ' = [(Δ.T, .raw (tabObj #[]))])
    (Ex1.for_ O (f := fun i σ => upd σ "k" (.int (i : Int))) (fun k σ' μ' => Le (sg [("cells", .lst (natL cs)), ("word", .str (wordF (cs[0]?.getD 0) 3)), ("pieces", .lst ((psF cs).map .str)), ("joins", .lst ((jsF cs).map jD)), ("text", .str (tA cs k))]) σ' ∧ μ' = [(Δ.T, .raw (tabObj #[]))])
      (Itr.upto Λ.S O (n := 4) Ev.cint (by decide)) (fun i μ' => Tgt.name O (.inl rfl)) ⟨Le.refl _, rfl⟩ ?_ ?_) ?_ ?_
  · rintro k σ' _ hk ⟨hle', rfl⟩
    refine Exs.weaken (hle'.upd _ _) ?_
    have hp : ((psF cs).map D.str)[((k : Nat) : Int).toNat]? = some (.str (pieceF (cs[1 + k]?.getD 0))) := by
      unfold psF
      rw [Int.toNat_natCast, List.getElem?_map, List.getElem?_map, List.getElem?_range hk]; rfl
    have l1 := tA_len cs k
    have l2 := written_len (pieceF (cs[1 + k]?.getD 0)) (cs[1 + k]?.getD 0 / 43) (by have := pieceF_len (cs[1 + k]?.getD 0); omega)
    refine Exs.assign O (.inl rfl) (d := .str (tA cs (k + 1))) ?_ (Exs.nil ⟨_, Le.cons rfl (Le.cons rfl (Le.cons rfl (Le.cons rfl (Le.cons rfl Le.nil)))), Le.refl _, rfl⟩)
    rw [tA]
    refine Ev.binop (Ev.name O rfl rfl) (Ev.fn Λ.S O 18 (written_fn Λ.S (pieceF (cs[1 + k]?.getD 0)) (cs[1 + k]?.getD 0 / 43) (by have := pieceF_len (cs[1 + k]?.getD 0); omega)) (hl.le (by omega)) (Es.cons (Ev.sub (Ev.name O rfl rfl) (Ev.name O rfl rfl) (Op2.itemL hp (by omega) (by omega))) (Es.cons (Ev.divN 43 (by decide) (by decide) ?_ Ev.cint) Es.nil))) (Op2.addS (by unfold sizeLine; omega))
    have hk1 : k + 1 = 1 + k := by omega
    rw [← hk1]
    exact cAt (k := k + 1) (Ev.cellName O rfl rfl rfl) (Ev.binop (Ev.name O rfl rfl) Ev.cint Op2.addI) (by omega) (by intro _ _; with_unfolding_all rfl)
  · rintro σ' _ ⟨hle', rfl⟩
    exact ⟨rfl, hle', rfl⟩
  rotate_left
  · rintro f _ _ hn ⟨h, _⟩
    exact absurd h hn
  rintro σ' _ ⟨_, hle', rfl⟩
  refine Exs.weaken hle' ?_
  have l4 := tA_len cs 4
  have hj3 : (jsF cs).length = 3 := by simp [jsF]
  refine Exs.cons (K' := fun f σ' μ' => f = .next ∧ Le (sg [("cells", .lst (natL cs)), ("word", .str (wordF (cs[0]?.getD 0) 3)), ("pieces", .lst ((psF cs).map .str)), ("joins", .lst ((jsF cs).map jD)), ("text", .str (tB (tA cs 4) (jsF cs)))]) σ' ∧ μ' = [(Δ.T, .raw (tabObj #[]))])
    (Ex1.for_ O (f := fun i σ => upd (upd σ "place" (.int (((jsF cs)[i]?.getD (0, 0)).1 : Int))) "odd" (.int (((jsF cs)[i]?.getD (0, 0)).2 : Int))) (fun k σ' μ' => ∃ t, tB t ((jsF cs).drop k) = tB (tA cs 4) (jsF cs) ∧ t.length ≤ 40 + 9 * k ∧ Le (sg [("cells", .lst (natL cs)), ("word", .str (wordF (cs[0]?.getD 0) 3)), ("pieces", .lst ((psF cs).map .str)), ("joins", .lst ((jsF cs).map jD)), ("text", .str t)]) σ' ∧ μ' = [(Δ.T, .raw (tabObj #[]))])
      (Itr.listMap O jD (0, 0) (jsF cs) (Ev.name O rfl rfl)) (fun i μ' => Tgt.pair O (.inl rfl) (.inl rfl)) ⟨_, rfl, by omega, Le.refl _, rfl⟩ ?_ ?_) ?_ ?_
  · rintro k σ' _ hk ⟨t, htB, htl, hle2, rfl⟩
    obtain ⟨pl, od, hjt⟩ : ∃ pl od, (jsF cs)[k] = (pl, od) := ⟨_, _, rfl⟩
    have hpl : pl < 3 - k := jsF_bound cs k (pl, od) (by rw [List.getElem?_eq_getElem hk, hjt])
    rw [List.drop_eq_getElem_cons hk, hjt] at htB
    rw [List.getElem?_eq_getElem hk, hjt]
    have l5 := jW_len (pl, od)
    refine Exs.weaken (σ' := sg [("cells", .lst (natL cs)), ("word", .str (wordF (cs[0]?.getD 0) 3)), ("pieces", .lst ((psF cs).map .str)), ("joins", .lst ((jsF cs).map jD)), ("text", .str t), ("place", .int (pl : Int)), ("odd", .int (od : Int))]) ?_ ?_
    · exact Le.cons (by rw [upd_upd_ne (by decide) (by decide)]; exact hle2 _ _ rfl) (Le.cons (by rw [upd_upd_ne (by decide) (by decide)]; exact hle2 _ _ rfl) (Le.cons (by rw [upd_upd_ne (by decide) (by decide)]; exact hle2 _ _ rfl) (Le.cons (by rw [upd_upd_ne (by decide) (by decide)]; exact hle2 _ _ rfl) (Le.cons (by rw [upd_upd_ne (by decide) (by decide)]; exact hle2 _ _ rfl) (Le.cons rfl (Le.cons rfl Le.nil))))))
    refine Exs.assign O (.inl rfl) (d := .str (t ++ jW (pl, od))) ?_ (Exs.nil ⟨_, Le.cons rfl (Le.cons rfl (Le.cons rfl (Le.cons rfl (Le.cons rfl Le.nil)))), t ++ jW (pl, od), htB, by rw [List.length_append]; omega, Le.refl _, rfl⟩)
    have hd : (if od = 1 then concatL else addL).length ≤ 6 := by split <;> decide
    have e2 : t ++ jW (pl, od) = t ++ [48 + pl] ++ [32] ++ (if od = 1 then concatL else addL) ++ [10] := by unfold jW; simp
    rw [e2]
    refine Ev.binop (Ev.binop (Ev.binop (Ev.binop (Ev.name O rfl rfl) (Ev.ofChr (Ev.sub (Ev.ofChr (Ev.cstr (l := digits3) rfl)) (Ev.name O rfl rfl) (Op2.itemS (c := 48 + pl) (by decide) ?_))) (Op2.addS (x := t) (y := [48 + pl]) (by rw [List.length_cons, List.length_nil]; unfold sizeLine; omega))) (Ev.ofChr (Ev.cstr (l := [32]) rfl)) (Op2.addS (x := t ++ [48 + pl]) (y := [32]) (by simp only [List.length_append, List.length_cons, List.length_nil]; unfold sizeLine; omega))) ?_ (Op2.addS (by simp only [List.length_append, List.length_cons, List.length_nil]; unfold sizeLine; omega))) (Ev.ofChr (Ev.cstr (l := [10]) rfl)) (Op2.addS (by simp only [List.length_append, List.length_cons, List.length_nil]; unfold sizeLine; omega))
    · have : pl = 0 ∨ pl = 1 ∨ pl = 2 := by omega
      rcases this with rfl | rfl | rfl <;> rfl
    · refine Ev.ifexp (c := decide (od = 1)) (Ts.cmp (Ev.name O rfl rfl) Ev.cint (by
        have e : (((od : Nat) : Int) == 1) = decide (od = 1) := by
          by_cases h : od = 1
          · subst h; rfl
          · simp [h]; omega
        rw [← e]; exact Op2.eqI)) (fun h => ?_) fun h => ?_
      · rw [if_pos (of_decide_eq_true h)]; exact Ev.ofChr (Ev.cstr (l := concatL) rfl)
      · rw [if_neg (of_decide_eq_false h)]; exact Ev.ofChr (Ev.cstr (l := addL) rfl)
  · rintro σ' _ ⟨t, htB, htl, hle2, rfl⟩
    rw [List.drop_length, tB] at htB
    subst htB
    exact ⟨rfl, hle2, rfl⟩
  rotate_left
  · rintro f _ _ hn ⟨h, _⟩
    exact absurd h hn
  rintro σ' _ ⟨_, hle2, rfl⟩
  refine Exs.weaken hle2 ?_
  have lB : (tB (tA cs 4) (jsF cs)).length ≤ 100 := by
    have q : ∀ js : List (Nat × Nat), (js.flatMap jW).length ≤ 9 * js.length := by
      intro js
      induction js with
      | nil => simp
      | cons j js ih => have := jW_len j; rw [List.flatMap_cons, List.length_append, List.length_cons]; omega
    have := q (jsF cs)
    rw [tB_app, List.length_append]; omega
  refine Exs.assign O (.inl rfl) (d := .str (textF cs)) (Ev.binop (Ev.name O rfl rfl) (Ev.ofChr (Ev.cstr (l := [10, 32]) rfl)) (Op2.addS (x := tB (tA cs 4) (jsF cs)) (y := [10, 32]) (by rw [List.length_cons, List.length_cons, List.length_nil]; unfold sizeLine; omega))) ?_
  refine Exs.weaken ?_ (law_mid Λ Δ hnb O (hl.le (by omega)) cs hcs (wordF (cs[0]?.getD 0) 3) (wordF_len _ _) (fun c hc => wordF_mem hc) (psF cs) (by simp [psF]) (fun p hp => by
      unfold psF at hp
      obtain ⟨k, _, rfl⟩ := List.mem_map.mp hp
      exact ⟨pieceF_len _, fun c hc => pieceF_mem hc⟩) (jsF cs) hj3 (jsF_bound cs) (textF cs) (by unfold textF; rw [List.length_append]; simp; omega) htc hch fin hfin hfinT hf0 hf1 hfx b e hb he hm hle)
  exact Le.cons rfl (Le.cons rfl (Le.cons rfl (Le.cons rfl (Le.cons rfl Le.nil))))
end
end Mine

namespace Mine
theorem bTok_ws (w : Nat) (r : List Nat) (h : w ∈ wsL) : bTok (w :: r) = some ([], r) := by
  rw [bTok.eq_def]; simp only; rw [if_pos h]
theorem bTok_esc : ∀ (l : List Nat) (w : Nat) (r : List Nat), w ∈ wsL → bTok ((l.flatMap fun c => [92, c]) ++ w :: r) = some (l, r)
  | [], w, r, h => by
    show bTok (w :: r) = _
    rw [bTok.eq_def]; simp only; rw [if_pos h]
  | c :: l, w, r, h => by
    have e : ((c :: l).flatMap fun c => [92, c]) ++ w :: r = 92 :: c :: ((l.flatMap fun c => [92, c]) ++ w :: r) := by simp
    rw [e, bTok.eq_def]
    simp only
    rw [if_neg (by decide), if_pos trivial, bTok_esc l w r h]; rfl
theorem qTok_esc : ∀ (l : List Nat) (r : List Nat), qTok (l.flatMap esc ++ 34 :: r) = some (l, r)
  | [], r => by
    show qTok (34 :: r) = _
    rw [qTok.eq_def]; simp
  | c :: l, r => by
    rw [List.flatMap_cons, List.append_assoc]
    by_cases h : c = 34 ∨ c = 92
    · have e : esc c = [92, c] := by unfold esc; rw [if_pos h]
      rw [e]
      show qTok (92 :: c :: (l.flatMap esc ++ 34 :: r)) = _
      rw [qTok.eq_def]
      simp only
      rw [if_neg (by decide), if_pos trivial, qTok_esc l r]; rfl
    · have e : esc c = [c] := by unfold esc; rw [if_neg h]
      rw [e]
      show qTok (c :: (l.flatMap esc ++ 34 :: r)) = _
      rw [qTok.eq_def]
      simp only
      rw [if_neg (fun z => h (.inl z)), if_neg (fun z => h (.inr z)), qTok_esc l r]; rfl
theorem tok_written (l : List Nat) (way : Nat) (r : List Nat) : tokF (writtenF l way ++ r) = some (l, r) := by
  unfold writtenF
  split
  · have e : quoted l ++ r = 34 :: (l.flatMap esc ++ 34 :: r) := by unfold quoted; simp
    rw [e, tokF.eq_def]
    simp only
    rw [if_neg (by decide), if_pos trivial, qTok_esc]
  · rename_i h
    cases l with
    | nil => exact absurd (.inr rfl) h
    | cons c l =>
      have e : bare (c :: l) way ++ r = 92 :: c :: ((l.flatMap fun c => [92, c]) ++ (if way % 3 = 1 then 9 else 10) :: r) := by unfold bare; simp
      rw [e, tokF.eq_def]
      simp only
      rw [if_neg (by decide), if_neg (by decide), if_pos trivial, bTok_esc l _ r (by split <;> decide)]; rfl
theorem tok_digit (p : Nat) (hp : p < 3) (r : List Nat) : tokF ([48 + p] ++ [32] ++ r) = some ([48 + p], r) := by
  have : p = 0 ∨ p = 1 ∨ p = 2 := by omega
  rcases this with rfl | rfl | rfl <;> simp [tokF, wsL] <;> exact bTok_ws 32 r (by decide)
theorem tok_name (o : Nat) (r : List Nat) : tokF ((if o = 1 then concatL else addL) ++ [10] ++ r) = some (if o = 1 then concatL else addL, r) := by
  split <;> simp [tokF, bTok, wsL, concatL, addL] <;> exact bTok_ws 10 r (by decide)
theorem Chain.trans {r r' r'' : List Nat} {ts us : List (List Nat)} (h : Chain r ts r') (h' : Chain r' us r'') : Chain r (ts ++ us) r'' := by
  induction h with
  | nil => exact h'
  | cons e _ ih => exact .cons e (ih h')
theorem chain_A (cs : List Nat) : ∀ (k : Nat) (r : List Nat), Chain (tA cs k ++ r) (wordF (cs[0]?.getD 0) 3 :: ((List.range k).map fun i => pieceF (cs[1 + i]?.getD 0))) r
  | 0, r => by
    rw [tA]
    exact .cons (tok_written _ _ r) .nil
  | k + 1, r => by
    have h1 := chain_A cs k (writtenF (pieceF (cs[1 + k]?.getD 0)) (cs[1 + k]?.getD 0 / 43) ++ r)
    have h2 : Chain (writtenF (pieceF (cs[1 + k]?.getD 0)) (cs[1 + k]?.getD 0 / 43) ++ r) [pieceF (cs[1 + k]?.getD 0)] r := .cons (tok_written _ _ r) .nil
    have h3 := h1.trans h2
    rw [tA, List.append_assoc, List.range_succ, List.map_append]
    simpa using h3
theorem chain_B : ∀ (js : List (Nat × Nat)) (r : List Nat), (∀ p ∈ js, p.1 < 3) → Chain (js.flatMap jW ++ r) (jTok js) r
  | [], r, _ => .nil
  | (p, o) :: js, r, h => by
    have h1 := chain_B js r fun q hq => h q (List.mem_cons_of_mem _ hq)
    rw [List.flatMap_cons, List.append_assoc]
    have e : jTok ((p, o) :: js) = [48 + p] :: (if o = 1 then concatL else addL) :: jTok js := rfl
    rw [e]
    have e2 : jW (p, o) ++ (js.flatMap jW ++ r) = [48 + p] ++ [32] ++ ((if o = 1 then concatL else addL) ++ [10] ++ (js.flatMap jW ++ r)) := by unfold jW; simp
    rw [e2]
    exact .cons (tok_digit p (h (p, o) List.mem_cons_self) _) (.cons (tok_name o _) h1)
theorem jsF_lt (cs : List Nat) : ∀ p ∈ jsF cs, p.1 < 3 := by
  intro p hp
  obtain ⟨i, hi⟩ := List.mem_iff_getElem?.mp hp
  have := jsF_bound cs i p hi
  omega
theorem chain_text (cs : List Nat) : Chain (textF cs) (wordF (cs[0]?.getD 0) 3 :: (psF cs ++ jTok (jsF cs))) [10, 32] := by
  have h1 := chain_A cs 4 ((jsF cs).flatMap jW ++ [10, 32])
  have h2 := chain_B (jsF cs) [10, 32] (jsF_lt cs)
  have h3 := h1.trans h2
  unfold textF
  rw [tB_app, List.append_assoc]
  exact h3
theorem sgn6_lt : ∀ c ∈ sgn6, c < 128 := by decide
theorem written_lt {l : List Nat} (h : ∀ c ∈ l, c ∈ sgn6) (way : Nat) : ∀ c ∈ writtenF l way, c < 128 := by
  intro c hc
  unfold writtenF at hc
  split at hc
  · unfold quoted at hc
    simp only [List.mem_append, List.mem_flatMap, List.mem_singleton] at hc
    rcases hc with (rfl | ⟨a, ha, hc⟩) | rfl
    · decide
    · have := sgn6_lt a (h a ha)
      unfold esc at hc
      split at hc <;> simp at hc <;> omega
    · decide
  · unfold bare at hc
    simp only [List.mem_append, List.mem_flatMap, List.mem_singleton] at hc
    rcases hc with ⟨a, ha, hc⟩ | rfl
    · have := sgn6_lt a (h a ha)
      simp at hc; omega
    · split <;> decide
theorem tA_lt (cs : List Nat) : ∀ k, ∀ c ∈ tA cs k, c < 128
  | 0, c, hc => written_lt (fun c hc => wordF_mem hc) _ c hc
  | k + 1, c, hc => by
    rw [tA] at hc
    rcases List.mem_append.mp hc with h | h
    · exact tA_lt cs k c h
    · exact written_lt (fun c hc => pieceF_mem hc) _ c h
theorem text_lt (cs : List Nat) : ∀ c ∈ textF cs, c < 128 := by
  intro c hc
  unfold textF at hc
  rw [tB_app] at hc
  rcases List.mem_append.mp hc with h | h
  · rcases List.mem_append.mp h with h | h
    · exact tA_lt cs 4 c h
    · obtain ⟨⟨p, o⟩, hp, h⟩ := List.mem_flatMap.mp h
      have := jsF_lt cs _ hp
      unfold jW concatL addL at h
      simp only at this
      split at h <;> simp at h <;> omega
  · simp at h; omega

theorem Al.split {a z : List Nat} {n : Nat} (h : Al a z n) : ∀ x y : List Nat, z = x ++ y → ∃ m, m ≤ a.length ∧ ∃ n1 n2, Al (a.take m) x n1 ∧ Al (a.drop m) y n2 ∧ n = n1 + n2 := by
  induction h with
  | nil =>
    intro x y e
    obtain ⟨rfl, rfl⟩ := List.append_eq_nil_iff.mp e.symm
    exact ⟨0, Nat.le_refl _, 0, 0, .nil, .nil, rfl⟩
  | l c _ ih =>
    intro x y e
    obtain ⟨m, hm, n1, n2, h1, h2, e⟩ := ih x y e
    exact ⟨m + 1, by simp; omega, n1, n2, .l c h1, h2, e⟩
  | r d h ih =>
    intro x y e
    cases x with
    | nil =>
      have e' : y = d :: _ := e.symm
      subst e'
      exact ⟨0, Nat.zero_le _, 0, _, .nil, .r d h, (Nat.zero_add _).symm⟩
    | cons d' x =>
      cases e
      obtain ⟨m, hm, n1, n2, h1, h2, e⟩ := ih x y rfl
      exact ⟨m, hm, n1, n2, .r d h1, h2, e⟩
  | p c d h ih =>
    intro x y e
    cases x with
    | nil =>
      have e' : y = d :: _ := e.symm
      subst e'
      exact ⟨0, Nat.zero_le _, 0, _, .nil, .p c d h, (Nat.zero_add _).symm⟩
    | cons d' x =>
      cases e
      obtain ⟨m, hm, n1, n2, h1, h2, e⟩ := ih x y rfl
      exact ⟨m + 1, by simp; omega, _, n2, .p c d h1, h2, by omega⟩
theorem ed_join_le (a x y : List Nat) (m : Nat) (hm : m ≤ a.length) : ed a (x ++ y) ≤ ed (a.take m) x + ed (a.drop m) y := by
  have h := ((Al.best (a.take m) x).append (Al.best (a.drop m) y)).le
  rw [List.take_append_drop] at h
  unfold ed
  rw [List.length_append, List.length_take, List.length_drop]
  omega
theorem ed_join_ge (a x y : List Nat) : ∃ m, m ≤ a.length ∧ ed (a.take m) x + ed (a.drop m) y ≤ ed a (x ++ y) := by
  obtain ⟨m, hm, n1, n2, h1, h2, e⟩ := (Al.best a (x ++ y)).split x y rfl
  have h1 := h1.le
  have h2 := h2.le
  refine ⟨m, hm, ?_⟩
  unfold ed
  rw [List.length_append, List.length_take, List.length_drop]
  omega
theorem cut_len (l : List Nat) {i k : Nat} (h : i + k ≤ l.length) : (cut l i (i + k)).length = k := by
  unfold cut; rw [List.length_drop, List.length_take]; omega
theorem cut_take (l : List Nat) {i k m : Nat} (h : m ≤ k) : (cut l i (i + k)).take m = cut l i (i + m) := by
  unfold cut
  rw [List.take_drop, List.take_take]
  congr 2
  omega
theorem cut_drop (l : List Nat) {i k m : Nat} (h : m ≤ k) : (cut l i (i + k)).drop m = cut l (i + m) (i + m + (k - m)) := by
  unfold cut
  rw [List.drop_drop]
  congr 2
  omega

structure Near (word : List Nat) (p : Pair) : Prop where
  ne : 0 < p.1.length
  some : ∀ i k, i + k ≤ word.length → ∃ x ∈ p.1, p.2 i k = ed (cut word i (i + k)) x
  all : ∀ i k, i + k ≤ word.length → ∀ x ∈ p.1, p.2 i k ≤ ed (cut word i (i + k)) x
theorem near_leaf (word p : List Nat) : Near word (leafP word p) :=
  ⟨Nat.zero_lt_one, fun i k h => ⟨p, List.mem_singleton.mpr rfl, rfl⟩, fun i k h x hx => by
    have := List.mem_singleton.mp hx
    subst this
    exact Int.le_refl _⟩
theorem bothR_le (T U : Nat → Nat → Int) (i k : Nat) : ∀ n m, m ≤ n → bothR T U i k n ≤ T i m + U (i + m) (k - m)
  | 0, m, h => by
    have : m = 0 := by omega
    subst this
    exact Int.le_refl _
  | n + 1, m, h => by
    rw [bothR]
    by_cases hm : m = n + 1
    · subst hm
      split <;> omega
    · have := bothR_le T U i k n m (by omega)
      split <;> omega
theorem bothR_some (T U : Nat → Nat → Int) (i k : Nat) : ∀ n, ∃ m, m ≤ n ∧ bothR T U i k n = T i m + U (i + m) (k - m)
  | 0 => ⟨0, Nat.le_refl _, rfl⟩
  | n + 1 => by
    rw [bothR]
    split
    · exact ⟨n + 1, Nat.le_refl _, rfl⟩
    · obtain ⟨m, hm, e⟩ := bothR_some T U i k n
      exact ⟨m, by omega, e⟩
theorem near_join {word : List Nat} {a b : Pair} (o : Nat) (ha : Near word a) (hb : Near word b) : Near word (joinP o a b) := by
  unfold joinP
  split
  · refine ⟨?_, fun i k h => ?_, fun i k h x hx => ?_⟩
    · have := ha.ne
      show 0 < (a.1 ++ b.1).length
      rw [List.length_append]; omega
    · show ∃ x ∈ a.1 ++ b.1, eitherT a.2 b.2 i k = _
      unfold eitherT
      split
      · obtain ⟨x, hx, e⟩ := ha.some i k h
        exact ⟨x, List.mem_append_left _ hx, e⟩
      · obtain ⟨x, hx, e⟩ := hb.some i k h
        exact ⟨x, List.mem_append_right _ hx, e⟩
    · show eitherT a.2 b.2 i k ≤ _
      have hx : x ∈ a.1 ++ b.1 := hx
      unfold eitherT
      rcases List.mem_append.mp hx with q | q
      · have := ha.all i k h x q
        split <;> omega
      · have := hb.all i k h x q
        split <;> omega
  · have low : ∀ i k, i + k ≤ word.length → ∀ x ∈ prodT a.1 b.1, bothT a.2 b.2 i k ≤ ed (cut word i (i + k)) x := by
      intro i k h x hx
      obtain ⟨y, hy, z, hz, rfl⟩ := prodT_mem hx
      obtain ⟨m, hm, e⟩ := ed_join_ge (cut word i (i + k)) y z
      rw [cut_len word h] at hm
      rw [cut_take word hm, cut_drop word hm] at e
      have h1 := bothR_le a.2 b.2 i k k m hm
      have h2 := ha.all i m (by omega) y hy
      have h3 := hb.all (i + m) (k - m) (by omega) z hz
      unfold bothT
      omega
    refine ⟨?_, fun i k h => ?_, low⟩
    · have h1 := ha.ne
      have h2 := hb.ne
      show 0 < (prodT a.1 b.1).length
      rw [prodT_len]
      exact Nat.mul_pos h1 h2
    · obtain ⟨m, hm, e⟩ := bothR_some a.2 b.2 i k k
      obtain ⟨y, hy, ey⟩ := ha.some i m (by omega)
      obtain ⟨z, hz, ez⟩ := hb.some (i + m) (k - m) (by omega)
      have hmem : y ++ z ∈ prodT a.1 b.1 := List.mem_flatMap.mpr ⟨y, hy, List.mem_map.mpr ⟨z, hz, rfl⟩⟩
      refine ⟨y ++ z, hmem, ?_⟩
      have h1 := low i k h _ hmem
      have h2 := ed_join_le (cut word i (i + k)) y z m (by rw [cut_len word h]; exact hm)
      rw [cut_take word hm, cut_drop word hm] at h2
      show bothT a.2 b.2 i k = _
      unfold bothT at h1 ⊢
      omega

structure RowOk (word : List Nat) (t : Nat) (p : Pair) : Prop where
  near : Near word p
  bnd : Bnd t p
  sg : ∀ x ∈ p.1, ∀ c ∈ x, c ∈ sgn6
theorem RowOk.up {word : List Nat} {t : Nat} {p : Pair} (h : RowOk word t p) : RowOk word (t + 1) p := ⟨h.near, h.bnd.up, h.sg⟩
theorem RowOk.join {word : List Nat} {t o : Nat} {a b : Pair} (ha : RowOk word t a) (hb : RowOk word t b) : RowOk word (t + 1) (joinP o a b) := by
  refine ⟨near_join o ha.near hb.near, ha.bnd.join hb.bnd, fun x hx c hc => ?_⟩
  rw [joinP_fst] at hx
  unfold joinT at hx
  split at hx
  · rcases List.mem_append.mp hx with q | q
    · exact ha.sg x q c hc
    · exact hb.sg x q c hc
  · obtain ⟨y, hy, z, hz, rfl⟩ := prodT_mem hx
    rcases List.mem_append.mp hc with q | q
    · exact ha.sg y hy c q
    · exact hb.sg z hz c q
theorem row_runs (word : List Nat) : ∀ (js : List (Nat × Nat)) (t : Nat) (Q : List Pair), Q.length = js.length + 1 → (∀ s p, js[s]? = some p → p.1 < js.length - s) → (∀ p ∈ Q, RowOk word t p) →
    ∃ fin, runRow js Q = [fin] ∧ runT js (Q.map (·.1)) = [fin.1] ∧ RowOk word (t + js.length) fin
  | [], t, Q, hQ, _, h => by
    match Q, hQ with
    | [p], _ => exact ⟨p, rfl, rfl, h p List.mem_cons_self⟩
  | (pl, o) :: js, t, Q, hQ, hj, h => by
    have hpl : pl < js.length + 1 := hj 0 (pl, o) rfl
    rw [List.length_cons] at hQ
    obtain ⟨A0, a, b, B0, rfl, hA0⟩ : ∃ A0 a b B0, Q = A0 ++ a :: b :: B0 ∧ A0.length = pl := by
      refine ⟨Q.take pl, Q[pl]'(by omega), Q[pl + 1]'(by omega), Q.drop (pl + 2), ?_, by rw [List.length_take]; omega⟩
      rw [← List.drop_eq_getElem_cons, ← List.drop_eq_getElem_cons, List.take_append_drop]
    rw [runRow, runT, stepRow_eq _ hA0]
    have e : (A0 ++ a :: b :: B0).map (fun p : Pair => p.1) = A0.map (·.1) ++ a.1 :: b.1 :: B0.map (·.1) := by rw [List.map_append]; rfl
    rw [e, stepRow_eq _ (by rw [List.length_map]; exact hA0)]
    have e2 : A0.map (fun p : Pair => p.1) ++ joinT o a.1 b.1 :: B0.map (·.1) = (A0 ++ joinP o a b :: B0).map (·.1) := by rw [List.map_append, List.map_cons, joinP_fst]
    rw [e2]
    obtain ⟨fin, h1, h2, h3⟩ := row_runs word js (t + 1) (A0 ++ joinP o a b :: B0) (by simp at hQ ⊢; omega) (fun s p hs => by
      have := hj (s + 1) p hs
      rw [List.length_cons] at this
      omega) (fun p hp => by
      simp at hp
      rcases hp with hp | hp | hp
      · exact (h p (by simp [hp])).up
      · subst hp; exact (h a (by simp)).join (h b (by simp))
      · exact (h p (by simp [hp])).up)
    refine ⟨fin, h1, h2, ?_⟩
    rw [List.length_cons]
    have : t + (js.length + 1) = t + 1 + js.length := by omega
    rw [this]
    exact h3

section
variable {prog : Program} {w : World} {W : Glob prog w}
theorem law_holds (Λ : Lex W) (Δ : LexDef Λ) (hnb : ∀ {h : Heap}, W.G h → NoneBooked h) (ns : List Int) (h63 : ns.length ≤ 63) :
    FnM01 W (Λ.S.f 26) 10 [.lst (intL ns)] [(Δ.T, .raw (tabObj #[]))] (fun d μ' => d = .bool true ∧ ∃ ps, (Δ.T, MC.raw (tabObj ps)) ∈ μ') := by
  have hj3 : (jsF (cellsF ns)).length = 3 := by simp [jsF]
  have hp4 : (psF (cellsF ns)).length = 4 := by simp [psF]
  have hw : (wordF ((cellsF ns)[0]?.getD 0) 3).length = 3 := wordF_len _ _
  obtain ⟨fin, h1, h2, h3⟩ := row_runs (wordF ((cellsF ns)[0]?.getD 0) 3) (jsF (cellsF ns)) 0 ((psF (cellsF ns)).map (leafP (wordF ((cellsF ns)[0]?.getD 0) 3))) (by rw [List.length_map, hp4, hj3]) (fun s p hs => by
    have := jsF_bound (cellsF ns) s p hs
    rw [hj3]; exact this) (fun p hp => by
    obtain ⟨x, hx, rfl⟩ := List.mem_map.mp hp
    unfold psF at hx
    obtain ⟨k, _, rfl⟩ := List.mem_map.mp hx
    refine ⟨near_leaf _ _, ⟨by simp [leafP, nbF], fun y hy => ?_⟩, fun y hy c hc => ?_⟩
    · have := List.mem_singleton.mp hy
      subst this
      exact pieceF_len _
    · have := List.mem_singleton.mp hy
      subst this
      exact pieceF_mem hc)
  rw [List.map_map] at h2
  rw [hj3] at h3
  have hb2 := bF_le ((cellsF ns)[8]?.getD 0)
  obtain ⟨he2, he3⟩ := eF_ge ((cellsF ns)[8]?.getD 0)
  have hbe : bF ((cellsF ns)[8]?.getD 0) + (eF ((cellsF ns)[8]?.getD 0) - bF ((cellsF ns)[8]?.getD 0)) = eF ((cellsF ns)[8]?.getD 0) := by omega
  have hsome := h3.near.some (bF ((cellsF ns)[8]?.getD 0)) (eF ((cellsF ns)[8]?.getD 0) - bF ((cellsF ns)[8]?.getD 0)) (by omega)
  have hall := h3.near.all (bF ((cellsF ns)[8]?.getD 0)) (eF ((cellsF ns)[8]?.getD 0) - bF ((cellsF ns)[8]?.getD 0)) (by omega)
  rw [hbe] at hsome hall
  refine law_fn Λ Δ hnb ns h63 (cellsF ns) rfl (text_lt _) (chain_text _) fin h1 h2 h3.near.ne h3.bnd.1 (fun x hx => ⟨h3.bnd.2 x hx, h3.sg x hx⟩) _ _ rfl rfl ?_ hall
  obtain ⟨x, hx, e⟩ := hsome
  exact List.mem_map.mpr ⟨x, hx, e.symm⟩
end
end Mine

namespace Mine
noncomputable abbrev pG : Program := PySem.Challenge.rw_sw0024_01.row.prog
noncomputable def oFn (i : Nat) (m : Str) (t : Tok) (c : Addr) : Obj := { cls := .type "function", data := .func (Calls.docDef (fNm (stm i)) (fPar (stm i)) (fBody (stm i)) (fSco (stm i)) (.str m t) (.ref c) .none) }
noncomputable def oMth (j : Nat) (q : Str) (c : Addr) : Obj := { cls := .type "function", data := .func (mFn j q (.str "cpy313.netrc" 232) (.ref c) .none .none none) }
noncomputable def heapK : Params → Frag := fun P => [(2, { cls := .none, data := .dict #[] }),
  (3, { cls := Value.type "dict", data := Data.dict #[{ hash := PyData.keyHash P (Str.ofString "__name__"), key := Value.str (Str.ofString "__name__") 165, val := Value.str (Str.ofString "law_sw0024_01") 328 }, { hash := PyData.keyHash P (Str.ofString "__doc__"), key := Value.str (Str.ofString "__doc__") 166, val := Value.none }, { hash := PyData.keyHash P (Str.ofString "__package__"), key := Value.str (Str.ofString "__package__") 167, val := Value.none }, { hash := PyData.keyHash P (Str.ofString "__loader__"), key := Value.str (Str.ofString "__loader__") 168, val := Value.builtin "__main__.__loader__#opaque" }, { hash := PyData.keyHash P (Str.ofString "__spec__"), key := Value.str (Str.ofString "__spec__") 169, val := Value.none }, { hash := PyData.keyHash P (Str.ofString "__annotations__"), key := Value.str (Str.ofString "__annotations__") 170, val := Value.ref 6 }, { hash := PyData.keyHash P (Str.ofString "__builtins__"), key := Value.str (Str.ofString "__builtins__") 171, val := Value.ref 4 }, { hash := PyData.keyHash P (Str.ofString "__file__"), key := Value.str (Str.ofString "__file__") 173, val := Value.str (Str.ofString "/claim/cut.py") 172 }, { hash := PyData.keyHash P (Str.ofString "__cached__"), key := Value.str (Str.ofString "__cached__") 174, val := Value.none }, { hash := PyData.keyHash P (Str.ofString "lt"), key := Value.str (Str.ofString "lt") 196, val := Value.ref 21 }, { hash := PyData.keyHash P (Str.ofString "eq"), key := Value.str (Str.ofString "eq") 204, val := Value.ref 28 }, { hash := PyData.keyHash P (Str.ofString "add"), key := Value.str (Str.ofString "add") 212, val := Value.ref 35 }, { hash := PyData.keyHash P (Str.ofString "concat"), key := Value.str (Str.ofString "concat") 221, val := Value.ref 42 }, { hash := PyData.keyHash P (Str.ofString "indexOf"), key := Value.str (Str.ofString "indexOf") 231, val := Value.ref 49 }, { hash := PyData.keyHash P (Str.ofString "_netrclex"), key := Value.str (Str.ofString "_netrclex") 291, val := Value.ref 87 }, { hash := PyData.keyHash P (Str.ofString "_MAX_STRING_SIZE"), key := Value.str (Str.ofString "_MAX_STRING_SIZE") 295, val := Value.int 40 294 }, { hash := PyData.keyHash P (Str.ofString "_MOVE_COST"), key := Value.str (Str.ofString "_MOVE_COST") 297, val := Value.int 2 296 }, { hash := PyData.keyHash P (Str.ofString "_CASE_COST"), key := Value.str (Str.ofString "_CASE_COST") 299, val := Value.int 1 298 }, { hash := PyData.keyHash P (Str.ofString "_substitution_cost"), key := Value.str (Str.ofString "_substitution_cost") 307, val := Value.ref 98 }, { hash := PyData.keyHash P (Str.ofString "_levenshtein_distance"), key := Value.str (Str.ofString "_levenshtein_distance") 327, val := Value.ref 105 }, { hash := PyData.keyHash P (Str.ofString "_law_cells"), key := Value.str (Str.ofString "_law_cells") 338, val := Value.ref 112 }, { hash := PyData.keyHash P (Str.ofString "_law_word"), key := Value.str (Str.ofString "_law_word") 344, val := Value.ref 117 }, { hash := PyData.keyHash P (Str.ofString "_law_piece"), key := Value.str (Str.ofString "_law_piece") 351, val := Value.ref 124 }, { hash := PyData.keyHash P (Str.ofString "_law_written"), key := Value.str (Str.ofString "_law_written") 357, val := Value.ref 129 }, { hash := PyData.keyHash P (Str.ofString "_law_lexer"), key := Value.str (Str.ofString "_law_lexer") 366, val := Value.ref 136 }, { hash := PyData.keyHash P (Str.ofString "_law_leaf"), key := Value.str (Str.ofString "_law_leaf") 372, val := Value.ref 141 }, { hash := PyData.keyHash P (Str.ofString "_law_either"), key := Value.str (Str.ofString "_law_either") 384, val := Value.ref 148 }, { hash := PyData.keyHash P (Str.ofString "_law_both"), key := Value.str (Str.ofString "_law_both") 399, val := Value.ref 155 }, { hash := PyData.keyHash P (Str.ofString "_law_worked_off"), key := Value.str (Str.ofString "_law_worked_off") 405, val := Value.ref 160 }, { hash := PyData.keyHash P (Str.ofString "_law_texts"), key := Value.str (Str.ofString "_law_texts") 411, val := Value.ref 165 }, { hash := PyData.keyHash P (Str.ofString "_law_saved"), key := Value.str (Str.ofString "_law_saved") 422, val := Value.ref 172 }, { hash := PyData.keyHash P (Str.ofString "law"), key := Value.str (Str.ofString "law") 428, val := Value.ref 177 }] 32 }),
  (20, { cls := Value.type "code", data := Data.fields #[Value.str (Str.ofString "lt") 189, Value.str (Str.ofString "lt") 190, Value.str (Str.ofString "/claim/cut.py") 191, Value.int 2 0, Value.int 2 0, Value.int 0 0, Value.int 0 0, Value.int 3 0, Value.ref 15, Value.bool true, Value.int 181 0, Value.ref 16, Value.none, Value.ref 17, Value.ref 18, Value.ref 19, Value.int 194 0, Value.int 2 0, Value.str (Str.ofString "/claim/cut.py") 195] }),
  (21, oFn 1 "cpy313.operator" 187 20),
  (27, { cls := Value.type "code", data := Data.fields #[Value.str (Str.ofString "eq") 197, Value.str (Str.ofString "eq") 198, Value.str (Str.ofString "/claim/cut.py") 199, Value.int 4 0, Value.int 2 0, Value.int 0 0, Value.int 0 0, Value.int 3 0, Value.ref 22, Value.bool true, Value.int 181 0, Value.ref 23, Value.none, Value.ref 24, Value.ref 25, Value.ref 26, Value.int 202 0, Value.int 4 0, Value.str (Str.ofString "/claim/cut.py") 203] }),
  (28, oFn 2 "cpy313.operator" 187 27),
  (34, { cls := Value.type "code", data := Data.fields #[Value.str (Str.ofString "add") 205, Value.str (Str.ofString "add") 206, Value.str (Str.ofString "/claim/cut.py") 207, Value.int 6 0, Value.int 2 0, Value.int 0 0, Value.int 0 0, Value.int 3 0, Value.ref 29, Value.bool true, Value.int 181 0, Value.ref 30, Value.none, Value.ref 31, Value.ref 32, Value.ref 33, Value.int 210 0, Value.int 6 0, Value.str (Str.ofString "/claim/cut.py") 211] }),
  (35, oFn 3 "cpy313.operator" 187 34),
  (41, { cls := Value.type "code", data := Data.fields #[Value.str (Str.ofString "concat") 213, Value.str (Str.ofString "concat") 214, Value.str (Str.ofString "/claim/cut.py") 215, Value.int 8 0, Value.int 2 0, Value.int 0 0, Value.int 0 0, Value.int 3 0, Value.ref 36, Value.bool true, Value.int 181 0, Value.ref 37, Value.none, Value.ref 38, Value.ref 39, Value.ref 40, Value.int 219 0, Value.int 8 0, Value.str (Str.ofString "/claim/cut.py") 220] }),
  (42, oFn 4 "cpy313.operator" 187 41),
  (48, { cls := Value.type "code", data := Data.fields #[Value.str (Str.ofString "indexOf") 222, Value.str (Str.ofString "indexOf") 223, Value.str (Str.ofString "/claim/cut.py") 224, Value.int 13 0, Value.int 2 0, Value.int 0 0, Value.int 0 0, Value.int 3 0, Value.ref 43, Value.bool true, Value.int 181 0, Value.ref 44, Value.none, Value.ref 45, Value.ref 46, Value.ref 47, Value.int 229 0, Value.int 13 0, Value.str (Str.ofString "/claim/cut.py") 230] }),
  (49, oFn 5 "cpy313.operator" 187 48),
  (62, { cls := Value.type "code", data := Data.fields #[Value.str (Str.ofString "__init__") 246, Value.str (Str.ofString "_netrclex.__init__") 247, Value.str (Str.ofString "/claim/cut.py") 248, Value.int 22 0, Value.int 2 0, Value.int 0 0, Value.int 0 0, Value.int 3 0, Value.ref 57, Value.bool true, Value.int 181 0, Value.ref 58, Value.none, Value.ref 59, Value.ref 60, Value.ref 61, Value.int 251 0, Value.int 22 0, Value.str (Str.ofString "/claim/cut.py") 252] }),
  (63, oMth 0 "_netrclex.__init__" 62),
  (69, { cls := Value.type "code", data := Data.fields #[Value.str (Str.ofString "_read_char") 254, Value.str (Str.ofString "_netrclex._read_char") 255, Value.str (Str.ofString "/claim/cut.py") 256, Value.int 28 0, Value.int 1 0, Value.int 0 0, Value.int 0 0, Value.int 3 0, Value.ref 64, Value.bool true, Value.int 181 0, Value.ref 65, Value.none, Value.ref 66, Value.ref 67, Value.ref 68, Value.int 259 0, Value.int 28 0, Value.str (Str.ofString "/claim/cut.py") 260] }),
  (70, oMth 1 "_netrclex._read_char" 69),
  (76, { cls := Value.type "code", data := Data.fields #[Value.str (Str.ofString "get_token") 262, Value.str (Str.ofString "_netrclex.get_token") 263, Value.str (Str.ofString "/claim/cut.py") 264, Value.int 34 0, Value.int 1 0, Value.int 0 0, Value.int 0 0, Value.int 3 0, Value.ref 71, Value.bool true, Value.int 181 0, Value.ref 72, Value.none, Value.ref 73, Value.ref 74, Value.ref 75, Value.int 269 0, Value.int 34 0, Value.str (Str.ofString "/claim/cut.py") 270] }),
  (77, oMth 2 "_netrclex.get_token" 76),
  (83, { cls := Value.type "code", data := Data.fields #[Value.str (Str.ofString "push_token") 272, Value.str (Str.ofString "_netrclex.push_token") 273, Value.str (Str.ofString "/claim/cut.py") 274, Value.int 61 0, Value.int 2 0, Value.int 0 0, Value.int 0 0, Value.int 3 0, Value.ref 78, Value.bool true, Value.int 181 0, Value.ref 79, Value.none, Value.ref 80, Value.ref 81, Value.ref 82, Value.int 277 0, Value.int 61 0, Value.str (Str.ofString "/claim/cut.py") 278] }),
  (84, oMth 3 "_netrclex.push_token" 83),
  (86, { cls := Value.type "dict", data := Data.dict #[{ hash := PyData.keyHash P (Str.ofString "__module__"), key := Value.str (Str.ofString "__module__") 241, val := Value.str (Str.ofString "cpy313.netrc") 232 }, { hash := PyData.keyHash P (Str.ofString "__firstlineno__"), key := Value.str (Str.ofString "__firstlineno__") 245, val := Value.int 20 244 }, { hash := PyData.keyHash P (Str.ofString "__init__"), key := Value.str (Str.ofString "__init__") 253, val := Value.ref 63 }, { hash := PyData.keyHash P (Str.ofString "_read_char"), key := Value.str (Str.ofString "_read_char") 261, val := Value.ref 70 }, { hash := PyData.keyHash P (Str.ofString "get_token"), key := Value.str (Str.ofString "get_token") 271, val := Value.ref 77 }, { hash := PyData.keyHash P (Str.ofString "push_token"), key := Value.str (Str.ofString "push_token") 279, val := Value.ref 84 }, { hash := PyData.keyHash P (Str.ofString "__static_attributes__"), key := Value.str (Str.ofString "__static_attributes__") 284, val := Value.ref 85 }, { hash := PyData.keyHash P (Str.ofString "__dict__"), key := Value.str (Str.ofString "__dict__") 286, val := Value.ref 88 }, { hash := PyData.keyHash P (Str.ofString "__weakref__"), key := Value.str (Str.ofString "__weakref__") 288, val := Value.ref 89 }, { hash := PyData.keyHash P (Str.ofString "__doc__"), key := Value.str (Str.ofString "__doc__") 289, val := Value.none }] 4 }),
  (87, { cls := Value.type "type", data := Data.cls { name := Str.ofString "_netrclex", bases := [Value.type "object"], mro := [Value.ref 87, Value.type "object"], ns := 86, qualname := Str.ofString "_netrclex" }, slots := #[none, none, some (Value.str (Str.ofString "_netrclex") 234), some (Value.str (Str.ofString "_netrclex") 242), some (Value.builtin "object.__new__"), some (Value.bool true)] }),
  (97, { cls := Value.type "code", data := Data.fields #[Value.str (Str.ofString "_substitution_cost") 300, Value.str (Str.ofString "_substitution_cost") 301, Value.str (Str.ofString "/claim/cut.py") 302, Value.int 67 0, Value.int 2 0, Value.int 0 0, Value.int 0 0, Value.int 3 0, Value.ref 92, Value.bool true, Value.int 181 0, Value.ref 93, Value.none, Value.ref 94, Value.ref 95, Value.ref 96, Value.int 305 0, Value.int 67 0, Value.str (Str.ofString "/claim/cut.py") 306] }),
  (98, oFn 12 "cpy313.traceback" 292 97),
  (104, { cls := Value.type "code", data := Data.fields #[Value.str (Str.ofString "_levenshtein_distance") 308, Value.str (Str.ofString "_levenshtein_distance") 309, Value.str (Str.ofString "/claim/cut.py") 310, Value.int 73 0, Value.int 3 0, Value.int 0 0, Value.int 0 0, Value.int 3 0, Value.ref 99, Value.bool true, Value.int 181 0, Value.ref 100, Value.none, Value.ref 101, Value.ref 102, Value.ref 103, Value.int 325 0, Value.int 73 0, Value.str (Str.ofString "/claim/cut.py") 326] }),
  (105, oFn 13 "cpy313.traceback" 292 104),
  (111, { cls := Value.type "code", data := Data.fields #[Value.str (Str.ofString "_law_cells") 330, Value.str (Str.ofString "_law_cells") 331, Value.str (Str.ofString "/claim/cut.py") 332, Value.int 112 0, Value.int 1 0, Value.int 0 0, Value.int 0 0, Value.int 3 0, Value.ref 106, Value.bool true, Value.int 181 0, Value.ref 107, Value.none, Value.ref 108, Value.ref 109, Value.ref 110, Value.int 336 0, Value.int 112 0, Value.str (Str.ofString "/claim/cut.py") 337] }),
  (112, oFn 15 "law_sw0024_01" 328 111),
  (116, { cls := Value.type "code", data := Data.fields #[Value.str (Str.ofString "_law_word") 339, Value.str (Str.ofString "_law_word") 340, Value.str (Str.ofString "/claim/cut.py") 341, Value.int 117 0, Value.int 2 0, Value.int 0 0, Value.int 0 0, Value.int 3 0, Value.ref 113, Value.bool true, Value.int 181 0, Value.ref 114, Value.none, Value.none, Value.none, Value.ref 115, Value.int 342 0, Value.int 117 0, Value.str (Str.ofString "/claim/cut.py") 343] }),
  (117, oFn 16 "law_sw0024_01" 328 116),
  (123, { cls := Value.type "code", data := Data.fields #[Value.str (Str.ofString "_law_piece") 345, Value.str (Str.ofString "_law_piece") 346, Value.str (Str.ofString "/claim/cut.py") 347, Value.int 119 0, Value.int 1 0, Value.int 0 0, Value.int 0 0, Value.int 3 0, Value.ref 118, Value.bool true, Value.int 181 0, Value.ref 119, Value.none, Value.ref 120, Value.ref 121, Value.ref 122, Value.int 349 0, Value.int 119 0, Value.str (Str.ofString "/claim/cut.py") 350] }),
  (124, oFn 17 "law_sw0024_01" 328 123),
  (128, { cls := Value.type "code", data := Data.fields #[Value.str (Str.ofString "_law_written") 352, Value.str (Str.ofString "_law_written") 353, Value.str (Str.ofString "/claim/cut.py") 354, Value.int 125 0, Value.int 2 0, Value.int 0 0, Value.int 0 0, Value.int 3 0, Value.ref 125, Value.bool true, Value.int 181 0, Value.ref 126, Value.none, Value.none, Value.none, Value.ref 127, Value.int 355 0, Value.int 125 0, Value.str (Str.ofString "/claim/cut.py") 356] }),
  (129, oFn 18 "law_sw0024_01" 328 128),
  (135, { cls := Value.type "code", data := Data.fields #[Value.str (Str.ofString "_law_lexer") 358, Value.str (Str.ofString "_law_lexer") 359, Value.str (Str.ofString "/claim/cut.py") 360, Value.int 129 0, Value.int 1 0, Value.int 0 0, Value.int 0 0, Value.int 3 0, Value.ref 130, Value.bool true, Value.int 181 0, Value.ref 131, Value.none, Value.ref 132, Value.ref 133, Value.ref 134, Value.int 364 0, Value.int 129 0, Value.str (Str.ofString "/claim/cut.py") 365] }),
  (136, oFn 19 "law_sw0024_01" 328 135),
  (140, { cls := Value.type "code", data := Data.fields #[Value.str (Str.ofString "_law_leaf") 367, Value.str (Str.ofString "_law_leaf") 368, Value.str (Str.ofString "/claim/cut.py") 369, Value.int 133 0, Value.int 2 0, Value.int 0 0, Value.int 0 0, Value.int 3 0, Value.ref 137, Value.bool true, Value.int 181 0, Value.ref 138, Value.none, Value.none, Value.none, Value.ref 139, Value.int 370 0, Value.int 133 0, Value.str (Str.ofString "/claim/cut.py") 371] }),
  (141, oFn 20 "law_sw0024_01" 328 140),
  (147, { cls := Value.type "code", data := Data.fields #[Value.str (Str.ofString "_law_either") 373, Value.str (Str.ofString "_law_either") 374, Value.str (Str.ofString "/claim/cut.py") 375, Value.int 138 0, Value.int 2 0, Value.int 0 0, Value.int 0 0, Value.int 3 0, Value.ref 142, Value.bool true, Value.int 181 0, Value.ref 143, Value.none, Value.ref 144, Value.ref 145, Value.ref 146, Value.int 382 0, Value.int 138 0, Value.str (Str.ofString "/claim/cut.py") 383] }),
  (148, oFn 21 "law_sw0024_01" 328 147),
  (154, { cls := Value.type "code", data := Data.fields #[Value.str (Str.ofString "_law_both") 385, Value.str (Str.ofString "_law_both") 386, Value.str (Str.ofString "/claim/cut.py") 387, Value.int 146 0, Value.int 2 0, Value.int 0 0, Value.int 0 0, Value.int 3 0, Value.ref 149, Value.bool true, Value.int 181 0, Value.ref 150, Value.none, Value.ref 151, Value.ref 152, Value.ref 153, Value.int 397 0, Value.int 146 0, Value.str (Str.ofString "/claim/cut.py") 398] }),
  (155, oFn 22 "law_sw0024_01" 328 154),
  (159, { cls := Value.type "code", data := Data.fields #[Value.str (Str.ofString "_law_worked_off") 400, Value.str (Str.ofString "_law_worked_off") 401, Value.str (Str.ofString "/claim/cut.py") 402, Value.int 159 0, Value.int 2 0, Value.int 0 0, Value.int 0 0, Value.int 3 0, Value.ref 156, Value.bool true, Value.int 181 0, Value.ref 157, Value.none, Value.none, Value.none, Value.ref 158, Value.int 403 0, Value.int 159 0, Value.str (Str.ofString "/claim/cut.py") 404] }),
  (160, oFn 23 "law_sw0024_01" 328 159),
  (164, { cls := Value.type "code", data := Data.fields #[Value.str (Str.ofString "_law_texts") 406, Value.str (Str.ofString "_law_texts") 407, Value.str (Str.ofString "/claim/cut.py") 408, Value.int 179 0, Value.int 2 0, Value.int 0 0, Value.int 0 0, Value.int 3 0, Value.ref 161, Value.bool true, Value.int 181 0, Value.ref 162, Value.none, Value.none, Value.none, Value.ref 163, Value.int 409 0, Value.int 179 0, Value.str (Str.ofString "/claim/cut.py") 410] }),
  (165, oFn 24 "law_sw0024_01" 328 164),
  (171, { cls := Value.type "code", data := Data.fields #[Value.str (Str.ofString "_law_saved") 412, Value.str (Str.ofString "_law_saved") 413, Value.str (Str.ofString "/claim/cut.py") 414, Value.int 188 0, Value.int 2 0, Value.int 0 0, Value.int 0 0, Value.int 3 0, Value.ref 166, Value.bool true, Value.int 181 0, Value.ref 167, Value.none, Value.ref 168, Value.ref 169, Value.ref 170, Value.int 420 0, Value.int 188 0, Value.str (Str.ofString "/claim/cut.py") 421] }),
  (172, oFn 25 "law_sw0024_01" 328 171),
  (176, { cls := Value.type "code", data := Data.fields #[Value.str (Str.ofString "law") 423, Value.str (Str.ofString "law") 424, Value.str (Str.ofString "/claim/cut.py") 425, Value.int 196 0, Value.int 1 0, Value.int 0 0, Value.int 0 0, Value.int 3 0, Value.ref 173, Value.bool true, Value.int 181 0, Value.ref 174, Value.none, Value.none, Value.none, Value.ref 175, Value.int 426 0, Value.int 196 0, Value.str (Str.ofString "/claim/cut.py") 427] }),
  (177, oFn 26 "law_sw0024_01" 328 176)]
noncomputable def vQ : Program := view pG [26]
noncomputable def looseN : List Str := ["lt", "eq", "add", "concat", "indexOf", "_netrclex", "_MAX_STRING_SIZE", "_MOVE_COST", "_CASE_COST", "_substitution_cost", "_levenshtein_distance", "_law_cells", "_law_word", "_law_piece", "_law_written", "_law_lexer", "_law_leaf", "_law_either", "_law_both", "_law_worked_off", "_law_texts", "_law_saved"]
noncomputable def addrK : List Addr := [2, 3, 20, 21, 27, 28, 34, 35, 41, 42, 48, 49, 62, 63, 69, 70, 76, 77, 83, 84, 86, 87, 97, 98, 104, 105, 111, 112, 116, 117, 123, 124, 128, 129, 135, 136, 140, 141, 147, 148, 154, 155, 159, 160, 164, 165, 171, 172, 176, 177]
noncomputable def hkK : Hook := kmHook heapK addrK (fun _ => by kernel_rfl) [131]
noncomputable abbrev XtK : Shared → Bool := fun s => xlAt vQ [] s && recOk (RowW.records PySem.Challenge.rw_sw0024_01.row.toRowW) s
set_option maxHeartbeats 40000000 in
theorem left1 : LeftO pG vQ looseN XtK hkK.obs hkK.val 2050 := fun w => by kernel_rfl
noncomputable def dLaw : DefRec := ⟨fNm (stm 26), fPar (stm 26), fBody (stm 26), fSco (stm 26), match stm 26 with | .FunctionDef _ _ _ _ _ _ _ _ _ p => p | _ => default⟩
theorem look1 : sreFenced pG.main = true := by kernel_rfl
theorem look2 : ((moduleNames pG.main.body).isEmpty || lookedIntoSs (moduleNames pG.main.body) pG.main.body) = true := by kernel_rfl
theorem look3 : namesResolve pG = true := by kernel_rfl
theorem look4 : pG.boundNames.all (fun n => !worldNames.contains n) = true := by kernel_rfl
theorem look5 : noRoadLSs { strict := !(importedModules pG.main.body).all cThrough.contains, foot := none, bare := (["vars", "dir", "locals"] : List Str).filter (readsOut pG pG.main.body) } pG.main.body = true := by kernel_rfl
theorem look6 : (namesMeet pG pG.main.body fun _ n => attrL n) = true := by kernel_rfl
theorem looks1 : looksOpen PySem.Challenge.rw_sw0024_01.row.prog = true := look_both (look_both (look_both (look_both (look_both look1 look2) look3) look4) look5) look6
theorem part1 : PySem.Challenge.rw_sw0024_01.row.partSaid = true := by
  unfold OpenRow.partSaid
  repeat' with_reducible apply look_both
  · exact looks1
  all_goals kernel_rfl
theorem row1 : PySem.Challenge.rw_sw0024_01.row.wellSaid = true := look_both (look_both part1 (by kernel_rfl)) (by kernel_rfl)
theorem said1 : PySem.Challenge.rw_sw0024_01.wellSaid = true := by
  unfold OpenLaw.wellSaid
  repeat' with_reducible apply look_both
  · exact row1
  all_goals decide +kernel
end Mine

namespace Mine
noncomputable abbrev KF (w : World) : Frag := heapK w.params
structure Base (w : World) (h₀ : Heap) (mg mb : Str → Option Value) : Prop where
  k : (KF w).In h₀
  g : h₀.Ns mainGlobals mg
  b : h₀.Ns builtinsNs mb
  lim : h₀.NoLimit
  bt : ∀ x : Str, x ≠ "__name__" → mb x = bootBuiltins x
  bm : ∃ bm ob, mg "__builtins__" = some (.ref bm) ∧ bm ≠ builtinsNs ∧ h₀.get? bm = some ob ∧ ob.cls = .type "module" ∧ ob.dict = some builtinsNs ∧ ob.data = .plain
  tab : h₀.get? 131 = some (tabObj #[])

section
variable {w : World} {h₀ : Heap} {mg mb : Str → Option Value}
noncomputable def theW (B : Base w h₀ mg mb) : Glob pG w where
  G h := (∀ b o, (b < h₀.objs.size ∧ b ∉ [131]) → h₀.get? b = some o → h.get? b = some o) ∧ h₀.objs.size ≤ h.objs.size
  n₀ := h₀.objs.size
  ex := [131]
  mono := fun hG hk hz => ⟨fun b o hb e => hk b o hb (hG.1 b o hb e), Nat.le_trans hG.2 hz⟩
  big := fun hG => hG.2
  mg := mg
  mb := mb
  nsg := fun hG => let ⟨o, es, ep, ho, r⟩ := B.g; ⟨o, es, ep, hG.1 _ _ ⟨Heap.lt_size ho, by decide⟩ ho, r⟩
  nsb := fun hG => let ⟨o, es, ep, ho, r⟩ := B.b; ⟨o, es, ep, hG.1 _ _ ⟨Heap.lt_size ho, by decide⟩ ho, r⟩
  lim := fun hG => let ⟨mc, ⟨o, es, ep, ho, r⟩, e⟩ := B.lim; ⟨mc, ⟨o, es, ep, hG.1 _ _ ⟨Heap.lt_size ho, by decide⟩ ho, r⟩, e⟩
theorem k131 (w : World) : (KF w).lookup 131 = none := by kernel_rfl
theorem kin (B : Base w h₀ mg mb) {h : Heap} (hG : (theW B).G h) : (KF w).In h := fun a o e => by
  have e' := B.k a o e
  refine hG.1 a o ⟨Heap.lt_size e', fun z => ?_⟩ e'
  have : a = 131 := List.mem_singleton.mp z
  rw [this, k131] at e
  cases e
noncomputable def fdAt (K : Frag) (a : Addr) : FuncData := match K.lookup a with | some ⟨_, _, .func fd, _⟩ => fd | _ => Calls.docDef "" (fPar (.Pass default)) [] default .none .none .none
theorem has_of (B : Base w h₀ mg mb) (i : Nat) (a : Addr) (e1 : nsIn (KF w) mainGlobals (fNm (stm i)) = some (some (.ref a)))
    (e2 : ((KF w).lookup a).map (·.data) = some (.func (Calls.docDef (fNm (stm i)) (fPar (stm i)) (fBody (stm i)) (fSco (stm i)) (fdAt (KF w) a).pyModule (fdAt (KF w) a).code (fdAt (KF w) a).doc)))
    (e3 : codeIn (KF w) (fdAt (KF w) a).code (fNm (stm i)) = true) : HasDef (theW B) i a := by
  obtain ⟨o, ho, hd⟩ := Option.map_eq_some_iff.mp e2
  exact ⟨_, _, _, mg_of B.k B.g e1, ⟨fun hG => ⟨o, kin B hG _ _ ho, hd⟩, fun hG => codeRec_of (kin B hG) e3⟩⟩

theorem has1 (B : Base w h₀ mg mb) : HasDef (theW B) 1 21 := has_of B 1 21 (by kernel_rfl) (by kernel_rfl) (by kernel_rfl)
theorem has2 (B : Base w h₀ mg mb) : HasDef (theW B) 2 28 := has_of B 2 28 (by kernel_rfl) (by kernel_rfl) (by kernel_rfl)
theorem has3 (B : Base w h₀ mg mb) : HasDef (theW B) 3 35 := has_of B 3 35 (by kernel_rfl) (by kernel_rfl) (by kernel_rfl)
theorem has4 (B : Base w h₀ mg mb) : HasDef (theW B) 4 42 := has_of B 4 42 (by kernel_rfl) (by kernel_rfl) (by kernel_rfl)
theorem has5 (B : Base w h₀ mg mb) : HasDef (theW B) 5 49 := has_of B 5 49 (by kernel_rfl) (by kernel_rfl) (by kernel_rfl)
theorem has12 (B : Base w h₀ mg mb) : HasDef (theW B) 12 98 := has_of B 12 98 (by kernel_rfl) (by kernel_rfl) (by kernel_rfl)
theorem has13 (B : Base w h₀ mg mb) : HasDef (theW B) 13 105 := has_of B 13 105 (by kernel_rfl) (by kernel_rfl) (by kernel_rfl)
theorem has15 (B : Base w h₀ mg mb) : HasDef (theW B) 15 112 := has_of B 15 112 (by kernel_rfl) (by kernel_rfl) (by kernel_rfl)
theorem has16 (B : Base w h₀ mg mb) : HasDef (theW B) 16 117 := has_of B 16 117 (by kernel_rfl) (by kernel_rfl) (by kernel_rfl)
theorem has17 (B : Base w h₀ mg mb) : HasDef (theW B) 17 124 := has_of B 17 124 (by kernel_rfl) (by kernel_rfl) (by kernel_rfl)
theorem has18 (B : Base w h₀ mg mb) : HasDef (theW B) 18 129 := has_of B 18 129 (by kernel_rfl) (by kernel_rfl) (by kernel_rfl)
theorem has19 (B : Base w h₀ mg mb) : HasDef (theW B) 19 136 := has_of B 19 136 (by kernel_rfl) (by kernel_rfl) (by kernel_rfl)
theorem has20 (B : Base w h₀ mg mb) : HasDef (theW B) 20 141 := has_of B 20 141 (by kernel_rfl) (by kernel_rfl) (by kernel_rfl)
theorem has21 (B : Base w h₀ mg mb) : HasDef (theW B) 21 148 := has_of B 21 148 (by kernel_rfl) (by kernel_rfl) (by kernel_rfl)
theorem has22 (B : Base w h₀ mg mb) : HasDef (theW B) 22 155 := has_of B 22 155 (by kernel_rfl) (by kernel_rfl) (by kernel_rfl)
theorem has23 (B : Base w h₀ mg mb) : HasDef (theW B) 23 160 := has_of B 23 160 (by kernel_rfl) (by kernel_rfl) (by kernel_rfl)
theorem has24 (B : Base w h₀ mg mb) : HasDef (theW B) 24 165 := has_of B 24 165 (by kernel_rfl) (by kernel_rfl) (by kernel_rfl)
theorem has25 (B : Base w h₀ mg mb) : HasDef (theW B) 25 172 := has_of B 25 172 (by kernel_rfl) (by kernel_rfl) (by kernel_rfl)
theorem has26 (B : Base w h₀ mg mb) : HasDef (theW B) 26 177 := has_of B 26 177 (by kernel_rfl) (by kernel_rfl) (by kernel_rfl)
theorem no_hasattr (B : Base w h₀ mg mb) : mg "hasattr" = none := mg_none_of B.k B.g (by kernel_rfl)
theorem no_type (B : Base w h₀ mg mb) : mg "type" = none := mg_none_of B.k B.g (by kernel_rfl)
theorem no_TypeError (B : Base w h₀ mg mb) : mg "TypeError" = none := mg_none_of B.k B.g (by kernel_rfl)
theorem no_enumerate (B : Base w h₀ mg mb) : mg "enumerate" = none := mg_none_of B.k B.g (by kernel_rfl)
theorem no_ValueError (B : Base w h₀ mg mb) : mg "ValueError" = none := mg_none_of B.k B.g (by kernel_rfl)
theorem no_iter (B : Base w h₀ mg mb) : mg "iter" = none := mg_none_of B.k B.g (by kernel_rfl)
theorem no_len (B : Base w h₀ mg mb) : mg "len" = none := mg_none_of B.k B.g (by kernel_rfl)
theorem no_list (B : Base w h₀ mg mb) : mg "list" = none := mg_none_of B.k B.g (by kernel_rfl)
theorem no_range (B : Base w h₀ mg mb) : mg "range" = none := mg_none_of B.k B.g (by kernel_rfl)
theorem no_min (B : Base w h₀ mg mb) : mg "min" = none := mg_none_of B.k B.g (by kernel_rfl)
theorem no_max (B : Base w h₀ mg mb) : mg "max" = none := mg_none_of B.k B.g (by kernel_rfl)
theorem no_isinstance (B : Base w h₀ mg mb) : mg "isinstance" = none := mg_none_of B.k B.g (by kernel_rfl)
theorem no_bool (B : Base w h₀ mg mb) : mg "bool" = none := mg_none_of B.k B.g (by kernel_rfl)
noncomputable def fAddr (i : Nat) : Addr := (([(1, 21), (2, 28), (3, 35), (4, 42), (5, 49), (12, 98), (13, 105), (15, 112), (16, 117), (17, 124), (18, 129), (19, 136), (20, 141), (21, 148), (22, 155), (23, 160), (24, 165), (25, 172), (26, 177)] : List (Nat × Addr)).lookup i).getD 0
noncomputable def theP (B : Base w h₀ mg mb) : Pr (theW B) where
  f := fAddr
  has := fun i hi => by
    simp only [defIdx, List.mem_cons, List.not_mem_nil, or_false] at hi
    rcases hi with rfl | rfl | rfl | rfl | rfl | rfl | rfl | rfl | rfl | rfl | rfl | rfl | rfl | rfl | rfl | rfl | rfl | rfl | rfl
    · exact has1 B
    · exact has2 B
    · exact has3 B
    · exact has4 B
    · exact has5 B
    · exact has12 B
    · exact has13 B
    · exact has15 B
    · exact has16 B
    · exact has17 B
    · exact has18 B
    · exact has19 B
    · exact has20 B
    · exact has21 B
    · exact has22 B
    · exact has23 B
    · exact has24 B
    · exact has25 B
    · exact has26 B
  bi := fun x hx => by
    simp only [usedNames, List.mem_cons, List.not_mem_nil, or_false] at hx
    rcases hx with rfl | rfl | rfl | rfl | rfl | rfl | rfl | rfl | rfl | rfl | rfl | rfl | rfl
    · exact no_hasattr B
    · exact no_type B
    · exact no_TypeError B
    · exact no_enumerate B
    · exact no_ValueError B
    · exact no_iter B
    · exact no_len B
    · exact no_list B
    · exact no_range B
    · exact no_min B
    · exact no_max B
    · exact no_isinstance B
    · exact no_bool B
  bb := fun x hx => by
    refine B.bt x ?_
    simp only [usedNames, List.mem_cons, List.not_mem_nil, or_false] at hx
    rcases hx with rfl | rfl | rfl | rfl | rfl | rfl | rfl | rfl | rfl | rfl | rfl | rfl | rfl <;> decide +kernel
  cMax := ⟨294, mg_of B.k B.g (by kernel_rfl)⟩
  cMove := ⟨296, mg_of B.k B.g (by kernel_rfl)⟩
  cCase := ⟨298, mg_of B.k B.g (by kernel_rfl)⟩

theorem pg87 (w : World) : (findIn (KF w) (.ref 87) "__getattribute__" == some (some (.builtin "object.__getattribute__")) && findIn (KF w) (.ref 87) "__getattr__" == some none) = true := by kernel_rfl
theorem own_lineno (w : World) : findIn (KF w) (.ref 87) "lineno" = some none := by kernel_rfl
theorem own_instream (w : World) : findIn (KF w) (.ref 87) "instream" = some none := by kernel_rfl
theorem own_whitespace (w : World) : findIn (KF w) (.ref 87) "whitespace" = some none := by kernel_rfl
theorem own_pushback (w : World) : findIn (KF w) (.ref 87) "pushback" = some none := by kernel_rfl
theorem own_read (w : World) : findIn (KF w) (.ref 87) "read" = some none := by kernel_rfl
noncomputable def theZ (B : Base w h₀ mg mb) : Cls (theW B) where
  K := KF w
  kin := kin B
  C := 87
  pg := fun _ => pg87 w
  hd := by kernel_rfl
  po := by kernel_rfl
  sa := by kernel_rfl
  no := fun x hx => by
    simp only [List.mem_cons, List.not_mem_nil, or_false] at hx
    rcases hx with rfl | rfl | rfl | rfl | rfl
    · exact own_lineno w
    · exact own_instream w
    · exact own_whitespace w
    · exact own_pushback w
    · exact own_read w
  mkc := by kernel_rfl
  kp := by kernel_rfl
theorem meth_of (B : Base w h₀ mg mb) (j : Nat) (q name : Str) (f : Addr) (e1 : findIn (KF w) (.ref 87) name = some (some (.ref f))) (e2 : typeIn (KF w) (.ref f) = some (.type "function"))
    (e3 : ((KF w).lookup f).map (·.data) = some (.func (mFn j q (fdAt (KF w) f).pyModule (fdAt (KF w) f).code (fdAt (KF w) f).doc (fdAt (KF w) f).closureTuple (fdAt (KF w) f).annotations)))
    (e4 : codeIn (KF w) (fdAt (KF w) f).code q = true) (hco : (fSco (mth j)).isCoroutine = false) (hgen : (fSco (mth j)).isGenerator = false) (hk : (fSco (mth j)).kind = .function) : Meth (theZ B) j q name f := by
  obtain ⟨o, ho, hd⟩ := Option.map_eq_some_iff.mp e3
  exact ⟨e1, e2, _, _, _, _, _, ⟨fun hG => ⟨o, kin B hG _ _ ho, hd⟩, fun hG => codeRec_of (kin B hG) e4, rfl, rfl, rfl, rfl, hco, hgen, hk⟩⟩
theorem m_init (B : Base w h₀ mg mb) : Meth (theZ B) 0 "_netrclex.__init__" "__init__" 63 := meth_of B _ _ _ _ (by kernel_rfl) (by kernel_rfl) (by kernel_rfl) (by kernel_rfl) (by rfl) (by rfl) (by rfl)
theorem m_rc (B : Base w h₀ mg mb) : Meth (theZ B) 1 "_netrclex._read_char" "_read_char" 70 := meth_of B _ _ _ _ (by kernel_rfl) (by kernel_rfl) (by kernel_rfl) (by kernel_rfl) (by rfl) (by rfl) (by rfl)
theorem m_gt (B : Base w h₀ mg mb) : Meth (theZ B) 2 "_netrclex.get_token" "get_token" 77 := meth_of B _ _ _ _ (by kernel_rfl) (by kernel_rfl) (by kernel_rfl) (by kernel_rfl) (by rfl) (by rfl) (by rfl)
theorem m_pt (B : Base w h₀ mg mb) : Meth (theZ B) 3 "_netrclex.push_token" "push_token" 84 := meth_of B _ _ _ _ (by kernel_rfl) (by kernel_rfl) (by kernel_rfl) (by kernel_rfl) (by rfl) (by rfl) (by rfl)
noncomputable def theL (B : Base w h₀ mg mb) : Lex (theW B) where
  S := theP B
  Z := theZ B
  ini := 63
  rc := 70
  gt := 77
  pt := 84
  mini := m_init B
  mrc := m_rc B
  mgt := m_gt B
  mpt := m_pt B
  rcg := by kernel_rfl
  rck := by kernel_rfl
  mgC := mg_of B.k B.g (by kernel_rfl)
theorem cd19 (w : World) : codeHdIn (KF w) 135 131 = true := by kernel_rfl
noncomputable def theD (B : Base w h₀ mg mb) : LexDef (theL B) where
  T := 131
  ex := by
    obtain ⟨o, ho, hd⟩ := Option.map_eq_some_iff.mp (show ((KF w).lookup 136).map (·.data) = some (.func (Calls.docDef (fNm (stm 19)) (fPar (stm 19)) (fBody (stm 19)) (fSco (stm 19)) (fdAt (KF w) 136).pyModule (.ref 135) (fdAt (KF w) 136).doc)) by kernel_rfl)
    exact ⟨_, _, 135, ⟨fun hG => ⟨o, kin B hG _ _ ho, hd⟩, fun hG => codeRec_of (kin B hG) (by kernel_rfl)⟩, fun hG => codeHd_of_K (kin B hG) (cd19 w)⟩
  bat := fun hG => by
    obtain ⟨bm, ob, b1, b2, b3, b4, b5, b6⟩ := B.bm
    have hbP : bm ≠ 131 := fun q => by
      rw [q, B.tab] at b3; cases b3; cases b4
    have hbG : bm ≠ mainGlobals := fun q => by
      obtain ⟨o, es, ep, e, hd, _⟩ := B.g
      rw [q, e] at b3; cases b3; rw [hd] at b6; cases b6
    exact ⟨bm, ob, b1, b2, hbG, hbP, hG.1 _ _ ⟨Heap.lt_size b3, fun z => hbP (List.mem_singleton.mp z)⟩ b3, b4, b5, b6⟩
  gne := by decide
theorem k2 (w : World) : (KF w).lookup cStatics = some { cls := .none, data := .dict #[] } := by kernel_rfl
theorem none_booked_at (B : Base w h₀ mg mb) {h : Heap} (hG : (theW B).G h) : NoneBooked h :=
  ⟨fun _ => none, ⟨_, #[], _, kin B hG _ _ (k2 w), rfl, fun e he => by simp at he, fun name => by simp [nsFind, findBy]⟩, rfl⟩
theorem law_top (B : Base w h₀ mg mb) (ns : List Int) (h63 : ns.length ≤ 63) : FnM01 (theW B) 177 10 [.lst (intL ns)] [(131, .raw (tabObj #[]))] (fun d μ' => d = .bool true ∧ ∃ ps, (131, MC.raw (tabObj ps)) ∈ μ') :=
  law_holds (theL B) (theD B) (none_booked_at B) ns h63
end
end Mine

namespace Mine
section
variable {w : World} {mg mb : Str → Option Value}
theorem well_list {P : Params} {h : Heap} {L : Addr} {xs : List WData} : ∀ {v : Value} {d : WData}, Well P h v d → v = .ref L → d = .list xs → ∃ vs : List Value, h.get? L = some { cls := .type "list", data := .seq vs.toArray } := by
  intro v d x e1 e2
  cases x <;> first | (cases e2; done) | skip
  cases e1
  exact ⟨_, ‹_›⟩
theorem vrs_ints {P : Addr → Prop} {k : Nat} {h : Heap} {vs : List Value} {ns : List Int} (hI : IntsAre vs ns) : VRs P k h (intL ns) vs := by
  induction hI with
  | nil => exact VRs.nil
  | cons n t _ ih => exact VRs.cons ⟨t, rfl⟩ ih
theorem law_call {s₁ : Shared} (B : Base w s₁.heap mg mb) {L : Addr} {vals us : List Value} {ns : List Int} (hL : s₁.heap.IsList L vals.toArray) (hW : s₁.heap.get? L = some { cls := .type "list", data := .seq us.toArray }) (hI : IntsAre vals ns) (h63 : ns.length ≤ 63)
    {R : Result → Shared → Prop} (hR : ∀ s', (∀ b o, b ≠ 131 → s₁.heap.get? b = some o → s'.heap.get? b = some o) → s'.gens = s₁.gens → s'.os = s₁.os → (∃ ps, s'.heap.get? 131 = some (tabObj ps)) → R (.ok (.ret (.bool true))) s') :
    codeAny (model pG w) callerA (.call (.ref 177) ⟨[.ref L], []⟩) R s₁ := by
  have hne : L ≠ 131 := fun z => by
    rw [z, B.tab] at hW
    cases hW
  have hlist : LstAt s₁.heap L vals.toArray := by
    obtain ⟨o, ho, hc, n, hd⟩ := hL
    rw [hW] at ho
    cases ho
    cases hd
    exact ⟨_, hW⟩
  refine law_top B ns h63 callerA s₁ [.ref L] (fun a => a = L) R ⟨by decide +kernel, by decide +kernel, rfl⟩ ⟨fun b o _ e => e, Nat.le_refl _⟩ ⟨fun p hp => ?_, by simp, fun b hb => ?_, fun b hb => ?_⟩ (fun b hb hm => ?_) ?_ ?_
  · have := List.mem_singleton.mp hp
    subst this
    exact B.tab
  · have : b = 131 := by simpa using hb
    subst this
    exact fun q => q.2 (List.mem_singleton.mpr rfl)
  · have : b = 131 := by simpa using hb
    subst this
    exact Heap.lt_size B.tab
  · have : b = 131 := by simpa using hm
    exact hne (hb ▸ this)
  · refine VRs.one ⟨L, vals.toArray, rfl, rfl, hlist, ?_⟩
    exact vrs_ints hI
  · rintro d μ' v s' ⟨rfl, ps, hT⟩ y new M x
    cases x
    exact hR s' (fun b o hb e => y.kept b o e (by simpa using hb)) y.gens y.os ⟨ps, M.mem _ hT⟩
end
end Mine
set_option maxHeartbeats 8000000 in
theorem PySem.Challenge.cw_sw0024_01_holds : PySem.Challenge.rw_sw0024_01.Holds := by
  refine holds_law Mine.said1 fun said => holds_open (q := Mine.vQ) (loose := Mine.looseN) (Xt := Mine.XtK) (XP := XL Mine.vQ []) (Yf := Mine.hkK.obs) (Ya := Mine.hkK.val) (YP := Mine.hkK.says) (d := Mine.dLaw) (kwd := []) (N := 2050) Mine.left1 (Hook.of Mine.hkK) (Hook.keeps Mine.hkK)
    (fun s e => xl_of s (Bool.and_eq_true_iff.mp e).1) XL.keeps (by kernel_rfl) (by kernel_rfl) (by kernel_rfl) (fun s e => recFacts_of (Bool.and_eq_true_iff.mp e).2) (by rfl) said (by decide +kernel) ⟨rfl, rfl, rfl, rfl, rfl, by decide +kernel⟩ ?_ ?_
  · w_witness2
  intro w s₀ s₁ mg mb G Y fa o pm cd doc dV kV ho hd hcd hD hmg hg args vals as hpre hlay hrd hwl hlo
  have KX := km_in_of Y
  km_tabs Y
  refine Ground.open G ?_
  intro T B D TE TW
  try (refine guard_noD D (by decide +kernel) ?_; clear D)
  have BB : Mine.Base w s₁.heap mg mb := ⟨KX, T.g, T.b, T.nolimit, T.builtins, T.bmain, hT8 131 List.mem_cons_self⟩
  have h177 : mg "law" = some (.ref 177) := mg_of KX T.g (by kernel_rfl)
  have hfa : fa = 177 := by
    have e := hmg.symm.trans h177
    cases e
    rfl
  subst hfa
  have hTT : TabsAt [(135, 131)] s₁.heap := List.forall_mem_cons.mpr ⟨⟨codeHd_of_K KX (by kernel_rfl), hT8 131 List.mem_cons_self⟩, fun _ h => nomatch h⟩
  wrow_args hpre hlay hrd hwl hlo
  all_goals (
    first | refine callC_kw (enter_call ?_) | refine enter_call ?_
    refine kn_post hTT (fun _ _ => rfl) ?_
    rename IntsAre _ _ => hI
    rename Heap.IsList _ _ _ => hL
    rename Well _ _ _ _ => hW
    rename ¬ (_ < _) => h63
    obtain ⟨us, hU⟩ := Mine.well_list hW rfl rfl
    refine Mine.law_call BB hL hU hI (by omega) fun s' hk hgens hos hps => ?_
    refine ⟨⟨.inl ⟨.bool true, .bool true, [], rfl, fun _ => rfl, .bool true, ?_, fun _ => ⟨.nil, fun _ h => nomatch h⟩⟩, fun b o e => ?_, hos, hgens.trans hg⟩, hps, trivial⟩
    · wrow_post
    · refine hk b o (fun z => ?_) (of_hideAll _ e)
      have e1 : (ghostOf s₁.heap [(135, 131)]).get? b = none := hideAll_none _ (by rw [z]; exact List.mem_cons_self)
      exact nomatch (show (none : Option Obj) = some o from e1.symm.trans e))
