import PyProof.Rows.All
import Wide.All
import OpenK.AllK
import Wide.FinOn
import PySem.Challenge.RW_dr0132_01
open PySem PySem.W PyProof.Rows
set_option Elab.async false
set_option linter.all false
set_option maxRecDepth 100000
set_option maxHeartbeats 8000000
set_option compiler.extract_closed false
set_option genInjectivity false
set_option genSizeOf false
namespace Mine
local macro_rules | `(tactic| walk_at "om") => `(tactic| first | with_reducible assumption | exact Nat.le_trans (by with_reducible assumption) (Nat.le_of_ble_eq_true rfl) | lia | omega)
section
theorem runs_toks {M : Model} {Γ : Ctx} {p : Pos} {t : Sem Fin} {fs : List Frame} {s : Shared} {e : End} {s' : Shared} (h : Runs M Γ p t fs s e s') : s.toks ≤ s'.toks := by
  induction h with
  | done => exact Nat.le_refl _
  | raise => exact Nat.le_refl _
  | yield => exact Nat.le_refl _
  | fresh _ ih => exact Nat.le_trans (Nat.le_succ _) ih
  | again _ _ ih => exact ih
  | call _ _ ih1 ih2 => exact Nat.le_trans ih1 ih2
  | callSusp _ ih => exact ih
  | resumeFresh _ _ _ _ ih1 ih2 => exact Nat.le_trans ih1 ih2
  | resumeSuspended _ _ _ _ ih1 ih2 => exact Nat.le_trans ih1 ih2
  | segRet _ _ ih1 ih2 => exact Nat.le_trans ih1 ih2
  | segGen _ _ ih1 ih2 => exact Nat.le_trans ih1 ih2
  | segSuspOut _ _ ih => exact ih
  | segSuspGen _ _ _ _ ih1 ih2 => exact Nat.le_trans ih1 ih2
  | _ => assumption
theorem wakes_toks {M : Model} {Γ : Ctx} {p : Pos} {g : Nat} {r : Resume} {s : Shared} {res : GenResult} {s' : Shared} (h : Wakes M Γ p g r s res s') : s.toks ≤ s'.toks := by
  unfold Wakes at h
  split at h
  · exact h.elim
  · split at h
    · obtain ⟨e₁, s₁, h1, _, _, rfl⟩ := h
      have h2 := runs_toks h1
      exact h2
    · rw [h.2]; exact Nat.le_refl _
    · rw [h.2]; exact Nat.le_refl _
  · obtain ⟨e₁, s₁, h1, _, _, rfl⟩ := h
    have h2 := runs_toks h1
    exact h2
  · rw [h.2]; exact Nat.le_refl _
  · rw [h.2]; exact Nat.le_refl _
theorem wp_toks {α : Type} {M : Model} {Γ : Ctx} {Q : α → Pos → Shared → Prop} {E : Value → Pos → Shared → Prop} (t : Sem α) : ∀ (k : Nat) (p : Pos) (s : Shared), k ≤ s.toks → Sem.wp M Γ t Q E p s →
    Sem.wp M Γ t (fun a p' s' => Q a p' s' ∧ k ≤ s'.toks) (fun e p' s' => E e p' s' ∧ k ≤ s'.toks) p s := by
  induction t with
  | pure a => intro k p s hk h; exact ⟨h, hk⟩
  | raise e => intro k p s hk h; exact ⟨h, hk⟩
  | load a q f ih => intro k p s hk ⟨o, ho, h⟩; exact ⟨o, ho, ih o k p s hk h⟩
  | update a q f g ih => intro k p s hk ⟨h1, h⟩; exact ⟨h1, ih () k p _ hk h⟩
  | fresh f ih => intro k p s hk h; exact ih _ k p _ (Nat.le_succ_of_le hk) h
  | choose src n f ih => intro k p s hk ⟨h1, h⟩; exact ⟨h1, ih _ k p _ hk h⟩
  | call c hd g l f ih =>
    intro k p s hk h
    rw [Sem.wp_call] at h ⊢
    obtain ⟨r, s', hr, h⟩ := h
    exact ⟨r, s', hr, ih r k p s' (Nat.le_trans hk (runs_toks hr)) h⟩
  | genState g f ih => intro k p s hk ⟨st, h1, h⟩; exact ⟨st, h1, ih _ k p s hk h⟩
  | resume g r l f ih =>
    intro k p s hk h
    rw [Sem.wp_resume] at h ⊢
    obtain ⟨res, s', hr, h⟩ := h
    exact ⟨res, s', hr, ih res k p s' (Nat.le_trans hk (wakes_toks hr)) h⟩
  | unsupported w => intro k p s hk h; exact h
  | finish e => intro k p s hk h; exact h
  | register a f ih => intro k p s hk h; exact h
  | «yield» v g l f ih => intro k p s hk h; exact h
  | fork c f ih => intro k p s hk h; exact h
  | await a f d l g ih => intro k p s hk h; exact h
  | rule t f ih => intro k p s hk h; exact ih () k p s hk h
  | «at» p' f ih => intro k p s hk h; exact ih () k p' s hk h
  | alloc o f ih => intro k p s hk h; exact ih _ k p _ hk h
  | loadIfAlive a f ih => intro k p s hk h; exact ih _ k p s hk h
  | point l f ih => intro k p s hk h; exact ih () k p s hk h
  | ask f ih => intro k p s hk h; exact ih _ k p s hk h
  | os q l f ih => intro k p s hk h; exact ih _ k p _ hk h
  | handled own f ih => intro k p s hk h; exact ih _ k p s hk h
  | newGen c f ih => intro k p s hk h; exact ih _ k p _ hk h
  | stack f ih => intro k p s hk h; exact ih _ k p s hk h
  | thread f ih => intro k p s hk h; exact ih _ k p s hk h
theorem wpAny_toks {α : Type} {M : Model} {A : Around} {Q : α → Shared → Prop} {E : Value → Shared → Prop} {t : Sem α} {s : Shared} (h : wpAny M A t Q E s) :
    wpAny M A t (fun a s' => Q a s' ∧ s.toks ≤ s'.toks) (fun e s' => E e s' ∧ s.toks ≤ s'.toks) s := fun Γ p hΓ => wp_toks t s.toks p s (Nat.le_refl _) (h Γ p hΓ)
end
section
noncomputable abbrev PH := Addr → Option Obj
noncomputable def Le (Φ Φ' : PH) : Prop := ∀ a o, Φ a = some o → Φ' a = some o
theorem Le.refl (Φ : PH) : Le Φ Φ := fun _ _ h => h
theorem Le.trans {Φ Φ' Φ'' : PH} (h : Le Φ Φ') (h' : Le Φ' Φ'') : Le Φ Φ'' := fun a o e => h' a o (h a o e)
structure Cx where
  prog : Program
  w : World
  base : Heap
  os : OsState
noncomputable abbrev Cx.M (C : Cx) : Model := model C.prog C.w
noncomputable abbrev Cx.sk (C : Cx) : KeyKind C.prog C.w Str := strKind C.prog C.w
inductive V where
  | none
  | bool (b : Bool)
  | int (i : Int)
  | str (s : Str)
  | val (v : Value)
  | tup (vs : List V)
  | lst (vs : List V)
  | dct (es : List (Str × V))
noncomputable abbrev V.ref (a : Addr) : V := .val (.ref a)
noncomputable def tupO (xs : List Value) (n : Nat) : Obj := { cls := .type "tuple", data := .seq xs.toArray n }
noncomputable def lstO (xs : List Value) (n : Nat) : Obj := { cls := .type "list", data := .seq xs.toArray n }
noncomputable def DObj (C : Cx) (o : Obj) (kvs : List (Str × Value)) : Prop :=
  o.ExactDict ∧ ∃ es ep, o.data = .dict es ep ∧ KeysOf C.sk es ∧ Pairs C.sk es.toList kvs ∧ (kvs.map (·.1)).Nodup
mutual
def VR (C : Cx) (Φ : PH) : V → Value → Prop
  | .none, x => x = .none
  | .bool b, x => x = .bool b
  | .int i, x => ∃ t, x = .int i t
  | .str s, x => ∃ t, x = .str s t
  | .val v, x => x = v
  | .tup vs, x => ∃ a xs n, x = .ref a ∧ Φ a = some (tupO xs n) ∧ VRs C Φ vs xs
  | .lst vs, x => ∃ a xs n, x = .ref a ∧ Φ a = some (lstO xs n) ∧ VRs C Φ vs xs
  | .dct es, x => ∃ a o kvs, x = .ref a ∧ (a == sysModules) = false ∧ Φ a = some o ∧ DObj C o kvs ∧ VEs C Φ es kvs
def VRs (C : Cx) (Φ : PH) : List V → List Value → Prop
  | [], xs => xs = []
  | v :: vs, xs => ∃ y ys, xs = y :: ys ∧ VR C Φ v y ∧ VRs C Φ vs ys
def VEs (C : Cx) (Φ : PH) : List (Str × V) → List (Str × Value) → Prop
  | [], xs => xs = []
  | (k, v) :: es, xs => ∃ y ys, xs = (k, y) :: ys ∧ VR C Φ v y ∧ VEs C Φ es ys
end
mutual
theorem VR.mono {C : Cx} {Φ Φ' : PH} (hl : Le Φ Φ') : ∀ {v : V} {x : Value}, VR C Φ v x → VR C Φ' v x
  | .none, _, h => by simpa [VR] using h
  | .bool _, _, h => by simpa [VR] using h
  | .int _, _, h => by simpa [VR] using h
  | .str _, _, h => by simpa [VR] using h
  | .val _, _, h => by simpa [VR] using h
  | .tup vs, _, h => by
    simp only [VR] at h ⊢
    obtain ⟨a, xs, n, e, hp, hv⟩ := h
    exact ⟨a, xs, n, e, hl _ _ hp, VRs.mono hl hv⟩
  | .lst vs, _, h => by
    simp only [VR] at h ⊢
    obtain ⟨a, xs, n, e, hp, hv⟩ := h
    exact ⟨a, xs, n, e, hl _ _ hp, VRs.mono hl hv⟩
  | .dct es, _, h => by
    simp only [VR] at h ⊢
    obtain ⟨a, o, kvs, e, hm, hp, hd, hv⟩ := h
    exact ⟨a, o, kvs, e, hm, hl _ _ hp, hd, VEs.mono hl hv⟩
theorem VRs.mono {C : Cx} {Φ Φ' : PH} (hl : Le Φ Φ') : ∀ {vs : List V} {xs : List Value}, VRs C Φ vs xs → VRs C Φ' vs xs
  | [], _, h => by simpa [VRs] using h
  | v :: vs, _, h => by
    simp only [VRs] at h ⊢
    obtain ⟨y, ys, e, h1, h2⟩ := h
    exact ⟨y, ys, e, VR.mono hl h1, VRs.mono hl h2⟩
theorem VEs.mono {C : Cx} {Φ Φ' : PH} (hl : Le Φ Φ') : ∀ {es : List (Str × V)} {xs : List (Str × Value)}, VEs C Φ es xs → VEs C Φ' es xs
  | [], _, h => by simpa [VEs] using h
  | (k, v) :: es, _, h => by
    simp only [VEs] at h ⊢
    obtain ⟨y, ys, e, h1, h2⟩ := h
    exact ⟨y, ys, e, VR.mono hl h1, VEs.mono hl h2⟩
end
theorem VRs.nil {C : Cx} {Φ : PH} : VRs C Φ [] [] := by simp [VRs]
theorem VRs.cons {C : Cx} {Φ : PH} {v : V} {vs : List V} {x : Value} {xs : List Value} (h : VR C Φ v x) (hs : VRs C Φ vs xs) : VRs C Φ (v :: vs) (x :: xs) := by
  simp only [VRs]; exact ⟨x, xs, rfl, h, hs⟩
theorem VRs.length {C : Cx} {Φ : PH} : ∀ {vs : List V} {xs : List Value}, VRs C Φ vs xs → xs.length = vs.length
  | [], _, h => by simp only [VRs] at h; rw [h]; rfl
  | v :: vs, _, h => by
    simp only [VRs] at h
    obtain ⟨y, ys, e, _, h2⟩ := h
    rw [e, List.length_cons, VRs.length h2]; rfl
theorem VRs.append {C : Cx} {Φ : PH} : ∀ {vs ws : List V} {xs ys : List Value}, VRs C Φ vs xs → VRs C Φ ws ys → VRs C Φ (vs ++ ws) (xs ++ ys)
  | [], _, _, _, h, h' => by simp only [VRs] at h; rw [h]; exact h'
  | v :: vs, _, _, _, h, h' => by
    simp only [VRs] at h
    obtain ⟨y, ys', e, h1, h2⟩ := h
    rw [e]; exact VRs.cons h1 (VRs.append h2 h')
theorem VRs.get {C : Cx} {Φ : PH} : ∀ {vs : List V} {xs : List Value} {i : Nat} {v : V}, VRs C Φ vs xs → vs[i]? = some v → ∃ x, xs[i]? = some x ∧ VR C Φ v x
  | [], _, i, _, _, e => by simp at e
  | v :: vs, _, 0, _, h, e => by
    simp only [VRs] at h
    obtain ⟨y, ys, rfl, h1, _⟩ := h
    simp at e; subst e
    exact ⟨y, rfl, h1⟩
  | v :: vs, _, i + 1, _, h, e => by
    simp only [VRs] at h
    obtain ⟨y, ys, rfl, _, h2⟩ := h
    simp at e
    obtain ⟨x, hx, hv⟩ := VRs.get h2 e
    exact ⟨x, by simpa using hx, hv⟩
theorem VRs.split {C : Cx} {Φ : PH} : ∀ {vs ws : List V} {xs : List Value}, VRs C Φ (vs ++ ws) xs → ∃ ys zs, xs = ys ++ zs ∧ VRs C Φ vs ys ∧ VRs C Φ ws zs
  | [], _, xs, h => ⟨[], xs, rfl, VRs.nil, h⟩
  | v :: vs, _, _, h => by
    rw [List.cons_append] at h
    simp only [VRs] at h
    obtain ⟨y, ys, rfl, h1, h2⟩ := h
    obtain ⟨as, bs, rfl, h3, h4⟩ := VRs.split h2
    exact ⟨y :: as, bs, rfl, VRs.cons h1 h3, h4⟩
theorem VRs.reverse {C : Cx} {Φ : PH} : ∀ {vs : List V} {xs : List Value}, VRs C Φ vs xs → VRs C Φ vs.reverse xs.reverse
  | [], _, h => by simp only [VRs] at h; rw [h]; exact VRs.nil
  | v :: vs, _, h => by
    simp only [VRs] at h
    obtain ⟨y, ys, rfl, h1, h2⟩ := h
    rw [List.reverse_cons, List.reverse_cons]
    exact VRs.append (VRs.reverse h2) (VRs.cons h1 VRs.nil)
theorem VRs.take {C : Cx} {Φ : PH} : ∀ {vs : List V} {xs : List Value} (k : Nat), VRs C Φ vs xs → VRs C Φ (vs.take k) (xs.take k)
  | [], _, k, h => by simp only [VRs] at h; rw [h]; simp; exact VRs.nil
  | v :: vs, _, 0, h => by simp; exact VRs.nil
  | v :: vs, _, k + 1, h => by
    simp only [VRs] at h
    obtain ⟨y, ys, rfl, h1, h2⟩ := h
    rw [List.take_succ_cons, List.take_succ_cons]
    exact VRs.cons h1 (VRs.take k h2)
theorem VRs.drop {C : Cx} {Φ : PH} : ∀ {vs : List V} {xs : List Value} (k : Nat), VRs C Φ vs xs → VRs C Φ (vs.drop k) (xs.drop k)
  | [], _, k, h => by simp only [VRs] at h; rw [h]; simp; exact VRs.nil
  | v :: vs, _, 0, h => h
  | v :: vs, _, k + 1, h => by
    simp only [VRs] at h
    obtain ⟨y, ys, rfl, h1, h2⟩ := h
    rw [List.drop_succ_cons, List.drop_succ_cons]
    exact VRs.drop k h2
inductive AO where
  | frame (loc : List (Str × V))
  | cell (v : Option V)
  | list (vs : List V)
  | dict (es : List (Str × V))
  | set (ss : List Str)
  | setL (ss : List Str)
  | items (es : List (Str × V))
  | obj (o : Obj)
noncomputable def CellR (C : Cx) (Φ : PH) : Option V → Option Value → Prop
  | none, x => x = none
  | some v, x => ∃ y, x = some y ∧ VR C Φ v y
noncomputable def OOk (C : Cx) (Φ : PH) (o : Obj) : AO → Prop
  | .frame loc => ∃ es ep, o.data = .dict es ep ∧ StrKeys es ∧ ∀ x v, loc.lookup x = some v → ∃ y, nsFind es x = some y ∧ VR C Φ v y
  | .cell v => ∃ y, o.data = .cell y ∧ CellR C Φ v y
  | .list vs => ∃ xs n, o = lstO xs n ∧ VRs C Φ vs xs
  | .dict es => ∃ kvs, DObj C o kvs ∧ VEs C Φ es kvs
  | .set ss => o.ExactSet ∧ ∃ es ep t, o.data = .set es ep t ∧ ElemsOf C.sk es.toList ∧ (∀ k, k ∈ ss ↔ ∃ e ∈ es.toList, C.sk.is k e.2 = true) ∧ es.size < scanBound ∧ t.fits es.size = true ∧ es.size = ss.length ∧ ss.Nodup
  | .setL ss => o.ExactSet ∧ ∃ es ep t, o.data = .set es ep t ∧ ElemsOf C.sk es.toList ∧ (∀ k, k ∈ ss ↔ ∃ e ∈ es.toList, C.sk.is k e.2 = true) ∧ es.size < scanBound ∧ t.fits es.size = true ∧ es.size = ss.length ∧ ss.Nodup ∧ t.led = (!C.w.params.followText "set-order") ∧ (ss = [] ∨ t.plain = false)
  | .items es => ∃ d od kvs, o = { cls := .type "dict_items", data := .fields #[.ref d] } ∧ (d == sysModules) = false ∧ Φ d = some od ∧ DObj C od kvs ∧ VEs C Φ es kvs
  | .obj o' => o = o' ∧ o.isFreed = false
theorem CellR.mono {C : Cx} {Φ Φ' : PH} (hl : Le Φ Φ') : ∀ {v : Option V} {x : Option Value}, CellR C Φ v x → CellR C Φ' v x
  | none, _, h => h
  | some _, _, ⟨y, e, h⟩ => ⟨y, e, h.mono hl⟩
theorem OOk.mono {C : Cx} {Φ Φ' : PH} (hl : Le Φ Φ') {o : Obj} : ∀ {ao : AO}, OOk C Φ o ao → OOk C Φ' o ao
  | .frame _, ⟨es, ep, h1, h2, h3⟩ => ⟨es, ep, h1, h2, fun x v e => let ⟨y, a, b⟩ := h3 x v e; ⟨y, a, b.mono hl⟩⟩
  | .cell _, ⟨y, a, b⟩ => ⟨y, a, b.mono hl⟩
  | .list _, ⟨xs, n, a, b⟩ => ⟨xs, n, a, b.mono hl⟩
  | .dict _, ⟨kvs, a, b⟩ => ⟨kvs, a, b.mono hl⟩
  | .set _, h => h
  | .setL _, h => h
  | .items _, ⟨d, od, kvs, a, b, c, e, f⟩ => ⟨d, od, kvs, a, b, hl _ _ c, e, f.mono hl⟩
  | .obj _, h => h
noncomputable abbrev Led := List (Addr × AO)
structure Sat0 (C : Cx) (Φ : PH) (led : Led) (s : Shared) : Prop where
  base : ∀ a o, C.base.get? a = some o → Φ a = some o
  sub : ∀ a o, Φ a = some o → s.heap.get? a = some o
  nd : (led.map (·.1)).Nodup
  off : ∀ p ∈ led, Φ p.1 = none
  ok : ∀ p ∈ led, ∃ o, s.heap.get? p.1 = some o ∧ OOk C Φ o p.2
  gens : s.gens = #[]
  os : s.os = C.os
  sysm : (∃ a o, sysModules < a ∧ C.base.get? a = some o) ∧ sysModules ∉ led.map (·.1)
theorem Sat0.keep {C : Cx} {Φ : PH} {led : Led} {s : Shared} (S : Sat0 C Φ led s) {a : Addr} {o : Obj} (h : C.base.get? a = some o) : s.heap.get? a = some o := S.sub a o (S.base a o h)
theorem Sat0.at {C : Cx} {Φ : PH} {led : Led} {s : Shared} (S : Sat0 C Φ led s) {a : Addr} {ao : AO} (h : (a, ao) ∈ led) : ∃ o, s.heap.get? a = some o ∧ OOk C Φ o ao := S.ok _ h
theorem Sat0.ext {C : Cx} {Φ : PH} {led : Led} {s s' : Shared} (S : Sat0 C Φ led s) (hk : ∀ b o, s.heap.get? b = some o → s'.heap.get? b = some o) (hg : s'.gens = s.gens) (ho : s'.os = s.os) : Sat0 C Φ led s' :=
  ⟨S.base, fun a o e => hk a o (S.sub a o e), S.nd, S.off, fun p hp => let ⟨o, a, b⟩ := S.ok p hp; ⟨o, hk _ _ a, b⟩, hg.trans S.gens, ho.trans S.os, S.sysm⟩
theorem Sat0.toks {C : Cx} {Φ : PH} {led : Led} {s : Shared} (S : Sat0 C Φ led s) (t : Nat) : Sat0 C Φ led { s with toks := t } := S.ext (fun _ _ e => e) rfl rfl
theorem Sat0.perm {C : Cx} {Φ : PH} {led led' : Led} {s : Shared} (S : Sat0 C Φ led s) (hp : led.Perm led') : Sat0 C Φ led' s :=
  ⟨S.base, S.sub, (hp.map (·.1)).nodup_iff.mp S.nd, fun p h => S.off p (hp.mem_iff.mpr h), fun p h => S.ok p (hp.mem_iff.mpr h), S.gens, S.os, S.sysm.1, fun h => S.sysm.2 ((hp.map (·.1)).mem_iff.mpr h)⟩
theorem Sat0.drop {C : Cx} {Φ : PH} {led led' : Led} {s : Shared} (S : Sat0 C Φ led s) (hp : led'.Sublist led) : Sat0 C Φ led' s :=
  ⟨S.base, S.sub, (hp.map (·.1)).nodup S.nd, fun p h => S.off p (hp.subset h), fun p h => S.ok p (hp.subset h), S.gens, S.os, S.sysm.1, fun h => S.sysm.2 ((hp.map (·.1)).subset h)⟩
theorem Sat0.notSys {C : Cx} {Φ : PH} {led : Led} {s : Shared} (S : Sat0 C Φ led s) {a : Addr} {ao : AO} (h : (a, ao) ∈ led) : (a == sysModules) = false :=
  beq_eq_false_iff_ne.mpr fun e => S.sysm.2 (e ▸ List.mem_map_of_mem (f := (·.1)) h)
theorem Sat0.big {C : Cx} {Φ : PH} {led : Led} {s : Shared} (S : Sat0 C Φ led s) : sysModules < s.heap.objs.size :=
  let ⟨⟨_, _, h1, h2⟩, _⟩ := S.sysm
  Nat.lt_trans h1 (Heap.lt_size (S.keep h2))
theorem Sat0.size_none {C : Cx} {Φ : PH} {led : Led} {s : Shared} (S : Sat0 C Φ led s) : Φ s.heap.objs.size = none := by
  cases e : Φ s.heap.objs.size with
  | none => rfl
  | some o => exact absurd (Heap.lt_size (S.sub _ _ e)) (Nat.lt_irrefl _)
theorem Sat0.not_size {C : Cx} {Φ : PH} {led : Led} {s : Shared} (S : Sat0 C Φ led s) : s.heap.objs.size ∉ led.map (·.1) := fun hm => by
  obtain ⟨p, hp, e⟩ := List.mem_map.mp hm
  obtain ⟨o, ho, _⟩ := S.ok p hp
  rw [e] at ho
  exact absurd (Heap.lt_size ho) (Nat.lt_irrefl _)
theorem Sat0.alloc {C : Cx} {Φ : PH} {led : Led} {s : Shared} (S : Sat0 C Φ led s) {o : Obj} {ao : AO} (hf : o.isFreed = false) (ho : OOk C Φ o ao) :
    Sat0 C Φ ((s.heap.objs.size, ao) :: led) { s with heap := s.heap.push o } :=
  ⟨S.base, fun a o' e => Heap.get?_push_of_some _ (S.sub a o' e), by rw [List.map_cons]; exact List.nodup_cons.mpr ⟨S.not_size, S.nd⟩,
    fun p hp => (List.mem_cons.mp hp).elim (fun e => by rw [e]; exact S.size_none) (S.off p),
    fun p hp => (List.mem_cons.mp hp).elim (fun e => by rw [e]; exact ⟨o, Heap.get?_push_size _ hf, ho⟩) (fun h => let ⟨o', a, b⟩ := S.ok p h; ⟨o', Heap.get?_push_of_some _ a, b⟩), S.gens, S.os, S.sysm.1, by rw [List.map_cons]; exact fun h => (List.mem_cons.mp h).elim (fun e => Nat.ne_of_lt S.big e) S.sysm.2⟩
noncomputable def PH.put (Φ : PH) (a : Addr) (o : Obj) : PH := fun b => if b = a then some o else Φ b
theorem Le.put {Φ : PH} {a : Addr} (o : Obj) (h : Φ a = none) : Le Φ (Φ.put a o) := fun b o' e => by
  unfold PH.put
  by_cases hb : b = a
  · subst hb; rw [h] at e; cases e
  · rw [if_neg hb]; exact e
theorem PH.put_self (Φ : PH) (a : Addr) (o : Obj) : Φ.put a o a = some o := by simp [PH.put]
theorem Sat0.allocF {C : Cx} {Φ : PH} {led : Led} {s : Shared} (S : Sat0 C Φ led s) {o : Obj} (hf : o.isFreed = false) :
    Le Φ (Φ.put s.heap.objs.size o) ∧ Sat0 C (Φ.put s.heap.objs.size o) led { s with heap := s.heap.push o } := by
  have hl := Le.put o S.size_none
  refine ⟨hl, ⟨fun a o' e => hl _ _ (S.base a o' e), fun a o' e => ?_, S.nd, fun p hp => ?_, fun p hp => ?_, S.gens, S.os, S.sysm⟩⟩
  · unfold PH.put at e
    by_cases hb : a = s.heap.objs.size
    · subst hb; rw [if_pos rfl] at e; cases e; exact Heap.get?_push_size _ hf
    · rw [if_neg hb] at e; exact Heap.get?_push_of_some _ (S.sub a o' e)
  · unfold PH.put
    have : p.1 ≠ s.heap.objs.size := fun e => S.not_size (e ▸ List.mem_map_of_mem hp)
    rw [if_neg this]; exact S.off p hp
  · obtain ⟨o', a, b⟩ := S.ok p hp
    exact ⟨o', Heap.get?_push_of_some _ a, b.mono hl⟩
inductive Up (a : Addr) (ao ao' : AO) : Led → Led → Prop
  | head {r} : Up a ao ao' ((a, ao) :: r) ((a, ao') :: r)
  | tail {p r r'} : Up a ao ao' r r' → Up a ao ao' (p :: r) (p :: r')
theorem Up.mem {a : Addr} {ao ao' : AO} {l l' : Led} (h : Up a ao ao' l l') : (a, ao) ∈ l := by
  induction h with
  | head => exact List.mem_cons_self
  | tail _ ih => exact List.mem_cons_of_mem _ ih
theorem Up.keys {a : Addr} {ao ao' : AO} {l l' : Led} (h : Up a ao ao' l l') : l'.map (·.1) = l.map (·.1) := by
  induction h with
  | head => rfl
  | tail _ ih => rw [List.map_cons, List.map_cons, ih]
theorem Up.fresh {a : Addr} {ao ao' : AO} {l l' : Led} (h : Up a ao ao' l l') (hn : (l.map (·.1)).Nodup) : ∀ p ∈ l', p = (a, ao') ∨ (p ∈ l ∧ p.1 ≠ a) := by
  induction h with
  | head =>
    rw [List.map_cons] at hn
    intro p hp
    rcases List.mem_cons.mp hp with e | hp
    · exact .inl e
    · exact .inr ⟨List.mem_cons_of_mem _ hp, fun e => (List.nodup_cons.mp hn).1 (by show a ∈ _; rw [← e]; exact List.mem_map_of_mem (f := (·.1)) hp)⟩
  | @tail q r r' u ih =>
    rw [List.map_cons] at hn
    obtain ⟨h1, h2⟩ := List.nodup_cons.mp hn
    intro p hp
    rcases List.mem_cons.mp hp with e | hp
    · subst e; exact .inr ⟨List.mem_cons_self, fun e => h1 (by rw [e]; exact List.mem_map_of_mem u.mem)⟩
    · rcases ih h2 p hp with e | ⟨a, b⟩
      · exact .inl e
      · exact .inr ⟨List.mem_cons_of_mem _ a, b⟩
theorem Sat0.up {C : Cx} {Φ Φ' : PH} {led led' : Led} {s s' : Shared} {a : Addr} {ao ao' : AO} (S : Sat0 C Φ led s) (U : Up a ao ao' led led') (hl : Le Φ Φ')
    (hs : ∀ b o, Φ' b = some o → Φ b = none → s'.heap.get? b = some o ∧ s.heap.get? b = none)
    (hb : Heap.ExtBut a s.heap s'.heap) {o' : Obj} (ho : s'.heap.get? a = some o') (hok : OOk C Φ' o' ao') (hg : s'.gens = s.gens := by rfl) (hos : s'.os = s.os := by rfl) : Sat0 C Φ' led' s' := by
  have ne : ∀ b o, Φ b = some o → b ≠ a := fun b o e h => by have := S.off _ U.mem; rw [h] at e; rw [e] at this; cases this
  refine ⟨fun b o e => hl _ _ (S.base b o e), fun b o e => ?_, by rw [U.keys]; exact S.nd, fun p hp => ?_, fun p hp => ?_, hg.trans S.gens, hos.trans S.os, S.sysm.1, by rw [U.keys]; exact S.sysm.2⟩
  · cases q : Φ b with
    | none => exact (hs b o e q).1
    | some o₁ =>
      have e1 := hl _ _ q
      rw [e] at e1; cases e1
      exact hb b o (ne b o q) (S.sub b o q)
  · have hm : ∃ q ∈ led, q.1 = p.1 := by
      have : p.1 ∈ led.map (·.1) := by rw [← U.keys]; exact List.mem_map_of_mem hp
      obtain ⟨q, hq, e⟩ := List.mem_map.mp this
      exact ⟨q, hq, e⟩
    obtain ⟨q, hq, e⟩ := hm
    cases z : Φ' p.1 with
    | none => rfl
    | some o =>
      have h0 := S.off q hq
      rw [e] at h0
      obtain ⟨o1, h1, _⟩ := S.ok q hq
      rw [e, (hs p.1 o z h0).2] at h1; cases h1
  · rcases U.fresh S.nd p hp with e | ⟨h1, h2⟩
    · subst e; exact ⟨o', ho, hok⟩
    · obtain ⟨o, h3, h4⟩ := S.ok p h1
      exact ⟨o, hb _ _ h2 h3, h4.mono hl⟩
theorem Sat0.up1 {C : Cx} {Φ : PH} {led led' : Led} {s s' : Shared} {a : Addr} {ao ao' : AO} (S : Sat0 C Φ led s) (U : Up a ao ao' led led')
    (hb : Heap.ExtBut a s.heap s'.heap) {o' : Obj} (ho : s'.heap.get? a = some o') (hok : OOk C Φ o' ao') (hg : s'.gens = s.gens := by rfl) (hos : s'.os = s.os := by rfl) : Sat0 C Φ led' s' :=
  S.up U (Le.refl Φ) (fun _ _ e q => by rw [q] at e; cases e) hb ho hok hg hos
structure Sat (C : Cx) (Φ : PH) (led : Led) (s : Shared) : Prop extends Sat0 C Φ led s where
  tk : 0 < s.toks
theorem Sat.perm {C : Cx} {Φ : PH} {led led' : Led} {s : Shared} (S : Sat C Φ led s) (hp : led.Perm led') : Sat C Φ led' s := ⟨S.toSat0.perm hp, S.tk⟩
theorem Sat.drop {C : Cx} {Φ : PH} {led led' : Led} {s : Shared} (S : Sat C Φ led s) (hp : led'.Sublist led) : Sat C Φ led' s := ⟨S.toSat0.drop hp, S.tk⟩
theorem Sat.alloc {C : Cx} {Φ : PH} {led : Led} {s : Shared} (S : Sat C Φ led s) {o : Obj} {ao : AO} (hf : o.isFreed = false) (ho : OOk C Φ o ao) :
    Sat C Φ ((s.heap.objs.size, ao) :: led) { s with heap := s.heap.push o } := ⟨S.toSat0.alloc hf ho, S.tk⟩
theorem Sat.allocF {C : Cx} {Φ : PH} {led : Led} {s : Shared} (S : Sat C Φ led s) {o : Obj} (hf : o.isFreed = false) :
    Le Φ (Φ.put s.heap.objs.size o) ∧ Sat C (Φ.put s.heap.objs.size o) led { s with heap := s.heap.push o } := ⟨(S.toSat0.allocF hf).1, (S.toSat0.allocF hf).2, S.tk⟩
structure Room (n : Nat) (A : Around) : Prop where
  handled : A.handled = none
  depth : A.depth + 8 * n < 1000
  units : A.units + 40 * n < 9900
inductive Post (C : Cx) {α β : Type} (Φ : PH) (R : PH → β → α → Prop) (Q : β → Led → Prop) (a : α) (s' : Shared) : Prop
  | mk (Φ' : PH) (b : β) (led' : Led) (h1 : Le Φ Φ') (h2 : Sat0 C Φ' led' s') (h3 : R Φ' b a) (h4 : Q b led') : Post C Φ R Q a s'
inductive EPost (C : Cx) (Φ : PH) (X : Addr → Led → Prop) (e : Value) (s' : Shared) : Prop
  | mk (Φ' : PH) (a : Addr) (led' : Led) (h1 : Le Φ Φ') (h2 : Sat0 C Φ' led' s') (h3 : e = .ref a) (h4 : X a led') : EPost C Φ X e s'
noncomputable def W (C : Cx) (n : Nat) (X : Addr → Led → Prop) {α β : Type} (R : PH → β → α → Prop) (t : Sem α) (led : Led) (Q : β → Led → Prop) : Prop :=
  ∀ A Φ s, Room n A → Sat C Φ led s → wpAny C.M A t (Post C Φ R Q) (EPost C Φ X) s
noncomputable def W1 (C : Cx) (n : Nat) (X : Addr → Led → Prop) {α β : Type} (R : PH → β → α → Prop) (f : Value → Sem α) (v : V) (led : Led) (Q : β → Led → Prop) : Prop :=
  ∀ A Φ s x, Room n A → Sat C Φ led s → VR C Φ v x → wpAny C.M A (f x) (Post C Φ R Q) (EPost C Φ X) s
noncomputable def W2 (C : Cx) (n : Nat) (X : Addr → Led → Prop) {α β : Type} (R : PH → β → α → Prop) (f : Value → Value → Sem α) (v w : V) (led : Led) (Q : β → Led → Prop) : Prop :=
  ∀ A Φ s x y, Room n A → Sat C Φ led s → VR C Φ v x → VR C Φ w y → wpAny C.M A (f x y) (Post C Φ R Q) (EPost C Φ X) s
noncomputable def W3 (C : Cx) (n : Nat) (X : Addr → Led → Prop) {α β : Type} (R : PH → β → α → Prop) (f : Value → Value → Value → Sem α) (v w u : V) (led : Led) (Q : β → Led → Prop) : Prop :=
  ∀ A Φ s x y z, Room n A → Sat C Φ led s → VR C Φ v x → VR C Φ w y → VR C Φ u z → wpAny C.M A (f x y z) (Post C Φ R Q) (EPost C Φ X) s
noncomputable def RV (C : Cx) : PH → V → Value → Prop := fun Φ v x => VR C Φ v x
noncomputable def RU : PH → Unit → Unit → Prop := fun _ _ _ => True
noncomputable def RB : PH → Bool → Bool → Prop := fun _ b c => b = c
noncomputable def RVs (C : Cx) : PH → List V → List Value → Prop := fun Φ vs xs => VRs C Φ vs xs
theorem Post.mono {C : Cx} {α β : Type} {Φ Φ' : PH} {R : PH → β → α → Prop} {Q : β → Led → Prop} (hl : Le Φ Φ') {a : α} {s : Shared} (h : Post C Φ' R Q a s) : Post C Φ R Q a s :=
  let ⟨Φ'', b, led', h1, h2, h3, h4⟩ := h; ⟨Φ'', b, led', hl.trans h1, h2, h3, h4⟩
theorem EPost.mono {C : Cx} {Φ Φ' : PH} {X : Addr → Led → Prop} (hl : Le Φ Φ') {a : Value} {s : Shared} (h : EPost C Φ' X a s) : EPost C Φ X a s :=
  let ⟨Φ'', b, led', h1, h2, h3, h4⟩ := h; ⟨Φ'', b, led', hl.trans h1, h2, h3, h4⟩
theorem wpGo {C : Cx} {A : Around} {α β : Type} {Φ Φ' : PH} {R : PH → β → α → Prop} {Q : β → Led → Prop} {X : Addr → Led → Prop} {t : Sem α} {s : Shared} (hl : Le Φ Φ')
    (h : wpAny C.M A t (Post C Φ' R Q) (EPost C Φ' X) s) : wpAny C.M A t (Post C Φ R Q) (EPost C Φ X) s := wpAny_mono h (fun _ _ h => h.mono hl) (fun _ _ h => h.mono hl)
theorem wpThen {C : Cx} {A : Around} {α β : Type} {Φ : PH} {R : PH → β → α → Prop} {Q : β → Led → Prop} {X : Addr → Led → Prop} {t : Sem α} {s : Shared} {P : α → Shared → Prop} {E : Value → Shared → Prop} (ht : 0 < s.toks)
    (h : wpAny C.M A t (Post C Φ R Q) (EPost C Φ X) s)
    (hf : ∀ a Φ' b led' s', Le Φ Φ' → Sat C Φ' led' s' → R Φ' b a → Q b led' → P a s') (he : ∀ e s, EPost C Φ X e s → E e s) : wpAny C.M A t P E s :=
  wpAny_mono (wpAny_toks h) (fun a s' ⟨⟨Φ', b, led', h1, h2, h3, h4⟩, hk⟩ => hf a Φ' b led' s' h1 ⟨h2, Nat.lt_of_lt_of_le ht hk⟩ h3 h4) fun e s' h => he e s' h.1
theorem wpSeq {C : Cx} {A : Around} {α β γ δ : Type} {Φ : PH} {R : PH → β → α → Prop} {R' : PH → δ → γ → Prop} {Q : β → Led → Prop} {Q' : δ → Led → Prop} {X : Addr → Led → Prop} {t : Sem α} {f : α → Sem γ} {s : Shared} (ht : 0 < s.toks)
    (h : wpAny C.M A t (Post C Φ R Q) (EPost C Φ X) s)
    (hf : ∀ a Φ' b led' s', Le Φ Φ' → Sat C Φ' led' s' → R Φ' b a → Q b led' → wpAny C.M A (f a) (Post C Φ' R' Q') (EPost C Φ' X) s') :
    wpAny C.M A (t >>= f) (Post C Φ R' Q') (EPost C Φ X) s :=
  wpAny_bind (wpThen ht h (fun a Φ' b led' s' h1 h2 h3 h4 => wpGo h1 (hf a Φ' b led' s' h1 h2 h3 h4)) fun _ _ h => h)
theorem post {C : Cx} {α β : Type} {Φ : PH} {R : PH → β → α → Prop} {Q : β → Led → Prop} {a : α} {b : β} {led : Led} {s : Shared} (S : Sat0 C Φ led s) (hr : R Φ b a) (hq : Q b led) : Post C Φ R Q a s := ⟨Φ, b, led, Le.refl _, S, hr, hq⟩
theorem W.drop {C : Cx} {n : Nat} {X : Addr → Led → Prop} {α β : Type} {R : PH → β → α → Prop} {t : Sem α} {led led' : Led} {Q : β → Led → Prop} (hp : led'.Sublist led) (h : W C n X R t led' Q) : W C n X R t led Q :=
  fun A Φ s hA S => h A Φ s hA (S.drop hp)
theorem W.mono {C : Cx} {n : Nat} {X : Addr → Led → Prop} {α β : Type} {R : PH → β → α → Prop} {t : Sem α} {led : Led} {Q Q' : β → Led → Prop} (h : W C n X R t led Q) (hq : ∀ b l, Q b l → Q' b l) : W C n X R t led Q' :=
  fun A Φ s hA S => wpAny_mono (h A Φ s hA S) (fun _ _ ⟨Φ', b, l, h1, h2, h3, h4⟩ => ⟨Φ', b, l, h1, h2, h3, hq b l h4⟩) fun _ _ h => h
theorem Room.in1 {n : Nat} {A : Around} (h : Room (n + 1) A) : Room n A.in1 := ⟨h.handled, by have := h.depth; show A.depth + 8 * n < 1000; walk_at "om", by have := h.units; show A.units + 1 + 40 * n < 9900; walk_at "om"⟩
theorem Room.deeper {n : Nat} {A : Around} (h : Room (n + 1) A) (env : Env) : Room n (A.deeper env) := ⟨h.handled, by have := h.depth; simp only [Around.deeper]; walk_at "om", by have := h.units; simp only [Around.deeper]; walk_at "om"⟩
end
section
variable {C : Cx} {n : Nat} {X : Addr → Led → Prop} {env : Env} {led : Led}
inductive F where
  | next | brk | cont
  | ret (v : V)
noncomputable def RF (C : Cx) : PH → F → Flow → Prop
  | _, .next, f => f = .next
  | _, .brk, f => f = .brk
  | _, .cont, f => f = .cont
  | Φ, .ret v, f => ∃ x, f = .ret x ∧ VR C Φ v x
noncomputable abbrev WE (C : Cx) (n : Nat) (X : Addr → Led → Prop) (env : Env) (e : Expr) (led : Led) (Q : V → Led → Prop) : Prop := W C n X (RV C) (eval e env) led Q
noncomputable abbrev WT (C : Cx) (n : Nat) (X : Addr → Led → Prop) (env : Env) (e : Expr) (led : Led) (Q : Bool → Led → Prop) : Prop := W C n X RB (isTrue e env (eval e env)) led Q
noncomputable abbrev WX (C : Cx) (n : Nat) (X : Addr → Led → Prop) (env : Env) (st : Stmt) (led : Led) (Q : F → Led → Prop) : Prop := W C n X (RF C) (exec st env) led Q
noncomputable abbrev WS (C : Cx) (n : Nat) (X : Addr → Led → Prop) (env : Env) (sts : List Stmt) (led : Led) (Q : F → Led → Prop) : Prop := W C n X (RF C) (execs sts env) led Q
theorem we_str {x : Str} {k p} {Q : V → Led → Prop} (h : Q (.str x) led) : WE C n X env (.Constant (.str x) k p) led Q := fun A Φ s _ S => by
  show wpAny C.M A (mkText x) _ _ s
  exact wpAny_mkText (post (S.toks _) (by simp only [RV, VR]; exact ⟨_, rfl⟩) h)
theorem we_int {i : Int} {k p} {Q : V → Led → Prop} (h : Q (.int i) led) : WE C n X env (.Constant (.int i) k p) led Q := fun A Φ s _ S => by
  show wpAny C.M A (mkInt i) _ _ s
  exact wpAny_mkInt (post (S.toks _) (by simp only [RV, VR]; exact ⟨_, rfl⟩) h)
theorem we_bool {b : Bool} {k p} {Q : V → Led → Prop} (h : Q (.bool b) led) : WE C n X env (.Constant (Const.bool b) k p) led Q := fun A Φ s _ S => by
  show wpAny C.M A (pure (Value.bool b)) _ _ s
  exact wpAny_pure (post S.toSat0 (by simp only [RV, VR]) h)
theorem we_none {k p} {Q : V → Led → Prop} (h : Q .none led) : WE C n X env (.Constant Const.none k p) led Q := fun A Φ s _ S => by
  show wpAny C.M A (pure Value.none) _ _ s
  exact wpAny_pure (post S.toSat0 (by simp only [RV, VR]) h)
theorem Sat.ns {Φ : PH} {s : Shared} (S : Sat C Φ led s) {L : Addr} {loc : List (Str × V)} (hm : (L, AO.frame loc) ∈ led) :
    ∃ m, s.heap.Ns L m ∧ ∀ x v, loc.lookup x = some v → ∃ y, m x = some y ∧ VR C Φ v y := by
  obtain ⟨o, ho, es, ep, hd, hk, hv⟩ := S.at hm
  exact ⟨nsFind es, ⟨o, es, ep, ho, hd, hk, fun _ => rfl⟩, hv⟩
theorem we_local {x : Str} {p} {loc : List (Str × V)} {v : V} {Q : V → Led → Prop} (hm : (env.locals, AO.frame loc) ∈ led) (hv : loc.lookup x = some v) (h : Q v led)
    (hk : env.scope.kind = .function := by rfl) (hl : env.kindOf x = some .local := by rfl) (hd : (x == ("__debug__" : Str)) = false := by decide) : WE C n X env (.Name x p) led Q := fun A Φ s _ S => by
  obtain ⟨m, hn, hr⟩ := S.ns hm
  obtain ⟨y, hy, hvr⟩ := hr x v hv
  exact wpAny_Name (wpAny_loadName_local hk hl hn hy (post S.toSat0 hvr h)) hd
theorem Sat.cell {Φ : PH} {s : Shared} (S : Sat C Φ led s) {c : Addr} {v : Option V} (hm : (c, AO.cell v) ∈ led) : ∃ y, s.heap.IsCell c y ∧ CellR C Φ v y := by
  obtain ⟨o, ho, y, hd, hr⟩ := S.at hm
  exact ⟨y, ⟨o, ho, hd⟩, hr⟩
theorem we_cell {x : Str} {p} {c : Addr} {v : V} {Q : V → Led → Prop} (hc : env.cells.lookup x = some c) (hm : (c, AO.cell (some v)) ∈ led) (h : Q v led)
    (hk : env.scope.kind = .function := by rfl) (hl : env.kindOf x = some .cell := by rfl) (hd : (x == ("__debug__" : Str)) = false := by decide) : WE C n X env (.Name x p) led Q := fun A Φ s _ S => by
  obtain ⟨y, hy, z, rfl, hr⟩ := S.cell hm
  exact wpAny_Name (wpAny_loadName_cell hk hl hc hy (post S.toSat0 hr h)) hd
noncomputable def Glob (C : Cx) (x : Str) (v : Value) : Prop := ∃ mg, C.base.Ns mainGlobals mg ∧ mg x = some v
noncomputable def Bltn (C : Cx) (x : Str) (v : Value) : Prop := ∃ mg mb, C.base.Ns mainGlobals mg ∧ mg x = none ∧ C.base.Ns builtinsNs mb ∧ mb x = some v
theorem we_glob {x : Str} {p} {v : Value} {Q : V → Led → Prop} (g : Glob C x v) (h : Q (.val v) led)
    (hg : env.globals = mainGlobals := by rfl) (hk : env.scope.kind = .function := by rfl) (hx : env.kindOf x = some .globalImplicit := by rfl) (hd : (x == ("__debug__" : Str)) = false := by decide) : WE C n X env (.Name x p) led Q := fun A Φ s _ S => by
  obtain ⟨mg, hn, hv⟩ := g
  exact Calls.Name_function_global hk hx (Calls.loadGlobal_global (env := env) (hg ▸ hn.keeps fun b o e => S.keep e) hv (post S.toSat0 (by simp only [RV, VR]) h)) hd
theorem we_bltn {x : Str} {p} {v : Value} {Q : V → Led → Prop} (g : Bltn C x v) (h : Q (.val v) led)
    (hg : env.globals = mainGlobals := by rfl) (hb : env.builtins = builtinsNs := by rfl) (hk : env.scope.kind = .function := by rfl) (hx : env.kindOf x = some .globalImplicit := by rfl) (hd : (x == ("__debug__" : Str)) = false := by decide) : WE C n X env (.Name x p) led Q := fun A Φ s _ S => by
  obtain ⟨mg, mb, hn, hm, hnb, hv⟩ := g
  exact Calls.Name_function_global hk hx (Calls.loadGlobal_builtin (env := env) (hg ▸ hn.keeps fun b o e => S.keep e) hm (hb ▸ hnb.keeps fun b o e => S.keep e) hv (post S.toSat0 (by simp only [RV, VR]) h)) hd
noncomputable abbrev kTru (C : Cx) (n : Nat) (X : Addr → Led → Prop) (Q : Bool → Led → Prop) : V → Led → Prop := fun v led => W1 C n X RB truthy v led Q
noncomputable abbrev kBin2 (C : Cx) (n : Nat) (X : Addr → Led → Prop) (f : Value → Value → Sem Value) (Q : V → Led → Prop) (v1 : V) : V → Led → Prop := fun v2 led2 => W2 C n X (RV C) f v1 v2 led2 Q
noncomputable abbrev kBin1 (C : Cx) (n : Nat) (X : Addr → Led → Prop) (env : Env) (r : Expr) (f : Value → Value → Sem Value) (Q : V → Led → Prop) : V → Led → Prop := fun v1 led1 => WE C n X env r led1 (kBin2 C n X f Q v1)
noncomputable abbrev kNot (Q : Bool → Led → Prop) : Bool → Led → Prop := fun b led1 => Q (!b) led1
noncomputable abbrev kAnd (C : Cx) (n : Nat) (X : Addr → Led → Prop) (env : Env) (es : List Expr) (p : Pos) (Q : Bool → Led → Prop) : Bool → Led → Prop := fun b led1 => if b then WT C n X env (.BoolOp .And es p) led1 Q else Q false led1
noncomputable abbrev kOr (C : Cx) (n : Nat) (X : Addr → Led → Prop) (env : Env) (es : List Expr) (p : Pos) (Q : Bool → Led → Prop) : Bool → Led → Prop := fun b led1 => if b then Q true led1 else WT C n X env (.BoolOp .Or es p) led1 Q
noncomputable abbrev kIfe (C : Cx) (n : Nat) (X : Addr → Led → Prop) (env : Env) (b o : Expr) (Q : V → Led → Prop) : Bool → Led → Prop := fun c led1 => if c then WE C n X env b led1 Q else WE C n X env o led1 Q
noncomputable abbrev kIf (C : Cx) (n : Nat) (X : Addr → Led → Prop) (env : Env) (b o : List Stmt) (Q : F → Led → Prop) : Bool → Led → Prop := fun c led1 => if c then WS C n X env b led1 Q else WS C n X env o led1 Q
noncomputable abbrev kRet (Q : F → Led → Prop) : V → Led → Prop := fun v led1 => Q (.ret v) led1
noncomputable abbrev kNext (Q : F → Led → Prop) : Unit → Led → Prop := fun _ led1 => Q .next led1
noncomputable abbrev kAsg (C : Cx) (n : Nat) (X : Addr → Led → Prop) (env : Env) (x : Str) (Q : F → Led → Prop) : V → Led → Prop := fun v led1 => W1 C n X RU (storeName env x) v led1 (kNext Q)
theorem we_bin {l r : Expr} {op : Operator} {p} {Q : V → Led → Prop}
    (h : WE C n X env l led (kBin1 C n X env r (binaryOp op) Q)) : WE C n X env (.BinOp l op r p) led Q := fun A Φ s hA S => by
  refine wpAny_BinOp (wpThen S.tk (h A Φ s hA S) (fun a Φ1 v1 led1 s1 h1 S1 r1 q1 => ?_) fun _ _ e => e)
  refine wpThen S1.tk (q1 A Φ1 s1 hA S1) (fun b Φ2 v2 led2 s2 h2 S2 r2 q2 => ?_) fun _ _ e => e.mono h1
  exact wpGo (h1.trans h2) (q2 A Φ2 s2 a b hA S2 (r1.mono h2) r2)
theorem wv_int {Φ : PH} {i : Int} {x : Value} (h : VR C Φ (.int i) x) : ∃ t, x = .int i t := by simpa only [VR] using h
theorem wv_str {Φ : PH} {i : Str} {x : Value} (h : VR C Φ (.str i) x) : ∃ t, x = .str i t := by simpa only [VR] using h
theorem wv_bool {Φ : PH} {b : Bool} {x : Value} (h : VR C Φ (.bool b) x) : x = .bool b := by simpa only [VR] using h
theorem wv_val {Φ : PH} {v : Value} {x : Value} (h : VR C Φ (.val v) x) : x = v := by simpa only [VR] using h
theorem wv_none {Φ : PH} {x : Value} (h : VR C Φ .none x) : x = .none := by simpa only [VR] using h
theorem vint {Φ : PH} {i : Int} {t : Tok} : VR C Φ (.int i) (.int i t) := by simp only [VR]; exact ⟨t, rfl⟩
theorem vstr {Φ : PH} {i : Str} {t : Tok} : VR C Φ (.str i) (.str i t) := by simp only [VR]; exact ⟨t, rfl⟩
theorem vbool {Φ : PH} {b : Bool} : VR C Φ (.bool b) (.bool b) := by simp only [VR]
theorem vval {Φ : PH} {v : Value} : VR C Φ (.val v) v := by simp only [VR]
theorem vnone {Φ : PH} : VR C Φ .none .none := by simp only [VR]
theorem wb_add {i j : Int} {Q : V → Led → Prop} (h : Q (.int (i + j)) led) : W2 C n X (RV C) (binaryOp .Add) (.int i) (.int j) led Q := fun A Φ s x y _ S hx hy => by
  obtain ⟨t, rfl⟩ := wv_int hx; obtain ⟨u, rfl⟩ := wv_int hy
  exact add_int (post (S.toks _) vint h)
theorem wb_mod {i j : Int} {Q : V → Led → Prop} (hj : j ≠ 0) (h : Q (.int (i.fmod j)) led) : W2 C n X (RV C) (binaryOp .Mod) (.int i) (.int j) led Q := fun A Φ s x y _ S hx hy => by
  obtain ⟨t, rfl⟩ := wv_int hx; obtain ⟨u, rfl⟩ := wv_int hy
  exact mod_int hj (post (S.toks _) vint h)
theorem wb_div {i j : Int} {Q : V → Led → Prop} (hj : j ≠ 0) (hp : Builtin.divisionGoesByPylong i j = false) (h : Q (.int (i.fdiv j)) led) : W2 C n X (RV C) (binaryOp .FloorDiv) (.int i) (.int j) led Q := fun A Φ s x y _ S hx hy => by
  obtain ⟨t, rfl⟩ := wv_int hx; obtain ⟨u, rfl⟩ := wv_int hy
  exact floordiv_int hj (post (S.toks _) vint h) (.inl hp)
theorem wb_mul {i j : Int} {Q : V → Led → Prop} (hm : IntMulOk i j) (h : Q (.int (i * j)) led) : W2 C n X (RV C) (binaryOp .Mult) (.int i) (.int j) led Q := fun A Φ s x y _ S hx hy => by
  obtain ⟨t, rfl⟩ := wv_int hx; obtain ⟨u, rfl⟩ := wv_int hy
  exact mul_int (post (S.toks _) vint h) hm
theorem wb_pow {i j : Int} {Q : V → Led → Prop} (h0 : 0 ≤ j) (h1 : j ≤ 1000000) (h2 : i.natAbs < 2 ^ 64) (h : Q (.int (i ^ j.toNat)) led) : W2 C n X (RV C) (binaryOp .Pow) (.int i) (.int j) led Q := fun A Φ s x y _ S hx hy => by
  obtain ⟨t, rfl⟩ := wv_int hx; obtain ⟨u, rfl⟩ := wv_int hy
  exact pow_int_small h0 h1 h2 (post (S.toks _) vint h)
theorem wb_cat {i j : Str} {Q : V → Led → Prop} (hz : i.length + j.length ≤ sizeLine) (h : Q (.str (i ++ j)) led) : W2 C n X (RV C) (binaryOp .Add) (.str i) (.str j) led Q := fun A Φ s x y _ S hx hy => by
  obtain ⟨t, rfl⟩ := wv_str hx; obtain ⟨u, rfl⟩ := wv_str hy
  exact add_str (fun t' tk => post (S.toks _) vstr h) hz
theorem we_cmp {l r : Expr} {op : CmpOp} {p} {Q : V → Led → Prop}
    (h : WE C n X env l led (kBin1 C n X env r (compareOp op) Q)) (hm : behindInMarks op r = false := by with_unfolding_all rfl) : WE C n X env (.Compare l [op] [r] p) led Q := fun A Φ s hA S => by
  refine wpAny_Compare1 (wpThen S.tk (h A Φ s hA S) (fun a Φ1 v1 led1 s1 h1 S1 r1 q1 => ?_) fun _ _ e => e) hm
  refine wpThen S1.tk (q1 A Φ1 s1 hA S1) (fun b Φ2 v2 led2 s2 h2 S2 r2 q2 => ?_) fun _ _ e => e.mono h1
  exact wpGo (h1.trans h2) (q2 A Φ2 s2 a b hA S2 (r1.mono h2) r2)
theorem wc_eq_str {i j : Str} {Q : V → Led → Prop} (h : Q (.bool (i == j)) led) : W2 C n X (RV C) (compareOp .Eq) (.str i) (.str j) led Q := fun A Φ s x y _ S hx hy => by
  obtain ⟨t, rfl⟩ := wv_str hx; obtain ⟨u, rfl⟩ := wv_str hy
  exact PyProof.Rows.eq_str (post S.toSat0 vbool h)
theorem wc_ne_str {i j : Str} {Q : V → Led → Prop} (h : Q (.bool (i != j)) led) : W2 C n X (RV C) (compareOp .NotEq) (.str i) (.str j) led Q := fun A Φ s x y _ S hx hy => by
  obtain ⟨t, rfl⟩ := wv_str hx; obtain ⟨u, rfl⟩ := wv_str hy
  exact PyProof.Rows.ne_str (post S.toSat0 vbool h)
theorem wc_eq_int {i j : Int} {Q : V → Led → Prop} (h : Q (.bool (i == j)) led) : W2 C n X (RV C) (compareOp .Eq) (.int i) (.int j) led Q := fun A Φ s x y _ S hx hy => by
  obtain ⟨t, rfl⟩ := wv_int hx; obtain ⟨u, rfl⟩ := wv_int hy
  exact PyProof.Rows.eq_int (post S.toSat0 vbool h)
theorem wc_lt_int {i j : Int} {Q : V → Led → Prop} (h : Q (.bool (decide (i < j))) led) : W2 C n X (RV C) (compareOp .Lt) (.int i) (.int j) led Q := fun A Φ s x y _ S hx hy => by
  obtain ⟨t, rfl⟩ := wv_int hx; obtain ⟨u, rfl⟩ := wv_int hy
  exact PyProof.Rows.lt_int (post S.toSat0 vbool h)
theorem wc_gt_int {i j : Int} {Q : V → Led → Prop} (h : Q (.bool (decide (j < i))) led) : W2 C n X (RV C) (compareOp .Gt) (.int i) (.int j) led Q := fun A Φ s x y _ S hx hy => by
  obtain ⟨t, rfl⟩ := wv_int hx; obtain ⟨u, rfl⟩ := wv_int hy
  exact PyProof.Rows.gt_int (post S.toSat0 vbool h)
theorem wc_in_str {i j : Str} {Q : V → Led → Prop} (h : Q (.bool !(Builtin.Str.occurrences j i 0 j.length 1).isEmpty) led) : W2 C n X (RV C) (compareOp .In) (.str i) (.str j) led Q := fun A Φ s x y _ S hx hy => by
  obtain ⟨t, rfl⟩ := wv_str hx; obtain ⟨u, rfl⟩ := wv_str hy
  exact PyProof.Rows.in_str (post S.toSat0 vbool h)
theorem wt_cmp {l r : Expr} {op : CmpOp} {p} {Q : Bool → Led → Prop}
    (h : WE C n X env l led (kBin1 C n X env r (compareOp op) (kTru C n X Q))) (hm : behindInMarks op r = false := by with_unfolding_all rfl) : WT C n X env (.Compare l [op] [r] p) led Q := fun A Φ s hA S => by
  refine wpAny_isTrue_Compare1 (wpThen S.tk (h A Φ s hA S) (fun a Φ1 v1 led1 s1 h1 S1 r1 q1 => ?_) fun _ _ e => e) hm
  refine wpThen S1.tk (q1 A Φ1 s1 hA S1) (fun b Φ2 v2 led2 s2 h2 S2 r2 q2 => ?_) fun _ _ e => e.mono h1
  refine wpThen S2.tk (q2 A Φ2 s2 a b hA S2 (r1.mono h2) r2) (fun c Φ3 v3 led3 s3 h3 S3 r3 q3 => ?_) fun _ _ e => e.mono (h1.trans h2)
  exact wpGo ((h1.trans h2).trans h3) (q3 A Φ3 s3 c hA S3 r3)
theorem wt_val {e : Expr} {Q : Bool → Led → Prop} (h : WE C n X env e led (kTru C n X Q))
    (he : isTrue e env (eval e env) = (do let v ← eval e env; standAt e.pos; holding [v] (truthy v)) := by rfl) : WT C n X env e led Q := fun A Φ s hA S => by
  refine wpAny_isTrue_value (wpThen S.tk (h A Φ s hA S) (fun a Φ1 v1 led1 s1 h1 S1 r1 q1 => ?_) fun _ _ e => e) he
  exact wpGo h1 (q1 A Φ1 s1 a hA S1 r1)
theorem wt_not {e : Expr} {p} {Q : Bool → Led → Prop} (h : WT C n X env e led (kNot Q)) : WT C n X env (.UnaryOp .Not e p) led Q := fun A Φ s hA S => by
  refine wpAny_isTrue_Not (wpThen S.tk (h A Φ s hA S) (fun a Φ1 b led1 s1 h1 S1 r1 q1 => ?_) fun _ _ e => e)
  cases r1
  exact ⟨Φ1, _, led1, h1, S1.toSat0, rfl, q1⟩
theorem wt_and_nil {p} {Q : Bool → Led → Prop} (h : Q true led) : WT C n X env (.BoolOp .And [] p) led Q := fun A Φ s hA S => wpAny_isTrue_BoolOp (wpAny_pure (post S.toSat0 rfl h))
theorem wt_or_nil {p} {Q : Bool → Led → Prop} (h : Q false led) : WT C n X env (.BoolOp .Or [] p) led Q := fun A Φ s hA S => wpAny_isTrue_BoolOp (wpAny_pure (post S.toSat0 rfl h))
theorem wt_and {e : Expr} {es : List Expr} {p} {Q : Bool → Led → Prop} (h : WT C n X env e led (kAnd C n X env es p Q)) : WT C n X env (.BoolOp .And (e :: es) p) led Q := fun A Φ s hA S => by
  refine wpAny_isTrue_BoolOp ?_
  show wpAny C.M A (do match BoolOp.And, ← isTrue e env (eval e env) with | .And, false => pure false | .Or, true => pure true | _, _ => allTrue .And es env) _ _ s
  refine wpSeq S.tk (h A Φ s hA S) (fun a Φ1 b led1 s1 h1 S1 r1 q1 => ?_)
  cases r1
  cases a with
  | false => exact wpAny_pure (post S1.toSat0 rfl q1)
  | true => exact q1 A Φ1 s1 hA S1
theorem wt_or {e : Expr} {es : List Expr} {p} {Q : Bool → Led → Prop} (h : WT C n X env e led (kOr C n X env es p Q)) : WT C n X env (.BoolOp .Or (e :: es) p) led Q := fun A Φ s hA S => by
  refine wpAny_isTrue_BoolOp ?_
  show wpAny C.M A (do match BoolOp.Or, ← isTrue e env (eval e env) with | .And, false => pure false | .Or, true => pure true | _, _ => allTrue .Or es env) _ _ s
  refine wpSeq S.tk (h A Φ s hA S) (fun a Φ1 b led1 s1 h1 S1 r1 q1 => ?_)
  cases r1
  cases a with
  | true => exact wpAny_pure (post S1.toSat0 rfl q1)
  | false => exact q1 A Φ1 s1 hA S1
theorem tr_bool {b : Bool} {Q : Bool → Led → Prop} (h : Q b led) : W1 C n X RB truthy (.bool b) led Q := fun A Φ s x _ S hx => by
  cases wv_bool hx; exact wpAny_truthy_bool (post S.toSat0 rfl h)
theorem we_ife {t b o : Expr} {p} {Q : V → Led → Prop} (h : WT C n X env t led (kIfe C n X env b o Q)) : WE C n X env (.IfExp t b o p) led Q := fun A Φ s hA S => by
  refine wpAny_IfExp (wpThen S.tk (h A Φ s hA S) (fun a Φ1 c led1 s1 h1 S1 r1 q1 => ?_) fun _ _ e => e)
  cases r1
  cases a with
  | true => exact wpGo h1 (q1 A Φ1 s1 hA S1)
  | false => exact wpGo h1 (q1 A Φ1 s1 hA S1)
theorem ws_nil {Q : F → Led → Prop} (h : Q .next led) : WS C n X env [] led Q := fun A Φ s hA S => wpAny_execs_nil (post (R := RF C) (b := F.next) S.toSat0 rfl h)
theorem ws_cons {st : Stmt} {sts : List Stmt} {Q : F → Led → Prop} (h : WX C n X env st led fun f led1 => match f with | .next => WS C n X env sts led1 Q | f => Q f led1) : WS C n X env (st :: sts) led Q := fun A Φ s hA S => by
  rw [execs_cons]
  refine wpSeq S.tk (h A Φ s hA S) (fun a Φ1 f led1 s1 h1 S1 r1 q1 => ?_)
  cases f with
  | next => cases r1; exact q1 A Φ1 s1 hA S1
  | brk => cases r1; exact wpAny_pure (post (R := RF C) (b := F.brk) S1.toSat0 rfl q1)
  | cont => cases r1; exact wpAny_pure (post (R := RF C) (b := F.cont) S1.toSat0 rfl q1)
  | ret v => obtain ⟨x, rfl, hx⟩ := r1; exact wpAny_pure (post (R := RF C) (b := F.ret v) S1.toSat0 ⟨x, rfl, hx⟩ q1)
theorem wx_if {t : Expr} {b o : List Stmt} {p} {Q : F → Led → Prop} (h : WT C n X env t led (kIf C n X env b o Q)) : WX C n X env (.If t b o p) led Q := fun A Φ s hA S => by
  refine wpAny_If (wpThen S.tk (h A Φ s hA S) (fun a Φ1 c led1 s1 h1 S1 r1 q1 => ?_) fun _ _ e => e)
  cases r1
  cases a with
  | true => exact wpGo h1 (q1 A Φ1 s1 hA S1)
  | false => exact wpGo h1 (q1 A Φ1 s1 hA S1)
theorem wx_ret {e : Expr} {p} {Q : F → Led → Prop} (h : WE C n X env e led (kRet Q)) : WX C n X env (.Return (some e) p) led Q := fun A Φ s hA S =>
  wpAny_Return_some (wpThen S.tk (h A Φ s hA S) (fun a Φ1 v led1 s1 h1 S1 r1 q1 => ⟨Φ1, .ret v, led1, h1, S1.toSat0, ⟨a, rfl, r1⟩, q1⟩) fun _ _ e => e)
noncomputable def setLoc (loc : List (Str × V)) (x : Str) (v : V) : List (Str × V) := (x, v) :: loc.filter (fun p => p.1 != x)
theorem lookup_filter_ne {α : Type} {x y : Str} (h : (y == x) = false) : ∀ l : List (Str × α), (l.filter (fun p => p.1 != x)).lookup y = l.lookup y
  | [] => rfl
  | (k, v) :: r => by
    rw [List.filter_cons]
    by_cases hk : k = x
    · subst hk
      simp only [bne_self_eq_false, Bool.false_eq_true, if_false]
      rw [List.lookup_cons, h, lookup_filter_ne h r]
    · have : (k != x) = true := by simp [hk]
      rw [if_pos this, List.lookup_cons, List.lookup_cons, lookup_filter_ne h r]
theorem lookup_setLoc {loc : List (Str × V)} {x y : Str} {v w : V} (h : (setLoc loc x v).lookup y = some w) : (y = x ∧ w = v) ∨ (y ≠ x ∧ loc.lookup y = some w) := by
  unfold setLoc at h
  rw [List.lookup_cons] at h
  cases hy : y == x with
  | true => rw [hy] at h; cases h; exact .inl ⟨beq_iff_eq.mp hy, rfl⟩
  | false => rw [hy, lookup_filter_ne hy] at h; exact .inr ⟨beq_eq_false_iff_ne.mp hy, h⟩
theorem wn_local {x : Str} {v : V} {loc : List (Str × V)} {led' : Led} {Q : Unit → Led → Prop} (U : Up env.locals (.frame loc) (.frame (setLoc loc x v)) led led') (h : Q () led')
    (hl : env.kindOf x = some .local := by rfl) (hp : (env.scope.kind == .class || (env.scope.kind == .module && env.locals != env.globals)) = false := by rfl) : W1 C n X RU (storeName env x) v led Q := fun A Φ s y _ S hy => by
  obtain ⟨m, hn, hr⟩ := S.ns U.mem
  refine wpAny_storeName_local hl hn (fun h' hn' hs => ?_) hp
  obtain ⟨o, es, ep, ho, hd, hk, hf⟩ := hn'
  refine post (S.up1 U (s' := { s with heap := h', toks := s.toks + 1 }) hs.extBut ho ⟨es, ep, hd, hk, fun z w hz => ?_⟩) trivial h
  rcases lookup_setLoc hz with ⟨rfl, rfl⟩ | ⟨hne, hz⟩
  · exact ⟨y, by rw [hf]; exact if_pos rfl, hy⟩
  · obtain ⟨u, hu, hv⟩ := hr z w hz
    exact ⟨u, by rw [hf]; exact (if_neg hne).trans hu, hv⟩
theorem wn_cell {x : Str} {v : V} {c : Addr} {v₀ : Option V} {led' : Led} {Q : Unit → Led → Prop} (hc : env.cells.lookup x = some c) (U : Up c (.cell v₀) (.cell (some v)) led led') (h : Q () led')
    (hk : env.scope.kind = .function := by rfl) (hl : env.kindOf x = some .cell := by rfl) : W1 C n X RU (storeName env x) v led Q := fun A Φ s y _ S hy => by
  obtain ⟨y0, hy0, hr⟩ := S.cell U.mem
  refine wpAny_storeName_cell hk hl hc hy0 (fun h' hn' hs => ?_)
  obtain ⟨o, ho, hd⟩ := hn'
  exact post (S.up1 U (s' := { s with heap := h' }) hs.extBut ho ⟨some y, hd, y, rfl, hy⟩) trivial h
theorem wx_assign {x : Str} {p' p} {value : Expr} {Q : F → Led → Prop} (h : WE C n X env value led (kAsg C n X env x Q))
    (hs : swapsWith value (some (.Name x p')) p.line env = pure false := by kernel_rfl) : WX C n X env (.Assign [.Name x p'] value p) led Q := fun A Φ s hA S => by
  refine wpAny_Assign_Name (wpThen S.tk (h A Φ s hA S) (fun a Φ1 v led1 s1 h1 S1 r1 q1 => ?_) fun _ _ e => e) hs
  exact wpThen S1.tk (q1 A Φ1 s1 a hA S1 r1) (fun _ Φ2 _ led2 s2 h2 S2 _ q2 => ⟨Φ2, .next, led2, h1.trans h2, S2.toSat0, rfl, q2⟩) fun _ _ e => e.mono h1
end
section
variable {C : Cx} {n : Nat} {X : Addr → Led → Prop} {env : Env} {led : Led}
theorem callWith_any {M : Model} {A : Around} {E : Value → Shared → Prop} {s : Shared} {f : Value} {first : List Value} {pos : Pos} {Q : Value → Shared → Prop} {args : List (Bool × Sem Value)} {kws : List (Option Str × Sem Value)}
    (h : wpAny M A (evalArgs f true args kws) (fun a s₁ => (∃ k, Looks M s₁.heap (keeperOf f) k) ∧ wpAny M A (call f (first ++ a.pos) a.kw) Q E s₁) E s) : wpAny M A (callWith pos f first args kws) Q E s := by
  unfold callWith
  refine wpAny_bind (wpAny_holding (wpAny_mono h (fun a s₁ h₁ => wpAny_bind (wpAny_standAt ?_)) fun _ _ x => x))
  obtain ⟨⟨k, L⟩, h₁⟩ := h₁
  have tail : ∀ {t : Sem Value}, wpAny M A t Q E s₁ → wpAny M A (t >>= fun r => holding [r] point >>= fun _ => pure r) Q E s₁ :=
    fun ht => wpAny_bind (wpAny_mono ht (fun r s₂ hr => wpAny_bind (wpAny_holding (wpAny_point (wpAny_pure hr)))) fun _ _ x => x)
  have marked (mk : Value) : wpAny M A (callMarked mk f (first ++ a.pos) a.kw) Q E s₁ := by unfold callMarked; exact Calls.wpAny_keep h₁
  refine wpAny_bind (L A _ _ s₁ (fun _ _ e => e) ?_)
  cases hs : (args.any (·.1) || kws.any (·.1.isNone)) <;> cases k <;> dsimp only <;>
    first
      | exact tail (marked _)
      | exact tail h₁
      | exact tail (wpAny_operating h₁)
      | (split <;> first | exact tail h₁ | exact tail (marked _))
noncomputable abbrev Kw := List (Str × V)
noncomputable def WC (C : Cx) (n : Nat) (X : Addr → Led → Prop) (f : V) (pos : List V) (kw : Kw) (led : Led) (Q : V → Led → Prop) : Prop :=
  ∀ A Φ s fx xs ks, Room n A → Sat C Φ led s → VR C Φ f fx → VRs C Φ pos xs → VEs C Φ kw ks → wpAny C.M A (call fx xs ks) (Post C Φ (RV C) Q) (EPost C Φ X) s
noncomputable def Kept (C : Cx) (f : V) (led : Led) : Prop := ∀ Φ s fx, Sat C Φ led s → VR C Φ f fx → ∃ k, Looks C.M s.heap (keeperOf fx) k
theorem kept_builtin {id : String} : Kept C (.val (.builtin id)) led := fun _ _ _ _ h => by
  rw [wv_val h]; exact ⟨.machine, Looks.of_pure rfl⟩
theorem kept_type {id : String} : Kept C (.val (.type id)) led := fun _ _ _ _ h => by
  rw [wv_val h]; exact ⟨.machine, Looks.of_pure rfl⟩
theorem looks_fn {M : Model} {h : Heap} {a : Addr} {o : Obj} {fd : FuncData} (ho : h.get? a = some o) (hd : o.data = .func fd) : Looks M h (keeperOf (.ref a)) .frame := fun A Q E s hk q => by
  unfold keeperOf
  refine wpAny_bind (wpAny_load (hk _ _ ho) ?_)
  rw [hd]; exact wpAny_pure q
theorem kept_base {a : Addr} {o : Obj} {fd : FuncData} (ho : C.base.get? a = some o) (hd : o.data = .func fd) : Kept C (.ref a) led := fun _ _ _ S h => by
  rw [wv_val h]; exact ⟨.frame, looks_fn (S.keep ho) hd⟩
theorem kept_fn {a : Addr} {o : Obj} {fd : FuncData} (ho : (a, AO.obj o) ∈ led) (hd : o.data = .func fd) : Kept C (.ref a) led := fun _ _ _ S h => by
  rw [wv_val h]
  obtain ⟨o', h1, rfl, _⟩ := S.at ho
  exact ⟨.frame, looks_fn h1 hd⟩
noncomputable abbrev WA (C : Cx) (n : Nat) (X : Addr → Led → Prop) (env : Env) (pos : Pos) (args : List Expr) (led : Led) (Q : List V → Led → Prop) : Prop := W C n X (RVs C) (spliced (backTo pos (starEach args env))) led Q
noncomputable abbrev WAll (C : Cx) (n : Nat) (X : Addr → Led → Prop) (ts : List (Sem Value)) (led : Led) (Q : List V → Led → Prop) : Prop := W C n X (RVs C) (evalAll ts) led Q
theorem wall_nil {Q : List V → Led → Prop} (h : Q [] led) : WAll C n X [] led Q := fun A Φ s _ S => wpAny_evalAll_nil (post (R := RVs C) (b := []) S.toSat0 VRs.nil h)
noncomputable abbrev kCons (v : V) (Q : List V → Led → Prop) : List V → Led → Prop := fun vs led => Q (v :: vs) led
noncomputable abbrev kAll (C : Cx) (n : Nat) (X : Addr → Led → Prop) (ts : List (Sem Value)) (Q : List V → Led → Prop) : V → Led → Prop := fun v led1 => WAll C n X ts led1 (kCons v Q)
noncomputable abbrev kArg (C : Cx) (n : Nat) (X : Addr → Led → Prop) (env : Env) (pos : Pos) (es : List Expr) (Q : List V → Led → Prop) : V → Led → Prop := fun v led1 => WA C n X env pos es led1 (kCons v Q)
theorem wall_cons {t : Sem Value} {ts : List (Sem Value)} {Q : List V → Led → Prop} (h : W C n X (RV C) t led (kAll C n X ts Q)) : WAll C n X (t :: ts) led Q := fun A Φ s hA S => by
  refine wpAny_evalAll_cons (wpThen S.tk (h A Φ s hA S) (fun a Φ1 v led1 s1 h1 S1 r1 q1 => ?_) fun _ _ e => e)
  exact wpThen S1.tk (q1 A Φ1 s1 hA S1) (fun as Φ2 vs led2 s2 h2 S2 r2 q2 => ⟨Φ2, v :: vs, led2, h1.trans h2, S2.toSat0, VRs.cons (r1.mono h2) r2, q2⟩) fun _ _ e => e.mono h1
theorem wspl_nil {Q : List V → Led → Prop} (h : Q [] led) : W C n X (RVs C) (spliced []) led Q := fun A Φ s _ S => Calls.spliced_nil (post (R := RVs C) (b := []) S.toSat0 VRs.nil h)
theorem wspl_cons {t : Sem Value} {ts : List (Bool × Sem Value)} {Q : List V → Led → Prop} (h : W C n X (RV C) t led fun v led1 => W C n X (RVs C) (spliced ts) led1 fun vs led2 => Q (v :: vs) led2) : W C n X (RVs C) (spliced ((false, t) :: ts)) led Q := fun A Φ s hA S => by
  refine Calls.spliced_cons (wpThen S.tk (h A Φ s hA S) (fun a Φ1 v led1 s1 h1 S1 r1 q1 => ?_) fun _ _ e => e)
  exact wpThen S1.tk (q1 A Φ1 s1 hA S1) (fun as Φ2 vs led2 s2 h2 S2 r2 q2 => ⟨Φ2, v :: vs, led2, h1.trans h2, S2.toSat0, VRs.cons (r1.mono h2) r2, q2⟩) fun _ _ e => e.mono h1
theorem wa_nil {pos : Pos} {Q : List V → Led → Prop} (h : Q [] led) : WA C n X env pos [] led Q := wspl_nil h
noncomputable def loneS : List (Bool × Sem Value) → Bool
  | [(true, _)] => true
  | _ => false
theorem lone_of {l : List (Bool × Sem Value)} (h : loneS l = false) : ∀ x, l ≠ [(true, x)] := fun x e => by rw [e] at h; cases h
theorem wa_cons {pos : Pos} {e : Expr} {es : List Expr} {Q : List V → Led → Prop} (h : WE C n X env e led (kArg C n X env pos es Q))
    (he : starEach (e :: es) env = (false, eval e env) :: starEach es env := by rfl) : WA C n X env pos (e :: es) led Q := by
  show W C n X (RVs C) (spliced (backTo pos (starEach (e :: es) env))) led Q
  rw [he]; exact wspl_cons h
noncomputable abbrev kwTrees (pos : Pos) (kws : List Keyword) (env : Env) : List (Sem Value) := (backToKw pos (keywordEach kws env)).map (·.2)
noncomputable def kwNames (pos : Pos) (kws : List Keyword) (env : Env) : List Str := (backToKw pos (keywordEach kws env)).filterMap (·.1)
theorem ves_zip {Φ : PH} : ∀ {ns : List Str} {vs : List V} {xs : List Value}, VRs C Φ vs xs → VEs C Φ (ns.zip vs) (ns.zip xs)
  | [], _, _, _ => by simp only [List.zip_nil_left, VEs]
  | _ :: _, [], xs, h => by simp only [VRs] at h; rw [h]; simp only [List.zip_nil_right, VEs]
  | k :: ns, v :: vs, xs, h => by
    simp only [VRs] at h
    obtain ⟨y, ys, rfl, h1, h2⟩ := h
    simp only [List.zip_cons_cons, VEs]
    exact ⟨y, _, rfl, h1, ves_zip h2⟩
theorem wEvalArgs {A : Around} {Φ : PH} {s : Shared} {f : Value} {pos : Pos} {args : List Expr} {kws : List Keyword} {P : Args → Shared → Prop} {E : Value → Shared → Prop} {Q : List V → Kw → Led → Prop}
    (hA : Room n A) (S : Sat C Φ led s)
    (h : WA C n X env pos args led fun vs led1 => WAll C n X (kwTrees pos kws env) led1 fun ks led2 => Q vs ((kwNames pos kws env).zip ks) led2)
    (hall : (backToKw pos (keywordEach kws env)).all (·.1.isSome) = true) (hlone : ∀ x, backTo pos (starEach args env) ≠ [(true, x)])
    (hp : ∀ Φ' vs ks led' s' xs ys, Le Φ Φ' → Sat C Φ' led' s' → VRs C Φ' vs xs → VEs C Φ' ks ys → Q vs ks led' → P ⟨xs, ys⟩ s') (he : ∀ e s, EPost C Φ X e s → E e s) :
    wpAny C.M A (evalArgs f true (backTo pos (starEach args env)) (backToKw pos (keywordEach kws env))) P E s := by
  have key : wpAny C.M A (spliced (backTo pos (starEach args env))) (fun vs s₁ => wpAny C.M A (evalAll ((backToKw pos (keywordEach kws env)).map (·.2))) (fun ks s₂ => P ⟨vs, ((backToKw pos (keywordEach kws env)).filterMap (·.1)).zip ks⟩ s₂) E s₁) E s := by
    refine wpThen S.tk (h A Φ s hA S) (fun xs Φ1 vs led1 s1 h1 S1 r1 q1 => ?_) he
    refine wpThen S1.tk (q1 A Φ1 s1 hA S1) (fun ys Φ2 ks led2 s2 h2 S2 r2 q2 => ?_) fun e s h => he e s (h.mono h1)
    exact hp Φ2 vs _ led2 s2 xs _ (h1.trans h2) S2 (r1.mono h2) (ves_zip r2) q2
  generalize backTo pos (starEach args env) = trees at *
  generalize backToKw pos (keywordEach kws env) = kt at *
  have fin : wpAny C.M A (spliced trees >>= fun l => pure (l, (none : Option Value)) >>= fun (x : List Value × Option Value) => holding (x.1 ++ x.2.toList) (do
      let kw := (kt.filterMap (·.1)).zip (← evalAll (kt.map (·.2)))
      pure ⟨← pure x.1, kw⟩)) P E s := by
    refine wpAny_bind (wpAny_mono key (fun vs s₁ h₁ => ?_) fun _ _ x => x)
    refine wpAny_bind (wpAny_pure (wpAny_holding ?_))
    refine wpAny_bind (wpAny_mono h₁ (fun ks s₂ h₂ => ?_) fun _ _ x => x)
    exact wpAny_bind (wpAny_pure (wpAny_pure h₂))
  unfold evalArgs
  simp only [hall, if_true]
  cases trees with
  | nil => exact fin
  | cons p r =>
    obtain ⟨b, t⟩ := p
    cases b with
    | false => exact fin
    | true =>
      cases r with
      | nil => exact absurd rfl (hlone t)
      | cons q r => exact fin
noncomputable abbrev kCall3 (C : Cx) (n : Nat) (X : Addr → Led → Prop) (f : V) (ns : List Str) (Q : V → Led → Prop) (vs : List V) : List V → Led → Prop := fun ks led2 => Kept C f led2 ∧ WC C n X f vs (ns.zip ks) led2 Q
noncomputable abbrev kCall2 (C : Cx) (n : Nat) (X : Addr → Led → Prop) (env : Env) (pos : Pos) (kws : List Keyword) (f : V) (Q : V → Led → Prop) : List V → Led → Prop := fun vs led1 => WAll C n X (kwTrees pos kws env) led1 (kCall3 C n X f (kwNames pos kws env) Q vs)
noncomputable abbrev kCall1 (C : Cx) (n : Nat) (X : Addr → Led → Prop) (env : Env) (pos : Pos) (args : List Expr) (kws : List Keyword) (Q : V → Led → Prop) : V → Led → Prop := fun f led0 => WA C n X env pos args led0 (kCall2 C n X env pos kws f Q)
theorem we_call {func : Expr} {args : List Expr} {kws : List Keyword} {pos : Pos} {Q : V → Led → Prop}
    (h : WE C n X env func led (kCall1 C n X env pos args kws Q))
    (hc : eval (.Call func args kws pos) env = (do callWith pos (← eval func env) [] (backTo pos (starEach args env)) (backToKw pos (keywordEach kws env))) := by rfl)
    (hall : (backToKw pos (keywordEach kws env)).all (·.1.isSome) = true := by rfl) (hlone : loneS (backTo pos (starEach args env)) = false := by rfl) : WE C n X env (.Call func args kws pos) led Q := fun A Φ s hA S => by
  rw [hc]
  refine wpSeq S.tk (h A Φ s hA S) (fun f Φ0 fv led0 s0 h0 S0 r0 q0 => ?_)
  refine callWith_any (wEvalArgs (Q := fun vs ks led' => Kept C fv led' ∧ WC C n X fv vs ks led' Q) hA S0 q0 hall (lone_of hlone) (fun Φ' vs ks led' s' xs ys h1 S1 r1 k1 q1 => ?_) fun _ _ e => e)
  obtain ⟨k, hk⟩ := q1.1 Φ' s' f S1 (r0.mono h1)
  exact ⟨⟨k, hk⟩, wpGo h1 (q1.2 A Φ' s' f xs ys hA S1 (r0.mono h1) r1 k1)⟩
noncomputable def RM (C : Cx) : PH → V × List V → Value × List Value → Prop := fun Φ v x => VR C Φ v.1 x.1 ∧ VRs C Φ v.2 x.2
noncomputable abbrev WM (C : Cx) (n : Nat) (X : Addr → Led → Prop) (name : Str) (v : V) (led : Led) (Q : V × List V → Led → Prop) : Prop := ∀ pl, W1 C n X (RM C) (fun x => getMethod x name pl) v led Q
noncomputable abbrev kM3 (C : Cx) (n : Nat) (X : Addr → Led → Prop) (env : Env) (pos : Pos) (kws : List Keyword) (f : V × List V) (Q : V → Led → Prop) : List V → Led → Prop := fun vs led1 => WAll C n X (kwTrees pos kws env) led1 (kCall3 C n X f.1 (kwNames pos kws env) Q (f.2 ++ vs))
noncomputable abbrev kM2 (C : Cx) (n : Nat) (X : Addr → Led → Prop) (env : Env) (pos : Pos) (args : List Expr) (kws : List Keyword) (Q : V → Led → Prop) : V × List V → Led → Prop := fun f led0 => WA C n X env pos args led0 (kM3 C n X env pos kws f Q)
noncomputable abbrev kM1 (C : Cx) (n : Nat) (X : Addr → Led → Prop) (env : Env) (name : Str) (pos : Pos) (args : List Expr) (kws : List Keyword) (Q : V → Led → Prop) : V → Led → Prop := fun v led0 => WM C n X name v led0 (kM2 C n X env pos args kws Q)
theorem we_mcall {o : Expr} {name : Str} {apos pos : Pos} {args : List Expr} {kws : List Keyword} {Q : V → Led → Prop}
    (h : WE C n X env o led (kM1 C n X env name pos args kws Q))
    (hbase : attributeBase o name env (eval o env) = eval o env := by rfl) (hline : (apos.endLine == pos.line) = true := by rfl)
    (hform : methodCallForm (args.length + kws.length) (backTo pos (starEach args env)) (backToKw pos (keywordEach kws env)) = true := by rfl)
    (hall : (backToKw pos (keywordEach kws env)).all (·.1.isSome) = true := by rfl) (hlone : loneS (backTo pos (starEach args env)) = false := by rfl) : WE C n X env (.Call (.Attribute o name apos) args kws pos) led Q := fun A Φ s hA S => by
  rw [arm_eval_Call, hbase]
  refine wpSeq S.tk (h A Φ s hA S) (fun ov Φ0 v led0 s0 h0 S0 r0 q0 => ?_)
  refine wpAny_bind (wpAny_standAt ?_)
  unfold methodCall
  rw [hform]
  have hpos : methodCallPos true o env apos pos = pure pos := by unfold methodCallPos; simp [hline]
  refine wpSeq (t := holding [ov] (calleeOf true o env ov name)) (R := RM C) S0.tk (wpAny_holding (q0 _ A Φ0 s0 ov hA S0 r0)) (fun f Φ1 fv led1 s1 h1 S1 r1 q1 => ?_)
  rw [hpos]
  refine wpAny_bind (wpAny_pure ?_)
  refine callWith_any (wEvalArgs (Q := fun vs ks led' => Kept C fv.1 led' ∧ WC C n X fv.1 (fv.2 ++ vs) ks led' Q) hA S1 q1 hall (lone_of hlone) (fun Φ' vs ks led' s' xs ys h2 S2 r2 k2 q2 => ?_) fun _ _ e => e)
  obtain ⟨k, hk⟩ := q2.1 Φ' s' f.1 S2 (r1.1.mono h2)
  exact ⟨⟨k, hk⟩, wpGo h2 (q2.2 A Φ' s' f.1 _ ys hA S2 (r1.1.mono h2) (VRs.append (r1.2.mono h2) r2) k2)⟩
theorem wm_builtin {name : Str} {v : V} {T id : String} {Q : V × List V → Led → Prop} (hT : ∀ Φ s x, Sat C Φ led s → VR C Φ v x → s.TypeIs x T ∧ ∀ a, x = .ref a → ∃ o, s.heap.get? a = some o ∧ o.dict = none)
    (pa : PlainAttrs T) (slot : Slot T name id) (hty : typeOf (.builtin id) = pure (.type "method_descriptor")) (h : Q (.val (.builtin id), [v]) led) : WM C n X name v led Q := fun pl A Φ s x hA S hx =>
  getMethod_builtin (hT Φ s x S hx).1 pa slot hty (hT Φ s x S hx).2 (post (R := RM C) S.toSat0 ⟨vval, VRs.cons hx VRs.nil⟩ h)
end
section
variable {C : Cx} {n : Nat} {X : Addr → Led → Prop} {env : Env} {led : Led}
noncomputable def NoX : Addr → Led → Prop := fun _ _ => False
theorem EPost.no {Φ : PH} {e : Value} {s : Shared} (h : EPost C Φ NoX e s) : False := let ⟨_, _, _, _, _, _, h⟩ := h; h
noncomputable def WCells : List (Str × NameKind) → List (Str × Addr) → Led → (List (Str × Addr) → Led → Prop) → Prop
  | [], cells, led, K => K cells led
  | (nm, kind) :: r, cells, led, K => match kind == .cell with
    | true => ∀ c, WCells r ((nm, c) :: cells) ((c, .cell none) :: led) K
    | false => WCells r cells led K
theorem wp_layCells {A : Around} {E : Value → Shared → Prop} {Φ : PH} (f : Str × NameKind → List (Str × Addr) → Sem (ForInStep (List (Str × Addr))))
    (hf : ∀ name kind cells, f (name, kind) cells = if kind == .cell then (do let a ← alloc { cls := .type "cell", data := .cell none }; pure (.yield ((name, a) :: cells))) else pure (.yield cells)) :
    ∀ (names : List (Str × NameKind)) (acc : List (Str × Addr)) (s : Shared) (led : Led) (K : List (Str × Addr) → Led → Prop) (Q : List (Str × Addr) → Shared → Prop), Sat C Φ led s → WCells names acc led K →
      (∀ cells led' s', Sat C Φ led' s' → K cells led' → Q cells s') → wpAny C.M A (forIn names acc f) Q E s
  | [], acc, s, led, K, Q, S, h, hq => by rw [List.forIn_nil]; exact wpAny_pure (hq _ _ _ S h)
  | (name, kind) :: r, acc, s, led, K, Q, S, h, hq => by
    rw [List.forIn_cons, hf]
    unfold WCells at h
    cases hk : kind == NameKind.cell with
    | true =>
      rw [hk] at h
      simp only [if_true]
      refine wpAny_bind (wpAny_bind (wpAny_alloc (wpAny_pure ?_)))
      exact wp_layCells f hf r _ _ _ K Q (S.alloc (ao := .cell none) rfl ⟨none, rfl, rfl⟩) (h _) hq
    | false =>
      rw [hk] at h
      simp only [Bool.false_eq_true, if_false]
      exact wpAny_bind (wpAny_pure (wp_layCells f hf r _ _ _ K Q S h hq))
noncomputable def WStores (C : Cx) (n : Nat) (X : Addr → Led → Prop) (env : Env) : List (Str × V) → Led → (Led → Prop) → Prop
  | [], led, Q => Q led
  | (x, v) :: r, led, Q => W1 C n X RU (storeName env x) v led fun _ led1 => WStores C n X env r led1 Q
theorem wp_stores {A : Around} {E : Value → Shared → Prop} (hA : Room n A) (f : Str × Value → PUnit → Sem (ForInStep PUnit)) (hf : ∀ x v u, f (x, v) u = (do storeName env x v; pure (.yield ⟨⟩))) :
    ∀ (binds : List (Str × V)) (bs : List (Str × Value)) (s : Shared) (led : Led) (Φ : PH) (K : Led → Prop) (Q : PUnit → Shared → Prop), Sat C Φ led s → VEs C Φ binds bs → WStores C n NoX env binds led K →
      (∀ Φ' led' s', Le Φ Φ' → Sat C Φ' led' s' → K led' → Q ⟨⟩ s') → wpAny C.M A (forIn bs ⟨⟩ f) Q E s
  | [], bs, s, led, Φ, K, Q, S, hb, h, hq => by
    simp only [VEs] at hb; subst hb
    rw [List.forIn_nil]; exact wpAny_pure (hq _ _ _ (Le.refl _) S h)
  | (x, v) :: r, bs, s, led, Φ, K, Q, S, hb, h, hq => by
    simp only [VEs] at hb
    obtain ⟨y, ys, rfl, hv, hr⟩ := hb
    rw [List.forIn_cons, hf]
    refine wpAny_bind (wpAny_bind (wpThen S.tk (h A Φ s y hA S hv) (fun _ Φ1 _ led1 s1 h1 S1 _ q1 => wpAny_pure ?_) fun _ _ e => e.no.elim))
    exact wp_stores hA f hf r ys s1 led1 Φ1 K Q S1 (hr.mono h1) q1 fun Φ' led' s' h2 S2 k2 => hq Φ' led' s' (h1.trans h2) S2 k2
noncomputable def fenv (fd : FuncData) (fa : Addr) (L : Addr) (cells : List (Str × Addr)) : Env :=
  { scope := fd.scope, locals := L, globals := fd.globals, cells := cells, qual := fd.qualname ++ ".<locals>.", func := some fa, code := fd.code, frame := some L, builtins := fd.builtins }
theorem wp_newEnv {A : Around} {E : Value → Shared → Prop} {fd : FuncData} {fa : Addr} {Φ : PH} {s : Shared} {binds : List (Str × V)} {bs : List (Str × Value)} {K : Env → Led → Prop} {Q : Env → Shared → Prop} (hA : Room n A) (S : Sat C Φ led s) (hb : VEs C Φ binds bs)
    (h : ∀ L, WCells fd.scope.names fd.closure ((L, .frame []) :: led) fun cells led1 => WStores C n NoX (fenv fd fa L cells) binds led1 fun led2 => K (fenv fd fa L cells) led2)
    (hq : ∀ Φ' env led' s', Le Φ Φ' → Sat C Φ' led' s' → K env led' → Q env s') :
    wpAny C.M A (newFunctionEnv fd.scope fd.globals fd.closure bs (fd.qualname ++ ".<locals>.") (some fa) fd.code none fd.builtins) Q E s := by
  unfold newFunctionEnv
  simp only [Option.isSome_none, Bool.false_eq_true, if_false]
  refine wpAny_bind (wpAny_alloc ?_)
  have S1 := S.alloc (o := { cls := .type "frame", data := .dict #[] }) (ao := .frame []) rfl ⟨#[], 0, rfl, fun _ he => by simp at he, fun x v e => by simp at e⟩
  refine wpAny_bind (wp_layCells _ (fun name kind cells => ?_) fd.scope.names fd.closure _ _ _ _ S1 (h s.heap.objs.size) (fun cells led' s' S' k' => ?_))
  · rfl
  · refine wpAny_bind (wp_stores (env := fenv fd fa s.heap.objs.size cells) hA _ (fun x v u => ?_) binds bs s' led' Φ _ _ S' hb k' (fun Φ' led'' s'' h1 S2 k2 => ?_))
    · rfl
    · exact wpAny_pure (hq Φ' _ led'' s'' h1 S2 k2)
noncomputable def BindOk (C : Cx) (fd : FuncData) (pos : List V) (kw : Kw) (binds : List (Str × V)) : Prop :=
  ∀ A Φ led s xs ks E (Q : List (Str × Value) → Shared → Prop), Sat C Φ led s → VRs C Φ pos xs → VEs C Φ kw ks → (∀ bs, VEs C Φ binds bs → Q bs s) → wpAny C.M A (bindArgs fd ⟨xs, ks⟩) Q E s
theorem Room.lt {A : Around} (h : Room n A) : A.depth < recursionLimit := by have := h.depth; unfold recursionLimit; walk_at "om"
noncomputable def retV : F → V
  | .ret v => v
  | _ => .none
theorem wc_lam {fa : Addr} {fd : FuncData} {body : Expr} {pos : List V} {kw : Kw} {binds : List (Str × V)} {Q : V → Led → Prop}
    (ho : ∀ Φ s, Sat C Φ led s → ∃ o, s.heap.get? fa = some o ∧ o.data = .func fd) (hb : fd.body = .expr body) (hcd : ∀ Φ s, Sat C Φ led s → s.heap.CodeRec fd.code fd.qualname) (hlim : C.base.NoLimit) (hbind : BindOk C fd pos kw binds)
    (h : ∀ L, WCells fd.scope.names fd.closure ((L, .frame []) :: led) fun cells led1 => WStores C n NoX (fenv fd fa L cells) binds led1 fun led2 => WE C n NoX (fenv fd fa L cells) body led2 Q)
    (hco : fd.scope.isCoroutine = false := by rfl) (hgen : fd.scope.isGenerator = false := by rfl) : WC C (n + 1) X (.ref fa) pos kw led Q := fun A Φ s fx xs ks hA S hf hp hk => by
  rw [wv_val hf]
  obtain ⟨o, ho, hd⟩ := ho Φ s S
  refine wpAny_call (kla_callFunE hA.lt ho hd hco hgen hb (hcd Φ s S) ?_)
  refine hbind A.in1 Φ led s xs ks _ _ S hp hk fun bs hbs => ?_
  refine wp_newEnv (n := n) (K := fun env led2 => WE C n NoX env body led2 Q) hA.in1 S hbs h (fun Φ1 env led1 s1 h1 S1 k1 => ⟨hlim.keeps fun b o e => S1.keep e, ?_⟩)
  exact kla_codeExpr (wpThen S1.tk (k1 (A.deeper env) Φ1 s1 (hA.deeper env) S1) (fun x Φ2 v led2 s2 h2 S2 r2 q2 => ⟨Φ2, v, led2, h1.trans h2, S2.toSat0, r2, q2⟩) fun _ _ e => e.no.elim)
end
section
variable {C : Cx} {n : Nat} {X : Addr → Led → Prop} {env : Env} {led : Led}
theorem wpAny_list_display {M : Model} {A : Around} {E : Value → Shared → Prop} {s : Shared} {env : Env} {elts : List Expr} {pos : Pos} {Q : Value → Shared → Prop}
    (h : wpAny M A (spliced (backTo pos (starEach elts env))) (fun vs s₁ => vs.length ≤ sizeLine ∧ Q (.ref s₁.heap.objs.size) { s₁ with heap := s₁.heap.push (lstO vs 0) }) E s) : wpAny M A (eval (.List elts pos) env) Q E s :=
  List_ (wpAny_mono h (fun vs s₁ h₁ => wpAny_newObj_type h₁.2 (by show vs.toArray.size ≤ sizeLine; rw [List.size_toArray]; exact h₁.1)) fun _ _ e => e)
theorem wpAny_tuple_display {M : Model} {A : Around} {E : Value → Shared → Prop} {s : Shared} {env : Env} {elts : List Expr} {k : Nat} {pos : Pos} {Q : Value → Shared → Prop}
    (h : wpAny M A (spliced (backTo pos (starEach elts env))) (fun vs s₁ => vs.length ≤ sizeLine ∧ Q (.ref s₁.heap.objs.size) { s₁ with heap := s₁.heap.push (tupO vs 0) }) E s) : wpAny M A (eval (.Tuple elts k pos) env) Q E s :=
  Tuple_ (wpAny_mono h (fun vs s₁ h₁ => wpAny_newObj_type h₁.2 (by show vs.toArray.size ≤ sizeLine; rw [List.size_toArray]; exact h₁.1)) fun _ _ e => e)
theorem we_list {elts : List Expr} {pos : Pos} {Q : V → Led → Prop} (h : WA C n X env pos elts led fun vs led1 => vs.length ≤ sizeLine ∧ ∀ a, Q (.ref a) ((a, .list vs) :: led1)) : WE C n X env (.List elts pos) led Q := fun A Φ s hA S => by
  refine wpAny_list_display (wpThen S.tk (h A Φ s hA S) (fun xs Φ1 vs led1 s1 h1 S1 r1 q1 => ⟨by rw [VRs.length r1]; exact q1.1, ?_⟩) fun _ _ e => e)
  exact ⟨Φ1, _, _, h1, S1.toSat0.alloc (ao := .list vs) rfl ⟨xs, 0, rfl, r1⟩, vval, q1.2 _⟩
theorem we_listF {elts : List Expr} {pos : Pos} {Q : V → Led → Prop} (h : WA C n X env pos elts led fun vs led1 => vs.length ≤ sizeLine ∧ Q (.lst vs) led1) : WE C n X env (.List elts pos) led Q := fun A Φ s hA S => by
  refine wpAny_list_display (wpThen S.tk (h A Φ s hA S) (fun xs Φ1 vs led1 s1 h1 S1 r1 q1 => ⟨by rw [VRs.length r1]; exact q1.1, ?_⟩) fun _ _ e => e)
  obtain ⟨hl, S2⟩ := S1.allocF (o := lstO xs 0) rfl
  exact ⟨_, .lst vs, led1, h1.trans hl, S2.toSat0, by simp only [RV, VR]; exact ⟨_, xs, 0, rfl, PH.put_self _ _ _, r1.mono hl⟩, q1.2⟩
theorem we_tuple {elts : List Expr} {k : Nat} {pos : Pos} {Q : V → Led → Prop} (h : WA C n X env pos elts led fun vs led1 => vs.length ≤ sizeLine ∧ Q (.tup vs) led1) : WE C n X env (.Tuple elts k pos) led Q := fun A Φ s hA S => by
  refine wpAny_tuple_display (wpThen S.tk (h A Φ s hA S) (fun xs Φ1 vs led1 s1 h1 S1 r1 q1 => ⟨by rw [VRs.length r1]; exact q1.1, ?_⟩) fun _ _ e => e)
  obtain ⟨hl, S2⟩ := S1.allocF (o := tupO xs 0) rfl
  exact ⟨_, .tup vs, led1, h1.trans hl, S2.toSat0, by simp only [RV, VR]; exact ⟨_, xs, 0, rfl, PH.put_self _ _ _, r1.mono hl⟩, q1.2⟩
inductive LvX (C : Cx) (Φ : PH) (s : Shared) (x : Value) (vs : List V) : Prop
  | mk (a : Addr) (xs : List Value) (k : Nat) (h1 : x = .ref a) (h2 : s.heap.get? a = some (lstO xs k)) (h3 : VRs C Φ vs xs) : LvX C Φ s x vs
inductive TvX (C : Cx) (Φ : PH) (s : Shared) (x : Value) (vs : List V) : Prop
  | mk (a : Addr) (xs : List Value) (k : Nat) (h1 : x = .ref a) (h2 : s.heap.get? a = some (tupO xs k)) (h3 : VRs C Φ vs xs) : TvX C Φ s x vs
inductive DvX (C : Cx) (Φ : PH) (s : Shared) (x : Value) (es : List (Str × V)) : Prop
  | mk (a : Addr) (kvs : List (Str × Value)) (h1 : x = .ref a) (h2 : (a == sysModules) = false) (h3 : s.heap.DictOf C.sk a kvs) (h4 : VEs C Φ es kvs) : DvX C Φ s x es
noncomputable def ListV (C : Cx) (led : Led) (v : V) (vs : List V) : Prop := ∀ Φ s x, Sat C Φ led s → VR C Φ v x → LvX C Φ s x vs
noncomputable def TupV (C : Cx) (led : Led) (v : V) (vs : List V) : Prop := ∀ Φ s x, Sat C Φ led s → VR C Φ v x → TvX C Φ s x vs
noncomputable def DictV (C : Cx) (led : Led) (v : V) (es : List (Str × V)) : Prop := ∀ Φ s x, Sat C Φ led s → VR C Φ v x → DvX C Φ s x es
theorem lv_own {a : Addr} {vs : List V} (h : (a, AO.list vs) ∈ led) : ListV C led (.ref a) vs := fun Φ s x S hx => by
  obtain ⟨o, ho, xs, k, rfl, hv⟩ := S.at h
  exact ⟨a, xs, k, wv_val hx, ho, hv⟩
theorem lv_fz {vs : List V} : ListV C led (.lst vs) vs := fun Φ s x S hx => by
  simp only [VR] at hx
  obtain ⟨a, xs, k, rfl, hp, hv⟩ := hx
  exact ⟨a, xs, k, rfl, S.sub _ _ hp, hv⟩
theorem tv_fz {vs : List V} : TupV C led (.tup vs) vs := fun Φ s x S hx => by
  simp only [VR] at hx
  obtain ⟨a, xs, k, rfl, hp, hv⟩ := hx
  exact ⟨a, xs, k, rfl, S.sub _ _ hp, hv⟩
theorem DObj.dictOf {h : Heap} {a : Addr} {o : Obj} {kvs : List (Str × Value)} (d : DObj C o kvs) (e : h.get? a = some o) : h.DictOf C.sk a kvs :=
  let ⟨h1, es, ep, h2, h3, h4, h5⟩ := d; ⟨o, es, ep, e, h1, h2, h3, h4, h5⟩
theorem DObj.of {h : Heap} {a : Addr} {kvs : List (Str × Value)} (d : h.DictOf C.sk a kvs) : ∃ o, h.get? a = some o ∧ DObj C o kvs :=
  let ⟨o, es, ep, e, h1, h2, h3, h4, h5⟩ := d; ⟨o, e, h1, es, ep, h2, h3, h4, h5⟩
theorem dv_own {a : Addr} {es : List (Str × V)} (h : (a, AO.dict es) ∈ led) : DictV C led (.ref a) es := fun Φ s x S hx => by
  obtain ⟨o, ho, kvs, hd, hv⟩ := S.at h
  exact ⟨a, kvs, wv_val hx, S.notSys h, hd.dictOf ho, hv⟩
theorem dv_fz {es : List (Str × V)} : DictV C led (.dct es) es := fun Φ s x S hx => by
  simp only [VR] at hx
  obtain ⟨a, o, kvs, rfl, hm, hp, hd, hv⟩ := hx
  exact ⟨a, kvs, rfl, hm, hd.dictOf (S.sub _ _ hp), hv⟩
theorem isList_of {h : Heap} {a : Addr} {xs : List Value} {k : Nat} (e : h.get? a = some (lstO xs k)) : h.IsList a xs.toArray := ⟨_, e, rfl, k, rfl⟩
theorem isTup_of {h : Heap} {a : Addr} {xs : List Value} {k : Nat} (e : h.get? a = some (tupO xs k)) : h.IsTuple a xs.toArray := ⟨_, e, rfl, k, rfl⟩
noncomputable def TyIs (C : Cx) (led : Led) (v : V) (T : String) : Prop := ∀ Φ s x, Sat C Φ led s → VR C Φ v x → s.TypeIs x T ∧ ∀ a, x = .ref a → ∃ o, s.heap.get? a = some o ∧ o.dict = none
theorem ty_list {v : V} {vs : List V} (h : ListV C led v vs) : TyIs C led v "list" := fun Φ s x S hx => by
  obtain ⟨a, xs, k, rfl, e, _⟩ := h Φ s x S hx
  exact ⟨⟨_, e, rfl⟩, fun b hb => by cases hb; exact ⟨_, e, rfl⟩⟩
theorem ty_tup {v : V} {vs : List V} (h : TupV C led v vs) : TyIs C led v "tuple" := fun Φ s x S hx => by
  obtain ⟨a, xs, k, rfl, e, _⟩ := h Φ s x S hx
  exact ⟨⟨_, e, rfl⟩, fun b hb => by cases hb; exact ⟨_, e, rfl⟩⟩
theorem ty_dict {v : V} {es : List (Str × V)} (h : DictV C led v es) : TyIs C led v "dict" := fun Φ s x S hx => by
  obtain ⟨a, kvs, rfl, _, ⟨o, es', ep, e, hx', _⟩, _⟩ := h Φ s x S hx
  exact ⟨⟨_, e, hx'.1⟩, fun b hb => by cases hb; exact ⟨_, e, hx'.2.1⟩⟩
theorem ty_str {x : Str} : TyIs C led (.str x) "str" := fun Φ s y S hy => by
  obtain ⟨t, rfl⟩ := wv_str hy
  exact ⟨rfl, fun a h => by cases h⟩
theorem we_sub {value slice : Expr} {p : Pos} {T id : String} {Q : V → Led → Prop} (h : WE C n X env value led fun v led1 => WE C n X env slice led1 fun i led2 => TyIs C led2 v T ∧ W2 C n X (RV C) getItem v i led2 Q)
    (hl : typeLookup (.type T) "__getitem__" = pure (some (.builtin id))) (hs : ∀ o i, ∃ ops, subscripted slice false o i = operate ops (getItem o i) := by exact fun _ _ => ⟨_, rfl⟩) : WE C n X env (.Subscript value slice p) led Q := fun A Φ s hA S => by
  refine Subscript_ (wpThen S.tk (h A Φ s hA S) (fun a Φ1 v1 led1 s1 h1 S1 r1 q1 => ?_) fun _ _ e => e)
  refine wpThen S1.tk (q1 A Φ1 s1 hA S1) (fun b Φ2 v2 led2 s2 h2 S2 r2 q2 => ?_) fun _ _ e => e.mono h1
  obtain ⟨ops, hs⟩ := hs a b
  exact wpGo (h1.trans h2) (tail_any (q2.1 Φ2 s2 a S2 (r1.mono h2)).1 hl (q2.2 A Φ2 s2 a b hA S2 (r1.mono h2) r2) hs)
theorem gi_list {v : V} {vs : List V} {k : Int} {w : V} {Q : V → Led → Prop} (hv : ListV C led v vs) (h0 : 0 ≤ k) (h1 : k < 2 ^ 63) (hk : vs[k.toNat]? = some w) (h : Q w led) : W2 C n X (RV C) getItem v (.int k) led Q := fun A Φ s x y _ S hx hy => by
  obtain ⟨t, rfl⟩ := wv_int hy
  obtain ⟨a, xs, j, rfl, e, hr⟩ := hv Φ s x S hx
  obtain ⟨z, hz, hw⟩ := hr.get hk
  exact wpAny_getItem_list (isList_of e) h0 h1 (by simpa using hz) (post S.toSat0 hw h)
theorem gi_listN {v : V} {vs : List V} {k : Int} {w : V} {Q : V → Led → Prop} (hv : ListV C led v vs) (h0 : k < 0) (h1 : -(vs.length : Int) ≤ k) (h2 : -(2 ^ 63) ≤ k) (hk : vs[(k + vs.length).toNat]? = some w) (h : Q w led) : W2 C n X (RV C) getItem v (.int k) led Q := fun A Φ s x y _ S hx hy => by
  obtain ⟨t, rfl⟩ := wv_int hy
  obtain ⟨a, xs, j, rfl, e, hr⟩ := hv Φ s x S hx
  obtain ⟨z, hz, hw⟩ := hr.get hk
  have hl := hr.length
  exact wpAny_getItem_list_neg (isList_of e) h0 (by rw [List.size_toArray, hl]; exact h1) h2 (by rw [List.size_toArray, hl]; simpa using hz) (post S.toSat0 hw h)
theorem gi_last {v : V} {vs : List V} {w : V} {Q : V → Led → Prop} (hv : ListV C led v (vs ++ [w])) (h : Q w led) : W2 C n X (RV C) getItem v (.int (-1)) led Q :=
  gi_listN hv (by decide) (by simp; walk_at "om") (by decide) (by
    have : ((-1 : Int) + ((vs ++ [w]).length : Nat)).toNat = vs.length := by rw [List.length_append, List.length_singleton]; walk_at "om"
    rw [this]; simp) h
theorem sk_is {k : Str} {t : Tok} : C.sk.is k (.str k t) = true := by
  show Value.isStrOf k (.str k t) = true
  simp [Value.isStrOf]
theorem ves_some {Φ : PH} {k : Str} {w : V} : ∀ {es : List (Str × V)} {kvs : List (Str × Value)}, VEs C Φ es kvs → es.lookup k = some w → ∃ z, valueAt kvs k = some z ∧ VR C Φ w z
  | [], _, _, e => by simp at e
  | (k', v') :: r, _, hr, e => by
    simp only [VEs] at hr
    obtain ⟨y, ys, rfl, h1, h2⟩ := hr
    rw [List.lookup_cons] at e
    by_cases hk' : k = k'
    · subst hk'
      simp only [beq_self_eq_true] at e
      cases e
      exact ⟨y, by simp [valueAt], h1⟩
    · have : (k == k') = false := by simp [hk']
      rw [this] at e
      obtain ⟨z, hz, hw⟩ := ves_some h2 e
      refine ⟨z, ?_, hw⟩
      unfold valueAt at hz ⊢
      rw [List.find?_cons]
      have : decide (k' = k) = false := by simp; exact fun e => hk' e.symm
      rw [this]; exact hz
theorem ves_none {Φ : PH} {k : Str} : ∀ {es : List (Str × V)} {kvs : List (Str × Value)}, VEs C Φ es kvs → es.lookup k = none → valueAt kvs k = none
  | [], _, h, _ => by simp only [VEs] at h; rw [h]; rfl
  | (k', v') :: r, _, hr, e => by
    simp only [VEs] at hr
    obtain ⟨y, ys, rfl, h1, h2⟩ := hr
    rw [List.lookup_cons] at e
    by_cases hk' : k = k'
    · subst hk'; simp at e
    · have : (k == k') = false := by simp [hk']
      rw [this] at e
      have hz := ves_none h2 e
      unfold valueAt at hz ⊢
      rw [List.find?_cons]
      have : decide (k' = k) = false := by simp; exact fun e => hk' e.symm
      rw [this]; exact hz
theorem ves_length {Φ : PH} : ∀ {es : List (Str × V)} {kvs : List (Str × Value)}, VEs C Φ es kvs → kvs.length = es.length
  | [], _, h => by simp only [VEs] at h; rw [h]; rfl
  | (k', v') :: r, _, hr => by
    simp only [VEs] at hr
    obtain ⟨y, ys, rfl, h1, h2⟩ := hr
    rw [List.length_cons, ves_length h2]; rfl
theorem mapOf {h : Heap} {a : Addr} {kvs : List (Str × Value)} (d : h.DictOf C.sk a kvs) : h.MapOf C.sk a (valueAt kvs) := by
  obtain ⟨o, es', ep, e1, e2, e3, e4, e5, e6⟩ := d
  refine ⟨o, es', ep, e1, e2, e3, e4, fun k' => ?_⟩
  have := e5.find k'
  rw [← this]
  unfold findBy
  rw [← Array.find?_toList]
theorem gi_dict {v : V} {es : List (Str × V)} {k : Str} {w : V} {Q : V → Led → Prop} (hv : DictV C led v es) (hk : es.lookup k = some w) (h : Q w led) : W2 C n X (RV C) getItem v (.str k) led Q := fun A Φ s x y _ S hx hy => by
  obtain ⟨t, rfl⟩ := wv_str hy
  obtain ⟨a, kvs, rfl, hm, hd, hr⟩ := hv Φ s x S hx
  obtain ⟨z, hz, hw⟩ := ves_some hr hk
  exact wpAny_getItem_of (knd := C.sk) (k := k) sk_is (mapOf hd) hz (post (S.toks _) hw h)
theorem gi_tup {v : V} {vs : List V} {k : Int} {w : V} {Q : V → Led → Prop} (hv : TupV C led v vs) (h0 : 0 ≤ k) (h1 : k < 2 ^ 63) (hk : vs[k.toNat]? = some w) (h : Q w led) : W2 C n X (RV C) getItem v (.int k) led Q := fun A Φ s x y hA S hx hy => by
  obtain ⟨t, rfl⟩ := wv_int hy
  obtain ⟨a, xs, j, rfl, e, hr⟩ := hv Φ s x S hx
  obtain ⟨z, hz, hw⟩ := hr.get hk
  have hlt : k.toNat < vs.length := (List.getElem?_eq_some_iff.mp hk).1
  have hl := hr.length
  refine PyProof.Rows.getItem_tuple (j := k.toNat) ⟨_, e, rfl, j, rfl⟩ (by walk_at "om") h1 ?_ (by simpa using hz) (post S.toSat0 hw h)
  unfold seqIndex?
  rw [List.size_toArray, hl]
  have h2 : ¬ k < 0 := by walk_at "om"
  simp only [h2, if_false]
  first | (rw [if_pos (by walk_at "om")]) | (simp; walk_at "om") | (split <;> first | rfl | walk_at "om")
theorem wc_get2 {v : V} {es : List (Str × V)} {k : Str} {Q : V → Led → Prop} (hv : DictV C led v es) (h : Q ((es.lookup k).getD .none) led) : WC C n X (.val (.builtin "dict.get")) [v, .str k] [] led Q := fun A Φ s fx xs ks _ S hf hp hk => by
  simp only [VRs, VEs] at hp hk
  obtain ⟨x, _, rfl, hx, y, _, rfl, hy, rfl⟩ := hp
  rw [wv_val hf, hk]
  obtain ⟨t, rfl⟩ := wv_str hy
  obtain ⟨a, kvs, rfl, hm, hd, hr⟩ := hv Φ s x S hx
  refine call_meetsIn F.slot_dict_get hd.typeIs F.entry_dict_get (F.args_dict_get_2 _ _) (meets_dict_get C.sk a sk_is hm) ⟨_, mapOf hd, ?_⟩
  cases e : es.lookup k with
  | none => rw [ves_none hr e]; rw [e] at h; exact post (S.toks _) vnone h
  | some w => obtain ⟨z, hz, hw⟩ := ves_some hr e; rw [hz]; rw [e] at h; exact post (S.toks _) hw h
theorem wc_get3 {v d : V} {es : List (Str × V)} {k : Str} {Q : V → Led → Prop} (hv : DictV C led v es) (h : Q ((es.lookup k).getD d) led) : WC C n X (.val (.builtin "dict.get")) [v, .str k, d] [] led Q := fun A Φ s fx xs ks _ S hf hp hk => by
  simp only [VRs, VEs] at hp hk
  obtain ⟨x, _, rfl, hx, y, _, rfl, hy, dv, _, rfl, hdv, rfl⟩ := hp
  rw [wv_val hf, hk]
  obtain ⟨t, rfl⟩ := wv_str hy
  obtain ⟨a, kvs, rfl, hm, hd, hr⟩ := hv Φ s x S hx
  refine call_meetsIn F.slot_dict_get hd.typeIs F.entry_dict_get (F.args_dict_get_3 _ _ _) (meets_dict_get_default C.sk a sk_is hm dv) ⟨_, mapOf hd, ?_⟩
  cases e : es.lookup k with
  | none => rw [ves_none hr e]; rw [e] at h; exact post (S.toks _) hdv h
  | some w => obtain ⟨z, hz, hw⟩ := ves_some hr e; rw [hz]; rw [e] at h; exact post (S.toks _) hw h
end
section
variable {C : Cx} {n : Nat} {X : Addr → Led → Prop} {env : Env} {led : Led}
theorem vrs1 {Φ : PH} {v : V} {xs : List Value} (h : VRs C Φ [v] xs) : ∃ x, xs = [x] ∧ VR C Φ v x := by
  simp only [VRs] at h; obtain ⟨x, _, rfl, hx, rfl⟩ := h; exact ⟨x, rfl, hx⟩
theorem vrs2 {Φ : PH} {v w : V} {xs : List Value} (h : VRs C Φ [v, w] xs) : ∃ x y, xs = [x, y] ∧ VR C Φ v x ∧ VR C Φ w y := by
  simp only [VRs] at h; obtain ⟨x, _, rfl, hx, y, _, rfl, hy, rfl⟩ := h; exact ⟨x, y, rfl, hx, hy⟩
theorem vrs3 {Φ : PH} {v w u : V} {xs : List Value} (h : VRs C Φ [v, w, u] xs) : ∃ x y z, xs = [x, y, z] ∧ VR C Φ v x ∧ VR C Φ w y ∧ VR C Φ u z := by
  simp only [VRs] at h; obtain ⟨x, _, rfl, hx, y, _, rfl, hy, z, _, rfl, hz, rfl⟩ := h; exact ⟨x, y, z, rfl, hx, hy, hz⟩
theorem ves0 {Φ : PH} {xs : List (Str × Value)} (h : VEs C Φ [] xs) : xs = [] := by simpa only [VEs] using h
theorem strsAre {Φ : PH} : ∀ {ss : List Str} {xs : List Value}, VRs C Φ (ss.map V.str) xs → StrsAre xs ss
  | [], _, h => by simp only [List.map_nil, VRs] at h; rw [h]; exact .nil
  | s :: ss, _, h => by
    simp only [List.map_cons, VRs] at h
    obtain ⟨y, ys, rfl, h1, h2⟩ := h
    obtain ⟨t, rfl⟩ := wv_str h1
    exact .cons s t (strsAre h2)
theorem setSeq {h : Heap} {a : Addr} {xs : List Value} {k : Nat} (e : h.get? a = some (lstO xs k)) (f : Array Value → Array Value) : ∃ k', (h.update a (Obj.mapSeq f)).get? a = some (lstO (f xs.toArray).toList k') := by
  refine ⟨if (f xs.toArray).size == xs.toArray.size then k else k + 1, ?_⟩
  have := Heap.get?_update_self (Obj.mapSeq f) e (by simp [Obj.mapSeq, lstO, Obj.isFreed])
  rw [this]
  simp [Obj.mapSeq, lstO]
theorem wc_append {a : Addr} {vs : List V} {w : V} {led' : Led} {Q : V → Led → Prop} (U : Up a (.list vs) (.list (vs ++ [w])) led led') (hz : vs.length ≤ sizeLine) (h : Q .none led') :
    WC C n X (.val (.builtin "list.append")) [.ref a, w] [] led Q := fun A Φ s fx xs ks _ S hf hp hk => by
  obtain ⟨x, y, rfl, hx, hy⟩ := vrs2 hp
  rw [wv_val hf, ves0 hk, wv_val hx]
  obtain ⟨o, ho, ys, k, rfl, hv⟩ := S.at U.mem
  refine call_meets F.slot_list_append ⟨_, ho, rfl⟩ F.entry_list_append (F.args_list_append_2 _ _) (PySem.list_append a ys.toArray k y (by rw [List.size_toArray, hv.length]; exact hz)) ⟨ho, ?_⟩
  obtain ⟨k', hk'⟩ := setSeq ho (fun x => x.push y)
  exact ⟨Φ, .none, led', Le.refl _, S.toSat0.up1 U (Heap.SameBut.update ..).extBut hk' ⟨ys ++ [y], k', by simp [lstO], VRs.append hv (VRs.cons hy VRs.nil)⟩, vnone, h⟩
theorem wc_pop {a : Addr} {vs : List V} {w : V} {led' : Led} {Q : V → Led → Prop} (U : Up a (.list (vs ++ [w])) (.list vs) led led') (hz : vs.length < sizeLine) (h : Q w led') :
    WC C n X (.val (.builtin "list.pop")) [.ref a] [] led Q := fun A Φ s fx xs ks _ S hf hp hk => by
  obtain ⟨x, rfl, hx⟩ := vrs1 hp
  rw [wv_val hf, ves0 hk, wv_val hx]
  obtain ⟨o, ho, zs, k, rfl, hv⟩ := S.at U.mem
  obtain ⟨ys, us, rfl, hy, hu⟩ := hv.split
  obtain ⟨y, rfl, hw⟩ := vrs1 hu
  have hl := hy.length
  refine call_meets F.slot_list_pop ⟨_, ho, rfl⟩ F.entry_list_pop (F.args_list_pop_1 _) (MeetsSeq.list_pop_last a (ys ++ [y]).toArray k y (by simp) (by simp; walk_at "om")) ⟨ho, ?_⟩
  obtain ⟨k', hk'⟩ := setSeq ho (fun xs => xs.eraseIdxIfInBounds ((ys ++ [y]).toArray.size - 1))
  refine ⟨Φ, w, led', Le.refl _, S.toSat0.up1 U (Heap.SameBut.update ..).extBut hk' ⟨ys, k', ?_, hy⟩, hw, h⟩
  have : (((ys ++ [y]).toArray.eraseIdxIfInBounds ((ys ++ [y]).toArray.size - 1)).toList) = ys := by
    simp only [Array.eraseIdxIfInBounds, List.size_toArray, List.length_append, List.length_singleton]
    simp [List.eraseIdx_append_of_length_le]
  rw [this]
theorem wc_extend {a : Addr} {vs ws : List V} {w : V} {led' : Led} {Q : V → Led → Prop} (U : Up a (.list vs) (.list (vs ++ ws)) led led') (hw : ListV C led w ws) (hz : vs.length + ws.length ≤ sizeLine) (h : Q .none led') :
    WC C n X (.val (.builtin "list.extend")) [.ref a, w] [] led Q := fun A Φ s fx xs ks _ S hf hp hk => by
  obtain ⟨x, y, rfl, hx, hy⟩ := vrs2 hp
  rw [wv_val hf, ves0 hk, wv_val hx]
  obtain ⟨o, ho, ys, k, rfl, hv⟩ := S.at U.mem
  obtain ⟨b, zs, j, rfl, eb, hr⟩ := hw Φ s y S hy
  have l1 := hv.length
  have l2 := hr.length
  refine call_meets F.slot_list_extend ⟨_, ho, rfl⟩ F.entry_list_extend (F.args_list_extend_2 _ _) (AutoSeq1.list_extend_list_list_0 a ys.toArray k b zs.toArray j (by simp [Builtin.List.listTooLong, l1, l2]; walk_at "om") (by simp; walk_at "om") (by simp; walk_at "om")) ⟨ho, eb, ?_⟩
  obtain ⟨k', hk'⟩ := setSeq ho (fun x => x ++ zs.toArray)
  exact ⟨Φ, .none, led', Le.refl _, S.toSat0.up1 U (Heap.SameBut.update ..).extBut hk' ⟨ys ++ zs, k', by simp [lstO], VRs.append hv hr⟩, vnone, h⟩
theorem wc_insert {a : Addr} {vs : List V} {i : Int} {w : V} {led' : Led} {Q : V → Led → Prop} (U : Up a (.list vs) (.list (vs.take i.toNat ++ w :: vs.drop i.toNat)) led led') (h0 : 0 ≤ i) (h1 : i < 2 ^ 63) (hi : i.toNat ≤ vs.length) (hz : vs.length ≤ sizeLine) (h : Q .none led') :
    WC C n X (.val (.builtin "list.insert")) [.ref a, .int i, w] [] led Q := fun A Φ s fx xs ks _ S hf hp hk => by
  obtain ⟨x, y, z, rfl, hx, hy, hw⟩ := vrs3 hp
  rw [wv_val hf, ves0 hk, wv_val hx]
  obtain ⟨t, rfl⟩ := wv_int hy
  obtain ⟨o, ho, ys, k, rfl, hv⟩ := S.at U.mem
  have l1 := hv.length
  refine call_meets F.slot_list_insert ⟨_, ho, rfl⟩ F.entry_list_insert (F.args_list_insert_3 _ _ _) (AutoSeq1.list_insert_list_int_val_1 a ys.toArray k i t z (by simp [Builtin.List.listFitsIndex]; walk_at "om") (by simp; walk_at "om")) ⟨ho, ?_⟩
  obtain ⟨k', hk'⟩ := setSeq ho (fun xs => have k := if i < 0 then (i + ((xs.size : Nat) : Int)).toNat else min i.toNat xs.size; (xs.extract 0 k).push z ++ xs.extract k)
  refine ⟨Φ, .none, led', Le.refl _, S.toSat0.up1 U (Heap.SameBut.update ..).extBut hk' ⟨ys.take i.toNat ++ z :: ys.drop i.toNat, k', ?_, VRs.append (hv.take _) (VRs.cons hw (hv.drop _))⟩, vnone, h⟩
  have h2 : ¬ i < 0 := by walk_at "om"
  have h3 : min i.toNat ys.length = i.toNat := by walk_at "om"
  have h4 : (ys.drop i.toNat).take (ys.length - i.toNat) = ys.drop i.toNat := List.take_of_length_le (by rw [List.length_drop]; walk_at "om")
  simp [h2, h3, h4]
noncomputable def stE (es : List (Str × V)) (k : Str) (v : V) : List (Str × V) := if es.any (fun kv => kv.1 = k) then es.map (fun kv => if kv.1 = k then (kv.1, v) else kv) else es ++ [(k, v)]
theorem ves_any {Φ : PH} {k : Str} : ∀ {es : List (Str × V)} {kvs : List (Str × Value)}, VEs C Φ es kvs → kvs.any (fun kv => kv.1 = k) = es.any (fun kv => kv.1 = k)
  | [], _, h => by simp only [VEs] at h; rw [h]; rfl
  | (k', v') :: r, _, hr => by
    simp only [VEs] at hr
    obtain ⟨y, ys, rfl, h1, h2⟩ := hr
    rw [List.any_cons, List.any_cons, ves_any h2]
theorem ves_map {Φ : PH} {k : Str} {v : V} {x : Value} (hv : VR C Φ v x) : ∀ {es : List (Str × V)} {kvs : List (Str × Value)}, VEs C Φ es kvs → VEs C Φ (es.map (fun kv => if kv.1 = k then (kv.1, v) else kv)) (kvs.map (fun kv => if kv.1 = k then (kv.1, x) else kv))
  | [], _, h => by simp only [VEs] at h; rw [h]; simp only [List.map_nil, VEs]
  | (k', v') :: r, _, hr => by
    simp only [VEs] at hr
    obtain ⟨y, ys, rfl, h1, h2⟩ := hr
    rw [List.map_cons, List.map_cons]
    by_cases hk : k' = k
    · rw [if_pos hk, if_pos hk]; simp only [VEs]; exact ⟨x, _, rfl, hv, ves_map hv h2⟩
    · rw [if_neg hk, if_neg hk]; simp only [VEs]; exact ⟨y, _, rfl, h1, ves_map hv h2⟩
theorem ves_append {Φ : PH} : ∀ {es fs : List (Str × V)} {kvs ks : List (Str × Value)}, VEs C Φ es kvs → VEs C Φ fs ks → VEs C Φ (es ++ fs) (kvs ++ ks)
  | [], _, _, _, h, h' => by simp only [VEs] at h; rw [h]; exact h'
  | (k', v') :: r, _, _, _, hr, h' => by
    simp only [VEs] at hr
    obtain ⟨y, ys, rfl, h1, h2⟩ := hr
    rw [List.cons_append, List.cons_append]
    simp only [VEs]; exact ⟨y, _, rfl, h1, ves_append h2 h'⟩
theorem ves_one {Φ : PH} {k : Str} {v : V} {x : Value} (h : VR C Φ v x) : VEs C Φ [(k, v)] [(k, x)] := by simp only [VEs]; exact ⟨x, [], rfl, h, rfl⟩
theorem ves_stored {Φ : PH} {es : List (Str × V)} {kvs : List (Str × Value)} {k : Str} {v : V} {x : Value} (h : VEs C Φ es kvs) (hv : VR C Φ v x) : VEs C Φ (stE es k v) (stored kvs k x) := by
  unfold stE stored
  rw [ves_any h]
  split
  · exact ves_map hv h
  · exact ves_append h (ves_one hv)
theorem si_dict {a : Addr} {es : List (Str × V)} {k : Str} {v : V} {led' : Led} {Q : Unit → Led → Prop} (U : Up a (.dict es) (.dict (stE es k v)) led led') (hz : es.length ≤ sizeLine) (h : Q () led') : W3 C n X RU setItem (.ref a) (.str k) v led Q := fun A Φ s x y z _ S hx hy hv => by
  rw [wv_val hx]
  obtain ⟨t, rfl⟩ := wv_str hy
  obtain ⟨o, ho, kvs, hd, hr⟩ := S.at U.mem
  refine wpAny_setItem_pairs (knd := C.sk) (k := k) sk_is (hd.dictOf ho) (fun h' hd' hs => ?_) (by rw [ves_length hr]; exact hz)
  obtain ⟨o', ho', hd''⟩ := DObj.of hd'
  exact post (S.toSat0.up1 U (s' := { s with heap := h', toks := s.toks + 1 }) hs.extBut ho' ⟨_, hd'', ves_stored hr hv⟩) trivial h
theorem wc_notin_dict {v : V} {es : List (Str × V)} {k : Str} {Q : V → Led → Prop} (hv : DictV C led v es) (h : Q (.bool (!(es.lookup k).isSome)) led) : W2 C n X (RV C) (compareOp .NotIn) (.str k) v led Q := fun A Φ s x y _ S hx hy => by
  obtain ⟨t, rfl⟩ := wv_str hx
  obtain ⟨a, kvs, rfl, hm, hd, hr⟩ := hv Φ s y S hy
  refine wpAny_notIn_of (knd := C.sk) sk_is hm (mapOf hd) ?_
  cases e : es.lookup k with
  | none => rw [ves_none hr e]; rw [e] at h; exact post (S.toks _) vbool h
  | some w => obtain ⟨z, hz, hw⟩ := ves_some hr e; rw [hz]; rw [e] at h; exact post (S.toks _) vbool h
theorem wc_notin_words {v : V} {ss : List Str} {k : Str} {Q : V → Led → Prop} (hv : ListV C led v (ss.map V.str)) (h : Q (.bool (!ss.any (· == k))) led) : W2 C n X (RV C) (compareOp .NotIn) (.str k) v led Q := fun A Φ s x y _ S hx hy => by
  obtain ⟨t, rfl⟩ := wv_str hx
  obtain ⟨a, xs, j, rfl, e, hr⟩ := hv Φ s y S hy
  exact notin_list_strs (isList_of e) (strsAre hr) (post S.toSat0 vbool h)
theorem tr_list {v : V} {vs : List V} {Q : Bool → Led → Prop} (hv : ListV C led v vs) (hz : vs.length < 2 ^ 63) (h : Q (!vs.isEmpty) led) : W1 C n X RB truthy v led Q := fun A Φ s x _ S hx => by
  obtain ⟨a, xs, j, rfl, e, hr⟩ := hv Φ s x S hx
  have hl := hr.length
  refine wpAny_truthy_list (isList_of e) (by rw [List.size_toArray, hl]; walk_at "om") (post (b := !vs.isEmpty) (S.toks _) ?_ h)
  show (!vs.isEmpty) = (!xs.toArray.isEmpty)
  cases vs <;> cases xs <;> simp_all
theorem tr_dict {v : V} {es : List (Str × V)} {Q : Bool → Led → Prop} (hv : DictV C led v es) (hz : es.length < 2 ^ 63) (h : Q (!es.isEmpty) led) : W1 C n X RB truthy v led Q := fun A Φ s x _ S hx => by
  obtain ⟨a, kvs, rfl, hm, hd, hr⟩ := hv Φ s x S hx
  have hl := ves_length hr
  refine wpAny_truthy_dict hm hd (by rw [hl]; walk_at "om") (post (b := !es.isEmpty) (S.toks _) ?_ h)
  show (!es.isEmpty) = (!kvs.isEmpty)
  cases es <;> cases kvs <;> simp_all
theorem tr_str {x : Str} {Q : Bool → Led → Prop} (hz : x.length < 2 ^ 63) (h : Q ((x.length : Int) != 0) led) : W1 C n X RB truthy (.str x) led Q := fun A Φ s y _ S hy => by
  obtain ⟨t, rfl⟩ := wv_str hy
  exact P.truthy_str (by walk_at "om") (post (R := RB) (S.toks _) rfl h)
theorem tr_int {i : Int} {Q : Bool → Led → Prop} (h : Q (i != 0) led) : W1 C n X RB truthy (.int i) led Q := fun A Φ s y _ S hy => by
  obtain ⟨t, rfl⟩ := wv_int hy
  exact P.truthy_int (post (R := RB) S.toSat0 rfl h)
theorem tr_none {Q : Bool → Led → Prop} (h : Q false led) : W1 C n X RB truthy .none led Q := fun A Φ s y _ S hy => by
  rw [wv_none hy]
  exact fun _ _ _ => post (R := RB) S.toSat0 rfl h
theorem wc_len_list {v : V} {vs : List V} {Q : V → Led → Prop} (hv : ListV C led v vs) (hz : vs.length < 2 ^ 63) (h : Q (.int vs.length) led) : WC C n X (.val (.builtin "len")) [v] [] led Q := fun A Φ s fx xs ks _ S hf hp hk => by
  obtain ⟨x, rfl, hx⟩ := vrs1 hp
  rw [wv_val hf, ves0 hk]
  obtain ⟨a, ys, j, rfl, e, hr⟩ := hv Φ s x S hx
  have hl := hr.length
  refine Calls.call_function_entry kind_len plain_len entry_len (args_len1 _) (wpAny_len_body_list (isList_of e) (by rw [List.size_toArray, hl]; walk_at "om") ?_)
  rw [List.size_toArray, hl]
  exact post (S.toks _) vint h
theorem wb_catl {v w : V} {vs ws : List V} {Q : V → Led → Prop} (hv : ListV C led v vs) (hw : ListV C led w ws) (hz : vs.length + ws.length ≤ sizeLine) (h : Q (.lst (vs ++ ws)) led) : W2 C n X (RV C) (binaryOp .Add) v w led Q := fun A Φ s x y _ S hx hy => by
  obtain ⟨a, xs, j, rfl, e, hr⟩ := hv Φ s x S hx
  obtain ⟨b, ys, k, rfl, e', hr'⟩ := hw Φ s y S hy
  have l1 := hr.length
  have l2 := hr'.length
  refine P.add_list (items := xs.toArray) (items2 := ys.toArray) (n := j) (n2 := k) e e' ?_ (by simp; walk_at "om")
  obtain ⟨hl, S2⟩ := S.toSat0.allocF (o := lstO (xs ++ ys) 0) rfl
  refine ⟨_, .lst (vs ++ ws), led, hl, by simpa [lstO] using S2, ?_, h⟩
  simp only [RV, VR]
  exact ⟨_, xs ++ ys, 0, rfl, PH.put_self _ _ _, (VRs.append hr hr').mono hl⟩
theorem iadd_str' {i j : Str} {Q : V → Led → Prop} (hz : i.length + j.length ≤ sizeLine) (h : Q (.str (i ++ j)) led) : W2 C n X (RV C) (inplaceOp .Add) (.str i) (.str j) led Q := fun A Φ s x y _ S hx hy => by
  obtain ⟨t, rfl⟩ := wv_str hx; obtain ⟨u, rfl⟩ := wv_str hy
  exact PyProof.Rows.iadd_str (fun t' tk => post (S.toks _) vstr h) hz
noncomputable abbrev kAug (C : Cx) (n : Nat) (X : Addr → Led → Prop) (env : Env) (value : Expr) (op : Operator) (x : Str) (Q : F → Led → Prop) : V → Led → Prop := fun v0 led0 => WE C n X env value led0 (kBin2 C n X (inplaceOp op) (kAsg C n X env x Q) v0)
theorem wx_aug {x : Str} {np : Pos} {op : Operator} {value : Expr} {p : Pos} {Q : F → Led → Prop}
    (h : W C n X (RV C) (loadName env x) led (kAug C n X env value op x Q)) : WX C n X env (.AugAssign (.Name x np) op value p) led Q := fun A Φ s hA S => by
  refine wpAny_AugAssign_Name (wpThen S.tk (h A Φ s hA S) (fun a Φ0 v0 led0 s0 h0 S0 r0 q0 => ?_) fun _ _ e => e)
  refine wpThen S0.tk (q0 A Φ0 s0 hA S0) (fun b Φ1 v1 led1 s1 h1 S1 r1 q1 => ?_) fun _ _ e => e.mono h0
  refine wpThen S1.tk (q1 A Φ1 s1 a b hA S1 (r0.mono h1) r1) (fun c Φ2 v2 led2 s2 h2 S2 r2 q2 => ?_) fun _ _ e => e.mono (h0.trans h1)
  exact wpThen S2.tk (q2 A Φ2 s2 c hA S2 r2) (fun _ Φ3 _ led3 s3 h3 S3 _ q3 => ⟨Φ3, .next, led3, ((h0.trans h1).trans h2).trans h3, S3.toSat0, rfl, q3⟩) fun _ _ e => e.mono ((h0.trans h1).trans h2)
theorem wl_local {x : Str} {loc : List (Str × V)} {v : V} {Q : V → Led → Prop} (hm : (env.locals, AO.frame loc) ∈ led) (hv : loc.lookup x = some v) (h : Q v led)
    (hk : env.scope.kind = .function := by rfl) (hl : env.kindOf x = some .local := by rfl) : W C n X (RV C) (loadName env x) led Q := fun A Φ s _ S => by
  obtain ⟨m, hn, hr⟩ := Sat.ns S hm
  obtain ⟨y, hy, hvr⟩ := hr x v hv
  exact wpAny_loadName_local hk hl hn hy (post S.toSat0 hvr h)
end
section
variable {C : Cx} {n : Nat} {X : Addr → Led → Prop} {env : Env} {led : Led}
noncomputable def PH.del (Φ : PH) (a : Addr) : PH := fun b => if b = a then none else Φ b
noncomputable def ItO (o : Obj) : Prop := o.cls ≠ .type "tuple" ∧ o.cls ≠ .type "list" ∧ o.cls ≠ .type "dict"
theorem PH.del_ne {Φ : PH} {a b : Addr} (h : b ≠ a) : Φ.del a b = Φ b := by simp [PH.del, h]
theorem PH.del_self {Φ : PH} {a : Addr} : Φ.del a a = none := by simp [PH.del]
theorem PH.put_ne {Φ : PH} {a b : Addr} {o : Obj} (h : b ≠ a) : Φ.put a o b = Φ b := by simp [PH.put, h]
theorem Le.del {Φ Φ' : PH} {a : Addr} (h : Le Φ Φ') (hn : Φ a = none) : Le Φ (Φ'.del a) := fun b o e => by
  have : b ≠ a := fun q => by rw [q, hn] at e; cases e
  rw [PH.del_ne this]; exact h b o e
section
variable {Φ : PH} {a : Addr} (hi : ∀ o, Φ a = some o → ItO o)
include hi
mutual
theorem VR.del : ∀ {v : V} {x : Value}, VR C Φ v x → VR C (Φ.del a) v x
  | .none, _, h => by simpa [VR] using h
  | .bool _, _, h => by simpa [VR] using h
  | .int _, _, h => by simpa [VR] using h
  | .str _, _, h => by simpa [VR] using h
  | .val _, _, h => by simpa [VR] using h
  | .tup vs, _, h => by
    simp only [VR] at h ⊢
    obtain ⟨b, xs, n, e, hp, hv⟩ := h
    refine ⟨b, xs, n, e, ?_, VRs.del hv⟩
    rw [PH.del_ne fun q => (hi _ (q ▸ hp)).1 rfl]; exact hp
  | .lst vs, _, h => by
    simp only [VR] at h ⊢
    obtain ⟨b, xs, n, e, hp, hv⟩ := h
    refine ⟨b, xs, n, e, ?_, VRs.del hv⟩
    rw [PH.del_ne fun q => (hi _ (q ▸ hp)).2.1 rfl]; exact hp
  | .dct es, _, h => by
    simp only [VR] at h ⊢
    obtain ⟨b, o, kvs, e, hm, hp, hd, hv⟩ := h
    refine ⟨b, o, kvs, e, hm, ?_, hd, VEs.del hv⟩
    rw [PH.del_ne fun q => (hi o (by rw [← q]; exact hp)).2.2 hd.1.1]; exact hp
theorem VRs.del : ∀ {vs : List V} {xs : List Value}, VRs C Φ vs xs → VRs C (Φ.del a) vs xs
  | [], _, h => by simpa [VRs] using h
  | v :: vs, _, h => by
    simp only [VRs] at h ⊢
    obtain ⟨y, ys, e, h1, h2⟩ := h
    exact ⟨y, ys, e, VR.del h1, VRs.del h2⟩
theorem VEs.del : ∀ {es : List (Str × V)} {xs : List (Str × Value)}, VEs C Φ es xs → VEs C (Φ.del a) es xs
  | [], _, h => by simpa [VEs] using h
  | (k, v) :: es, _, h => by
    simp only [VEs] at h ⊢
    obtain ⟨y, ys, e, h1, h2⟩ := h
    exact ⟨y, ys, e, VR.del h1, VEs.del h2⟩
end
theorem OOk.del {o : Obj} : ∀ {ao : AO}, OOk C Φ o ao → OOk C (Φ.del a) o ao
  | .frame _, ⟨es, ep, h1, h2, h3⟩ => ⟨es, ep, h1, h2, fun x v e => let ⟨y, p, q⟩ := h3 x v e; ⟨y, p, VR.del hi q⟩⟩
  | .cell none, ⟨y, p, q⟩ => ⟨y, p, q⟩
  | .cell (some v), ⟨y, p, z, q, r⟩ => ⟨y, p, z, q, VR.del hi r⟩
  | .list _, ⟨xs, n, p, q⟩ => ⟨xs, n, p, VRs.del hi q⟩
  | .dict _, ⟨kvs, p, q⟩ => ⟨kvs, p, VEs.del hi q⟩
  | .set _, h => h
  | .setL _, h => h
  | .items _, ⟨d, od, kvs, p, b, c, e, f⟩ => ⟨d, od, kvs, p, b, by rw [PH.del_ne fun q => (hi od (by rw [← q]; exact c)).2.2 e.1.1]; exact c, e, VEs.del hi f⟩
  | .obj _, h => h
theorem Sat.del {s : Shared} (hb : C.base.get? a = none) (S : Sat C Φ led s) : Sat C (Φ.del a) led s :=
  ⟨⟨fun b o e => by rw [PH.del_ne fun q => by rw [q, hb] at e; cases e]; exact S.base b o e,
    fun b o e => S.sub b o (by
      unfold PH.del at e
      split at e
      · cases e
      · exact e), S.nd, fun p hp => by
      unfold PH.del
      split
      · rfl
      · exact S.off p hp, fun p hp => let ⟨o, h1, h2⟩ := S.ok p hp; ⟨o, h1, OOk.del hi h2⟩, S.gens, S.os, S.sysm⟩, S.tk⟩
end
theorem Sat.putI {Φ : PH} {a : Addr} {o : Obj} {s : Shared} (S : Sat C Φ led s) (hn : Φ a = none) (hl : a ∉ led.map (·.1)) (ho : s.heap.get? a = some o) : Sat C (Φ.put a o) led s := by
  have hle := Le.put o hn
  refine ⟨⟨fun b o' e => hle _ _ (S.base b o' e), fun b o' e => ?_, S.nd, fun p hp => ?_, fun p hp => let ⟨o', h1, h2⟩ := S.ok p hp; ⟨o', h1, h2.mono hle⟩, S.gens, S.os, S.sysm⟩, S.tk⟩
  · unfold PH.put at e
    by_cases hb : b = a
    · subst hb; rw [if_pos rfl] at e; cases e; exact ho
    · rw [if_neg hb] at e; exact S.sub b o' e
  · rw [PH.put_ne fun e => hl (by rw [← e]; exact List.mem_map_of_mem hp)]; exact S.off p hp
theorem wpTok {α : Type} {M : Model} {A : Around} {Q : α → Shared → Prop} {E : Value → Shared → Prop} {t : Sem α} {s : Shared} (h : wpAny M A t (fun a s' => s.toks ≤ s'.toks → Q a s') (fun e s' => s.toks ≤ s'.toks → E e s') s) : wpAny M A t Q E s :=
  wpAny_mono (wpAny_toks h) (fun _ _ h => h.1 h.2) fun _ _ h => h.1 h.2
noncomputable def WLoop (C : Cx) (n : Nat) (env : Env) (target : Expr) (body : List Stmt) : List V → Led → (F → Led → Prop) → Prop
  | [], led, Q => Q .next led
  | v :: rest, led, Q => W1 C n NoX RU (assign target env) v led fun _ led1 => WS C n NoX env body led1 fun f led2 => match f with
    | .next => WLoop C n env target body rest led2 Q
    | .cont => WLoop C n env target body rest led2 Q
    | .brk => Q .next led2
    | .ret v => Q (.ret v) led2
structure Src (C : Cx) (A : Around) (Φ : PH) (I : Addr) (items : List V) (i : Nat) (h : Heap) : Prop where
  ex : ∃ (fp : List Addr) (P : Nat → Value → Prop) (St : Nat → Heap → Prop), Walks C.prog C.w A I fp [I] items.length P St ∧ St i h ∧ (∀ b ∈ fp, b ≠ I → ∃ o, Φ b = some o) ∧
    (∀ j x v, P j x → items[j]? = some v → VR C Φ v x) ∧ (∀ j h, St j h → ∃ o, h.get? I = some o ∧ ItO o) ∧
    (∀ j h, St j h → ∀ (target : Expr) (v : Value) (E : Value → Shared → Prop) (Q : Unit → Shared → Prop) (s : Shared), s.heap = h → Q () s → wpAny C.M A (letOwnedTupleGo target (.ref I) v) Q E s)
theorem lotg {M : Model} {A : Around} {E : Value → Shared → Prop} {s : Shared} {Q : Unit → Shared → Prop} {I : Addr} {o : Obj} {nm : String} {vs : Array Value} (ho : s.heap.get? I = some o) (hc : o.cls = .type nm) (hd : o.data = .fields vs)
    (hn : (["enumerate", "zip", "dict_itemiterator", "dict_reverseitemiterator", "odict_iterator", "itertools.zip_longest", "itertools.pairwise"].contains nm) = false) (target : Expr) (v : Value) (h : Q () s) : wpAny M A (letOwnedTupleGo target (.ref I) v) Q E s := by
  unfold letOwnedTupleGo
  split
  · cases v with
    | ref a =>
      dsimp only
      refine wpAny_bind (wpAny_load ho ?_)
      rw [hc, hd]
      simp only [hn, Bool.false_and, Bool.false_eq_true, if_false]
      exact wpAny_pure h
    | _ => exact wpAny_pure h
  · cases v with
    | ref a =>
      dsimp only
      refine wpAny_bind (wpAny_load ho ?_)
      rw [hc, hd]
      simp only [hn, Bool.false_and, Bool.false_eq_true, if_false]
      exact wpAny_pure h
    | _ => exact wpAny_pure h
  · exact wpAny_pure h
theorem drop_cons {α : Type} {l : List α} {i : Nat} {v : α} {r : List α} (h : l.drop i = v :: r) : l[i]? = some v ∧ l.drop (i + 1) = r := by
  constructor
  · have : (l.drop i)[0]? = some v := by rw [h]; rfl
    rw [List.getElem?_drop] at this; simpa using this
  · rw [← List.tail_drop, h]; rfl
theorem code_for {A : Around} {R : Result → Shared → Prop} {target : Expr} {body : List Stmt} {items : List V} {I : Addr} {Φ₀ : PH} {s₀ : Shared} {Q : F → Led → Prop} (hA : Room n A)
    (hQ : ∀ f fv Φ' led' s', Le Φ₀ Φ' → Sat C Φ' led' s' → RF C Φ' fv f → Q fv led' → R (.ok f) s')
    (S₀ : Sat C Φ₀ led s₀) (hI : Φ₀ I = none) (hIl : I ∉ led.map (·.1)) (src : Src C A Φ₀ I items 0 s₀.heap) (h : WLoop C n env target body items led Q) :
    codeAny C.M A (.forLoop target (.ref I) body [] env) R s₀ := by
  obtain ⟨fp, P, St, W, hst, hfp, hP, hIt, hlot⟩ := src.ex
  have hb0 : C.base.get? I = none := by
    cases e : C.base.get? I with
    | none => rfl
    | some o => have := S₀.base _ _ e; rw [hI] at this; cases this
  refine codeAny_forLoop_any (fun m s => ∃ i led Φ, m = items.length - i ∧ i ≤ items.length ∧ Le Φ₀ Φ ∧ Sat C Φ led s ∧ Φ I = none ∧ I ∉ led.map (·.1) ∧ St i s.heap ∧ WLoop C n env target body (items.drop i) led Q) ?_ items.length ⟨0, led, Φ₀, by walk_at "om", by walk_at "om", Le.refl _, S₀, hI, hIl, hst, by simpa using h⟩
  rintro m s ⟨i, led, Φ, rfl, hi, hle, S, hIΦ, hIled, hst, hw⟩
  have keepS : ∀ (h' : Heap) (tk : Nat), (∀ b o, b ∉ [I] → s.heap.get? b = some o → h'.get? b = some o) → s.toks ≤ tk → Sat C Φ led { s with heap := h', toks := tk } := fun h' tk hk ht =>
    ⟨⟨S.base, fun b o e => hk b o (by rw [List.mem_singleton]; intro q; rw [q, hIΦ] at e; cases e) (S.sub b o e), S.nd, S.off,
      fun p hp => let ⟨o, h1, h2⟩ := S.ok p hp; ⟨o, hk _ _ (by rw [List.mem_singleton]; intro q; exact hIled (by rw [← q]; exact List.mem_map_of_mem hp)) h1, h2⟩, S.gens, S.os, S.sysm⟩, Nat.lt_of_lt_of_le S.tk ht⟩
  refine wpTok ?_
  cases hd : items.drop i with
  | nil =>
    have hin : i = items.length := by have := List.drop_eq_nil_iff.mp hd; walk_at "om"
    subst hin
    rw [hd] at hw
    refine W.done s _ _ hst (fun h' tk hk ht => ?_)
    exact wpAny_execs_nil (hQ _ .next Φ led _ hle (keepS h' tk hk ht) rfl hw)
  | cons v rest =>
    rw [hd] at hw
    obtain ⟨hv, hr⟩ := drop_cons hd
    have hlt : i < items.length := (List.getElem?_eq_some_iff.mp hv).1
    refine W.item i s _ _ hlt hst (fun x h' tk hx hst' hk ht => ?_)
    refine hlot _ h' hst' target x _ _ _ rfl ?_
    have S1 := keepS h' tk hk ht
    obtain ⟨oI, hoI, hItI⟩ := hIt _ _ hst'
    have S2 := S1.putI hIΦ hIled hoI
    have hle2 : Le Φ (Φ.put I oI) := Le.put oI hIΦ
    refine wpThen S2.tk (hw A _ _ x hA S2 (((hP i x v hx hv).mono hle).mono hle2)) (fun _ Φ3 _ led3 s3 h3 S3 _ q3 => ?_) fun _ _ e => e.no.elim
    refine wpThen S3.tk (q3 A Φ3 s3 hA S3) (fun f Φ4 fv led4 s4 h4 S4 r4 q4 => ?_) fun _ _ e => e.no.elim
    have hI4 : Φ4 I = some oI := h4 _ _ (h3 _ _ (PH.put_self _ _ _))
    have hit4 : ∀ o, Φ4 I = some o → ItO o := fun o e => by rw [hI4] at e; cases e; exact hItI
    have S5 := Sat.del hit4 hb0 S4
    have hle5 : Le Φ₀ (Φ4.del I) := Le.del (((hle.trans hle2).trans h3).trans h4) hI
    have hnl : I ∉ led4.map (·.1) := fun hm => by
      obtain ⟨p, hp, e⟩ := List.mem_map.mp hm
      have := S4.off p hp
      rw [e, hI4] at this; cases this
    have fin : WLoop C n env target body rest led4 Q → ∃ m, m < items.length - i ∧ ∃ i led Φ, m = items.length - i ∧ i ≤ items.length ∧ Le Φ₀ Φ ∧ Sat C Φ led s4 ∧ Φ I = none ∧ I ∉ led.map (·.1) ∧ St i s4.heap ∧ WLoop C n env target body (items.drop i) led Q := fun hw' => by
      refine ⟨items.length - (i + 1), by walk_at "om", i + 1, led4, Φ4.del I, rfl, hlt, hle5, S5, PH.del_self, hnl, ?_, by rw [hr]; exact hw'⟩
      refine W.frame _ _ _ hst' fun b hb o hbo => ?_
      by_cases hbI : b = I
      · subst hbI
        rw [hoI] at hbo; cases hbo
        exact S4.sub _ _ hI4
      · obtain ⟨o', ho'⟩ := hfp b hb hbI
        have h1 := S1.sub _ _ (hle _ _ ho')
        have h1' : h'.get? b = some o' := h1
        rw [h1'] at hbo; cases hbo
        exact S4.sub _ _ (h4 _ _ (h3 _ _ (hle2 _ _ (hle _ _ ho'))))
    cases fv with
    | next => cases r4; exact fin q4
    | cont => cases r4; exact fin q4
    | brk => cases r4; exact hQ _ .next _ led4 s4 hle5 S5 rfl q4
    | ret w => obtain ⟨y, rfl, hy⟩ := r4; exact hQ _ (.ret w) _ led4 s4 hle5 S5 ⟨y, rfl, VR.del hit4 hy⟩ q4
end
section
variable {C : Cx} {n : Nat} {X : Addr → Led → Prop} {env : Env} {led : Led}
noncomputable def IterOf (C : Cx) (led : Led) (v : V) (items : List V) : Prop :=
  ∀ A Φ s x (P : Value → Shared → Prop) (E : Value → Shared → Prop), A.handled = none → Sat C Φ led s → VR C Φ v x →
    (∀ I s', Sat C Φ led s' → Φ I = none → I ∉ led.map (·.1) → (∀ A', A'.handled = none → Src C A' Φ I items 0 s'.heap) → P (.ref I) s') → wpAny C.M A (pyIter x) P E s
theorem Src.list {A : Around} {Φ : PH} {I l : Addr} {xs : List Value} {vs : List V} {k : Nat} {h : Heap} (hh : A.handled = none) (hne : l ≠ I) (hl : Φ l = some (lstO xs k)) (hlh : h.get? l = some (lstO xs k)) (hv : VRs C Φ vs xs) (hI : h.IsListIter I l 0) : Src C A Φ I vs 0 h := by
  have W := Walks.list (prog := C.prog) (w := C.w) hh I l hne xs.toArray
  rw [List.size_toArray, hv.length] at W
  refine ⟨⟨_, _, _, W, ⟨hI, isList_of hlh⟩, fun b hb hbI => ?_, fun j x v hx hj => ?_, fun j h hs => ?_, fun j h hs target v E Q s e hq => ?_⟩⟩
  · rcases List.mem_cons.mp hb with e | hb
    · exact absurd e hbI
    · rw [List.mem_singleton.mp hb]; exact ⟨_, hl⟩
  · obtain ⟨y, hy, hr⟩ := hv.get hj
    have hx' : xs[j]? = some x := by simpa using hx
    rw [hy] at hx'; cases hx'; exact hr
  · obtain ⟨o, ho, hc, _⟩ := hs.1
    exact ⟨o, ho, by rw [hc]; decide, by rw [hc]; decide, by rw [hc]; decide⟩
  · obtain ⟨o, ho, hc, hd⟩ := hs.1
    exact lotg (by rw [e]; exact ho) hc hd (by decide) target v hq
theorem it_lst {vs : List V} : IterOf C led (.lst vs) vs := fun A Φ s x P E hh S hx hP => by
  simp only [VR] at hx
  obtain ⟨l, xs, k, rfl, hp, hv⟩ := hx
  have hl := S.sub _ _ hp
  refine wpAny_pyIter_list (isList_of hl) ?_
  have hne : l ≠ s.heap.objs.size := Nat.ne_of_lt (Heap.lt_size hl)
  refine hP _ _ ⟨S.toSat0.ext (fun b o e => Heap.get?_push_of_some _ e) rfl rfl, S.tk⟩ S.size_none S.not_size fun A' hh' => Src.list hh' hne hp (Heap.get?_push_of_some _ hl) hv ⟨_, Heap.get?_push_size _ rfl, rfl, rfl⟩
theorem wx_for {target iter : Expr} {body : List Stmt} {p : Pos} {Q : F → Led → Prop} (h : WE C n X env iter led fun v led1 => ∃ items, IterOf C led1 v items ∧ WLoop C n env target body items led1 Q)
    (hs : ∀ x, foldedSetIterable iter env x = pure x := by intro _; rfl) : WX C n X env (.For target iter body [] p) led Q := fun A Φ s hA S => by
  refine wpAny_For (wpThen S.tk (h A Φ s hA S) (fun x Φ1 v led1 s1 h1 S1 r1 q1 => ?_) fun _ _ e => e) hs
  obtain ⟨items, hit, hw⟩ := q1
  refine hit A Φ1 s1 x _ _ hA.handled S1 r1 (fun I s2 S2 hI hIl src => ?_)
  exact code_for hA (fun f fv Φ' led' s' h2 S3 r3 q3 => ⟨Φ', fv, led', h1.trans h2, S3.toSat0, r3, q3⟩) S2 hI hIl (src A hA.handled) hw
theorem wa_name {x : Str} {p : Pos} {v : V} {Q : Unit → Led → Prop} (h : W1 C n X RU (storeName env x) v led Q) : W1 C n X RU (assign (.Name x p) env) v led Q := fun A Φ s y hA S hy => wpAny_assign_Name (h A Φ s y hA S hy)
noncomputable def WTests (C : Cx) (n : Nat) (env : Env) : List Expr → Led → (Bool → Led → Prop) → Prop
  | [], led, K => K true led
  | c :: cs, led, K => WT C n NoX env c led fun b led1 => if b then WTests C n env cs led1 K else K false led1
noncomputable abbrev testsTree (ifs : List Expr) (env : Env) (b : Bool) : Sem Bool := forIn ifs b fun c r => if r = true then do let ok ← isTrue c env (eval c env); pure (ForInStep.yield ok) else pure (ForInStep.yield r)
theorem tests_false : ∀ (ifs : List Expr), testsTree ifs env false = pure false
  | [] => rfl
  | c :: cs => by
    show forIn (c :: cs) false _ = _
    rw [List.forIn_cons]
    show (pure (ForInStep.yield false) >>= _) = _
    exact tests_false cs
theorem wp_tests {K : Bool → Led → Prop} : ∀ (ifs : List Expr) (led : Led), WTests C n env ifs led K → W C n NoX RB (testsTree ifs env true) led K
  | [], led, h => fun A Φ s hA S => wpAny_pure (post (R := RB) S.toSat0 rfl h)
  | c :: cs, led, h => fun A Φ s hA S => by
    show wpAny C.M A (forIn (c :: cs) true _) _ _ s
    rw [List.forIn_cons]
    show wpAny C.M A ((isTrue c env (eval c env) >>= fun ok => pure (ForInStep.yield ok)) >>= _) _ _ s
    refine wpAny_bind (wpAny_bind (wpThen S.tk (h A Φ s hA S) (fun b Φ1 b' led1 s1 h1 S1 r1 q1 => wpAny_pure ?_) fun _ _ e => e))
    cases r1
    cases b with
    | true => exact wpGo h1 (wp_tests cs led1 q1 A Φ1 s1 hA S1)
    | false =>
      show wpAny C.M A (testsTree cs env false) _ _ s1
      rw [tests_false]
      exact wpAny_pure ⟨Φ1, false, led1, h1, S1.toSat0, rfl, q1⟩
end
section
variable {C : Cx} {n : Nat} {X : Addr → Led → Prop} {env : Env} {led : Led}
inductive Rm (a : Addr) (ao : AO) : Led → Led → Prop
  | head {r} : Rm a ao ((a, ao) :: r) r
  | tail {p r r'} : Rm a ao r r' → Rm a ao (p :: r) (p :: r')
theorem Rm.mem {a : Addr} {ao : AO} {l l' : Led} (h : Rm a ao l l') : (a, ao) ∈ l := by
  induction h with
  | head => exact List.mem_cons_self
  | tail _ ih => exact List.mem_cons_of_mem _ ih
theorem Rm.sublist {a : Addr} {ao : AO} {l l' : Led} (h : Rm a ao l l') : l'.Sublist l := by
  induction h with
  | head => exact List.sublist_cons_self _ _
  | tail _ ih => exact ih.cons₂ _
theorem Rm.perm {a : Addr} {ao : AO} {l l' : Led} (h : Rm a ao l l') : l.Perm ((a, ao) :: l') := by
  induction h with
  | head => exact List.Perm.refl _
  | tail _ ih => exact (ih.cons _).trans (List.Perm.swap _ _ _)
theorem Rm.off {a : Addr} {ao : AO} {l l' : Led} (h : Rm a ao l l') (hn : (l.map (·.1)).Nodup) : ∀ p ∈ l', p.1 ≠ a := fun p hp e => by
  have h1 := (h.perm.map (·.1)).nodup_iff.mp hn
  rw [List.map_cons] at h1
  exact (List.nodup_cons.mp h1).1 (by show a ∈ _; rw [← e]; exact List.mem_map_of_mem (f := (·.1)) hp)
theorem Sat0.lose {a : Addr} {ao : AO} {led' : Led} {Φ : PH} {s s' : Shared} (S : Sat0 C Φ led s) (h : Rm a ao led led') (hk : ∀ b o, b ≠ a → s.heap.get? b = some o → s'.heap.get? b = some o) (hg : s'.gens = s.gens := by rfl) (ho : s'.os = s.os := by rfl) : Sat0 C Φ led' s' :=
  ⟨S.base, fun b o e => hk b o (fun q => by have := S.off _ h.mem; rw [← q, e] at this; cases this) (S.sub b o e), (h.sublist.map (·.1)).nodup S.nd, fun p hp => S.off p (h.sublist.subset hp),
    fun p hp => let ⟨o, h1, h2⟩ := S.ok p (h.sublist.subset hp); ⟨o, hk _ _ (h.off S.nd p hp) h1, h2⟩, hg.trans S.gens, ho.trans S.os, S.sysm.1, fun q => S.sysm.2 ((h.sublist.map (·.1)).subset q)⟩
noncomputable def cenvOf (scope : Scope) (env : Env) (L : Addr) (cells : List (Str × Addr)) : Env :=
  { scope := relabel scope env, locals := L, globals := env.globals, cells := cells, qual := env.qual, func := none, code := env.code, frame := env.frame, builtins := env.builtins }
theorem wp_compEnv {A : Around} {E : Value → Shared → Prop} {scope : Scope} {cl : List (Str × Addr)} {Φ : PH} {s : Shared} {I : Addr} {K : Env → Led → Prop} {Q : Env → Shared → Prop} (S : Sat C Φ led s) (hIs : I < s.heap.objs.size) (hIl : I ∉ led.map (·.1))
    (h : ∀ L, WCells scope.names cl ((L, .frame []) :: led) fun cells led1 => K (cenvOf scope env L cells) led1)
    (hq : ∀ env' led' s', (∀ b o, s.heap.get? b = some o → s'.heap.get? b = some o) → Sat C Φ led' s' → I ∉ led'.map (·.1) → K { env' with scope := relabel scope env } led' → Q env' s') :
    wpAny C.M A (newFunctionEnv scope env.globals cl [] env.qual none .none (some env)) Q E s := by
  unfold newFunctionEnv
  simp only [Option.isSome_some, if_true]
  refine wpAny_bind (wpAny_alloc ?_)
  have S1 := S.alloc (o := { cls := .type "dict", data := .dict #[] }) (ao := .frame []) rfl ⟨#[], 0, rfl, fun _ he => by simp at he, fun x v e => by simp at e⟩
  have hIl1 : I ∉ ((s.heap.objs.size, AO.frame []) :: led).map (·.1) := by
    rw [List.map_cons, List.mem_cons, not_or]; exact ⟨Nat.ne_of_lt hIs, hIl⟩
  have key : ∀ (names : List (Str × NameKind)) (acc : List (Str × Addr)) (s1 : Shared) (led1 : Led), (∀ b o, s.heap.get? b = some o → s1.heap.get? b = some o) → s.heap.objs.size ≤ s1.heap.objs.size → Sat C Φ led1 s1 → I ∉ led1.map (·.1) → WCells names acc led1 (fun cells led1 => K (cenvOf scope env s.heap.objs.size cells) led1) →
      wpAny C.M A (forIn names acc fun (x : Str × NameKind) r => if x.2 == .cell then (do let a ← alloc { cls := .type "cell", data := .cell none }; pure (.yield ((x.1, a) :: r))) else pure (.yield r))
        (fun cells s2 => Q { scope := scope, locals := s.heap.objs.size, globals := env.globals, cells := cells, qual := env.qual, func := none, code := env.code, frame := env.frame, builtins := env.builtins } s2) E s1 := by
    intro names
    induction names with
    | nil =>
      intro acc s1 led1 hk hsz S1 hn hw
      rw [List.forIn_nil]
      exact wpAny_pure (hq _ led1 s1 hk S1 hn hw)
    | cons x r ih =>
      obtain ⟨nm, kind⟩ := x
      intro acc s1 led1 hk hsz S1 hn hw
      rw [List.forIn_cons]
      unfold WCells at hw
      cases hc : kind == NameKind.cell with
      | true =>
        rw [hc] at hw
        simp only [if_true]
        refine wpAny_bind (wpAny_bind (wpAny_alloc (wpAny_pure ?_)))
        refine ih _ _ _ (fun b o e => Heap.get?_push_of_some _ (hk b o e)) (by rw [Heap.size_push]; walk_at "om") (S1.alloc (ao := .cell none) rfl ⟨none, rfl, rfl⟩) ?_ (hw _)
        rw [List.map_cons, List.mem_cons, not_or]
        exact ⟨Nat.ne_of_lt (Nat.lt_of_lt_of_le hIs hsz), hn⟩
      | false =>
        rw [hc] at hw
        simp only [Bool.false_eq_true, if_false]
        exact wpAny_bind (wpAny_pure (ih _ _ _ hk hsz S1 hn hw))
  refine wpAny_bind (wpAny_mono (key scope.names cl _ _ (fun b o e => Heap.get?_push_of_some _ e) (by rw [Heap.size_push]; walk_at "om") S1 hIl1 (h _)) (fun cells s2 q => ?_) fun _ _ e => e)
  exact wpAny_bind (wpAny_pure (wpAny_pure q))
theorem under0 {A : Around} {c : Code} (hw : c.weight = 0) (hu : c.cUnits = 0) : A.under c = A := Around.under_of_weight hw hu
theorem newList_acc {M : Model} (A : Around) (E : Value → Shared → Prop) (s : Shared) (P : Value → Shared → Prop) (h : P (.ref s.heap.objs.size) { s with heap := s.heap.push (lstO [] 0) }) : wpAny M A (newList []) P E s :=
  wpAny_newObj_type h (by show (0 : Nat) ≤ sizeLine; exact Nat.zero_le _)
theorem newDict_acc {M : Model} (A : Around) (E : Value → Shared → Prop) (s : Shared) (P : Value → Shared → Prop) (h : P (.ref s.heap.objs.size) { s with heap := s.heap.push { cls := .type "dict", data := .dict #[] } }) : wpAny M A newDict P E s := by
  unfold newDict
  first
    | exact wpAny_newObj_type h (by show (0 : Nat) ≤ sizeLine; exact Nat.zero_le _)
    | exact wpAny_bind (wpAny_alloc (wpAny_pure h))
end
section
variable {C : Cx} {n : Nat} {X : Addr → Led → Prop} {env : Env} {led : Led}
noncomputable def Conv (C : Cx) (led led' : Led) : Prop := ∀ Φ s, Sat0 C Φ led s → ∃ Φ', Le Φ Φ' ∧ Sat0 C Φ' led' s
noncomputable def ConvV (C : Cx) (led : Led) (v : V) (led' : Led) (v' : V) : Prop := ∀ Φ s x, Sat0 C Φ led s → VR C Φ v x → ∃ Φ', Le Φ Φ' ∧ Sat0 C Φ' led' s ∧ VR C Φ' v' x
theorem Conv.refl : Conv C led led := fun Φ s S => ⟨Φ, Le.refl _, S⟩
theorem W.conv {α β : Type} {R : PH → β → α → Prop} {t : Sem α} {led' : Led} {Q : β → Led → Prop} (hc : Conv C led led') (h : W C n X R t led' Q) : W C n X R t led Q := fun A Φ s hA S => by
  obtain ⟨Φ', h1, S1⟩ := hc Φ s S.toSat0
  exact wpGo h1 (h A Φ' s hA ⟨S1, S.tk⟩)
theorem W1.conv {α β : Type} {R : PH → β → α → Prop} {f : Value → Sem α} {v v' : V} {led' : Led} {Q : β → Led → Prop} (hc : ConvV C led v led' v') (h : W1 C n X R f v' led' Q) : W1 C n X R f v led Q := fun A Φ s x hA S hx => by
  obtain ⟨Φ', h1, S1, r1⟩ := hc Φ s x S.toSat0 hx
  exact wpGo h1 (h A Φ' s x hA ⟨S1, S.tk⟩ r1)
theorem W.convV {t : Sem Value} {Q : V → Led → Prop} (h : W C n X (RV C) t led fun v led1 => ∃ v' led2, ConvV C led1 v led2 v' ∧ Q v' led2) : W C n X (RV C) t led Q := fun A Φ s hA S =>
  wpAny_mono (h A Φ s hA S) (fun x s' ⟨Φ1, v, led1, h1, S1, r1, v', led2, hc, q⟩ => let ⟨Φ2, h2, S2, r2⟩ := hc Φ1 s' x S1 r1; ⟨Φ2, v', led2, h1.trans h2, S2, r2, q⟩) fun _ _ e => e
theorem W.convL {α β : Type} {R : PH → β → α → Prop} (hR : ∀ Φ Φ' b a, Le Φ Φ' → R Φ b a → R Φ' b a) {t : Sem α} {Q : β → Led → Prop} (h : W C n X R t led fun v led1 => ∃ led2, Conv C led1 led2 ∧ Q v led2) : W C n X R t led Q := fun A Φ s hA S =>
  wpAny_mono (h A Φ s hA S) (fun x s' ⟨Φ1, v, led1, h1, S1, r1, led2, hc, q⟩ => let ⟨Φ2, h2, S2⟩ := hc Φ1 s' S1; ⟨Φ2, v, led2, h1.trans h2, S2, hR _ _ _ _ h2 r1, q⟩) fun _ _ e => e
theorem Sat0.frz {a : Addr} {ao : AO} {led' : Led} {Φ : PH} {s : Shared} (S : Sat0 C Φ led s) (h : Rm a ao led led') : ∃ o, s.heap.get? a = some o ∧ OOk C Φ o ao ∧ Le Φ (Φ.put a o) ∧ Sat0 C (Φ.put a o) led' s := by
  obtain ⟨o, ho, hk⟩ := S.ok _ h.mem
  have hn : Φ a = none := S.off _ h.mem
  have hl := Le.put o hn
  refine ⟨o, ho, hk, hl, ⟨fun b o' e => hl _ _ (S.base b o' e), fun b o' e => ?_, (h.sublist.map (·.1)).nodup S.nd, fun p hp => ?_, fun p hp => let ⟨o', h1, h2⟩ := S.ok p (h.sublist.subset hp); ⟨o', h1, h2.mono hl⟩, S.gens, S.os, S.sysm.1, fun q => S.sysm.2 ((h.sublist.map (·.1)).subset q)⟩⟩
  · unfold PH.put at e
    by_cases hb : b = a
    · subst hb; rw [if_pos rfl] at e; cases e; exact ho
    · rw [if_neg hb] at e; exact S.sub b o' e
  · unfold PH.put
    rw [if_neg (h.off S.nd p hp)]; exact S.off p (h.sublist.subset hp)
theorem frzL {a : Addr} {vs : List V} {led' : Led} (h : Rm a (.list vs) led led') : ConvV C led (.ref a) led' (.lst vs) := fun Φ s x S hx => by
  obtain ⟨o, ho, ⟨xs, k, rfl, hv⟩, hl, S1⟩ := S.frz h
  exact ⟨_, hl, S1, by simp only [VR]; exact ⟨a, xs, k, wv_val hx, PH.put_self _ _ _, hv.mono hl⟩⟩
theorem frzD {a : Addr} {es : List (Str × V)} {led' : Led} (h : Rm a (.dict es) led led') : ConvV C led (.ref a) led' (.dct es) := fun Φ s x S hx => by
  obtain ⟨o, ho, ⟨kvs, hd, hv⟩, hl, S1⟩ := S.frz h
  exact ⟨_, hl, S1, by simp only [VR]; exact ⟨a, o, kvs, wv_val hx, Sat0.notSys S h.mem, PH.put_self _ _ _, hd, hv.mono hl⟩⟩
theorem Conv.loc {L : Addr} {loc : List (Str × V)} {x : Str} {v v' : V} {led1 led2 : Led} (hv : loc.lookup x = some v) (hc : ConvV C led v led1 v') (U : Up L (.frame loc) (.frame (setLoc loc x v')) led1 led2) (hm : (L, AO.frame loc) ∈ led) : Conv C led led2 := fun Φ s S => by
  obtain ⟨o, ho, es, ep, hd, hk, hr⟩ := S.ok _ hm
  obtain ⟨y, hy, hvy⟩ := hr x v hv
  obtain ⟨Φ1, h1, S1, r1⟩ := hc Φ s y S hvy
  refine ⟨Φ1, h1, S1.up1 (s' := s) U (fun b o _ e => e) ho ⟨es, ep, hd, hk, fun z w hz => ?_⟩⟩
  rcases lookup_setLoc hz with ⟨rfl, rfl⟩ | ⟨hne, hz⟩
  · exact ⟨y, hy, r1⟩
  · obtain ⟨u, hu, hw⟩ := hr z w hz
    exact ⟨u, hu, hw.mono h1⟩
end
section
variable {C : Cx} {n : Nat} {X : Addr → Led → Prop} {env : Env} {led : Led}
theorem isStr_is {k : Str} {v : Value} : C.sk.is k v = v.isStr k := by
  cases v <;> rfl
theorem lookIn_obj {o : Obj} {kvs : List (Str × Value)} (d : DObj C o kvs) (name : Str) : lookIn name o = some (valueAt kvs name) := by
  obtain ⟨hx, es, ep, hd, hk, hp, hn⟩ := d
  unfold lookIn
  rw [hd]
  have h1 := hp.find name
  have h2 : (es.toList.find? fun e => C.sk.is name e.key) = es.toList.find? (·.key.isStr name) := by
    congr 1; funext e; exact isStr_is
  rw [h2] at h1
  dsimp only
  cases hf : es.toList.find? (·.key.isStr name) with
  | some e => rw [hf] at h1; rw [← h1]; rfl
  | none =>
    rw [hf] at h1
    have : es.toList.any (·.refKey) = false := by
      rw [List.any_eq_false]
      intro e he
      obtain ⟨k, hk1, _⟩ := hk e (Array.mem_toList_iff.mp he)
      obtain ⟨t, ht⟩ := Value.isStrOf_shape hk1
      simp [DictEntry.refKey, ht]
    rw [this]; simp only [Bool.false_eq_true, if_false]; rw [← h1]; rfl
theorem putName_obj {o : Obj} {kvs : List (Str × Value)} (d : DObj C o kvs) (name : Str) (t : Tok) (v : Value) : DObj C (Obj.putName name (PyData.keyHash C.w.params name) (.str name t) v o) (stored kvs name v) := by
  obtain ⟨hx, es, ep, hd, hk, hp, hn⟩ := d
  obtain ⟨oc, odi, oda, osl⟩ := o
  dsimp only at hd
  subst hd
  rw [Obj.putName_eq]
  have hidx : es.findIdx? (fun x => x.key.isStr name) = (es.toList.findIdx? fun e => C.sk.is name e.key) := by
    obtain ⟨l⟩ := es
    rw [List.findIdx?_toArray]; congr 1; funext e; exact isStr_is.symm
  have hkv := hp.findIdx name
  unfold Obj.putNameByArray
  dsimp only
  rw [hidx]
  cases hi : (es.toList.findIdx? fun e => C.sk.is name e.key) with
  | some i =>
    have hany : (kvs.any fun kv => decide (kv.1 = name)) = true := by
      rw [hkv] at hi
      rw [List.any_eq_true]
      have := List.findIdx?_eq_some_iff_getElem.mp hi
      obtain ⟨h1, h2, _⟩ := this
      exact ⟨kvs[i], List.getElem_mem h1, h2⟩
    refine ⟨hx, _, _, rfl, hk.modify i v, ?_, ?_⟩
    · unfold stored
      rw [hany, if_pos rfl]
      have := hp.modify hn hi v
      rw [Array.toList_modify]
      exact this
    · unfold stored
      rw [hany, if_pos rfl]
      have : (kvs.map fun kv => if kv.1 = name then (kv.1, v) else kv).map (·.1) = kvs.map (·.1) := by
        rw [List.map_map]; congr 1; funext kv; simp only [Function.comp]; split <;> rfl
      rw [this]; exact hn
  | none =>
    have hany : (kvs.any fun kv => decide (kv.1 = name)) = false := by
      rw [hkv] at hi
      rw [List.any_eq_false]
      intro x hx'
      have := List.findIdx?_eq_none_iff.mp hi x hx'
      simpa using this
    refine ⟨hx, _, _, rfl, hk.push (sk_is (C := C)) v, ?_, ?_⟩
    · unfold stored
      rw [hany]
      simp only [Bool.false_eq_true, if_false]
      rw [Array.toList_push]
      exact hp.append sk_is _ v
    · unfold stored
      rw [hany]
      simp only [Bool.false_eq_true, if_false, List.map_append, List.map_cons, List.map_nil]
      rw [List.nodup_append]
      refine ⟨hn, by simp, fun a ha b hb e => ?_⟩
      rw [List.mem_singleton.mp hb] at e
      obtain ⟨x, hx', rfl⟩ := List.mem_map.mp ha
      have := List.any_eq_false.mp hany x hx'
      simp at this
      exact this e
structure Inst (C : Cx) (led : Led) (x : Addr) (K dx : Addr) (es : List (Str × V)) : Prop where
  ex : ∃ sl, (x, AO.obj ⟨.ref K, some dx, .plain, sl⟩) ∈ led ∧ (dx, AO.dict es) ∈ led
structure Cls (C : Cx) (Fg : Frag) (K : Addr) : Prop where
  inn : Fg.In C.base
  ga : findIn Fg (.ref K) "__getattribute__" = some (some (.builtin "object.__getattribute__"))
  gn : findIn Fg (.ref K) "__getattr__" = some none
  sa : findIn Fg (.ref K) "__setattr__" = some (some (.builtin "object.__setattr__"))
  over : plainOver Fg K = true
  hd : hasDictIn Fg K = true
theorem Cls.at {Fg : Frag} {K : Addr} (c : Cls C Fg K) {Φ : PH} {s : Shared} (S : Sat0 C Φ led s) : Fg.In s.heap := c.inn.keeps fun b o e => S.keep e
theorem Inst.at {x K dx : Addr} {es : List (Str × V)} (i : Inst C led x K dx es) {Φ : PH} {s : Shared} (S : Sat0 C Φ led s) : ∃ sl od kvs, (dx, AO.dict es) ∈ led ∧ s.heap.get? x = some ⟨.ref K, some dx, .plain, sl⟩ ∧ s.heap.get? dx = some od ∧ DObj C od kvs ∧ VEs C Φ es kvs ∧ InstAt s.heap x ⟨.ref K, some dx, .plain, sl⟩ K (some od) := by
  obtain ⟨sl, h1, h2⟩ := i.ex
  obtain ⟨o, ho, rfl, _⟩ := S.ok _ h1
  obtain ⟨od, hod, kvs, hd, hv⟩ := S.ok _ h2
  exact ⟨sl, od, kvs, h2, ho, hod, hd, hv, ⟨ho, rfl, rfl, hod⟩⟩
theorem handed_of {Φ : PH} {v : V} {x : Value} (h : VR C Φ v x) (hv : ∀ i, v = .val (.builtin i) → handedIn (.builtin i) = true) : handedIn x = true := by
  cases x with
  | builtin i =>
    cases v with
    | val y => rw [← wv_val h] at hv; exact hv i rfl
    | none => simp [VR] at h
    | bool b => simp [VR] at h
    | int i => simp [VR] at h
    | str i => simp [VR] at h
    | tup vs => simp [VR] at h
    | lst vs => simp [VR] at h
    | dct es => simp [VR] at h
  | _ => rfl
theorem ga_own {x K dx : Addr} {es : List (Str × V)} {Fg : Frag} {name : Str} {v : V} {Q : V → Led → Prop} (c : Cls C Fg K) (i : Inst C led x K dx es) (hc : findIn Fg (.ref K) name = some none) (hv : es.lookup name = some v) (hh : ∀ i, v = .val (.builtin i) → handedIn (.builtin i) = true) (h : Q v led) :
    W1 C n X (RV C) (fun o => getAttr o name true) (.ref x) led Q := fun A Φ s y _ S hy => by
  rw [wv_val hy]
  obtain ⟨sl, od, kvs, _, _, _, hd, hr, I⟩ := i.at S.toSat0
  obtain ⟨z, hz, hw⟩ := ves_some hr hv
  exact get_value (c.at S.toSat0) I c.ga (findObj_own c.hd hc rfl (by rw [lookIn_obj hd, hz])) (handed_of hw hh) (post (S.toks _) hw h)
theorem wm_inst {x K f dx : Addr} {es : List (Str × V)} {Fg : Frag} {name : Str} {Q : V × List V → Led → Prop} (c : Cls C Fg K) (i : Inst C led x K dx es) (hc : findIn Fg (.ref K) name = some (some (.ref f))) (ht : typeIn Fg (.ref f) = some (.type "function")) (hv : es.lookup name = none) (h : Q (.ref f, [.ref x]) led) :
    WM C n X name (.ref x) led Q := fun pl A Φ s y _ S hy => by
  rw [wv_val hy]
  obtain ⟨sl, od, kvs, _, _, _, hd, hr, I⟩ := i.at S.toSat0
  have hz := ves_none hr hv
  exact method_fn (c.at S.toSat0) I c.ga c.gn hc ht (by show (lookIn name od).map _ = _; rw [lookIn_obj hd, hz]; rfl) (post (R := RM C) S.toSat0 ⟨vval, VRs.cons vval VRs.nil⟩ h)
theorem wm_own {x K dx : Addr} {es : List (Str × V)} {Fg : Frag} {name : Str} {v : V} {Q : V × List V → Led → Prop} (c : Cls C Fg K) (i : Inst C led x K dx es) (hc : findIn Fg (.ref K) name = some none) (hv : es.lookup name = some v) (hh : ∀ i, v = .val (.builtin i) → handedIn (.builtin i) = true) (h : Q (v, []) led) :
    WM C n X name (.ref x) led Q := fun pl A Φ s y _ S hy => by
  rw [wv_val hy]
  obtain ⟨sl, od, kvs, _, _, _, hd, hr, I⟩ := i.at S.toSat0
  obtain ⟨z, hz, hw⟩ := ves_some hr hv
  have hcan := PySem.F.canon_object_ga
  unfold getMethod specialOf
  refine wpAny_bind (wpAny_bind (I.type.here ((looks_findIn (c.at S.toSat0) c.ga).here ?_)))
  show wpAny _ _ (if (Manifest.canonical "object.__getattribute__" != "object.__getattribute__") = true then _ else _) _ _ _
  rw [hcan, if_neg Bool.false_ne_true]
  refine wpAny_bind (wpAny_bind (I.type.here ((looks_findIn (c.at S.toSat0) c.gn).here ?_)))
  show wpAny _ _ (if (none : Option Value).isSome = true then _ else _) _ _ _
  rw [if_neg (by decide)]
  refine wpAny_bind (wpAny_bind (I.type.here ((looks_findIn (c.at S.toSat0) hc).here ?_)))
  exact wpAny_bind (get_value (c.at S.toSat0) I c.ga (findObj_own c.hd hc rfl (by rw [lookIn_obj hd, hz])) (handed_of hw hh) (wpAny_pure (post (R := RM C) (S.toks _) ⟨hw, VRs.nil⟩ h)))
end
section
variable {C : Cx} {n : Nat} {X : Addr → Led → Prop} {env : Env} {led : Led}
theorem wm_shadow {x K f dx : Addr} {es : List (Str × V)} {Fg : Frag} {name : Str} {v : V} {g : Value} {Q : V × List V → Led → Prop} (c : Cls C Fg K) (i : Inst C led x K dx es) (hc : findIn Fg (.ref K) name = some (some (.ref f))) (ht : typeIn Fg (.ref f) = some (.type "function"))
    (hg : specialIn Fg (.ref f) "__get__" = some (some g)) (htk : takesIn Fg (.ref f) = some false) (hv : es.lookup name = some v) (hh : ∀ i, v = .val (.builtin i) → handedIn (.builtin i) = true) (h : Q (v, []) led) :
    WM C n X name (.ref x) led Q := fun pl A Φ s y _ S hy => by
  rw [wv_val hy]
  obtain ⟨sl, od, kvs, _, hox, hod, hd, hr, I⟩ := i.at S.toSat0
  obtain ⟨z, hz, hw⟩ := ves_some hr hv
  have hcan := PySem.F.canon_object_ga
  have hlk : lookIn name od = some (some z) := by rw [lookIn_obj hd, hz]
  unfold getMethod specialOf
  refine wpAny_bind (wpAny_bind (I.type.here ((looks_findIn (c.at S.toSat0) c.ga).here ?_)))
  show wpAny _ _ (if (Manifest.canonical "object.__getattribute__" != "object.__getattribute__") = true then _ else _) _ _ _
  rw [hcan, if_neg Bool.false_ne_true]
  refine wpAny_bind (wpAny_bind (I.type.here ((looks_findIn (c.at S.toSat0) c.gn).here ?_)))
  show wpAny _ _ (if (none : Option Value).isSome = true then _ else _) _ _ _
  rw [if_neg (by decide)]
  refine wpAny_bind (wpAny_bind (I.type.here ((looks_findIn (c.at S.toSat0) hc).here (wpAny_bind ((looks_typeIn (c.at S.toSat0) ht).here ?_)))))
  rw [if_neg (by decide +kernel)]
  refine wpAny_bind (wpAny_loadPart I.at_ ?_)
  refine wpAny_bind (wpAny_bind (wpAny_loadPart hod ?_))
  rw [nsLook_of hlk]
  refine wpAny_pure ?_
  have hfo : findObj Fg K (some od) name = some (.value z) := by
    obtain ⟨cd, hc', hd'⟩ := any_some c.hd
    unfold findObj
    have ho : W.ownOf cd (some od) name = some (some z) := by unfold W.ownOf; rw [if_pos hd']; exact hlk
    rw [hc', Option.bind_some, hc, Option.bind_some]
    simp only [hg, htk, Option.bind_some, ho]
  exact wpAny_bind (get_value (c.at S.toSat0) I c.ga hfo (handed_of hw hh) (wpAny_pure (post (R := RM C) (S.toks _) ⟨hw, VRs.nil⟩ h)))
theorem ga_meth {x K f dx : Addr} {es : List (Str × V)} {Fg : Frag} {name : Str} {Q : V → Led → Prop} (c : Cls C Fg K) (i : Inst C led x K dx es) (hc : findIn Fg (.ref K) name = some (some (.ref f))) (ht : typeIn Fg (.ref f) = some (.type "function"))
    (hg : specialIn Fg (.ref f) "__get__" = some (some (.builtin "function.__get__"))) (htk : takesIn Fg (.ref f) = some false) (hcn : copiedNames.contains name = false) (hv : es.lookup name = none)
    (h : ∀ q, Q (.ref q) ((q, .obj (methodObj (.ref f) (.ref x))) :: led)) : W1 C n X (RV C) (fun o => getAttr o name true) (.ref x) led Q := fun A Φ s y _ S hy => by
  rw [wv_val hy]
  obtain ⟨sl, od, kvs, _, hox, hod, hd, hr, I⟩ := i.at S.toSat0
  have hz := ves_none hr hv
  refine get_bind (c.at S.toSat0) I c.ga (findObj_fn c.hd hc hg htk hcn (by rw [lookIn_obj hd, hz])) c.gn (wpAny_call (fn_get (s := { s with toks := s.toks + 1 }) (c.at (S.toSat0.toks (s.toks+1))) ht (handed_on rfl ?_)))
  exact ⟨Φ, _, _, Le.refl _, (S.toks (s.toks + 1)).alloc (ao := .obj (methodObj (.ref f) (.ref x))) rfl ⟨rfl, rfl⟩, vval, h _⟩
theorem sa_own {x K dx : Addr} {es : List (Str × V)} {Fg : Frag} {name : Str} {v : V} {Q : Unit → Led → Prop} (c : Cls C Fg K) (i : Inst C led x K dx es) (ht : takerIn Fg K name = some none) (hz : es.length ≤ 900)
    {led' : Led} (U : Up dx (.dict es) (.dict (stE es name v)) led led') (h : Q () led') : W2 C n X RU (fun o v => setAttr o name v) (.ref x) v led Q := fun A Φ s y z hA S hy hv => by
  rw [wv_val hy]
  obtain ⟨sl, od, kvs, hm, hox, hod, hd, hr, I⟩ := i.at S.toSat0
  have X0 := c.at S.toSat0
  refine set_plain X0 I c.sa (osa_open (s := { s with toks := s.toks + 1 }) X0 I c.over ht fun b => ?_)
  obtain ⟨cd, hc, hd'⟩ := any_some c.hd
  refine wpAny_bind (wpAny_pure (wpAny_bind (wpAny_bind (wpAny_loadPart hox (wpAny_bind (looks_clsIn X0 hc _ _ _ _ (fun _ _ e => e) ?_))))))
  rw [hd']
  refine wpAny_pure (a := some dx) (wpAny_bind (wpAny_pure (wpAny_bind ?_)))
  have hput := putName_obj hd name (s.toks + 1) z
  have hlk := lookIn_obj hd name
  unfold nsSet
  refine wpAny_bind (wpAny_bind (wpAny_askSetting (wpAny_pure (wpAny_bind (wpAny_mkText (wpAny_bind (wpAny_loadPart hod ?_)))))))
  obtain ⟨hx, es', ep, hdd, hk, hp, hn⟩ := id hd
  rw [hdd]
  dsimp only
  have cc : (!es'.any (·.key.isStr name) && es'.any (·.refKey)) = false := by
    have : es'.any (·.refKey) = false := by
      rw [Array.any_eq_false']
      intro e he
      obtain ⟨k, hk1, _⟩ := hk e he
      obtain ⟨t, ht⟩ := Value.isStrOf_shape hk1
      simp [DictEntry.refKey, ht]
    rw [this, Bool.and_false]
  rw [aRefKeyMayBeTheName_at, cc]
  have hfr : (Obj.putName name (PyData.keyHash C.w.params name) (.str name (s.toks + 1)) z od).isFreed = false := by
    obtain ⟨_, es2, ep2, h2, _⟩ := id hput
    exact Obj.isFreed_of_dict h2
  have D' := Heap.get?_update_self (Obj.putName name (PyData.keyHash C.w.params name) (.str name (s.toks + 1)) z) hod hfr
  refine wpAny_updatePart hod ?_
  obtain ⟨_, es2, ep2, h2, h3, h4, h5⟩ := id hput
  have hl2 : es2.toList.length = (stored kvs name z).length := h4.length
  have hl3 := stored_length_le kvs name z
  have hl4 := ves_length hr
  refine wpAny_bind (wpAny_lookBehind D' (by rw [h2]; exact pastItsLine_dict (by rw [sizeLine_eq]; rw [Array.length_toList] at hl2; walk_at "om")) ?_)
  refine wpAny_pure ⟨Φ, (), led', Le.refl _, ?_, trivial, h⟩
  exact S.toSat0.up1 U (s' := { s with heap := s.heap.update dx (Obj.putName name (PyData.keyHash C.w.params name) (.str name (s.toks + 1)) z), toks := _ }) (Heap.SameBut.update ..).extBut D' ⟨_, hput, ves_stored hr hv⟩
end
section
variable {C : Cx} {n : Nat} {X : Addr → Led → Prop} {env : Env} {led : Led}
noncomputable abbrev kAttr (C : Cx) (n : Nat) (X : Addr → Led → Prop) (attr : Str) (Q : V → Led → Prop) : V → Led → Prop := fun v led1 => W1 C n X (RV C) (fun o => getAttr o attr true) v led1 Q
noncomputable abbrev kExp (Q : F → Led → Prop) : V → Led → Prop := fun _ led1 => Q .next led1
theorem we_attr {o : Expr} {attr : Str} {p : Pos} {Q : V → Led → Prop} (h : WE C n X env o led (kAttr C n X attr Q))
    (hb : attributeBase o attr env (eval o env) = eval o env := by rfl) : WE C n X env (.Attribute o attr p) led Q := fun A Φ s hA S => by
  rw [arm_eval_Attribute, hb]
  refine wpSeq S.tk (h A Φ s hA S) (fun ov Φ1 v led1 s1 h1 S1 r1 q1 => ?_)
  refine wpAny_bind (wpAny_standAt (wpAny_bind (wpAny_holding ?_)))
  exact wpAny_mono (q1 A Φ1 s1 ov hA S1 r1) (fun r s2 z => wpAny_bind (wpAny_letTemporaryGo (wpAny_pure z))) fun _ _ z => z
theorem wa_attr {o : Expr} {attr : Str} {p : Pos} {v : V} {Q : Unit → Led → Prop} (h : WE C n X env o led fun ov led1 => W2 C n X RU (fun o v => setAttr o attr v) ov v led1 Q) : W1 C n X RU (assign (.Attribute o attr p) env) v led Q := fun A Φ s y hA S hy => by
  rw [arm_assign_Attribute]
  refine wpSeq (R := RV C) S.tk (wpAny_holding (h A Φ s hA S)) (fun ov Φ1 v1 led1 s1 h1 S1 r1 q1 => ?_)
  refine wpAny_bind (wpAny_standAt (wpAny_bind (wpAny_holding ?_)))
  exact wpAny_mono (q1 A Φ1 s1 ov y hA S1 r1 (hy.mono h1)) (fun r s2 z => wpAny_release z) fun _ _ z => z
theorem wa_sub {o i : Expr} {p : Pos} {v : V} {Q : Unit → Led → Prop} (h : WE C n X env o led fun ov led1 => WE C n X env i led1 fun iv led2 => W3 C n X RU setItem ov iv v led2 Q) : W1 C n X RU (assign (.Subscript o i p) env) v led Q := fun A Φ s y hA S hy => by
  rw [arm_assign_Subscript]
  refine wpSeq (R := RV C) S.tk (wpAny_holding (h A Φ s hA S)) (fun ov Φ1 v1 led1 s1 h1 S1 r1 q1 => ?_)
  refine wpSeq (R := RV C) S1.tk (wpAny_holding (q1 A Φ1 s1 hA S1)) (fun iv Φ2 v2 led2 s2 h2 S2 r2 q2 => ?_)
  refine wpAny_bind (wpAny_standAt (wpAny_bind (wpAny_holding ?_)))
  exact wpAny_mono (q2 A Φ2 s2 ov iv y hA S2 (r1.mono h2) r2 (hy.mono (h1.trans h2))) (fun r s2 z => wpAny_release z) fun _ _ z => z
noncomputable def WIn (C : Cx) (n : Nat) (X : Addr → Led → Prop) : List (Value → Sem Unit) → List V → Led → (Led → Prop) → Prop
  | t :: ts, v :: vs, led, Q => W1 C n X RU t v led fun _ led1 => WIn C n X ts vs led1 Q
  | _, _, led, Q => Q led
theorem wIn {A : Around} (hA : Room n A) : ∀ {ts : List (Value → Sem Unit)} {vs : List V} {xs : List Value} {led : Led} {Q : Led → Prop} {Φ : PH} {s : Shared}, Sat C Φ led s → VRs C Φ vs xs → WIn C n X ts vs led Q →
    wpAny C.M A (assignInOrder ts xs) (Post C Φ RU fun _ l => Q l) (EPost C Φ X) s
  | [], vs, xs, led, Q, Φ, s, S, hv, h => by
    have : assignInOrder [] xs = pure () := by unfold assignInOrder; rfl
    rw [this]
    exact wpAny_pure (post (b := ()) S.toSat0 trivial (by simpa [WIn] using h))
  | t :: ts, [], xs, led, Q, Φ, s, S, hv, h => by
    simp only [VRs] at hv; subst hv
    exact wpAny_pure (post (b := ()) S.toSat0 trivial h)
  | t :: ts, v :: vs, xs, led, Q, Φ, s, S, hv, h => by
    simp only [VRs] at hv
    obtain ⟨y, ys, rfl, h1, h2⟩ := hv
    show wpAny C.M A (holding ys (t y) >>= fun _ => assignInOrder ts ys) _ _ s
    refine wpSeq (R := RU) S.tk (wpAny_holding (h A Φ s y hA S h1)) (fun _ Φ1 _ led1 s1 h1 S1 _ q1 => ?_)
    exact wIn hA S1 (h2.mono h1) q1
noncomputable def UnpV (C : Cx) (led : Led) (v : V) (vs : List V) : Prop := ∀ A Φ s x (P : List Value → Shared → Prop) (E : Value → Shared → Prop), A.handled = none → Sat C Φ led s → VR C Φ v x → (∀ xs s', Sat C Φ led s' → VRs C Φ vs xs → P xs s') → wpAny C.M A (unpackItems x vs.length none) P E s
theorem keeps_ext {h h' : Heap} (he : Heap.ExtBut h.objs.size h h') : ∀ b o, h.get? b = some o → h'.get? b = some o := fun b o e => he b o (Nat.ne_of_lt (Heap.lt_size e)) e
theorem unp_list {v : V} {vs : List V} (hv : ListV C led v vs) : UnpV C led v vs := fun A Φ s x P E hh S hx hP => by
  obtain ⟨a, xs, k, rfl, e, hr⟩ := hv Φ s x S hx
  have hl := hr.length
  have : vs.length = xs.toArray.size := by rw [List.size_toArray, hl]
  rw [this]
  exact kun_itemsOf hh (isList_of e) fun h' he => hP _ _ ⟨S.toSat0.ext (s' := { s with heap := h' }) (keeps_ext he) rfl rfl, S.tk⟩ (by simpa using hr)
theorem unp_tup {v : V} {vs : List V} (hv : TupV C led v vs) : UnpV C led v vs := fun A Φ s x P E hh S hx hP => by
  obtain ⟨a, xs, k, rfl, e, hr⟩ := hv Φ s x S hx
  have hl := hr.length
  have : vs.length = xs.toArray.size := by rw [List.size_toArray, hl]
  rw [this]
  exact wpAny_unpackItems_tuple hh (isTup_of e) fun h' he => hP _ _ ⟨S.toSat0.ext (s' := { s with heap := h' }) (keeps_ext he) rfl rfl, S.tk⟩ (by simpa using hr)
theorem wa_tup {elts : List Expr} {k : Nat} {p : Pos} {v : V} {vs : List V} {Q : Unit → Led → Prop} (hv : UnpV C led v vs) (hn : (assignEach elts env).length = vs.length) (h : WIn C n X ((assignEach elts env).map (·.2)) vs led fun l => Q () l)
    (hstar : (assignEach elts env).findIdx? (·.1) = none := by rfl) : W1 C n X RU (assign (.Tuple elts k p) env) v led Q := fun A Φ s y hA S hy => by
  show wpAny C.M A (standAt p >>= fun _ => unpack y (assignEach elts env)) _ _ s
  refine wpAny_bind (wpAny_standAt ?_)
  unfold unpack
  rw [hstar, hn]
  refine wpAny_bind (wpAny_holding (hv A Φ s y _ _ hA.handled S hy fun xs s' S' r' => ?_))
  exact wIn hA S' r' h
theorem wx_expr {value : Expr} {p : Pos} {Q : F → Led → Prop} (h : WE C n X env value led (kExp Q))
    (hi : interactive env = false := by rfl) (hs : swapsWith value none p.line env = pure false := by kernel_rfl) : WX C n X env (.Expr value p) led Q := fun A Φ s hA S => by
  show wpAny C.M A (standAt p >>= fun _ => if interactive env then printExpr (eval value env) else (do if ← swapsWith value none p.line env then do evalThenUse value env fun _ => point; pure .next else do dropValue value p (← eval value env))) _ _ s
  refine wpAny_bind (wpAny_standAt ?_)
  rw [hi]
  simp only [Bool.false_eq_true, if_false]
  rw [hs]
  refine wpAny_bind (wpAny_pure ?_)
  simp only [Bool.false_eq_true, if_false]
  refine wpSeq S.tk (h A Φ s hA S) (fun y Φ1 v led1 s1 h1 S1 r1 q1 => ?_)
  have fin : Post C Φ1 (RF C) Q Flow.next s1 := post (b := F.next) S1.toSat0 rfl q1
  unfold dropValue
  split
  · exact wpAny_pure fin
  · exact wpAny_bind (wpAny_standAt (wpAny_bind (wpAny_runValue (codeAny_builtin entry_let_go (show wpAny _ _ (ret .none) _ _ s1 from wpAny_pure (wpAny_pure fin))))))
  · exact wpAny_pure fin
noncomputable def WAs (C : Cx) (n : Nat) (X : Addr → Led → Prop) (v : V) : List (Value → Sem Unit) → Led → (Led → Prop) → Prop
  | [], led, Q => Q led
  | t :: ts, led, Q => W1 C n X RU t v led fun _ led1 => WAs C n X v ts led1 Q
theorem wAs {A : Around} (hA : Room n A) {v : V} {x : Value} : ∀ {ts : List (Value → Sem Unit)} {led : Led} {Q : Led → Prop} {Φ : PH} {s : Shared}, Sat C Φ led s → VR C Φ v x → WAs C n X v ts led Q →
    wpAny C.M A (assignAll x ts) (Post C Φ RU fun _ l => Q l) (EPost C Φ X) s
  | [], led, Q, Φ, s, S, hv, h => by
    exact wpAny_pure (post (b := ()) S.toSat0 trivial h)
  | [t], led, Q, Φ, s, S, hv, h => by
    exact wpAny_mono (h A Φ s x hA S hv) (fun _ _ z => z) fun _ _ z => z
  | t :: t' :: ts, led, Q, Φ, s, S, hv, h => by
    show wpAny C.M A (holding [x] (t x) >>= fun _ => assignAll x (t' :: ts)) _ _ s
    refine wpSeq (R := RU) S.tk (wpAny_holding (h A Φ s x hA S hv)) (fun _ Φ1 _ led1 s1 h1 S1 _ q1 => ?_)
    exact wAs hA S1 (hv.mono h1) q1
theorem wx_assigns {targets : List Expr} {value : Expr} {p : Pos} {Q : F → Led → Prop} (h : WE C n X env value led fun v led1 => WAs C n X v ((assignEach targets env).map (·.2)) led1 fun led2 => Q .next led2)
    (hs : swapsWithSole targets value p.line env = pure false := by kernel_rfl) (hw : swappedStores targets value env = pure none := by kernel_rfl) : WX C n X env (.Assign targets value p) led Q := fun A Φ s hA S => by
  refine wpAny_Assign_stores (wpThen S.tk (h A Φ s hA S) (fun x Φ1 v led1 s1 h1 S1 r1 q1 => ?_) fun _ _ e => e) hs hw
  exact wpThen S1.tk (wAs hA S1 r1 q1) (fun _ Φ2 _ led2 s2 h2 S2 _ q2 => ⟨Φ2, .next, led2, h1.trans h2, S2.toSat0, rfl, q2⟩) fun _ _ e => e.mono h1
theorem wx_swap {elts : List Expr} {k : Nat} {tp : Pos} {value : Expr} {p : Pos} {names : List Str} {Q : F → Led → Prop} (hw : swappedStores [.Tuple elts k tp] value env = pure (some names))
    (h : WE C n X env value led fun v led1 => ∃ vs, UnpV C led1 v vs ∧ vs.length = names.length ∧ WIn C n X (names.reverse.map fun n => storeName env n) vs.reverse led1 fun led2 => Q .next led2)
    (hs : swapsWithSole [.Tuple elts k tp] value p.line env = pure false := by kernel_rfl) : WX C n X env (.Assign [.Tuple elts k tp] value p) led Q := fun A Φ s hA S => by
  refine Assign_Tuple_swapped (names := names) (wpThen S.tk (h A Φ s hA S) (fun x Φ1 v led1 s1 h1 S1 r1 q1 => ?_) fun _ _ e => e) hs hw
  obtain ⟨vs, hu, hl, q1⟩ := q1
  rw [← hl]
  refine hu A Φ1 s1 x _ _ hA.handled S1 r1 fun xs s' S' r' => ?_
  have key : ∀ (ns : List Str) (vs : List V) (xs : List Value) (led : Led) (Q : Led → Prop) (Φ : PH) (s : Shared), Sat C Φ led s → VRs C Φ vs xs → WIn C n X (ns.map fun n => storeName env n) vs led Q →
      wpAny C.M A (assignInOrder (ns.map fun n => bindName env n) xs) (Post C Φ RU fun _ l => Q l) (EPost C Φ X) s := by
    intro ns
    induction ns with
    | nil =>
      intro vs xs led Q Φ s S hv h
      have : assignInOrder (List.map (fun n => bindName env n) []) xs = pure () := by rw [List.map_nil]; unfold assignInOrder; rfl
      rw [this]
      exact wpAny_pure (post (b := ()) S.toSat0 trivial (by simpa [WIn] using h))
    | cons nm ns ih =>
      intro vs xs led Q Φ s S hv h
      cases vs with
      | nil =>
        simp only [VRs] at hv; subst hv
        exact wpAny_pure (post (b := ()) S.toSat0 trivial h)
      | cons v vs =>
        simp only [VRs] at hv
        obtain ⟨y, ys, rfl, h1, h2⟩ := hv
        show wpAny C.M A (holding ys (bindName env nm y) >>= fun _ => assignInOrder (ns.map fun n => bindName env n) ys) _ _ s
        refine wpSeq (R := RU) S.tk (wpAny_holding (wpAny_bindName (h A Φ s y hA S h1))) (fun _ Φ1 _ led1 s1 h1 S1 _ q1 => ?_)
        exact ih vs ys led1 Q Φ1 s1 S1 (h2.mono h1) q1
  exact wpThen S'.tk (key names.reverse vs.reverse xs.reverse led1 _ Φ1 s' S' r'.reverse q1) (fun _ Φ2 _ led2 s2 h2 S2 _ q2 => ⟨Φ2, .next, led2, h1.trans h2, S2.toSat0, rfl, q2⟩) fun _ _ e => e.mono h1
end
section
variable {C : Cx} {n : Nat} {X : Addr → Led → Prop} {env : Env} {led : Led}
noncomputable def RP : PH → Option Int → Value → Prop := fun _ p x => IsPart x p
noncomputable abbrev WP (C : Cx) (n : Nat) (X : Addr → Led → Prop) (env : Env) (e : Option Expr) (led : Led) (Q : Option Int → Led → Prop) : Prop := W C n X RP (evalPart e env) led Q
theorem wp_none {Q : Option Int → Led → Prop} (h : Q none led) : WP C n X env none led Q := fun A Φ s hA S => by
  rw [evalPart_none]; exact wpAny_pure (post (R := RP) (b := none) S.toSat0 .none h)
theorem wp_some {e : Expr} {Q : Option Int → Led → Prop} (h : WE C n X env e led fun v led1 => ∃ i, v = .int i ∧ Q (some i) led1) : WP C n X env (some e) led Q := fun A Φ s hA S => by
  rw [evalPart_some]
  refine wpThen S.tk (h A Φ s hA S) (fun x Φ1 v led1 s1 h1 S1 r1 q1 => ?_) fun _ _ e => e
  obtain ⟨i, rfl, q1⟩ := q1
  obtain ⟨t, rfl⟩ := wv_int r1
  exact ⟨Φ1, some i, led1, h1, S1.toSat0, .int i t, q1⟩
noncomputable def SlO (o : Obj) (lo hi st : Option Int) : Prop := o.cls = .type "slice" ∧ ∃ l u t, o.data = .fields #[l, u, t] ∧ IsPart l lo ∧ IsPart u hi ∧ IsPart t st
theorem we_slice {lo hi st : Option Expr} {p : Pos} {Q : V → Led → Prop} (h : WP C n X env lo led fun l led1 => WP C n X env hi led1 fun u led2 => WP C n X env st led2 fun t led3 => ∀ a o, SlO o l u t → Q (.ref a) ((a, .obj o) :: led3)) : WE C n X env (.Slice lo hi st p) led Q := fun A Φ s hA S => by
  refine wpAny_Slice (wpThen S.tk (h A Φ s hA S) (fun x Φ1 l led1 s1 h1 S1 r1 q1 => ?_) fun _ _ e => e)
  refine wpThen S1.tk (q1 A Φ1 s1 hA S1) (fun y Φ2 u led2 s2 h2 S2 r2 q2 => ?_) fun _ _ e => e.mono h1
  refine wpThen S2.tk (q2 A Φ2 s2 hA S2) (fun z Φ3 t led3 s3 h3 S3 r3 q3 => ?_) fun _ _ e => e.mono (h1.trans h2)
  exact ⟨Φ3, _, _, (h1.trans h2).trans h3, S3.toSat0.alloc (o := { cls := .type "slice", data := .fields #[x, y, z] }) (ao := .obj _) rfl ⟨rfl, rfl⟩, vval, q3 _ _ ⟨rfl, x, y, z, rfl, r1, r2, r3⟩⟩
noncomputable def pickV (vs : List V) (lo hi : Option Int) : List V := (vs.drop (kms_lo lo vs.length)).take (kms_hi hi vs.length - kms_lo lo vs.length)
theorem gi_lslice {v : V} {vs : List V} {a : Addr} {o : Obj} {lo hi : Option Int} {Q : V → Led → Prop} (hv : ListV C ((a, .obj o) :: led) v vs) (ho : SlO o lo hi none) (hz : vs.length ≤ sizeLine) (h : Q (.lst (pickV vs lo hi)) led) : W2 C n X (RV C) getItem v (.ref a) ((a, .obj o) :: led) Q := fun A Φ s x y _ S hx hy => by
  rw [wv_val hy]
  obtain ⟨o', ho', rfl, _⟩ := S.at (a := a) List.mem_cons_self
  obtain ⟨b, xs, k, rfl, e, hr⟩ := hv Φ s x S hx
  obtain ⟨hc, l, u, t, hd, pl, pu, pt⟩ := ho
  have hl := hr.length
  refine wpAny_getItem_list_slice (isList_of e) ⟨_, ho', hc, hd⟩ pl pu pt (by intro h; cases h) ?_ (by rw [List.size_toArray, hl]; exact hz)
  rw [kms_pick_eq]
  obtain ⟨hle, S2⟩ := (S.drop (List.sublist_cons_self _ _)).allocF (o := lstO (kms_pick xs lo hi) 0) rfl
  refine ⟨_, _, led, hle, S2.toSat0, ?_, h⟩
  simp only [RV, VR]
  refine ⟨_, _, 0, rfl, PH.put_self _ _ _, ?_⟩
  have := ((hr.drop (kms_lo lo xs.length)).take (kms_hi hi xs.length - kms_lo lo xs.length)).mono hle
  unfold pickV
  rw [← hl]
  exact this
theorem gi_lrev {v : V} {vs : List V} {a : Addr} {o : Obj} {Q : V → Led → Prop} (hv : ListV C ((a, .obj o) :: led) v vs) (ho : SlO o none none (some (-1))) (hz : vs.length ≤ sizeLine) (h : Q (.lst vs.reverse) led) : W2 C n X (RV C) getItem v (.ref a) ((a, .obj o) :: led) Q := fun A Φ s x y _ S hx hy => by
  rw [wv_val hy]
  obtain ⟨o', ho', rfl, _⟩ := S.at (a := a) List.mem_cons_self
  obtain ⟨b, xs, k, rfl, e, hr⟩ := hv Φ s x S hx
  obtain ⟨hc, l, u, t, hd, pl, pu, pt⟩ := ho
  have hl := hr.length
  refine wpAny_getItem_list_slice (isList_of e) ⟨_, ho', hc, hd⟩ pl pu pt (by intro h; cases h) ?_ (by rw [List.size_toArray, hl]; exact hz)
  rw [krv_pick]
  obtain ⟨hle, S2⟩ := (S.drop (List.sublist_cons_self _ _)).allocF (o := lstO xs.reverse 0) rfl
  refine ⟨_, _, led, hle, S2.toSat0, ?_, h⟩
  simp only [RV, VR]
  exact ⟨_, _, 0, rfl, PH.put_self _ _ _, hr.reverse.mono hle⟩
noncomputable def sdrop (x : Str) (a : Nat) : Str := ⟨(x.cps.toList.drop a).toArray⟩
noncomputable def stake (x : Str) (a : Nat) : Str := ⟨(x.cps.toList.take a).toArray⟩
theorem len_cps (x : Str) : x.length = x.cps.toList.length := by simp [Str.length]
theorem cut_drop (x : Str) (a : Nat) : (Builtin.Str.strSliceIndices (some (a : Int)) none 1 x.length).filterMap (x.cps[·]?) = x.cps.toList.drop a := by
  by_cases h : a ≤ x.length
  · rw [StrLaws.sliceIdx_none_hi, StrLaws.sliced_plain x h (Nat.le_refl _)]
    exact List.take_of_length_le (by rw [List.length_drop, len_cps]; walk_at "om")
  · rw [indices_beyond (by walk_at "om"), StrLaws.sliceIdx_none_hi, StrLaws.sliced_plain x (Nat.le_refl _) (Nat.le_refl _)]
    rw [len_cps] at h ⊢
    rw [List.drop_eq_nil_of_le (Nat.le_refl _), List.drop_eq_nil_of_le (by walk_at "om")]; simp
theorem cut_take (x : Str) (b : Nat) : (Builtin.Str.strSliceIndices none (some (b : Int)) 1 x.length).filterMap (x.cps[·]?) = x.cps.toList.take b := by
  by_cases h : b ≤ x.length
  · rw [StrLaws.sliceIdx_none_lo, show (some (0 : Int)) = some ((0 : Nat) : Int) from rfl, StrLaws.sliced_plain x (Nat.zero_le _) h]
    rfl
  · rw [sliceIdx_hi_beyond _ (by walk_at "om"), StrLaws.sliceIdx_none_lo, show (some (0 : Int)) = some ((0 : Nat) : Int) from rfl, StrLaws.sliced_plain x (Nat.zero_le _) (Nat.le_refl _)]
    rw [len_cps] at h ⊢
    rw [List.drop_zero, List.take_of_length_le (by walk_at "om"), List.take_of_length_le (by walk_at "om")]
theorem made_cut {x : Str} {t : Tok} {l u : Option (Int × Tok)} {r : List Nat} (hr : (slicePicked x l u none).filterMap (x.cps[·]?) = r) (hs : r.length ≤ x.length) (hx : (slicePicked x l u none).length = r.length) (hw : r.length = x.length → r = x.cps.toList)
    {Q : Value → Shared → Prop} {s : Shared} (hz : x.length ≤ sizeLine) (h : ∀ t' tk, Q (.str ⟨r.toArray⟩ t') { s with toks := tk }) : (sliceMade x t l u none).post Q s := by
  unfold sliceMade
  split
  · rename_i hc
    have : r.length = x.length := by simpa [hx] using hc
    have e : (⟨r.toArray⟩ : Str) = x := by rw [hw this]
    have := h t s.toks
    rw [e] at this
    exact this
  · rw [hr]
    exact ⟨by show r.toArray.size ≤ _; rw [List.size_toArray]; walk_at "om", h _ _⟩
theorem picked_len {x : Str} {l u : Option (Int × Tok)} (h : ∀ i ∈ slicePicked x l u none, i < x.length) : ((slicePicked x l u none).filterMap (x.cps[·]?)).length = (slicePicked x l u none).length := by
  have : ∀ (ls : List Nat), (∀ i ∈ ls, i < x.length) → (ls.filterMap (x.cps[·]?)).length = ls.length := by
    intro ls
    induction ls with
    | nil => intro _; rfl
    | cons i r ih =>
      intro hi
      have : i < x.cps.size := hi i List.mem_cons_self
      rw [List.filterMap_cons]
      simp only [Array.getElem?_eq_getElem this, List.length_cons]
      rw [ih fun j hj => hi j (List.mem_cons_of_mem _ hj)]
  exact this _ h
theorem idx_lt (l u : Option Int) (n : Nat) : ∀ i ∈ Builtin.Str.strSliceIndices l u 1 n, i < n := by
  intro i hi
  have key : ∀ (a b : Int), 0 ≤ a → b ≤ n → i ∈ sliceRange a b 1 → i < n := by
    intro a b h0 h1 hi
    unfold sliceRange at hi
    simp only [show ((1 : Int) > 0) = True from by simp, if_true] at hi
    obtain ⟨k, hk, rfl⟩ := List.mem_map.mp hi
    have hk := List.mem_range.mp hk
    split at hk
    · walk_at "om"
    · simp at hk
  unfold Builtin.Str.strSliceIndices at hi
  simp only [show ((1 : Int) > 0) = True from by simp, if_true] at hi
  cases l <;> cases u <;> dsimp only at hi <;> exact key _ _ (by walk_at "om") (by walk_at "om") hi
theorem gi_sdrop {x : Str} {k : Nat} {a : Addr} {o : Obj} {Q : V → Led → Prop} (ho : SlO o (some (k : Int)) none none) (hz : x.length ≤ sizeLine) (h : Q (.str (sdrop x k)) led) : W2 C n X (RV C) getItem (.str x) (.ref a) ((a, .obj o) :: led) Q := fun A Φ s y z _ S hx hy => by
  rw [wv_val hy]
  obtain ⟨t, rfl⟩ := wv_str hx
  obtain ⟨o', ho', rfl, _⟩ := S.at (a := a) List.mem_cons_self
  obtain ⟨hc, l, u, st, hd, pl, pu, pt⟩ := ho
  cases pl with
  | int _ tl =>
  cases pu
  cases pt
  have hp : (slicePicked x (some ((k : Int), tl)) none none).filterMap (x.cps[·]?) = x.cps.toList.drop k := cut_drop x k
  have hlen := picked_len (x := x) (l := some ((k : Int), tl)) (u := none) (idx_lt _ _ _)
  refine wpAny_getItem_str_slice (l := some (k, tl)) (u := none) (st := none) ⟨_, ho', hc, hd⟩ rfl (made_cut hp (by rw [List.length_drop, len_cps]; walk_at "om") (by rw [← hlen, hp]) (fun e => ?_) hz fun t' tk => ?_)
  · rw [List.length_drop, len_cps] at e
    by_cases h0 : k = 0
    · subst h0; rfl
    · have : x.cps.toList.length = 0 := by walk_at "om"
      rw [List.eq_nil_of_length_eq_zero this]; simp
  · exact post (S.toSat0.toks _ |>.drop (List.sublist_cons_self _ _)) vstr h
theorem gi_stake {x : Str} {k : Nat} {a : Addr} {o : Obj} {Q : V → Led → Prop} (ho : SlO o none (some (k : Int)) none) (hz : x.length ≤ sizeLine) (h : Q (.str (stake x k)) led) : W2 C n X (RV C) getItem (.str x) (.ref a) ((a, .obj o) :: led) Q := fun A Φ s y z _ S hx hy => by
  rw [wv_val hy]
  obtain ⟨t, rfl⟩ := wv_str hx
  obtain ⟨o', ho', rfl, _⟩ := S.at (a := a) List.mem_cons_self
  obtain ⟨hc, l, u, st, hd, pl, pu, pt⟩ := ho
  cases pu with
  | int _ tl =>
  cases pl
  cases pt
  have hp : (slicePicked x none (some ((k : Int), tl)) none).filterMap (x.cps[·]?) = x.cps.toList.take k := cut_take x k
  have hlen := picked_len (x := x) (l := none) (u := some ((k : Int), tl)) (idx_lt _ _ _)
  refine wpAny_getItem_str_slice (l := none) (u := some (k, tl)) (st := none) ⟨_, ho', hc, hd⟩ rfl (made_cut hp (by rw [List.length_take, len_cps]; walk_at "om") (by rw [← hlen, hp]) (fun e => ?_) hz fun t' tk => ?_)
  · rw [List.length_take, len_cps] at e
    exact List.take_of_length_le (by walk_at "om")
  · exact post (S.toSat0.toks _ |>.drop (List.sublist_cons_self _ _)) vstr h
theorem del_all {A : Around} {E : Value → Shared → Prop} {s : Shared} {l sl : Addr} {xs : List Value} {k : Nat} {os : Obj} {vl vu vs : Value} {Q : Unit → Shared → Prop} {prog : Program} {w : World}
    (hl : s.heap.get? l = some (lstO xs k)) (hos : s.heap.get? sl = some os) (hcs : os.cls = .type "slice") (hds : os.data = .fields #[vl, vu, vs]) (pl : IsPart vl none) (pu : IsPart vu none) (ps : IsPart vs none) (hz : xs.length ≤ sizeLine)
    (h : ∀ h', Heap.SameBut l s.heap h' → (∃ k', h'.get? l = some (lstO [] k')) → Q () { s with heap := h' }) : wpAny (model prog w) A (delItem (.ref l) (.ref sl)) Q E s := by
  have hT : s.TypeIs (.ref l) "list" := ⟨_, hl, rfl⟩
  have hTs : s.TypeIs (.ref sl) "slice" := ⟨os, hos, hcs⟩
  refine wpAny_delItem_slot hT (by decide) F.slot_list_delitem (call_meets (S := fun _ R s' => s' = s ∧ ∀ h', Heap.SameBut l s.heap h' → (∃ k', h'.get? l = some (lstO [] k')) → R (.ok (.ret .none)) { s with heap := h' }) F.slot_list_delitem hT F.entry_list_delitem (F.args_list_delitem_2 _ _) ?_ ⟨rfl, h⟩)
  refine .of_wp fun prog w A R s' hs' => ?_
  obtain ⟨rfl, hR⟩ := hs'
  show wpAny _ _ (Builtin.List.listSubscript? (.ref sl) >>= _) _ _ s'
  refine wpAny_bind ?_
  unfold Builtin.List.listSubscript?
  refine wpAny_bind (wpAny_specialOf hTs slice_no_index ?_)
  simp only [Option.isNone_none, if_true]
  refine wpAny_pure ?_
  show wpAny _ _ (typeOf (.ref sl) >>= _) _ _ s'
  refine wpAny_bind (wpAny_typeOf hTs ?_)
  rw [if_neg (by decide)]
  rw [listSliceParts_eq]
  refine wpAny_bind (wpAny_bind (wpAny_field hos hds (x := vs) rfl (wpAny_bind (wpAny_listPart ps ?_))))
  rw [if_neg (show ¬ ((rawPart none == rawInt 0) = true) from Bool.false_ne_true)]
  refine wpAny_bind (wpAny_field hos hds (x := vl) rfl (wpAny_bind (wpAny_listPart pl ?_)))
  refine wpAny_bind (wpAny_field hos hds (x := vu) rfl (wpAny_bind (wpAny_listPart pu (wpAny_pure ?_))))
  refine wpAny_bind (m := Builtin.List.listItems (.ref l)) ?_
  unfold Builtin.List.listItems
  refine wpAny_bind (wpAny_seqItems hl rfl (wpAny_pure ?_))
  refine wpAny_bind (wpAny_of_eq (sliceIndices_raw none none none xs.toArray.size (by intro h; cases h)) ?_)
  refine wpAny_bind (wpAny_rule ?_)
  have hnil : ∀ (f : Value × Nat → Option Value), (∀ x k, k < xs.length → f (x, k) = none) → (xs.toArray.toList.zipIdx.filterMap f).toArray = #[] := fun f hf => by
    have : xs.toArray.toList.zipIdx.filterMap f = [] := by
      rw [List.filterMap_eq_nil_iff]
      intro p hp
      obtain ⟨x, k⟩ := p
      have := List.snd_lt_of_mem_zipIdx hp
      exact hf x k (by simpa using this)
    rw [this]
  have hzero : ∀ (x : Value) (k : Nat), k < xs.length → (0 ≤ (k : Int) && (k : Int) < ((xs.toArray.size : Nat) : Int) && ((k : Int) - 0) % 1 == 0) = true := fun x k hk => by
    have h1 : (k : Int) < ((xs.toArray.size : Nat) : Int) := by rw [List.size_toArray]; walk_at "om"
    simp [h1]
    walk_at "om"
  refine wpAny_bind (m := updateSeq l _) (wpAny_updateSeq hl rfl ?_ (by rw [List.size_toArray]; exact hz) ?_)
  · refine wpAny_bind (wpAny_letGo (wpAny_pure ⟨_, rfl, hR _ (Heap.SameBut.update ..) ?_⟩))
    obtain ⟨k', hk'⟩ := setSeq hl _
    refine ⟨k', hk'.trans ?_⟩
    congr 1
    congr 1
    exact congrArg Array.toList (hnil _ fun x k hk => if_pos (hzero x k hk))
  · rw [show (_ : Array Value) = #[] from hnil _ fun x k hk => if_pos (hzero x k hk)]
    simp
theorem wx_delall {o : Expr} {sp : Pos} {p p' : Pos} {Q : F → Led → Prop} (h : WE C n X env o led fun v led1 => ∃ a vs led2, v = .ref a ∧ Up a (.list vs) (.list []) led1 led2 ∧ vs.length ≤ sizeLine ∧ Q .next led2) :
    WX C n X env (.Delete [.Subscript o (.Slice none none none sp) p'] p) led Q := fun A Φ s hA S => by
  show wpAny C.M A (standAt p >>= fun _ => deleteEach [.Subscript o (.Slice none none none sp) p'] env >>= fun _ => pure Flow.next) _ _ s
  refine wpAny_bind (wpAny_standAt (wpAny_bind ?_))
  show wpAny C.M A (delete (.Subscript o (.Slice none none none sp) p') env >>= fun _ => pure ()) _ _ s
  refine wpAny_bind (wpAny_delete_Subscript ?_)
  refine wpThen S.tk (h A Φ s hA S) (fun x Φ1 v led1 s1 h1 S1 r1 q1 => ?_) fun _ _ e => e
  obtain ⟨a, vs, led2, rfl, U, hz, q⟩ := q1
  rw [wv_val r1]
  refine wpAny_Slice ?_
  simp only [evalPart_none]
  refine wpAny_pure (wpAny_pure (wpAny_pure ?_))
  obtain ⟨o, ho, xs, k, rfl, hr⟩ := S1.at U.mem
  have S2 := S1.toSat0.ext (s' := { s1 with heap := s1.heap.push { cls := .type "slice", data := .fields #[.none, .none, .none] } }) (fun _ _ e => Heap.get?_push_of_some _ e) rfl rfl
  refine del_all (Heap.get?_push_of_some _ ho) (Heap.get?_push_size _ rfl) rfl rfl .none .none .none (by rw [hr.length]; exact hz) (fun h' hs hk => wpAny_pure (wpAny_pure ?_))
  obtain ⟨k', hk'⟩ := hk
  exact ⟨Φ1, .next, led2, h1, S2.up1 (s' := { s1 with heap := h' }) U hs.extBut hk' ⟨[], k', rfl, VRs.nil⟩, rfl, q⟩
end
section
variable {C : Cx} {n : Nat} {X : Addr → Led → Prop} {env : Env} {led : Led}
theorem we_neg {e : Expr} {p : Pos} {Q : V → Led → Prop} (h : WE C n X env e led fun v led1 => ∃ i, v = .int i ∧ Q (.int (-i)) led1) : WE C n X env (.UnaryOp .USub e p) led Q := fun A Φ s hA S => by
  refine wpAny_UnaryOp (wpThen S.tk (h A Φ s hA S) (fun x Φ1 v led1 s1 h1 S1 r1 q1 => ?_) fun _ _ e => e)
  obtain ⟨i, rfl, q1⟩ := q1
  obtain ⟨t, rfl⟩ := wv_int r1
  exact wpGo h1 (PyProof.Rows.neg_int (post (S1.toks _) vint q1))
theorem Room.cl {A : Around} (h : Room n A) : A.units < cLine := by have := h.units; show _ < 9900; walk_at "om"
theorem wc_eq_nil {v w : V} {vs : List V} {Q : V → Led → Prop} (hv : ListV C led v vs) (hw : ListV C led w []) (h : Q (.bool vs.isEmpty) led) : W2 C n X (RV C) (compareOp .Eq) v w led Q := fun A Φ s x y hA S hx hy => by
  obtain ⟨a, xs, j, rfl, e, hr⟩ := hv Φ s x S hx
  obtain ⟨b, ys, k, rfl, e', hr'⟩ := hw Φ s y S hy
  simp only [VRs] at hr'; subst hr'
  cases vs with
  | nil =>
    simp only [VRs] at hr; subst hr
    exact PySem.SeqAt.eq_listAt (e := fun _ => true) (isList_of e) (isList_of e') rfl hA.cl (fun j h1 => by simp at h1) (post S.toSat0 vbool h)
  | cons v vs =>
    have hl := hr.length
    exact PySem.SeqAt.eq_list_lengthsAt (isList_of e) (isList_of e') (by simp [hl]) hA.cl (post S.toSat0 vbool h)
theorem wc_ne_nil {v w : V} {vs : List V} {Q : V → Led → Prop} (hv : ListV C led v vs) (hw : ListV C led w []) (h : Q (.bool (!vs.isEmpty)) led) : W2 C n X (RV C) (compareOp .NotEq) v w led Q := fun A Φ s x y hA S hx hy => by
  obtain ⟨a, xs, j, rfl, e, hr⟩ := hv Φ s x S hx
  obtain ⟨b, ys, k, rfl, e', hr'⟩ := hw Φ s y S hy
  simp only [VRs] at hr'; subst hr'
  cases vs with
  | nil =>
    simp only [VRs] at hr; subst hr
    exact richCompare_meets_room (op := .NotEq) ⟨_, e, rfl⟩ ⟨_, e', rfl⟩ F.slot_list_ne F.entry_list_ne (F.args_list_ne_2 _ _) (PySem.SeqAt.list_neAt a b _ _ j k none none #[] #[] rfl fun _ => true)
      ⟨e, e', fun j h1 => by simp at h1, show Value.bool _ ≠ Value.notImplemented ∧ _ from ⟨(fun x => nomatch x), post S.toSat0 vbool h⟩⟩ hA.cl
  | cons v vs =>
    have hl := hr.length
    exact richCompare_meets_room (op := .NotEq) ⟨_, e, rfl⟩ ⟨_, e', rfl⟩ F.slot_list_ne F.entry_list_ne (F.args_list_ne_2 _ _) (PySem.SeqAt.list_ne_lengthsAt a b _ _ j k none none #[] #[] (by simp [hl]))
      ⟨e, e', show Value.bool _ ≠ Value.notImplemented ∧ _ from ⟨(fun x => nomatch x), post S.toSat0 vbool h⟩⟩ hA.cl
theorem wc_is_none {v : V} {Q : V → Led → Prop} (hv : match v with | .none => True | .bool _ => True | .int _ => True | .str _ => True | .val (.ref _) => True | .tup _ => True | .lst _ => True | .dct _ => True | _ => False)
    (h : Q (.bool (match v with | .none => true | _ => false)) led) : W2 C n X (RV C) (compareOp .Is) v .none led Q := fun A Φ s x y hA S hx hy => by
  rw [wv_none hy]
  have key : ∀ b, plainIs x .none = true → (x == Value.none) = b → Q (.bool b) led → wpAny C.M A (compareOp .Is x .none) (Post C Φ (RV C) Q) (EPost C Φ X) s := fun b h1 h2 h3 => wpAny_is_plain h1 (by rw [h2]; exact post S.toSat0 vbool h3)
  cases v with
  | none => rw [wv_none hx] at key ⊢; exact key true rfl rfl h
  | bool b => rw [wv_bool hx] at key ⊢; exact key false rfl rfl h
  | int b => obtain ⟨t, rfl⟩ := wv_int hx; exact key false rfl rfl h
  | str b => obtain ⟨t, rfl⟩ := wv_str hx; exact key false rfl rfl h
  | val u =>
    cases u with
    | ref a => rw [wv_val hx] at key ⊢; exact key false rfl rfl h
    | _ => exact hv.elim
  | tup vs => simp only [VR] at hx; obtain ⟨a, _, _, rfl, _⟩ := hx; exact key false rfl rfl h
  | lst vs => simp only [VR] at hx; obtain ⟨a, _, _, rfl, _⟩ := hx; exact key false rfl rfl h
  | dct vs => simp only [VR] at hx; obtain ⟨a, _, _, rfl, _⟩ := hx; exact key false rfl rfl h
theorem wc_isnot_none {v : V} {Q : V → Led → Prop} (hv : match v with | .none => True | .bool _ => True | .int _ => True | .str _ => True | .val (.ref _) => True | .tup _ => True | .lst _ => True | .dct _ => True | _ => False)
    (h : Q (.bool (match v with | .none => false | _ => true)) led) : W2 C n X (RV C) (compareOp .IsNot) v .none led Q := fun A Φ s x y hA S hx hy => by
  rw [wv_none hy]
  have key : ∀ b, plainIs x .none = true → (!(x == Value.none)) = b → Q (.bool b) led → wpAny C.M A (compareOp .IsNot x .none) (Post C Φ (RV C) Q) (EPost C Φ X) s := fun b h1 h2 h3 => wpAny_isNot_plain h1 (by rw [h2]; exact post S.toSat0 vbool h3)
  cases v with
  | none => rw [wv_none hx] at key ⊢; exact key false rfl rfl h
  | bool b => rw [wv_bool hx] at key ⊢; exact key true rfl rfl h
  | int b => obtain ⟨t, rfl⟩ := wv_int hx; exact key true rfl rfl h
  | str b => obtain ⟨t, rfl⟩ := wv_str hx; exact key true rfl rfl h
  | val u =>
    cases u with
    | ref a => rw [wv_val hx] at key ⊢; exact key true rfl rfl h
    | _ => exact hv.elim
  | tup vs => simp only [VR] at hx; obtain ⟨a, _, _, rfl, _⟩ := hx; exact key true rfl rfl h
  | lst vs => simp only [VR] at hx; obtain ⟨a, _, _, rfl, _⟩ := hx; exact key true rfl rfl h
  | dct vs => simp only [VR] at hx; obtain ⟨a, _, _, rfl, _⟩ := hx; exact key true rfl rfl h
theorem foldl_rep (xs : List Value) : ∀ (k : Nat) (acc : List Value), (List.foldl (fun x1 x2 => x1 ++ x2) acc.toArray (List.replicate k xs.toArray)) = (acc ++ (List.replicate k xs).flatten).toArray
  | 0, acc => by simp
  | k + 1, acc => by
    rw [List.replicate_succ, List.foldl_cons, List.append_toArray, foldl_rep xs k]
    simp [List.replicate_succ]
theorem vrs_rep {Φ : PH} {vs : List V} {xs : List Value} (h : VRs C Φ vs xs) : ∀ k, VRs C Φ (List.replicate k vs).flatten (List.replicate k xs).flatten
  | 0 => VRs.nil
  | k + 1 => by
    rw [List.replicate_succ, List.flatten_cons, List.replicate_succ, List.flatten_cons]
    exact VRs.append h (vrs_rep h k)
theorem wb_rep {v : V} {vs : List V} {i : Int} {Q : V → Led → Prop} (hv : ListV C led v vs) (h0 : 0 ≤ i) (h1 : i < 2 ^ 63) (hz : vs.length * i.toNat ≤ 2 ^ 24) (h : Q (.lst (List.replicate i.toNat vs).flatten) led) : W2 C n X (RV C) (binaryOp .Mult) v (.int i) led Q := fun A Φ s x y _ S hx hy => by
  obtain ⟨u, rfl⟩ := wv_int hy
  obtain ⟨a, xs, k, rfl, e, hr⟩ := hv Φ s x S hx
  have hl := hr.length
  refine wpAny_binaryOp_repeat_ref (T := "list") (U := "int") (by decide) ⟨_, e, rfl⟩ (fun s' => typeIs_int s' i u) noFill_list_mul F.fills_int_mul F.slot_int_rmul repeat_list F.slot_int_index.lookup
    (call_meets F.slot_int_rmul (typeIs_int s i u) F.entry_int_rmul (F.args_int_rmul_2 _ _) (int___rmul___int_list i u a xs.toArray k)
      ⟨e, rfl, ⟨_, e, rfl⟩, call_meets F.slot_list_mul ⟨_, e, rfl⟩ F.entry_list_mul (F.args_list_mul_2 _ _)
        (AutoListH.list___mul___list_int_3 a xs.toArray k i u (by simp [Builtin.List.listFitsIndex]; walk_at "om") (by rw [List.size_toArray, hl]; walk_at "om") (by rw [List.size_toArray, hl]; simp [Builtin.List.listTooLong, sizeLine]; walk_at "om"))
        ⟨e, ?_⟩⟩)
  obtain ⟨hle, S2⟩ := S.allocF (o := lstO (List.replicate i.toNat xs).flatten 0) rfl
  have e1 : (List.foldl (fun x1 x2 => x1 ++ x2) #[] (List.replicate (if xs.toArray.isEmpty = true then 0 else i.toNat) xs.toArray)) = (List.replicate i.toNat xs).flatten.toArray := by
    have := foldl_rep xs (if xs.toArray.isEmpty = true then 0 else i.toNat) []
    rw [List.nil_append] at this
    rw [this]
    cases xs with
    | nil => simp
    | cons a r => simp
  rw [e1]
  refine ⟨_, _, led, hle, S2.toSat0, ?_, h⟩
  simp only [RV, VR]
  exact ⟨_, _, 0, rfl, PH.put_self _ _ _, (vrs_rep hr _).mono hle⟩
theorem gi_str {x : Str} {i : Int} {c : Nat} {Q : V → Led → Prop} (h0 : 0 ≤ i) (h1 : i < 2 ^ 63) (hc : x.cps[i.toNat]? = some c) (h : Q (.str ⟨#[c]⟩) led) : W2 C n X (RV C) getItem (.str x) (.int i) led Q := fun A Φ s y z _ S hx hy => by
  obtain ⟨t, rfl⟩ := wv_str hx; obtain ⟨u, rfl⟩ := wv_int hy
  refine PySem.P.getItem_str (c := c) (by simp; walk_at "om") ?_ (post (S.toks _) vstr h)
  have hlt : i.toNat < x.length := (Array.getElem?_eq_some_iff.mp hc).1
  have : seqIndex? i x.length = some i.toNat := by
    unfold seqIndex?
    have h2 : ¬ i < 0 := by walk_at "om"
    have h3 : i < (x.length : Int) := by walk_at "om"
    simp [h2, h0, h3]
  rw [this]; exact hc
theorem ints_are {Φ : PH} : ∀ {ns : List Int} {xs : List Value}, VRs C Φ (ns.map V.int) xs → IntsAre xs ns
  | [], _, h => by simp only [List.map_nil, VRs] at h; rw [h]; exact .nil
  | s :: ss, _, h => by
    simp only [List.map_cons, VRs] at h
    obtain ⟨y, ys, rfl, h1, h2⟩ := h
    obtain ⟨t, rfl⟩ := wv_int h1
    exact .cons s t (ints_are h2)
theorem wc_sum {v : V} {ns : List Int} {Q : V → Led → Prop} (hv : ListV C led v (ns.map V.int)) (h : Q (.int ns.sum) led) : WC C n X (.val (.builtin "sum")) [v] [] led Q := fun A Φ s fx xs ks hA S hf hp hk => by
  obtain ⟨x, rfl, hx⟩ := vrs1 hp
  rw [wv_val hf, ves0 hk]
  obtain ⟨a, ys, j, rfl, e, hr⟩ := hv Φ s x S hx
  have hi := ints_are hr
  obtain ⟨zs, hz⟩ := hi.allInts.items
  refine sum_intListG hA.handled (xs := zs) (hz ▸ isList_of e) fun h' tk t' hk => ?_
  have e1 : ns = zs.toList.map (·.1) := by
    rw [← nums_intItems, ← hz]
    exact (show numsOf ys.toArray.toList = ns from hi.numsOf).symm
  have e2 : preSum (numAt zs) zs.size = ns.sum := by
    rw [preSum_eq, List.take_of_length_le (by simp), e1]
  rw [e2]
  exact post (S.toSat0.ext (s' := { s with heap := h', toks := tk }) hk rfl rfl) vint h
theorem wc_str_int {i : Int} {Q : V → Led → Prop} (hi : i.natAbs.log2 < 1920) (h : Q (.str (toString i)) led) : WC C n X (.val (.type "str")) [.int i] [] led Q := fun A Φ s fx xs ks hA S hf hp hk => by
  obtain ⟨x, rfl, hx⟩ := vrs1 hp
  rw [wv_val hf, ves0 hk]
  obtain ⟨t, rfl⟩ := wv_int hx
  exact PySem.P.str_of_int hi (post (S.toks _) vstr h)
theorem wc_chr {i : Int} {Q : V → Led → Prop} (h0 : 0 ≤ i) (h1 : i ≤ 0x10FFFF) (h : Q (.str ⟨#[i.toNat]⟩) led) : WC C n X (.val (.builtin "chr")) [.int i] [] led Q := fun A Φ s fx xs ks hA S hf hp hk => by
  obtain ⟨x, rfl, hx⟩ := vrs1 hp
  rw [wv_val hf, ves0 hk]
  obtain ⟨t, rfl⟩ := wv_int hx
  exact PySem.P.chr_of_int (by simp; walk_at "om") (post (S.toks _) vstr h)
end
section
variable {C : Cx} {n : Nat} {X : Addr → Led → Prop} {env : Env} {led : Led}
structure SrcP (C : Cx) (A : Around) (Φ₀ : PH) (I : Addr) (items : List V) (lean : Led → Prop) (St : Nat → Heap → Prop) : Prop where
  item : ∀ i Φ led s v Q E, Le Φ₀ Φ → Sat C Φ led s → lean led → St i s.heap → items[i]? = some v →
    (∀ x h' tk, VR C Φ v x → St (i + 1) h' → (∀ b o, b ∉ [I] → s.heap.get? b = some o → h'.get? b = some o) → s.toks ≤ tk → Q (some x) { s with heap := h', toks := tk }) → wpAny C.M A (pyNext (.ref I)) Q E s
  done : ∀ Φ led s Q E, Le Φ₀ Φ → Sat C Φ led s → lean led → St items.length s.heap →
    (∀ h' tk, (∀ b o, b ∉ [I] → s.heap.get? b = some o → h'.get? b = some o) → s.toks ≤ tk → Q none { s with heap := h', toks := tk }) → wpAny C.M A (pyNext (.ref I)) Q E s
  re : ∀ i Φ led s Φ' led' s', Le Φ₀ Φ → Sat C Φ led s → lean led → St i s.heap → Le Φ₀ Φ' → Sat C Φ' led' s' → lean led' → (∀ o, s.heap.get? I = some o → s'.heap.get? I = some o) → St i s'.heap
  it : ∀ i h, St i h → ∃ o, h.get? I = some o ∧ ItO o
  lot : ∀ i h, St i h → ∀ (target : Expr) (v : Value) (E : Value → Shared → Prop) (Q : Unit → Shared → Prop) (s : Shared), s.heap = h → Q () s → wpAny C.M A (letOwnedTupleGo target (.ref I) v) Q E s
  self : ∀ i s (Q : Value → Shared → Prop) (E : Value → Shared → Prop), St i s.heap → Q (.ref I) s → wpAny C.M A (pyIter (.ref I)) Q E s
noncomputable def SrcO (C : Cx) (A : Around) (Φ₀ : PH) (I : Addr) (items : List V) (lean : Led → Prop) (h : Heap) : Prop := ∃ St, SrcP C A Φ₀ I items lean St ∧ St 0 h
noncomputable abbrev noLean : Led → Prop := fun _ => True
theorem Src.o {A : Around} {Φ₀ : PH} {I : Addr} {items : List V} {h : Heap} (S : Src C A Φ₀ I items 0 h) : SrcO C A Φ₀ I items noLean h := by
  obtain ⟨fp, P, St, W, hst, hfp, hP, hIt, hlot⟩ := S.ex
  refine ⟨St, ⟨fun i Φ led s v Q E hle Sa _ hs hv hq => ?_, fun Φ led s Q E hle Sa _ hs hq => ?_, fun i Φ led s Φ' led' s' hle Sa _ hs hle' Sa' _ hI => ?_, hIt, hlot, fun i s Q E hs hq => W.self i s _ _ hs hq⟩, hst⟩
  · exact wpTok (W.item i s _ _ (List.getElem?_eq_some_iff.mp hv).1 hs fun x h' tk hx hst' hk ht => hq x h' tk ((hP i x v hx hv).mono hle) hst' hk ht)
  · exact wpTok (W.done s _ _ hs fun h' tk hk ht => hq h' tk hk ht)
  · refine W.frame _ _ _ hs fun b hb o hbo => ?_
    by_cases hbI : b = I
    · subst hbI; exact hI o hbo
    · obtain ⟨o', ho'⟩ := hfp b hb hbI
      have h1 := Sa.sub _ _ (hle _ _ ho')
      rw [h1] at hbo; cases hbo
      exact Sa'.sub _ _ (hle' _ _ ho')
noncomputable def IterO (C : Cx) (led : Led) (v : V) (items : List V) (lean : Led → Prop) : Prop :=
  ∀ A Φ s x (P : Value → Shared → Prop) (E : Value → Shared → Prop), A.handled = none → Sat C Φ led s → VR C Φ v x →
    (∀ I s', Sat C Φ led s' → Φ I = none → I ∉ led.map (·.1) → (∀ A', A'.handled = none → SrcO C A' Φ I items lean s'.heap) → P (.ref I) s') → wpAny C.M A (pyIter x) P E s
theorem IterOf.o {v : V} {items : List V} (h : IterOf C led v items) : IterO C led v items noLean := fun A Φ s x P E hh S hx hP =>
  h A Φ s x P E hh S hx fun I s' S' hI hIl hs => hP I s' S' hI hIl fun A' hA' => (hs A' hA').o
theorem it_own {a : Addr} {vs : List V} (hm : (a, AO.list vs) ∈ led) : IterO C led (.ref a) vs (fun led => (a, AO.list vs) ∈ led) := fun A Φ s x P E hh S hx hP => by
  rw [wv_val hx]
  obtain ⟨o, ho, xs, k, rfl, hv⟩ := S.at hm
  refine wpAny_pyIter_list (isList_of ho) ?_
  have hne : a ≠ s.heap.objs.size := Nat.ne_of_lt (Heap.lt_size ho)
  refine hP _ _ ⟨S.toSat0.ext (fun b o e => Heap.get?_push_of_some _ e) rfl rfl, S.tk⟩ S.size_none S.not_size fun A' hh' => ⟨fun i h => h.IsListIter s.heap.objs.size a i, ⟨?_, ?_, ?_, ?_, ?_, ?_⟩, ⟨_, Heap.get?_push_size _ rfl, rfl, rfl⟩⟩
  · intro i Φ1 led1 s1 v Q E hle S1 hl hs hi hq
    obtain ⟨o1, ho1, ys, k1, rfl, hv1⟩ := S1.at hl
    obtain ⟨y, hy, hr⟩ := hv1.get hi
    have W := Walks.list (prog := C.prog) (w := C.w) hh' s.heap.objs.size a hne ys.toArray
    refine wpTok (W.item i s1 _ _ (by rw [List.size_toArray, hv1.length]; exact (List.getElem?_eq_some_iff.mp hi).1) ⟨hs, isList_of ho1⟩ fun x h' tk hx hst' hk ht => hq x h' tk ?_ hst'.1 hk ht)
    have hx' : ys[i]? = some x := by simpa using hx
    rw [hy] at hx'; cases hx'; exact hr
  · intro Φ1 led1 s1 Q E hle S1 hl hs hq
    obtain ⟨o1, ho1, ys, k1, rfl, hv1⟩ := S1.at hl
    have W := Walks.list (prog := C.prog) (w := C.w) hh' s.heap.objs.size a hne ys.toArray
    have hs' : s1.heap.IsListIter s.heap.objs.size a ys.toArray.size := by
      have e : ys.toArray.size = vs.length := by rw [List.size_toArray, hv1.length]
      rw [e]; exact hs
    exact wpTok (W.done s1 _ _ ⟨hs', isList_of ho1⟩ fun h' tk hk ht => hq h' tk hk ht)
  · intro i Φ1 led1 s1 Φ2 led2 s2 _ _ _ hs _ _ _ hI
    obtain ⟨o, ho, hc, hd⟩ := hs
    exact ⟨o, hI o ho, hc, hd⟩
  · intro i h hs
    obtain ⟨o, ho, hc, _⟩ := hs
    exact ⟨o, ho, by rw [hc]; decide, by rw [hc]; decide, by rw [hc]; decide⟩
  · intro i h hs target v E Q s1 e hq
    obtain ⟨o, ho, hc, hd⟩ := hs
    exact lotg (by rw [e]; exact ho) hc hd (by decide) target v hq
  · intro i s1 Q E hs hq
    exact wpAny_pyIter_listiter hs hq
noncomputable def WGenO (C : Cx) (n : Nat) (env : Env) (target : Expr) (ifs : List Expr) (inner : Led → (Led → Prop) → Prop) (lean : Led → Prop) : List V → Led → (Led → Prop) → Prop
  | [], led, Q => lean led ∧ Q led
  | v :: rest, led, Q => lean led ∧ W1 C n NoX RU (assign target env) v led fun _ led1 => WTests C n env ifs led1 fun ok led2 =>
    match ok with
    | true => inner led2 fun led3 => WGenO C n env target ifs inner lean rest led3 Q
    | false => WGenO C n env target ifs inner lean rest led2 Q
theorem code_genO {A : Around} {R : Result → Shared → Prop} {e : Expr} {d : Nat} {target : Expr} {ifs : List Expr} {emit : Sem Unit} {p : Pos} {acc : Value} {inner : Led → (Led → Prop) → Prop} {lean : Led → Prop} {items : List V} {I : Addr} {Φ₀ : PH} {s₀ : Shared} {Q : Led → Prop} (hA : Room n A)
    (hturn : compTurn e d (.ref I) acc env = (standAt p >>= fun _ => pyNext (.ref I) >>= fun r => match r with
      | none => pure (.done .next)
      | some v => letOwnedTupleGo target (.ref I) v >>= fun _ => assign target env v >>= fun _ => testsTree ifs env true >>= fun ok =>
        (if ok = true then emit >>= fun _ => again (.compLoop e d (.ref I) acc env) else again (.compLoop e d (.ref I) acc env))))
    (hfr : (Code.compLoop e d (.ref I) acc env).isFrame = false) (hun : A.under (.compLoop e d (.ref I) acc env) = A)
    (hem : ∀ led K, inner led K → W C n NoX RU emit led fun _ led' => K led')
    (hQ : ∀ Φ' led' s', Le Φ₀ Φ' → Sat C Φ' led' s' → Q led' → R (.ok .next) s')
    (S₀ : Sat C Φ₀ led s₀) (hI : Φ₀ I = none) (hIl : I ∉ led.map (·.1)) (src : SrcO C A Φ₀ I items lean s₀.heap) (h : WGenO C n env target ifs inner lean items led Q) :
    codeAny C.M A (.compLoop e d (.ref I) acc env) R s₀ := by
  obtain ⟨St, T, hst⟩ := src
  have hb0 : C.base.get? I = none := by
    cases e : C.base.get? I with
    | none => rfl
    | some o => have := S₀.base _ _ e; rw [hI] at this; cases this
  refine codeAny_loop (c := .compLoop e d (.ref I) acc env) rfl (fun m s => ∃ i led Φ, m = items.length - i ∧ i ≤ items.length ∧ Le Φ₀ Φ ∧ Sat C Φ led s ∧ Φ I = none ∧ I ∉ led.map (·.1) ∧ St i s.heap ∧ WGenO C n env target ifs inner lean (items.drop i) led Q) ?_ items.length ⟨0, led, Φ₀, by walk_at "om", by walk_at "om", Le.refl _, S₀, hI, hIl, hst, by simpa using h⟩
  rintro m s ⟨i, led, Φ, rfl, hi, hle, S, hIΦ, hIled, hst, hw⟩
  have keepS : ∀ (h' : Heap) (tk : Nat), (∀ b o, b ∉ [I] → s.heap.get? b = some o → h'.get? b = some o) → s.toks ≤ tk → Sat C Φ led { s with heap := h', toks := tk } := fun h' tk hk ht =>
    ⟨⟨S.base, fun b o e => hk b o (by rw [List.mem_singleton]; intro q; rw [q, hIΦ] at e; cases e) (S.sub b o e), S.nd, S.off,
      fun p hp => let ⟨o, h1, h2⟩ := S.ok p hp; ⟨o, hk _ _ (by rw [List.mem_singleton]; intro q; exact hIled (by rw [← q]; exact List.mem_map_of_mem hp)) h1, h2⟩, S.gens, S.os, S.sysm⟩, Nat.lt_of_lt_of_le S.tk ht⟩
  rw [hun]
  have hden : C.M.den (.compLoop e d (.ref I) acc env) = (compTurn e d (.ref I) acc env).onRaise (fun x => do noteFrame x env; theTreesLotGoes x) := by
    show (if (Code.compLoop e d (.ref I) acc env).isFrame = true then _ else _) = _
    rw [hfr]; rfl
  rw [hden, hturn]
  refine wpAny_noted (wpAny_bind (wpAny_standAt (wpAny_bind (wpTok ?_))))
  cases hd : items.drop i with
  | nil =>
    have hin : i = items.length := by have := List.drop_eq_nil_iff.mp hd; walk_at "om"
    subst hin
    rw [hd] at hw
    refine T.done Φ led s _ _ hle S hw.1 hst (fun h' tk hk ht => ?_)
    exact fun _ => wpAny_pure (hQ Φ led _ hle (keepS h' tk hk ht) hw.2)
  | cons v rest =>
    rw [hd] at hw
    obtain ⟨hv, hr⟩ := drop_cons hd
    have hlt : i < items.length := (List.getElem?_eq_some_iff.mp hv).1
    obtain ⟨hln, hw⟩ := hw
    refine T.item i Φ led s v _ _ hle S hln hst hv (fun x h' tk hx hst' hk ht => fun _ => ?_)
    refine wpAny_bind (T.lot _ h' hst' target x _ _ _ rfl ?_)
    have S1 := keepS h' tk hk ht
    obtain ⟨oI, hoI, hItI⟩ := T.it _ _ hst'
    have S2 := S1.putI hIΦ hIled hoI
    have hle2 : Le Φ (Φ.put I oI) := Le.put oI hIΦ
    refine wpAny_bind (wpThen S2.tk (hw A _ _ x hA S2 (hx.mono hle2)) (fun _ Φ3 _ led3 s3 h3 S3 _ q3 => ?_) fun _ _ e => e.no.elim)
    have fin : ∀ led4 Φ4 s4, Le Φ3 Φ4 → Sat C Φ4 led4 s4 → WGenO C n env target ifs inner lean rest led4 Q → ∃ m, m < items.length - i ∧ ∃ i led Φ, m = items.length - i ∧ i ≤ items.length ∧ Le Φ₀ Φ ∧ Sat C Φ led s4 ∧ Φ I = none ∧ I ∉ led.map (·.1) ∧ St i s4.heap ∧ WGenO C n env target ifs inner lean (items.drop i) led Q := fun led4 Φ4 s4 h4 S4 hw' => by
      have hI4 : Φ4 I = some oI := h4 _ _ (h3 _ _ (PH.put_self _ _ _))
      have hit4 : ∀ o, Φ4 I = some o → ItO o := fun o e => by rw [hI4] at e; cases e; exact hItI
      have S5 := Sat.del hit4 hb0 S4
      have hle5 : Le Φ₀ (Φ4.del I) := Le.del (((hle.trans hle2).trans h3).trans h4) hI
      have hnl : I ∉ led4.map (·.1) := fun hm => by
        obtain ⟨p, hp, e⟩ := List.mem_map.mp hm
        have := S4.off p hp
        rw [e, hI4] at this; cases this
      have hl4 : lean led4 := by cases rest with | nil => exact hw'.1 | cons _ _ => exact hw'.1
      refine ⟨items.length - (i + 1), by walk_at "om", i + 1, led4, Φ4.del I, rfl, hlt, hle5, S5, PH.del_self, hnl, ?_, by rw [hr]; exact hw'⟩
      exact T.re (i + 1) Φ led _ (Φ4.del I) led4 s4 hle S1 hln hst' hle5 S5 hl4 fun o ho => by
        have : h'.get? I = some o := ho
        rw [hoI] at this; cases this; exact S4.sub _ _ hI4
    refine wpAny_bind (wpThen S3.tk (wp_tests ifs led3 q3 A Φ3 s3 hA S3) (fun ok Φ4 ok' led4 s4 h4 S4 r4 q4 => ?_) fun _ _ e => e.no.elim)
    cases r4
    cases ok with
    | false => exact wpAny_pure ⟨rfl, fin led4 Φ4 s4 h4 S4 q4⟩
    | true =>
      simp only [if_true]
      refine wpAny_bind (wpThen S4.tk (hem led4 _ q4 A Φ4 s4 hA S4) (fun _ Φ5 _ led5 s5 h5 S5 _ q5 => ?_) fun _ _ e => e.no.elim)
      exact wpAny_pure ⟨rfl, fin led5 Φ5 s5 (h4.trans h5) S5 q5⟩
end
section
variable {C : Cx} {n : Nat} {X : Addr → Led → Prop} {env : Env} {led : Led}
theorem SrcO.keep {A : Around} {Φ₀ : PH} {I : Addr} {items : List V} {lean : Led → Prop} {Φ : PH} {led led' : Led} {s s' : Shared} (src : SrcO C A Φ₀ I items lean s.heap) (hl : Le Φ₀ Φ) (S : Sat C Φ led s) (hn : lean led) (hl' : Le Φ₀ Φ) (S' : Sat C Φ led' s') (hn' : lean led') (hI : ∀ o, s.heap.get? I = some o → s'.heap.get? I = some o) : SrcO C A Φ₀ I items lean s'.heap :=
  let ⟨St, T, h⟩ := src; ⟨St, T, T.re 0 Φ led s Φ led' s' hl S hn h hl' S' hn' hI⟩
theorem SrcO.at {A : Around} {Φ₀ : PH} {I : Addr} {items : List V} {lean : Led → Prop} {h : Heap} (src : SrcO C A Φ₀ I items lean h) : ∃ o, h.get? I = some o := let ⟨St, T, h⟩ := src; let ⟨o, ho, _⟩ := T.it _ _ h; ⟨o, ho⟩
theorem SrcO.self {A : Around} {Φ₀ : PH} {I : Addr} {items : List V} {lean : Led → Prop} {s : Shared} (src : SrcO C A Φ₀ I items lean s.heap) {Q : Value → Shared → Prop} {E : Value → Shared → Prop} (h : Q (.ref I) s) : wpAny C.M A (pyIter (.ref I)) Q E s := let ⟨St, T, hs⟩ := src; T.self 0 s Q E hs h
theorem WGenO.lean {env : Env} {target : Expr} {ifs : List Expr} {inner : Led → (Led → Prop) → Prop} {lean : Led → Prop} {items : List V} {led : Led} {Q : Led → Prop} (h : WGenO C n env target ifs inner lean items led Q) : lean led := by cases items with | nil => exact h.1 | cons _ _ => exact h.1
theorem wcompO {e : Expr} {scope : Scope} {pos : Pos} {newAcc first : Sem Value} {g : Comprehension} {gs : List Comprehension} {cl : List (Str × Addr)} {oacc : Obj} {ao : AO} {emit : Value → Env → Sem Unit} {inner : Addr → Env → Led → (Led → Prop) → Prop} {p : Pos} {K : Addr → Addr → Led → Prop} {use : Option (Value → Sem Unit)}
    {A : Around} {Φ : PH} {s : Shared} {E : Value → Shared → Prop} {P : Value → Shared → Prop} (hA : Room n A) (S : Sat C Φ led s)
    (hcl : clausesOf e = g :: gs) (hs : ∀ x, foldedSetIterable g.iter env x = pure x) (hclos : closureFor scope env = pure cl) (hkind : scope.kind = .function) (hnames : ∀ x ∈ scope.names, x.2 = .local → scope.names.lookup x.1 = some .local)
    (hacc : ∀ (A : Around) (E : Value → Shared → Prop) (s : Shared) (P : Value → Shared → Prop), P (.ref s.heap.objs.size) { s with heap := s.heap.push oacc } → wpAny C.M A newAcc P E s) (hfree : oacc.isFreed = false) (hok : ∀ Φ, OOk C Φ oacc ao)
    (hturn : ∀ I acc cenv, compTurn e 0 (.ref I) (.ref acc) cenv = (standAt p >>= fun _ => pyNext (.ref I) >>= fun r => match r with
      | none => pure (.done .next)
      | some v => letOwnedTupleGo g.target (.ref I) v >>= fun _ => assign g.target cenv v >>= fun _ => testsTree g.ifs cenv true >>= fun ok =>
        (if ok = true then emit (.ref acc) cenv >>= fun _ => again (.compLoop e 0 (.ref I) (.ref acc) cenv) else again (.compLoop e 0 (.ref I) (.ref acc) cenv))))
    (hfr : ∀ I acc cenv, (Code.compLoop e 0 (.ref I) acc cenv).isFrame = false) (hun : ∀ I acc cenv, A.under (.compLoop e 0 (.ref I) acc cenv) = A)
    (hst : ∀ I acc cenv R s, codeAny C.M A (.compLoop e 0 (.ref I) acc cenv) R s → (∀ (Q : Value → Shared → Prop) (E : Value → Shared → Prop), Q (.ref I) s → wpAny C.M A (pyIter (.ref I)) Q E s) → codeAny C.M A (.compStart e 0 (.ref I) acc cenv) R s)
    (hem : ∀ acc cenv led K, inner acc cenv led K → W C n NoX RU (emit (.ref acc) cenv) led fun _ led' => K led')
    (h : W C n X (RV C) first led fun v led1 => ∃ items lean, IterO C led1 v items lean ∧ lean led1 ∧ ∀ acc L, WCells scope.names cl ((L, .frame []) :: (acc, ao) :: led1) fun cells led2 =>
      WGenO C n (cenvOf scope env L cells) g.target g.ifs (inner acc (cenvOf scope env L cells)) lean items led2 fun led3 => K acc L led3)
    (hP : ∀ acc L Φ' led' s', Le Φ Φ' → Sat C Φ' led' s' → K acc L led' → compPost C.M A E use P (.ref acc) L (.ok .next) s') (hE : ∀ e s, EPost C Φ X e s → E e s) :
    wpAny C.M A (comprehension e scope env pos newAcc false first use) P E s := by
  refine wpAny_comprehension_free hcl hs hclos hkind hnames (wpThen S.tk (h A Φ s hA S) (fun x Φ1 v led1 s1 h1 S1 r1 q1 => ?_) hE)
  obtain ⟨items, lean, hit, hl1, hw⟩ := q1
  refine hit A Φ1 s1 x _ _ hA.handled S1 r1 (fun I s2 S2 hI hIl src => ?_)
  refine hacc _ _ _ _ ?_
  have src2 := src A hA.handled
  obtain ⟨oI, hoI⟩ := src2.at
  have S3 := S2.alloc hfree (hok Φ1)
  have hIl3 : I ∉ ((s2.heap.objs.size, ao) :: led1).map (·.1) := by
    rw [List.map_cons, List.mem_cons, not_or]; exact ⟨Nat.ne_of_lt (Heap.lt_size hoI), hIl⟩
  refine wp_compEnv (K := fun cenv led2 => WGenO C n cenv g.target g.ifs (inner s2.heap.objs.size cenv) lean items led2 fun led3 => K s2.heap.objs.size cenv.locals led3) S3 (by rw [Heap.size_push]; exact Nat.lt_succ_of_lt (Heap.lt_size hoI)) hIl3 (hw _) (fun cenv led4 s4 hk4 S4 hIl4 k4 => ?_)
  have src4 : SrcO C A Φ1 I items lean s4.heap := src2.keep (Le.refl _) S2 hl1 (Le.refl _) S4 k4.lean fun o e => hk4 I o (Heap.get?_push_of_some _ e)
  refine hst _ _ _ _ _ (code_genO hA (hturn _ _ _) (hfr _ _ _) (hun _ _ _) (hem _ _) (fun Φ' led' s' hle S' q' => ?_) S4 hI hIl4 src4 k4) fun Q' E' hq => src4.self hq
  exact hP _ _ Φ' led' s' (h1.trans hle) S' q'
theorem post_none {A : Around} {E : Value → Shared → Prop} {P : Value → Shared → Prop} {acc L : Addr} {Φ' : PH} {led' : Led} {s' : Shared} (S' : Sat C Φ' led' s') {loc : List (Str × V)} {led5 : Led} (U : Rm L (.frame loc) led' led5) (h : ∀ s'', Sat0 C Φ' led5 s'' → P (.ref acc) s'') : compPost C.M A E none P (.ref acc) L (.ok .next) s' := by
  obtain ⟨m, hn, _⟩ := Sat.ns S' U.mem
  refine ⟨m, hn, fun h' hsb => h _ ?_⟩
  exact S'.toSat0.lose U (s' := { s' with heap := h' }) fun b o hb e => (hsb.2 b hb).trans e
theorem post_some {A : Around} {E : Value → Shared → Prop} {P : Value → Shared → Prop} {acc L : Addr} {Φ' : PH} {led' : Led} {s' : Shared} {u : Value → Sem Unit} {Q : Led → Prop} (hA : Room n A) (S' : Sat C Φ' led' s') (hu : W1 C n X RU u (.ref acc) led' fun _ led4 => ∃ loc led5, Rm L (.frame loc) led4 led5 ∧ Q led5)
    (h : ∀ Φ'' led5 s'', Le Φ' Φ'' → Sat0 C Φ'' led5 s'' → Q led5 → P .none s'') (hE : ∀ e s, EPost C Φ' X e s → E e s) : compPost C.M A E (some u) P (.ref acc) L (.ok .next) s' := by
  show wpAny C.M A (u (.ref acc)) _ _ _
  refine wpThen S'.tk (hu A Φ' s' (.ref acc) hA S' vval) (fun _ Φ1 _ led4 s1 h1 S1 _ q1 => ?_) hE
  obtain ⟨loc, led5, U, q⟩ := q1
  obtain ⟨m, hn, _⟩ := Sat.ns S1 U.mem
  refine ⟨m, hn, fun h' hsb => h Φ1 led5 _ h1 ?_ q⟩
  exact S1.toSat0.lose U (s' := { s1 with heap := h' }) fun b o hb e => (hsb.2 b hb).trans e
noncomputable abbrev emL (C : Cx) (n : Nat) (elt : Expr) (acc : Addr) (cenv : Env) (led3 : Led) (K : Led → Prop) : Prop := WE C n NoX cenv elt led3 fun v led4 => WC C n NoX (.val (.builtin "list.append")) [.ref acc, v] [] led4 fun _ led5 => K led5
theorem emL_w {elt : Expr} {acc : Addr} {cenv : Env} {led : Led} {K : Led → Prop} (hin : emL C n elt acc cenv led K) : W C n NoX RU (do let _ ← call (.builtin "list.append") [.ref acc, ← eval elt cenv]) led fun _ led' => K led' := by
  intro A Φ s hA S
  refine wpAny_bind (wpThen S.tk (hin A Φ s hA S) (fun x Φ1 v led1 s1 h1 S1 r1 q1 => ?_) fun _ _ e => e)
  refine wpAny_bind (wpThen S1.tk (q1 A Φ1 s1 _ [.ref acc, x] [] hA S1 vval (VRs.cons vval (VRs.cons r1 VRs.nil)) (by simp only [VEs])) (fun _ Φ2 _ led2 s2 h2 S2 _ q2 => ?_) fun _ _ e => e.mono h1)
  exact wpAny_pure ⟨Φ2, (), led2, h1.trans h2, S2.toSat0, trivial, q2⟩
theorem we_lcompO {elt target iter : Expr} {ifs : List Expr} {scope : Scope} {pos : Pos} {cl : List (Str × Addr)} {Q : V → Led → Prop}
    (h : WE C n X env iter led fun v led1 => ∃ items lean, IterO C led1 v items lean ∧ lean led1 ∧ ∀ acc L, WCells scope.names cl ((L, .frame []) :: (acc, .list []) :: led1) fun cells led2 =>
      WGenO C n (cenvOf scope env L cells) target ifs (emL C n elt acc (cenvOf scope env L cells)) lean items led2 fun led3 => ∃ loc led4, Rm L (.frame loc) led3 led4 ∧ Q (.ref acc) led4)
    (hclos : closureFor scope env = pure cl := by rfl) (hs : ∀ x, foldedSetIterable iter env x = pure x := by intro _; rfl) (hkind : scope.kind = .function := by rfl) (hnames : ∀ x ∈ scope.names, x.2 = .local → scope.names.lookup x.1 = some .local := by decide) :
    WE C n X env (.ListComp elt [⟨target, iter, ifs, 0⟩] scope pos) led Q := fun A Φ s hA S => by
  rw [eval_ListComp]
  refine wcompO (p := iter.pos) (K := fun acc L led3 => ∃ loc led4, Rm L (.frame loc) led3 led4 ∧ Q (.ref acc) led4) (newAcc := newList []) (oacc := lstO [] 0) (ao := .list []) (g := ⟨target, iter, ifs, 0⟩) (gs := []) (emit := fun acc cenv => do let _ ← call (.builtin "list.append") [acc, ← eval elt cenv])
    (inner := emL C n elt)
    hA S rfl hs hclos hkind hnames newList_acc rfl (fun Φ => ⟨[], 0, rfl, VRs.nil⟩) (fun I acc cenv => ?_) (fun _ _ _ => rfl) (fun _ _ _ => under0 rfl rfl) (fun I acc cenv R s h0 hit => codeAny_compStart_list h0 (hit _ _ h0)) (fun acc cenv led K hin => emL_w hin) h (fun acc L Φ' led' s' h1 S1 q1 => ?_) (fun _ _ e => e)
  · rw [compTurn_list]
    rfl
  · obtain ⟨loc, led5, U, q⟩ := q1
    exact post_none S1 U fun s'' S'' => ⟨Φ', .ref acc, led5, h1, S'', vval, q⟩
theorem evalThenUse_list (elt : Expr) (gens : List Comprehension) (scope : Scope) (pos : Pos) (use : Value → Sem Unit) : evalThenUse (.ListComp elt gens scope pos) env use = (do let _ ← comprehension (.ListComp elt gens scope pos) scope env (firstIterPos gens pos) (newList []) (firstAsync gens) (firstIter gens env) (some use)) := rfl
theorem exec_use {targets : List Expr} {value : Expr} {p : Pos} (hs : swapsWithSole targets value p.line env = pure true) {M : Model} {A : Around} {Q : Flow → Shared → Prop} {E : Value → Shared → Prop} {s : Shared} (h : wpAny M A (evalThenUse value env fun v => assignAll v ((assignEach targets env).map (·.2))) (fun _ s' => Q .next s') E s) : wpAny M A (exec (.Assign targets value p) env) Q E s := by
  rw [exec_Assign_arm]
  refine wpAny_bind (wpAny_standAt ?_)
  rw [hs]
  refine wpAny_bind (wpAny_pure ?_)
  simp only [if_true]
  exact wpAny_bind (wpAny_mono h (fun _ _ z => wpAny_pure z) fun _ _ z => z)
theorem wx_lcomp {x : Str} {np : Pos} {p : Pos} {elt target iter : Expr} {ifs : List Expr} {scope : Scope} {pos : Pos} {cl : List (Str × Addr)} {Q : F → Led → Prop}
    (h : WE C n X env iter led fun v led1 => ∃ items lean, IterO C led1 v items lean ∧ lean led1 ∧ ∀ acc L, WCells scope.names cl ((L, .frame []) :: (acc, .list []) :: led1) fun cells led2 =>
      WGenO C n (cenvOf scope env L cells) target ifs (emL C n elt acc (cenvOf scope env L cells)) lean items led2 fun led3 => W1 C n X RU (storeName env x) (.ref acc) led3 fun _ led4 => ∃ loc led5, Rm L (.frame loc) led4 led5 ∧ Q .next led5)
    (hsw : swapsWithSole [.Name x np] (.ListComp elt [⟨target, iter, ifs, 0⟩] scope pos) p.line env = pure true := by kernel_rfl)
    (hclos : closureFor scope env = pure cl := by rfl) (hs : ∀ x, foldedSetIterable iter env x = pure x := by intro _; rfl) (hkind : scope.kind = .function := by rfl) (hnames : ∀ x ∈ scope.names, x.2 = .local → scope.names.lookup x.1 = some .local := by decide) :
    WX C n X env (.Assign [.Name x np] (.ListComp elt [⟨target, iter, ifs, 0⟩] scope pos) p) led Q := fun A Φ s hA S => by
  refine exec_use hsw ?_
  rw [evalThenUse_list]
  refine wpAny_bind (wcompO (p := iter.pos) (K := fun acc L led3 => W1 C n X RU (storeName env x) (.ref acc) led3 fun _ led4 => ∃ loc led5, Rm L (.frame loc) led4 led5 ∧ Q .next led5) (newAcc := newList []) (oacc := lstO [] 0) (ao := .list []) (g := ⟨target, iter, ifs, 0⟩) (gs := []) (emit := fun acc cenv => do let _ ← call (.builtin "list.append") [acc, ← eval elt cenv])
    (inner := emL C n elt)
    hA S rfl hs hclos hkind hnames newList_acc rfl (fun Φ => ⟨[], 0, rfl, VRs.nil⟩) (fun I acc cenv => ?_) (fun _ _ _ => rfl) (fun _ _ _ => under0 rfl rfl) (fun I acc cenv R s h0 hit => codeAny_compStart_list h0 (hit _ _ h0)) (fun acc cenv led K hin => emL_w hin) h (fun acc L Φ' led' s' h1 S1 q1 => ?_) (fun _ _ e => e))
  · rw [compTurn_list]
    rfl
  · refine post_some (X := X) (Q := fun l => Q .next l) hA S1 (fun A Φ s y hA S hy => ?_) (fun Φ'' led5 s'' h2 S2 q2 => wpAny_pure ⟨Φ'', .next, led5, h1.trans h2, S2, rfl, q2⟩) fun _ _ e => e.mono h1
    show wpAny C.M A (assignAll y [assign (.Name x np) env]) _ _ s
    exact wpAny_assign_Name (q1 A Φ s y hA S hy)
end
section
variable {C : Cx} {n : Nat} {X : Addr → Led → Prop} {env : Env} {led : Led}
theorem Src.sat {Φ : PH} {s : Shared} {o : Obj} (S : Sat C Φ led s) : Sat C Φ led { s with heap := s.heap.push o } := ⟨S.toSat0.ext (fun b o e => Heap.get?_push_of_some _ e) rfl rfl, S.tk⟩
noncomputable def signs (x : Str) : List Str := x.cps.toList.map fun c => ⟨#[c]⟩
theorem src_str {A : Around} {Φ : PH} {I : Addr} {x : Str} {t : Tok} {nm : String} {h : Heap} (W : Walks C.prog C.w A I [I] [I] x.cps.size (SignAt x) (fun i h => h.IsStrIter I nm x t i)) (h0 : h.IsStrIter I nm x t 0)
    (h1 : (["enumerate", "zip", "dict_itemiterator", "dict_reverseitemiterator", "odict_iterator", "itertools.zip_longest", "itertools.pairwise"].contains nm) = false) (h2 : nm ≠ "tuple" ∧ nm ≠ "list" ∧ nm ≠ "dict") : Src C A Φ I ((signs x).map V.str) 0 h := by
  have hl : ((signs x).map V.str).length = x.cps.size := by simp [signs]
  rw [← hl] at W
  refine ⟨⟨_, _, _, W, h0, fun b hb hbI => absurd (List.mem_singleton.mp hb) hbI, fun j y v hy hj => ?_, fun j h hs => ?_, fun j h hs target v E Q s e hq => ?_⟩⟩
  · obtain ⟨c, u, hc, rfl⟩ := hy
    have : v = .str ⟨#[c]⟩ := by
      rw [List.getElem?_map, signs, List.getElem?_map, Array.getElem?_toList, hc] at hj
      simpa using hj.symm
    subst this
    exact vstr
  · obtain ⟨o, ho, hc, _⟩ := hs
    exact ⟨o, ho, by rw [hc]; exact fun e => h2.1 (by injection e), by rw [hc]; exact fun e => h2.2.1 (by injection e), by rw [hc]; exact fun e => h2.2.2 (by injection e)⟩
  · obtain ⟨o, ho, hc, hd⟩ := hs
    exact lotg (by rw [e]; exact ho) hc hd h1 target v hq
theorem it_str {x : Str} : IterOf C led (.str x) ((signs x).map V.str) := fun A Φ s y P E hh S hy hP => by
  obtain ⟨t, rfl⟩ := wv_str hy
  cases ha : x.cps.all (· < 128)
  · exact wpAny_pyIter_wide ha (hP _ _ (Src.sat S) S.size_none S.not_size fun A' hh' => src_str (Walks.strWide hh' _ x t) ⟨_, Heap.get?_push_size _ rfl, rfl, rfl⟩ (by decide) (by decide))
  · exact wpAny_pyIter_ascii ha (hP _ _ (Src.sat S) S.size_none S.not_size fun A' hh' => src_str (Walks.strAscii hh' _ x t) ⟨_, Heap.get?_push_size _ rfl, rfl, rfl⟩ (by decide) (by decide))
noncomputable def RanO (o : Obj) (a b : Int) : Prop := ∃ t u v, o = { cls := .type "range", data := .fields #[.int a t, .int b u, .int 1 v] }
theorem wc_range1 {k : Int} {Q : V → Led → Prop} (h : ∀ r o, RanO o 0 k → Q (.ref r) ((r, .obj o) :: led)) : WC C n X (.val (.type "range")) [.int k] [] led Q := fun A Φ s fx xs ks hA S hf hp hk => by
  obtain ⟨x, rfl, hx⟩ := vrs1 hp
  rw [wv_val hf, ves0 hk]
  obtain ⟨t, rfl⟩ := wv_int hx
  refine call_range_1 ?_
  exact ⟨Φ, _, _, Le.refl _, ((S.toSat0.alloc (o := { cls := .type "range", data := .fields #[.int 0 s.toks, .int k t, .int 1 (s.toks + 1)] }) (ao := .obj _) rfl ⟨rfl, rfl⟩).toks _), vval, h _ _ ⟨_, _, _, rfl⟩⟩
theorem it_range {r : Addr} {o : Obj} {a b : Int} (hm : (r, AO.obj o) ∈ led) (ho : RanO o a b) (ha : 0 ≤ a) (hab : a ≤ b) (hb : b < 2 ^ 62) : IterOf C led (.ref r) ((List.range (b - a).toNat).map fun (i : Nat) => V.int (a + i)) := fun A Φ s y P E hh S hy hP => by
  rw [wv_val hy]
  obtain ⟨o', h1, rfl, _⟩ := S.at hm
  obtain ⟨t, u, v, rfl⟩ := ho
  have hsz : Builtin.Range.rangeSize a b 1 = b - a := by
    unfold Builtin.Range.rangeSize
    by_cases h : a < b
    · simp [h]
    · have : b - a = 0 := by walk_at "om"
      simp [h, this]
  have hsm : Builtin.Range.small a b 1 = true := by
    unfold Builtin.Range.small
    rw [hsz]
    simp [Builtin.Range.rangeFitsLong]
    walk_at "om"
  refine wpAny_pyIter_range h1 hsm (hP _ _ (Src.sat S) S.size_none S.not_size fun A' hh' => ?_)
  have W := Walks.range (prog := C.prog) (w := C.w) hh' s.heap.objs.size a 1 (b - a).toNat
  have hl : ((List.range (b - a).toNat).map fun (i : Nat) => V.int (a + i)).length = (b - a).toNat := by simp
  rw [← hl] at W
  refine ⟨⟨_, _, _, W, ?_, fun b hb hbI => absurd (List.mem_singleton.mp hb) hbI, fun j y v hy hj => ?_, fun j h hs => ?_, fun j h hs target v E Q s e hq => ?_⟩⟩
  · have e : Heap.get? (s.heap.push { cls := .type "range_iterator", data := .fields #[rawInt a, rawInt (Builtin.Range.rangeSize a b 1), rawInt 1] }) s.heap.objs.size = some _ := Heap.get?_push_size _ rfl
    rw [hsz] at e
    show IsRangeIter _ _ _ _ _
    have e1 : (a + ((0 : Nat) : Int) * 1) = a := by simp
    have e2 : (((((List.range (b - a).toNat).map fun (i : Nat) => V.int (a + i)).length : Nat) : Int) - ((0 : Nat) : Int)) = b - a := by rw [hl]; walk_at "om"
    rw [e1, e2, hsz]
    exact e
  · obtain ⟨t, rfl⟩ := hy
    rw [List.getElem?_map] at hj
    by_cases hlt : j < (b - a).toNat
    · rw [List.getElem?_range hlt] at hj
      have : v = .int (a + (j : Int) * 1) := by simpa using hj.symm
      subst this
      exact vint
    · rw [List.getElem?_eq_none (by simpa using hlt)] at hj; cases hj
  · exact ⟨_, hs, by show Value.type "range_iterator" ≠ _; decide, by show Value.type "range_iterator" ≠ _; decide, by show Value.type "range_iterator" ≠ _; decide⟩
  · exact lotg (by rw [e]; exact hs) rfl rfl (by decide) target v hq
theorem it_dct {es : List (Str × V)} : IterOf C led (.dct es) (es.map fun kv => V.str kv.1) := fun A Φ s y P E hh S hy hP => by
  simp only [VR] at hy
  obtain ⟨d, o, kvs, rfl, hm, hp, hd, hr⟩ := hy
  obtain ⟨hx, es', ep, hdd, hk, hpp, hn⟩ := hd
  have ho := S.sub _ _ hp
  have hat : s.heap.DictAt C.sk d kvs ep := ⟨o, es', ho, hx, hdd, hk, hpp, hn⟩
  have hlen := ves_length hr
  refine wpAny_pyIter_dict hm hat (hP _ _ (Src.sat S) S.size_none S.not_size fun A' hh' => ?_)
  have hne : d ≠ s.heap.objs.size := Nat.ne_of_lt (Heap.lt_size ho)
  have W := Walks.dictKeys (knd := C.sk) hh' s.heap.objs.size d hne kvs ep
  have hl : (es.map fun kv => V.str kv.1).length = kvs.length := by simp [hlen]
  have W' : Walks C.prog C.w A' s.heap.objs.size [s.heap.objs.size, d] [s.heap.objs.size] (es.map fun kv => V.str kv.1).length (fun i v => ∃ k x, kvs[i]? = some (k, x) ∧ C.sk.is k v = true) (fun i h => h.IsKeyIter s.heap.objs.size d i kvs.length ep ∧ h.DictAt C.sk d kvs ep) := by
    rw [hl]; exact W
  refine ⟨⟨_, _, _, W', ⟨⟨_, Heap.get?_push_size _ rfl, rfl, rfl⟩, ⟨o, es', Heap.get?_push_of_some _ ho, hx, hdd, hk, hpp, hn⟩⟩, fun b hb hbI => ?_, fun j y v hy hj => ?_, fun j h hs => ?_, fun j h hs target v E Q s e hq => ?_⟩⟩
  · rcases List.mem_cons.mp hb with e | hb
    · exact absurd e hbI
    · rw [List.mem_singleton.mp hb]; exact ⟨_, hp⟩
  · obtain ⟨k, x, hk1, hk2⟩ := hy
    have key : ∀ {es : List (Str × V)} {kvs : List (Str × Value)} {j : Nat}, VEs C Φ es kvs → kvs[j]? = some (k, x) → (es.map fun kv => V.str kv.1)[j]? = some v → v = .str k := by
      intro es
      induction es with
      | nil => intro kvs j h e1 e2; simp at e2
      | cons kv r ih =>
        obtain ⟨k', v'⟩ := kv
        intro kvs j h e1 e2
        simp only [VEs] at h
        obtain ⟨y, ys, rfl, h1, h2⟩ := h
        cases j with
        | zero => simp at e1 e2; rw [← e2, e1.1]
        | succ j => simp at e1; exact ih h2 e1 (by simpa using e2)
    rw [key hr hk1 hj]
    obtain ⟨t, rfl⟩ := Value.isStrOf_shape hk2
    exact vstr
  · obtain ⟨⟨o, ho, hc, _⟩, _⟩ := hs
    exact ⟨o, ho, by rw [hc]; decide, by rw [hc]; decide, by rw [hc]; decide⟩
  · obtain ⟨⟨o, ho, hc, hd⟩, _⟩ := hs
    exact lotg (by rw [e]; exact ho) hc hd (by decide) target v hq
end
section
variable {C : Cx} {n : Nat} {X : Addr → Led → Prop} {env : Env} {led : Led}
section
variable {prog : Program} {w : World} {K : Type} [DecidableEq K] {knd : PySem.KeyKind prog w K} {A : Around} {E : Value → Shared → Prop} {s : Shared}
theorem wpAny_dictPut_pairs {d : Addr} {kvs : List (K × Value)} {k : K} {key v : Value} {Q : Unit → Shared → Prop} (hkey : knd.is k key = true) (hm : s.heap.DictOf knd d kvs)
    (hQ : ∀ h', h'.DictOf knd d (stored kvs k v) → Heap.SameBut d s.heap h' → Q () { s with heap := h' })
    (hsz : kvs.length ≤ sizeLine) :
    wpAny (model prog w) A (dictPut d (knd.hash k) key v) Q E s := by
  obtain ⟨o, es, ep, ho, hc, hd, hk, hp, hn⟩ := hm
  have hes : es.size ≤ sizeLine := by have e1 := hp.length; have e2 : es.toList.length = es.size := by simp
                                      walk_at "om"
  unfold dictPut
  refine wpAny_bind (wpAny_dictFind_of hkey ho hd hk ?_)
  have hidx : (es.findIdx? fun e => knd.is k e.key) = kvs.findIdx? fun kv => decide (kv.1 = k) := by
    rw [← hp.findIdx k]; obtain ⟨l⟩ := es; simp
  cases hi : es.findIdx? fun e => knd.is k e.key with
  | some i =>
    refine wpAny_updateDict ho hd (hQ _ ⟨_, _, ep, Heap.get?_update_self _ ho (Obj.isFreed_of_dict (Obj.data_mapDict hd _)),
      hc.mapDict _, Obj.data_mapDict hd _, hk.modify _ _, ?_, ?_⟩ (Heap.SameBut.update ..))
    · rw [stored, if_pos (any_of_findIdx_some (hidx ▸ hi))]
      have hl : (es.toList.findIdx? fun e => knd.is k e.key) = some i := by rw [← hi]; obtain ⟨l⟩ := es; simp
      have := hp.modify hn hl v
      obtain ⟨l⟩ := es
      simpa using this
    · rw [stored, if_pos (any_of_findIdx_some (hidx ▸ hi)), keys_map_store]; exact hn
  | none =>
    have hnot : k ∉ kvs.map (·.1) := not_mem_of_findIdx_none (hidx ▸ hi)
    have hany : ¬ (kvs.any fun kv => decide (kv.1 = k)) = true := by
      rw [List.any_eq_true]; rintro ⟨kv, hkv, he⟩
      exact hnot (List.mem_map.mpr ⟨kv, hkv, of_decide_eq_true he⟩)
    refine wpAny_updateDictKeys (hz := hes) ho hd (hQ _ ⟨_, _, ep + 1, Heap.get?_update_self _ ho (Obj.isFreed_of_dict (Obj.data_mapDictKeys hd _)),
      hc.mapDictKeys _, Obj.data_mapDictKeys hd _, hk.push hkey _, ?_, ?_⟩ (Heap.SameBut.update ..))
    · rw [stored, if_neg hany]
      have := hp.append hkey (knd.hash k) v
      obtain ⟨l⟩ := es
      simpa using this
    · rw [stored, if_neg hany, List.map_append, List.nodup_append]
      refine ⟨hn, by simp, ?_⟩
      intro a ha b hb
      simp only [List.map_cons, List.map_nil, List.mem_singleton] at hb
      subst hb
      exact fun e => hnot (e ▸ ha)
theorem wpAny_merge_dict {d o : Addr} {kvs more : List (K × Value)} {Q : Unit → Shared → Prop} (hdo : d ≠ o) (hoS : (o == sysModules) = false)
    (hd : s.heap.DictOf knd d kvs) (ho : s.heap.DictOf knd o more) (hstr : ∀ k v, knd.is k v = true → ∃ x t, v = .str x t)
    (hQ : ∀ h', h'.DictOf knd d (merged kvs more) → Heap.SameBut d s.heap h' → Q () { s with heap := h' })
    (hsz : kvs.length + more.length ≤ sizeLine) :
    wpAny (model prog w) A (mergeMapping d (.ref o) false) Q E s := by
  obtain ⟨od, esd, epd, hod, hcd, hdd, hkd, hpd, hnd⟩ := id hd
  obtain ⟨oo, eso, epo, hoo, hco, hdo', hko, hpo, hno⟩ := id ho
  have hT : s.TypeIs (.ref o) "dict" := ho.typeIs
  have hlen : more.length = eso.size := by rw [← hpo.length]; simp
  have loop : wpAny (model prog w) A (do
      let l ← dictEntries o
      let epoch ← dictEpoch o
      forIn (List.range l.size) PUnit.unit fun i (_ : PUnit) => (do
          let l' ← dictEntries o
          match l'[i]? with
            | some e => do
              holding [e.key, e.val] (do
                if (false : Bool) = true then
                  (do if (← dictFind d e.key e.hash).isSome then rule "dict.merge.duplicate-key"; raiseNew (← newExc (.type "KeyError") [e.key]))
                dictPut d e.hash e.key e.val)
              if ((← dictEpoch o) != epoch) = true then do
                  (unsupported "dict.changed-during-merge" : Sem PUnit)
                  pure (ForInStep.yield PUnit.unit)
                else pure (ForInStep.yield PUnit.unit)
            | _ => do
              (unsupported "dict.changed-during-merge" : Sem PUnit)
              pure (ForInStep.yield PUnit.unit) : Sem (ForInStep PUnit))
      pure ()) Q E s := by
    refine wpAny_bind (wpAny_dictEntries hoo hdo' ?_)
    refine wpAny_bind (wpAny_dictEpoch hoo hdo' (wpAny_bind ?_))
    refine wpAny_forIn_list _
      (fun rest _ s' => ∃ h' i, s' = { s with heap := h' } ∧ rest = List.range' i (eso.size - i) ∧ i ≤ eso.size ∧ h'.DictOf knd d (merged kvs (more.take i)) ∧ h'.get? o = some oo ∧ Heap.SameBut d s.heap h')
      _ ?_ ?_ _ _ ⟨s.heap, 0, rfl, by simp [List.range_eq_range'], Nat.zero_le _, by simpa [merged] using hd, hoo, Heap.SameBut.refl _ _⟩
    · rintro x rest b s' ⟨h', i, rfl, hr, hi, hd', hoo', hs'⟩
      have hlt : i < eso.size := by
        rcases Nat.lt_or_ge i eso.size with h | h
        · exact h
        · rw [Nat.sub_eq_zero_of_le h] at hr; simp at hr
      obtain ⟨rfl, hrest⟩ : x = i ∧ rest = List.range' (i + 1) (eso.size - (i + 1)) := by
        have e : eso.size - i = (eso.size - (i + 1)) + 1 := by walk_at "om"
        rw [e, List.range'_succ] at hr
        injection hr with h1 h2
        exact ⟨h1, h2⟩
      refine wpAny_bind (wpAny_dictEntries hoo' hdo' ?_)
      rw [Array.getElem?_eq_getElem hlt]
      obtain ⟨kv, hkv⟩ : ∃ kv, more[x]? = some kv := ⟨more[x]'(by rw [hlen]; exact hlt), List.getElem?_eq_getElem _⟩
      obtain ⟨k, v⟩ := kv
      obtain ⟨hkey, hval⟩ := hpo.get? (e := eso[x]) (by simp [hlt]) hkv
      obtain ⟨k', hkey', hhash⟩ := hko eso[x] (Array.getElem_mem hlt)
      obtain rfl : k' = k := knd.inj _ _ _ hkey' hkey
      have hmx : (merged kvs (more.take x)).length ≤ sizeLine := by
        have e1 := merged_length_le kvs (more.take x)
        have e2 : (more.take x).length ≤ more.length := by rw [List.length_take]; walk_at "om"
        walk_at "om"
      refine wpAny_bind (wpAny_holding ?_)
      simp only [Bool.false_eq_true, if_false]
      rw [hhash, hval]
      refine wpAny_dictPut_pairs (hsz := hmx) hkey hd' fun h'' hd'' hs'' => ?_
      have hoo'' : h''.get? o = some oo := (hs''.2 o (Ne.symm hdo)).trans hoo'
      refine wpAny_bind (wpAny_dictEpoch hoo'' hdo' ?_)
      rw [if_neg (by simp)]
      exact wpAny_pure ⟨h'', x + 1, rfl, hrest, hlt, by rw [merged_take_succ kvs more x (k', v) hkv]; exact hd'', hoo'', hs'.trans hs''⟩
    · rintro b s' ⟨h', i, rfl, hr, hi, hd', hoo', hs'⟩
      have hin : i = eso.size := by
        rcases Nat.lt_or_ge i eso.size with h | h
        · have e : eso.size - i = (eso.size - (i + 1)) + 1 := by walk_at "om"
          rw [e, List.range'_succ] at hr; exact nomatch hr
        · exact Nat.le_antisymm hi h
      refine wpAny_pure (hQ h' ?_ hs')
      rw [hin, ← hlen, List.take_length] at hd'; exact hd'
  unfold mergeMapping
  refine wpAny_bind (wpAny_isInstance hT isSubtype_dict_dict ?_)
  simp only [if_true]
  refine wpAny_bind (wpAny_specialOf hT F.slot_dict_iter.lookup (wpAny_bind (wpAny_pure ?_)))
  have e1 : (some (Value.builtin "dict.__iter__") == some (Value.builtin "dict.__iter__")) = true := by decide
  rw [e1]
  dsimp only
  rw [if_neg (by rw [hoS]; exact Bool.false_ne_true)]
  have skip : ∀ (l : List DictEntry) (f : DictEntry → PUnit → Sem (ForInStep PUnit)), (∀ e ∈ l, ∀ u, f e u = pure (ForInStep.yield PUnit.unit)) → forIn l PUnit.unit f = pure PUnit.unit := by
    intro l f
    induction l with
    | nil => intro _; rfl
    | cons e r ih => intro h; rw [List.forIn_cons, h e List.mem_cons_self]; exact ih fun e' he' => h e' (List.mem_cons_of_mem _ he')
  refine wpAny_bind (wpAny_dictEntries hod hdd ?_)
  split
  · refine wpAny_bind (wpAny_dictEntries hoo hdo' ?_)
    rw [← Array.forIn_toList, skip]
    · refine wpAny_bind (wpAny_pure ?_)
      exact loop
    · intro e he u
      obtain ⟨k, hk1, _⟩ := hko e (Array.mem_toList_iff.mp he)
      obtain ⟨x, t, ht⟩ := hstr _ _ hk1
      rw [ht]
  · exact loop
end
end
section
variable {C : Cx} {n : Nat} {X : Addr → Led → Prop} {env : Env} {led : Led}
noncomputable def mkD (es fs : List (Str × V)) : List (Str × V) := fs.foldl (fun acc kv => stE acc kv.1 kv.2) es
theorem ves_merged {Φ : PH} : ∀ {fs : List (Str × V)} {ks : List (Str × Value)} {es : List (Str × V)} {kvs : List (Str × Value)}, VEs C Φ es kvs → VEs C Φ fs ks → VEs C Φ (mkD es fs) (merged kvs ks)
  | [], ks, es, kvs, h, h' => by simp only [VEs] at h'; subst h'; exact h
  | (k, v) :: fs, ks, es, kvs, h, h' => by
    simp only [VEs] at h'
    obtain ⟨y, ys, rfl, h1, h2⟩ := h'
    show VEs C Φ (mkD (stE es k v) fs) (merged (stored kvs k y) ys)
    exact ves_merged (ves_stored h h1) h2
theorem we_dict0 {p : Pos} {Q : V → Led → Prop} (h : ∀ a, Q (.ref a) ((a, .dict []) :: led)) : WE C n X env (.Dict [] [] p) led Q := fun A Φ s hA S => by
  refine wpAny_Dict_empty ?_
  exact ⟨Φ, _, _, Le.refl _, S.toSat0.alloc (o := { cls := .type "dict", data := .dict #[] }) (ao := .dict []) rfl ⟨[], ⟨⟨rfl, rfl, rfl⟩, #[], 0, rfl, fun _ he => by simp at he, Pairs.nil, List.nodup_nil⟩, by simp only [VEs]⟩, vval, h _⟩
noncomputable def emptyD : Obj := { cls := .type "dict", data := .dict #[] }
theorem emptyD_ok {Φ : PH} : OOk C Φ emptyD (.dict []) := ⟨[], ⟨⟨rfl, rfl, rfl⟩, #[], 0, rfl, fun _ he => by simp at he, Pairs.nil, List.nodup_nil⟩, by simp only [VEs]⟩
noncomputable def WPairs (C : Cx) (n : Nat) (X : Addr → Led → Prop) (env : Env) : List (Option Expr) → List Expr → Led → (List (Str × V) → Led → Prop) → Prop
  | some k :: ks, v :: vs, led, Q => WE C n X env k led fun kv led1 => WE C n X env v led1 fun vv led2 => ∃ key, kv = .str key ∧ WPairs C n X env ks vs led2 fun es led3 => Q ((key, vv) :: es) led3
  | _, _, led, Q => Q [] led
noncomputable def RPs (C : Cx) : PH → List (Str × V) → List (Value × Value) → Prop := fun Φ es vs => ∃ kvs, Carries C.sk vs kvs ∧ VEs C Φ es kvs
theorem wPairs {A : Around} (hA : Room n A) {pos : Pos} : ∀ {ks : List (Option Expr)} {vs : List Expr} {led : Led} {Q : List (Str × V) → Led → Prop} {Φ : PH} {s : Shared}, Sat C Φ led s → WPairs C n X env ks vs led Q →
    wpAny C.M A (evalPairs (pairTrees ks vs env pos)) (Post C Φ (RPs C) Q) (EPost C Φ X) s
  | some k :: ks, v :: vs, led, Q, Φ, s, S, h => by
    show wpAny C.M A (eval k env >>= fun kv => holding [kv] (do let x ← eval v env; standAt pos; pure x) >>= fun vv => holding [kv, vv] (evalPairs (pairTrees ks vs env pos)) >>= fun r => pure ((kv, vv) :: r)) _ _ s
    refine wpSeq S.tk (h A Φ s hA S) (fun x Φ1 kv led1 s1 h1 S1 r1 q1 => ?_)
    refine wpSeq (R := RV C) S1.tk (wpAny_holding (wpAny_bind (wpAny_mono (q1 A Φ1 s1 hA S1) (fun _ _ z => wpAny_bind (wpAny_standAt (wpAny_pure z))) fun _ _ z => z))) (fun y Φ2 vv led2 s2 h2 S2 r2 q2 => ?_)
    obtain ⟨key, rfl, q2⟩ := q2
    obtain ⟨t, rfl⟩ := wv_str r1
    refine wpSeq (R := RPs C) S2.tk (wpAny_holding (wPairs hA S2 q2)) (fun zs Φ3 es led3 s3 h3 S3 r3 q3 => ?_)
    obtain ⟨kvs, hc, hv⟩ := r3
    refine wpAny_pure (post (R := RPs C) S3.toSat0 ⟨(key, y) :: kvs, ⟨sk_is (C := C), rfl, hc⟩, ?_⟩ q3)
    simp only [VEs]; exact ⟨y, kvs, rfl, r2.mono h3, hv⟩
  | [], vs, led, Q, Φ, s, S, h => by
    have : pairTrees [] vs env pos = [] := by unfold pairTrees; rfl
    rw [this]
    have h : Q [] led := by simpa [WPairs] using h
    exact wpAny_pure (post (R := RPs C) (b := []) S.toSat0 ⟨[], trivial, by simp only [VEs]⟩ h)
  | none :: ks, vs, led, Q, Φ, s, S, h => by
    have : pairTrees (none :: ks) vs env pos = [] := by unfold pairTrees; rfl
    rw [this]
    exact wpAny_pure (post (R := RPs C) (b := []) S.toSat0 ⟨[], trivial, by simp only [VEs]⟩ h)
  | some k :: ks, [], led, Q, Φ, s, S, h => by
    have : pairTrees (some k :: ks) [] env pos = [] := by unfold pairTrees; rfl
    rw [this]
    exact wpAny_pure (post (R := RPs C) (b := []) S.toSat0 ⟨[], trivial, by simp only [VEs]⟩ h)
theorem we_dict {keys : List (Option Expr)} {values : List Expr} {p : Pos} {Q : V → Led → Prop}
    (h : ∀ d, WPairs C n X env keys values ((d, .dict []) :: led) fun es led1 => ∃ led2, Up d (.dict []) (.dict (mkD [] es)) led1 led2 ∧ es.length ≤ 1000 ∧ Q (.ref d) led2)
    (hall : keys.all (·.isSome) = true := by rfl) (hl : keys.length = values.length := by rfl) (h0 : keys ≠ [] := by intro h; cases h) (hlen : keys.length ≤ 15 := by decide) : WE C n X env (.Dict keys values p) led Q := fun A Φ s hA S => by
  refine wpAny_Dict_any hall hl h0 hlen ?_
  have S1 := S.alloc (o := emptyD) (ao := .dict []) rfl emptyD_ok
  refine wpThen (C := C) (R := RPs C) S1.tk (wPairs hA S1 (h s.heap.objs.size)) (fun vs Φ1 es led1 s1 h1 S2 r1 q1 => ?_) fun _ _ e => e
  obtain ⟨led2, U, hz, q⟩ := q1
  obtain ⟨kvs, hc, hv⟩ := r1
  obtain ⟨o, ho, kv0, hd, h0'⟩ := S2.at U.mem
  simp only [VEs] at h0'; subst h0'
  have hkl := ves_length hv
  refine wpAny_storeAll (knd := C.sk) vs kvs [] s1 _ hc (hd.dictOf ho) (by rw [hkl, sizeLine_eq]; simp; walk_at "om") fun h' hd' hs' => ?_
  obtain ⟨o', ho', hd''⟩ := DObj.of hd'
  exact ⟨Φ1, _, led2, h1, (S2.toSat0.up1 U (s' := { s1 with heap := h', toks := s1.toks + vs.length }) hs'.extBut ho' ⟨_, hd'', ves_merged (by simp only [VEs]) hv⟩), vval, q⟩
theorem wp_star {A : Around} {Φ : PH} {s : Shared} {d : Addr} {v : V} {x : Value} {es fs : List (Str × V)} {led' : Led} (S : Sat C Φ led s) (U : Up d (.dict es) (.dict (mkD es fs)) led led') (hv : DictV C led v fs) (hx : VR C Φ v x) (hne : v ≠ .ref d) (hz : es.length + fs.length ≤ sizeLine)
    {P : Unit → Shared → Prop} {E : Value → Shared → Prop} (h : ∀ s', Sat C Φ led' s' → P () s') : wpAny C.M A (mergeMapping d x false) P E s := by
  obtain ⟨a, kvs, rfl, hm, hd, hr⟩ := hv Φ s x S hx
  obtain ⟨o, ho, kv0, hd0, hr0⟩ := S.at U.mem
  have l1 := ves_length hr
  have l2 := ves_length hr0
  have hda : d ≠ a := by
    intro e
    subst e
    have hoff := S.off _ U.mem
    cases v with
    | val y =>
      have := wv_val hx
      exact hne (by rw [← this])
    | none => simp [VR] at hx
    | bool b => simp [VR] at hx
    | int i => simp [VR] at hx
    | str i => simp [VR] at hx
    | tup vs => simp only [VR] at hx; obtain ⟨a, _, _, e, hp, _⟩ := hx; cases e; rw [hp] at hoff; cases hoff
    | lst vs => simp only [VR] at hx; obtain ⟨a, _, _, e, hp, _⟩ := hx; cases e; rw [hp] at hoff; cases hoff
    | dct vs => simp only [VR] at hx; obtain ⟨a, _, _, e, _, hp, _⟩ := hx; cases e; rw [hp] at hoff; cases hoff
  refine wpAny_merge_dict (knd := C.sk) hda hm (hd0.dictOf ho) hd (fun k v hk => let ⟨t, ht⟩ := Value.isStrOf_shape hk; ⟨_, _, ht⟩) (fun h' hd' hs' => h _ ?_) (by walk_at "om")
  obtain ⟨o', ho', hd''⟩ := DObj.of hd'
  exact ⟨S.toSat0.up1 U (s' := { s with heap := h' }) hs'.extBut ho' ⟨_, hd'', ves_merged hr0 hr⟩, S.tk⟩
theorem we_star1 {e : Expr} {p : Pos} {Q : V → Led → Prop} (h : ∀ d, WE C n X env e ((d, .dict []) :: led) fun v led1 => ∃ fs led2, DictV C led1 v fs ∧ v ≠ .ref d ∧ fs.length ≤ sizeLine ∧ Up d (.dict []) (.dict (mkD [] fs)) led1 led2 ∧ Q (.ref d) led2) : WE C n X env (.Dict [none] [e] p) led Q := fun A Φ s hA S => by
  rw [arm_eval_Dict]
  refine wpAny_bind (wpAny_standAt ?_)
  show wpAny C.M A (dictDisplay [(none, do let x ← eval e env; standAt p; pure x)]) _ _ s
  unfold dictDisplay
  dsimp only
  rw [List.forIn_cons]
  dsimp only
  simp only [List.isEmpty_nil, if_true]
  refine wpAny_bind (wpAny_bind (wpAny_bind (wpAny_pure (wpAny_bind (wpAny_alloc ?_)))))
  have S1 := S.alloc (o := emptyD) (ao := .dict []) rfl emptyD_ok
  refine wpAny_bind (wpAny_holding (wpAny_bind ?_))
  refine wpThen S1.tk (h s.heap.objs.size A Φ _ hA S1) (fun x Φ1 v led1 s1 h1 S2 r1 q1 => wpAny_bind (wpAny_standAt (wpAny_pure ?_))) fun _ _ e => e
  obtain ⟨fs, led2, hv, hne, hz, U, q⟩ := q1
  refine wpAny_bind (wpAny_onRaise (wpAny_tryCatch (wpAny_onRaise (wpAny_holding (wp_star S2 U hv r1 hne (by simpa using hz) fun s' S3 => wpAny_pure ?_)))))
  dsimp only
  rw [List.forIn_nil]
  refine wpAny_pure ?_
  simp only [List.isEmpty_nil, if_true]
  exact wpAny_bind (wpAny_pure (wpAny_pure ⟨Φ1, _, led2, h1, S3.toSat0, vval, q⟩))
theorem we_star2 {e f : Expr} {p : Pos} {Q : V → Led → Prop} (h : ∀ d, WE C n X env e ((d, .dict []) :: led) fun v led1 => ∃ fs led2, DictV C led1 v fs ∧ v ≠ .ref d ∧ fs.length ≤ sizeLine ∧ Up d (.dict []) (.dict (mkD [] fs)) led1 led2 ∧
      WE C n X env f led2 fun w led3 => ∃ gs led4, DictV C led3 w gs ∧ w ≠ .ref d ∧ (mkD [] fs).length + gs.length ≤ sizeLine ∧ Up d (.dict (mkD [] fs)) (.dict (mkD (mkD [] fs) gs)) led3 led4 ∧ Q (.ref d) led4) : WE C n X env (.Dict [none, none] [e, f] p) led Q := fun A Φ s hA S => by
  rw [arm_eval_Dict]
  refine wpAny_bind (wpAny_standAt ?_)
  show wpAny C.M A (dictDisplay [(none, do let x ← eval e env; standAt p; pure x), (none, do let x ← eval f env; standAt p; pure x)]) _ _ s
  unfold dictDisplay
  dsimp only
  rw [List.forIn_cons]
  dsimp only
  simp only [List.isEmpty_nil, if_true]
  refine wpAny_bind (wpAny_bind (wpAny_bind (wpAny_pure (wpAny_bind (wpAny_alloc ?_)))))
  have S1 := S.alloc (o := emptyD) (ao := .dict []) rfl emptyD_ok
  refine wpAny_bind (wpAny_holding (wpAny_bind ?_))
  refine wpThen S1.tk (h s.heap.objs.size A Φ _ hA S1) (fun x Φ1 v led1 s1 h1 S2 r1 q1 => wpAny_bind (wpAny_standAt (wpAny_pure ?_))) fun _ _ e => e
  obtain ⟨fs, led2, hv, hne, hz, U, q⟩ := q1
  refine wpAny_bind (wpAny_onRaise (wpAny_tryCatch (wpAny_onRaise (wpAny_holding (wp_star S2 U hv r1 hne (by simpa using hz) fun s' S3 => wpAny_pure ?_)))))
  dsimp only
  rw [List.forIn_cons]
  dsimp only
  simp only [List.isEmpty_nil, if_true]
  refine wpAny_bind (wpAny_bind (wpAny_pure (wpAny_bind (wpAny_pure ?_))))
  refine wpAny_bind (wpAny_holding (wpAny_bind ?_))
  refine wpThen S3.tk (q A Φ1 s' hA S3) (fun y Φ2 w led3 s3 h2 S4 r2 q2 => wpAny_bind (wpAny_standAt (wpAny_pure ?_))) fun _ _ e => e.mono h1
  obtain ⟨gs, led4, hw, hne2, hz2, U2, q⟩ := q2
  refine wpAny_bind (wpAny_onRaise (wpAny_tryCatch (wpAny_onRaise (wpAny_holding (wp_star S4 U2 hw r2 hne2 hz2 fun s' S5 => wpAny_pure ?_)))))
  dsimp only
  rw [List.forIn_nil]
  refine wpAny_pure ?_
  simp only [List.isEmpty_nil, if_true]
  exact wpAny_bind (wpAny_pure (wpAny_pure ⟨Φ2, _, led4, h1.trans h2, S5.toSat0, vval, q⟩))
noncomputable abbrev emD (C : Cx) (n : Nat) (kx vx : Expr) (acc : Addr) (cenv : Env) (led3 : Led) (K : Led → Prop) : Prop := WE C n NoX cenv kx led3 fun k led4 => WE C n NoX cenv vx led4 fun v led5 => ∃ key es led6, k = .str key ∧ Up acc (.dict es) (.dict (stE es key v)) led5 led6 ∧ es.length ≤ sizeLine ∧ K led6
theorem emD_w {kx vx : Expr} {p : Pos} {acc : Addr} {cenv : Env} {led : Led} {K : Led → Prop} (hin : emD C n kx vx acc cenv led K) : W C n NoX RU (do
      let kv ← eval kx cenv
      let vv ← holding [kv] (eval vx cenv)
      standAt p
      holding [kv, vv] (dictSet acc kv vv)) led fun _ led' => K led' := by
  intro A Φ s hA S
  refine wpSeq S.tk (hin A Φ s hA S) (fun x Φ1 k led1 s1 h1 S1 r1 q1 => ?_)
  refine wpSeq (R := RV C) S1.tk (wpAny_holding (q1 A Φ1 s1 hA S1)) (fun y Φ2 v led2 s2 h2 S2 r2 q2 => ?_)
  obtain ⟨key, es, led6, rfl, U, hz, q⟩ := q2
  obtain ⟨t, rfl⟩ := wv_str r1
  obtain ⟨o, ho, kvs, hd, hr⟩ := S2.at U.mem
  refine wpAny_bind (wpAny_standAt (wpAny_holding (wpAny_dictSet_pairs (knd := C.sk) (k := key) sk_is (hd.dictOf ho) (fun h' hd' hs => ?_) (by rw [ves_length hr]; exact hz))))
  obtain ⟨o', ho', hd''⟩ := DObj.of hd'
  exact post (b := ()) (S2.toSat0.up1 U (s' := { s2 with heap := h', toks := s2.toks + 1 }) hs.extBut ho' ⟨_, hd'', ves_stored hr r2⟩) trivial q
noncomputable def emitD (kx vx : Expr) : Value → Env → Sem Unit
  | .ref acc, cenv => do
      let kv ← eval kx cenv
      let vv ← holding [kv] (eval vx cenv)
      standAt { kx.pos with endLine := vx.pos.endLine, endCol := vx.pos.endCol }
      holding [kv, vv] (dictSet acc kv vv)
  | _, _ => pure ()
theorem eval_dcomp (kx vx : Expr) (gens : List Comprehension) (scope : Scope) (pos : Pos) : eval (.DictComp kx vx gens scope pos) env = comprehension (.DictComp kx vx gens scope pos) scope env (firstIterPos gens pos) newDict (firstAsync gens) (firstIter gens env) none := rfl
theorem evalThenUse_dict (kx vx : Expr) (gens : List Comprehension) (scope : Scope) (pos : Pos) (use : Value → Sem Unit) : evalThenUse (.DictComp kx vx gens scope pos) env use = (do let _ ← comprehension (.DictComp kx vx gens scope pos) scope env (firstIterPos gens pos) newDict (firstAsync gens) (firstIter gens env) (some use)) := rfl
theorem we_dcomp {kx vx target iter : Expr} {ifs : List Expr} {scope : Scope} {pos : Pos} {cl : List (Str × Addr)} {Q : V → Led → Prop}
    (h : WE C n X env iter led fun v led1 => ∃ items lean, IterO C led1 v items lean ∧ lean led1 ∧ ∀ acc L, WCells scope.names cl ((L, .frame []) :: (acc, .dict []) :: led1) fun cells led2 =>
      WGenO C n (cenvOf scope env L cells) target ifs (emD C n kx vx acc (cenvOf scope env L cells)) lean items led2 fun led3 => ∃ loc led4, Rm L (.frame loc) led3 led4 ∧ Q (.ref acc) led4)
    (hclos : closureFor scope env = pure cl := by rfl) (hs : ∀ x, foldedSetIterable iter env x = pure x := by intro _; rfl) (hkind : scope.kind = .function := by rfl) (hnames : ∀ x ∈ scope.names, x.2 = .local → scope.names.lookup x.1 = some .local := by decide) :
    WE C n X env (.DictComp kx vx [⟨target, iter, ifs, 0⟩] scope pos) led Q := fun A Φ s hA S => by
  rw [eval_dcomp]
  refine wcompO (p := iter.pos) (K := fun acc L led3 => ∃ loc led4, Rm L (.frame loc) led3 led4 ∧ Q (.ref acc) led4) (newAcc := newDict) (oacc := emptyD) (ao := .dict []) (g := ⟨target, iter, ifs, 0⟩) (gs := []) (emit := emitD kx vx)
    (inner := emD C n kx vx)
    hA S rfl hs hclos hkind hnames newDict_acc rfl (fun Φ => emptyD_ok) (fun I acc cenv => ?_) (fun _ _ _ => rfl) (fun _ _ _ => under0 rfl rfl) (fun I acc cenv R s h0 hit => codeAny_compStart_dict h0 (hit _ _ h0)) (fun acc cenv led K hin => emD_w hin) h (fun acc L Φ' led' s' h1 S1 q1 => ?_) (fun _ _ e => e)
  · rw [compTurn_dict]
    rfl
  · obtain ⟨loc, led5, U, q⟩ := q1
    exact post_none S1 U fun s'' S'' => ⟨Φ', .ref acc, led5, h1, S'', vval, q⟩
theorem wx_dcomp {x : Str} {np : Pos} {p : Pos} {kx vx target iter : Expr} {ifs : List Expr} {scope : Scope} {pos : Pos} {cl : List (Str × Addr)} {Q : F → Led → Prop}
    (h : WE C n X env iter led fun v led1 => ∃ items lean, IterO C led1 v items lean ∧ lean led1 ∧ ∀ acc L, WCells scope.names cl ((L, .frame []) :: (acc, .dict []) :: led1) fun cells led2 =>
      WGenO C n (cenvOf scope env L cells) target ifs (emD C n kx vx acc (cenvOf scope env L cells)) lean items led2 fun led3 => W1 C n X RU (storeName env x) (.ref acc) led3 fun _ led4 => ∃ loc led5, Rm L (.frame loc) led4 led5 ∧ Q .next led5)
    (hsw : swapsWithSole [.Name x np] (.DictComp kx vx [⟨target, iter, ifs, 0⟩] scope pos) p.line env = pure true := by kernel_rfl)
    (hclos : closureFor scope env = pure cl := by rfl) (hs : ∀ x, foldedSetIterable iter env x = pure x := by intro _; rfl) (hkind : scope.kind = .function := by rfl) (hnames : ∀ x ∈ scope.names, x.2 = .local → scope.names.lookup x.1 = some .local := by decide) :
    WX C n X env (.Assign [.Name x np] (.DictComp kx vx [⟨target, iter, ifs, 0⟩] scope pos) p) led Q := fun A Φ s hA S => by
  refine exec_use hsw ?_
  rw [evalThenUse_dict]
  refine wpAny_bind (wcompO (p := iter.pos) (K := fun acc L led3 => W1 C n X RU (storeName env x) (.ref acc) led3 fun _ led4 => ∃ loc led5, Rm L (.frame loc) led4 led5 ∧ Q .next led5) (newAcc := newDict) (oacc := emptyD) (ao := .dict []) (g := ⟨target, iter, ifs, 0⟩) (gs := []) (emit := emitD kx vx)
    (inner := emD C n kx vx)
    hA S rfl hs hclos hkind hnames newDict_acc rfl (fun Φ => emptyD_ok) (fun I acc cenv => ?_) (fun _ _ _ => rfl) (fun _ _ _ => under0 rfl rfl) (fun I acc cenv R s h0 hit => codeAny_compStart_dict h0 (hit _ _ h0)) (fun acc cenv led K hin => emD_w hin) h (fun acc L Φ' led' s' h1 S1 q1 => ?_) (fun _ _ e => e))
  · rw [compTurn_dict]
    rfl
  · refine post_some (X := X) (Q := fun l => Q .next l) hA S1 (fun A Φ s y hA S hy => ?_) (fun Φ'' led5 s'' h2 S2 q2 => wpAny_pure ⟨Φ'', .next, led5, h1.trans h2, S2, rfl, q2⟩) fun _ _ e => e.mono h1
    show wpAny C.M A (assignAll y [assign (.Name x np) env]) _ _ s
    exact wpAny_assign_Name (q1 A Φ s y hA S hy)
end
section
variable {C : Cx} {n : Nat} {X : Addr → Led → Prop} {env : Env} {led : Led}
noncomputable def WParts (C : Cx) (n : Nat) (X : Addr → Led → Prop) (env : Env) : List Expr → Str → Led → (Str → Led → Prop) → Prop
  | [], out, led, Q => Q out led
  | e :: es, out, led, Q => WE C n X env e led fun v led1 => ∃ y, v = .str y ∧ out.length + y.length ≤ sizeLine ∧ WParts C n X env es (out ++ y) led1 Q
theorem slen_append (x y : Str) : (x ++ y).length = x.length + y.length := strLen_append x y
theorem wParts {A : Around} (hA : Room n A) {Q : Str → Led → Prop} : ∀ {es : List Expr} {out : Str} {led : Led} {Φ : PH} {s : Shared}, Sat C Φ led s → out.length ≤ sizeLine → WParts C n X env es out led Q →
    wpAny C.M A (joinParts out (evalEach es env)) (Post C Φ (RV C) fun v l => ∃ o, v = .str o ∧ Q o l) (EPost C Φ X) s
  | [], out, led, Φ, s, S, hz, h => by
    show wpAny C.M A (joinParts out []) _ _ s
    exact joinParts_nil (post (R := RV C) (b := V.str out) (S.toSat0.toks _) vstr ⟨out, rfl, h⟩) hz
  | e :: es, out, led, Φ, s, S, hz, h => by
    have : evalEach (e :: es) env = eval e env :: evalEach es env := rfl
    rw [this]
    refine joinParts_cons (wpThen S.tk (h A Φ s hA S) (fun x Φ1 v led1 s1 h1 S1 r1 q1 => ?_) fun _ _ e => e)
    obtain ⟨y, rfl, hy, q⟩ := q1
    obtain ⟨t, rfl⟩ := wv_str r1
    have hl : (out ++ y).length ≤ sizeLine := by rw [slen_append]; exact hy
    exact ⟨hl, wpGo h1 (wParts hA S1 hl q)⟩
theorem we_fstr {e f : Expr} {es : List Expr} {p : Pos} {Q : V → Led → Prop} (h : WParts C n X env (e :: f :: es) Str.empty led fun o led1 => Q (.str o) led1) : WE C n X env (.JoinedStr (e :: f :: es) p) led Q := fun A Φ s hA S => by
  refine JoinedStr_many ?_
  exact wpAny_mono (wParts hA S (by decide) h) (fun _ _ ⟨Φ', v, l, h1, h2, h3, o, e, q⟩ => ⟨Φ', v, l, h1, h2, h3, by rw [e]; exact q⟩) fun _ _ z => z
theorem we_fval {e : Expr} {p : Pos} {Q : V → Led → Prop} (h : WE C n X env e led fun v led1 => ∃ y, v = .str y ∧ y.length ≤ sizeLine ∧ Q (.str y) led1) : WE C n X env (.FormattedValue e (-1) none p) led Q := fun A Φ s hA S => by
  refine FormattedValue_plain (wpThen S.tk (h A Φ s hA S) (fun x Φ1 v led1 s1 h1 S1 r1 q1 => ?_) fun _ _ e => e)
  obtain ⟨y, rfl, hy, q⟩ := q1
  obtain ⟨t, rfl⟩ := wv_str r1
  exact wpAny_formatField_str ⟨Φ1, _, led1, h1, S1.toSat0, vstr, q⟩ ⟨Φ1, _, led1, h1, S1.toSat0.toks _, vstr, q⟩ hy
theorem vals_of {Φ : PH} : ∀ {ss : List Str} {xs : List Value}, VRs C Φ (ss.map V.str) xs → ∃ l : List (Str × Tok), xs = strValues l ∧ l.map (·.1) = ss
  | [], _, h => by simp only [List.map_nil, VRs] at h; rw [h]; exact ⟨[], rfl, rfl⟩
  | s :: ss, _, h => by
    simp only [List.map_cons, VRs] at h
    obtain ⟨y, ys, rfl, h1, h2⟩ := h
    obtain ⟨t, rfl⟩ := wv_str h1
    obtain ⟨l, rfl, e⟩ := vals_of h2
    exact ⟨(s, t) :: l, rfl, by rw [List.map_cons, e]⟩
theorem vals_vrs {Φ : PH} : ∀ {l : List (Str × Tok)}, VRs C Φ ((l.map (·.1)).map V.str) (strValues l)
  | [] => VRs.nil
  | (s, t) :: l => VRs.cons vstr vals_vrs
noncomputable def catAll (ss : List Str) : Str := ⟨(ss.map fun s => s.cps.toList).flatten.toArray⟩
theorem glued_empty (ss : List Str) : Builtin.Str.glued Str.empty ss = catAll ss := by
  have key : ∀ (ss : List Str) (acc : Array Nat), ss.foldl (fun acc p => acc ++ Str.empty.cps ++ p.cps) acc = acc ++ (ss.map fun s => s.cps.toList).flatten.toArray := by
    intro ss
    induction ss with
    | nil => intro acc; simp
    | cons s ss ih =>
      intro acc
      rw [List.foldl_cons, ih]
      have : Str.empty.cps = #[] := rfl
      rw [this]
      simp only [Array.append_empty, Array.append_assoc, List.map_cons, List.flatten_cons]
      congr 1
      rw [← List.append_toArray, Array.toArray_toList]
  unfold Builtin.Str.glued catAll
  cases ss with
  | nil => rfl
  | cons s ss =>
    rw [List.drop_succ_cons, List.drop_zero, key]
    simp
theorem catAll_length (ss : List Str) : (catAll ss).length = (ss.map Str.length).sum := by
  unfold catAll
  show (List.toArray _).size = _
  rw [List.size_toArray, List.length_flatten, List.map_map]
  rfl
theorem foldl_len (sep : Nat) : ∀ (ss : List Str) (a : Nat), ss.foldl (fun acc s => acc + s.length + sep) a = a + (ss.map Str.length).sum + sep * ss.length
  | [], a => by simp
  | s :: ss, a => by
    rw [List.foldl_cons, foldl_len sep ss]
    simp [Nat.mul_add]
    walk_at "om"
theorem wc_join {v : V} {ss : List Str} {Q : V → Led → Prop} (hv : ListV C led v (ss.map V.str)) (hz : (catAll ss).length ≤ sizeLine) (h : Q (.str (catAll ss)) led) : WC C n X (.val (.builtin "str.join")) [.str Str.empty, v] [] led Q := fun A Φ s fx xs ks hA S hf hp hk => by
  obtain ⟨x, y, rfl, hx, hy⟩ := vrs2 hp
  rw [wv_val hf, ves0 hk]
  obtain ⟨t, rfl⟩ := wv_str hx
  obtain ⟨a, ys, j, rfl, e, hr⟩ := hv Φ s y S hy
  obtain ⟨l, rfl, hl⟩ := vals_of hr
  refine call_meets F.slot_str_join (typeIs_str _ _ _) F.entry_str_join (F.args_str_join_2 _ _) (meets_str_join_list _ t a l ?_) ⟨isList_of e, ?_⟩
  · rw [List.foldl_toArray, hl]
    rw [show (fun (x : Nat) (x_1 : Str) => x + x_1.length + Str.empty.length) = (fun acc s => acc + s.length + 0) from rfl, foldl_len]
    rw [catAll_length] at hz
    simp [Builtin.Str.tooLong]
    walk_at "om"
  · have : Builtin.Str.glued Str.empty (l.map (·.1)) = catAll ss := by rw [hl, glued_empty]
    match l, hl, this with
    | [], hl, this =>
      refine ⟨by rw [this]; exact hz, ?_⟩
      rw [this]; exact post (S.toks _) vstr h
    | [p], hl, this =>
      have e2 : catAll ss = p.1 := by rw [← hl]; simp [catAll]
      rw [e2] at h
      exact post S.toSat0 vstr h
    | p :: q :: r, hl, this =>
      refine ⟨by rw [this]; exact hz, ?_⟩
      rw [this]; exact post (S.toks _) vstr h
theorem wc_split1 {x y : Str} {k : Int} {Q : V → Led → Prop} (hy : (y.length == 0) = false) (hk : 0 ≤ k ∧ k < 100) (hz : x.length + 2 ≤ sizeLine) (h : Q (.lst ((Txt.splitMax x y k).map V.str)) led) : WC C n X (.val (.builtin "str.split")) [.str x, .str y, .int k] [] led Q := fun A Φ s fx xs ks hA S hf hp hkw => by
  obtain ⟨a, b, c, rfl, ha, hb, hc⟩ := vrs3 hp
  rw [wv_val hf, ves0 hkw]
  obtain ⟨t, rfl⟩ := wv_str ha; obtain ⟨u, rfl⟩ := wv_str hb; obtain ⟨v, rfl⟩ := wv_int hc
  have hk' : (decide (k < -(2 ^ 63 : Int)) || decide (k ≥ 2 ^ 63)) = false := by simp; walk_at "om"
  have fin : ∀ (l : List (Str × Tok)) tk, l.map (·.1) = Txt.splitMax x y k → Post C Φ (RV C) Q (.ref s.heap.objs.size) { s with heap := s.heap.push (lstO (strValues l) 0), toks := tk } := fun l tk e => by
    obtain ⟨hle, S2⟩ := S.toSat0.allocF (o := lstO (strValues l) 0) rfl
    refine ⟨_, _, led, hle, S2.toks tk, ?_, h⟩
    rw [← e]
    simp only [RV, VR]
    exact ⟨_, _, 0, rfl, PH.put_self _ _ _, vals_vrs⟩
  have hn : (Builtin.Str.partsBetween x (Builtin.Str.occurrences x y 0 x.length (limitOf x k)) y.length).length ≤ sizeLine := by
    have e1 := StrLaws.occ_length_le_len x y 0 x.length (limitOf x k)
    rw [length_partsBetween]; walk_at "om"
  cases h1 : (decide (x.length < y.length) || decide (Builtin.Str.strKind x < Builtin.Str.strKind y))
  · cases hf : (Builtin.Str.occurrences x y 0 x.length (limitOf x k)).isEmpty
    · refine call_meets F.slot_str_split (typeIs_str _ _ _) F.entry_str_split (F.args_str_split_3 _ _ _) (meets_str_split_sep_max x y k t u v hk' h1 hy hf (by walk_at "om") hn) ?_
      show Post C Φ (RV C) Q _ { s with toks := _, heap := s.heap.push { cls := .type "list", data := .seq (strsFrom s.toks (Builtin.Str.partsBetween x (Builtin.Str.occurrences x y 0 x.length (limitOf x k)) y.length)).toArray } }
      rw [strsFrom_eq]
      exact fin (numbered s.toks _) _ ((numbered_texts _ _).trans ((if_neg (ne_true_of_eq_false h1)).trans (if_neg (ne_true_of_eq_false hf))).symm)
    · exact call_meets F.slot_str_split (typeIs_str _ _ _) F.entry_str_split (F.args_str_split_3 _ _ _) (meets_str_split_max_not_found x y k t u v hk' h1 hy hf)
        (fin [(x, t)] s.toks ((if_neg (ne_true_of_eq_false h1)).trans (if_pos hf)).symm)
  · exact call_meets F.slot_str_split (typeIs_str _ _ _) F.entry_str_split (F.args_str_split_3 _ _ _) (meets_str_split_max_cannot_occur x y k t u v hk' h1)
      (fin [(x, t)] s.toks (if_pos h1).symm)
theorem wc_rsplit1 {x y : Str} {k : Int} {Q : V → Led → Prop} (hy : (y.length == 0) = false) (hk : 0 ≤ k ∧ k < 100) (hz : x.length + 2 ≤ sizeLine) (h : Q (.lst ((Txt.rsplitMax x y k).map V.str)) led) : WC C n X (.val (.builtin "str.rsplit")) [.str x, .str y, .int k] [] led Q := fun A Φ s fx xs ks hA S hf hp hkw => by
  obtain ⟨a, b, c, rfl, ha, hb, hc⟩ := vrs3 hp
  rw [wv_val hf, ves0 hkw]
  obtain ⟨t, rfl⟩ := wv_str ha; obtain ⟨u, rfl⟩ := wv_str hb; obtain ⟨v, rfl⟩ := wv_int hc
  have hk' : (decide (k < -(2 ^ 63 : Int)) || decide (k ≥ 2 ^ 63)) = false := by simp; walk_at "om"
  have fin : ∀ (l : List (Str × Tok)) tk, l.map (·.1) = Txt.rsplitMax x y k → Post C Φ (RV C) Q (.ref s.heap.objs.size) { s with heap := s.heap.push (lstO (strValues l) 0), toks := tk } := fun l tk e => by
    obtain ⟨hle, S2⟩ := S.toSat0.allocF (o := lstO (strValues l) 0) rfl
    refine ⟨_, _, led, hle, S2.toks tk, ?_, h⟩
    rw [← e]
    simp only [RV, VR]
    exact ⟨_, _, 0, rfl, PH.put_self _ _ _, vals_vrs⟩
  have hn : (Builtin.Str.partsBetween x (Builtin.Str.occurrencesFromRight x y (limitOf x k)) y.length).length ≤ sizeLine := by
    have e1 := StrLaws.occR_length_le_len x y (limitOf x k)
    rw [length_partsBetween]; walk_at "om"
  cases h1 : (decide (x.length < y.length) || decide (Builtin.Str.strKind x < Builtin.Str.strKind y))
  · cases hf : (Builtin.Str.occurrencesFromRight x y (limitOf x k)).isEmpty
    · refine call_meets F.slot_str_rsplit (typeIs_str _ _ _) F.entry_str_rsplit (F.args_str_rsplit_3 _ _ _) (meets_str_rsplit_sep_max x y k t u v hk' h1 hy hf (by walk_at "om") hn) ?_
      show Post C Φ (RV C) Q _ { s with toks := _, heap := s.heap.push { cls := .type "list", data := .seq (strsFrom s.toks (Builtin.Str.partsBetween x (Builtin.Str.occurrencesFromRight x y (limitOf x k)) y.length)).toArray } }
      rw [strsFrom_eq]
      exact fin (numbered s.toks _) _ ((numbered_texts _ _).trans ((if_neg (ne_true_of_eq_false h1)).trans (if_neg (ne_true_of_eq_false hf))).symm)
    · exact call_meets F.slot_str_rsplit (typeIs_str _ _ _) F.entry_str_rsplit (F.args_str_rsplit_3 _ _ _) (meets_str_rsplit_max_not_found x y k t u v hk' h1 hy hf)
        (fin [(x, t)] s.toks ((if_neg (ne_true_of_eq_false h1)).trans (if_pos hf)).symm)
  · exact call_meets F.slot_str_rsplit (typeIs_str _ _ _) F.entry_str_rsplit (F.args_str_rsplit_3 _ _ _) (meets_str_rsplit_max_cannot_occur x y k t u v hk' h1)
      (fin [(x, t)] s.toks (if_pos h1).symm)
theorem we_replace {o : Expr} {nm : Str} {a b : Str} {k1 k2 p1 p2} {apos pos : Pos} {Q : V → Led → Prop} (hnm : nm = "replace")
    (h : WE C n X env o led fun v led1 => ∃ x, v = .str x ∧ x.length + (x.length + 1) * b.length ≤ 16777216 ∧ Q (.str (Txt.replace x a b)) led1) (hab : (a == b) = false := by decide)
    (hbase : attributeBase o nm env (eval o env) = eval o env := by rfl) (hline : (apos.endLine == pos.line) = true := by rfl)
    (hform : methodCallForm ([Expr.Constant (.str a) k1 p1, Expr.Constant (.str b) k2 p2].length + ([] : List Keyword).length) (backTo pos (starEach [.Constant (.str a) k1 p1, .Constant (.str b) k2 p2] env)) (backToKw pos (keywordEach [] env)) = true := by rfl) :
    WE C n X env (.Call (.Attribute o nm apos) [.Constant (.str a) k1 p1, .Constant (.str b) k2 p2] [] pos) led Q := fun A Φ s hA S => by
  rw [arm_eval_Call, hbase]
  refine wpSeq S.tk (h A Φ s hA S) (fun ov Φ0 v led0 s0 h0 S0 r0 q0 => ?_)
  obtain ⟨x, rfl, hz, q⟩ := q0
  obtain ⟨t, rfl⟩ := wv_str r0
  refine wpAny_bind (wpAny_standAt ?_)
  unfold methodCall
  rw [hform]
  have hpos : methodCallPos true o env apos pos = pure pos := by unfold methodCallPos; simp [hline]
  have hget : ∀ {P : Value × List Value → Shared → Prop}, P (.builtin "str.replace", [.str x t]) s0 → wpAny C.M A (calleeOf true o env (.str x t) nm) P (EPost C Φ0 X) s0 := fun hP => by
    rw [hnm]; exact GM.replace hP
  refine wpAny_bind (m := holding [.str x t] (calleeOf true o env (.str x t) nm)) (wpAny_holding (hget ?_))
  rw [hpos]
  refine wpAny_bind (wpAny_pure ?_)
  refine callWith_any ?_
  have hargs : wpAny C.M A (spliced (backTo pos (starEach [.Constant (.str a) k1 p1, .Constant (.str b) k2 p2] env))) (fun vs s1 => vs = [.str a s0.toks, .str b (s0.toks + 1)] ∧ s1 = { s0 with toks := s0.toks + 1 + 1 }) (EPost C Φ0 X) s0 := by
    show wpAny C.M A (spliced [(false, mkText a), (false, mkText b)]) _ _ s0
    exact Calls.spliced_cons (wpAny_mkText (Calls.spliced_cons (wpAny_mkText (Calls.spliced_nil ⟨rfl, rfl⟩))))
  have : ∀ f, wpAny C.M A (evalArgs f true (backTo pos (starEach [.Constant (.str a) k1 p1, .Constant (.str b) k2 p2] env)) (backToKw pos (keywordEach [] env))) (fun ar s1 => ar = ⟨[.str a s0.toks, .str b (s0.toks + 1)], []⟩ ∧ s1 = { s0 with toks := s0.toks + 1 + 1 }) (EPost C Φ0 X) s0 := fun f => by
    show wpAny C.M A (spliced (backTo pos (starEach [.Constant (.str a) k1 p1, .Constant (.str b) k2 p2] env)) >>= fun l => pure (l, (none : Option Value)) >>= fun (x : List Value × Option Value) => holding (x.1 ++ x.2.toList) (do
      let kw := (([] : List (Option Str × Sem Value)).filterMap (·.1)).zip (← evalAll (([] : List (Option Str × Sem Value)).map (·.2)))
      pure (Args.mk (← pure x.1) kw))) _ _ s0
    refine wpAny_bind (wpAny_mono hargs (fun vs s₁ h₁ => ?_) fun _ _ x => x)
    obtain ⟨rfl, rfl⟩ := h₁
    refine wpAny_bind (wpAny_pure (wpAny_holding ?_))
    refine wpAny_bind (wpAny_evalAll_nil ?_)
    exact wpAny_bind (wpAny_pure (wpAny_pure ⟨rfl, rfl⟩))
  refine wpAny_mono (this _) (fun ar s1 h1 => ?_) fun _ _ e => e
  obtain ⟨rfl, rfl⟩ := h1
  have ht := S0.tk
  refine ⟨⟨.machine, Looks.of_pure rfl⟩, SC.replace (Nat.ne_of_gt ht) (Nat.succ_ne_zero _) (Nat.ne_of_lt (Nat.lt_succ_self _)) hab hz fun t' k => ?_⟩
  exact post (S0.toSat0.toks _) vstr q
end
section
variable {C : Cx} {n : Nat} {X : Addr → Led → Prop} {env : Env} {led : Led}
section
variable {prog : Program} {w : World} {K : Type} [DecidableEq K] {knd : PySem.KeyKind prog w K} {A : Around} {E : Value → Shared → Prop} {s : Shared}
noncomputable def OSet (knd : PySem.KeyKind prog w K) (o : Obj) (S : K → Bool) (n : Nat) (ld : Bool) : Prop :=
  ∃ es ep t, o.ExactSet ∧ o.data = .set es ep t ∧ ElemsOf knd es.toList ∧ (∀ k, S k = true ↔ ∃ e ∈ es.toList, knd.is k e.2 = true) ∧ es.size < scanBound ∧ t.fits es.size = true ∧ es.size = n ∧ t.led = ld ∧ (n = 0 ∨ t.plain = false)
theorem orStandIn_led (t : SetTable) (n : Nat) : (t.orStandIn n).led = t.led ∧ (t.plain = false → (t.orStandIn n).plain = false) := by
  unfold SetTable.orStandIn; split
  · exact ⟨rfl, id⟩
  · exact ⟨rfl, fun _ => rfl⟩
theorem layNew_led (t : SetTable) (es : Array (Int × Value)) (h : Int) (x : Value) : (layNew t es h x).2.1.led = t.led ∧ (t.plain = false → (layNew t es h x).2.1.plain = false) := by
  unfold layNew
  split
  · exact ⟨(orStandIn_led _ _).1, fun hp => (orStandIn_led _ _).2 hp⟩
  · exact ⟨rfl, fun _ => rfl⟩
theorem laid_led {m f mv : Nat} {l p : Bool} {hs : Array Int} {t : SetTable} {o : Array Nat} (h : SetTable.laid m f mv l p hs = some (t, o)) : t.led = l ∧ t.plain = p ∧ t.mask = m ∧ t.dummies = #[] := by
  unfold SetTable.laid at h
  cases hc : SetTable.layClean m hs with
  | none => rw [hc] at h; cases h
  | some ow =>
    rw [hc] at h
    have h : some (({ mask := m, place := (((List.range (m + 1)).filterMap fun j => (ow.getD j none).map (j, ·)).map (·.1)).toArray, dummies := #[], finger := f, led := l, moves := mv, plain := p } : SetTable), (((List.range (m + 1)).filterMap fun j => (ow.getD j none).map (j, ·)).map (·.2)).toArray) = some (t, o) := h
    injection h with h
    injection h with h1 h2
    subst h1
    exact ⟨rfl, rfl, rfl, rfl⟩
theorem relayAll_led (t : SetTable) (es : Array (Int × Value)) (wn : Nat) : (relayAll t es wn).2.1.led = t.led ∧ (t.plain = false → (relayAll t es wn).2.1.plain = false) := by
  unfold relayAll
  split
  · rename_i t' o h
    obtain ⟨h1, h2, _, _⟩ := laid_led h
    dsimp only
    split
    · exact ⟨h1, fun hp => h2.trans hp⟩
    · exact ⟨rfl, fun _ => rfl⟩
  · exact ⟨rfl, fun _ => rfl⟩
theorem OSet.store {h : Heap} {a : Addr} {o : Obj} {es : Array (Int × Value)} {ep : Nat} {t : SetTable} (ho : h.get? a = some o) (hex : o.ExactSet) (hd : o.data = .set es ep t)
    {es' : Array (Int × Value)} {t' : SetTable} {S' : K → Bool} {ld : Bool} (hel : ElemsOf knd es'.toList) (hmem : ∀ k, S' k = true ↔ ∃ e ∈ es'.toList, knd.is k e.2 = true) (hb : es'.size < scanBound) (hf : t'.fits es'.size = true) (hl : t'.led = ld) (hp : t'.plain = false) :
    ∃ o', (h.update a (Obj.putSet es' t')).get? a = some o' ∧ o'.ExactSet ∧ o'.data = .set es' (ep + 1) t' ∧ OSet knd o' S' es'.size ld := by
  have hg : (h.update a (Obj.putSet es' t')).get? a = some { o with data := .set es' (ep + 1) t' } := by
    have := Heap.get?_update_self (Obj.putSet es' t') ho (by rw [putSet_of es' t' hd]; rfl)
    rw [putSet_of es' t' hd] at this; exact this
  exact ⟨_, hg, hex, rfl, es', ep + 1, t', hex, rfl, hel, hmem, hb, hf, rfl, hl, .inr hp⟩
theorem addTailX {g : Bool → Sem Unit} (hg : ∀ (b : Bool) (s₁ : Shared) (Q' : Unit → Shared → Prop), Q' () s₁ → wpAny (model prog w) A (g b) Q' E s₁)
    {a : Addr} {o : Obj} {es : Array (Int × Value)} {ep : Nat} {t : SetTable} (ho : s.heap.get? a = some o) (hex : o.ExactSet) (hd : o.data = .set es ep t)
    {es1 : Array (Int × Value)} {t2 : SetTable} {S' : K → Bool} {ld : Bool} (hel1 : ElemsOf knd es1.toList) (hmem1 : ∀ k', S' k' = true ↔ ∃ e ∈ es1.toList, knd.is k' e.2 = true)
    (hb1 : es1.size < scanBound) (hf2 : t2.fits es1.size = true) (hl : t2.led = ld) (hpl : t2.plain = false) {wasDummy : Bool} {R : Option Bool → Shared → Prop}
    (h : ∀ h' o', Heap.SameBut a s.heap h' → h'.get? a = some o' → OSet knd o' S' es1.size ld → R (some true) { s with heap := h' }) :
    wpAny (model prog w) A (do
        storeSet a es1 t2
        if (!wasDummy && t2.tooFull) = true then do
            g (relayAll t2 es1 (SetTable.grown es1.size)).2.2
            storeSet a (relayAll t2 es1 (SetTable.grown es1.size)).1 (relayAll t2 es1 (SetTable.grown es1.size)).2.1
            pure (some true)
          else pure (some true)) R E s := by
  refine wpAny_bind (wpAny_storeSet_of ho hd ?_ (fits_of_scanBound hb1))
  obtain ⟨o1, ho1, hex1, hd1, hS1⟩ := OSet.store (knd := knd) ho hex hd hel1 hmem1 hb1 hf2 hl hpl
  have hsb1 := Heap.SameBut.update s.heap a (Obj.putSet es1 t2)
  split
  · have hp := relayAll_perm t2 es1 (SetTable.grown es1.size)
    have hfr := relayAll_fits t2 es1 (SetTable.grown es1.size)
    have hld := relayAll_led t2 es1 (SetTable.grown es1.size)
    generalize hRl : relayAll t2 es1 (SetTable.grown es1.size) = Rl at hp hfr hld ⊢
    obtain ⟨es2, t3, gave2⟩ := Rl
    dsimp only at hp hfr hld ⊢
    have hel2 : ElemsOf knd es2.toList := hel1.perm hp
    have hmem2 : ∀ k', S' k' = true ↔ ∃ e ∈ es2.toList, knd.is k' e.2 = true := fun k' => (hmem1 k').trans ⟨fun ⟨e, he, q⟩ => ⟨e, hp.mem_iff.mpr he, q⟩, fun ⟨e, he, q⟩ => ⟨e, hp.mem_iff.mp he, q⟩⟩
    have hsz : es2.size = es1.size := by rw [← Array.length_toList, hp.length_eq, Array.length_toList]
    have hb2 : es2.size < scanBound := by rw [hsz]; exact hb1
    refine wpAny_bind (hg _ _ _ ?_)
    refine wpAny_bind (wpAny_storeSet_of ho1 hd1 ?_ (fits_of_scanBound hb2))
    obtain ⟨o2, ho2, _, _, hS2⟩ := OSet.store (knd := knd) ho1 hex1 hd1 hel2 hmem2 hb2 hfr (hld.1.trans hl) (hld.2 hpl)
    rw [hsz] at hS2
    exact wpAny_pure (h _ o2 (hsb1.trans (Heap.SameBut.update _ a _)) ho2 hS2)
  · exact wpAny_pure (h _ o1 hsb1 ho1 hS1)
theorem setAddX {a : Addr} {o : Obj} {S : K → Bool} {n : Nat} {ld : Bool} {k : K} {x : Value} {Q : Bool → Shared → Prop} (hkey : knd.is k x = true) (hsc : x.scannable = true) (hbv : (hashByValue 8 x) = pure false) (ho : s.heap.get? a = some o) (hS : OSet knd o S n ld)
    (hroom : n + 1 < scanBound)
    (h : ∀ h' o', Heap.SameBut a s.heap h' → h'.get? a = some o' → OSet knd o' (fun k' => S k' || decide (k' = k)) (if S k then n else n + 1) ld → Q (!S k) { s with heap := h' }) :
    wpAny (model prog w) A (setAddHashed a x (knd.hash k)) Q E s := by
  obtain ⟨es, ep, t, hex, hd, hel, hmem, hb, hf, hn, hld, hpl⟩ := hS
  have hb1 : es.size + 1 < scanBound := by rw [hn]; exact hroom
  unfold setAddHashed setAddHashedIn
  refine wpAny_holding (wpAny_bind (wpAny_setState_of ho hd hf ?_))
  dsimp only
  rw [byScan_of hsc hb hel]
  simp only [↓reduceIte]
  unfold setAddByScan
  refine wpAny_bind ?_
  refine wpAny_bind (wpAny_rule ?_)
  refine wpAny_bind (wpAny_setScan_of hkey ho hd hf hel ?_)
  cases hr : List.findIdx? (fun e => knd.is k e.2) es.toList with
  | some j =>
    dsimp only
    obtain ⟨hj, hpj, _⟩ := List.findIdx?_eq_some_iff_getElem.mp hr
    have hSk : S k = true := (hmem k).mpr ⟨es.toList[j], List.getElem_mem hj, hpj⟩
    refine wpAny_pure (wpAny_pure ?_)
    have e : s = { s with heap := s.heap } := by cases s; rfl
    have := h s.heap o (Heap.SameBut.refl a s.heap) ho ⟨es, ep, t, hex, hd, hel, fun k' => by
      rw [Bool.or_eq_true, decide_eq_true_eq, ← hmem k']
      exact ⟨fun hk => hk.elim id (fun e => e ▸ hSk), .inl⟩, hb, hf, by rw [hSk]; exact hn, hld, by rw [hSk]; exact hpl⟩
    rw [hSk] at this; rw [e]; exact this
  | none =>
    dsimp only
    have hSk : S k = false := by
      cases hk : S k with
      | false => rfl
      | true => obtain ⟨e, he, hp⟩ := (hmem k).mp hk; have := List.findIdx?_eq_none_iff.mp hr e he; rw [hp] at this; exact Bool.noConfusion this
    have hgw : ∀ (b : Bool) {s₁ : Shared} {Q' : Unit → Shared → Prop}, Q' () s₁ → wpAny (model prog w) A (match b with | true => rule "set.scan.the-table-gave-way" | false => pure ()) Q' E s₁ :=
      fun b s₁ Q' hq => by cases b <;> first | exact wpAny_pure hq | exact wpAny_rule hq
    have hperm := layNew_perm t es (knd.hash k) x
    have hfits := layNew_fits t es (knd.hash k) x
    have hlled := layNew_led t es (knd.hash k) x
    generalize hL : layNew t es (knd.hash k) x = L at hperm hfits hlled ⊢
    obtain ⟨es1, t1, wasDummy, gave⟩ := L
    dsimp only at hperm hfits hlled ⊢
    rw [Array.toList_push] at hperm
    have hel1 : ElemsOf knd es1.toList := (hel.push hkey hsc).perm hperm
    have hmem1 : ∀ k', (S k' || decide (k' = k)) = true ↔ ∃ e ∈ es1.toList, knd.is k' e.2 = true := mem_push_iff hkey hmem hperm
    have hb1' : es1.size < scanBound := by rw [← Array.length_toList, hperm.length_eq, List.length_append, Array.length_toList]; simpa using hb1
    refine wpAny_bind (hgw _ ?_)
    have hsz1 : es1.size = n + 1 := by rw [← Array.length_toList, hperm.length_eq, List.length_append, Array.length_toList, hn]; rfl
    have hend : ∀ h' o', Heap.SameBut a s.heap h' → h'.get? a = some o' → OSet knd o' (fun k' => S k' || decide (k' = k)) es1.size ld → Q true { s with heap := h' } := by
      intro h' o' hsb ho' hS'; have := h h' o' hsb ho'; rw [hSk] at this; rw [hsz1] at hS'; exact this hS'
    split
    · refine wpAny_bind ?_
      rw [hbv]
      refine wpAny_pure ?_
      simp only [Bool.false_eq_true, if_false]
      refine addTailX ?_ ho hex hd hel1 hmem1 hb1' (SetTable.fits_plain_off hfits) (hlled.1.trans hld) rfl ?_
      · intro b s₁ Q' hq; cases b <;> first | exact wpAny_pure hq | exact wpAny_rule hq
      · intro h' o' hsb ho' hS'; dsimp only; exact wpAny_pure (hend h' o' hsb ho' hS')
    · rename_i hpl1
      refine wpAny_bind (wpAny_pure ?_)
      simp only [↓reduceIte]
      refine addTailX ?_ ho hex hd hel1 hmem1 hb1' hfits (hlled.1.trans hld) (by simpa using hpl1) ?_
      · intro b s₁ Q' hq; cases b <;> first | exact wpAny_pure hq | exact wpAny_rule hq
      · intro h' o' hsb ho' hS'; dsimp only; exact wpAny_pure (hend h' o' hsb ho' hS')
end
noncomputable def ldOf (C : Cx) : Bool := !C.w.params.followText "set-order"
theorem any_mem {ss : List Str} {k : Str} : ss.any (· == k) = true ↔ k ∈ ss := by
  rw [List.any_eq_true]
  exact ⟨fun ⟨x, hx, e⟩ => by rw [← beq_iff_eq.mp e]; exact hx, fun hx => ⟨k, hx, beq_self_eq_true _⟩⟩
theorem ok_setL {Φ : PH} {o : Obj} {ss : List Str} : OOk C Φ o (.setL ss) ↔ OSet C.sk o (fun k => ss.any (· == k)) ss.length (ldOf C) ∧ ss.Nodup := by
  constructor
  · rintro ⟨h1, es, ep, t, h2, h3, h4, h5, h6, h7, h8, h9, h10⟩
    exact ⟨⟨es, ep, t, h1, h2, h3, fun k => any_mem.trans (h4 k), h5, h6, h7, h9, h10.imp_left fun e => by rw [e]; rfl⟩, h8⟩
  · rintro ⟨⟨es, ep, t, h1, h2, h3, h4, h5, h6, h7, h9, h10⟩, h8⟩
    exact ⟨h1, es, ep, t, h2, h3, fun k => any_mem.symm.trans (h4 k), h5, h6, h7, h8, h9, h10.imp_left fun e => List.eq_nil_of_length_eq_zero e⟩
theorem ok_set {Φ : PH} {o : Obj} {ss : List Str} (ho : OOk C Φ o (.set ss)) {h : Heap} {a : Addr} (e : h.get? a = some o) : h.SetOf C.sk a (fun k => ss.any (· == k)) ss.length := by
  obtain ⟨h1, es, ep, t, h2, h3, h4, h5, h6, h7, h8⟩ := ho
  exact ⟨o, es, ep, t, e, h1, h2, h3, fun k => any_mem.trans (h4 k), h5, h6, h7⟩
theorem ok_set' {Φ : PH} {ss : List Str} {h : Heap} {a : Addr} (hs : h.SetOf C.sk a (fun k => ss.any (· == k)) ss.length) (hn : ss.Nodup) : ∃ o, h.get? a = some o ∧ OOk C Φ o (.set ss) := by
  obtain ⟨o, es, ep, t, e, h1, h2, h3, h4, h5, h6, h7⟩ := hs
  exact ⟨o, e, h1, es, ep, t, h2, h3, fun k => any_mem.symm.trans (h4 k), h5, h6, h7, hn⟩
noncomputable def addS (ss : List Str) (k : Str) : List Str := if ss.any (· == k) then ss else ss ++ [k]
theorem addS_any (ss : List Str) (k k' : Str) : (addS ss k).any (· == k') = (ss.any (· == k') || decide (k' = k)) := by
  unfold addS
  split
  · rename_i h
    by_cases e : k' = k
    · subst e; simp [h]
    · simp [e]
  · rw [List.any_append]
    congr 1
    by_cases e : k' = k
    · subst e; simp
    · have : (k == k') = false := beq_eq_false_iff_ne.mpr fun q => e q.symm
      simp [e, this]
theorem addS_nodup {ss : List Str} {k : Str} (h : ss.Nodup) : (addS ss k).Nodup := by
  unfold addS
  split
  · exact h
  · rename_i hn
    rw [List.nodup_append]
    refine ⟨h, by simp, fun a ha b hb e => ?_⟩
    rw [List.mem_singleton.mp hb] at e
    exact hn (List.any_eq_true.mpr ⟨a, ha, by rw [e]; exact beq_self_eq_true _⟩)
theorem addS_length (ss : List Str) (k : Str) : (addS ss k).length = if ss.any (· == k) then ss.length else ss.length + 1 := by
  unfold addS; split <;> simp
theorem addS_fun (ss : List Str) (k : Str) : (fun k' => (addS ss k).any (· == k')) = (fun k' => ss.any (· == k') || decide (k' = k)) := funext fun k' => addS_any ss k k'
theorem OSet.add {o : Obj} {ss : List Str} {k : Str} (h : OSet C.sk o (fun k' => ss.any (· == k') || decide (k' = k)) (if ss.any (· == k) then ss.length else ss.length + 1) (ldOf C)) : OSet C.sk o (fun k' => (addS ss k).any (· == k')) (addS ss k).length (ldOf C) := by
  rw [addS_length, addS_fun]; exact h
theorem wc_newset {Q : V → Led → Prop} (h : ∀ a, Q (.ref a) ((a, .set []) :: led)) : WC C n X (.val (.type "set")) [] [] led Q := fun A Φ s fx xs ks hA S hf hp hk => by
  simp only [VRs] at hp; subst hp
  rw [wv_val hf, ves0 hk]
  refine call_set_0 fun ld => ?_
  refine ⟨Φ, _, _, Le.refl _, S.toSat0.alloc (ao := .set []) rfl ?_, vval, h _⟩
  exact ⟨⟨rfl, rfl, rfl⟩, #[], 0, _, rfl, fun e he => by simp at he, fun k => by simp, by decide, by rfl, rfl, List.nodup_nil⟩
theorem ty_set {a : Addr} {ss : List Str} (hm : (a, AO.set ss) ∈ led) : TyIs C led (.ref a) "set" := fun Φ s x S hx => by
  obtain ⟨o, ho, hok⟩ := S.at hm
  have := ok_set hok ho
  rw [wv_val hx]
  exact ⟨this.typeIs, this.noDict⟩
theorem wc_setadd {a : Addr} {ss : List Str} {k : Str} {led' : Led} {Q : V → Led → Prop} (U : Up a (.set ss) (.set (addS ss k)) led led') (hz : ss.length + 1 < 4096) (h : Q .none led') (hn : ss.Nodup) : WC C n X (.val (.builtin "set.add")) [.ref a, .str k] [] led Q := fun A Φ s fx xs ks hA S hf hp hk => by
  obtain ⟨x, y, rfl, hx, hy⟩ := vrs2 hp
  rw [wv_val hf, ves0 hk, wv_val hx]
  obtain ⟨t, rfl⟩ := wv_str hy
  obtain ⟨o, ho, hok⟩ := S.at U.mem
  refine call_set_add (knd := C.sk) (sk_is (C := C)) rfl (ok_set hok ho) hz fun h' hsb hS' => ?_
  have hS'' : h'.SetOf C.sk a (fun k' => (addS ss k).any (· == k')) (addS ss k).length := by rw [addS_length, addS_fun]; exact hS'
  obtain ⟨o', ho', hok'⟩ := ok_set' (Φ := Φ) hS'' (addS_nodup hn)
  exact post (S.toSat0.up1 U (s' := { s with heap := h', toks := s.toks + 1 }) hsb.extBut ho' hok') vnone h
theorem wc_notin_set {a : Addr} {ss : List Str} {k : Str} {Q : V → Led → Prop} (hm : (a, AO.set ss) ∈ led) (h : Q (.bool (!ss.any (· == k))) led) : W2 C n X (RV C) (compareOp .NotIn) (.str k) (.ref a) led Q := fun A Φ s x y _ S hx hy => by
  obtain ⟨t, rfl⟩ := wv_str hx
  rw [wv_val hy]
  obtain ⟨o, ho, hok⟩ := S.at hm
  exact wpAny_notInSet_of (knd := C.sk) (sk_is (C := C)) rfl (ok_set hok ho) (post (S.toks _) vbool h)
end
section
noncomputable def krun {α : Type} (lt : Nat → Nat → Bool) : KasT α → α
  | .ret a => a
  | .ask i j k => krun lt (k (lt i j))
theorem rev_perm (p : Array Nat) (i j : Nat) : (kas_rev p i j).Perm p := mirror_perm _ _ _ _
noncomputable def AskP {α : Type} (n : Nat) (R : α → Prop) : KasT α → Prop
  | .ret a => R a
  | .ask i j k => i < n ∧ j < n ∧ ∀ b, AskP n R (k b)
theorem AskP.bind {α β : Type} {n : Nat} {R : α → Prop} {R' : β → Prop} {f : α → KasT β} : ∀ {t : KasT α}, AskP n R t → (∀ a, R a → AskP n R' (f a)) → AskP n R' (t.bind f)
  | .ret a, h, hf => hf a h
  | .ask _ _ k, h, hf => ⟨h.1, h.2.1, fun b => AskP.bind (h.2.2 b) hf⟩
theorem AskP.ite {α : Type} {n : Nat} {R : α → Prop} {c : Prop} [Decidable c] {x y : KasT α} (h1 : AskP n R x) (h2 : AskP n R y) : AskP n R (if c then x else y) := by split <;> assumption
noncomputable def BP (n : Nat) (p : Array Nat) : Prop := p.Perm (List.range n).toArray
theorem BP.lt {n : Nat} {p : Array Nat} (h : BP n p) (hn : 0 < n) (k : Nat) : p.getD k 0 < n := by
  by_cases hk : k < p.size
  · have e : p.getD k 0 = p[k] := by simp [Array.getD, hk]
    rw [e]
    have : p[k] ∈ (List.range n).toArray := h.mem_iff.mp (Array.getElem_mem hk)
    simpa using this
  · have e : p.getD k 0 = 0 := by simp [Array.getD, hk]
    rw [e]; exact hn
section
variable {n : Nat} (hn : 0 < n)
include hn
theorem asc_ask {p : Array Nat} (h : BP n p) : ∀ (f k : Nat), AskP n (fun _ => True) (kas_asc p f k)
  | 0, k => trivial
  | f + 1, k => ⟨h.lt hn _, h.lt hn _, fun b => AskP.ite trivial (asc_ask h f (k + 1))⟩
theorem desc_ask : ∀ (f : Nat) (p : Array Nat) (k q : Nat), BP n p → AskP n (fun r => BP n r.1) (kas_desc f p k q)
  | 0, p, k, q, h => h
  | f + 1, p, k, q, h => ⟨h.lt hn _, h.lt hn _, fun b => AskP.ite (AskP.ite (desc_ask f _ _ _ ((rev_perm _ _ _).trans h)) (desc_ask f _ _ _ h)) ⟨h.lt hn _, h.lt hn _, fun b => AskP.ite h (desc_ask f _ _ _ h)⟩⟩
theorem tail3_ask {k m : Nat} {p : Array Nat} (h : BP n p) : AskP n (fun r => BP n r.2) (kas_tail3 k m p) :=
  AskP.bind (asc_ask hn ((rev_perm p 0 k).trans h) _ _) fun _ _ => (rev_perm p 0 k).trans h
theorem descPart_ask {k m : Nat} {p : Array Nat} (h : BP n p) : AskP n (fun r => BP n r.2) (kas_descPart k m p) :=
  AskP.bind (desc_ask hn _ _ _ _ h) fun r hr => AskP.ite (tail3_ask hn ((rev_perm _ _ _).trans hr)) (tail3_ask hn hr)
theorem count_ask {m : Nat} {p : Array Nat} (h : BP n p) : AskP n (fun r => BP n r.2) (kas_count m p) :=
  AskP.bind (asc_ask hn h _ _) fun k _ => AskP.ite (show BP n p from h) (AskP.ite ⟨h.lt hn _, h.lt hn _, fun b => AskP.ite (show BP n p from h) (descPart_ask hn ((rev_perm _ _ _).trans h))⟩ (descPart_ask hn h))
theorem place_ask {p : Array Nat} {k : Nat} (h : BP n p) : ∀ (f l r : Nat), AskP n (fun _ => True) (kas_place p k f l r)
  | 0, l, r => trivial
  | f + 1, l, r => AskP.ite trivial ⟨h.lt hn _, h.lt hn _, fun b => AskP.ite (place_ask h f _ _) (place_ask h f _ _)⟩
theorem bin_ask : ∀ (f : Nat) (p : Array Nat) (k : Nat), BP n p → AskP n (BP n) (kas_bin f p k)
  | 0, p, k, h => h
  | f + 1, p, k, h => AskP.bind (place_ask hn h _ _ _) fun l _ => bin_ask f _ _ ((bubble_perm _ _ _).trans h)
theorem sort_ask : AskP n (BP n) (kas_sort n) := AskP.bind (count_ask hn (Array.Perm.refl _)) fun r hr => AskP.ite (bin_ask hn _ _ _ hr) hr
end
theorem krun_R {α : Type} {n : Nat} {R : α → Prop} {lt : Nat → Nat → Bool} : ∀ {t : KasT α}, AskP n R t → R (krun lt t)
  | .ret _, h => h
  | .ask i j k, h => by show R (krun lt (k (lt i j))); exact krun_R (h.2.2 _)
theorem kas_of {α : Type} {n : Nat} {R : α → Prop} {lt : Nat → Nat → Bool} {cmp : Nat → Nat → (Bool → Shared → Prop) → Shared → Prop} {Inv : Shared → Prop}
    (hc : ∀ i j, i < n → j < n → ∀ (K : Bool → Shared → Prop) s, Inv s → (∀ s', Inv s' → K (lt i j) s') → cmp i j K s) : ∀ {t : KasT α} {Q : α → Shared → Prop} {s : Shared}, AskP n R t → Inv s → (∀ s', Inv s' → Q (krun lt t) s') → t.kasWp cmp Q s
  | .ret a, Q, s, _, hi, hq => hq s hi
  | .ask i j k, Q, s, ha, hi, hq => hc i j ha.1 ha.2.1 _ s hi fun s' hi' => kas_of hc (ha.2.2 (lt i j)) hi' hq
theorem krun_congr {α : Type} {n : Nat} {R : α → Prop} {lt lt' : Nat → Nat → Bool} (h : ∀ i j, i < n → j < n → lt i j = lt' i j) : ∀ {t : KasT α}, AskP n R t → krun lt t = krun lt' t
  | .ret _, _ => rfl
  | .ask i j k, ha => by
    show krun lt (k (lt i j)) = krun lt' (k (lt' i j))
    rw [h i j ha.1 ha.2.1]
    exact krun_congr h (ha.2.2 _)
noncomputable def ordIx (lt : Nat → Nat → Bool) (n : Nat) : List Nat := if n < 2 then List.range n else (krun lt (kas_sort n)).toList
theorem ordIx_perm (lt : Nat → Nat → Bool) (n : Nat) : (ordIx lt n).Perm (List.range n) := by
  unfold ordIx
  split
  · exact .refl _
  · have h : BP n (krun lt (kas_sort n)) := krun_R (sort_ask (by walk_at "om"))
    simpa using Array.perm_iff_toList_perm.mp h
theorem ordIx_congr {lt lt' : Nat → Nat → Bool} {n : Nat} (h : ∀ i j, i < n → j < n → lt i j = lt' i j) : ordIx lt n = ordIx lt' n := by
  unfold ordIx
  split
  · rfl
  · rw [krun_congr h (sort_ask (by walk_at "om"))]
end
section
open AutoSeq1 (wpAny_loadPart')
open MeetsSeq MeetsSeq2 MeetsSeq3
variable {C : Cx} {n : Nat} {X : Addr → Led → Prop} {env : Env} {led : Led}
noncomputable def sltB (x y : Str) : Bool := decide (x.cps.toList < y.cps.toList)
noncomputable def ltS : List Str → List Str → Bool
  | [], [] => false
  | [], _ :: _ => true
  | _ :: _, [] => false
  | x :: xs, y :: ys => if x = y then ltS xs ys else sltB x y
theorem strs_get {vs : List Value} {ss : List Str} (h : StrsAre vs ss) : ∀ {i : Nat}, (i < ss.length → ∃ t, vs[i]? = some (.str (ss.getD i Str.empty) t)) ∧ vs.length = ss.length := by
  induction h with
  | nil => intro i; exact ⟨fun q => by simp at q, rfl⟩
  | cons s t hr ih =>
    intro i
    refine ⟨fun q => ?_, by rw [List.length_cons, List.length_cons, (ih (i := 0)).2]⟩
    cases i with
    | zero => exact ⟨t, rfl⟩
    | succ i =>
      obtain ⟨u, hu⟩ := (ih (i := i)).1 (by simpa using q)
      exact ⟨u, by simpa using hu⟩
theorem drop_getD {ss : List Str} {i : Nat} (h : i < ss.length) : ss.drop i = ss.getD i Str.empty :: ss.drop (i + 1) := by
  rw [List.drop_eq_getElem_cons h]
  congr 1
  simp [h]
theorem lt_loop (a b : Addr) (xs ys : List Value) (n n2 : Nat) (ss zs : List Str) (hx : StrsAre xs ss) (hy : StrsAre ys zs) (k : Nat) :
    ∀ i : Nat, ss.length - i = k → i ≤ ss.length → i ≤ zs.length → Meets (Builtin.«list.__eq__.loop» ⟨[.ref a, .ref b, rawInt i, rawInt 0], []⟩)
      (fun A R s => s.heap.get? a = some (lstO xs n) ∧ s.heap.get? b = some (lstO ys n2) ∧ R (.ok (.ret (.bool (ltS (ss.drop i) (zs.drop i))))) s) := by
  have lx := (strs_get hx (i := 0)).2
  have ly := (strs_get hy (i := 0)).2
  induction k with
  | zero =>
    intro i hk hi hi2 prog w A R s h
    obtain ⟨hp, g, d, tk, os⟩ := s; obtain ⟨hl, hb, h⟩ := h
    unfold lstO at hl hb
    wp_walk using wpAny_loadPart' hl, wpAny_loadPart' hb
    have hi1 : xs.toArray[((i : Nat) : Int).toNat]? = none := by simp; walk_at "om"
    rw [hi1]
    have hd : ss.drop i = [] := List.drop_eq_nil_of_le (by walk_at "om")
    rw [hd] at h
    wp_walk using wpAny_loadPart' hl, wpAny_loadPart' hb
    show R (.ok (.ret (.bool (decide (xs.toArray.size < ys.toArray.size))))) _
    have : decide (xs.toArray.size < ys.toArray.size) = ltS [] (zs.drop i) := by
      rw [List.size_toArray, List.size_toArray, lx, ly]
      by_cases hz : i < zs.length
      · rw [drop_getD hz]
        show decide _ = true
        exact decide_eq_true (by walk_at "om")
      · rw [List.drop_eq_nil_of_le (by walk_at "om")]
        show decide _ = false
        exact decide_eq_false (by walk_at "om")
    rw [this]; exact h
  | succ k ih =>
    intro i hk hi hi2 prog w A R s h
    obtain ⟨hp, g, d, tk, os⟩ := s; obtain ⟨hl, hb, h⟩ := h
    unfold lstO at hl hb
    wp_walk using wpAny_loadPart' hl, wpAny_loadPart' hb
    have hlt : i < ss.length := by walk_at "om"
    obtain ⟨t, ht⟩ := (strs_get hx (i := i)).1 hlt
    have hi1 : xs.toArray[((i : Nat) : Int).toNat]? = some (.str (ss.getD i Str.empty) t) := by simpa using ht
    rw [hi1]
    by_cases hz : i < zs.length
    · obtain ⟨u, hu⟩ := (strs_get hy (i := i)).1 hz
      have hi3 : ys.toArray[((i : Nat) : Int).toNat]? = some (.str (zs.getD i Str.empty) u) := by simpa using hu
      rw [hi3]
      rw [drop_getD hlt, drop_getD hz] at h
      refine wpAny_bind (wpAny_eqBool_str ?_)
      unfold ltS at h
      by_cases e : ss.getD i Str.empty = zs.getD i Str.empty
      · rw [decide_eq_true e]
        rw [if_pos e] at h
        have hc : ((i : Int) + 1) = ((i + 1 : Nat) : Int) := by push_cast; rfl
        wp_walk
        rw [hc]
        exact ⟨plainId_quiet plain_eq_loop _, codeAny_builtin entry_eq_loop (by
          rw [Around.under_plainId plain_eq_loop _]
          exact ih (i + 1) (by walk_at "om") (by walk_at "om") (by walk_at "om") prog w A R _ ⟨hl, hb, h⟩)⟩
      · rw [decide_eq_false e]
        rw [if_neg e] at h
        wp_walk using wpAny_loadPart' hl, wpAny_loadPart' hb
        rw [hi1, hi3]
        show wpAny _ _ (richCompare .Lt (.str (ss.getD i Str.empty) t) (.str (zs.getD i Str.empty) u) >>= fun r => ret r) _ _ _
        refine wpAny_bind (show wpAny _ _ (richCompare .Lt _ _) _ _ _ from PyProof.Rows.lt_str ?_)
        exact wpAny_pure h
    · have hi3 : ys.toArray[((i : Nat) : Int).toNat]? = none := by simp; walk_at "om"
      rw [hi3]
      have hd : zs.drop i = [] := List.drop_eq_nil_of_le (by walk_at "om")
      rw [hd, drop_getD hlt] at h
      wp_walk using wpAny_loadPart' hl, wpAny_loadPart' hb
      show R (.ok (.ret (.bool (decide (xs.toArray.size < ys.toArray.size))))) _
      have : decide (xs.toArray.size < ys.toArray.size) = false := by
        rw [List.size_toArray, List.size_toArray, lx, ly]
        exact decide_eq_false (by walk_at "om")
      rw [this]; exact h
end
section
open AutoSeq1 (wpAny_loadPart')
open MeetsSeq MeetsSeq2 MeetsSeq3
variable {C : Cx} {n : Nat} {X : Addr → Led → Prop} {env : Env} {led : Led}
theorem list_ltS (a b : Addr) (xs ys : List Value) (n n2 : Nat) (ss zs : List Str) (hx : StrsAre xs ss) (hy : StrsAre ys zs) : Meets (Builtin.«list.__lt__» ⟨[.ref a, .ref b], []⟩)
      (fun A R s => s.heap.get? a = some (lstO xs n) ∧ s.heap.get? b = some (lstO ys n2) ∧ R (.ok (.ret (.bool (ltS ss zs)))) s) := by
  intro prog w A R s h
  obtain ⟨hp, g, d, tk, os⟩ := s; obtain ⟨hl, hb, h⟩ := h
  unfold lstO at hl hb
  have f3 := AutoSeq1.sub_list_list
  wp_walk using wpAny_loadPart' hl, wpAny_loadPart' hb
  exact ⟨plainId_quiet plain_eq_loop _, codeAny_builtin entry_eq_loop (by
    rw [Around.under_plainId plain_eq_loop _]
    exact lt_loop a b xs ys n n2 ss zs hx hy _ 0 rfl (Nat.zero_le _) (Nat.zero_le _) prog w A R _ ⟨hl, hb, h⟩)⟩
section
variable {prog : Program} {w : World} {A : Around} {E : Value → Shared → Prop} {s : Shared}
theorem oneLt_list {a b : Addr} {xs ys : List Value} {k j : Nat} {ss zs : List Str} {Q : Bool → Shared → Prop} (hu : A.units < cLine) (ha : s.heap.get? a = some (lstO xs k)) (hb : s.heap.get? b = some (lstO ys j)) (hx : StrsAre xs ss) (hy : StrsAre ys zs)
    (h : Q (ltS ss zs) s) : wpAny (model prog w) A (oneLt' true (.ref a) (.ref b)) Q E s := by
  rw [oneLt'_eq]
  simp only [if_true]
  refine wpAny_bind (wpAny_cRoomFor hu ?_)
  refine wpAny_bind (wpAny_callSpecialIfBound?_slot (T := "list") ⟨_, ha, rfl⟩ F.slot_list_lt (call_meets F.slot_list_lt ⟨_, ha, rfl⟩ F.entry_list_lt (F.args_list_lt_2 _ _) (list_ltS a b xs ys k j ss zs hx hy) ⟨ha, hb, ?_⟩))
  exact wpAny_truthy_bool h
theorem range_getD (xs : List Value) : ((List.range xs.length).map fun i => xs.getD i Value.none) = xs := by
  apply List.ext_getElem
  · simp
  · intro i h1 h2
    simp at h1
    simp [h1]
theorem sort_plain {a : Addr} {xs : List Value} {k : Nat} {lt : Nat → Nat → Bool} {κ : SortKind} {P : PySem.Fin → Shared → Prop} (ho : s.heap.get? a = some (lstO xs k)) (h64 : xs.length < 64)
    (hk : ∀ s1 : Shared, (∀ b o, b ≠ a → s.heap.get? b = some o → s1.heap.get? b = some o) → 2 ≤ xs.length → ∀ (Q : SortKind → Shared → Prop) (E : Value → Shared → Prop), Q κ s1 → wpAny (model prog w) A (keyKind' xs.toArray) Q E s1)
    (hc : ∀ s1 : Shared, (∀ b o, b ≠ a → s.heap.get? b = some o → s1.heap.get? b = some o) → ∀ i j, i < xs.length → j < xs.length → ∀ (Q : Bool → Shared → Prop) (E : Value → Shared → Prop), Q (lt i j) s1 → wpAny (model prog w) A (keyLt' κ (xs.getD i Value.none) (xs.getD j Value.none)) Q E s1)
    (h : ∀ h', (∀ b o, b ≠ a → s.heap.get? b = some o → h'.get? b = some o) → (∃ k', h'.get? a = some (lstO ((ordIx lt xs.length).map fun i => xs.getD i Value.none) k')) → P (.done (.ret .none)) { s with heap := h' }) :
    wpAny (model prog w) A (Builtin.«list.sort» ⟨[.ref a], []⟩) P E s := by
  have ha : a < s.heap.objs.size := Heap.lt_size ho
  have s1 := Heap.SameBut.update s.heap a (Obj.mapSeq fun _ => (#[] : Array Value))
  obtain ⟨e1, ho1⟩ : ∃ e1, (s.heap.update a (Obj.mapSeq fun _ => (#[] : Array Value))).get? a = some (seqObj "list" #[] e1) := ⟨_, get?_update_seq (show s.heap.get? a = some (seqObj "list" xs.toArray k) from ho) fun _ => #[]⟩
  have ho2 := Heap.get?_push_of_some (seqObj "list" #[] 0) (Heap.get?_push_of_some (seqObj "tuple" xs.toArray 0) ho1)
  have keep : ∀ b o, b ≠ a → s.heap.get? b = some o → (((s.heap.update a (Obj.mapSeq fun _ => (#[] : Array Value))).push (seqObj "tuple" xs.toArray 0)).push (seqObj "list" #[] 0)).get? b = some o := fun b o hb e =>
    Heap.get?_push_of_some _ (Heap.get?_push_of_some _ ((s1.2 b hb).trans e))
  rw [list_sort_plain]
  refine wpAny_bind (listItems_at (show s.heap.get? a = some (seqObj "list" xs.toArray k) from ho) rfl ?_)
  refine wpAny_bind (listUpdate_at (show s.heap.get? a = some (seqObj "list" xs.toArray k) from ho) rfl ?_ (by rw [List.size_toArray, sizeLine_eq]; walk_at "om") (Nat.zero_le _))
  refine wpAny_bind (seqEpoch_at ho1 rfl ?_)
  refine wpAny_bind (wpAny_newTuple ?_ (by show xs.length ≤ _; rw [sizeLine_eq]; walk_at "om"))
  refine wpAny_bind (wpAny_newList ?_ (Nat.zero_le _))
  refine wpAny_holding ?_
  show wpAny (model prog w) A _ P E { s with heap := ((s.heap.update a (Obj.mapSeq fun _ => (#[] : Array Value))).push (seqObj "tuple" xs.toArray 0)).push (seqObj "list" #[] 0) }
  dsimp only
  have finish : ∀ (out : List Value), out.length = xs.length → out = ((ordIx lt xs.length).map fun i => xs.getD i Value.none) →
      ∀ h', h' = (((s.heap.update a (Obj.mapSeq fun _ => (#[] : Array Value))).push (seqObj "tuple" xs.toArray 0)).push (seqObj "list" #[] 0)).update a (Obj.mapSeq fun _ => out.toArray) → P (.done (.ret .none)) { s with heap := h' } := fun out hl he h' hh => by
    subst hh
    have s2 := Heap.SameBut.update (((s.heap.update a (Obj.mapSeq fun _ => (#[] : Array Value))).push (seqObj "tuple" xs.toArray 0)).push (seqObj "list" #[] 0)) a (Obj.mapSeq fun _ => out.toArray)
    refine h _ (fun b o hb e => (s2.2 b hb).trans (keep b o hb e)) ?_
    rw [← he]
    exact ⟨_, get?_update_seq ho2 fun _ => out.toArray⟩
  by_cases h2 : xs.toArray.size < 2
  · rw [if_pos h2, if_pos h2]
    refine wpAny_bind (wpAny_pure ?_)
    rw [StateT.run_pure]
    refine wpAny_bind (wpAny_pure ?_)
    dsimp only
    refine wpAny_bind (seqEpoch_at ho2 rfl ?_)
    have hzs : (arrOf (SortSt.mk' general' (xs.toArray.zip xs.toArray) #[] 7 none)).map (·.2) = xs.toArray := by
      apply Array.toList_inj.mp
      show ((xs.toArray.zip xs.toArray).map (·.2)).toList = _
      rw [Array.toList_map, ksk_zip]
      show List.map Prod.snd _ = _
      exact List.map_snd_zip (by simp)
    refine wpAny_bind (listUpdate_at ho2 rfl ?_ (Nat.zero_le _) (by rw [hzs, List.size_toArray, sizeLine_eq]; walk_at "om"))
    rw [hzs]
    simp only [bne_self_eq_false, Bool.false_eq_true, if_false]
    refine wpAny_pure (finish xs rfl ?_ _ rfl)
    unfold ordIx
    rw [if_pos (by simpa using h2), range_getD]
  · rw [if_neg h2, if_neg h2]
    have h2' : 2 ≤ xs.length := by simpa using h2
    refine wpAny_bind (hk _ keep h2' _ _ ?_)
    refine wpAny_bind (wpAny_mono (kat_run (Q := fun st' s' => ∃ p : Array Nat, p.size = xs.length ∧ arrOf st' = p.map (kas_item (xs.toArray.zip xs.toArray)) ∧ failedOf st' = none ∧ p = krun lt (kas_sort xs.length) ∧ s' = { s with heap := ((s.heap.update a (Obj.mapSeq fun _ => (#[] : Array Value))).push (seqObj "tuple" xs.toArray 0)).push (seqObj "list" #[] 0) })
      (G := fun p s' => p = krun lt (kas_sort xs.length) ∧ s' = { s with heap := ((s.heap.update a (Obj.mapSeq fun _ => (#[] : Array Value))).push (seqObj "tuple" xs.toArray 0)).push (seqObj "list" #[] 0) })
      rfl h2' h64 (fun p' st' s' a1 a2 a3 a4 => ⟨p', a1, a2, a3, a4.1, a4.2⟩)
      (kas_of (n := xs.length) (lt := lt) (Inv := fun s' => s' = { s with heap := ((s.heap.update a (Obj.mapSeq fun _ => (#[] : Array Value))).push (seqObj "tuple" xs.toArray 0)).push (seqObj "list" #[] 0) }) (fun i j hi hj K s' hI hK => ?_) (sort_ask (by walk_at "om")) rfl fun s' hI => ⟨rfl, hI⟩)) ?_ fun _ _ e => e)
    · subst hI
      exact hc _ keep i j hi hj _ _ (hK _ rfl)
    · rintro ⟨⟨⟩, st'⟩ s' ⟨p, hp, har, hf, rfl, rfl⟩
      dsimp only
      have hout := kat_snds rfl har
      have hsz : (List.toArray ((krun lt (kas_sort xs.length)).toList.map fun i => xs.getD i Value.none)).size = xs.length := by rw [List.size_toArray, List.length_map, Array.length_toList, hp]
      rw [hout]
      refine wpAny_bind (seqEpoch_at ho2 rfl ?_)
      refine wpAny_bind (listUpdate_at ho2 rfl ?_ (Nat.zero_le _) (Nat.le_trans (Nat.le_of_eq hsz) (by rw [sizeLine_eq]; walk_at "om")))
      rw [hf]
      simp only [bne_self_eq_false, Bool.false_eq_true, if_false]
      refine wpAny_pure (finish ((krun lt (kas_sort xs.length)).toList.map fun i => xs.getD i Value.none) (by simpa using hsz) ?_ _ rfl)
      unfold ordIx
      rw [if_neg (by walk_at "om")]
end
end
section
variable {C : Cx} {n : Nat} {X : Addr → Led → Prop} {env : Env} {led : Led}
theorem katlex_strs {prog : Program} {w : World} {A : Around} {s : Shared} {Q : Bool → Shared → Prop} : ∀ {xs ys : List Value} {ss zs : List Str} (i : Nat), StrsAre xs ss → StrsAre ys zs → Q (ltS ss zs) s → KatLex prog w A true (decide (xs.length < ys.length)) Q (xs.zip ys) i s
  | _, _, _, _, i, .nil, .nil, h => by simpa [KatLex, ltS] using h
  | _, _, _, _, i, .nil, .cons y u hy, h => by simpa [KatLex, ltS] using h
  | _, _, _, _, i, .cons x t hx, .nil, h => by simpa [KatLex, ltS] using h
  | _ :: xs, _ :: ys, _ :: ss, _ :: zs, i, .cons x t hx, .cons y u hy, h => by
    rw [List.zip_cons_cons]
    have hlen : decide ((Value.str x t :: xs).length < (Value.str y u :: ys).length) = decide (xs.length < ys.length) := by simp
    rw [hlen]
    refine kat_cons (wpAny_eqBool_str ?_)
    unfold ltS at h
    by_cases e : x = y
    · rw [decide_eq_true e]
      rw [if_pos e] at h
      exact kat_yes (katlex_strs (i + 1) hx hy h)
    · rw [decide_eq_false e]
      rw [if_neg e] at h
      refine kat_no ?_
      cases i with
      | zero => exact oneLt_str h
      | succ i =>
        have : ((true && (i + 1 == 0)) : Bool) = false := by simp
        rw [this]
        exact kat_one _ _ (PyProof.Rows.lt_str h)
theorem vrs_pick {Φ : PH} {vs : List V} {xs : List Value} (h : VRs C Φ vs xs) : ∀ {ix : List Nat}, (∀ i ∈ ix, i < vs.length) → VRs C Φ (ix.map fun i => vs.getD i .none) (ix.map fun i => xs.getD i Value.none)
  | [], _ => VRs.nil
  | i :: ix, hi => by
    have hlt := hi i List.mem_cons_self
    have e : vs[i]? = some (vs.getD i .none) := by simp [hlt]
    obtain ⟨x, hx, hv⟩ := h.get e
    have e2 : xs.getD i Value.none = x := by rw [List.getD_eq_getElem?_getD, hx]; rfl
    rw [List.map_cons, List.map_cons, e2]
    exact VRs.cons hv (vrs_pick h fun j hj => hi j (List.mem_cons_of_mem _ hj))
theorem ordIx_lt {lt : Nat → Nat → Bool} {n : Nat} : ∀ i ∈ ordIx lt n, i < n := fun i hi => List.mem_range.mp ((ordIx_perm lt n).mem_iff.mp hi)
noncomputable abbrev ksLt (ks : List (List Str)) (i j : Nat) : Bool := ltS (ks.getD i []) (ks.getD j [])
noncomputable def sortV (ks : List (List Str)) (vs : List V) : List V := (ordIx (ksLt ks) vs.length).map fun i => vs.getD i .none
noncomputable abbrev VL (ss : List Str) : V := .lst (ss.map V.str)
noncomputable abbrev VT (ss : List Str) : V := .tup (ss.map V.str)
theorem strsAre' {Φ : PH} {ss : List Str} {xs : List Value} (h : VRs C Φ (ss.map V.str) xs) : StrsAre xs ss := strsAre h
theorem looks_list {M : Model} {h : Heap} {a : Addr} {xs : List Value} {k : Nat} (e : h.get? a = some (lstO xs k)) : Looks M h (typeOf (.ref a)) (.type "list") := (Looks.ld e).andThen .now
theorem vl_at {Φ : PH} {kss : List (List Str)} {xs : List Value} (hv : VRs C Φ (kss.map VL) xs) {i : Nat} (hi : i < xs.length) : ∃ a ys k, xs.getD i Value.none = .ref a ∧ Φ a = some (lstO ys k) ∧ StrsAre ys (kss.getD i []) := by
  have hl := hv.length
  rw [List.length_map] at hl
  have e : (kss.map VL)[i]? = some (VL (kss.getD i [])) := by
    rw [List.getElem?_map]; simp [show i < kss.length by walk_at "om"]
  obtain ⟨x, hx, hr⟩ := hv.get e
  simp only [VR] at hr
  obtain ⟨a, ys, k, rfl, hp, hs⟩ := hr
  exact ⟨a, ys, k, by rw [List.getD_eq_getElem?_getD, hx]; rfl, hp, strsAre' hs⟩
theorem vt_at {Φ : PH} {kss : List (List Str)} {xs : List Value} (hv : VRs C Φ (kss.map VT) xs) {i : Nat} (hi : i < xs.length) : ∃ a ys k, xs.getD i Value.none = .ref a ∧ Φ a = some (tupO ys k) ∧ StrsAre ys (kss.getD i []) := by
  have hl := hv.length
  rw [List.length_map] at hl
  have e : (kss.map VT)[i]? = some (VT (kss.getD i [])) := by
    rw [List.getElem?_map]; simp [show i < kss.length by walk_at "om"]
  obtain ⟨x, hx, hr⟩ := hv.get e
  simp only [VR] at hr
  obtain ⟨a, ys, k, rfl, hp, hs⟩ := hr
  exact ⟨a, ys, k, by rw [List.getD_eq_getElem?_getD, hx]; rfl, hp, strsAre' hs⟩
theorem wp_sortL {A : Around} {Φ : PH} {s : Shared} {E : Value → Shared → Prop} {P : PySem.Fin → Shared → Prop} {a : Addr} {xs : List Value} {k : Nat} {kss : List (List Str)} (hu : A.units < cLine) (ho : s.heap.get? a = some (lstO xs k)) (hΦ : Φ a = none) (hsub : ∀ b o, Φ b = some o → s.heap.get? b = some o) (hv : VRs C Φ (kss.map VL) xs) (h64 : xs.length < 64)
    (h : ∀ h', (∀ b o, b ≠ a → s.heap.get? b = some o → h'.get? b = some o) → (∃ k', h'.get? a = some (lstO ((ordIx (ksLt kss) xs.length).map fun i => xs.getD i Value.none) k')) → P (.done (.ret .none)) { s with heap := h' }) :
    wpAny C.M A (Builtin.«list.sort» ⟨[.ref a], []⟩) P E s := by
  have hne : ∀ b o, Φ b = some o → b ≠ a := fun b o e q => by rw [q, hΦ] at e; cases e
  refine sort_plain (κ := oneType') (lt := ksLt kss) ho h64 (fun s1 hk h2 Q E hq => ?_) (fun s1 hk i j hi hj Q E hq => ?_) h
  · refine kas_kind h2 (T := .type "list") (fun v hm => ?_) (by decide) (by decide) hq
    obtain ⟨i, hi, e⟩ := List.mem_iff_getElem.mp hm
    obtain ⟨b, ys, j, e1, hp, _⟩ := vl_at hv hi
    have : v = .ref b := by rw [← e1, ← e]; simp [hi]
    rw [this]
    exact looks_list (hk b _ (hne _ _ hp) (hsub _ _ hp))
  · obtain ⟨b, ys, k1, e1, hp1, hs1⟩ := vl_at hv hi
    obtain ⟨c, zs, k2, e2, hp2, hs2⟩ := vl_at hv hj
    rw [e1, e2, keyLt'_oneType]
    exact oneLt_list hu (hk b _ (hne _ _ hp1) (hsub _ _ hp1)) (hk c _ (hne _ _ hp2) (hsub _ _ hp2)) hs1 hs2 hq
theorem kat_tups {Φ : PH} {h : Heap} : ∀ {kss : List (List Str)} {xs : List Value}, VRs C Φ (kss.map VT) xs → (∀ b o, Φ b = some o → h.get? b = some o) → (∀ ss ∈ kss, ss ≠ []) → ∃ fs, KatTups h xs fs ∧ fs.length = xs.length ∧ ∀ f ∈ fs, ∃ x t, f = Value.str x t
  | [], _, hv, _, _ => by simp only [List.map_nil, VRs] at hv; subst hv; exact ⟨[], trivial, rfl, fun f hf => by cases hf⟩
  | ss :: kss, _, hv, hs, hn => by
    simp only [List.map_cons, VRs] at hv
    obtain ⟨y, ys, rfl, h1, h2⟩ := hv
    obtain ⟨fs, hf, hl, hfs⟩ := kat_tups h2 hs fun s hs => hn s (List.mem_cons_of_mem _ hs)
    simp only [VR] at h1
    obtain ⟨a, zs, k, rfl, hp, hz⟩ := h1
    have hne := hn ss List.mem_cons_self
    cases ss with
    | nil => exact absurd rfl hne
    | cons x r =>
      simp only [List.map_cons, VRs] at hz
      obtain ⟨z, zr, rfl, hz1, _⟩ := hz
      obtain ⟨t, rfl⟩ := wv_str hz1
      exact ⟨.str x t :: fs, ⟨⟨a, _, _, k, rfl, hs _ _ hp, rfl, rfl, by simp⟩, hf⟩, by simp [hl], fun f hm => (List.mem_cons.mp hm).elim (fun e => ⟨x, t, e⟩) (hfs f)⟩
theorem wp_sortT {A : Around} {Φ : PH} {s : Shared} {E : Value → Shared → Prop} {P : PySem.Fin → Shared → Prop} {a : Addr} {xs : List Value} {k : Nat} {kss : List (List Str)} (ho : s.heap.get? a = some (lstO xs k)) (hΦ : Φ a = none) (hsub : ∀ b o, Φ b = some o → s.heap.get? b = some o) (hv : VRs C Φ (kss.map VT) xs) (hn : ∀ ss ∈ kss, ss ≠ []) (h64 : xs.length < 64)
    (h : ∀ h', (∀ b o, b ≠ a → s.heap.get? b = some o → h'.get? b = some o) → (∃ k', h'.get? a = some (lstO ((ordIx (ksLt kss) xs.length).map fun i => xs.getD i Value.none) k')) → P (.done (.ret .none)) { s with heap := h' }) :
    wpAny C.M A (Builtin.«list.sort» ⟨[.ref a], []⟩) P E s := by
  have hne : ∀ b o, Φ b = some o → b ≠ a := fun b o e q => by rw [q, hΦ] at e; cases e
  refine sort_plain (κ := tuples' true) (lt := ksLt kss) ho h64 (fun s1 hk h2 Q E hq => ?_) (fun s1 hk i j hi hj Q E hq => ?_) h
  · obtain ⟨fs, hf, hl, hfs⟩ := kat_tups hv (fun b o e => hk b o (hne b o e) (hsub b o e)) hn
    refine kat_kind (T := .type "str") hf (by walk_at "om") (fun f hm => ?_) (by decide) hq
    obtain ⟨x, t, rfl⟩ := hfs f hm
    exact Looks.of_pure rfl
  · obtain ⟨b, ys, k1, e1, hp1, hs1⟩ := vt_at hv hi
    obtain ⟨c, zs, k2, e2, hp2, hs2⟩ := vt_at hv hj
    rw [e1, e2]
    refine kat_lt (hk b _ (hne _ _ hp1) (hsub _ _ hp1)) rfl (hk c _ (hne _ _ hp2) (hsub _ _ hp2)) rfl ?_
    have := katlex_strs (prog := C.prog) (w := C.w) (A := A) (s := s1) (Q := Q) 0 hs1 hs2 hq
    simpa using this
theorem wc_lsortT {a : Addr} {kss : List (List Str)} {led' : Led} {Q : V → Led → Prop} (U : Up a (.list (kss.map VT)) (.list (sortV kss (kss.map VT))) led led') (hn : ∀ ss ∈ kss, ss ≠ []) (h64 : kss.length < 64) (h : Q .none led') : WC C n X (.val (.builtin "list.sort")) [.ref a] [] led Q := fun A Φ s fx xs ks hA S hf hp hk => by
  obtain ⟨x, rfl, hx⟩ := vrs1 hp
  rw [wv_val hf, ves0 hk, wv_val hx]
  obtain ⟨o, ho, ys, k, rfl, hv⟩ := S.at U.mem
  have hl := hv.length
  rw [List.length_map] at hl
  refine wpAny_call_entry slot_list_sort ⟨_, ho, rfl⟩ entry_list_sort (wp_sortT ho (S.off _ U.mem) S.sub hv hn (by walk_at "om") fun h' hk hs => ⟨_, rfl, ?_⟩) (args_list_sort _)
  obtain ⟨k', hk'⟩ := hs
  refine post (S.toSat0.up1 U (s' := { s with heap := h' }) (fun b o hb e => hk b o hb e) hk' ⟨_, k', rfl, ?_⟩) vnone h
  unfold sortV
  rw [List.length_map, ← hl]
  exact vrs_pick hv fun i hi => by have := ordIx_lt i hi; rw [List.length_map]; walk_at "om"
theorem wc_sortedL {v : V} {kss : List (List Str)} {Q : V → Led → Prop} (hv : ListV C led v (kss.map VL)) (h64 : kss.length < 64) (h : Q (.lst (sortV kss (kss.map VL))) led) : WC C (n + 1) X (.val (.builtin "sorted")) [v] [] led Q := fun A Φ s fx xs ks hA S hf hp hk => by
  obtain ⟨x, rfl, hx⟩ := vrs1 hp
  rw [wv_val hf, ves0 hk]
  obtain ⟨l, ys, k, rfl, e, hr⟩ := hv Φ s x S hx
  have hl := hr.length
  rw [List.length_map] at hl
  refine Calls.call_function_entry kind_sorted plain_sorted entry_sorted (args_sorted1 _) ?_
  unfold Builtin.«sorted»
  refine wpAny_bind (m := checkCount "sorted" 1 1 _) (wpAny_pure ?_)
  refine wpAny_bind (collect_list (isList_of e) ?_ (by rw [sizeLine_eq]; walk_at "om"))
  refine wpAny_bind (wpAny_newList ?_ (by rw [sizeLine_eq]; walk_at "om"))
  have hsz : ((s.heap.push (seqObj "list" #[] 0)).update s.heap.objs.size (Obj.mapSeq (· ++ ys.toArray))).objs.size = s.heap.objs.size + 1 := by
    rw [Heap.size_update, size_push']
  have hoL : (((s.heap.push (seqObj "list" #[] 0)).update s.heap.objs.size (Obj.mapSeq (· ++ ys.toArray))).push (seqObj "list" ys.toArray 0)).get? (s.heap.objs.size + 1) = some (seqObj "list" ys.toArray 0) := by
    rw [← hsz]; exact Heap.get?_push_size _ rfl
  have keep : ∀ b o, s.heap.get? b = some o → (((s.heap.push (seqObj "list" #[] 0)).update s.heap.objs.size (Obj.mapSeq (· ++ ys.toArray))).push (seqObj "list" ys.toArray 0)).get? b = some o := fun b o q => by
    have hlt : b < s.heap.objs.size := Heap.lt_size q
    rw [Heap.get?_push_ne _ _ _ (by rw [hsz]; exact Nat.ne_of_lt (Nat.lt_succ_of_lt hlt)), Heap.get?_update_ne _ _ _ _ (Nat.ne_of_lt hlt), Heap.get?_push_ne _ _ _ (Nat.ne_of_lt hlt)]
    exact q
  have hΦ : Φ (s.heap.objs.size + 1) = none := by
    cases q : Φ (s.heap.objs.size + 1) with
    | none => rfl
    | some o => exact absurd (Heap.lt_size (S.sub _ _ q)) (Nat.not_lt.mpr (Nat.le_succ _))
  have hnl : s.heap.objs.size + 1 ∉ led.map (·.1) := fun hm => by
    obtain ⟨p, hp, q⟩ := List.mem_map.mp hm
    obtain ⟨o, ho, _⟩ := S.ok p hp
    rw [q] at ho
    exact absurd (Heap.lt_size ho) (Nat.not_lt.mpr (Nat.le_succ _))
  show wpAny _ _ _ _ _ { s with heap := ((s.heap.push (seqObj "list" #[] 0)).update s.heap.objs.size (Obj.mapSeq (· ++ ys.toArray))).push (seqObj "list" ys.toArray 0) }
  rw [hsz]
  refine wpAny_bind (wpAny_holding (wpAny_call_entry slot_list_sort ⟨_, hoL, rfl⟩ entry_list_sort (wp_sortL (C := C) (Φ := Φ) (by have := hA.units; show A.units + 1 + 1 < 9900; walk_at "om") hoL hΦ (fun b o q => keep b o (S.sub b o q)) hr (by walk_at "om") fun h' hk hs => ⟨_, rfl, ?_⟩) (args_list_sort _)))
  obtain ⟨k', hk'⟩ := hs
  refine wpAny_pure ⟨_, rfl, ?_⟩
  have S1 : Sat C Φ led { s with heap := h' } := ⟨S.toSat0.ext (s' := { s with heap := h' }) (fun b o q => hk b o (Nat.ne_of_lt (Nat.lt_succ_of_lt (Heap.lt_size q))) (keep b o q)) rfl rfl, S.tk⟩
  have S2 := S1.putI hΦ hnl hk'
  refine ⟨_, _, led, Le.put _ hΦ, S2.toSat0, ?_, h⟩
  simp only [RV, VR]
  refine ⟨_, _, k', rfl, PH.put_self _ _ _, VRs.mono (Le.put _ hΦ) ?_⟩
  unfold sortV
  rw [List.length_map, ← hl]
  exact vrs_pick hr fun i hi => by have := ordIx_lt i hi; rw [List.length_map]; walk_at "om"
end
section
variable {C : Cx} {n : Nat} {X : Addr → Led → Prop} {env : Env} {led : Led}
noncomputable def itemsV (es : List (Str × V)) : List V := es.map fun kv => .tup [.str kv.1, kv.2]
theorem put_pairs {s : Shared} {lo : Addr} : ∀ {as : List Addr} {es : List (Str × V)} {kvs : List (Str × Value)} {Φ : PH}, Sat C Φ led s → (∀ a ∈ as, Φ a = none) → (∀ a ∈ as, a ∉ led.map (·.1)) → as.Pairwise (· < ·) → VEs C Φ es kvs → as.length = kvs.length →
    (∀ (j : Nat) (a : Addr), as[j]? = some a → ∃ key k x, kvs[j]? = some (k, x) ∧ C.sk.is k key = true ∧ s.heap.get? a = some { cls := .type "tuple", data := .seq #[key, x] }) →
    ∃ Φ', Le Φ Φ' ∧ Sat C Φ' led s ∧ VRs C Φ' (itemsV es) (as.map Value.ref) ∧ (∀ b, b ∉ as → Φ' b = Φ b)
  | [], es, kvs, Φ, S, _, _, _, hv, hl, _ => by
    have : kvs = [] := List.eq_nil_of_length_eq_zero hl.symm
    subst this
    cases es with
    | nil => exact ⟨Φ, Le.refl _, S, VRs.nil, fun _ _ => rfl⟩
    | cons kv r => obtain ⟨k, v⟩ := kv; simp only [VEs] at hv; obtain ⟨_, _, e, _⟩ := hv; cases e
  | a :: as, es, kvs, Φ, S, hΦ, hd, hp, hv, hl, hh => by
    rw [List.pairwise_cons] at hp
    cases es with
    | nil => simp only [VEs] at hv; subst hv; simp at hl
    | cons kv r =>
      obtain ⟨k, v⟩ := kv
      simp only [VEs] at hv
      obtain ⟨y, ys, rfl, h1, h2⟩ := hv
      obtain ⟨key, k', x, e1, e2, e3⟩ := hh 0 a rfl
      simp at e1
      obtain ⟨rfl, rfl⟩ := e1
      obtain ⟨t, rfl⟩ := Value.isStrOf_shape e2
      have hle := Le.put (tupO [.str k t, y] 0) (hΦ a List.mem_cons_self)
      have S1 := S.putI (o := tupO [.str k t, y] 0) (hΦ a List.mem_cons_self) (hd a List.mem_cons_self) e3
      obtain ⟨Φ', hl', S', hr, hb⟩ := put_pairs (as := as) (es := r) (kvs := ys) (lo := lo) S1 (fun b hb => by rw [PH.put_ne (fun e => by have := hp.1 b hb; rw [e] at this; exact Nat.lt_irrefl _ this)]; exact hΦ b (List.mem_cons_of_mem _ hb)) (fun b hb => hd b (List.mem_cons_of_mem _ hb)) hp.2 (h2.mono hle) (by simpa using hl) (fun j b hj => by
        obtain ⟨key, k', x, q1, q2, q3⟩ := hh (j + 1) b (by simpa using hj)
        exact ⟨key, k', x, by simpa using q1, q2, q3⟩)
      refine ⟨Φ', hle.trans hl', S', ?_, fun b hb' => ?_⟩
      · show VRs C Φ' (.tup [.str k, v] :: itemsV r) (.ref a :: as.map Value.ref)
        refine VRs.cons ?_ hr
        simp only [VR]
        exact ⟨a, [.str k t, y], 0, rfl, hl' _ _ (PH.put_self _ _ _), VRs.cons vstr (VRs.cons ((h1.mono hle).mono hl') VRs.nil)⟩
      · rw [List.mem_cons, not_or] at hb'
        rw [hb b hb'.2, PH.put_ne hb'.1]
theorem wc_items {es : List (Str × V)} {Q : V → Led → Prop} (h : ∀ r, Q (.ref r) ((r, .items es) :: led)) : WC C n X (.val (.builtin "dict.items")) [.dct es] [] led Q := fun A Φ s fx xs ks hA S hf hp hk => by
  obtain ⟨x, rfl, hx⟩ := vrs1 hp
  rw [wv_val hf, ves0 hk]
  simp only [VR] at hx
  obtain ⟨a, o, kvs, rfl, hm, hpa, hdo, hr⟩ := hx
  have hd := hdo.dictOf (S.sub _ _ hpa)
  refine call_meetsIn PySem.F.slot_dict_items hd.typeIs PySem.F.entry_dict_items (PySem.F.args_dict_items_1 _) (meets_dict_items C.sk a hm) ⟨⟨kvs, hd⟩, ?_⟩
  exact ⟨Φ, _, _, Le.refl _, S.toSat0.alloc (o := { cls := .type "dict_items", data := .fields #[.ref a] }) (ao := .items es) rfl ⟨a, o, kvs, rfl, hm, hpa, hdo, hr⟩, vval, h _⟩
theorem items_at {Φ : PH} {s : Shared} {r : Addr} {es : List (Str × V)} (S : Sat C Φ led s) (hm : (r, AO.items es) ∈ led) : ∃ d kvs ep, s.heap.IsItemsView r d ∧ s.heap.DictAt C.sk d kvs ep ∧ VEs C Φ es kvs := by
  obtain ⟨o, ho, d, od, kvs, rfl, hs, hp, hd, hr⟩ := S.at hm
  obtain ⟨hx, es', ep, hdd, hk, hpp, hn⟩ := hd
  exact ⟨d, kvs, ep, ⟨_, ho, rfl, rfl⟩, ⟨od, es', S.sub _ _ hp, hx, hdd, hk, hpp, hn⟩, hr⟩
theorem fresh_above {Φ : PH} {s : Shared} (S : Sat C Φ led s) {a : Addr} (h : s.heap.objs.size ≤ a) : Φ a = none ∧ a ∉ led.map (·.1) := by
  constructor
  · cases q : Φ a with
    | none => rfl
    | some o => exact absurd (Heap.lt_size (S.sub _ _ q)) (Nat.not_lt.mpr h)
  · intro hm
    obtain ⟨p, hp, q⟩ := List.mem_map.mp hm
    obtain ⟨o, ho, _⟩ := S.ok p hp
    rw [q] at ho
    exact absurd (Heap.lt_size ho) (Nat.not_lt.mpr h)
theorem wc_list_items {r : Addr} {es : List (Str × V)} {Q : V → Led → Prop} (hm : (r, AO.items es) ∈ led) (hz : es.length ≤ sizeLine) (h : ∀ a, Q (.ref a) ((a, .list (itemsV es)) :: led)) : WC C n X (.val (.type "list")) [.ref r] [] led Q := fun A Φ s fx xs ks hA S hf hp hk => by
  obtain ⟨x, rfl, hx⟩ := vrs1 hp
  rw [wv_val hf, ves0 hk, wv_val hx]
  obtain ⟨d, kvs, ep, hv, hd, hr⟩ := items_at S hm
  have hl := ves_length hr
  refine kdx_call hA.handled hv hd (by walk_at "om") fun h' tk acc c as hk ho hla hG hacc => ?_
  have S1 : Sat0 C Φ led { s with heap := h', toks := tk } := S.toSat0.ext (s' := { s with heap := h', toks := tk }) hk rfl rfl
  have f0 := fresh_above S (Nat.le_refl s.heap.objs.size)
  have S1' : Sat C Φ led { s with heap := h', toks := tk + 1 } := ⟨S1.toks _, Nat.succ_pos _⟩
  obtain ⟨Φ', hle, S2, hr2, hb⟩ := put_pairs (lo := 0) S1' (fun a ha => (fresh_above S (Nat.le_of_lt (hG.above a ha))).1) (fun a ha => (fresh_above S (Nat.le_of_lt (hG.above a ha))).2) hG.rise hr hla (fun j a hj => hG.pairs j a hj)
  have hna : s.heap.objs.size ∉ as := fun hm => Nat.lt_irrefl _ (hG.above _ hm)
  have ho' : h'.get? s.heap.objs.size = some (lstO (as.map Value.ref) c) := by
    rw [ho]
    have : acc = (as.map Value.ref).toArray := by rw [← hacc]
    rw [this]; rfl
  refine ⟨Φ', _, _, hle, ⟨S2.base, S2.sub, ?_, ?_, ?_, S2.gens, S2.os, S2.sysm.1, by rw [List.map_cons]; exact fun q => (List.mem_cons.mp q).elim (fun e => Nat.ne_of_lt S.toSat0.big e) S2.sysm.2⟩, vval, h s.heap.objs.size⟩
  · rw [List.map_cons]; exact List.nodup_cons.mpr ⟨f0.2, S2.nd⟩
  · intro p hp
    rcases List.mem_cons.mp hp with e | hp
    · rw [e]; rw [hb _ hna]; exact f0.1
    · exact S2.off p hp
  · intro p hp
    rcases List.mem_cons.mp hp with e | hp
    · rw [e]; exact ⟨_, ho', as.map Value.ref, c, rfl, hr2⟩
    · exact S2.ok p hp
theorem wc_sorted_items {r : Addr} {es : List (Str × Str)} {Q : V → Led → Prop} (hm : (r, AO.items (es.map fun kv => (kv.1, V.str kv.2))) ∈ led) (h64 : es.length < 64)
    (h : Q (.lst (sortV (es.map fun kv => [kv.1, kv.2]) ((es.map fun kv => [kv.1, kv.2]).map VT))) led) : WC C (n + 1) X (.val (.builtin "sorted")) [.ref r] [] led Q := fun A Φ s fx xs ks hA S hf hp hk => by
  obtain ⟨x, rfl, hx⟩ := vrs1 hp
  rw [wv_val hf, ves0 hk, wv_val hx]
  obtain ⟨d, kvs, ep, hv, hd, hr⟩ := items_at S hm
  have hl := ves_length hr
  rw [List.length_map] at hl
  refine Calls.call_function_entry kind_sorted plain_sorted entry_sorted (args_sorted1 _) ?_
  unfold Builtin.«sorted»
  refine wpAny_bind (m := checkCount "sorted" 1 1 _) (wpAny_pure ?_)
  refine wpAny_bind (kdx_collect (by exact hA.handled) hv hd (by rw [hl, sizeLine_eq]; walk_at "om") fun h' tk as hk hla hG => ?_)
  have S1 : Sat0 C Φ led { s with heap := h', toks := tk } := S.toSat0.ext (s' := { s with heap := h', toks := tk }) hk rfl rfl
  have S1' : Sat C Φ led { s with heap := h', toks := tk + 1 } := ⟨S1.toks _, Nat.succ_pos _⟩
  obtain ⟨Φ', hle, S2, hr2, hb⟩ := put_pairs (lo := 0) S1' (fun a ha => (fresh_above S (Nat.le_of_lt (hG.above a ha))).1) (fun a ha => (fresh_above S (Nat.le_of_lt (hG.above a ha))).2) hG.rise hr hla (fun j a hj => hG.pairs j a hj)
  have S3 : Sat0 C Φ' led { s with heap := h', toks := tk } := S2.toSat0.toks tk
  have hrT : VRs C Φ' ((es.map fun kv => [kv.1, kv.2]).map VT) (as.map Value.ref) := by
    have e : itemsV (es.map fun kv => (kv.1, V.str kv.2)) = (es.map fun kv => [kv.1, kv.2]).map VT := by
      unfold itemsV; rw [List.map_map, List.map_map]; rfl
    rw [← e]; exact hr2
  have hlr : (as.map Value.ref).length = es.length := by rw [List.length_map, hla, hl]
  refine wpAny_bind (wpAny_newList ?_ (by rw [sizeLine_eq]; walk_at "om"))
  have hoL : (h'.push (lstO (as.map Value.ref) 0)).get? h'.objs.size = some (lstO (as.map Value.ref) 0) := Heap.get?_push_size _ rfl
  have f1 : Φ' h'.objs.size = none ∧ h'.objs.size ∉ led.map (·.1) := fresh_above S2 (Nat.le_refl _)
  have S4 : Sat0 C Φ' led { s with heap := h'.push (lstO (as.map Value.ref) 0), toks := tk } := S3.ext (s' := { s with heap := h'.push (lstO (as.map Value.ref) 0), toks := tk }) (fun b o e => Heap.get?_push_of_some _ e) rfl rfl
  refine wpAny_bind (wpAny_holding (wpAny_call_entry slot_list_sort ⟨_, hoL, rfl⟩ entry_list_sort (wp_sortT (C := C) (Φ := Φ') (s := { s with heap := h'.push (lstO (as.map Value.ref) 0), toks := tk }) hoL f1.1 S4.sub hrT (fun ss hm => by
      obtain ⟨kv, _, rfl⟩ := List.mem_map.mp hm
      intro e; cases e) (by walk_at "om") fun h2 hk2 hs => ⟨_, rfl, ?_⟩) (args_list_sort _)))
  obtain ⟨k', hk'⟩ := hs
  refine wpAny_pure ⟨_, rfl, ?_⟩
  have S5 : Sat0 C Φ' led { s with heap := h2, toks := tk } := S3.ext (s' := { s with heap := h2, toks := tk }) (fun b o q => hk2 b o (Nat.ne_of_lt (Heap.lt_size q)) (Heap.get?_push_of_some _ q)) rfl rfl
  have S6 : Sat C Φ' led { s with heap := h2, toks := tk + 1 } := ⟨S5.toks _, Nat.succ_pos _⟩
  have S7 := S6.putI f1.1 f1.2 hk'
  refine ⟨_, _, led, hle.trans (Le.put _ f1.1), S7.toSat0.toks tk, ?_, h⟩
  simp only [RV, VR]
  refine ⟨_, _, k', rfl, PH.put_self _ _ _, VRs.mono (Le.put _ f1.1) ?_⟩
  unfold sortV
  rw [List.length_map, List.length_map, ← hlr]
  exact vrs_pick hrT fun i hi => by have := ordIx_lt i hi; rw [List.length_map, List.length_map]; walk_at "om"
theorem wc_list_dct {es : List (Str × V)} {Q : V → Led → Prop} (hz : es.length ≤ sizeLine) (h : Q (.lst (es.map fun kv => .str kv.1)) led) : WC C n X (.val (.type "list")) [.dct es] [] led Q := fun A Φ s fx xs ks hA S hf hp hk => by
  obtain ⟨x, rfl, hx⟩ := vrs1 hp
  rw [wv_val hf, ves0 hk]
  simp only [VR] at hx
  obtain ⟨d, o, kvs, rfl, hm, hpa, hd, hr⟩ := hx
  obtain ⟨hx, es', ep, hdd, hk, hpp, hn⟩ := hd
  have hl := ves_length hr
  refine kdl_call (kdl_dict (knd := C.sk) (kvs := kvs) (ep := ep) hm) hA.handled ⟨o, es', S.sub _ _ hpa, hx, hdd, hk, hpp, hn⟩ (by walk_at "om") fun h' tk acc c hk ho hacc => ?_
  have S1 : Sat0 C Φ led { s with heap := h', toks := tk } := S.toSat0.ext (s' := { s with heap := h', toks := tk }) hk rfl rfl
  have S1' : Sat C Φ led { s with heap := h', toks := tk + 1 } := ⟨S1.toks _, Nat.succ_pos _⟩
  have f0 := fresh_above S (Nat.le_refl s.heap.objs.size)
  have S2 := S1'.putI (o := lstO acc.toList c) f0.1 f0.2 (by show h'.get? _ = _; rw [ho]; unfold lstO; rw [Array.toArray_toList])
  refine ⟨_, _, led, Le.put _ f0.1, S2.toSat0.toks tk, ?_, h⟩
  simp only [RV, VR]
  refine ⟨_, _, c, rfl, PH.put_self _ _ _, ?_⟩
  obtain ⟨hlen, hitems⟩ := hacc
  have key : ∀ (es : List (Str × V)) (kvs : List (Str × Value)) (xs : List Value) (Φ' : PH), VEs C Φ es kvs → xs.length = kvs.length → (∀ (i : Nat) v, xs[i]? = some v → ∃ k x, kvs[i]? = some (k, x) ∧ C.sk.is k v = true) → VRs C Φ' (es.map fun kv => V.str kv.1) xs := by
    intro es
    induction es with
    | nil =>
      intro kvs xs Φ' h hl _
      simp only [VEs] at h; subst h
      rw [List.eq_nil_of_length_eq_zero hl]; exact VRs.nil
    | cons kv r ih =>
      obtain ⟨k, v⟩ := kv
      intro kvs xs Φ' h hl hi
      simp only [VEs] at h
      obtain ⟨y, ys, rfl, h1, h2⟩ := h
      cases xs with
      | nil => simp at hl
      | cons z zs =>
        obtain ⟨k', x', e1, e2⟩ := hi 0 z rfl
        simp at e1
        obtain ⟨rfl, rfl⟩ := e1
        obtain ⟨t, rfl⟩ := Value.isStrOf_shape e2
        rw [List.map_cons]
        exact VRs.cons vstr (ih ys zs Φ' h2 (by simpa using hl) fun i v hv => by
          obtain ⟨k, x, q1, q2⟩ := hi (i + 1) v (by simpa using hv)
          exact ⟨k, x, by simpa using q1, q2⟩)
  exact key es kvs acc.toList _ hr (by rw [Array.length_toList]; exact hlen) fun i v hv => hitems i v (by rw [← Array.getElem?_toList]; exact hv)
end
section
variable {C : Cx} {n : Nat} {X : Addr → Led → Prop} {env : Env} {led : Led}
theorem sub_dict_set' : isSubtype (.type "dict") (.type "set") = pure false := by rw [isSubtype_type]; kernel_rfl
theorem sub_dict_fset' : isSubtype (.type "dict") (.type "frozenset") = pure false := by rw [isSubtype_type]; kernel_rfl
theorem set_tok' {A : Around} {Φ : PH} {s : Shared} {a : Addr} {ss : List Str} {k : Str} {t : Tok} {led' : Led} (S : Sat C Φ led s) (U : Up a (.setL ss) (.setL (addS ss k)) led led') (hz : ss.length + 1 < 4096) {P : Bool → Shared → Prop} {E : Value → Shared → Prop}
    (h : ∀ b s', Heap.SameBut a s.heap s'.heap → s'.toks = s.toks → Sat C Φ led' s' → P b s') : wpAny C.M A (setAddHashed a (.str k t) (C.sk.hash k)) P E s := by
  obtain ⟨o, ho, hok⟩ := S.at U.mem
  obtain ⟨hs, hn⟩ := ok_setL.mp hok
  refine setAddX (knd := C.sk) (sk_is (C := C)) rfl rfl ho hs hz fun h' o' hsb ho' hS' => h _ _ hsb rfl ?_
  exact ⟨S.toSat0.up1 U (s' := { s with heap := h' }) hsb.extBut ho' (ok_setL.mpr ⟨OSet.add hS', addS_nodup hn⟩), S.tk⟩
theorem set_add' {A : Around} {Φ : PH} {s : Shared} {a : Addr} {ss : List Str} {k : Str} {t : Tok} {led' : Led} (S : Sat C Φ led s) (U : Up a (.setL ss) (.setL (addS ss k)) led led') (hz : ss.length + 1 < 4096) {P : Bool → Shared → Prop} {E : Value → Shared → Prop}
    (h : ∀ b s', Heap.SameBut a s.heap s'.heap → Sat C Φ led' s' → P b s') : wpAny C.M A (setAdd a (.str k t)) P E s := by
  unfold setAdd
  refine wpAny_holding (wpAny_bind (C.sk.pyHash (k := k) (sk_is (C := C)) ?_))
  exact set_tok' (s := { s with toks := s.toks + 1 }) ⟨S.toSat0.toks _, Nat.succ_pos _⟩ U hz fun b s' hsb _ S' => h b s' hsb S'
theorem Up.put {a : Addr} {ao : AO} {l : Led} (h : (a, ao) ∈ l) (ao' : AO) : ∃ l', Up a ao ao' l l' := by
  induction l with
  | nil => cases h
  | cons p r ih =>
    rcases List.mem_cons.mp h with e | e
    · subst e; exact ⟨_, .head⟩
    · obtain ⟨l', hl⟩ := ih e; exact ⟨_, .tail hl⟩
theorem Up.mem' {a : Addr} {ao ao' : AO} {l l' : Led} (h : Up a ao ao' l l') : (a, ao') ∈ l' := by
  induction h with
  | head => exact List.mem_cons_self
  | tail _ ih => exact List.mem_cons_of_mem _ ih
theorem Up.trans {a : Addr} {x y z : AO} {l l' l'' : Led} (h : Up a x y l l') (hn : (l.map (·.1)).Nodup) (h' : Up a y z l' l'') : Up a x z l l'' := by
  induction h generalizing l'' with
  | head =>
    rw [List.map_cons] at hn
    cases h' with
    | head => exact .head
    | tail u => exact absurd (List.mem_map_of_mem (f := (·.1)) u.mem) (List.nodup_cons.mp hn).1
  | @tail p r r' u ih =>
    rw [List.map_cons] at hn
    cases h' with
    | head => exact absurd (List.mem_map_of_mem (f := (·.1)) u.mem) (List.nodup_cons.mp hn).1
    | tail u' => exact .tail (ih (List.nodup_cons.mp hn).2 u')
noncomputable def addsS (ss ks : List Str) : List Str := ks.foldl addS ss
theorem addsS_length (ks : List Str) : ∀ ss : List Str, (addsS ss ks).length ≤ ss.length + ks.length := by
  induction ks with
  | nil => intro ss; exact Nat.le_refl _
  | cons k ks ih =>
    intro ss
    have := ih (addS ss k)
    have h2 := addS_length ss k
    show (addsS (addS ss k) ks).length ≤ _
    rw [List.length_cons]
    split at h2 <;> walk_at "om"
theorem set_loop {A : Around} {R : Result → Shared → Prop} {a I : Addr} {ks : List Str} {Φ : PH} {St : Nat → Heap → Prop} (T : SrcP C A.in1 Φ I (ks.map V.str) noLean St) :
    ∀ (k i : Nat) (s : Shared) (led : Led) (ss : List Str), ks.length - i = k → i ≤ ks.length → Sat C Φ led s → Φ I = none → I ∉ led.map (·.1) → (a, AO.setL ss) ∈ led → St i s.heap → ss.length + (ks.length - i) + 1 < 4096 →
      (∀ s' led', Up a (.setL ss) (.setL (addsS ss (ks.drop i))) led led' → Sat C Φ led' s' → R (.ok (.ret .none)) s') → codeAny C.M A (.builtin "set.update.loop" ⟨[.ref a, .ref I], []⟩) R s := by
  have keepS : ∀ {led : Led} {s : Shared}, Sat C Φ led s → Φ I = none → I ∉ led.map (·.1) → ∀ (h' : Heap) (tk : Nat), (∀ b o, b ∉ [I] → s.heap.get? b = some o → h'.get? b = some o) → s.toks ≤ tk → Sat C Φ led { s with heap := h', toks := tk } := fun {led s} S hIΦ hIled h' tk hk ht =>
    ⟨⟨S.base, fun b o e => hk b o (by rw [List.mem_singleton]; intro q; rw [q, hIΦ] at e; cases e) (S.sub b o e), S.nd, S.off,
      fun p hp => let ⟨o, h1, h2⟩ := S.ok p hp; ⟨o, hk _ _ (by rw [List.mem_singleton]; intro q; exact hIled (by rw [← q]; exact List.mem_map_of_mem hp)) h1, h2⟩, S.gens, S.os, S.sysm⟩, Nat.lt_of_lt_of_le S.tk ht⟩
  have hlen : (ks.map V.str).length = ks.length := List.length_map ..
  intro k
  induction k with
  | zero =>
    intro i s led ss hk hi S hI hIl hm hst hz hR
    have hin : i = ks.length := by walk_at "om"
    subst hin
    refine codeAny_builtin PyProof.Rows.F.entry_set_update_loop ?_
    rw [Around.under_plainId PyProof.Rows.F.plain_set_update_loop _]
    show wpAny _ A.in1 (pyNext (.ref I) >>= _) _ _ s
    refine wpAny_bind (T.done Φ led s _ _ (Le.refl _) S trivial (by rw [hlen]; exact hst) fun h' tk hk ht => ?_)
    show wpAny _ A.in1 (ret Value.none) _ _ _
    have S1 := keepS S hI hIl h' tk hk ht
    rw [List.drop_length] at hR
    obtain ⟨led', U⟩ := Up.put hm (.setL ss)
    have hU : led' = led := by
      have : ∀ {l l' : Led}, Up a (.setL ss) (.setL ss) l l' → l' = l := by
        intro l l' u
        induction u with
        | head => rfl
        | tail _ ih => rw [ih]
      exact this U
    subst hU
    exact wpAny_pure (hR _ _ U S1)
  | succ k ih =>
    intro i s led ss hk hi S hI hIl hm hst hz hR
    have hlt : i < ks.length := by walk_at "om"
    refine codeAny_builtin PyProof.Rows.F.entry_set_update_loop ?_
    rw [Around.under_plainId PyProof.Rows.F.plain_set_update_loop _]
    show wpAny _ A.in1 (pyNext (.ref I) >>= _) _ _ s
    have hget : (ks.map V.str)[i]? = some (.str ks[i]) := by rw [List.getElem?_map, List.getElem?_eq_getElem hlt]; rfl
    refine wpAny_bind (T.item i Φ led s (.str ks[i]) _ _ (Le.refl _) S trivial hst hget fun x h' tk hx hst' hk ht => ?_)
    obtain ⟨t, rfl⟩ := wv_str hx
    have S1 := keepS S hI hIl h' tk hk ht
    obtain ⟨led1, U⟩ := Up.put hm (.setL (addS ss ks[i]))
    show wpAny _ A.in1 (holding [Value.str ks[i] t] (setAdd a (.str ks[i] t)) >>= _) _ _ _
    refine wpAny_bind (wpAny_holding (set_add' S1 U (by walk_at "om") fun b s' hsb S' => ?_))
    have haI : I ≠ a := fun e => hIl (by rw [e]; exact List.mem_map_of_mem (f := (·.1)) hm)
    have hl1 := addS_length ss ks[i]
    refine wpAny_pure ⟨plainId_quiet PyProof.Rows.F.plain_set_update_loop _, ih (i + 1) s' led1 (addS ss ks[i]) (by walk_at "om") hlt S' hI (by rw [U.keys]; exact hIl) U.mem' ?_ (by split at hl1 <;> walk_at "om") fun s'' led'' U' S'' => ?_⟩
    · exact T.re (i + 1) Φ led _ Φ led1 s' (Le.refl _) S1 trivial hst' (Le.refl _) S' trivial fun o e => (hsb.2 I haI).trans e
    · refine hR s'' led'' ?_ S''
      have e : ks.drop i = ks[i] :: ks.drop (i + 1) := List.drop_eq_getElem_cons hlt
      rw [e]
      exact U.trans S.nd U'
end
section
variable {C : Cx} {n : Nat} {X : Addr → Led → Prop} {env : Env} {led : Led}
theorem range_one {α : Type} (x : α) (i : Nat) : ∀ n : Nat, (List.range n).filterMap (fun j => if j = i then some x else none) = if i < n then [x] else []
  | 0 => by simp
  | n + 1 => by
    rw [List.range_succ, List.filterMap_append, range_one x i n]
    by_cases h : i < n
    · have : ¬ n = i := by walk_at "om"
      simp [h, this, show i < n + 1 by walk_at "om"]
    · by_cases e : n = i
      · subst e; simp
      · simp [h, e, show ¬ i < n + 1 by walk_at "om"]
theorem fm_congr {α β : Type} {f g : α → Option β} : ∀ {l : List α}, (∀ a ∈ l, f a = g a) → l.filterMap f = l.filterMap g
  | [], _ => rfl
  | a :: l, h => by
    rw [List.filterMap_cons, List.filterMap_cons, h a List.mem_cons_self, fm_congr fun b hb => h b (List.mem_cons_of_mem _ hb)]
theorem sizeAbove_ok : ∀ k, k ≤ 1000 → SetTable.sizeAbove k ≤ 16777216 ∧ 8 ≤ SetTable.sizeAbove k := by
  have : (List.range 1001).all (fun k => decide (SetTable.sizeAbove k ≤ 16777216) && decide (8 ≤ SetTable.sizeAbove k)) = true := by decide +kernel
  intro k hk
  have := List.all_eq_true.mp this k (List.mem_range.mpr (by walk_at "om"))
  simpa using this
theorem laid_one (m f mv : Nat) (l p : Bool) (h : Int) : ∃ t, SetTable.laid m f mv l p #[h] = some (t, #[0]) ∧ t.place.size = 1 ∧ t.dummies = #[] ∧ t.mask = m ∧ t.led = l ∧ t.plain = p := by
  have hfree : SetTable.layClean.free m (Array.replicate (m + 1) none) (SetTable.turns m) (SetTable.bits h % (m + 1)) (SetTable.bits h) = some (SetTable.bits h % (m + 1)) := by
    have hi : SetTable.bits h % (m + 1) < m + 1 := Nat.mod_lt _ (Nat.succ_pos _)
    generalize SetTable.bits h % (m + 1) = i at hi ⊢
    have ht : SetTable.turns m = (m + 14) + 1 := rfl
    rw [ht]
    unfold SetTable.layClean.free
    have hr : i < SetTable.runEnd m i + 1 := by unfold SetTable.runEnd; split <;> walk_at "om"
    obtain ⟨q, hq⟩ : ∃ q, SetTable.runEnd m i + 1 - i = q + 1 := ⟨SetTable.runEnd m i - i, by walk_at "om"⟩
    rw [hq, List.range_succ_eq_map, List.find?_cons]
    have : (((Array.replicate (m + 1) (none : Option Nat)).getD (i + 0) (some 0)).isNone) = true := by
      rw [Nat.add_zero]
      simp [Array.getD, hi]
    rw [this]
    rfl
  have hclean : SetTable.layClean m #[h] = some ((Array.replicate (m + 1) none).setIfInBounds (SetTable.bits h % (m + 1)) (some 0)) := by
    unfold SetTable.layClean
    simp only [List.foldl_toArray, List.foldl_cons, List.foldl_nil]
    show Option.map _ (do let j ← SetTable.layClean.free m (Array.replicate (m + 1) none) (SetTable.turns m) (SetTable.bits h % (m + 1)) (SetTable.bits h); pure ((Array.replicate (m + 1) none).setIfInBounds j (some 0), 0 + 1)) = _
    rw [hfree]
    rfl
  have hlive : ((List.range (m + 1)).filterMap fun j => (((Array.replicate (m + 1) (none : Option Nat)).setIfInBounds (SetTable.bits h % (m + 1)) (some 0)).getD j none).map (j, ·)) = [(SetTable.bits h % (m + 1), 0)] := by
    have hi : SetTable.bits h % (m + 1) < m + 1 := Nat.mod_lt _ (Nat.succ_pos _)
    generalize SetTable.bits h % (m + 1) = i at hi ⊢
    have e : ((List.range (m + 1)).filterMap fun j => (((Array.replicate (m + 1) (none : Option Nat)).setIfInBounds i (some 0)).getD j none).map (j, ·)) = (List.range (m + 1)).filterMap (fun j => if j = i then some (i, 0) else none) := by
      refine fm_congr fun j hj => ?_
      have hj := List.mem_range.mp hj
      have : ((Array.replicate (m + 1) (none : Option Nat)).setIfInBounds i (some 0)).getD j none = if j = i then some 0 else none := by
        rw [Array.getD_eq_getD_getElem?, Array.getElem?_setIfInBounds]
        by_cases e : i = j
        · subst e; simp [hi]
        · have e' : ¬ j = i := fun q => e q.symm
          simp [e, e', hj]
      rw [this]
      by_cases e : j = i
      · subst e; simp
      · simp [e]
    rw [e, range_one, if_pos hi]
  refine ⟨{ mask := m, place := #[SetTable.bits h % (m + 1)], dummies := #[], finger := f, led := l, moves := mv, plain := p }, ?_, rfl, rfl, rfl, rfl, rfl⟩
  unfold SetTable.laid
  rw [hclean]
  show some (({ mask := m, place := (((List.range (m + 1)).filterMap fun j => (((Array.replicate (m + 1) (none : Option Nat)).setIfInBounds (SetTable.bits h % (m + 1)) (some 0)).getD j none).map (j, ·)).map (·.1)).toArray, dummies := #[], finger := f, led := l, moves := mv, plain := p } : SetTable), (((List.range (m + 1)).filterMap fun j => (((Array.replicate (m + 1) (none : Option Nat)).setIfInBounds (SetTable.bits h % (m + 1)) (some 0)).getD j none).map (j, ·)).map (·.2)).toArray) = _
  rw [hlive]
  rfl
theorem map_one : ∀ {es : Array (Int × Value)}, es.size = 1 → ∃ h1, es.map (·.1) = #[h1]
  | ⟨[e]⟩, _ => ⟨e.1, by simp⟩
  | ⟨[]⟩, h => by simp at h
  | ⟨_ :: _ :: _⟩, h => by simp at h
theorem fm_one : ∀ {es : Array (Int × Value)}, es.size = 1 → (#[0] : Array Nat).filterMap (es[·]?) = es
  | ⟨[e]⟩, _ => rfl
  | ⟨[]⟩, h => by simp at h
  | ⟨_ :: _ :: _⟩, h => by simp at h
theorem room_one {A : Around} {Φ : PH} {s : Shared} {a : Addr} {x : Str} {m : Nat} (S : Sat C Φ led s) (hm : (a, AO.setL [x]) ∈ led) (hmore : m ≤ 400) {P : Unit → Shared → Prop} {E : Value → Shared → Prop}
    (h : ∀ s', Heap.SameBut a s.heap s'.heap → Sat C Φ led s' → P () s') : wpAny C.M A (setRoomFor a m) P E s := by
  obtain ⟨o, ho, hok⟩ := S.at hm
  obtain ⟨⟨es, ep, t, hex, hd, hel, hmem, hb, hf, hn, hld, hpl⟩, hnd⟩ := ok_setL.mp hok
  unfold setRoomFor
  refine wpAny_bind (wpAny_setState_of ho hd hf ?_)
  dsimp only
  have hf' := hf
  simp only [SetTable.fits, Bool.and_eq_true, beq_iff_eq, decide_eq_true_eq] at hf'
  have hes1 : es.size = 1 := hn
  cases hr : t.roomFor m with
  | none => exact wpAny_pure (h s (Heap.SameBut.refl _ _) S)
  | some wn =>
    have hw : wn ≤ 1000 := by
      unfold SetTable.roomFor at hr
      split at hr
      · injection hr with hr; rw [← hr, hf'.1, hes1]; walk_at "om"
      · cases hr
    have hsa := sizeAbove_ok wn hw
    dsimp only
    unfold setRelay
    refine wpAny_bind (wpAny_setState_of ho hd hf ?_)
    dsimp only
    rw [if_neg (by rw [sizeLine_eq]; walk_at "om")]
    obtain ⟨h1, hes⟩ := map_one hes1
    obtain ⟨t', ht', hp', hdm, hmk, hl', hpl'⟩ := laid_one (SetTable.sizeAbove wn - 1) t.finger (t.movedTo (SetTable.sizeAbove wn - 1)) t.led t.plain h1
    have hrl : t.relaid (es.map (·.1)) wn = some (t', #[0]) := by unfold SetTable.relaid; rw [hes]; exact ht'
    rw [hrl]
    have hfm : (#[0] : Array Nat).filterMap (es[·]?) = es := fm_one hes1
    show wpAny C.M A ((if (((#[0] : Array Nat).filterMap (es[·]?)).size != es.size) = true then _ else pure ((#[0] : Array Nat).filterMap (es[·]?), t')) >>= fun x => storeSet a x.1 x.2) _ _ s
    rw [hfm]
    rw [if_neg (by simp)]
    refine wpAny_bind (wpAny_pure ?_)
    refine wpAny_storeSet_of ho hd ?_ (fits_of_scanBound hb)
    have hpf : t'.plain = false := by
      rw [hpl']
      exact hpl.resolve_left (by simp)
    have hfits : t'.fits es.size = true := by
      simp only [SetTable.fits, Bool.and_eq_true, beq_iff_eq, decide_eq_true_eq]
      refine ⟨by rw [hp', hes1], ?_⟩
      unfold SetTable.fill
      rw [hp', hdm, hmk]
      simp
      walk_at "om"
    obtain ⟨o', ho', _, _, hS'⟩ := OSet.store (knd := C.sk) ho hex hd hel hmem hb hfits (hl'.trans hld) hpf
    refine h _ (Heap.SameBut.update ..) ⟨?_, S.tk⟩
    obtain ⟨led', U⟩ := Up.put hm (.setL [x])
    have hU : led' = led := by
      have : ∀ {l l' : Led}, Up a (.setL [x]) (.setL [x]) l l' → l' = l := by
        intro l l' u
        induction u with
        | head => rfl
        | tail _ ih => rw [ih]
      exact this U
    rw [hU] at U
    rw [hes1] at hS'
    exact S.toSat0.up1 U (s' := { s with heap := s.heap.update a (Obj.putSet es t') }) (Heap.SameBut.update ..).extBut ho' (ok_setL.mpr ⟨hS', hnd⟩)
end
section
variable {C : Cx} {n : Nat} {X : Addr → Led → Prop} {env : Env} {led : Led}
theorem star_direct {A : Around} {Φ : PH} {a d : Addr} {oo : Obj} {kvs : List (Str × Value)} {E : Value → Shared → Prop} (ho : Φ d = some oo) (hdo : DObj C oo kvs) (s : Shared) (led : Led) (x : Str) (S : Sat C Φ led s) (hm : (a, AO.setL [x]) ∈ led) (hz : kvs.length ≤ 400)
    {P : Unit → Shared → Prop} (h : ∀ s' led', Up a (.setL [x]) (.setL (addsS [x] (kvs.map (·.1)))) led led' → Sat C Φ led' s' → P () s') :
    wpAny C.M A (do
      let epoch ← dictEpoch d
      let l ← dictEntries d
      setRoomFor a l.size
      forIn [0:l.size] PUnit.unit fun i (_ : PUnit) => (do
          let l' ← dictEntries d
          match l'[i]? with
            | some e => do
              holding [e.key] (do let _ ← setAddHashed a e.key e.hash)
              let ep' ← dictEpoch d
              if (ep' != epoch) = true then do
                  (unsupported "dict.changed-during-merge" : Sem PUnit)
                  pure (ForInStep.yield PUnit.unit)
                else pure (ForInStep.yield PUnit.unit)
            | _ => do
              (unsupported "dict.changed-during-merge" : Sem PUnit)
              pure (ForInStep.yield PUnit.unit) : Sem (ForInStep PUnit))
      pure ()) P E s := by
  obtain ⟨hx, eso, epo, hdo', hko, hpo, hno⟩ := hdo
  have hoo := S.sub _ _ ho
  have hda : d ≠ a := fun e => by have := S.off _ hm; rw [e] at ho; rw [ho] at this; cases this
  have hlen : kvs.length = eso.size := by rw [← hpo.length]; simp
  refine wpAny_bind (wpAny_dictEpoch hoo hdo' ?_)
  refine wpAny_bind (wpAny_dictEntries hoo hdo' ?_)
  refine wpAny_bind (room_one S hm (by walk_at "om") fun s1 hsb1 S1 => ?_)
  refine wpAny_bind ?_
  rw [Std.Legacy.Range.forIn_eq_forIn_range']
  simp only [Std.Legacy.Range.size, Nat.sub_zero, Nat.add_sub_cancel, Nat.div_one]
  refine wpAny_forIn_list _
    (fun rest _ s' => ∃ i led', rest = List.range' i (eso.size - i) ∧ i ≤ eso.size ∧ Up a (.setL [x]) (.setL (addsS [x] ((kvs.take i).map (·.1)))) led led' ∧ Sat C Φ led' s')
    _ ?_ ?_ _ _ ⟨0, led, by simp, Nat.zero_le _, ?_, S1⟩
  · rintro j rest b s' ⟨i, led', hr, hi, U, S'⟩
    have hlt : i < eso.size := by
      rcases Nat.lt_or_ge i eso.size with h | h
      · exact h
      · rw [Nat.sub_eq_zero_of_le h] at hr; simp at hr
    obtain ⟨rfl, hrest⟩ : j = i ∧ rest = List.range' (i + 1) (eso.size - (i + 1)) := by
      have e : eso.size - i = (eso.size - (i + 1)) + 1 := by walk_at "om"
      rw [e, List.range'_succ] at hr
      injection hr with h1 h2
      exact ⟨h1, h2⟩
    have hoo' := S'.sub _ _ ho
    refine wpAny_bind (wpAny_dictEntries hoo' hdo' ?_)
    rw [Array.getElem?_eq_getElem hlt]
    obtain ⟨kv, hkv⟩ : ∃ kv, kvs[j]? = some kv := ⟨kvs[j]'(by rw [hlen]; exact hlt), List.getElem?_eq_getElem _⟩
    obtain ⟨k, v⟩ := kv
    obtain ⟨hkey, hval⟩ := hpo.get? (e := eso[j]) (by simp [hlt]) hkv
    obtain ⟨k', hkey', hhash⟩ := hko eso[j] (Array.getElem_mem hlt)
    obtain rfl : k' = k := C.sk.inj _ _ _ hkey' hkey
    obtain ⟨t, ht⟩ := Value.isStrOf_shape hkey
    dsimp only
    rw [ht, hhash]
    have htl := addsS_length ((kvs.take j).map (·.1)) [x]
    rw [List.length_map, List.length_take] at htl
    obtain ⟨led2, U2⟩ := Up.put U.mem' (.setL (addS (addsS [x] ((kvs.take j).map (·.1))) k'))
    refine wpAny_bind (wpAny_holding (wpAny_bind (set_tok' S' U2 (by rw [List.length_singleton] at htl; walk_at "om") fun b s2 hsb _ S2 => wpAny_pure ?_)))
    have hoo2 := S2.sub _ _ ho
    refine wpAny_bind (wpAny_dictEpoch hoo2 hdo' ?_)
    rw [if_neg (by simp)]
    refine wpAny_pure ⟨j + 1, led2, hrest, hlt, ?_, S2⟩
    have e : addsS [x] ((kvs.take (j + 1)).map (·.1)) = addS (addsS [x] ((kvs.take j).map (·.1))) k' := by
      rw [List.take_add_one, hkv]
      simp [addsS, List.foldl_append]
    rw [e]
    exact U.trans S.nd U2
  · rintro b s' ⟨i, led', hr, hi, U, S'⟩
    have hin : i = eso.size := by
      rcases Nat.lt_or_ge i eso.size with h | h
      · have e : eso.size - i = (eso.size - (i + 1)) + 1 := by walk_at "om"
        rw [e, List.range'_succ] at hr; exact nomatch hr
      · exact Nat.le_antisymm hi h
    refine wpAny_pure (h s' led' ?_ S')
    rw [hin, ← hlen, List.take_length] at U; exact U
  · obtain ⟨led', U⟩ := Up.put hm (.setL [x])
    have hU : led' = led := by
      have : ∀ {l l' : Led}, Up a (.setL [x]) (.setL [x]) l l' → l' = l := by
        intro l l' u
        induction u with
        | head => rfl
        | tail _ ih => rw [ih]
      exact this U
    rw [hU] at U
    simpa [addsS] using U
noncomputable def InMain (C : Cx) (env : Env) : Prop := ∀ (A : Around) (led : Led) (Φ : PH) (s : Shared) (Q : Bool → Shared → Prop) (E : Value → Shared → Prop), Sat C Φ led s → (∀ b, Q b s) → wpAny C.M A (inMainModule env) Q E s
theorem ves_keys {Φ : PH} : ∀ {es : List (Str × V)} {kvs : List (Str × Value)}, VEs C Φ es kvs → kvs.map (·.1) = es.map (·.1)
  | [], _, h => by simp only [VEs] at h; rw [h]; rfl
  | (k, v) :: r, _, h => by
    simp only [VEs] at h
    obtain ⟨y, ys, rfl, _, h2⟩ := h
    rw [List.map_cons, List.map_cons, ves_keys h2]
theorem star_dict {A : Around} {Φ : PH} {s : Shared} {a : Addr} {x : Str} {es : List (Str × V)} {v : Value} {E : Value → Shared → Prop} (hh : A.handled = none) (S : Sat C Φ led s) (hm : (a, AO.setL [x]) ∈ led) (hv : VR C Φ (.dct es) v) (hz : es.length ≤ 400)
    {P : Unit → Shared → Prop} (h : ∀ s' led', Up a (.setL [x]) (.setL (addsS [x] (es.map (·.1)))) led led' → Sat C Φ led' s' → P () s') : wpAny C.M A (setDisplayStar a v) P E s := by
  have hv' := hv
  simp only [VR] at hv
  obtain ⟨d, o, kvs, rfl, hs, hp, hdo, hr⟩ := hv
  have hd := hdo.dictOf (S.sub _ _ hp)
  have hT := hd.typeIs
  have hk := ves_keys hr
  have hl := ves_length hr
  unfold setDisplayStar
  dsimp only
  refine wpAny_bind (wpAny_isInstance hT sub_dict_set' ?_)
  simp only [Bool.false_eq_true, if_false]
  refine wpAny_bind (wpAny_isInstance hT sub_dict_fset' ?_)
  refine wpAny_bind (wpAny_askSetting ?_)
  cases hb : (Setting.params ⟨C.M.prog, C.M.w.params⟩).followText "set-display-star-reads-storage" with
  | true =>
    simp only [if_true]
    refine wpAny_bind ?_
    refine (it_dct (C := C) (led := led) (es := es)).o A Φ s (.ref d) _ _ hh S hv' (fun I s1 S1 hI hIl src => ?_)
    obtain ⟨St, T, hst⟩ := src A.in1 hh
    refine wpAny_bind (wpAny_runValue ?_)
    have key := set_loop (C := C) (A := A) (a := a) (I := I) (ks := es.map (·.1)) (Φ := Φ) (St := St) (R := fun r s' => match r with | .ok (.ret _) => P () s' | _ => False) (by rw [List.map_map]; exact T) ((es.map (·.1)).length) 0 s1 led [x] (by simp) (Nat.zero_le _) S1 hI hIl hm hst (by simp; walk_at "om")
      (fun s' led' U S' => h s' led' (by simpa using U) S')
    refine codeAny_mono key fun r s' hq => ?_
    cases r with
    | error e => exact hq.elim
    | ok f => cases f <;> first | exact hq.elim | exact wpAny_pure hq
  | false =>
    simp only [Bool.false_eq_true, if_false]
    refine wpAny_bind (wpAny_typeOf hT ?_)
    rw [if_pos (by decide)]
    refine wpAny_bind (wpAny_rule ?_)
    rw [if_neg (by rw [hs]; exact Bool.false_ne_true)]
    exact star_direct hp hdo s led x S hm (by walk_at "om") fun s' led' U S' => h s' led' (by rw [hk] at U; exact U) S'
theorem Up.uniq {a : Addr} {x y : AO} {l l' l'' : Led} (h : Up a x y l l') (hn : (l.map (·.1)).Nodup) (h' : Up a x y l l'') : l'' = l' := by
  induction h generalizing l'' with
  | head =>
    rw [List.map_cons] at hn
    cases h' with
    | head => rfl
    | tail u => exact absurd (List.mem_map_of_mem (f := (·.1)) u.mem) (List.nodup_cons.mp hn).1
  | @tail p r r' u ih =>
    rw [List.map_cons] at hn
    cases h' with
    | head => exact absurd (List.mem_map_of_mem (f := (·.1)) u.mem) (List.nodup_cons.mp hn).1
    | tail u' => rw [ih (List.nodup_cons.mp hn).2 u']
theorem we_setstar {e f : Expr} {k : Nat} {sp p : Pos} {Q : V → Led → Prop} (hi : InMain C env)
    (h : ∀ a, WE C n X env e ((a, .setL []) :: led) fun v led1 => ∃ x led2, v = .str x ∧ Up a (.setL []) (.setL [x]) led1 led2 ∧ WE C n X env f led2 fun w led3 => ∃ es led4, w = .dct es ∧ es.length ≤ 400 ∧ Up a (.setL [x]) (.setL (addsS [x] (es.map (·.1)))) led3 led4 ∧ Q (.ref a) led4)
    (hk : displayRoad k [e, .Starred f sp] = .oneByOne := by rfl) (hse : starEach [e, .Starred f sp] env = [(false, eval e env), (true, eval f env)] := by rfl) :
    WE C n X env (.Set [e, .Starred f sp] k p) led Q := fun A Φ s hA S => by
  rw [arm_eval_Set]
  refine wpAny_bind (wpAny_standAt (wpAny_bind (hi A led Φ s _ _ S fun b => ?_)))
  rw [hk, hse]
  show wpAny C.M A (setDisplay .oneByOne b [(false, do let v ← eval e env; standAt p; pure v), (true, do let v ← eval f env; standAt p; pure v)]) _ _ s
  unfold setDisplay
  dsimp only
  rw [if_neg (by decide)]
  unfold newSet setsByText
  refine wpAny_bind (wpAny_bind (wpAny_bind (wpAny_askSetting (wpAny_pure ?_))))
  dsimp only
  simp only [newObj]
  refine wpAny_bind (wpAny_alloc (wpAny_pure ?_))
  dsimp only
  have S1 := S.alloc (o := { cls := .type "set", dict := none, data := .set #[] 0 (.fresh 0 0 (ldOf C)) }) (ao := .setL []) rfl (ok_setL.mpr ⟨⟨#[], 0, _, ⟨rfl, rfl, rfl⟩, rfl, fun e he => by simp at he, fun k => by simp, by decide, by rfl, rfl, rfl, .inl rfl⟩, List.nodup_nil⟩)
  refine wpAny_bind (wpAny_holding ?_)
  show wpAny C.M A (evalAll [do let v ← eval e env; standAt p; pure v] >>= _) _ _ _
  refine wpAny_bind (wpAny_evalAll_cons (wpAny_bind (wpThen S1.tk (h s.heap.objs.size A Φ _ hA S1) (fun x Φ1 v led1 s1 h1 S2 r1 q1 => wpAny_bind (wpAny_standAt (wpAny_pure (wpAny_evalAll_nil ?_)))) fun _ _ e => e)))
  obtain ⟨xs, led2, rfl, U1, q1⟩ := q1
  obtain ⟨t, rfl⟩ := wv_str r1
  refine wpAny_bind (wpAny_holding ?_)
  rw [List.forIn_cons]
  have e1 : addS [] xs = [xs] := rfl
  refine wpAny_bind (wpAny_bind (wpAny_bind (set_add' (ss := []) (k := xs) S2 (by rw [e1]; exact U1) (by decide) fun b s2 hsb S3 => wpAny_pure ?_)))
  dsimp only
  rw [List.forIn_nil]
  refine wpAny_pure ?_
  rw [if_neg (by decide)]
  refine wpAny_pure ?_
  show wpAny C.M A (forIn [(true, do let v ← eval f env; standAt p; pure v)] PUnit.unit _ >>= _) _ _ _
  rw [List.forIn_cons]
  dsimp only
  refine wpAny_bind (wpAny_bind (wpAny_bind ?_))
  refine wpAny_bind (wpThen S3.tk (q1 A Φ1 s2 hA S3) (fun y Φ2 w led3 s3 h2 S4 r2 q2 => wpAny_bind (wpAny_standAt (wpAny_pure ?_))) fun _ _ e => e.mono h1)
  obtain ⟨es, led4, rfl, hz, U2, q2⟩ := q2
  simp only [if_true]
  refine wpAny_bind (wpAny_holding (star_dict hA.handled S4 U2.mem r2 hz fun s4 led5 U3 S5 => ?_))
  have : led5 = led4 := U2.uniq S4.nd U3
  subst this
  refine wpAny_pure ?_
  dsimp only
  rw [List.forIn_nil]
  refine wpAny_pure (wpAny_pure (wpAny_pure ?_))
  exact ⟨Φ2, _, _, h1.trans h2, S5.toSat0, vval, q2⟩
end
section
theorem slot_si_next : Slot "set_iterator" "__next__" "set_iterator.__next__" :=
  .of (owner := "set_iterator") (n := "__next__") (by rw [typeLookup_type, builtinLookup_eq_fast]; kernel_rfl) (by decide +kernel) (by decide +kernel) (by decide +kernel)
    (by first | exact .inl (by decide +kernel) | exact .inr (by decide +kernel)) (by rw [isSubtype_type]; kernel_rfl)
theorem entry_si_next : entryFor table "set_iterator.__next__" = some Builtin.«set_iterator.__next__» := entryFor_of_tree (by kernel_rfl)
theorem owner_si : Manifest.owners.lookup (String.ofList ['r', 'o', 't', 'a', 'r', 'e', 't', 'i', '_', 't', 'e', 's'].reverse) = some Manifest.sig_set_iterator := by kernel_rfl
theorem args_si_next (a : Value) : argsOk "set_iterator.__next__" ⟨[a], []⟩ := by
  unfold argsOk; rw [signature?_of (id := "set_iterator.__next__") (n := ['_', '_', 't', 'x', 'e', 'n', '_', '_']) (o := ['r', 'o', 't', 'a', 'r', 'e', 't', 'i', '_', 't', 'e', 's']) (by kernel_rfl) owner_si]; kernel_rfl
theorem entry_set_iter' : entryFor table "set.__iter__" = some Builtin.«frozenset.__iter__» :=
  entryFor_alias (id' := "frozenset.__iter__") (by kernel_rfl) rfl (by decide +kernel) (by kernel_rfl)
theorem slot_si_iter : Slot "set_iterator" "__iter__" "set_iterator.__iter__" :=
  .of (owner := "set_iterator") (n := "__iter__") (by rw [typeLookup_type, builtinLookup_eq_fast]; kernel_rfl) (by decide +kernel) (by decide +kernel) (by decide +kernel)
    (by first | exact .inl (by decide +kernel) | exact .inr (by decide +kernel)) (by rw [isSubtype_type]; kernel_rfl)
theorem set_hint {prog : Program} {w : World} {A : Around} {E : Value → Shared → Prop} {s : Shared} {r : Addr} {Q : Bool → Shared → Prop} (hT : s.TypeIs (.ref r) "set") (h : Q false s) : wpAny (model prog w) A (Builtin.List.listLengthHint (.ref r)) Q E s := by
  unfold Builtin.List.listLengthHint
  refine wpAny_bind (wpAny_specialOf hT PySem.F.slot_set_len.lookup ?_)
  generalize hid : ("set.__len__" : String) = id0
  wp_delta
  rw [show splitId id0 = some ("set", "__len__") from by subst hid; decide +kernel]
  subst hid
  refine wpAny_bind (wpAny_isInstance (T := "set") (b := true) hT (by rw [isSubtype_type]; kernel_rfl) ?_)
  refine wpAny_ite_split (fun hab => absurd hab (by decide)) (fun _ => ?_)
  refine wpAny_ite_split (fun _ => ?_) (fun hab => absurd (by decide +kernel) hab)
  refine wpAny_bind (wpAny_typeOf hT ?_)
  exact wpAny_pure h
theorem perm_erase {α : Type} : ∀ {l : List α} {i : Nat} (h : i < l.length), (l[i] :: l.eraseIdx i).Perm l
  | [], i, h => by simp at h
  | x :: l, 0, h => .refl _
  | x :: l, i + 1, h => by
    have hi : i < l.length := by simpa using h
    have ih := perm_erase hi
    show (l[i] :: x :: l.eraseIdx i).Perm (x :: l)
    exact (List.Perm.swap _ _ _).trans (ih.cons x)
theorem pick_go {α : Type} (next : Nat → Nat) : ∀ (f k : Nat) (left : List α) (out : Array α), f = left.length → (pickOrder.go next f k left out).toList.Perm (out.toList ++ left)
  | 0, k, left, out, h => by
    have : left = [] := List.eq_nil_of_length_eq_zero h.symm
    subst this
    show out.toList.Perm _
    simp
  | f + 1, k, left, out, h => by
    unfold pickOrder.go
    have hpos : 0 < left.length := by walk_at "om"
    have hlt : next k % left.length < left.length := Nat.mod_lt _ hpos
    rw [List.getElem?_eq_getElem hlt]
    dsimp only
    have ih := pick_go next f (k + 1) (left.eraseIdx (next k % left.length)) (out.push left[next k % left.length]) (by rw [List.length_eraseIdx_of_lt hlt]; walk_at "om")
    refine ih.trans ?_
    rw [Array.toList_push, List.append_assoc]
    refine List.Perm.append_left _ ?_
    exact (perm_erase hlt)
theorem pick_perm {α : Type} (next : Nat → Nat) (xs : Array α) : (pickOrder next xs).toList.Perm xs.toList := by
  have := pick_go next xs.size 0 xs.toList #[] (by simp)
  simpa [pickOrder] using this
theorem wpAny_choose {M : Model} {A : Around} {E : Value → Shared → Prop} {s : Shared} {src : Source} {k : Nat} {Q : Nat → Shared → Prop} (hk : k ≠ 0) (h : ∀ i d, i < k → Q i { s with drawn := d }) : wpAny M A (choose src k) Q E s := fun Γ p hΓ => by
  show Sem.wp M Γ (.choose src k .pure) _ _ p s
  rw [Sem.wp_choose]
  refine ⟨hk, ?_⟩
  exact h _ _ (Nat.mod_lt _ (Nat.pos_of_ne_zero hk))
theorem wp_drawOrder {α : Type} {M : Model} {A : Around} {E : Value → Shared → Prop} : ∀ (k : Nat) (xs : List α) (s : Shared) (Q : List α → Shared → Prop), k = xs.length → (∀ ys d, ys.Perm xs → Q ys { s with drawn := d }) → wpAny M A (drawOrder k xs) Q E s
  | 0, xs, s, Q, hk, h => by
    have : xs = [] := List.eq_nil_of_length_eq_zero hk.symm
    subst this
    exact wpAny_pure (h [] s.drawn (.refl _))
  | k + 1, [], s, Q, hk, h => by simp at hk
  | k + 1, x :: xs, s, Q, hk, h => by
    show wpAny M A (choose .order (x :: xs).length >>= _) Q E s
    refine wpAny_bind (wpAny_choose (by simp) fun i d hi => ?_)
    rw [List.getElem?_eq_getElem hi]
    dsimp only
    refine wpAny_bind (wp_drawOrder k ((x :: xs).eraseIdx i) { s with drawn := d } _ (by rw [List.length_eraseIdx_of_lt hi]; simpa using hk) fun ys d' hp => ?_)
    exact wpAny_pure (h _ d' ((hp.cons _).trans (perm_erase hi)))
noncomputable def siO (first : Value) (i : Nat) (a : Addr) (k ep : Nat) : Obj := { cls := .type "set_iterator", data := .fields #[first, rawInt i, .ref a, rawInt k, rawInt ep] }
section
variable {prog : Program} {w : World} {A : Around} {E : Value → Shared → Prop} {s : Shared}
theorem si_set {h : Heap} {I a : Addr} {first : Value} {i k ep : Nat} (hI : h.get? I = some (siO first i a k ep)) (first' : Value) (i' : Nat) :
    ((h.update I (Obj.mapFields (·.setIfInBounds 0 first'))).update I (Obj.mapFields (·.setIfInBounds 1 (rawInt i')))).get? I = some (siO first' i' a k ep) := by
  have h1 := Heap.get?_update_self (Obj.mapFields (·.setIfInBounds 0 first')) hI rfl
  have h2 := Heap.get?_update_self (Obj.mapFields (·.setIfInBounds 1 (rawInt i'))) h1 rfl
  rw [h2]; rfl
theorem si_next_int {I a : Addr} {slot i k ep next : Nat} {o : Obj} {es : Array (Int × Value)} {t : SetTable} {x : Value} {Q : Option Value → Shared → Prop} (hI : s.heap.get? I = some (siO (rawInt slot) i a k ep)) (ho : s.heap.get? a = some o) (hd : o.data = .set es ep t) (hf : t.fits es.size = true) (hn : es.size = k)
    (hs : ∀ (A : Around) (Q : Option (Value × Nat) → Shared → Prop) (E : Value → Shared → Prop), Q (some (x, next)) s → wpAny (model prog w) A (setNext a slot i ep) Q E s)
    (hQ : ∀ h', h'.get? I = some (siO (rawInt next) (i + 1) a k ep) → Heap.SameBut I s.heap h' → Q (some x) { s with heap := h' }) : wpAny (model prog w) A (pyNext (.ref I)) Q E s := by
  have hT : s.TypeIs (.ref I) "set_iterator" := ⟨_, hI, rfl⟩
  unfold pyNext
  refine wpAny_bind (wpAny_attempt (wpAny_callSpecial?_slot (name := Str.ofString "__next__") hT slot_si_next (wpAny_call_entry slot_si_next hT entry_si_next ?_ (args_si_next _))))
  show wpAny _ _ (fieldsOf (.ref I) >>= _) _ _ s
  refine wpAny_bind (wpAny_fieldsOf hI rfl ?_)
  show wpAny _ _ (setEntries a >>= _) _ _ s
  refine wpAny_bind (wpAny_setEntries_of ho hd hf ?_)
  rw [if_neg (by rw [hn]; simp)]
  show wpAny _ _ (setNext a ((slot : Nat) : Int).toNat ((i : Nat) : Int).toNat ((ep : Nat) : Int).toNat >>= _) _ _ s
  simp only [Int.toNat_natCast]
  refine wpAny_bind (hs _ _ _ ?_)
  refine wpAny_bind (wpAny_setField hI rfl (by simp) ?_)
  have h1 := Heap.get?_update_self (Obj.mapFields (·.setIfInBounds 0 (rawInt next))) hI rfl
  refine wpAny_bind (wpAny_setField h1 rfl (by simp) ?_)
  refine wpAny_pure ⟨_, rfl, wpAny_pure (hQ _ ?_ ((Heap.SameBut.update ..).trans (Heap.SameBut.update ..)))⟩
  exact si_set hI (rawInt next) (i + 1)
theorem si_stop {α : Type} {Q : Option Value → Shared → Prop} {s' : Shared} (hh : A.handled = none) (hQ : ∀ h', (∀ b o, s'.heap.get? b = some o → h'.get? b = some o) → Q none { s' with heap := h' }) :
    wpAny (model prog w) A.in1 (newExc (.type "StopIteration") [] >>= fun e => (raiseNew e : Sem PySem.Fin)) (fun fin s'' => False) (fun e s'' => wpAny (model prog w) A (isInstance e (.type "StopIteration") >>= fun b => if b = true then pure none else throw e) Q E s'') s' := by
  refine wpAny_bind ?_
  simp only [newExc, newTuple]
  refine wpAny_bind (wpAny_newObj_type ?_ (by size_fits))
  refine wpAny_bind (m := firstArgMember _ _) (wpAny_of_eq (a := Value.none) (by first | rfl | (simp only [firstArgMember]; rfl)) ?_)
  refine wpAny_newObj_type ?_ (by size_fits)
  simp only [raiseNew]
  refine wpAny_bind (wpAny_handled ?_)
  first | rw [show A.in1.handled = none from hh] | rw [hh]
  refine wpAny_bind (wpAny_pure (wpAny_throw ?_))
  refine wpAny_bind (wpAny_isInstance (T := "StopIteration") (b := true) ⟨_, Heap.get?_push_size _ rfl, rfl⟩ isSubtype_stop ?_)
  exact wpAny_pure (hQ _ fun b o e => Heap.get?_push_of_some _ (Heap.get?_push_of_some _ e))
theorem si_end_int {I a : Addr} {slot i k ep : Nat} {o : Obj} {es : Array (Int × Value)} {t : SetTable} {Q : Option Value → Shared → Prop} (hh : A.handled = none) (hI : s.heap.get? I = some (siO (rawInt slot) i a k ep)) (ho : s.heap.get? a = some o) (hd : o.data = .set es ep t) (hf : t.fits es.size = true) (hn : es.size = k)
    (hs : ∀ (A : Around) (Q : Option (Value × Nat) → Shared → Prop) (E : Value → Shared → Prop), Q none s → wpAny (model prog w) A (setNext a slot i ep) Q E s)
    (hQ : ∀ h', Heap.ExtBut I s.heap h' → Q none { s with heap := h' }) : wpAny (model prog w) A (pyNext (.ref I)) Q E s := by
  have hT : s.TypeIs (.ref I) "set_iterator" := ⟨_, hI, rfl⟩
  unfold pyNext
  refine wpAny_bind (wpAny_attempt (wpAny_callSpecial?_slot (name := Str.ofString "__next__") hT slot_si_next (wpAny_call_entry slot_si_next hT entry_si_next ?_ (args_si_next _))))
  show wpAny _ _ (fieldsOf (.ref I) >>= _) _ _ s
  refine wpAny_bind (wpAny_fieldsOf hI rfl ?_)
  show wpAny _ _ (setEntries a >>= _) _ _ s
  refine wpAny_bind (wpAny_setEntries_of ho hd hf ?_)
  rw [if_neg (by rw [hn]; simp)]
  show wpAny _ _ (setNext a ((slot : Nat) : Int).toNat ((i : Nat) : Int).toNat ((ep : Nat) : Int).toNat >>= _) _ _ s
  simp only [Int.toNat_natCast]
  refine wpAny_bind (hs _ _ _ ?_)
  refine wpAny_bind (wpAny_setField hI rfl (by simp) ?_)
  refine wpAny_mono (si_stop (α := Unit) (Q := Q) hh fun h' hk => hQ h' fun b o hb e => hk b o ((Heap.get?_update_other _ _ (Ne.symm hb)).trans e)) (fun _ _ z => z.elim) fun _ _ z => z
theorem si_next_drawn {I a T : Addr} {i k ep pl : Nat} {o : Obj} {es : Array (Int × Value)} {t : SetTable} {hh' : Int} {x : Value} {ps : List Nat} {c : Nat} {Q : Option Value → Shared → Prop} (hI : s.heap.get? I = some (siO (.ref T) i a k ep)) (hT' : s.heap.get? T = some (tupO (ps.map fun (j : Nat) => rawInt j) c)) (ho : s.heap.get? a = some o) (hd : o.data = .set es ep t) (hf : t.fits es.size = true) (hn : es.size = k)
    (hp : ps[i]? = some pl) (hx : es[pl]? = some (hh', x))
    (hQ : ∀ h', h'.get? I = some (siO (.ref T) (i + 1) a k ep) → Heap.SameBut I s.heap h' → Q (some x) { s with heap := h' }) : wpAny (model prog w) A (pyNext (.ref I)) Q E s := by
  have hT : s.TypeIs (.ref I) "set_iterator" := ⟨_, hI, rfl⟩
  unfold pyNext
  refine wpAny_bind (wpAny_attempt (wpAny_callSpecial?_slot (name := Str.ofString "__next__") hT slot_si_next (wpAny_call_entry slot_si_next hT entry_si_next ?_ (args_si_next _))))
  show wpAny _ _ (fieldsOf (.ref I) >>= _) _ _ s
  refine wpAny_bind (wpAny_fieldsOf hI rfl ?_)
  show wpAny _ _ (setEntries a >>= _) _ _ s
  refine wpAny_bind (wpAny_setEntries_of ho hd hf ?_)
  rw [if_neg (by rw [hn]; simp)]
  show wpAny _ _ (seqItems? (.ref T) >>= _) _ _ s
  refine wpAny_bind (wpAny_seqItems hT' rfl ?_)
  have e1 : (ps.map fun (j : Nat) => rawInt j).toArray[((i : Nat) : Int).toNat]? = some (rawInt (pl : Int)) := by
    simp [hp]
  show wpAny _ _ (match (ps.map fun (j : Nat) => rawInt j).toArray[((i : Nat) : Int).toNat]? with | some (.int place _) => _ | some _ => _ | none => _) _ _ s
  rw [e1]
  show wpAny _ _ (setNextDrawn a ((pl : Nat) : Int).toNat ((ep : Nat) : Int).toNat >>= _) _ _ s
  simp only [Int.toNat_natCast]
  unfold setNextDrawn
  refine wpAny_bind (wpAny_bind (wpAny_setState_of ho hd hf ?_))
  dsimp only
  rw [if_neg (by simp), hx]
  refine wpAny_pure ?_
  refine wpAny_bind (wpAny_setField hI rfl (by simp) ?_)
  refine wpAny_pure ⟨_, rfl, wpAny_pure (hQ _ ?_ (Heap.SameBut.update ..))⟩
  have h1 := Heap.get?_update_self (Obj.mapFields (·.setIfInBounds 1 (rawInt ((i + 1 : Nat) : Int)))) hI rfl
  exact h1
theorem si_end_drawn {I a T : Addr} {i k ep : Nat} {o : Obj} {es : Array (Int × Value)} {t : SetTable} {ps : List Nat} {c : Nat} {Q : Option Value → Shared → Prop} (hh : A.handled = none) (hI : s.heap.get? I = some (siO (.ref T) i a k ep)) (hT' : s.heap.get? T = some (tupO (ps.map fun (j : Nat) => rawInt j) c)) (ho : s.heap.get? a = some o) (hd : o.data = .set es ep t) (hf : t.fits es.size = true) (hn : es.size = k)
    (hp : ps[i]? = none)
    (hQ : ∀ h', Heap.ExtBut I s.heap h' → Q none { s with heap := h' }) : wpAny (model prog w) A (pyNext (.ref I)) Q E s := by
  have hT : s.TypeIs (.ref I) "set_iterator" := ⟨_, hI, rfl⟩
  unfold pyNext
  refine wpAny_bind (wpAny_attempt (wpAny_callSpecial?_slot (name := Str.ofString "__next__") hT slot_si_next (wpAny_call_entry slot_si_next hT entry_si_next ?_ (args_si_next _))))
  show wpAny _ _ (fieldsOf (.ref I) >>= _) _ _ s
  refine wpAny_bind (wpAny_fieldsOf hI rfl ?_)
  show wpAny _ _ (setEntries a >>= _) _ _ s
  refine wpAny_bind (wpAny_setEntries_of ho hd hf ?_)
  rw [if_neg (by rw [hn]; simp)]
  show wpAny _ _ (seqItems? (.ref T) >>= _) _ _ s
  refine wpAny_bind (wpAny_seqItems hT' rfl ?_)
  have e1 : (ps.map fun (j : Nat) => rawInt j).toArray[((i : Nat) : Int).toNat]? = none := by
    simp at hp ⊢; exact hp
  show wpAny _ _ (match (ps.map fun (j : Nat) => rawInt j).toArray[((i : Nat) : Int).toNat]? with | some (.int place _) => _ | some _ => _ | none => _) _ _ s
  rw [e1]
  refine wpAny_bind (wpAny_setField hI rfl (by simp) ?_)
  have h1 := Heap.get?_update_self (Obj.mapFields (·.setIfInBounds 0 (rawInt 0))) hI rfl
  refine wpAny_bind (wpAny_setField h1 rfl (by simp) ?_)
  refine wpAny_mono (si_stop (α := Unit) (Q := Q) hh fun h' hk => hQ h' fun b o hb e => hk b o ((Heap.get?_update_other _ _ (Ne.symm hb)).trans ((Heap.get?_update_other _ _ (Ne.symm hb)).trans e))) (fun _ _ z => z.elim) fun _ _ z => z
end
end
section
theorem arr_one {α : Type} : ∀ {a : Array α}, a.size = 1 → ∃ x, a = #[x]
  | ⟨[x]⟩, _ => ⟨x, rfl⟩
  | ⟨[]⟩, h => by simp at h
  | ⟨_ :: _ :: _⟩, h => by simp at h
theorem entry_si_iter : entryFor table "set_iterator.__iter__" = some Builtin.«dict_keyiterator.__iter__» :=
  entryFor_alias (id' := "dict_keyiterator.__iter__") (by kernel_rfl) rfl (by decide +kernel) (by kernel_rfl)
theorem args_si_iter (a : Value) : argsOk "set_iterator.__iter__" ⟨[a], []⟩ := by
  unfold argsOk; rw [signature?_of (id := "set_iterator.__iter__") (n := ['_', '_', 'r', 'e', 't', 'i', '_', '_']) (o := ['r', 'o', 't', 'a', 'r', 'e', 't', 'i', '_', 't', 'e', 's']) (by kernel_rfl) owner_si]; kernel_rfl
section
variable {prog : Program} {w : World} {A : Around} {E : Value → Shared → Prop} {s : Shared}
theorem si_self {I a : Addr} {first : Value} {i k ep : Nat} {Q : Value → Shared → Prop} (hI : s.heap.get? I = some (siO first i a k ep)) (h : Q (.ref I) s) : wpAny (model prog w) A (pyIter (.ref I)) Q E s := by
  have hT : s.TypeIs (.ref I) "set_iterator" := ⟨_, hI, rfl⟩
  refine wpAny_pyIter_slot hT slot_si_iter (wpAny_call_entry slot_si_iter hT entry_si_iter ?_ (args_si_iter _))
  show wpAny _ _ (ret (.ref I)) _ _ s
  exact wpAny_pure ⟨_, rfl, "set_iterator", _, hT, slot_si_next.lookup, h⟩
structure SetWalk (prog : Program) (w : World) (I a : Addr) (vals : List Value) (fp : List Addr) (St : Nat → Heap → Prop) : Prop where
  walk : ∀ A : Around, A.handled = none → Walks prog w A I fp [I] vals.length (fun i v => vals[i]? = some v) St
theorem below_one (j : Nat) : SetTable.below #[j] 0 = 0 ∧ SetTable.below #[j] (j + 1) = 1 := by
  constructor
  · show SetTable.below.go #[j] 0 1 0 1 = 0
    unfold SetTable.below.go
    simp
    unfold SetTable.below.go
    rfl
  · show SetTable.below.go #[j] (j + 1) 1 0 1 = 1
    unfold SetTable.below.go
    simp
    unfold SetTable.below.go
    rfl
theorem walk_text {I a : Addr} {o : Obj} {es : Array (Int × Value)} {ep : Nat} {t : SetTable} (hne : a ≠ I) (hd : o.data = .set es ep t) (hf : t.fits es.size = true) (hb : w.params.followText "set-order" = true) :
    SetWalk prog w I a ((pickOrder (w.params.setOrder a ep) es).toList.map (·.2)) [I, a] (fun i h => h.get? I = some (siO (rawInt 0) i a es.size ep) ∧ h.get? a = some o) := by
  have hlen : ((pickOrder (w.params.setOrder a ep) es).toList.map (·.2)).length = es.size := by
    rw [List.length_map]; have := (pick_perm (w.params.setOrder a ep) es).length_eq; simpa using this
  have hnext : ∀ (i : Nat) (s : Shared) (A : Around) (Q : Option (Value × Nat) → Shared → Prop) (E : Value → Shared → Prop), s.heap.get? a = some o → Q (((pickOrder (w.params.setOrder a ep) es).toList.map (·.2))[i]?.map fun x => (x, 0)) s → wpAny (model prog w) A (setNext a 0 i ep) Q E s := fun i s A Q E ho hq => by
    unfold setNext
    refine wpAny_bind (wpAny_setState_of ho hd hf ?_)
    dsimp only
    unfold setsByText
    refine wpAny_bind (wpAny_bind (wpAny_askSetting (wpAny_pure ?_)))
    show wpAny _ _ (if w.params.followText "set-order" = true then _ else _) _ _ _
    rw [if_pos hb, if_neg (by simp)]
    refine wpAny_bind ?_
    unfold setWalk
    refine wpAny_bind (wpAny_setState_of ho hd hf ?_)
    dsimp only
    unfold setsByText
    refine wpAny_bind (wpAny_bind (wpAny_askSetting (wpAny_pure ?_)))
    show wpAny _ _ (if w.params.followText "set-order" = true then _ else _) _ _ _
    rw [if_pos hb]
    refine wpAny_bind (wpAny_askSetting (wpAny_pure (wpAny_pure ?_)))
    have e : (Option.map (fun (e : Int × Value) => (e.2, 0)) (pickOrder (w.params.setOrder a ep) es)[i]?) = (((pickOrder (w.params.setOrder a ep) es).toList.map (·.2))[i]?.map fun x => (x, 0)) := by
      rw [List.getElem?_map, Array.getElem?_toList]
      cases (pickOrder (w.params.setOrder a ep) es)[i]? <;> rfl
    show Q (Option.map (fun (e : Int × Value) => (e.2, 0)) (pickOrder (w.params.setOrder a ep) es)[i]?) s
    rw [e]; exact hq
  refine ⟨fun A hh => ⟨fun b hb => by rw [List.mem_singleton.mp hb]; exact List.mem_cons_self, fun i h h' st hk => ⟨hk I (by simp) _ st.1, hk a (by simp) _ st.2⟩, fun i s Q E hi st hQ => ?_, fun s Q E st hQ => ?_, fun i s Q E st hq => ?_⟩⟩
  · have hx := List.getElem?_eq_getElem hi
    refine si_next_int st.1 st.2 hd hf rfl (fun A Q E hq => hnext i s A Q E st.2 (by rw [hx]; exact hq)) fun h' hI hs => ?_
    exact hQ _ h' s.toks hx ⟨hI, (hs.2 a hne).trans st.2⟩ fun b o hb e => (hs.2 b fun q => hb (by rw [q]; exact List.mem_singleton.mpr rfl)).trans e
  · rw [hlen] at st
    have hx : ((pickOrder (w.params.setOrder a ep) es).toList.map (·.2))[es.size]? = none := List.getElem?_eq_none (by rw [hlen]; exact Nat.le_refl _)
    refine si_end_int hh st.1 st.2 hd hf rfl (fun A Q E hq => hnext es.size s A Q E st.2 (by rw [hx]; exact hq)) fun h' hs => ?_
    exact hQ h' s.toks fun b o hb e => hs b o (fun q => hb (by rw [q]; exact List.mem_singleton.mpr rfl)) e
  · exact si_self st.1 hq
theorem walk_drawn {I a T : Addr} {o : Obj} {es : Array (Int × Value)} {ep c : Nat} {t : SetTable} {ps : List Nat} (hne : a ≠ I) (hTI : T ≠ I) (hd : o.data = .set es ep t) (hf : t.fits es.size = true) (hp : ps.Perm (List.range es.size)) :
    SetWalk prog w I a (ps.map fun j => (es.toList.map (·.2)).getD j Value.none) [I, a, T] (fun i h => h.get? I = some (siO (.ref T) i a es.size ep) ∧ h.get? a = some o ∧ h.get? T = some (tupO (ps.map fun (j : Nat) => rawInt j) c)) := by
  have hlen : (ps.map fun j => (es.toList.map (·.2)).getD j Value.none).length = es.size := by rw [List.length_map, hp.length_eq, List.length_range]
  refine ⟨fun A hh => ⟨fun b hb => by rw [List.mem_singleton.mp hb]; exact List.mem_cons_self, fun i h h' st hk => ⟨hk I (by simp) _ st.1, hk a (by simp) _ st.2.1, hk T (by simp) _ st.2.2⟩, fun i s Q E hi st hQ => ?_, fun s Q E st hQ => ?_, fun i s Q E st hq => ?_⟩⟩
  · have hi' : i < ps.length := by simpa using hi
    have hpl : ps[i] < es.size := by
      have := hp.mem_iff.mp (List.getElem_mem hi')
      exact List.mem_range.mp this
    refine si_next_drawn (pl := ps[i]) (x := es[ps[i]].2) (hh' := es[ps[i]].1) st.1 st.2.2 st.2.1 hd hf rfl (List.getElem?_eq_getElem hi') (by rw [Array.getElem?_eq_getElem hpl]) fun h' hI hs => ?_
    refine hQ _ h' s.toks ?_ ⟨hI, (hs.2 a hne).trans st.2.1, (hs.2 T hTI).trans st.2.2⟩ fun b o hb e => (hs.2 b fun q => hb (by rw [q]; exact List.mem_singleton.mpr rfl)).trans e
    rw [List.getElem?_map, List.getElem?_eq_getElem hi']
    simp [hpl]
  · rw [hlen] at st
    refine si_end_drawn hh st.1 st.2.2 st.2.1 hd hf rfl (List.getElem?_eq_none (by rw [← hlen, List.length_map]; exact Nat.le_refl _)) fun h' hs => ?_
    exact hQ h' s.toks fun b o hb e => hs b o (fun q => hb (by rw [q]; exact List.mem_singleton.mpr rfl)) e
  · exact si_self st.1 hq
theorem walk_one {I a : Addr} {o : Obj} {es : Array (Int × Value)} {ep : Nat} {t : SetTable} (hne : a ≠ I) (hd : o.data = .set es ep t) (hf : t.fits es.size = true) (h1 : es.size = 1) (hl : t.led = true) (hb : w.params.followText "set-order" = false) :
    ∃ j, SetWalk prog w I a (es.toList.map (·.2)) [I, a] (fun i h => h.get? I = some (siO (rawInt ((if i = 0 then 0 else j + 1 : Nat) : Int)) i a es.size ep) ∧ h.get? a = some o) := by
  have hf' := hf
  simp only [SetTable.fits, Bool.and_eq_true, beq_iff_eq, decide_eq_true_eq] at hf'
  obtain ⟨j, hj⟩ : ∃ j, t.place = #[j] := arr_one (by rw [hf'.1, h1])
  obtain ⟨e, he⟩ : ∃ e, es = #[e] := arr_one h1
  subst he
  have hnext : ∀ (slot i : Nat) (s : Shared) (A : Around) (Q : Option (Value × Nat) → Shared → Prop) (E : Value → Shared → Prop), s.heap.get? a = some o → Q (match (#[e] : Array (Int × Value))[SetTable.below #[j] slot]?, (#[j] : Array Nat)[SetTable.below #[j] slot]? with | some (_, x), some j => some (x, j + 1) | _, _ => none) s → wpAny (model prog w) A (setNext a slot i ep) Q E s := fun slot i s A Q E ho hq => by
    unfold setNext
    refine wpAny_bind (wpAny_setState_of ho hd hf ?_)
    dsimp only
    unfold setsByText
    refine wpAny_bind (wpAny_bind (wpAny_askSetting (wpAny_pure ?_)))
    show wpAny _ _ (if w.params.followText "set-order" = true then _ else _) _ _ _
    rw [if_neg (by rw [hb]; exact Bool.false_ne_true)]
    show wpAny _ _ (if (!t.plain && decide ((#[e] : Array (Int × Value)).size > 1)) = true then _ else _) _ _ _
    rw [if_neg (by simp)]
    show wpAny _ _ ((if (!t.led && !(#[e] : Array (Int × Value)).isEmpty) = true then _ else pure ()) >>= _) _ _ _
    rw [if_neg (by rw [hl]; simp)]
    refine wpAny_bind (wpAny_pure ?_)
    rw [hj]
    exact wpAny_pure hq
  have hz := below_one j
  refine ⟨j, ⟨fun A hh => ⟨fun b hb => by rw [List.mem_singleton.mp hb]; exact List.mem_cons_self, fun i h h' st hk => ⟨hk I (by simp) _ st.1, hk a (by simp) _ st.2⟩, fun i s Q E hi st hQ => ?_, fun s Q E st hQ => ?_, fun i s Q E st hq => ?_⟩⟩⟩
  · have hi0 : i = 0 := by simpa using hi
    subst hi0
    refine si_next_int (slot := 0) (next := j + 1) (x := e.2) st.1 st.2 hd hf rfl (fun A Q E hq => hnext 0 0 s A Q E st.2 (by rw [hz.1]; exact hq)) fun h' hI hs => ?_
    exact hQ _ h' s.toks rfl ⟨hI, (hs.2 a hne).trans st.2⟩ fun b o hb e => (hs.2 b fun q => hb (by rw [q]; exact List.mem_singleton.mpr rfl)).trans e
  · refine si_end_int (slot := j + 1) hh st.1 st.2 hd hf rfl (fun A Q E hq => hnext (j + 1) 1 s A Q E st.2 (by rw [hz.2]; exact hq)) fun h' hs => ?_
    exact hQ h' s.toks fun b o hb e => hs b o (fun q => hb (by rw [q]; exact List.mem_singleton.mpr rfl)) e
  · exact si_self st.1 hq
end
end
section
section
variable {prog : Program} {w : World} {A : Around} {E : Value → Shared → Prop} {s : Shared}
theorem getD_map_range (l : List Value) : ((List.range l.length).map fun j => l.getD j Value.none) = l := range_getD l
theorem iter_set {a : Addr} {o : Obj} {es : Array (Int × Value)} {ep : Nat} {t : SetTable} {P : Value → Shared → Prop} (ho : s.heap.get? a = some o) (hex : o.ExactSet) (hd : o.data = .set es ep t) (hf : t.fits es.size = true) (h1 : 1 ≤ es.size) (hz : es.size < 4096) (hl : t.led = !w.params.followText "set-order") (hpl : t.plain = false)
    (h : ∀ I d h' vals fp St, vals.Perm (es.toList.map (·.2)) → (∀ b o, s.heap.get? b = some o → h'.get? b = some o) → s.heap.objs.size ≤ I → I < h'.objs.size → SetWalk prog w I a vals fp St → St 0 h' → (∀ b ∈ fp, b = a ∨ s.heap.objs.size ≤ b) → P (.ref I) { s with heap := h', drawn := d }) :
    wpAny (model prog w) A (pyIter (.ref a)) P E s := by
  have hT : s.TypeIs (.ref a) "set" := ⟨o, ho, hex.1⟩
  have ha : a < s.heap.objs.size := Heap.lt_size ho
  refine wpAny_pyIter_slot hT F.slot_set_iter (wpAny_call_entry F.slot_set_iter hT entry_set_iter' ?_ (F.args_set_iter_1 _))
  unfold Builtin.«frozenset.__iter__»
  show wpAny _ _ (pure a >>= _) _ _ s
  refine wpAny_bind (wpAny_pure ?_)
  unfold Builtin.Frozenset.sizeOf
  refine wpAny_bind (wpAny_bind (wpAny_setEntries_of ho hd hf (wpAny_pure ?_)))
  unfold setDrawn setsByText
  refine wpAny_bind (wpAny_bind (wpAny_setState_of ho hd hf ?_))
  dsimp only
  refine wpAny_bind (wpAny_bind (wpAny_askSetting (wpAny_pure (wpAny_pure ?_))))
  show wpAny _ _ (if (!w.params.followText "set-order" && (!t.plain && decide (es.size > 1))) = true then _ else _) _ _ _
  cases hb : w.params.followText "set-order" with
  | true =>
    rw [if_neg (by simp)]
    refine wpAny_bind (wpAny_pure ?_)
    unfold setEpoch
    refine wpAny_bind (wpAny_bind (wpAny_setState_of ho hd hf (wpAny_pure ?_)))
    refine wpAny_bind (wpAny_newObj_type ?_ (by first | trivial | size_fits))
    refine wpAny_pure ⟨_, rfl, "set_iterator", _, ⟨_, Heap.get?_push_size _ rfl, rfl⟩, slot_si_next.lookup, ?_⟩
    refine h s.heap.objs.size s.drawn _ _ _ _ ?_ (fun b o e => Heap.get?_push_of_some _ e) (Nat.le_refl _) (Heap.lt_size (Heap.get?_push_size _ rfl)) (walk_text (o := o) (t := t) (Nat.ne_of_lt ha) hd hf hb) ⟨Heap.get?_push_size _ rfl, Heap.get?_push_of_some _ ho⟩ fun b hb => ?_
    · exact (pick_perm _ _).map _
    · rcases List.mem_cons.mp hb with e | hb
      · exact .inr (Nat.le_of_eq e.symm)
      · exact .inl (List.mem_singleton.mp hb)
  | false =>
    rw [hb] at hl
    by_cases h2 : es.size > 1
    · rw [if_pos (by simp [hpl, h2])]
      refine wpAny_bind (wp_drawOrder es.size (List.range es.size) s _ (by simp) fun ps d hp => ?_)
      refine wpAny_bind (wpAny_newTuple ?_ (by rw [List.length_map, hp.length_eq, List.length_range, sizeLine_eq]; walk_at "om"))
      have ho1 : (s.heap.push (tupO (ps.map fun (j : Nat) => rawInt j) 0)).get? a = some o := Heap.get?_push_of_some _ ho
      unfold setEpoch
      refine wpAny_bind (wpAny_bind (wpAny_setState_of (s := { s with heap := s.heap.push (tupO (ps.map fun (j : Nat) => rawInt j) 0), drawn := d }) ho1 hd hf (wpAny_pure ?_)))
      refine wpAny_bind (wpAny_newObj_type ?_ (by first | trivial | size_fits))
      refine wpAny_pure ⟨_, rfl, "set_iterator", _, ⟨_, Heap.get?_push_size _ rfl, rfl⟩, slot_si_next.lookup, ?_⟩
      have hsz : (s.heap.push (tupO (ps.map fun (j : Nat) => rawInt j) 0)).objs.size = s.heap.objs.size + 1 := Heap.size_push ..
      refine h _ d _ _ _ _ ?_ (fun b o e => Heap.get?_push_of_some _ (Heap.get?_push_of_some _ e)) (by rw [hsz]; exact Nat.le_succ _) (Heap.lt_size (Heap.get?_push_size _ rfl))
        (walk_drawn (o := o) (t := t) (T := s.heap.objs.size) (c := 0) (by rw [hsz]; exact Nat.ne_of_lt (Nat.lt_succ_of_lt ha)) (by rw [hsz]; exact Nat.ne_of_lt (Nat.lt_succ_self _)) hd hf hp) ⟨Heap.get?_push_size _ rfl, Heap.get?_push_of_some _ ho1, Heap.get?_push_of_some _ (Heap.get?_push_size _ rfl)⟩ fun b hb => ?_
      · refine (hp.map _).trans ?_
        have e : es.size = (es.toList.map (·.2)).length := by simp
        rw [e, getD_map_range]
      · rcases List.mem_cons.mp hb with e | hb
        · exact .inr (by rw [e, hsz]; exact Nat.le_succ _)
        · rcases List.mem_cons.mp hb with e | hb
          · exact .inl e
          · exact .inr (Nat.le_of_eq (List.mem_singleton.mp hb).symm)
    · rw [if_neg (by simp; intro _; walk_at "om")]
      refine wpAny_bind (wpAny_pure ?_)
      unfold setEpoch
      refine wpAny_bind (wpAny_bind (wpAny_setState_of ho hd hf (wpAny_pure ?_)))
      refine wpAny_bind (wpAny_newObj_type ?_ (by first | trivial | size_fits))
      refine wpAny_pure ⟨_, rfl, "set_iterator", _, ⟨_, Heap.get?_push_size _ rfl, rfl⟩, slot_si_next.lookup, ?_⟩
      obtain ⟨j, hw⟩ := walk_one (prog := prog) (w := w) (I := s.heap.objs.size) (o := o) (t := t) (Nat.ne_of_lt ha) hd hf (by walk_at "om") (by rw [hl]; rfl) hb
      refine h s.heap.objs.size s.drawn _ _ _ _ (.refl _) (fun b o e => Heap.get?_push_of_some _ e) (Nat.le_refl _) (Heap.lt_size (Heap.get?_push_size _ rfl)) hw ⟨Heap.get?_push_size _ rfl, Heap.get?_push_of_some _ ho⟩ fun b hb => ?_
      rcases List.mem_cons.mp hb with e | hb
      · exact .inr (Nat.le_of_eq e.symm)
      · exact .inl (List.mem_singleton.mp hb)
theorem collect_set {a : Addr} {o : Obj} {es : Array (Int × Value)} {ep : Nat} {t : SetTable} {R : List Value → Shared → Prop} (hh : A.handled = none) (ho : s.heap.get? a = some o) (hex : o.ExactSet) (hd : o.data = .set es ep t) (hf : t.fits es.size = true) (h1 : 1 ≤ es.size) (hz : es.size < 4096) (hl : t.led = !w.params.followText "set-order") (hpl : t.plain = false)
    (h : ∀ d h' tk vals, vals.Perm (es.toList.map (·.2)) → (∀ b o, s.heap.get? b = some o → h'.get? b = some o) → R vals { s with heap := h', toks := tk, drawn := d }) :
    wpAny (model prog w) A (collect (.ref a)) R E s := by
  have ha : a < s.heap.objs.size := Heap.lt_size ho
  unfold collect
  refine wpAny_bind (wpAny_runValue (codeAny_builtin entry_proto_collect' ?_))
  rw [Around.under_plainId PySem.F.plain_proto_collect _]
  show wpAny _ A.in1 (newList [] >>= fun l => again (.builtin "list.__iadd__" ⟨[l, .ref a], []⟩)) _ _ s
  refine wpAny_bind (wpAny_newObj_type ?_)
  refine wpAny_pure ⟨plainId_quiet PySem.F.plain_list_iadd _, codeAny_builtin entry_list_iadd' ?_⟩
  rw [Around.under_plainId PySem.F.plain_list_iadd _]
  have hS₁ : (s.heap.push { cls := .type "list", data := .seq ([] : List Value).toArray }).get? s.heap.objs.size = some { cls := .type "list", data := .seq #[] } := Heap.get?_push_size _ rfl
  show wpAny _ A.in1 (Builtin.List.listExtendWith (.ref s.heap.objs.size) (.ref a) (.ref s.heap.objs.size)) _ _ _
  have ho1 : (s.heap.push { cls := .type "list", data := .seq ([] : List Value).toArray }).get? a = some o := Heap.get?_push_of_some _ ho
  have hT1 : Shared.TypeIs { s with heap := s.heap.push { cls := .type "list", data := .seq ([] : List Value).toArray } } (.ref a) "set" := ⟨o, ho1, hex.1⟩
  unfold Builtin.List.listExtendWith
  refine wpAny_bind (wpAny_typeOf (T := "set") hT1 ?_)
  have hsr : Builtin.List.listSameRef (.ref s.heap.objs.size) (.ref a) = false := by simp [Builtin.List.listSameRef]; exact Nat.ne_of_gt ha
  have n1 : (Value.type "set" == Value.type "list") = false := by decide
  have n2 : (Value.type "set" == Value.type "tuple") = false := by decide
  simp only [hsr, n1, n2, Bool.or_false, Bool.false_eq_true, if_false]
  refine wpAny_bind (iter_set ho1 hex hd hf h1 hz hl hpl fun I d h' vals fp St hp hk hI1 hI2 W st hfp => ?_)
  have hsize : (s.heap.push { cls := .type "list", data := .seq ([] : List Value).toArray }).objs.size = s.heap.objs.size + 1 := Heap.size_push ..
  have hSf : s.heap.objs.size ∉ fp := fun hm => by
    rcases hfp _ hm with e | e
    · exact absurd e (Nat.ne_of_gt ha)
    · exact absurd (hsize ▸ e) (Nat.not_succ_le_self _)
  have hS2 := hk _ _ hS₁
  have hlen : vals.length ≤ sizeLine := by
    have e1 : vals.length = es.size := by rw [hp.length_eq]; simp
    rw [e1, sizeLine_eq]; walk_at "om"
  have hI' : s.heap.objs.size + 1 ≤ I := by
    have q : (s.heap.push { cls := .type "list", data := .seq ([] : List Value).toArray }).objs.size ≤ I := hI1
    rw [hsize] at q; exact q
  have key : ∀ (h2 : Heap) (c₁ tk : Nat), St 0 h2 → (∀ b o, b ≠ s.heap.objs.size → h'.get? b = some o → h2.get? b = some o) → h2.get? s.heap.objs.size = some { cls := .type "list", data := .seq #[] c₁ } →
      codeAny (model prog w) A (.builtin "list.extend.loop" ⟨[.ref s.heap.objs.size, .ref I, .ref s.heap.objs.size], []⟩) (fun q s' => ∃ (h3 : Heap) (tk : Nat) (acc' : Array Value) (c' : Nat), q = .ok (.ret (.ref s.heap.objs.size)) ∧ s' = { s with heap := h3, toks := tk, drawn := d } ∧
      (∀ b o, s.heap.get? b = some o → h3.get? b = some o) ∧ h3.get? s.heap.objs.size = some { cls := .type "list", dict := none, data := .seq acc' c', slots := #[] } ∧ acc'.toList = vals) { s with heap := h2, toks := tk, drawn := d } := by
    intro h2 c₁ tk hst hk2 hS3
    refine codeAny_extend_loopS (W.walk A.in1 hh).toS hlen s.heap.objs.size hSf (.ref s.heap.objs.size) vals.length 0 _ #[] c₁ rfl (Nat.zero_le _) hst hS3 (ItemsOf.nil _) fun s' acc' c' hm hS' hacc => ?_
    refine ⟨s'.heap, s'.toks, acc', c', rfl, ?_, fun b o e => hm.heap b o (fun hmem => ?_) (hk2 b o (Nat.ne_of_lt (Heap.lt_size e)) (hk b o (Heap.get?_push_of_some _ e))), hS', ?_⟩
    · have := Moved.eq_with hm
      rw [this]
    · rcases List.mem_cons.mp hmem with e' | hmem
      · exact absurd e' (Nat.ne_of_lt (Heap.lt_size e))
      · have : b = I := List.mem_singleton.mp hmem
        have hb := Heap.lt_size e
        rw [this] at hb
        exact absurd (Nat.lt_of_lt_of_le hb (Nat.le_trans (Nat.le_succ _) hI')) (Nat.lt_irrefl _)
    · obtain ⟨hz1, hz2⟩ := hacc
      apply List.ext_getElem?
      intro i
      by_cases hi : i < vals.length
      · have hi' : i < acc'.size := by rw [hz1]; exact hi
        have := hz2 i acc'[i] (Array.getElem?_eq_getElem hi')
        rw [Array.getElem?_toList, Array.getElem?_eq_getElem hi', this]
      · rw [List.getElem?_eq_none (by rw [Array.length_toList, hz1]; walk_at "om"), List.getElem?_eq_none (by walk_at "om")]
  have finish : ∀ (c' : Code) (s2 : Shared), c'.quiet = true → codeAny (model prog w) A c' (fun q s' => ∃ (h3 : Heap) (tk : Nat) (acc' : Array Value) (c' : Nat), q = .ok (.ret (.ref s.heap.objs.size)) ∧ s' = { s with heap := h3, toks := tk, drawn := d } ∧
      (∀ b o, s.heap.get? b = some o → h3.get? b = some o) ∧ h3.get? s.heap.objs.size = some { cls := .type "list", dict := none, data := .seq acc' c', slots := #[] } ∧ acc'.toList = vals) s2 → True := fun _ _ _ _ => trivial
  refine wpAny_bind (wpAny_holding (set_hint ⟨o, hk _ _ ho1, hex.1⟩ ?_))
  have fin2 : ∀ {c' : Code} {s2 : Shared}, codeAny (model prog w) A c' (fun q s' => ∃ (h3 : Heap) (tk : Nat) (acc' : Array Value) (c' : Nat), q = .ok (.ret (.ref s.heap.objs.size)) ∧ s' = { s with heap := h3, toks := tk, drawn := d } ∧
      (∀ b o, s.heap.get? b = some o → h3.get? b = some o) ∧ h3.get? s.heap.objs.size = some { cls := .type "list", dict := none, data := .seq acc' c', slots := #[] } ∧ acc'.toList = vals) s2 →
      codeAny (model prog w) A c' (fun r s' => match r with
        | .ok (.ret v) => wpAny (model prog w) A (match v with
          | .ref a => load a >>= fun o => match o.data with
            | .seq xs _ => pure xs.toList
            | _ => unsupported "internal:collect"
          | _ => unsupported "internal:collect") R E s'
        | .ok _ => False
        | .error e => E e s') s2 := fun hc => codeAny_mono hc fun r s' hq => by
    obtain ⟨h3, tk, acc', c', rfl, rfl, hk3, hS3, hacc⟩ := hq
    show wpAny _ A (load s.heap.objs.size >>= _) _ _ _
    refine wpAny_bind (wpAny_load hS3 ?_)
    refine wpAny_pure ?_
    show R acc'.toList _
    rw [hacc]
    exact h d h3 tk vals hp hk3
  refine wpAny_ite_split (fun _ => ?_) (fun _ => wpAny_pure ⟨plainId_quiet PySem.F.plain_extend_loop _, fin2 (key _ 0 _ st (fun b o _ e => e) hS2)⟩)
  refine wpAny_bind (wpAny_rule ?_)
  refine wpAny_bind ?_
  show wpAny _ _ (updateSeq s.heap.objs.size (·.push .none) >>= fun _ => updateSeq s.heap.objs.size (·.pop)) _ _ _
  refine wpAny_bind (wpAny_updateSeq hS2 rfl ?_)
  have hS₂ := Heap.get?_update_self (Obj.mapSeq (·.push Value.none)) hS2 rfl
  refine wpAny_updateSeq (hz := by seq_fits) hS₂ rfl ?_
  have hS₃ := Heap.get?_update_self (Obj.mapSeq (·.pop)) hS₂ rfl
  refine wpAny_pure ⟨plainId_quiet PySem.F.plain_extend_loop _, fin2 (key _ _ _ ?_ (fun b o hb e => ?_) hS₃)⟩
  · refine (W.walk A.in1 hh).frame 0 _ _ st fun b hb o e => ?_
    have hbS : b ≠ s.heap.objs.size := fun h => hSf (h ▸ hb)
    exact (Heap.get?_update_other _ _ (Ne.symm hbS)).trans ((Heap.get?_update_other _ _ (Ne.symm hbS)).trans e)
  · exact (Heap.get?_update_other _ _ (Ne.symm hb)).trans ((Heap.get?_update_other _ _ (Ne.symm hb)).trans e)
end
end
section
variable {C : Cx} {n : Nat} {X : Addr → Led → Prop} {env : Env} {led : Led}
theorem nodup_perm {α : Type} [DecidableEq α] : ∀ {ss ls : List α}, ss.Nodup → (∀ x ∈ ss, x ∈ ls) → ls.length = ss.length → ss.Perm ls
  | [], ls, _, _, hl => by rw [List.eq_nil_of_length_eq_zero hl]
  | x :: ss, ls, hn, hs, hl => by
    rw [List.nodup_cons] at hn
    have hx := hs x List.mem_cons_self
    have hp := List.perm_cons_erase hx
    have ih := nodup_perm (ss := ss) (ls := ls.erase x) hn.2 (fun y hy => by
      have hy' := hs y (List.mem_cons_of_mem _ hy)
      have hne : y ≠ x := fun e => hn.1 (e ▸ hy)
      exact (List.mem_erase_of_ne hne).mpr hy') (by rw [List.length_erase_of_mem hx]; simp at hl; walk_at "om")
    exact (ih.cons x).trans hp.symm
noncomputable def strOfV : Value → Str
  | .str s _ => s
  | _ => Str.empty
theorem vrs_of_perm {Φ : PH} : ∀ {ls : List Str} {xs : List Value}, VRs C Φ (ls.map V.str) xs → ∀ {ys : List Value}, ys.Perm xs → VRs C Φ ((ys.map strOfV).map V.str) ys ∧ (ys.map strOfV).Perm ls := fun {ls xs} h ys hp => by
  have h1 : xs.map strOfV = ls ∧ ∀ x ∈ xs, ∃ s t, x = Value.str s t := by
    induction ls generalizing xs ys with
    | nil => simp only [List.map_nil, VRs] at h; subst h; exact ⟨rfl, fun x hx => by cases hx⟩
    | cons s ls ih =>
      simp only [List.map_cons, VRs] at h
      obtain ⟨y, zs, rfl, h1, h2⟩ := h
      obtain ⟨t, rfl⟩ := wv_str h1
      obtain ⟨a, b⟩ := ih h2 (ys := zs) (.refl _)
      exact ⟨by rw [List.map_cons, a]; rfl, fun x hx => (List.mem_cons.mp hx).elim (fun e => ⟨s, t, e⟩) (b x)⟩
  refine ⟨?_, by rw [← h1.1]; exact hp.map _⟩
  have h2 : ∀ y ∈ ys, ∃ s t, y = Value.str s t := fun y hy => h1.2 y (hp.mem_iff.mp hy)
  clear hp h1 h
  induction ys with
  | nil => exact VRs.nil
  | cons y ys ih =>
    obtain ⟨s, t, rfl⟩ := h2 y List.mem_cons_self
    exact VRs.cons vstr (ih fun z hz => h2 z (List.mem_cons_of_mem _ hz))
theorem set_vals {Φ : PH} {o : Obj} {ss : List Str} (h : OOk C Φ o (.setL ss)) : ∃ es ep t, o.ExactSet ∧ o.data = .set es ep t ∧ t.fits es.size = true ∧ es.size = ss.length ∧ es.size < 4096 ∧ t.led = (!C.w.params.followText "set-order") ∧ (ss = [] ∨ t.plain = false) ∧ ∃ ls : List Str, ls.Perm ss ∧ VRs C Φ (ls.map V.str) (es.toList.map (·.2)) := by
  obtain ⟨h1, es, ep, t, h2, h3, h4, h5, h6, h7, h8, h9, h10⟩ := h
  refine ⟨es, ep, t, h1, h2, h6, h7, h5, h9, h10, (es.toList.map (·.2)).map strOfV, ?_, ?_⟩
  · have hall : ∀ e ∈ es.toList, ∃ k t, e.2 = Value.str k t := fun e he => by
      obtain ⟨⟨k, hk, _⟩, _⟩ := h3 e he
      obtain ⟨t, ht⟩ := Value.isStrOf_shape hk
      exact ⟨k, t, ht⟩
    refine (nodup_perm h8 (fun x hx => ?_) (by simp [h7])).symm
    obtain ⟨e, he, hk⟩ := (h4 x).mp hx
    obtain ⟨t, ht⟩ := Value.isStrOf_shape hk
    rw [List.map_map]
    exact List.mem_map.mpr ⟨e, he, by simp [ht, strOfV]⟩
  · have hall : ∀ e ∈ es.toList, ∃ k t, e.2 = Value.str k t := fun e he => by
      obtain ⟨⟨k, hk, _⟩, _⟩ := h3 e he
      obtain ⟨t, ht⟩ := Value.isStrOf_shape hk
      exact ⟨k, t, ht⟩
    generalize es.toList = l at hall
    induction l with
    | nil => exact VRs.nil
    | cons e l ih =>
      obtain ⟨k, t, hk⟩ := hall e List.mem_cons_self
      simp only [List.map_cons, hk]
      exact VRs.cons vstr (ih fun e he => hall e (List.mem_cons_of_mem _ he))
end
section
variable {C : Cx} {n : Nat} {X : Addr → Led → Prop} {env : Env} {led : Led}
theorem getD_map {α β : Type} (f : α → β) (l : List α) (i : Nat) (a : α) (b : β) (h : i < l.length) : (l.map f).getD i b = f (l.getD i a) := by
  simp [h]
theorem wp_key_end {A : Around} {Φ : PH} {s : Shared} {E : Value → Shared → Prop} {P : PySem.Fin → Shared → Prop} {l kS : Addr} {xs : List Value} {e1 : Nat} {ws : List Str} {kf : Str → List Str} (hu : A.units < cLine)
    (S : Sat C Φ ((kS, .list (ws.map fun k => VL (kf k))) :: (l, .obj (lstO [] e1)) :: led) s) (hv : VRs C Φ (ws.map V.str) xs) (h64 : ws.length < 64)
    (h : ∀ s' (out : List Str) (ys : List Value) (c : Nat), out.Perm ws → True → VRs C Φ (out.map V.str) ys → Sat C Φ ((l, .obj (lstO ys c)) :: led) s' → P (.done (.ret .none)) s') :
    wpAny C.M A (do let keys ← Builtin.List.listItems (.ref kS); ksk_end l false xs.toArray e1 (.ref kS) keys) P E s := by
  obtain ⟨o, ho, zs, c, rfl, hr⟩ := S.at (a := kS) List.mem_cons_self
  obtain ⟨o2, ho2, e2, _⟩ := S.at (a := l) (ao := .obj (lstO [] e1)) (List.mem_cons_of_mem _ List.mem_cons_self)
  subst e2
  have lx := hv.length
  have lz := hr.length
  rw [List.length_map] at lx lz
  have hr' : VRs C Φ ((ws.map kf).map VL) zs := by rw [List.map_map]; exact hr
  refine wpAny_bind (listItems_at (show s.heap.get? kS = some (seqObj "list" zs.toArray c) from ho) rfl ?_)
  have hlk : l ≠ kS := fun e => by
    have := S.nd
    simp only [List.map_cons] at this
    exact (List.nodup_cons.mp this).1 (by rw [e]; exact List.mem_cons_self)
  unfold ksk_end
  dsimp only
  simp only [Bool.false_eq_true, if_false]
  -- what is left of the ledger
  have tail : ∀ (st : SortSt) (out : List Str) (ys : List Value), out.Perm ws → True → VRs C Φ (out.map V.str) ys → ys.length = xs.length → (arrOf st).map (·.2) = ys.toArray → failedOf st = none → wpAny C.M A (ksk_tail l false e1 (.ref kS) st) P E s := fun st out ys hp hs hvy hly hout hfl => by
    unfold ksk_tail
    dsimp only
    rw [hout, hfl]
    refine wpAny_bind (listUpdate_at (show s.heap.get? kS = some (seqObj "list" zs.toArray c) from ho) rfl ?_ (by rw [List.size_toArray, sizeLine_eq]; walk_at "om") (Nat.zero_le _))
    have sb1 := Heap.SameBut.update s.heap kS (Obj.mapSeq fun _ => (#[] : Array Value))
    refine wpAny_bind (wpAny_letGo ?_)
    have ho3 : (s.heap.update kS (Obj.mapSeq fun _ => (#[] : Array Value))).get? l = some (seqObj "list" #[] e1) := (sb1.2 l hlk).trans ho2
    refine wpAny_bind (seqEpoch_at ho3 rfl ?_)
    simp only [Bool.false_eq_true, if_false, bne_self_eq_false]
    refine wpAny_bind (listUpdate_at ho3 rfl ?_ (Nat.zero_le _) (by rw [List.size_toArray, hly, sizeLine_eq]; walk_at "om"))
    have sb2 := Heap.SameBut.update (s.heap.update kS (Obj.mapSeq fun _ => (#[] : Array Value))) l (Obj.mapSeq fun _ => ys.toArray)
    obtain ⟨c2, hc2⟩ := setSeq (show (s.heap.update kS (Obj.mapSeq fun _ => (#[] : Array Value))).get? l = some (lstO [] e1) from ho3) (fun _ => ys.toArray)
    refine wpAny_pure (h _ out ys c2 hp hs hvy ⟨?_, S.tk⟩)
    have S1 : Sat0 C Φ ((l, .obj (lstO [] e1)) :: led) { s with heap := s.heap.update kS (Obj.mapSeq fun _ => (#[] : Array Value)) } := S.toSat0.lose .head fun b o hb e => (sb1.2 b hb).trans e
    exact S1.up1 (s' := { s with heap := (s.heap.update kS (Obj.mapSeq fun _ => (#[] : Array Value))).update l (Obj.mapSeq fun _ => ys.toArray) }) .head sb2.extBut hc2 ⟨by simp, rfl⟩
  by_cases h2 : xs.toArray.size < 2
  · rw [if_pos h2, if_pos h2]
    refine wpAny_bind (wpAny_pure ?_)
    rw [StateT.run_pure]
    refine wpAny_bind (wpAny_pure ?_)
    refine tail _ ws xs (.refl _) trivial hv rfl ?_ rfl
    · apply Array.toList_inj.mp
      show ((zs.toArray.zip xs.toArray).map (·.2)).toList = _
      rw [Array.toList_map, ksk_zip]
      show List.map Prod.snd _ = _
      rw [List.map_snd_zip (by simp; walk_at "om")]
  · rw [if_neg h2, if_neg h2]
    have h2' : 2 ≤ xs.length := by simpa using h2
    have hat : ∀ i, i < zs.length → ∃ b ys k, zs.getD i Value.none = .ref b ∧ s.heap.get? b = some (lstO ys k) ∧ StrsAre ys ((ws.map kf).getD i []) := fun i hi => by
      obtain ⟨b, ys, k, e, hp, hs⟩ := vl_at hr' hi
      exact ⟨b, ys, k, e, S.sub _ _ hp, hs⟩
    refine wpAny_bind (kas_kind (vs := zs) (by walk_at "om") (T := .type "list") (fun v hm => ?_) (by decide) (by decide) ?_)
    · obtain ⟨i, hi, e⟩ := List.mem_iff_getElem.mp hm
      obtain ⟨b, ys, j, e1, hp, _⟩ := hat i hi
      have : v = .ref b := by rw [← e1, ← e]; simp [hi]
      rw [this]
      exact looks_list hp
    · refine wpAny_bind (wpAny_mono (kat_run (ks := zs) (vs := xs) (Q := fun st' s' => ∃ p : Array Nat, p.size = xs.length ∧ arrOf st' = p.map (kas_item (zs.toArray.zip xs.toArray)) ∧ failedOf st' = none ∧ p = krun (ksLt (ws.map kf)) (kas_sort xs.length) ∧ s' = s)
        (G := fun p s' => p = krun (ksLt (ws.map kf)) (kas_sort xs.length) ∧ s' = s)
        (by walk_at "om") h2' (by walk_at "om") (fun p' st' s' a1 a2 a3 a4 => ⟨p', a1, a2, a3, a4.1, a4.2⟩)
        (kas_of (n := xs.length) (lt := ksLt (ws.map kf)) (Inv := fun s' => s' = s) (fun i j hi hj K s' hI hK => ?_) (sort_ask (by walk_at "om")) rfl fun s' hI => ⟨rfl, hI⟩)) ?_ fun _ _ e => e)
      · subst hI
        obtain ⟨b, ys, k1, e1, hp1, hs1⟩ := hat i (by walk_at "om")
        obtain ⟨c, us, k2, e2, hp2, hs2⟩ := hat j (by walk_at "om")
        show wpAny _ _ (keyLt' oneType' (zs.getD i Value.none) (zs.getD j Value.none)) _ _ _
        rw [e1, e2, keyLt'_oneType]
        exact oneLt_list hu hp1 hp2 hs1 hs2 (hK _ rfl)
      · rintro ⟨⟨⟩, st'⟩ s' ⟨p, hp, har, hf, rfl, rfl⟩
        dsimp only
        have hout := kat_snds (by walk_at "om") har
        have hox := ordIx_perm (ksLt (ws.map kf)) (ws.map kf).length
        have hoe : ordIx (ksLt (ws.map kf)) (ws.map kf).length = (krun (ksLt (ws.map kf)) (kas_sort xs.length)).toList := by
          unfold ordIx
          rw [List.length_map, if_neg (by walk_at "om"), lx]
        rw [hoe] at hox
        rw [List.length_map, ← lx] at hox
        have hlt : ∀ i ∈ (krun (ksLt (ws.map kf)) (kas_sort xs.length)).toList, i < ws.length := fun i hi => by
          have := List.mem_range.mp (hox.mem_iff.mp hi); walk_at "om"
        refine tail st' ((krun (ksLt (ws.map kf)) (kas_sort xs.length)).toList.map fun i => ws.getD i Str.empty) ((krun (ksLt (ws.map kf)) (kas_sort xs.length)).toList.map fun i => xs.getD i Value.none) ?_ ?_ ?_ (by rw [List.length_map, Array.length_toList, hp]) hout hf
        · refine (hox.map _).trans ?_
          rw [lx]
          have : ((List.range ws.length).map fun i => ws.getD i Str.empty) = ws := by
            apply List.ext_getElem
            · simp
            · intro i h1 h2
              simp at h1
              simp [h1]
          rw [this]
        · trivial
        · have hpk := vrs_pick hv (ix := (krun (ksLt (ws.map kf)) (kas_sort xs.length)).toList) (fun i hi => by rw [List.length_map]; exact hlt i hi)
          have : ((krun (ksLt (ws.map kf)) (kas_sort xs.length)).toList.map fun i => (ws.map V.str).getD i .none) = (((krun (ksLt (ws.map kf)) (kas_sort xs.length)).toList.map fun i => ws.getD i Str.empty).map V.str) := by
            rw [List.map_map]
            apply List.map_congr_left
            intro i hi
            have := hlt i hi
            simp [this]
          rw [← this]
          exact hpk
end
section
variable {C : Cx} {n : Nat} {X : Addr → Led → Prop} {env : Env} {led : Led}
theorem Room.in2 {A : Around} (h : Room (n + 1) A) : Room n A.in1.in1 := ⟨h.handled, by have := h.depth; show A.depth + 8 * n < 1000; walk_at "om", by have := h.units; show A.units + 1 + 1 + 40 * n < 9900; walk_at "om"⟩
end
section
theorem look_append : typeLookup (.type "list") "append" = pure (some (.builtin "list.append")) := F.slot_list_append.lookup
theorem slot_md_get : Slot "method_descriptor" "__get__" "method_descriptor.__get__" :=
  .of (owner := "method_descriptor") (n := "__get__") (by rw [typeLookup_type, builtinLookup_eq_fast]; kernel_rfl) (by decide +kernel) (by decide +kernel) (by decide +kernel)
    (by first | exact .inl (by decide +kernel) | exact .inr (by decide +kernel)) (by rw [isSubtype_type]; kernel_rfl)
theorem entry_md_get : entryFor table "method_descriptor.__get__" = some Builtin.«method_descriptor.__get__» := entryFor_of_tree (by kernel_rfl)
theorem args_md_get (a b c : Value) : argsOk "method_descriptor.__get__" ⟨[a, b, c], []⟩ := by unfold argsOk; kernel_rfl
theorem md_noset : typeLookup (.type "method_descriptor") "__set__" = pure none := by rw [typeLookup_type, builtinLookup_eq_fast]; kernel_rfl
theorem md_nodel : typeLookup (.type "method_descriptor") "__delete__" = pure none := by rw [typeLookup_type, builtinLookup_eq_fast]; kernel_rfl
noncomputable def bndO (l : Addr) : Obj := { cls := .type "builtin_function_or_method", data := .fields #[.builtin "list.append", .ref l] }
theorem meets_md_get (l : Addr) (xs : List Value) (k : Nat) :
    Meets (Builtin.«method_descriptor.__get__» ⟨[.builtin "list.append", .ref l, .type "list"], []⟩) (fun A R s => s.heap.get? l = some (lstO xs k) ∧ R (.ok (.ret (.ref s.heap.objs.size))) { s with heap := s.heap.push (bndO l) }) :=
  Meets.of_wp fun prog w A R s hs => by
    obtain ⟨hp, g, d, tk, os⟩ := s
    obtain ⟨hx, hs⟩ := hs
    unfold lstO at hx
    have hT : (⟨hp, g, d, tk, os⟩ : Shared).TypeIs (.ref l) "list" := ⟨_, hx, rfl⟩
    have f3 := AutoSeq1.sub_list_list
    unfold Builtin.«method_descriptor.__get__»
    repeat (any_goals (first | assumption | wp_step))
    rw [show (".".intercalate ("list.append".cutAt '.').dropLast) = "list" from by decide +kernel, f3]
    refine wpAny_pure ?_
    simp only [Bool.not_true, Bool.false_eq_true, if_false]
    refine wpAny_pure ?_
    refine wpAny_bind (wpAny_newObj_type (wpAny_pure ⟨_, rfl, hs⟩) (by first | trivial | size_fits))
theorem meets_ga_append (l : Addr) (xs : List Value) (k : Nat) (u : Tok) :
    Meets (Builtin.«object.__getattribute__» ⟨[.ref l, .str "append" u], []⟩) (fun A R s => s.heap.get? l = some (lstO xs k) ∧ R (.ok (.ret (.ref s.heap.objs.size))) { s with heap := s.heap.push (bndO l) }) :=
  Meets.of_wp fun prog w A R s hs => by
    obtain ⟨hp, g, d, tk, os⟩ := s
    obtain ⟨hx, hs⟩ := hs
    have hx0 := hx
    unfold lstO at hx
    have hT : (⟨hp, g, d, tk, os⟩ : Shared).TypeIs (.ref l) "list" := ⟨_, hx, rfl⟩
    have f1 := look_append
    have f2 := F.type_list_append
    have f3 := slot_md_get.lookup
    have f4 := md_noset
    have f5 := md_nodel
    unfold Builtin.«object.__getattribute__»
    repeat (any_goals (first | assumption | ((with_reducible show wpAny _ _ (call (Value.builtin "method_descriptor.__get__") _ _) _ _ _); refine call_meets slot_md_get F.type_list_append entry_md_get (args_md_get _ _ _) (meets_md_get l xs k) ⟨hx0, ?_⟩) | wp_step))
    exact wpAny_pure ⟨_, rfl, hs⟩
theorem getAttr_append {prog : Program} {w : World} {A : Around} {E : Value → Shared → Prop} {s : Shared} {l : Addr} {xs : List Value} {k : Nat} {Q : Value → Shared → Prop} (ho : s.heap.get? l = some (lstO xs k))
    (h : ∀ tk, Q (.ref s.heap.objs.size) { s with heap := s.heap.push (bndO l), toks := tk }) : wpAny (model prog w) A (getAttr (.ref l) "append" true) Q E s := by
  obtain ⟨hp, g, d, tk, os⟩ := s
  unfold lstO at ho
  have hT : ∀ tk, Shared.TypeIs ⟨hp, g, d, tk, os⟩ (.ref l) "list" := fun _ => ⟨_, ho, rfl⟩
  have f3 := F.slot_list_getattribute.lookup
  have f4 := F.slot_list_getattribute.bind (.ref l)
  have f5 := am_list_getattr_none
  unfold getAttr getAttrBy
  repeat (any_goals (first | assumption | exact hT _ | ((with_reducible show wpAny _ _ (call (Value.builtin "list.__getattribute__") _ _) _ _ _); refine call_meets F.slot_list_getattribute (hT _) am_entry_list_getattribute (F.args_list_getattribute_2 _ _) (meets_ga_append l xs k _) ⟨ho, ?_⟩) | wp_step))
  exact handed_on rfl (h _)
variable {C : Cx} {n : Nat} {X : Addr → Led → Prop} {env : Env} {led : Led}
theorem ga_append {l : Addr} {vs : List V} {Q : V → Led → Prop} (hm : (l, AO.list vs) ∈ led) (h : ∀ b, Q (.ref b) ((b, .obj (bndO l)) :: led)) : W1 C n X (RV C) (fun o => getAttr o "append" true) (.ref l) led Q := fun A Φ s x hA S hx => by
  rw [wv_val hx]
  obtain ⟨o, ho, xs, k, rfl, hv⟩ := S.at hm
  refine getAttr_append ho fun tk => ?_
  exact ⟨Φ, _, _, Le.refl _, (S.toSat0.alloc (o := bndO l) (ao := .obj (bndO l)) rfl ⟨rfl, rfl⟩).toks tk, vval, h _⟩
theorem kept_bnd {b : Addr} {o : Obj} {vs : Array Value} (hm : (b, AO.obj o) ∈ led) (hc : o.cls = .type "builtin_function_or_method") (hd : o.data = .fields vs) : Kept C (.ref b) led := fun Φ s fx S hx => by
  rw [wv_val hx]
  obtain ⟨o', ho, rfl, _⟩ := S.at hm
  refine ⟨.machine, fun A Q E s' hk q => ?_⟩
  unfold keeperOf
  refine wpAny_bind (wpAny_load (hk _ _ ho) ?_)
  rw [hd, hc]
  exact wpAny_pure q
end
section
variable {C : Cx} {n : Nat} {X : Addr → Led → Prop} {env : Env} {led : Led}
theorem sub_list_module : isSubtype (.type "list") (.type "module") = pure false := by rw [isSubtype_type]; kernel_rfl
theorem va_append : Manifest.varargsMethods.contains "list.append" = false := by decide +kernel
theorem checkB_append {M : Model} {A : Around} {E : Value → Shared → Prop} {s : Shared} {l : Addr} {x : Value} {xs : List Value} {k : Nat} {Q : Unit → Shared → Prop} (ho : s.heap.get? l = some (lstO xs k)) (h : Q () s) : wpAny M A (checkBoundCall "list.append" ⟨[.ref l, x], []⟩) Q E s := by
  have hT : s.TypeIs (.ref l) "list" := ⟨_, ho, rfl⟩
  obtain ⟨hp, g, d, tk, os⟩ := s
  unfold checkBoundCall
  repeat (any_goals (first | assumption | wp_step))
  rw [sub_list_module]
  refine wpAny_pure ?_
  rw [va_append]
  simp only [Bool.or_false, Bool.false_eq_true, if_false]
  unfold isType
  refine wpAny_bind (wpAny_bind (wpAny_loadPart ho (wpAny_pure ?_)))
  simp only [lstO, Bool.false_eq_true, if_false]
  refine wpAny_bind (wpAny_typeOf hT ?_)
  have e : Bind.checkArgs "list.append" { machinery := Manifest.Machinery.oneArg, full := toString (Bind.lastOf "list") ++ toString "." ++ toString (Bind.lastOf "list.append"), short := "append", receiver := Manifest.Receiver.self, params := [{ name := "object", kind := Manifest.ParamKind.posOnly, required := true }] } { pos := [Value.ref l, x] } = pure () := by
    first | rfl | kernel_rfl
  show wpAny M A (Bind.checkArgs "list.append" _ _) _ _ _
  rw [e]
  exact wpAny_pure h
theorem plain_append : plainId "list.append" = true := F.slot_list_append.plain
theorem wc_bnd {b l : Addr} {vs : List V} {w : V} {led' : Led} {Q : V → Led → Prop} (hb : (b, AO.obj (bndO l)) ∈ led) (U : Up l (.list vs) (.list (vs ++ [w])) led led') (hz : vs.length ≤ sizeLine) (h : Q .none led') : WC C n X (.ref b) [w] [] led Q := fun A Φ s fx xs ks hA S hf hp hk => by
  obtain ⟨y, rfl, hy⟩ := vrs1 hp
  rw [wv_val hf, ves0 hk]
  obtain ⟨ob, hob, rfl, _⟩ := S.at hb
  obtain ⟨o, ho, ys, k, rfl, hv⟩ := S.at U.mem
  refine wpAny_call (codeAny_of_tree ?_)
  rw [Around.under_plain rfl rfl]
  show wpAny _ _ (callAny (.ref b) ⟨[y], []⟩) _ _ s
  unfold callAny
  refine wpAny_bind (wpAny_load hob ?_)
  show wpAny _ _ (checkBoundCall "list.append" ⟨[.ref l, y], []⟩ >>= fun _ => again (.builtin "list.append" ⟨[.ref l, y], []⟩)) _ _ s
  refine wpAny_bind (checkB_append ho (wpAny_pure ⟨plainId_quiet plain_append _, codeAny_builtin F.entry_list_append ?_⟩))
  rw [Around.under_plainId plain_append _]
  obtain ⟨k', hk'⟩ := setSeq ho (fun x => x.push y)
  refine PySem.list_append l ys.toArray k y (by rw [List.size_toArray, hv.length]; exact hz) C.prog C.w A (wants (Post C Φ (RV C) Q) (EPost C Φ X)) s ⟨ho, ?_⟩
  exact ⟨Φ, .none, led', Le.refl _, S.toSat0.up1 U (Heap.SameBut.update ..).extBut hk' ⟨ys ++ [y], k', by simp [lstO], VRs.append hv (VRs.cons hy VRs.nil)⟩, vnone, h⟩
end
section
variable {C : Cx} {n : Nat} {X : Addr → Led → Prop} {env : Env} {led : Led}
noncomputable def WK (C : Cx) (n : Nat) (X : Addr → Led → Prop) (f : V) (pos : List V) (kw : Kw) (led : Led) (Q : V → Led → Prop) : Prop :=
  ∀ A Φ s fx xs ks, Room n A → Sat C Φ led s → VR C Φ f fx → VRs C Φ pos xs → VEs C Φ kw ks → codeAny C.M A (.call fx ⟨xs, ks⟩) (wants (Post C Φ (RV C) Q) (EPost C Φ X)) s
theorem WK.wc {f : V} {pos : List V} {kw : Kw} {Q : V → Led → Prop} (h : WK C n X f pos kw led Q) : WC C n X f pos kw led Q := fun A Φ s fx xs ks hA S hf hp hk => wpAny_call (h A Φ s fx xs ks hA S hf hp hk)
theorem wk_code {fa : Addr} {fd : FuncData} {body : List Stmt} {pos : List V} {kw : Kw} {binds : List (Str × V)} {Q : V → Led → Prop}
    (ho : ∀ Φ s, Sat C Φ led s → ∃ o, s.heap.get? fa = some o ∧ o.data = .func fd) (hb : fd.body = .stmts body) (hcd : ∀ Φ s, Sat C Φ led s → s.heap.CodeRec fd.code fd.qualname) (hlim : C.base.NoLimit) (hbind : BindOk C fd pos kw binds)
    (h : ∀ L, WCells fd.scope.names fd.closure ((L, .frame []) :: led) fun cells led1 => WStores C n NoX (fenv fd fa L cells) binds led1 fun led2 => WS C n NoX (fenv fd fa L cells) body led2 fun f led3 => Q (retV f) led3)
    (hco : fd.scope.isCoroutine = false := by rfl) (hgen : fd.scope.isGenerator = false := by rfl) : WK C (n + 1) X (.ref fa) pos kw led Q := fun A Φ s fx xs ks hA S hf hp hk => by
  rw [wv_val hf]
  obtain ⟨o, ho, hd⟩ := ho Φ s S
  refine codeAny_call_function hA.lt ho hd hco hgen hb (hcd Φ s S) ?_
  refine hbind A.in1 Φ led s xs ks _ _ S hp hk fun bs hbs => ?_
  refine wp_newEnv (n := n) (K := fun env led2 => WS C n NoX env body led2 fun f led3 => Q (retV f) led3) hA.in1 S hbs h (fun Φ1 env led1 s1 h1 S1 k1 => ⟨hlim.keeps fun b o e => S1.keep e, ?_⟩)
  refine codeAny_func (wpThen S1.tk (k1 (A.deeper env) Φ1 s1 (hA.deeper env) S1) (fun f Φ2 fv led2 s2 h2 S2 r2 q2 => ?_) fun _ _ e => e.no.elim)
  cases fv with
  | next => cases r2; exact ⟨Φ2, .none, led2, h1.trans h2, S2.toSat0, vnone, q2⟩
  | brk => cases r2; exact ⟨Φ2, .none, led2, h1.trans h2, S2.toSat0, vnone, q2⟩
  | cont => cases r2; exact ⟨Φ2, .none, led2, h1.trans h2, S2.toSat0, vnone, q2⟩
  | ret v => obtain ⟨x, rfl, hx⟩ := r2; exact ⟨Φ2, v, led2, h1.trans h2, S2.toSat0, hx, q2⟩
theorem wk_def {fa : Addr} {o : Obj} {fd : FuncData} {body : List Stmt} {pos : List V} {kw : Kw} {binds : List (Str × V)} {Q : V → Led → Prop}
    (ho : C.base.get? fa = some o) (hd : o.data = .func fd) (hb : fd.body = .stmts body) (hcd : C.base.CodeRec fd.code fd.qualname) (hlim : C.base.NoLimit) (hbind : BindOk C fd pos kw binds)
    (h : ∀ L, WCells fd.scope.names fd.closure ((L, .frame []) :: led) fun cells led1 => WStores C n NoX (fenv fd fa L cells) binds led1 fun led2 => WS C n NoX (fenv fd fa L cells) body led2 fun f led3 => Q (retV f) led3)
    (hco : fd.scope.isCoroutine = false := by rfl) (hgen : fd.scope.isGenerator = false := by rfl) : WK C (n + 1) X (.ref fa) pos kw led Q :=
  wk_code (fun _ _ S => ⟨o, S.keep ho, hd⟩) hb (fun _ _ S => hcd.keeps fun b o e => S.keep e) hlim hbind h hco hgen
theorem wk_meth {m f x : Addr} {pos : List V} {kw : Kw} {Q : V → Led → Prop} (hm : (m, AO.obj (methodObj (.ref f) (.ref x))) ∈ led) (h : WK C n X (.ref f) (.ref x :: pos) kw led Q) : WK C n X (.ref m) pos kw led Q := fun A Φ s fx xs ks hA S hf hp hk => by
  rw [wv_val hf]
  obtain ⟨o, ho, rfl, _⟩ := S.at hm
  exact method_call ho (h A Φ s _ _ ks hA S vval (VRs.cons vval hp) hk)
theorem kept_meth {m f x : Addr} {of : Obj} {fd : FuncData} (hm : (m, AO.obj (methodObj (.ref f) (.ref x))) ∈ led) (ho : C.base.get? f = some of) (hd : of.data = .func fd) : Kept C (.ref m) led := fun Φ s fx S hx => by
  rw [wv_val hx]
  obtain ⟨o', ho', rfl, _⟩ := S.at hm
  refine ⟨.boundFrame, fun A Q E s' hk q => ?_⟩
  unfold keeperOf
  refine wpAny_bind (wpAny_load (hk _ _ ho') ?_)
  show wpAny _ _ (if (Value.type "method" != Value.type "method") = true then _ else _) _ _ _
  rw [if_neg (by decide)]
  show wpAny _ _ (load f >>= _) _ _ _
  refine wpAny_bind (wpAny_load (hk _ _ (S.keep ho)) ?_)
  rw [hd]
  exact wpAny_pure q
end
section
variable {C : Cx} {n : Nat} {X : Addr → Led → Prop} {env : Env} {led : Led}
theorem get_freed {h : Heap} {a : Addr} {o : Obj} (e : h.get? a = some o) : o.isFreed = false := (Heap.get?_some_iff.mp e).2
theorem Sat0.adopt {Φ : PH} {s : Shared} {a : Addr} {o : Obj} {ao : AO} (S : Sat0 C Φ led s) (h : s.heap.get? a = some o) (hΦ : Φ a = none) (hn : a ∉ led.map (·.1)) (hok : OOk C Φ o ao) (hs : sysModules ≠ a) : Sat0 C Φ ((a, ao) :: led) s :=
  ⟨S.base, S.sub, by rw [List.map_cons]; exact List.nodup_cons.mpr ⟨hn, S.nd⟩, fun p hp => (List.mem_cons.mp hp).elim (fun e => by rw [e]; exact hΦ) (S.off p),
    fun p hp => (List.mem_cons.mp hp).elim (fun e => by rw [e]; exact ⟨o, h, hok⟩) (S.ok p), S.gens, S.os, S.sysm.1, by rw [List.map_cons]; exact fun q => (List.mem_cons.mp q).elim hs S.sysm.2⟩
theorem Sat0.none_ge {Φ : PH} {s : Shared} {a : Addr} (S : Sat0 C Φ led s) (h : s.heap.objs.size ≤ a) : Φ a = none := by
  cases e : Φ a with
  | none => rfl
  | some o => exact absurd (Heap.lt_size (S.sub _ _ e)) (Nat.not_lt.mpr h)
theorem Sat0.not_ge {Φ : PH} {s : Shared} {a : Addr} (S : Sat0 C Φ led s) (h : s.heap.objs.size ≤ a) : a ∉ led.map (·.1) := fun hm => by
  obtain ⟨p, hp, e⟩ := List.mem_map.mp hm
  obtain ⟨o, ho, _⟩ := S.ok p hp
  rw [e] at ho
  exact absurd (Heap.lt_size ho) (Nat.not_lt.mpr h)
section
variable {p : Program} {loose : List Str} {mean : ExcName → Option Value} {mg mb : Str → Option Value} {params : Arguments} {body : Expr} {scope : Scope} {pos : Pos} {clos : List (Str × Addr)} {c P : Addr} {ps : Array Value} {Q : V → Led → Prop}
theorem bmain_at {Φ : PH} {s : Shared} (S : Sat0 C Φ led s) (T : Top p loose mean mg mb C.base) (hP : (P, AO.obj (tabObj ps)) ∈ led) : s.heap.Ns mainGlobals mg ∧ mainGlobals ≠ P ∧ s.heap.BuiltinsAt mg P := by
  have hgs := T.g.keeps fun b o e => S.keep e
  obtain ⟨oP, hoP, rfl, _⟩ := S.at hP
  obtain ⟨bm, ob, b1, b2, b3, b4, b5, b6⟩ := T.bmain
  have hgP : mainGlobals ≠ P := fun q => by
    obtain ⟨o, es, ep, e, hd, _⟩ := hgs
    rw [q, hoP] at e; cases e; cases hd
  have hbP : bm ≠ P := fun q => by
    have e := S.keep b3
    rw [q, hoP] at e; cases e; cases b4
  have hbG : bm ≠ mainGlobals := fun q => by
    obtain ⟨o, es, ep, e, hd, _⟩ := T.g
    rw [q, e] at b3; cases b3; rw [hd] at b6; cases b6
  exact ⟨hgs, hgP, bm, ob, b1, b2, hbG, hbP, S.keep b3, b4, b5, b6⟩
theorem we_lam_new {led' : Addr → Led} (T : Top p loose mean mg mb C.base) (hd : CodeHd C.base c P) (hdef : defaultsOf params env = ([], [])) (hge : env.globals = mainGlobals) (hcode : env.code = .ref c) (hcl : closureFor scope env = pure clos)
    (U : ∀ c', Up P (.obj (tabObj ps)) (.obj (tabObj (ps ++ #[rawInt pos.line, rawInt pos.col, .ref c']))) led (led' c')) (ht : TriplesOk ps.toList) (hnf : codeAmong pos ps.toList = none)
    (h : ∀ f c' oc vs t ctv, oc.data = .fields vs → vs[1]? = some (.str (env.qual ++ "<lambda>") t) → Q (.ref f) ((f, .obj (kla_obj "<lambda>" (env.qual ++ "<lambda>") params body scope clos ((mg "__name__").getD .none) c' ctv)) :: (c', .obj oc) :: led' c')) :
    WE C n X env (.Lambda params body scope pos) led Q := fun A Φ s hA S => by
  have hP := (U 0).mem
  obtain ⟨hgs, hgP, hB⟩ := bmain_at S.toSat0 T hP
  obtain ⟨oP, hoP, rfl, _⟩ := S.at hP
  refine kla_eval hdef (kla_makeFunction (mg := mg) hcl hge hgs hcode (hd.keeps fun b o e => S.keep e) hoP ht hnf hgP hB fun c' ctv h' tk hx hge' hlt hrec htb => ?_)
  obtain ⟨c₂, oc, vs, t, e2, hoc, hdd, hv⟩ := hrec
  cases e2
  have S1 : Sat0 C Φ (led' c') { s with heap := h', toks := tk } := S.toSat0.up1 (U c') hx htb ⟨rfl, rfl⟩
  have S2 : Sat0 C Φ ((c', .obj oc) :: led' c') { s with heap := h', toks := tk } := S1.adopt hoc (S.toSat0.none_ge hge') (by rw [(U c').keys]; exact S.toSat0.not_ge hge') ⟨rfl, get_freed hoc⟩ (Nat.ne_of_lt (Nat.lt_of_lt_of_le S.toSat0.big hge'))
  have S3 := S2.alloc (o := kla_obj "<lambda>" (env.qual ++ "<lambda>") params body scope clos ((mg "__name__").getD .none) c' ctv) (ao := .obj (kla_obj "<lambda>" (env.qual ++ "<lambda>") params body scope clos ((mg "__name__").getD .none) c' ctv)) rfl ⟨rfl, rfl⟩
  exact ⟨Φ, _, _, Le.refl _, S3, vval, h _ _ _ _ _ _ hdd hv⟩
theorem we_lam_hit {c' : Addr} (T : Top p loose mean mg mb C.base) (hd : CodeHd C.base c P) (hdef : defaultsOf params env = ([], [])) (hge : env.globals = mainGlobals) (hcode : env.code = .ref c) (hcl : closureFor scope env = pure clos)
    (hP : (P, AO.obj (tabObj ps)) ∈ led) (ht : TriplesOk ps.toList) (hf : codeAmong pos ps.toList = some (.ref c'))
    (h : ∀ f ctv, Q (.ref f) ((f, .obj (kla_obj "<lambda>" (env.qual ++ "<lambda>") params body scope clos ((mg "__name__").getD .none) c' ctv)) :: led)) :
    WE C n X env (.Lambda params body scope pos) led Q := fun A Φ s hA S => by
  obtain ⟨hgs, hgP, hB⟩ := bmain_at S.toSat0 T hP
  obtain ⟨oP, hoP, rfl, _⟩ := S.at hP
  refine kla_eval hdef (kla_makeFunctionHit (mg := mg) hcl hge hgs hcode (hd.keeps fun b o e => S.keep e) hoP ht hf hB fun ctv h' tk hk hsz => ?_)
  have S1 : Sat0 C Φ led { s with heap := h', toks := tk } := S.toSat0.ext hk rfl rfl
  have S3 := S1.alloc (o := kla_obj "<lambda>" (env.qual ++ "<lambda>") params body scope clos ((mg "__name__").getD .none) c' ctv) (ao := .obj (kla_obj "<lambda>" (env.qual ++ "<lambda>") params body scope clos ((mg "__name__").getD .none) c' ctv)) rfl ⟨rfl, rfl⟩
  exact ⟨Φ, _, _, Le.refl _, S3, vval, h _ _⟩
theorem wc_lamL {f c' : Addr} {name qual : Str} {pm ctv : Value} {oc : Obj} {vs : Array Value} {t : Tok} {ps' : List V} {kw : Kw} {binds : List (Str × V)} (hf : (f, AO.obj (kla_obj name qual params body scope clos pm c' ctv)) ∈ led) (hc : (c', AO.obj oc) ∈ led) (hd : oc.data = .fields vs) (hv : vs[1]? = some (.str qual t))
    (hlim : C.base.NoLimit) (hbind : BindOk C (kla_fn name qual params body scope clos pm (.ref c') ctv) ps' kw binds)
    (h : ∀ L, WCells scope.names clos ((L, .frame []) :: led) fun cells led1 => WStores C n NoX (fenv (kla_fn name qual params body scope clos pm (.ref c') ctv) f L cells) binds led1 fun led2 => WE C n NoX (fenv (kla_fn name qual params body scope clos pm (.ref c') ctv) f L cells) body led2 Q)
    (hco : scope.isCoroutine = false := by rfl) (hgen : scope.isGenerator = false := by rfl) : WC C (n + 1) X (.ref f) ps' kw led Q :=
  wc_lam (fd := kla_fn name qual params body scope clos pm (.ref c') ctv) (fun Φ s S => by obtain ⟨o, ho, rfl, _⟩ := S.at hf; exact ⟨_, ho, rfl⟩) rfl (fun Φ s S => by obtain ⟨o, ho, rfl, _⟩ := S.at hc; exact ⟨c', _, vs, t, rfl, ho, hd, hv⟩) hlim hbind h hco hgen
end
end
section
variable {C : Cx} {n : Nat} {X : Addr → Led → Prop} {env : Env} {led : Led}
section
variable {elt t1 i1 t2 i2 : Expr} {ifs1 ifs2 : List Expr} {scope : Scope} {pos : Pos}
noncomputable abbrev two (elt t1 i1 t2 i2 : Expr) (ifs1 ifs2 : List Expr) (scope : Scope) (pos : Pos) : Expr := .ListComp elt [⟨t1, i1, ifs1, 0⟩, ⟨t2, i2, ifs2, 0⟩] scope pos
noncomputable def emit2 (elt t1 i1 t2 i2 : Expr) (ifs1 ifs2 : List Expr) (scope : Scope) (pos : Pos) (acc : Value) (env : Env) : Sem Unit :=
  eval i2 env >>= fun x => standAt i2.pos >>= fun _ => foldedSetIterable i2 env x >>= fun x => holding [x] (pyIter x) >>= fun it => runOwn (.compStart (two elt t1 i1 t2 i2 ifs1 ifs2 scope pos) 1 it acc env) env >>= fun _ => pure ()
theorem compTurn_two0 (it acc : Value) (env : Env) : compTurn (two elt t1 i1 t2 i2 ifs1 ifs2 scope pos) 0 it acc env = (standAt i1.pos >>= fun _ => pyNext it >>= fun r => match r with
      | none => pure (.done .next)
      | some v => letOwnedTupleGo t1 it v >>= fun _ => assign t1 env v >>= fun _ => testsTree ifs1 env true >>= fun ok =>
        (if ok = true then emit2 elt t1 i1 t2 i2 ifs1 ifs2 scope pos acc env >>= fun _ => again (.compLoop (two elt t1 i1 t2 i2 ifs1 ifs2 scope pos) 0 it acc env) else again (.compLoop (two elt t1 i1 t2 i2 ifs1 ifs2 scope pos) 0 it acc env))) := by
  unfold emit2
  simp only [bind_assoc, pure_bind]
  rfl
theorem compTurn_two1 (it acc : Value) (env : Env) : compTurn (two elt t1 i1 t2 i2 ifs1 ifs2 scope pos) 1 it acc env = (standAt i2.pos >>= fun _ => pyNext it >>= fun r => match r with
      | none => pure (.done .next)
      | some v => letOwnedTupleGo t2 it v >>= fun _ => assign t2 env v >>= fun _ => testsTree ifs2 env true >>= fun ok =>
        (if ok = true then (do let _ ← call (.builtin "list.append") [acc, ← eval elt env]) >>= fun _ => again (.compLoop (two elt t1 i1 t2 i2 ifs1 ifs2 scope pos) 1 it acc env) else again (.compLoop (two elt t1 i1 t2 i2 ifs1 ifs2 scope pos) 1 it acc env))) := by
  rfl
theorem codeAny_compStart_two {A : Around} {R : Result → Shared → Prop} {s : Shared} {prog : Program} {w : World} {it acc : Value}
    (h0 : codeAny (model prog w) A (.compLoop (two elt t1 i1 t2 i2 ifs1 ifs2 scope pos) 1 it acc env) R s)
    (h : wpAny (model prog w) A (pyIter it) (fun it' s' => codeAny (model prog w) A (.compLoop (two elt t1 i1 t2 i2 ifs1 ifs2 scope pos) 1 it' acc env) R s')
      (notedBy (model prog w) A env fun x s' => R (.error x) s') s) :
    codeAny (model prog w) A (.compStart (two elt t1 i1 t2 i2 ifs1 ifs2 scope pos) 1 it acc env) R s := by
  refine codeAny_of_tree ?_
  show wpAny _ _ ((compStart (two elt t1 i1 t2 i2 ifs1 ifs2 scope pos) 1 it acc env).onRaise (fun x => do noteFrame x env; standAt theWindowsPlace)) _ _ s
  refine wpAny_notedAt ?_
  unfold compStart
  show wpAny _ _ (ask >>= _) _ _ s
  refine wpAny_bind (wpAny_askSetting (wpAny_ite ?_))
  split
  · first
      | exact wpAny_bind (wpAny_pure (wpAny_pure (And.intro rfl h0)))
      | exact wpAny_pure (And.intro rfl h0)
  · first
      | exact wpAny_bind (wpAny_rule (wpAny_bind (wpAny_standAt (wpAny_bind (wpAny_mono h (fun it' s' h' => wpAny_pure (And.intro rfl h')) fun _ _ x => x)))))
      | (refine wpAny_bind (wpAny_rule ?_); show wpAny _ _ (standAt i2.pos >>= _) _ _ s; exact wpAny_bind (wpAny_standAt (wpAny_bind (wpAny_mono h (fun it' s' h' => wpAny_pure (And.intro rfl h')) fun _ _ x => x))))
noncomputable def em2 (C : Cx) (n : Nat) (elt t2 i2 : Expr) (ifs2 : List Expr) (acc : Addr) (cenv : Env) (led : Led) (K : Led → Prop) : Prop :=
  WE C n NoX cenv i2 led fun v led1 => ∃ items lean, IterO C led1 v items lean ∧ lean led1 ∧ WGenO C n cenv t2 ifs2 (emL C n elt acc cenv) lean items led1 K
theorem em2_w {acc : Addr} {cenv : Env} {K : Led → Prop} (hs : ∀ x, foldedSetIterable i2 cenv x = pure x) (hin : em2 C n elt t2 i2 ifs2 acc cenv led K) : W C n NoX RU (emit2 elt t1 i1 t2 i2 ifs1 ifs2 scope pos (.ref acc) cenv) led fun _ led' => K led' := by
  intro A Φ s hA S
  refine wpAny_bind (wpThen S.tk (hin A Φ s hA S) (fun x Φ1 v led1 s1 h1 S1 r1 q1 => ?_) fun _ _ e => e)
  obtain ⟨items, lean, hit, hl1, hw⟩ := q1
  refine wpAny_bind (wpAny_standAt ?_)
  rw [hs x]
  refine wpAny_bind (wpAny_pure ?_)
  refine wpAny_bind (wpAny_holding (hit A Φ1 s1 x _ _ hA.handled S1 r1 (fun I s2 S2 hI hIl src => ?_)))
  refine wpAny_bind (wpAny_runOwn ?_)
  have src2 := src A hA.handled
  have key : ∀ R : Result → Shared → Prop, (∀ Φ' led' s', Le Φ1 Φ' → Sat C Φ' led' s' → K led' → R (.ok .next) s') → codeAny C.M A (.compLoop (two elt t1 i1 t2 i2 ifs1 ifs2 scope pos) 1 (.ref I) (.ref acc) cenv) R s2 := fun R hR =>
    code_genO (inner := emL C n elt acc cenv) hA (compTurn_two1 _ _ _) rfl (under0 rfl rfl) (fun led K hin => emL_w hin) hR S2 hI hIl src2 hw
  refine codeAny_compStart_two (key _ ?_) (src2.self (key _ ?_))
  all_goals exact fun Φ' led' s' hle S' q => wpAny_pure ⟨Φ', (), led', h1.trans hle, S'.toSat0, trivial, q⟩
theorem we_lcomp2 {cl : List (Str × Addr)} {Q : V → Led → Prop}
    (h : WE C n X env i1 led fun v led1 => ∃ items lean, IterO C led1 v items lean ∧ lean led1 ∧ ∀ acc L, WCells scope.names cl ((L, .frame []) :: (acc, .list []) :: led1) fun cells led2 =>
      WGenO C n (cenvOf scope env L cells) t1 ifs1 (em2 C n elt t2 i2 ifs2 acc (cenvOf scope env L cells)) lean items led2 fun led3 => ∃ loc led4, Rm L (.frame loc) led3 led4 ∧ Q (.ref acc) led4)
    (hs2 : ∀ env x, foldedSetIterable i2 env x = pure x := by intro _ _; rfl)
    (hclos : closureFor scope env = pure cl := by rfl) (hs : ∀ x, foldedSetIterable i1 env x = pure x := by intro _; rfl) (hkind : scope.kind = .function := by rfl) (hnames : ∀ x ∈ scope.names, x.2 = .local → scope.names.lookup x.1 = some .local := by decide) :
    WE C n X env (.ListComp elt [⟨t1, i1, ifs1, 0⟩, ⟨t2, i2, ifs2, 0⟩] scope pos) led Q := fun A Φ s hA S => by
  rw [eval_ListComp]
  refine wcompO (p := i1.pos) (K := fun acc L led3 => ∃ loc led4, Rm L (.frame loc) led3 led4 ∧ Q (.ref acc) led4) (newAcc := newList []) (oacc := lstO [] 0) (ao := .list []) (g := ⟨t1, i1, ifs1, 0⟩) (gs := [⟨t2, i2, ifs2, 0⟩]) (emit := fun acc cenv => emit2 elt t1 i1 t2 i2 ifs1 ifs2 scope pos acc cenv)
    (inner := em2 C n elt t2 i2 ifs2)
    hA S rfl hs hclos hkind hnames newList_acc rfl (fun Φ => ⟨[], 0, rfl, VRs.nil⟩) (fun I acc cenv => compTurn_two0 _ _ _) (fun _ _ _ => rfl) (fun _ _ _ => under0 rfl rfl) (fun I acc cenv R s h0 hit => codeAny_compStart_list h0 (hit _ _ h0)) (fun acc cenv led K hin => em2_w (hs2 _) hin) h (fun acc L Φ' led' s' h1 S1 q1 => ?_) (fun _ _ e => e)
  obtain ⟨loc, led5, U, q⟩ := q1
  exact post_none S1 U fun s'' S'' => ⟨Φ', .ref acc, led5, h1, S'', vval, q⟩
end
end
section
variable {C : Cx} {n : Nat} {X : Addr → Led → Prop} {env : Env} {led : Led}
theorem sub_str_module : isSubtype (.type "str") (.type "module") = pure false := by rw [isSubtype_type]; kernel_rfl
theorem va_join : Manifest.varargsMethods.contains "str.join" = false := by decide +kernel
theorem checkB_join {M : Model} {A : Around} {E : Value → Shared → Prop} {s : Shared} {t : Tok} {z : Str} {x : Value} {Q : Unit → Shared → Prop} (h : Q () s) : wpAny M A (checkBoundCall "str.join" ⟨[.str z t, x], []⟩) Q E s := by
  have hT : s.TypeIs (.str z t) "str" := typeIs_str _ _ _
  obtain ⟨hp, g, d, tk, os⟩ := s
  unfold checkBoundCall
  repeat (any_goals (first | assumption | wp_step))
  rw [sub_str_module]
  refine wpAny_pure ?_
  rw [va_join]
  simp only [Bool.or_false, Bool.false_eq_true, if_false]
  unfold isType
  refine wpAny_bind (wpAny_pure ?_)
  simp only [Bool.false_eq_true, if_false]
  refine wpAny_bind (wpAny_typeOf hT ?_)
  have e : Bind.checkArgs "str.join" { machinery := Manifest.Machinery.oneArg, full := toString (Bind.lastOf "str") ++ toString "." ++ toString (Bind.lastOf "str.join"), short := "join", receiver := Manifest.Receiver.self, params := [{ name := "iterable", kind := Manifest.ParamKind.posOnly, required := true }] } { pos := [Value.str z t, x] } = pure () := by
    first | rfl | kernel_rfl
  show wpAny M A (Bind.checkArgs "str.join" _ _) _ _ _
  rw [e]
  exact wpAny_pure h
noncomputable def bjO (t : Tok) : Obj := { cls := .type "builtin_function_or_method", data := .fields #[.builtin "str.join", .str Str.empty t] }
theorem plain_join : plainId "str.join" = true := F.slot_str_join.plain
theorem wc_bjoin {b : Addr} {t : Tok} {v : V} {ss : List Str} {Q : V → Led → Prop} (hb : C.base.get? b = some (bjO t)) (hv : ListV C led v (ss.map V.str)) (hz : (catAll ss).length ≤ sizeLine) (h : Q (.str (catAll ss)) led) : WC C n X (.ref b) [v] [] led Q := fun A Φ s fx xs ks hA S hf hp hk => by
  obtain ⟨y, rfl, hy⟩ := vrs1 hp
  rw [wv_val hf, ves0 hk]
  obtain ⟨a, ys, j, rfl, e, hr⟩ := hv Φ s y S hy
  obtain ⟨l, rfl, hl⟩ := vals_of hr
  refine wpAny_call (codeAny_of_tree ?_)
  rw [Around.under_plain rfl rfl]
  show wpAny _ _ (callAny (.ref b) ⟨[.ref a], []⟩) _ _ s
  unfold callAny
  refine wpAny_bind (wpAny_load (S.keep hb) ?_)
  show wpAny _ _ (checkBoundCall "str.join" ⟨[.str Str.empty t, .ref a], []⟩ >>= fun _ => again (.builtin "str.join" ⟨[.str Str.empty t, .ref a], []⟩)) _ _ s
  refine wpAny_bind (checkB_join (wpAny_pure ⟨plainId_quiet plain_join _, codeAny_builtin F.entry_str_join ?_⟩))
  rw [Around.under_plainId plain_join _]
  refine meets_str_join_list Str.empty t a l ?_ C.prog C.w A (wants (Post C Φ (RV C) Q) (EPost C Φ X)) s ⟨isList_of e, ?_⟩
  · rw [List.foldl_toArray, hl]
    rw [show (fun (x : Nat) (x_1 : Str) => x + x_1.length + Str.empty.length) = (fun acc s => acc + s.length + 0) from rfl, foldl_len]
    rw [catAll_length] at hz
    simp [Builtin.Str.tooLong]
    walk_at "om"
  · have : Builtin.Str.glued Str.empty (l.map (·.1)) = catAll ss := by rw [hl, glued_empty]
    match l, hl, this with
    | [], hl, this =>
      refine ⟨by rw [this]; exact hz, ?_⟩
      rw [this]; exact post (S.toks _) vstr h
    | [p], hl, this =>
      have e2 : catAll ss = p.1 := by rw [← hl]; simp [catAll]
      rw [e2] at h
      exact post S.toSat0 vstr h
    | p :: q :: r, hl, this =>
      refine ⟨by rw [this]; exact hz, ?_⟩
      rw [this]; exact post (S.toks _) vstr h
theorem kept_bjoin {b : Addr} {t : Tok} (hb : C.base.get? b = some (bjO t)) : Kept C (.ref b) led := fun Φ s fx S hx => by
  rw [wv_val hx]
  refine ⟨.machine, fun A Q E s' hk q => ?_⟩
  unfold keeperOf
  refine wpAny_bind (wpAny_load (hk _ _ (S.keep hb)) ?_)
  exact wpAny_pure q
end
section
variable {C : Cx} {n : Nat} {X : Addr → Led → Prop} {env : Env} {led : Led}
theorem units_kw (A : Around) (K : Addr) (vals : List Value) (kw : List (Str × Value)) : (A.under (.builtin "type.__call__" ⟨.ref K :: vals, kw⟩)).units = A.units + 1 := rfl
theorem Room.make {A : Around} (h : Room (n + 1) A) (K : Addr) (vals : List Value) (kw : List (Str × Value)) : Room n (A.under (.builtin "type.__call__" ⟨.ref K :: vals, kw⟩)) :=
  ⟨h.handled, by rw [depth_under_kw]; have := h.depth; walk_at "om", by rw [units_kw]; have := h.units; walk_at "om"⟩
theorem dobj_nil : DObj C emptyDict [] := ⟨⟨rfl, rfl, rfl⟩, #[], 0, rfl, fun _ he => by simp at he, Pairs.nil, List.nodup_nil⟩
theorem wc_make {Fg : Frag} {K fI : Addr} {pos : List V} {kw : Kw} {Q : V → Led → Prop} (c : Cls C Fg K) (hm : makesIn Fg K = true) (hi : findIn Fg (.ref K) "__init__" = some (some (.ref fI))) (hf : typeIn Fg (.ref fI) = some (.type "function"))
    (h : ∀ x dx, WK C n X (.ref fI) (.ref x :: pos) kw ((x, .obj (instObj K dx)) :: (dx, .dict []) :: led) fun v led' => v = .none ∧ Q (.ref x) led') : WC C (n + 1) X (.ref K) pos kw led Q := fun A Φ s fx xs ks hA S hf' hp hk => by
  rw [wv_val hf']
  have X0 : Fg.In s.heap := c.at S.toSat0
  have S1 := S.alloc (o := emptyDict) (ao := .dict []) rfl ⟨[], dobj_nil, by simp only [VEs]⟩
  have S2 := S1.alloc (o := instObj K s.heap.objs.size) (ao := .obj (instObj K s.heap.objs.size)) rfl ⟨rfl, rfl⟩
  have hz : (s.heap.push emptyDict).objs.size = s.heap.objs.size + 1 := Heap.size_push _ _
  obtain ⟨hh, g, d, t, os⟩ := s
  refine wpAny_call (make_core (makes_of X0 hm) (looks_findIn X0 hi) (fun self => bind_fn X0 self hf) (.inl rfl) ?_)
  have key := h (hh.push emptyDict).objs.size hh.objs.size (A.under (.builtin "type.__call__" ⟨.ref K :: xs, ks⟩)) Φ _ (.ref fI) (.ref (hh.push emptyDict).objs.size :: xs) ks (hA.make K xs ks) S2 vval (VRs.cons vval hp) hk
  have e : (hh.push emptyDict).objs.size = hh.objs.size + 1 := hz
  rw [e] at key
  refine codeAny_mono key fun r s' z => ?_
  rcases r with e | (v | _ | _ | _)
  · exact z
  all_goals first
    | exact z.elim
    | (obtain ⟨Φ', v', led', hle, S', hr, hv, hq⟩ := z
       subst hv
       exact ⟨wv_none hr, Φ', _, led', hle, S', vval, hq⟩)
end
section
variable {C : Cx} {n : Nat} {X : Addr → Led → Prop} {env : Env} {led : Led}
theorem wx_try {body : List Stmt} {h₀ : ExceptHandler} {hs : List ExceptHandler} {pos : Pos} {Q : F → Led → Prop} (h : WS C n NoX env body led Q) : WX C n X env (.Try body (h₀ :: hs) [] [] pos) led Q := fun A Φ s hA S => by
  refine wpAny_Try_except (wpThen S.tk (h A Φ s hA S) (fun f Φ1 fv led1 s1 h1 S1 r1 q1 => ?_) fun _ _ e => e.no.elim)
  have fin : Post C Φ (RF C) Q f s1 := ⟨Φ1, fv, led1, h1, S1.toSat0, r1, q1⟩
  cases f with
  | next => exact wpAny_pure fin
  | _ => exact fin
end
section
noncomputable def repL (c : Nat) (z : List Nat) (l : List Nat) : List Nat := l.flatMap fun k => if k = c then z else [k]
noncomputable def rep (c : Nat) (z x : Str) : Str := ⟨(repL c z.cps.toList x.cps.toList).toArray⟩
theorem repL_append (c : Nat) (z a b : List Nat) : repL c z (a ++ b) = repL c z a ++ repL c z b := by simp [repL]
theorem repL_free (c : Nat) (z : List Nat) : ∀ l : List Nat, c ∉ l → repL c z l = l
  | [], _ => rfl
  | k :: r, h => by
    have h1 : ¬ k = c := fun e => h (e ▸ List.mem_cons_self ..)
    have h2 : c ∉ r := fun m => h (List.mem_cons_of_mem _ m)
    have := repL_free c z r h2
    unfold repL at this ⊢
    rw [List.flatMap_cons, if_neg h1, this]; rfl
theorem repL_one (c : Nat) (z : List Nat) : repL c z [c] = z := by simp [repL]
theorem repL_join (c : Nat) (z : Str) : ∀ parts : List Str, (∀ p ∈ parts, c ∉ p.cps.toList) → repL c z.cps.toList (Str.join ⟨#[c]⟩ parts).cps.toList = (Str.join z parts).cps.toList
  | [], _ => rfl
  | [p], h => repL_free c _ _ (h p (List.mem_singleton.mpr rfl))
  | p :: q :: r, h => by
    have ih := repL_join c z (q :: r) fun a ha => h a (List.mem_cons_of_mem _ ha)
    show repL c z.cps.toList (p ++ ⟨#[c]⟩ ++ Str.join ⟨#[c]⟩ (q :: r)).cps.toList = (p ++ z ++ Str.join z (q :: r)).cps.toList
    simp only [Str.cps_append, Array.toList_append]
    rw [repL_append, repL_append, ih, repL_free c _ _ (h p (List.mem_cons_self ..))]
    show p.cps.toList ++ repL c z.cps.toList [c] ++ _ = _
    rw [repL_one]
theorem replace_rep (x z : Str) (c : Nat) : Txt.replace x ⟨#[c]⟩ z = rep c z x := by
  have h : (Txt.replace x ⟨#[c]⟩ z).cps.toList = repL c z.cps.toList x.cps.toList := by
    rw [StrLaws.replace_one, ← repL_join c z _ (StrLaws.split_free x c), StrLaws.join_split]
  unfold rep
  rw [← h]
theorem rep_free {x z : Str} {c : Nat} (h : c ∉ x.cps.toList) : rep c z x = x := by
  unfold rep
  rw [repL_free c _ _ h]
theorem rep_if {x y z : Str} {c : Nat} (hy : y = ⟨#[c]⟩) : (if (!(Builtin.Str.occurrences x y 0 x.length 1).isEmpty) = true then Txt.replace x y z else x) = rep c z x := by
  subst hy
  rw [StrLaws.found_one]
  by_cases h : c ∈ x.cps.toList
  · rw [if_pos (by simpa using h), replace_rep]
  · rw [if_neg (by simpa using h), rep_free h]
theorem repL_length (c : Nat) (z : List Nat) : ∀ l : List Nat, (repL c z l).length ≤ l.length * (z.length + 1)
  | [] => by simp [repL]
  | k :: r => by
    have := repL_length c z r
    unfold repL at this ⊢
    rw [List.flatMap_cons, List.length_append, List.length_cons]
    have : (if k = c then z else [k]).length ≤ z.length + 1 := by split <;> simp
    rw [Nat.add_mul]; walk_at "om"
theorem rep_length (c : Nat) (z x : Str) : (rep c z x).length ≤ x.length * (z.length + 1) := by
  have := repL_length c z.cps.toList x.cps.toList
  unfold rep
  show (List.toArray _).size ≤ x.cps.size * (z.cps.size + 1)
  simpa using this
end
section
variable {C : Cx} {n : Nat} {X : Addr → Led → Prop} {env : Env} {led : Led}
theorem code_at {K : Frag} {h : Heap} (X : K.In h) {c : Addr} {o : Obj} {vs : Array Value} {q : Str} {t : Tok} (e : K.lookup c = some o) (hd : o.data = .fields vs) (hv : vs[1]? = some (.str q t)) : h.CodeRec (.ref c) q := ⟨c, o, vs, t, rfl, X _ _ e, hd, hv⟩
theorem bind1 {fd : FuncData} {v : V} {a : Str} (h : ∀ y, bindArgs fd ⟨[y], []⟩ = pure [(a, y)]) : BindOk C fd [v] [] [(a, v)] := fun A Φ led s xs ks E Q S hp hk hq => by
  obtain ⟨y, rfl, hy⟩ := vrs1 hp
  rw [ves0 hk, h]
  exact wpAny_pure (hq _ (by simp only [VEs]; exact ⟨y, [], rfl, hy, rfl⟩))
theorem bind2 {fd : FuncData} {v w : V} {a b : Str} (h : ∀ y z, bindArgs fd ⟨[y, z], []⟩ = pure [(a, y), (b, z)]) : BindOk C fd [v, w] [] [(a, v), (b, w)] := fun A Φ led s xs ks E Q S hp hk hq => by
  obtain ⟨y, z, rfl, hy, hz⟩ := vrs2 hp
  rw [ves0 hk, h]
  exact wpAny_pure (hq _ (by simp only [VEs]; exact ⟨y, _, rfl, hy, z, [], rfl, hz, rfl⟩))
theorem bind3 {fd : FuncData} {v w u : V} {a b c : Str} (h : ∀ y z t, bindArgs fd ⟨[y, z, t], []⟩ = pure [(a, y), (b, z), (c, t)]) : BindOk C fd [v, w, u] [] [(a, v), (b, w), (c, u)] := fun A Φ led s xs ks E Q S hp hk hq => by
  obtain ⟨y, z, t, rfl, hy, hz, ht⟩ := vrs3 hp
  rw [ves0 hk, h]
  exact wpAny_pure (hq _ (by simp only [VEs]; exact ⟨y, _, rfl, hy, z, _, rfl, hz, t, [], rfl, ht, rfl⟩))
theorem wcells_id {K : List (Str × Addr) → Led → Prop} : ∀ {names : List (Str × NameKind)} {cells : List (Str × Addr)}, names.all (fun p => !(p.2 == NameKind.cell)) = true → K cells led → WCells names cells led K
  | [], _, _, k => k
  | (nm, kd) :: r, cells, h, k => by
    rw [List.all_cons, Bool.and_eq_true] at h
    unfold WCells
    have h1 : (kd == NameKind.cell) = false := by simpa using h.1
    rw [h1]
    exact wcells_id h.2 k
theorem Post.drop {α β : Type} {Φ : PH} {R : PH → β → α → Prop} {Q : β → Led → Prop} {a : α} {s : Shared} (h : Post C Φ R (fun b l => ∃ l', l'.Sublist l ∧ Q b l') a s) : Post C Φ R Q a s := by
  obtain ⟨Φ', b, l, h1, h2, h3, l', h4, h5⟩ := h
  exact ⟨Φ', b, l', h1, h2.drop h4, h3, h5⟩
theorem WK.dropQ {f : V} {pos : List V} {kw : Kw} {Q : V → Led → Prop} (h : WK C n X f pos kw led fun v l => ∃ l', l'.Sublist l ∧ Q v l') : WK C n X f pos kw led Q := fun A Φ s fx xs ks hA S hf hp hk =>
  codeAny_mono (h A Φ s fx xs ks hA S hf hp hk) fun r s' z => by
    rcases r with e | (v | _ | _ | _) <;> first | exact z | exact z.drop
theorem WE.dropQ {e : Expr} {Q : V → Led → Prop} (h : WE C n X env e led fun v l => ∃ l', l'.Sublist l ∧ Q v l') : WE C n X env e led Q := fun A Φ s hA S => wpAny_mono (h A Φ s hA S) (fun _ _ z => z.drop) fun _ _ z => z
theorem wst_nil {Q : Led → Prop} (h : Q led) : WStores C n X env [] led Q := h
theorem wst_cons {x : Str} {v : V} {r : List (Str × V)} {Q : Led → Prop} (h : W1 C n X RU (storeName env x) v led fun _ led1 => WStores C n X env r led1 Q) : WStores C n X env ((x, v) :: r) led Q := h
theorem wx_esc {nm rp : Str} {y z x : Str} {c : Nat} {r : Led} {k k2 k3 p1 p2 p3 p4 p7 p8 p9 p10 p11} {p5 p6 : Pos} {Q : F → Led → Prop} (hy : y = ⟨#[c]⟩) (hz : x.length + (x.length + 1) * z.length ≤ 16777216) (hr : rp = "replace")
    (h : Q .next ((env.locals, .frame [(nm, .str (rep c z x))]) :: r))
    (hk : env.scope.kind = .function := by rfl) (hl : env.kindOf nm = some .local := by rfl) (hd : (nm == ("__debug__" : Str)) = false := by decide) (hab : (y == z) = false := by decide)
    (hbase : attributeBase (.Name nm p5) rp env (eval (.Name nm p5) env) = eval (.Name nm p5) env := by rfl) (hline : (p6.endLine == p9.line) = true := by rfl)
    (hform : methodCallForm ([Expr.Constant (.str y) k2 p7, Expr.Constant (.str z) k3 p8].length + ([] : List Keyword).length) (backTo p9 (starEach [.Constant (.str y) k2 p7, .Constant (.str z) k3 p8] env)) (backToKw p9 (keywordEach [] env)) = true := by rfl)
    (hsw : swapsWith (.Call (.Attribute (.Name nm p5) rp p6) [.Constant (.str y) k2 p7, .Constant (.str z) k3 p8] [] p9) (some (.Name nm p4)) p10.line env = pure false := by kernel_rfl)
    (hp : (env.scope.kind == .class || (env.scope.kind == .module && env.locals != env.globals)) = false := by rfl) :
    WX C n X env (.If (.Compare (.Constant (.str y) k p1) [.In] [.Name nm p2] p3) [.Assign [.Name nm p4] (.Call (.Attribute (.Name nm p5) rp p6) [.Constant (.str y) k2 p7, .Constant (.str z) k3 p8] [] p9) p10] [] p11) ((env.locals, .frame [(nm, .str x)]) :: r) Q := by
  have hlk : ∀ v : V, ([(nm, v)] : List (Str × V)).lookup nm = some v := fun v => by simp [List.lookup]
  refine wx_if (wt_cmp (we_str (we_local List.mem_cons_self (hlk _) (wc_in_str (tr_bool ?_)) hk hl hd)) rfl)
  have e := rep_if (x := x) (z := z) hy
  cases hb : (!(Builtin.Str.occurrences x y 0 x.length 1).isEmpty) with
  | true =>
    rw [hb, if_pos rfl] at e
    simp only [kIf, if_true]
    refine ws_cons (wx_assign (we_replace hr (we_local List.mem_cons_self (hlk _) ⟨x, rfl, hz, ?_⟩ hk hl hd) hab hbase hline hform) hsw)
    refine wn_local .head ?_ hl hp
    refine ws_nil ?_
    have : setLoc [(nm, V.str x)] nm (.str (Txt.replace x y z)) = [(nm, .str (rep c z x))] := by simp [setLoc, e]
    rw [this]
    exact h
  | false =>
    rw [hb, if_neg (by decide)] at e
    simp only [kIf, Bool.false_eq_true, if_false]
    rw [← e] at h
    exact ws_nil h
end
section
open_top hd1 for (PySem.Challenge.rw_dr0132_01).row
theorem said_of (h : (PySem.Challenge.rw_dr0132_01).row.wellSaid = true) : OpenLaw.wellSaid PySem.Challenge.rw_dr0132_01 = true := by
  unfold OpenLaw.wellSaid
  rw [h]
  decide +kernel
theorem law_of (H : (PySem.Challenge.rw_dr0132_01).row.Holds) : (PySem.Challenge.rw_dr0132_01).Holds := ⟨said_of H.1, H⟩
end
section
structure Gr (C : Cx) : Prop where
  inn : (hd1.heap_1 C.w.params).In C.base
  lim : C.base.NoLimit
  top : ∃ p loose mean mg mb, Top p loose mean mg mb C.base
  cdS : CodeHd C.base 125 123
  cdL : CodeHd C.base 189 187
variable {C : Cx} {n : Nat} {X : Addr → Led → Prop} {env : Env} {led : Led}
theorem glob1 {x : Str} {v : Value} (G : Gr C) (e : nsIn (hd1.heap_1 C.w.params) mainGlobals x = some (some v)) : Glob C x v := by
  obtain ⟨p, loose, mean, mg, mb, T⟩ := G.top
  exact ⟨mg, T.g, mg_of G.inn T.g e⟩
theorem bltn1 {x : Str} {v : Value} (G : Gr C) (e : nsIn (hd1.heap_1 C.w.params) mainGlobals x = some none) (hv : bootBuiltins x = some v) (hn : x ≠ "__name__") : Bltn C x v := by
  obtain ⟨p, loose, mean, mg, mb, T⟩ := G.top
  exact ⟨mg, mb, T.g, ns_none_of G.inn T.g e, T.b, (T.builtins x hn).trans hv⟩
noncomputable def escC (t : Str) : Str := rep 13 "&#xD;" (rep 62 "&gt;" (rep 60 "&lt;" (rep 38 "&amp;" t)))
theorem rep_le {c : Nat} {z x : Str} {k m : Nat} (hz : z.length ≤ 6) (h : x.length ≤ k) (hm : k * 7 ≤ m) : (rep c z x).length ≤ m := by
  have := rep_length c z x
  have : x.length * (z.length + 1) ≤ k * 7 := Nat.mul_le_mul h (by walk_at "om")
  walk_at "om"
theorem rep_room {z x : Str} {k : Nat} (hz : z.length ≤ 6) (h : x.length ≤ k) (hk : k ≤ 2000000) : x.length + (x.length + 1) * z.length ≤ 16777216 := by
  have : (x.length + 1) * z.length ≤ (k + 1) * 6 := Nat.mul_le_mul (by walk_at "om") hz
  walk_at "om"
theorem esc_cdata {t : Str} {Q : V → Led → Prop} (G : Gr C) (hz : t.length ≤ 1000) (h : Q (.str (escC t)) led) : WK C (n + 1) X (.ref 161) [.str t] [] led Q := by
  refine WK.dropQ ?_
  refine wk_def (G.inn 161 _ rfl) rfl rfl (code_at G.inn rfl rfl rfl) G.lim (binds := [(Str.ofString "text", .str t)]) (bind1 fun y => rfl) fun L => ?_
  dsimp only [fenv]
  refine wcells_id rfl (wst_cons (wn_local .head (wst_nil ?_)))
  have h1 := rep_le (c := 38) (z := "&amp;") (x := t) (by decide) hz (Nat.le_refl _)
  have h2 := rep_le (c := 60) (z := "&lt;") (by decide) h1 (Nat.le_refl _)
  have h3 := rep_le (c := 62) (z := "&gt;") (by decide) h2 (Nat.le_refl _)
  refine ws_cons (wx_try (ws_cons (wx_esc (c := 38) rfl (rep_room (by decide) hz (by walk_at "om")) rfl ?_)))
  refine ws_cons (wx_esc (c := 60) rfl (rep_room (by decide) h1 (by walk_at "om")) rfl ?_)
  refine ws_cons (wx_esc (c := 62) rfl (rep_room (by decide) h2 (by walk_at "om")) rfl ?_)
  refine ws_cons (wx_esc (c := 13) rfl (rep_room (by decide) h3 (by walk_at "om")) rfl ?_)
  refine ws_cons (wx_ret (we_local List.mem_cons_self rfl ?_))
  exact ⟨led, List.sublist_cons_self _ _, h⟩
noncomputable def escA (t : Str) : Str := rep 13 "&#xD;" (rep 10 "&#xA;" (rep 9 "&#x9;" (rep 34 "&quot;" (rep 60 "&lt;" (rep 38 "&amp;" t)))))
theorem esc_attrib {t : Str} {Q : V → Led → Prop} (G : Gr C) (hz : t.length ≤ 100) (h : Q (.str (escA t)) led) : WK C (n + 1) X (.ref 168) [.str t] [] led Q := by
  refine WK.dropQ ?_
  refine wk_def (G.inn 168 _ rfl) rfl rfl (code_at G.inn rfl rfl rfl) G.lim (binds := [(Str.ofString "text", .str t)]) (bind1 fun y => rfl) fun L => ?_
  dsimp only [fenv]
  refine wcells_id rfl (wst_cons (wn_local .head (wst_nil ?_)))
  have h1 := rep_le (c := 38) (z := "&amp;") (x := t) (by decide) hz (Nat.le_refl _)
  have h2 := rep_le (c := 60) (z := "&lt;") (by decide) h1 (Nat.le_refl _)
  have h3 := rep_le (c := 34) (z := "&quot;") (by decide) h2 (Nat.le_refl _)
  have h4 := rep_le (c := 9) (z := "&#x9;") (by decide) h3 (Nat.le_refl _)
  have h5 := rep_le (c := 10) (z := "&#xA;") (by decide) h4 (Nat.le_refl _)
  refine ws_cons (wx_try (ws_cons (wx_esc (c := 38) rfl (rep_room (by decide) hz (by walk_at "om")) rfl ?_)))
  refine ws_cons (wx_esc (c := 60) rfl (rep_room (by decide) h1 (by walk_at "om")) rfl ?_)
  refine ws_cons (wx_esc (c := 34) rfl (rep_room (by decide) h2 (by walk_at "om")) rfl ?_)
  refine ws_cons (wx_esc (c := 9) rfl (rep_room (by decide) h3 (by walk_at "om")) rfl ?_)
  refine ws_cons (wx_esc (c := 10) rfl (rep_room (by decide) h4 (by walk_at "om")) rfl ?_)
  refine ws_cons (wx_esc (c := 13) rfl (rep_room (by decide) h5 (by walk_at "om")) rfl ?_)
  refine ws_cons (wx_ret (we_local List.mem_cons_self rfl ?_))
  exact ⟨led, List.sublist_cons_self _ _, h⟩
noncomputable def keyOf (uri name : Str) : Str := if uri == Str.ofString "" then name else Str.ofString "{" ++ uri ++ Str.ofString "}" ++ name
theorem law_key {u m : Str} {Q : V → Led → Prop} (G : Gr C) (hz : u.length + m.length ≤ 1000) (h : Q (.str (keyOf u m)) led) : WK C (n + 1) X (.ref 180) [.str u, .str m] [] led Q := by
  refine WK.dropQ ?_
  refine wk_def (G.inn 180 _ rfl) rfl rfl (code_at G.inn rfl rfl rfl) G.lim (binds := [(Str.ofString "uri", .str u), (Str.ofString "name", .str m)]) (bind2 fun y z => rfl) fun L => ?_
  dsimp only [fenv]
  refine wcells_id rfl (wst_cons (wn_local .head (wst_cons (wn_local .head (wst_nil ?_)))))
  refine ws_cons (wx_ret (we_ife (wt_cmp (we_local List.mem_cons_self rfl (we_str (wc_ne_str (tr_bool ?_)))))))
  have e0 : (Str.ofString "{" ++ u).length = u.length + 1 := by rw [Str.length_append, Nat.add_comm]; rfl
  have e1 : (Str.ofString "{" ++ u ++ Str.ofString "}").length = u.length + 2 := by rw [Str.length_append, e0]; rfl
  show (if (_ : Bool) = true then _ else _)
  split
  · rename_i hb
    have hb' : (u == Str.ofString "") = false := by simpa [bne] using hb
    refine we_bin (we_bin (we_bin (we_str (we_local List.mem_cons_self rfl (wb_cat (by rw [show (Str.ofString "{").length = 1 from rfl, sizeLine_eq]; walk_at "om") (we_str (wb_cat (by rw [e0, show (Str.ofString "}").length = 1 from rfl, sizeLine_eq]; walk_at "om") (we_local List.mem_cons_self rfl (wb_cat (by rw [e1, sizeLine_eq]; walk_at "om") ?_)))))))))
    refine ⟨led, List.sublist_cons_self _ _, ?_⟩
    unfold keyOf at h
    rw [hb', if_neg (by decide)] at h
    exact h
  · rename_i hb
    have hb' : (u == Str.ofString "") = true := by simpa [bne] using hb
    refine we_local List.mem_cons_self rfl ?_
    refine ⟨led, List.sublist_cons_self _ _, ?_⟩
    unfold keyOf at h
    rw [hb', if_pos rfl] at h
    exact h
end
section
variable {C : Cx} {n : Nat} {X : Addr → Led → Prop} {env : Env} {led : Led}
theorem wm_join {x : Str} {Q : V × List V → Led → Prop} (h : Q (.val (.builtin "str.join"), [.str x]) led) : WM C n X (Str.ofString "join") (.str x) led Q := wm_builtin ty_str F.plainAttrs_str F.slot_str_join F.type_str_join h
theorem wm_dget {v : V} {es : List (Str × V)} {Q : V × List V → Led → Prop} (hd : DictV C led v es) (h : Q (.val (.builtin "dict.get"), [v]) led) : WM C n X (Str.ofString "get") v led Q := wm_builtin (ty_dict hd) F.plainAttrs_dict F.slot_dict_get F.type_dict_get h
theorem wm_lappend {v : V} {vs : List V} {Q : V × List V → Led → Prop} (hd : ListV C led v vs) (h : Q (.val (.builtin "list.append"), [v]) led) : WM C n X (Str.ofString "append") v led Q := wm_builtin (ty_list hd) F.plainAttrs_list F.slot_list_append F.type_list_append h
noncomputable def refer (es : List (Str × V)) (sg : Str) : V := (es.lookup sg).getD (.str sg)
theorem refer_loop {cenv : Env} {tb sg : Str} {p p1 p2 p3 p4 p5 : Pos} {acc tc D : Addr} {es : List (Str × V)} {r : Led} {Q : Led → Prop}
    (hk : cenv.scope.kind = .function) (hs : cenv.kindOf sg = some .local) (ht : cenv.kindOf tb = some .cell) (hc : cenv.cells.lookup tb = some tc) (hm : (tc, AO.cell (some (.ref D))) ∈ r) (hD : (D, AO.dict es) ∈ r)
    (hds : (sg == ("__debug__" : Str)) = false) (hdt : (tb == ("__debug__" : Str)) = false) (hp : (cenv.scope.kind == .class || (cenv.scope.kind == .module && cenv.locals != cenv.globals)) = false) (hline : (p2.endLine == p5.line) = true)
    (hbase : attributeBase (.Name tb p1) (Str.ofString "get") cenv (eval (.Name tb p1) cenv) = eval (.Name tb p1) cenv) :
    ∀ (ss : List Str) (done : List V) (loc : List (Str × V)), done.length + ss.length ≤ 1000 → (∀ loc, Q ((cenv.locals, .frame loc) :: (acc, .list (done ++ ss.map (refer es))) :: r)) →
      WGenO C n cenv (.Name sg p) [] (emL C n (.Call (.Attribute (.Name tb p1) (Str.ofString "get") p2) [.Name sg p3, .Name sg p4] [] p5) acc cenv) noLean (ss.map V.str) ((cenv.locals, .frame loc) :: (acc, .list done) :: r) Q
  | [], done, loc, _, hq => ⟨trivial, by simpa using hq loc⟩
  | s :: ss, done, loc, hl, hq => by
    refine ⟨trivial, wa_name (wn_local .head ?_ hs hp)⟩
    show emL _ _ _ _ _ _ _
    have hlk : (setLoc loc sg (V.str s)).lookup sg = some (.str s) := by simp [setLoc, List.lookup]
    have hD' : ∀ l1 l2, (D, AO.dict es) ∈ (l1 :: l2 :: r : Led) := fun l1 l2 => .tail _ (.tail _ hD)
    refine we_mcall (we_cell hc (.tail _ (.tail _ hm)) (wm_dget (dv_own (hD' _ _)) (wa_cons (we_local List.mem_cons_self hlk (wa_cons (we_local List.mem_cons_self hlk (wa_nil (wall_nil ⟨kept_builtin, wc_get3 (dv_own (hD' _ _)) ?_⟩)) hk hs hds)) hk hs hds))) hk ht hdt) hbase hline
    refine wc_append (.tail .head) (by rw [sizeLine_eq]; simp at hl; walk_at "om") ?_
    refine refer_loop hk hs ht hc hm hD hds hdt hp hline hbase ss _ _ (by simp at hl ⊢; walk_at "om") fun loc' => ?_
    have := hq loc'
    rw [List.map_cons] at this
    rw [List.append_assoc]
    exact this
theorem law_refer {t : Str} {D : Addr} {es : List (Str × V)} {f : Str → Str} {Q : V → Led → Prop} (G : Gr C) (hz : (signs t).length ≤ 1000) (hD : (D, AO.dict es) ∈ led) (hf : ∀ s ∈ signs t, refer es s = .str (f s)) (hl : (catAll ((signs t).map f)).length ≤ sizeLine)
    (h : Q (.str (catAll ((signs t).map f))) led) : WK C (n + 1) X (.ref 185) [.str t, .ref D] [] led Q := by
  refine WK.dropQ ?_
  refine wk_def (G.inn 185 _ rfl) rfl rfl (code_at G.inn rfl rfl rfl) G.lim (binds := [(Str.ofString "text", .str t), (Str.ofString "table", .ref D)]) (bind2 fun y z => rfl) fun L => ?_
  dsimp only [fenv]
  show ∀ c, _
  intro c
  refine wst_cons (wn_local (.tail .head) (wst_cons (wn_cell rfl .head (wst_nil ?_))))
  have hcat : (signs t).map (refer es) = ((signs t).map f).map V.str := by
    rw [List.map_map]; exact List.map_congr_left fun s hs => hf s hs
  refine ws_cons ?_
  refine wx_ret (we_mcall ?_)
  refine we_str (wm_join (wa_cons ?_))
  refine we_lcompO (cl := [(Str.ofString "table", c)]) ?_ (hclos := ?_) (hs := ?_) (hkind := ?_) (hnames := ?_)
  rotate_left
  · kernel_rfl
  · intro x
    kernel_rfl
  · kernel_rfl
  · decide
  refine we_local (.tail _ (.head _)) rfl ?_ (hk := by kernel_rfl) (hl := by kernel_rfl)
  refine ⟨_, _, it_str.o, trivial, fun acc L' => wcells_id rfl ?_⟩
  refine refer_loop (r := (c, .cell (some (.ref D))) :: (L, .frame _) :: led) (tc := c) (D := D) (es := es) rfl rfl rfl rfl (.head _) (.tail _ (.tail _ hD)) (by decide) (by decide) rfl rfl rfl (signs t) [] [] (by simpa using hz) fun loc => ?_
  refine ⟨_, _, .head, wa_nil (wall_nil ⟨kept_builtin, wc_join (ss := (signs t).map f) (lv_own ?_) hl ?_⟩)⟩
  · rw [List.nil_append, hcat]; exact .head _
  · exact ⟨led, .cons _ (.cons _ (.cons _ (.refl _))), h⟩
end
section
variable {C : Cx} {n : Nat} {X : Addr → Led → Prop} {env : Env} {led : Led}
theorem cls1 (G : Gr C) : Cls C (hd1.heap_1 C.w.params) 150 := ⟨G.inn, by rfl, by rfl, by rfl, by rfl, by rfl⟩
theorem nf_data (C : Cx) : findIn (hd1.heap_1 C.w.params) (.ref 150) (Str.ofString "_data") = some none := by rfl
theorem makes1 (C : Cx) : makesIn (hd1.heap_1 C.w.params) 150 = true := by rfl
theorem Inst.cons {x K dx : Addr} {es : List (Str × V)} {p : Addr × AO} (i : Inst C led x K dx es) : Inst C (p :: led) x K dx es := let ⟨sl, a, b⟩ := i.ex; ⟨sl, .tail _ a, .tail _ b⟩
theorem nf_ign (C : Cx) : findIn (hd1.heap_1 C.w.params) (.ref 150) (Str.ofString "_ignored_depth") = some none := by rfl
theorem tr_int0 {Q : Bool → Led → Prop} (h : Q false led) : W1 C n X RB truthy (.int 0) led Q := tr_int h
theorem w_data {x dx dl : Addr} {es : List (Str × V)} {vs : List V} {t : Str} {led' : Led} {Q : V → Led → Prop} (G : Gr C) (i : Inst C led x 150 dx es) (hd : es.lookup (Str.ofString "_data") = some (.ref dl)) (hg : es.lookup (Str.ofString "_ignored_depth") = some (.int 0))
    (U : Up dl (.list vs) (.list (vs ++ [.str t])) led led') (hz : vs.length ≤ 1000) (h : Q .none led') : WK C (n + 1) X (.ref 97) [.ref x, .str t] [] led Q := by
  refine WK.dropQ ?_
  refine wk_def (G.inn 97 _ rfl) rfl rfl (code_at G.inn rfl rfl rfl) G.lim (binds := [(Str.ofString "self", .ref x), (Str.ofString "data", .str t)]) (bind2 fun y z => rfl) fun L => ?_
  dsimp only [fenv]
  refine wcells_id rfl (wst_cons (wn_local .head (wst_cons (wn_local .head (wst_nil ?_)))))
  refine ws_cons (wx_if (wt_not (wt_val (we_attr (we_local List.mem_cons_self rfl (ga_own (cls1 G) i.cons (nf_ign C) hg (fun _ e => by cases e) (tr_int0 ?_)))))))
  show WS _ _ _ _ _ _ _
  refine ws_cons (wx_expr (we_mcall (we_attr (we_local List.mem_cons_self rfl (ga_own (cls1 G) i.cons (nf_data C) hd (fun _ e => by cases e) (wm_lappend (lv_own (.tail _ U.mem)) (wa_cons (we_local List.mem_cons_self rfl (wa_nil (wall_nil ⟨kept_builtin, wc_append (.tail U) (by rw [sizeLine_eq]; walk_at "om") ?_⟩))))))))))
  exact ws_nil (ws_nil ⟨led', List.sublist_cons_self _ _, h⟩)
end
section
variable {C : Cx} {n : Nat} {X : Addr → Led → Prop} {env : Env} {led : Led}
theorem Up.right {a : Addr} {u v : AO} {l l' : Led} (h : Up a u v l l') : ∀ p : Led, Up a u v (p ++ l) (p ++ l')
  | [] => h
  | _ :: p => .tail (h.right p)
theorem Up.left {a : Addr} {u v : AO} {l l' : Led} (h : Up a u v l l') (r : Led) : Up a u v (l ++ r) (l' ++ r) := by
  induction h with
  | head => exact .head
  | tail _ ih => exact .tail ih
noncomputable def prV (p : Str × Str) : V := .tup [.str p.1, .str p.2]
noncomputable def ents (stk : List (Addr × List (Str × Str))) : Led := stk.map fun q => (q.1, .list (q.2.map prV))
theorem ents_append (a b : List (Addr × List (Str × Str))) : ents (a ++ b) = ents a ++ ents b := by simp [ents]
theorem Up.ent (stk : List (Addr × List (Str × Str))) (a : Addr) (l l' : List (Str × Str)) : Up a (.list (l.map prV)) (.list (l'.map prV)) (ents (stk ++ [(a, l)])) (ents (stk ++ [(a, l')])) := by
  rw [ents_append, ents_append]
  exact Up.right .head _
end
section
variable {C : Cx} {n : Nat} {X : Addr → Led → Prop} {env : Env} {led : Led}
theorem bindD {fd : FuncData} {pos : List V} {binds : List (Str × V)} {T : Addr} {o : Obj} {vs : Array Value} {m : Nat} (hT : C.base.get? T = some o) (ho : o.data = .seq vs m) (hd : fd.defaults = .ref T)
    (k : List Value → Option (Array Value) → Sem (List (Str × Value))) (h1 : ∀ xs, bindArgs fd ⟨xs, []⟩ = seqItems? fd.defaults >>= k xs)
    (h2 : ∀ Φ xs, VRs C Φ pos xs → ∃ bs, k xs (some vs) = pure bs ∧ VEs C Φ binds bs) : BindOk C fd pos [] binds := fun A Φ led s xs ks E Q S hp hk hq => by
  rw [ves0 hk, h1, hd]
  obtain ⟨bs, e, hb⟩ := h2 Φ xs hp
  unfold seqItems?
  refine wpAny_bind (wpAny_bind (wpAny_loadPart (S.keep hT) ?_))
  rw [ho]
  refine wpAny_pure ?_
  rw [e]
  exact wpAny_pure (hq bs hb)
theorem bindTo {fd : FuncData} {pos : List V} {kw : Kw} {binds : List (Str × V)} (h : ∀ Φ led s xs ks, Sat C Φ led s → VRs C Φ pos xs → VEs C Φ kw ks → ∃ bs, BindsTo s fd ⟨xs, ks⟩ bs ∧ VEs C Φ binds bs) : BindOk C fd pos kw binds := fun A Φ led s xs ks E Q S hp hk hq => by
  obtain ⟨bs, hb, hv⟩ := h Φ led s xs ks S hp hk
  exact hb _ _ _ _ (hq bs hv)
end
section
variable {C : Cx} {n : Nat} {X : Addr → Led → Prop} {env : Env} {led : Led}
section
variable {cenv : Env} {pr : Str} {p p' : Pos} {acc : Addr} {r : Led} {Q : Led → Prop} {lean : Led → Prop}
theorem pair_loop (hk : cenv.scope.kind = .function) (hs : cenv.kindOf pr = some .local) (hds : (pr == ("__debug__" : Str)) = false) (hp : (cenv.scope.kind == .class || (cenv.scope.kind == .module && cenv.locals != cenv.globals)) = false)
    (hl : ∀ l1 l2, lean (l1 :: l2 :: r)) : ∀ (vs : List V) (done : List V) (loc : List (Str × V)), done.length + vs.length ≤ 100000 → (∀ loc, Q ((cenv.locals, .frame loc) :: (acc, .list (done ++ vs)) :: r)) →
      WGenO C n cenv (.Name pr p) [] (emL C n (.Name pr p') acc cenv) lean vs ((cenv.locals, .frame loc) :: (acc, .list done) :: r) Q
  | [], done, loc, _, hq => ⟨hl _ _, by simpa using hq loc⟩
  | v :: vs, done, loc, hz, hq => by
    refine ⟨hl _ _, wa_name (wn_local .head ?_ hs hp)⟩
    show emL _ _ _ _ _ _ _
    have hlk : (setLoc loc pr v).lookup pr = some v := by simp [setLoc, List.lookup]
    refine we_local List.mem_cons_self hlk ?_ hk hs hds
    refine wc_append (.tail .head) (by rw [sizeLine_eq]; simp at hz; walk_at "om") ?_
    refine pair_loop hk hs hds hp hl vs _ _ (by simp at hz ⊢; walk_at "om") fun loc' => ?_
    rw [List.append_assoc]
    exact hq loc'
theorem pairs_loop {ps : Str} {q q' : Pos} (hk : cenv.scope.kind = .function) (hs : cenv.kindOf pr = some .local) (hds : (pr == ("__debug__" : Str)) = false) (hp : (cenv.scope.kind == .class || (cenv.scope.kind == .module && cenv.locals != cenv.globals)) = false)
    (hs2 : cenv.kindOf ps = some .local) (hds2 : (ps == ("__debug__" : Str)) = false) : ∀ (stk : List (Addr × List (Str × Str))) (done : List V) (loc : List (Str × V)), (∀ e ∈ ents stk, e ∈ r) → done.length + (stk.map fun e => e.2.length).sum ≤ 100000 →
      (∀ loc, Q ((cenv.locals, .frame loc) :: (acc, .list (done ++ stk.flatMap fun e => e.2.map prV)) :: r)) →
      WGenO C n cenv (.Name ps q) [] (em2 C n (.Name pr p') (.Name pr p) (.Name ps q') [] acc cenv) noLean (stk.map fun e => V.ref e.1) ((cenv.locals, .frame loc) :: (acc, .list done) :: r) Q
  | [], done, loc, _, _, hq => ⟨trivial, by simpa using hq loc⟩
  | e :: stk, done, loc, hm, hz, hq => by
    refine ⟨trivial, wa_name (wn_local .head ?_ hs2 hp)⟩
    show em2 _ _ _ _ _ _ _ _ _ _
    have hlk : (setLoc loc ps (V.ref e.1)).lookup ps = some (V.ref e.1) := by simp [setLoc, List.lookup]
    have he : (e.1, AO.list (e.2.map prV)) ∈ r := hm _ (by simp [ents])
    have hz' : done.length + (e.2.length + (stk.map fun e => e.2.length).sum) ≤ 100000 := by simpa using hz
    refine we_local List.mem_cons_self hlk ⟨_, _, it_own (.tail _ (.tail _ he)), .tail _ (.tail _ he), ?_⟩ hk hs2 hds2
    refine pair_loop hk hs hds hp (fun l1 l2 => .tail _ (.tail _ he)) _ _ _ (by simp; walk_at "om") fun loc' => ?_
    refine pairs_loop hk hs hds hp hs2 hds2 stk _ _ (fun x hx => hm x (by simp [ents] at hx ⊢; exact .inr hx)) (by simp; walk_at "om") fun loc'' => ?_
    rw [List.append_assoc]
    have := hq loc''
    rw [List.flatMap_cons] at this
    exact this
end
end
section
variable {C : Cx} {n : Nat} {X : Addr → Led → Prop} {env : Env} {led : Led}
noncomputable abbrev sStack : Str := Str.ofString "stack"
noncomputable abbrev sPairs : Str := Str.ofString "pairs"
noncomputable abbrev sPair : Str := Str.ofString "pair"
end
section
variable {C : Cx} {n : Nat} {X : Addr → Led → Prop} {env : Env} {led : Led}
noncomputable def nx (K : Led → Prop) (Q : F → Led → Prop) : F → Led → Prop := fun f l => match f with
  | .next => K l
  | f => Q f l
theorem nx_next {K : Led → Prop} {Q : F → Led → Prop} {l : Led} (h : K l) : nx K Q .next l := h
theorem nx_ret {K : Led → Prop} {Q : F → Led → Prop} {v : V} {l : Led} (h : Q (.ret v) l) : nx K Q (.ret v) l := h
theorem ws_cons' {st : Stmt} {sts : List Stmt} {Q : F → Led → Prop} (h : WX C n X env st led (nx (fun led1 => WS C n X env sts led1 Q) Q)) : WS C n X env (st :: sts) led Q := ws_cons h
theorem ift {c : Bool} {A B : Prop} (hc : c = true) (h : A) : if c = true then A else B := by rw [if_pos hc]; exact h
theorem iff' {c : Bool} {A B : Prop} (hc : c = false) (h : B) : if c = true then A else B := by rw [hc]; exact h
noncomputable def lk (K : Led → Prop) (Q : F → Led → Prop) : F → Led → Prop := fun f l => match f with
  | .next => K l
  | .cont => K l
  | .brk => Q .next l
  | .ret v => Q (.ret v) l
theorem lk_next {K : Led → Prop} {Q : F → Led → Prop} {l : Led} (h : K l) : lk K Q .next l := h
theorem lk_ret {K : Led → Prop} {Q : F → Led → Prop} {v : V} {l : Led} (h : Q (.ret v) l) : lk K Q (.ret v) l := h
theorem wl_nil {target : Expr} {body : List Stmt} {Q : F → Led → Prop} (h : Q .next led) : WLoop C n env target body [] led Q := h
theorem wl_cons {target : Expr} {body : List Stmt} {v : V} {r : List V} {Q : F → Led → Prop} (h : W1 C n NoX RU (assign target env) v led fun _ led1 => WS C n NoX env body led1 (lk (fun led2 => WLoop C n env target body r led2 Q) Q)) : WLoop C n env target body (v :: r) led Q :=
  fun A Φ s x hA S hx => wpAny_mono (h A Φ s x hA S hx) (fun _ _ ⟨Φ', b, l, q1, q2, q3, q4⟩ => ⟨Φ', b, l, q1, q2, q3, W.mono q4 fun f l z => by cases f <;> exact z⟩) fun _ _ e => e
theorem lookup_set_same {loc : List (Str × V)} {x : Str} {v : V} : (setLoc loc x v).lookup x = some v := by simp [setLoc, List.lookup]
theorem lookup_set_ne {loc : List (Str × V)} {x y : Str} {v : V} {o : Option V} (h : (y == x) = false) (h2 : loc.lookup y = o) : (setLoc loc x v).lookup y = o := by
  unfold setLoc
  rw [List.lookup_cons, h]
  simp only
  rw [lookup_filter_ne h, h2]
structure KA where
  x : Addr
  dx : Addr
  dl : Addr
  dd : Addr
  dn : Addr
  pm : Addr
  ps : Addr
  po : Addr
  b : Addr
  f : Addr
  fo : Obj
  c : Addr
  oc : Obj
  rw : Bool
noncomputable abbrev Stk := List (Addr × List (Str × Str))
structure St where
  data : List Str
  decl : Stk
  ns : Stk
  pmap : List (Str × Str)
  ps : List Bool
  out : List Str
  seen : Bool
  done : Bool
  tb : Option (Addr × Obj)
noncomputable abbrev refsOf (k : Stk) : List V := k.map fun e => V.ref e.1
noncomputable def esW (k : KA) (seen done : Bool) : List (Str × V) :=
  [(Str.ofString "_write", .ref k.b), (Str.ofString "_data", .ref k.dl), (Str.ofString "_with_comments", .bool false), (Str.ofString "_strip_text", .bool false), (Str.ofString "_exclude_attrs", .none), (Str.ofString "_exclude_tags", .none),
   (Str.ofString "_rewrite_prefixes", .bool k.rw), (Str.ofString "_qname_aware_tags", .none), (Str.ofString "_find_qname_aware_attrs", .none), (Str.ofString "_declared_ns_stack", .ref k.dd), (Str.ofString "_ns_stack", .ref k.dn),
   (Str.ofString "_prefix_map", .ref k.pm), (Str.ofString "_preserve_space", .ref k.ps), (Str.ofString "_pending_start", .none), (Str.ofString "_root_seen", .bool seen), (Str.ofString "_root_done", .bool done), (Str.ofString "_ignored_depth", .int 0),
   (Str.ofString "_iter_namespaces", .ref k.f)]
noncomputable def wtab : Option (Addr × Obj) → Led
  | none => [(123, .obj (tabObj #[]))]
  | some (c, oc) => [(123, .obj (tabObj #[rawInt 139, rawInt 71, .ref c])), (c, .obj oc)]
noncomputable def wled (k : KA) (s : St) (rest : Led) : Led :=
  (k.x, .obj (instObj 150 k.dx)) :: (k.dx, .dict (esW k s.seen s.done)) :: (k.dl, .list (s.data.map V.str)) :: (k.dd, .list (refsOf s.decl)) :: (k.dn, .list (refsOf s.ns)) ::
  (k.pm, .dict (s.pmap.map fun p => (p.1, .str p.2))) :: (k.ps, .list (s.ps.map V.bool)) :: (k.po, .list (s.out.map V.str)) :: (k.b, .obj (bndO k.po)) :: (k.f, .obj k.fo) :: (k.c, .obj k.oc) ::
  (ents s.decl ++ (ents s.ns ++ (wtab s.tb ++ rest)))
theorem wled_app (k : KA) (s : St) (r : Led) : wled k s r = wled k s [] ++ r := by
  unfold wled
  simp only [List.append_nil, List.cons_append, List.append_assoc]
theorem wled_perm (k : KA) (s : St) (pre r : Led) : (wled k s (pre ++ r)).Perm (pre ++ wled k s r) := by
  rw [wled_app, wled_app k s r, ← List.append_assoc, ← List.append_assoc]
  exact List.perm_append_comm.append_right _
theorem Post.perm {α β : Type} {Φ : PH} {R : PH → β → α → Prop} {Q : β → Led → Prop} {a : α} {s : Shared} (h : Post C Φ R (fun b l => ∃ l', l.Perm l' ∧ Q b l') a s) : Post C Φ R Q a s := by
  obtain ⟨Φ', b, l, h1, h2, h3, l', h4, h5⟩ := h
  exact ⟨Φ', b, l', h1, h2.perm h4, h3, h5⟩
theorem WK.permQ {f : V} {pos : List V} {kw : Kw} {led' : Led} {Q : V → Led → Prop} (hp : led.Perm led') (h : WK C n X f pos kw led' fun v l => ∃ l', l.Perm l' ∧ Q v l') : WK C n X f pos kw led Q := fun A Φ s fx xs ks hA S hf hps hk =>
  codeAny_mono (h A Φ s fx xs ks hA (S.perm hp) hf hps hk) fun r s' z => by
    rcases r with e | (v | _ | _ | _) <;> first | exact z | exact z.perm
theorem WK.pre {f : V} {pos : List V} {kw : Kw} {k : KA} {s : St} {rest : Led} {Q : V → Led → Prop} (pre : Led)
    (h : WK C n X f pos kw (wled k s (pre ++ rest)) fun v l => ∃ l', l.Perm l' ∧ Q v l') : WK C n X f pos kw (pre ++ wled k s rest) Q := WK.permQ (wled_perm k s pre rest).symm h
theorem preQ {k : KA} {s : St} {pre rest : Led} {P : Led → Prop} (h : P (pre ++ wled k s rest)) : ∃ l', (wled k s (pre ++ rest)).Perm l' ∧ P l' := ⟨_, wled_perm k s pre rest, h⟩
inductive QLast (C : Cx) (led : Led) (v : V) (Q : V → Led → Prop) : Prop
  | mk (vs0 vs : List V) (w : V) (h1 : ListV C led v vs0) (h2 : vs0 = vs ++ [w]) (h3 : Q w led) : QLast C led v Q
inductive QLs (C : Cx) (led : Led) (v : V) (i : Int) (Q : V → Led → Prop) : Prop
  | mk (vs : List V) (w : V) (h1 : ListV C led v vs) (h2 : vs[i.toNat]? = some w) (h3 : Q w led) : QLs C led v i Q
inductive QTs (C : Cx) (led : Led) (v : V) (i : Int) (Q : V → Led → Prop) : Prop
  | mk (vs : List V) (w : V) (h1 : TupV C led v vs) (h2 : vs[i.toNat]? = some w) (h3 : Q w led) : QTs C led v i Q
inductive QDs (C : Cx) (led : Led) (v iv : V) (Q : V → Led → Prop) : Prop
  | mk (es : List (Str × V)) (key : Str) (w : V) (h1 : DictV C led v es) (h2 : iv = .str key) (h3 : es.lookup key = some w) (h4 : Q w led) : QDs C led v iv Q
noncomputable abbrev kLast (C : Cx) (Q : V → Led → Prop) : V → Led → Prop := fun v led => QLast C led v Q
noncomputable abbrev kLs (C : Cx) (i : Int) (Q : V → Led → Prop) : V → Led → Prop := fun v led => QLs C led v i Q
noncomputable abbrev kTs (C : Cx) (i : Int) (Q : V → Led → Prop) : V → Led → Prop := fun v led => QTs C led v i Q
noncomputable abbrev kDs2 (C : Cx) (Q : V → Led → Prop) (v : V) : V → Led → Prop := fun iv led => QDs C led v iv Q
noncomputable abbrev kDs1 (C : Cx) (n : Nat) (X : Addr → Led → Prop) (env : Env) (i : Expr) (Q : V → Led → Prop) : V → Led → Prop := fun v led => WE C n X env i led (kDs2 C Q v)
theorem we_last {o : Expr} {k p p1 p2} {Q : V → Led → Prop} (h : WE C n X env o led (kLast C Q)) : WE C n X env (.Subscript o (.UnaryOp .USub (.Constant (.int 1) k p1) p2) p) led Q :=
  we_sub (T := "list") (W.mono h fun v l ⟨vs0, vs, w, h1, h2, h3⟩ => we_neg (we_int ⟨1, rfl, ty_list h1, by subst h2; exact gi_last h1 h3⟩)) F.slot_list_getitem.lookup
theorem refs_last (k : Stk) (a : Addr) (l : List (Str × Str)) : refsOf (k ++ [(a, l)]) = refsOf k ++ [V.ref a] := by simp [refsOf]
theorem up_ns {k : KA} {s : St} {rest : Led} {ns0 : Stk} {a : Addr} {l l' : List (Str × Str)} (h : s.ns = ns0 ++ [(a, l)]) : Up a (.list (l.map prV)) (.list (l'.map prV)) (wled k s rest) (wled k { s with ns := ns0 ++ [(a, l')] } rest) := by
  unfold wled
  dsimp only
  rw [h, refs_last, refs_last]
  refine .tail (.tail (.tail (.tail (.tail (.tail (.tail (.tail (.tail (.tail (.tail (Up.right ?_ _)))))))))))
  exact (Up.ent ns0 a l l').left _
theorem up_decl {k : KA} {s : St} {rest : Led} {ns0 : Stk} {a : Addr} {l l' : List (Str × Str)} (h : s.decl = ns0 ++ [(a, l)]) : Up a (.list (l.map prV)) (.list (l'.map prV)) (wled k s rest) (wled k { s with decl := ns0 ++ [(a, l')] } rest) := by
  unfold wled
  dsimp only
  rw [h, refs_last, refs_last]
  refine .tail (.tail (.tail (.tail (.tail (.tail (.tail (.tail (.tail (.tail (.tail ?_))))))))))
  exact (Up.ent ns0 a l l').left _
theorem WE.cut {e : Expr} {Q : V → Led → Prop} (P : V → Led → Prop) (h1 : WE C n X env e led fun v l => P v l ∧ l = led) (h2 : ∀ v, P v led → Q v led) : WE C n X env e led Q := W.mono h1 fun v l ⟨a, b⟩ => by subst b; exact h2 v a
theorem WT.cut {e : Expr} {Q : Bool → Led → Prop} (c : Bool) (h1 : WT C n X env e led fun b l => b = c ∧ l = led) (h2 : Q c led) : WT C n X env e led Q := W.mono h1 fun v l ⟨a, b⟩ => by subst b; subst a; exact h2
theorem we_dsub {o i : Expr} {p : Pos} {Q : V → Led → Prop} (h : WE C n X env o led (kDs1 C n X env i Q))
    (hs : ∀ o z, ∃ ops, subscripted i false o z = operate ops (getItem o z) := by exact fun _ _ => ⟨_, rfl⟩) : WE C n X env (.Subscript o i p) led Q :=
  we_sub (T := "dict") (W.mono h fun v l z => W.mono z fun iv l2 ⟨es, key, w, h1, h2, h3, h4⟩ => ⟨ty_dict h1, by subst h2; exact gi_dict h1 h3 h4⟩) F.slot_dict_getitem.lookup hs
theorem we_tsub {o : Expr} {i : Int} {k p p1} {Q : V → Led → Prop} (h : WE C n X env o led (kTs C i Q)) (h0 : 0 ≤ i := by decide) (h1 : i < 2 ^ 63 := by decide)
    (hs : ∀ o z, ∃ ops, subscripted (.Constant (.int i) k p1) false o z = operate ops (getItem o z) := by exact fun _ _ => ⟨_, rfl⟩) : WE C n X env (.Subscript o (.Constant (.int i) k p1) p) led Q :=
  we_sub (T := "tuple") (W.mono h fun v l ⟨vs, w, a, b, c⟩ => we_int ⟨ty_tup a, gi_tup a h0 h1 b c⟩) F.slot_tuple_getitem.lookup hs
theorem we_lsub {o : Expr} {i : Int} {k p p1} {Q : V → Led → Prop} (h : WE C n X env o led (kLs C i Q)) (h0 : 0 ≤ i := by decide) (h1 : i < 2 ^ 63 := by decide)
    (hs : ∀ o z, ∃ ops, subscripted (.Constant (.int i) k p1) false o z = operate ops (getItem o z) := by exact fun _ _ => ⟨_, rfl⟩) : WE C n X env (.Subscript o (.Constant (.int i) k p1) p) led Q :=
  we_sub (T := "list") (W.mono h fun v l ⟨vs, w, a, b, c⟩ => we_int ⟨ty_list a, gi_list a h0 h1 b c⟩) F.slot_list_getitem.lookup hs
theorem wc_getN {v : V} {es : List (Str × V)} {k : Str} {Q : V → Led → Prop} (hv : DictV C led v es) (hk : es.lookup k = none) (h : Q .none led) : WC C n X (.val (.builtin "dict.get")) [v, .str k] [] led Q := wc_get2 hv (by rw [hk]; exact h)
theorem we_stake {o : Expr} {k p p1 p2} {Q : V → Led → Prop} (h : WE C n X env o led fun v led1 => ∃ x, v = .str x ∧ x.length ≤ sizeLine ∧ Q (.str (stake x 1)) led1) : WE C n X env (.Subscript o (.Slice none (some (.Constant (.int 1) k p1)) none p2) p) led Q :=
  we_sub (T := "str") (W.mono h fun v l ⟨x, h1, h2, h3⟩ => by subst h1; exact we_slice (wp_none (wp_some (we_int ⟨1, rfl, wp_none fun a o ho => ⟨ty_str, gi_stake (k := 1) ho h2 h3⟩⟩)))) F.slot_str_getitem.lookup
theorem we_sdrop {o : Expr} {k p p1 p2} {Q : V → Led → Prop} (h : WE C n X env o led fun v led1 => ∃ x, v = .str x ∧ x.length ≤ sizeLine ∧ Q (.str (sdrop x 1)) led1) : WE C n X env (.Subscript o (.Slice (some (.Constant (.int 1) k p1)) none none p2) p) led Q :=
  we_sub (T := "str") (W.mono h fun v l ⟨x, h1, h2, h3⟩ => by subst h1; exact we_slice (wp_some (we_int ⟨1, rfl, wp_none (wp_none fun a o ho => ⟨ty_str, gi_sdrop (k := 1) ho h2 h3⟩)⟩))) F.slot_str_getitem.lookup
theorem wa_tup2 {x y : Str} {p1 p2 p : Pos} {k : Nat} {v v1 v2 : V} {Q : Unit → Led → Prop} (hv : UnpV C led v [v1, v2]) (h : W1 C n X RU (storeName env x) v1 led fun _ led1 => W1 C n X RU (storeName env y) v2 led1 Q) : W1 C n X RU (assign (.Tuple [.Name x p1, .Name y p2] k p) env) v led Q :=
  wa_tup hv rfl (show W1 C n X RU (assign (.Name x p1) env) v1 led fun _ led1 => W1 C n X RU (assign (.Name y p2) env) v2 led1 Q from wa_name (fun A Φ s z hA S hz => wpAny_mono (h A Φ s z hA S hz) (fun _ _ ⟨Φ', b, l, q1, q2, q3, q4⟩ => ⟨Φ', b, l, q1, q2, q3, wa_name q4⟩) fun _ _ e => e))
theorem wa_tup3 {x y z : Str} {p1 p2 p3 p : Pos} {k : Nat} {v v1 v2 v3 : V} {Q : Unit → Led → Prop} (hv : UnpV C led v [v1, v2, v3]) (h : W1 C n X RU (assign (.Name x p1) env) v1 led fun _ led1 => W1 C n X RU (assign (.Name y p2) env) v2 led1 fun _ led2 => W1 C n X RU (assign (.Name z p3) env) v3 led2 Q) : W1 C n X RU (assign (.Tuple [.Name x p1, .Name y p2, .Name z p3] k p) env) v led Q :=
  wa_tup hv rfl h
theorem wx_tup2 {x y : Str} {p1 p2 p3 p : Pos} {k : Nat} {value : Expr} {Q : F → Led → Prop} (h : WE C n X env value led fun v led1 => ∃ v1 v2, UnpV C led1 v [v1, v2] ∧ W1 C n X RU (storeName env x) v1 led1 fun _ led2 => W1 C n X RU (storeName env y) v2 led2 fun _ led3 => Q .next led3)
    (hs : swapsWithSole [.Tuple [.Name x p1, .Name y p2] k p3] value p.line env = pure false := by kernel_rfl) (hw : swappedStores [.Tuple [.Name x p1, .Name y p2] k p3] value env = pure none := by kernel_rfl) : WX C n X env (.Assign [.Tuple [.Name x p1, .Name y p2] k p3] value p) led Q :=
  wx_assigns (W.mono h fun v l ⟨v1, v2, h1, h2⟩ => show W1 C n X RU (assign (.Tuple [.Name x p1, .Name y p2] k p3) env) v l fun _ led2 => Q .next led2 from wa_tup2 h1 h2) hs hw
end
variable {C : Cx} {n : Nat} {X : Addr → Led → Prop} {env : Env} {led : Led}
theorem wm_sadd {a : Addr} {ss : List Str} {Q : V × List V → Led → Prop} (hm : (a, AO.set ss) ∈ led) (h : Q (.val (.builtin "set.add"), [.ref a]) led) : WM C n X (Str.ofString "add") (.ref a) led Q := wm_builtin (ty_set hm) F.plainAttrs_set F.slot_set_add F.type_set_add h
local macro_rules | `(tactic| walk_at "mem") => `(tactic| first | with_reducible assumption | exact List.Mem.head _ | (refine List.Mem.tail _ ?_; walk_at "mem"))
local macro_rules | `(tactic| walk_at "up") => `(tactic| first | exact Up.head | with_reducible assumption | exact Up.tail (by walk_at "up"))
local macro_rules | `(tactic| walk_at "rm") => `(tactic| first | exact Rm.head | exact Rm.tail (by walk_at "rm"))
local macro_rules | `(tactic| walk_at "subl") => `(tactic| first | exact List.Sublist.refl _ | (refine List.Sublist.cons₂ _ ?_; walk_at "subl") | (refine List.Sublist.cons _ ?_; walk_at "subl"))
local macro_rules | `(tactic| walk_at "sub") => `(tactic| first | exact List.Sublist.refl _ | (refine List.Sublist.cons _ ?_; walk_at "sub"))
local macro_rules | `(tactic| walk_at "lkp") => `(tactic| first | with_reducible assumption | with_reducible exact lookup_set_same | (refine lookup_set_ne (by decide +kernel) ?_; walk_at "lkp") | rfl)
local macro_rules | `(tactic| walk_at "inst") => `(tactic| exact ⟨_, by walk_at "mem", by walk_at "mem"⟩)
noncomputable def fl (s : St) : St := { s with data := [], out := s.out ++ [escC (catAll s.data)] }
theorem vrs_one {Φ : PH} {v : V} {xs : List Value} (h : VRs C Φ [v] xs) : ∃ x, xs = [x] ∧ VR C Φ v x := vrs1 h
theorem w_flush {k : KA} {s : St} {rest : Led} {Q : V → Led → Prop} (G : Gr C) (hs : s.seen = true) (h0 : 0 < (catAll s.data).length) (h1 : (catAll s.data).length ≤ 1000) (h2 : s.data.length ≤ 1000) (h3 : s.out.length ≤ 10000)
    (h : Q .none (wled k (fl s) rest)) : WK C (n + 2) X (.ref 106) [.ref k.x] [] (wled k s rest) Q := by
  refine WK.dropQ ?_
  refine wk_def (G.inn 106 _ rfl) rfl rfl (code_at G.inn rfl rfl rfl) G.lim (binds := [(Str.ofString "self", .ref k.x), (Str.ofString "_join_text", .ref 98)]) (bindD (G.inn 99 _ rfl) rfl rfl _ (fun xs => rfl) ?_) fun L => ?_
  · intro Φ xs hx
    obtain ⟨y, rfl, hy⟩ := vrs_one hx
    exact ⟨_, rfl, by simp only [VEs]; exact ⟨_, _, rfl, hy, _, _, rfl, vval, rfl⟩⟩
  dsimp only [fenv]
  refine wcells_id rfl (wst_cons (wn_local .head (wst_cons (wn_local .head (wst_nil ?_)))))
  unfold wled
  refine ws_cons' ?_; refine wx_assign ?_; refine we_call ?_; refine we_local (by walk_at "mem") (by walk_at "lkp") ?_; refine wa_cons ?_; refine we_attr ?_; refine we_local (by walk_at "mem") (by walk_at "lkp") ?_; refine ga_own (cls1 (by assumption)) ⟨_, by walk_at "mem", by walk_at "mem"⟩ (by rfl) (by rfl) (fun _ e => by cases e) ?_; refine wa_nil ?_; refine wall_nil ?_
  refine ⟨kept_bjoin (G.inn 98 _ rfl), wc_bjoin (ss := s.data) (G.inn 98 _ rfl) (lv_own (by walk_at "mem")) (by rw [sizeLine_eq]; walk_at "om") ?_⟩
  refine wn_local (by walk_at "up") ?_; refine nx_next ?_; refine ws_cons' ?_
  refine wx_delall ?_
  refine we_attr ?_; refine we_local (by walk_at "mem") (by walk_at "lkp") ?_; refine ga_own (cls1 (by assumption)) ⟨_, by walk_at "mem", by walk_at "mem"⟩ (by rfl) (by rfl) (fun _ e => by cases e) ?_
  refine ⟨_, _, _, rfl, by walk_at "up", by rw [List.length_map, sizeLine_eq]; walk_at "om", ?_⟩
  refine nx_next ?_; refine ws_cons' ?_; refine wx_if ?_; refine wt_and ?_; refine wt_val ?_; refine we_attr ?_; refine we_local (by walk_at "mem") (by walk_at "lkp") ?_; refine ga_own (cls1 (by assumption)) ⟨_, by walk_at "mem", by walk_at "mem"⟩ (by rfl) (by rfl) (fun _ e => by cases e) ?_; refine tr_bool ?_; refine iff' (by rfl) ?_; refine iff' (by rfl) ?_; refine ws_nil ?_; refine nx_next ?_; refine ws_cons' ?_; refine wx_if ?_; refine wt_cmp ?_; refine we_attr ?_; refine we_local (by walk_at "mem") (by walk_at "lkp") ?_; refine ga_own (cls1 (by assumption)) ⟨_, by walk_at "mem", by walk_at "mem"⟩ (by rfl) (by rfl) (fun _ e => by cases e) ?_; refine we_none ?_; refine wc_isnot_none trivial ?_; refine tr_bool ?_; refine iff' (by rfl) ?_; refine ws_nil ?_; refine nx_next ?_; refine ws_cons' ?_; refine wx_if ?_; refine wt_and ?_; refine wt_val ?_; refine we_local (by walk_at "mem") (by walk_at "lkp") ?_; refine tr_str (by walk_at "om") ?_
  refine ift (by simp; walk_at "om") ?_
  refine wt_and ?_; refine wt_val ?_; refine we_attr ?_; refine we_local (by walk_at "mem") (by walk_at "lkp") ?_; refine ga_own (cls1 (by assumption)) ⟨_, by walk_at "mem", by walk_at "mem"⟩ (by rfl) (by rfl) (fun _ e => by cases e) ?_; refine tr_bool ?_
  refine ift hs ?_
  refine wt_and_nil ?_; refine ift (by rfl) ?_; refine ws_cons' ?_; refine wx_expr ?_; refine we_mcall ?_; refine we_local (by walk_at "mem") (by walk_at "lkp") ?_; refine wm_own (cls1 (by assumption)) ⟨_, by walk_at "mem", by walk_at "mem"⟩ (by rfl) (by rfl) (fun _ e => by cases e) ?_; refine wa_cons ?_; refine we_call ?_; refine we_glob (glob1 (by assumption) (by rfl)) ?_; refine wa_cons ?_; refine we_local (by walk_at "mem") (by walk_at "lkp") ?_; refine wa_nil ?_; refine wall_nil ?_
  refine ⟨kept_base (G.inn 161 _ rfl) rfl, (esc_cdata G h1 ?_).wc⟩
  refine wa_nil ?_; refine wall_nil ?_
  refine ⟨kept_bnd (by walk_at "mem") rfl rfl, wc_bnd (by walk_at "mem") (by walk_at "up") (by rw [List.length_map, sizeLine_eq]; walk_at "om") ?_⟩
  refine nx_next ?_; refine ws_nil ?_; refine nx_next ?_; refine ws_nil ?_
  refine ⟨wled k (fl s) rest, ?_, h⟩
  unfold wled fl
  simp only [List.map_append, List.map_cons, List.map_nil]
  walk_at "sub"
noncomputable def flq (s : St) : St := if s.data = [] then s else fl s
structure DOk (s : St) : Prop where
  d : s.data ≠ [] → s.seen = true ∧ 0 < (catAll s.data).length
  c : (catAll s.data).length ≤ 1000
  l : s.data.length ≤ 1000
  o : s.out.length ≤ 9000
theorem wx_flush {k : KA} {s : St} {rest : Led} {loc : List (Str × V)} {p1 p2 p3 p6 p7 : Pos} {p4 p5 : Pos} {Q : F → Led → Prop} (G : Gr C) (hd : DOk s) (hloc : loc.lookup (Str.ofString "self") = some (.ref k.x))
    (h : Q .next ((env.locals, .frame loc) :: wled k (flq s) rest))
    (hk : env.scope.kind = .function := by rfl) (hl : env.kindOf (Str.ofString "self") = some .local := by rfl)
    (hb1 : attributeBase (.Name (Str.ofString "self") p1) (Str.ofString "_data") env (eval (.Name (Str.ofString "self") p1) env) = eval (.Name (Str.ofString "self") p1) env := by rfl)
    (hb2 : attributeBase (.Name (Str.ofString "self") p3) (Str.ofString "_flush") env (eval (.Name (Str.ofString "self") p3) env) = eval (.Name (Str.ofString "self") p3) env := by rfl)
    (hline : (p4.endLine == p5.line) = true := by rfl) (hi : interactive env = false := by rfl)
    (hsw : swapsWith (.Call (.Attribute (.Name (Str.ofString "self") p3) (Str.ofString "_flush") p4) [] [] p5) none p6.line env = pure false := by kernel_rfl)
    (hte : isTrue (.Attribute (.Name (Str.ofString "self") p1) (Str.ofString "_data") p2) env (eval (.Attribute (.Name (Str.ofString "self") p1) (Str.ofString "_data") p2) env) = (do let v ← eval (.Attribute (.Name (Str.ofString "self") p1) (Str.ofString "_data") p2) env; standAt p2; holding [v] (truthy v)) := by rfl) :
    WX C (n + 2) NoX env (.If (.Attribute (.Name (Str.ofString "self") p1) (Str.ofString "_data") p2) [.Expr (.Call (.Attribute (.Name (Str.ofString "self") p3) (Str.ofString "_flush") p4) [] [] p5) p6] [] p7) ((env.locals, .frame loc) :: wled k s rest) Q := by
  refine wx_if (wt_val (we_attr (we_local List.mem_cons_self hloc (ga_own (cls1 G) (by walk_at "inst") (by rfl) (by rfl) (fun _ e => by cases e) (tr_list (lv_own (vs := s.data.map V.str) (by walk_at "mem")) (by rw [List.length_map]; have := hd.l; walk_at "om") ?_)) hk hl) hb1) hte)
  by_cases e : s.data = []
  · refine iff' (by rw [e]; rfl) (ws_nil ?_)
    unfold flq at h
    rw [if_pos e] at h
    exact h
  · refine ift (by cases q : s.data with | nil => exact absurd q e | cons _ _ => rfl) ?_
    unfold flq at h
    rw [if_neg e] at h
    refine ws_cons' (wx_expr (we_mcall (we_local List.mem_cons_self hloc (wm_inst (cls1 G) (by walk_at "inst") (by rfl) (by rfl) (by rfl) (wa_nil (wall_nil ⟨kept_base (G.inn 106 _ rfl) rfl, ?_⟩))) hk hl) hb2 hline) hi hsw)
    refine WK.wc (WK.pre [(env.locals, .frame loc)] (w_flush G (hd.d e).1 (hd.d e).2 hd.c hd.l (by have := hd.o; walk_at "om") (preQ ?_)))
    exact ws_nil h

theorem flq_ns (s : St) : (flq s).ns = s.ns := by unfold flq fl; split <;> rfl
theorem w_start_ns {k : KA} {s : St} {ns0 : Stk} {a : Addr} {l : List (Str × Str)} {u p : Str} {rest : Led} {Q : V → Led → Prop} (G : Gr C) (hd : DOk s) (hn : s.ns = ns0 ++ [(a, l)]) (hl : l.length ≤ 10000)
    (h : Q .none (wled k { flq s with ns := ns0 ++ [(a, l ++ [(u, p)])] } rest)) : WK C (n + 3) X (.ref 113) [.ref k.x, .str p, .str u] [] (wled k s rest) Q := by
  refine WK.dropQ ?_
  refine wk_def (G.inn 113 _ rfl) rfl rfl (code_at G.inn rfl rfl rfl) G.lim (binds := [(Str.ofString "self", .ref k.x), (Str.ofString "prefix", .str p), (Str.ofString "uri", .str u)]) (bind3 fun y z t => rfl) fun L => ?_
  dsimp only [fenv]
  refine wcells_id rfl (wst_cons (wn_local .head (wst_cons (wn_local .head (wst_cons (wn_local .head (wst_nil ?_)))))))
  refine ws_cons' ?_; refine wx_if ?_; refine wt_val ?_; refine we_attr ?_; refine we_local (by walk_at "mem") (by walk_at "lkp") ?_; refine ga_own (cls1 (by assumption)) ⟨_, by walk_at "mem", by walk_at "mem"⟩ (by rfl) (by rfl) (fun _ e => by cases e) ?_; refine tr_int ?_; refine iff' (by rfl) ?_; refine ws_nil ?_; refine nx_next ?_; refine ws_cons' ?_; refine wx_flush (by assumption) (by assumption) (by rfl) ?_; refine nx_next ?_; refine ws_cons' ?_; refine wx_expr ?_; refine we_mcall ?_; refine we_last ?_; refine we_attr ?_; refine we_local (by walk_at "mem") (by walk_at "lkp") ?_; refine ga_own (cls1 (by assumption)) ⟨_, by walk_at "mem", by walk_at "mem"⟩ (by rfl) (by rfl) (fun _ e => by cases e) ?_
  have hns : (flq s).ns = ns0 ++ [(a, l)] := (flq_ns s).trans hn
  refine ⟨_, _, _, lv_own (by walk_at "mem"), (by rw [hns]; exact refs_last _ _ _), ?_⟩
  have U := up_ns (k := k) (rest := rest) (l' := l ++ [(u, p)]) hns
  refine wm_lappend (lv_own (.tail _ U.mem)) ?_
  refine wa_cons ?_; refine we_tuple ?_; refine wa_cons ?_; refine we_local (by walk_at "mem") (by walk_at "lkp") ?_; refine wa_cons ?_; refine we_local (by walk_at "mem") (by walk_at "lkp") ?_; refine wa_nil ?_
  refine ⟨by rw [sizeLine_eq]; simp, ?_⟩
  refine wa_nil ?_; refine wall_nil ?_
  refine ⟨kept_builtin, wc_append (vs := l.map prV) (w := prV (u, p)) (led' := _ :: wled k { flq s with ns := ns0 ++ [(a, l ++ [(u, p)])] } rest) (.tail ?_) (by rw [sizeLine_eq, List.length_map]; walk_at "om") ?_⟩
  · have U2 := U
    rw [List.map_append] at U2
    exact U2
  refine nx_next ?_; refine ws_nil ?_
  exact ⟨_, by walk_at "sub", h⟩
section
theorem wm_rsplit {x : Str} {Q : V × List V → Led → Prop} (h : Q (.val (.builtin "str.rsplit"), [.str x]) led) : WM C n X (Str.ofString "rsplit") (.str x) led Q := wm_builtin ty_str F.plainAttrs_str F.slot_str_rsplit F.type_str_rsplit h
noncomputable def nm (p tag : Str) : Str := if ((p.length : Int) != 0) = true then Str.empty ++ p ++ Str.ofString ":" ++ tag else tag
theorem we_nm {a b : Str} {pf tag : Str} {k : Nat} {loc : List (Str × V)} {p1 p2 p3 p4 p5 p6 p7 p8 p9 : Pos} {Q : V → Led → Prop} (hm : (env.locals, AO.frame loc) ∈ led) (h1 : loc.lookup a = some (.str pf)) (h2 : loc.lookup b = some (.str tag)) (hz1 : pf.length ≤ 1000) (hz2 : tag.length ≤ 1000)
    (h : Q (.str (nm pf tag)) led) (hk : env.scope.kind = .function := by rfl) (hl : env.kindOf a = some .local := by rfl) (hl2 : env.kindOf b = some .local := by rfl) (hd : (a == ("__debug__" : Str)) = false := by decide) (hd2 : (b == ("__debug__" : Str)) = false := by decide)
    (hte : isTrue (.Name a p1) env (eval (.Name a p1) env) = (do let v ← eval (.Name a p1) env; standAt p1; holding [v] (truthy v)) := by rfl) :
    WE C n X env (.IfExp (.Name a p1) (.JoinedStr [.FormattedValue (.Name a p2) (-1) none p3, .Constant (.str (Str.ofString ":")) k p4, .FormattedValue (.Name b p5) (-1) none p6] p7) (.Name b p8) p9) led Q := by
  refine we_ife (wt_val (we_local hm h1 (tr_str (by walk_at "om") ?_) hk hl hd) hte)
  unfold nm at h
  show (if (_ : Bool) = true then _ else _)
  split
  · rename_i hc
    rw [if_pos hc] at h
    refine we_fstr (we_fval (we_local hm h1 ⟨pf, rfl, by rw [sizeLine_eq]; walk_at "om", ⟨_, rfl, by rw [sizeLine_eq]; simp [Str.length, Str.empty] at *; walk_at "om", ?_⟩⟩ hk hl hd))
    refine we_str ⟨_, rfl, ?_, ?_⟩
    · rw [slen_append, sizeLine_eq]
      have : (Str.ofString ":").length = 1 := rfl
      have : Str.empty.length = 0 := rfl
      walk_at "om"
    refine we_fval (we_local hm h2 ⟨tag, rfl, by rw [sizeLine_eq]; walk_at "om", ⟨_, rfl, ?_, h⟩⟩ hk hl2 hd2)
    rw [slen_append, slen_append, sizeLine_eq]
    have : (Str.ofString ":").length = 1 := rfl
    have : Str.empty.length = 0 := rfl
    walk_at "om"
  · rename_i hc
    rw [if_neg hc] at h
    exact we_local hm h2 h hk hl2 hd2
noncomputable def flat (k : Stk) : List (Str × Str) := k.reverse.flatMap (·.2)
structure KOk (C : Cx) (k : KA) : Prop where
  fn : ∃ fd, k.fo.data = .func fd
  lam : ∀ {n : Nat} {X : Addr → Led → Prop} {led : Led} {ds : Addr} {stk : Stk} {Q : V → Led → Prop}, (k.f, AO.obj k.fo) ∈ led → (k.c, AO.obj k.oc) ∈ led → (ds, AO.list (refsOf stk)) ∈ led → (∀ e ∈ ents stk, e ∈ led) → stk.length ≤ 1000 → (flat stk).length ≤ 2000 →
    (∀ acc, Q (.ref acc) ((acc, .list ((flat stk).map prV)) :: led)) → WC C (n + 1) X (.ref k.f) [.ref ds] [] led Q
noncomputable def Qn (q uri tag : Str) : Prop := (stake q 1 == Str.ofString "{") = true ∧ Txt.rsplitMax (sdrop q 1) (Str.ofString "}") 1 = [uri, tag] ∨ (stake q 1 == Str.ofString "{") = false ∧ uri = Str.ofString "" ∧ tag = q
noncomputable def seek (uri : Str) : List (Str × Str) → List Str → Option Str
  | [], _ => none
  | (u, p) :: r, seen => if (u == uri) = true then (if (!seen.any (· == p)) = true then some p else seek uri r (addS seen p)) else seek uri r (addS seen p)
noncomputable def qnR (uri : Str) (D N : List (Str × Str)) : Option (Str × Bool) := match seek uri D [] with
  | some p => some (p, false)
  | none => if (!((uri.length : Int) != 0) && !(addsS [] (D.map (·.2))).any (· == Str.ofString "")) = true then some (Str.ofString "", false) else
    match N.find? (fun e => e.1 == uri) with
    | some e => some (e.2, true)
    | none => if (!((uri.length : Int) != 0)) = true then some (Str.ofString "", false) else none
theorem w_qname {k : KA} {s : St} {d0 : Stk} {a : Addr} {l : List (Str × Str)} {q uri tag p : Str} {b : Bool} {rest : Led} {Q : V → Led → Prop} (G : Gr C) (ko : KOk C k) (hrw : k.rw = false) (hd : s.decl = d0 ++ [(a, l)])
    (hq : Qn q uri tag) (hzq : q.length ≤ 1000) (hzt : tag.length ≤ 1000) (hzu : uri.length ≤ 1000) (hz1 : s.decl.length ≤ 1000) (hz2 : (flat s.decl).length ≤ 2000) (hz3 : s.ns.length ≤ 1000) (hz4 : (flat s.ns).length ≤ 2000) (hp1 : ∀ e ∈ flat s.decl, e.2.length ≤ 1000) (hp2 : ∀ e ∈ flat s.ns, e.2.length ≤ 1000)
    (hr : qnR uri (flat s.decl) (flat s.ns) = some (p, b))
    (h : Q (VT [nm p tag, tag, uri]) (wled k (if b then { s with decl := d0 ++ [(a, l ++ [(uri, p)])] } else s) rest)) : WK C (n + 2) X (.ref 90) [.ref k.x, .str q] [] (wled k s rest) Q := by
  refine WK.dropQ ?_
  refine wk_def (G.inn 90 _ rfl) rfl rfl (code_at G.inn rfl rfl rfl) G.lim (binds := [(Str.ofString "self", .ref k.x), (Str.ofString "qname", .str q), (Str.ofString "uri", .none)]) (bindD (G.inn 83 _ rfl) rfl rfl _ (fun xs => rfl) ?_) fun L => ?_
  · intro Φ xs hx
    obtain ⟨y, z, rfl, hy, hz⟩ := vrs2 hx
    exact ⟨_, rfl, by simp only [VEs]; exact ⟨_, _, rfl, hy, _, _, rfl, hz, _, _, rfl, vnone, rfl⟩⟩
  dsimp only [fenv]
  refine wcells_id rfl (wst_cons (wn_local .head (wst_cons (wn_local .head (wst_cons (wn_local .head (wst_nil ?_)))))))
  refine ws_cons' ?_; refine wx_if ?_; refine wt_cmp ?_; refine we_local (by walk_at "mem") (by walk_at "lkp") ?_; refine we_none ?_; refine wc_is_none trivial ?_; refine tr_bool ?_; refine ift (by rfl) ?_; refine ws_cons' ?_
  refine wx_tup2 (WE.cut (fun v led1 => UnpV C led1 v [.str uri, .str tag]) ?_ fun v hu => ⟨_, _, hu, ?_⟩)
  · refine we_ife ?_; refine wt_cmp ?_; refine we_stake ?_; refine we_local (by walk_at "mem") (by walk_at "lkp") ?_
    refine ⟨_, rfl, by rw [sizeLine_eq]; walk_at "om", ?_⟩
    refine we_str ?_; refine wc_eq_str ?_; refine tr_bool ?_
    rcases hq with ⟨hq1, hq2⟩ | ⟨hq1, hq2, hq3⟩
    · refine ift hq1 ?_
      refine we_mcall ?_; refine we_sdrop ?_; refine we_local (by walk_at "mem") (by walk_at "lkp") ?_
      refine ⟨_, rfl, by rw [sizeLine_eq]; walk_at "om", ?_⟩
      refine wm_rsplit ?_
      refine wa_cons ?_; refine we_str ?_; refine wa_cons ?_; refine we_int ?_; refine wa_nil ?_; refine wall_nil ?_
      refine ⟨kept_builtin, wc_rsplit1 rfl ⟨by decide, by decide⟩ (by rw [sizeLine_eq]; have : (sdrop q 1).length ≤ q.length := by simp [sdrop, Str.length]
                                                                      walk_at "om") ?_⟩
      exact ⟨by rw [hq2]; exact unp_list lv_fz, rfl⟩
    · refine iff' hq1 ?_
      refine we_tuple ?_; refine wa_cons ?_; refine we_str ?_; refine wa_cons ?_; refine we_local (by walk_at "mem") (by walk_at "lkp") ?_; refine wa_nil ?_
      refine ⟨by rw [sizeLine_eq]; simp, ?_⟩
      exact ⟨by rw [hq2, hq3]; exact unp_tup tv_fz, rfl⟩
  refine wn_local (by walk_at "up") ?_; refine wn_local (by walk_at "up") ?_; refine nx_next ?_; refine ws_nil ?_; refine nx_next ?_; refine ws_cons' ?_; refine wx_assign ?_; refine we_call ?_; refine we_bltn (bltn1 (by assumption) (by rfl) (by rfl) (by decide)) ?_; refine wa_nil ?_; refine wall_nil ?_
  refine ⟨kept_type, wc_newset fun S => ?_⟩
  refine wn_local (by walk_at "up") ?_; refine nx_next ?_; refine ws_cons' ?_
  obtain ⟨fd, hfd⟩ := ko.fn
  have hents : ∀ e ∈ ents s.decl, e ∈ wled k s rest := fun e he => by
    unfold wled
    exact .tail _ (.tail _ (.tail _ (.tail _ (.tail _ (.tail _ (.tail _ (.tail _ (.tail _ (.tail _ (.tail _ (List.mem_append_left _ he)))))))))))
  have hentn : ∀ e ∈ ents s.ns, e ∈ wled k s rest := fun e he => by
    unfold wled
    exact .tail _ (.tail _ (.tail _ (.tail _ (.tail _ (.tail _ (.tail _ (.tail _ (.tail _ (.tail _ (.tail _ (List.mem_append_right _ (List.mem_append_left _ he))))))))))))
  refine wx_for (W.convV ?_)
  refine we_mcall ?_; refine we_local (by walk_at "mem") (by walk_at "lkp") ?_; refine wm_shadow (cls1 (by assumption)) ⟨_, by walk_at "mem", by walk_at "mem"⟩ (by rfl) (by rfl) (by rfl) (by rfl) (by rfl) (fun _ e => by cases e) ?_; refine wa_cons ?_; refine we_attr ?_; refine we_local (by walk_at "mem") (by walk_at "lkp") ?_; refine ga_own (cls1 (by assumption)) ⟨_, by walk_at "mem", by walk_at "mem"⟩ (by rfl) (by rfl) (fun _ e => by cases e) ?_; refine wa_nil ?_; refine wall_nil ?_
  refine ⟨kept_fn (by walk_at "mem") hfd, ko.lam (stk := s.decl) (by walk_at "mem") (by walk_at "mem") (by walk_at "mem") (fun e he => .tail _ (.tail _ (hents e he))) hz1 hz2 fun acc => ?_⟩
  refine ⟨_, _, frzL .head, _, it_lst, ?_⟩
  generalize hloc : setLoc (setLoc _ _ _) _ _ = loc
  have l1 : loc.lookup (Str.ofString "uri") = some (.str uri) := by rw [← hloc]; rfl
  have l2 : loc.lookup (Str.ofString "tag") = some (.str tag) := by rw [← hloc]; rfl
  have l3 : loc.lookup (Str.ofString "prefixes_seen") = some (.ref S) := by rw [← hloc]; rfl
  have l4 : loc.lookup (Str.ofString "self") = some (.ref k.x) := by rw [← hloc]; rfl
  clear hloc
  refine (?_ : ∀ (D : List (Str × Str)) (ss : List Str) (loc : List (Str × V)), (∀ e ∈ D, e.2.length ≤ 1000) → ss.Nodup → ss.length + D.length < 4000 → loc.lookup (Str.ofString "uri") = some (.str uri) → loc.lookup (Str.ofString "tag") = some (.str tag) →
    loc.lookup (Str.ofString "prefixes_seen") = some (.ref S) → loc.lookup (Str.ofString "self") = some (.ref k.x) → (∀ p', seek uri D ss = some p' → ∀ l1 l2, ?QQ (.ret (VT [nm p' tag, tag, uri])) (l1 :: l2 :: wled k s rest)) →
    (seek uri D ss = none → ∀ loc, loc.lookup (Str.ofString "uri") = some (.str uri) → loc.lookup (Str.ofString "tag") = some (.str tag) → loc.lookup (Str.ofString "prefixes_seen") = some (.ref S) → loc.lookup (Str.ofString "self") = some (.ref k.x) → ?QQ .next ((S, .set (addsS ss (D.map (·.2)))) :: (L, .frame loc) :: wled k s rest)) →
    WLoop C _ _ _ _ (D.map prV) ((S, .set ss) :: (L, .frame loc) :: wled k s rest) ?QQ) _ [] loc hp1 List.nodup_nil (by simp; walk_at "om") l1 l2 l3 l4 ?_ ?_
  · intro D
    induction D with
    | nil => intro ss loc _ _ _ l1 l2 l3 l4 _ hn; exact wl_nil (hn rfl loc l1 l2 l3 l4)
    | cons e D ih =>
      intro ss loc hz hnd hl l1 l2 l3 l4 hs hn
      have hze := hz e List.mem_cons_self
      refine wl_cons (wa_tup2 (unp_tup (vs := [.str e.1, .str e.2]) tv_fz) ?_)
      have hlen : (addS ss e.2).length + D.length < 4000 := by rw [addS_length]; simp at hl; split <;> walk_at "om"
      have hz' : ∀ e ∈ D, e.2.length ≤ 1000 := fun e he => hz e (.tail _ he)
      simp only [List.length_cons] at hl
      refine wn_local (by walk_at "up") ?_; refine wn_local (by walk_at "up") ?_; refine ws_cons' ?_; refine wx_if ?_; refine wt_and ?_; refine wt_cmp ?_; refine we_local (by walk_at "mem") (by walk_at "lkp") ?_; refine we_local (by walk_at "mem") (by walk_at "lkp") ?_; refine wc_eq_str ?_; refine tr_bool ?_
      by_cases h1 : (e.1 == uri) = true
      · refine ift h1 ?_
        refine wt_and ?_; refine wt_cmp ?_; refine we_local (by walk_at "mem") (by walk_at "lkp") ?_; refine we_local (by walk_at "mem") (by walk_at "lkp") ?_; refine wc_notin_set (by walk_at "mem") ?_; refine tr_bool ?_
        by_cases h2 : (!ss.any (· == e.2)) = true
        · refine ift h2 ?_
          refine wt_and_nil ?_; refine ift (by rfl) ?_; refine ws_cons' ?_; refine wx_ret ?_; refine we_tuple ?_; refine wa_cons ?_; refine we_nm (by walk_at "mem") (by walk_at "lkp") (by walk_at "lkp") (by assumption) (by assumption) ?_; refine wa_cons ?_; refine we_local (by walk_at "mem") (by walk_at "lkp") ?_; refine wa_cons ?_; refine we_local (by walk_at "mem") (by walk_at "lkp") ?_; refine wa_nil ?_
          refine ⟨by rw [sizeLine_eq]; simp, ?_⟩
          refine nx_ret ?_; refine nx_ret ?_; refine lk_ret ?_; refine nx_ret ?_
          exact hs e.2 (by unfold seek; rw [if_pos h1, if_pos h2]) _ _
        · have e2 : seek uri (e :: D) ss = seek uri D (addS ss e.2) := by rw [seek.eq_2, if_pos h1, if_neg h2]
          refine iff' (by simpa using h2) ?_
          refine iff' (by rfl) ?_; refine ws_nil ?_; refine nx_next ?_; refine ws_cons' ?_; refine wx_expr ?_; refine we_mcall ?_; refine we_local (by walk_at "mem") (by walk_at "lkp") ?_; refine wm_sadd (by walk_at "mem") ?_; refine wa_cons ?_; refine we_local (by walk_at "mem") (by walk_at "lkp") ?_; refine wa_nil ?_; refine wall_nil ?_
          refine ⟨kept_builtin, wc_setadd (by walk_at "up") (by walk_at "om") ?_ hnd⟩
          refine nx_next ?_; refine ws_nil ?_; refine lk_next ?_
          exact ih _ _ hz' (addS_nodup hnd) hlen (by walk_at "lkp") (by walk_at "lkp") (by walk_at "lkp") (by walk_at "lkp") (fun p' hp => hs p' (e2.trans hp)) fun hq => hn (e2.trans hq)
      · have e2 : seek uri (e :: D) ss = seek uri D (addS ss e.2) := by rw [seek.eq_2, if_neg h1]
        refine iff' (by simpa using h1) ?_
        refine iff' (by rfl) ?_; refine ws_nil ?_; refine nx_next ?_; refine ws_cons' ?_; refine wx_expr ?_; refine we_mcall ?_; refine we_local (by walk_at "mem") (by walk_at "lkp") ?_; refine wm_sadd (by walk_at "mem") ?_; refine wa_cons ?_; refine we_local (by walk_at "mem") (by walk_at "lkp") ?_; refine wa_nil ?_; refine wall_nil ?_
        refine ⟨kept_builtin, wc_setadd (by walk_at "up") (by walk_at "om") ?_ hnd⟩
        refine nx_next ?_; refine ws_nil ?_; refine lk_next ?_
        exact ih _ _ hz' (addS_nodup hnd) hlen (by walk_at "lkp") (by walk_at "lkp") (by walk_at "lkp") (by walk_at "lkp") (fun p' hp => hs p' (e2.trans hp)) fun hq => hn (e2.trans hq)
  · intro p' hp l1 l2
    have : qnR uri (flat s.decl) (flat s.ns) = some (p', false) := by unfold qnR; rw [hp]
    rw [this] at hr
    cases hr
    refine nx_ret ?_
    exact ⟨_, .cons _ (.cons _ (.refl _)), h⟩
  · intro hs1 loc l1 l2 l3 l4
    unfold qnR at hr
    rw [hs1] at hr
    simp only at hr
    refine nx_next ?_; refine ws_cons' ?_; refine wx_if ?_; refine wt_val ?_; refine we_attr ?_; refine we_local (by walk_at "mem") (by walk_at "lkp") ?_; refine ga_own (cls1 (by assumption)) ⟨_, by walk_at "mem", by walk_at "mem"⟩ (by rfl) (by rfl) (fun _ e => by cases e) ?_; refine tr_bool ?_
    refine iff' hrw (ws_nil (nx_next (ws_cons' (wx_if (WT.cut (!((uri.length : Int) != 0) && !(addsS [] ((flat s.decl).map (·.2))).any (· == Str.ofString "")) ?_ ?_)))))
    · refine wt_and ?_; refine wt_not ?_; refine wt_val ?_; refine we_local (by walk_at "mem") (by walk_at "lkp") ?_; refine tr_str (by walk_at "om") ?_
      by_cases g1 : (!((uri.length : Int) != 0)) = true
      · refine ift g1 ?_
        refine wt_and ?_; refine wt_cmp ?_; refine we_str ?_; refine we_local (by walk_at "mem") (by walk_at "lkp") ?_; refine wc_notin_set (by walk_at "mem") ?_; refine tr_bool ?_
        rw [g1]
        by_cases g2 : (!(addsS [] ((flat s.decl).map (·.2))).any (· == Str.ofString "")) = true
        · refine ift g2 ?_
          refine wt_and_nil ?_
          exact ⟨by rw [g2]; rfl, rfl⟩
        · refine iff' (by simpa using g2) ?_
          exact ⟨by simpa using g2, rfl⟩
      · refine iff' (by simpa using g1) ?_
        exact ⟨by rw [(by simpa using g1 : (!((uri.length : Int) != 0)) = false)]; rfl, rfl⟩
    generalize hc : (!((uri.length : Int) != 0) && !(addsS [] ((flat s.decl).map (·.2))).any (· == Str.ofString "")) = c at hr ⊢
    clear hc
    have hn0 : nm (Str.ofString "") tag = tag := rfl
    cases c with
    | true =>
      rw [if_pos rfl] at hr
      cases hr
      refine ift (by rfl) ?_; refine ws_cons' ?_; refine wx_ret ?_; refine we_tuple ?_; refine wa_cons ?_; refine we_local (by walk_at "mem") (by walk_at "lkp") ?_; refine wa_cons ?_; refine we_local (by walk_at "mem") (by walk_at "lkp") ?_; refine wa_cons ?_; refine we_local (by walk_at "mem") (by walk_at "lkp") ?_; refine wa_nil ?_
      refine ⟨by rw [sizeLine_eq]; simp, ?_⟩
      refine nx_ret ?_; refine nx_ret ?_
      rw [hn0] at h
      exact ⟨_, .cons _ (.cons _ (.refl _)), h⟩
    | false =>
      rw [if_neg (by decide)] at hr
      refine iff' rfl (ws_nil (nx_next (ws_cons' (wx_for (W.convV ?_)))))
      refine we_mcall ?_; refine we_local (by walk_at "mem") (by walk_at "lkp") ?_; refine wm_shadow (cls1 (by assumption)) ⟨_, by walk_at "mem", by walk_at "mem"⟩ (by rfl) (by rfl) (by rfl) (by rfl) (by rfl) (fun _ e => by cases e) ?_; refine wa_cons ?_; refine we_attr ?_; refine we_local (by walk_at "mem") (by walk_at "lkp") ?_; refine ga_own (cls1 (by assumption)) ⟨_, by walk_at "mem", by walk_at "mem"⟩ (by rfl) (by rfl) (fun _ e => by cases e) ?_; refine wa_nil ?_; refine wall_nil ?_
      refine ⟨kept_fn (by walk_at "mem") hfd, ko.lam (stk := s.ns) (by walk_at "mem") (by walk_at "mem") (by walk_at "mem") (fun e he => .tail _ (.tail _ (hentn e he))) hz3 hz4 fun acc => ?_⟩
      refine ⟨_, _, frzL .head, _, it_lst, ?_⟩
      generalize hS : AO.set _ = aS
      clear hS
      refine (?_ : ∀ (N : List (Str × Str)) (loc : List (Str × V)), (∀ e ∈ N, e.2.length ≤ 1000) → loc.lookup (Str.ofString "uri") = some (.str uri) → loc.lookup (Str.ofString "tag") = some (.str tag) →
        loc.lookup (Str.ofString "self") = some (.ref k.x) → (∀ e, N.find? (fun e => e.1 == uri) = some e → ∀ l1 l2, ?Q2 (.ret (VT [nm e.2 tag, tag, uri])) (l1 :: l2 :: wled k { s with decl := d0 ++ [(a, l ++ [(uri, e.2)])] } rest)) →
        (N.find? (fun e => e.1 == uri) = none → ∀ loc : List (Str × V), loc.lookup (Str.ofString "uri") = some (.str uri) → loc.lookup (Str.ofString "tag") = some (.str tag) → ?Q2 .next ((S, aS) :: (L, .frame loc) :: wled k s rest)) →
        WLoop C _ _ _ _ (N.map prV) ((S, aS) :: (L, .frame loc) :: wled k s rest) ?Q2) _ loc hp2 l1 l2 l4 ?_ ?_
      · intro N
        induction N with
        | nil => intro loc _ l1 l2 l4 _ hn; exact wl_nil (hn rfl loc l1 l2)
        | cons e N ih =>
          intro loc hz l1 l2 l4 hs hn
          have hze := hz e List.mem_cons_self
          have hz' : ∀ e ∈ N, e.2.length ≤ 1000 := fun e he => hz e (.tail _ he)
          refine wl_cons (wa_tup2 (unp_tup (vs := [.str e.1, .str e.2]) tv_fz) ?_)
          refine wn_local (by walk_at "up") ?_; refine wn_local (by walk_at "up") ?_; refine ws_cons' ?_; refine wx_if ?_; refine wt_cmp ?_; refine we_local (by walk_at "mem") (by walk_at "lkp") ?_; refine we_local (by walk_at "mem") (by walk_at "lkp") ?_; refine wc_eq_str ?_; refine tr_bool ?_
          by_cases h1 : (e.1 == uri) = true
          · refine ift h1 ?_
            refine ws_cons' ?_; refine wx_expr ?_; refine we_mcall ?_; refine we_last ?_; refine we_attr ?_; refine we_local (by walk_at "mem") (by walk_at "lkp") ?_; refine ga_own (cls1 (by assumption)) ⟨_, by walk_at "mem", by walk_at "mem"⟩ (by rfl) (by rfl) (fun _ e => by cases e) ?_
            refine ⟨_, _, _, lv_own (by walk_at "mem"), (by rw [hd]; exact refs_last _ _ _), ?_⟩
            have U := up_decl (k := k) (rest := rest) (l' := l ++ [(uri, e.2)]) hd
            refine wm_lappend (lv_own (.tail _ (.tail _ U.mem))) ?_
            refine wa_cons ?_; refine we_tuple ?_; refine wa_cons ?_; refine we_local (by walk_at "mem") (by walk_at "lkp") ?_; refine wa_cons ?_; refine we_local (by walk_at "mem") (by walk_at "lkp") ?_; refine wa_nil ?_
            refine ⟨by rw [sizeLine_eq]; simp, ?_⟩
            refine wa_nil ?_; refine wall_nil ?_
            have hll : l.length ≤ 2000 := by
              refine Nat.le_trans ?_ hz2
              rw [hd]; unfold flat; simp
            refine ⟨kept_builtin, wc_append (vs := l.map prV) (w := prV (uri, e.2)) (led' := _ :: _ :: wled k { s with decl := d0 ++ [(a, l ++ [(uri, e.2)])] } rest) (.tail (.tail ?_)) (by rw [sizeLine_eq, List.length_map]; walk_at "om") ?_⟩
            · have U2 := U
              rw [List.map_append] at U2
              exact U2
            refine nx_next ?_; refine ws_cons' ?_; refine wx_ret ?_; refine we_tuple ?_; refine wa_cons ?_; refine we_nm (by walk_at "mem") (by walk_at "lkp") (by walk_at "lkp") (by assumption) (by assumption) ?_; refine wa_cons ?_; refine we_local (by walk_at "mem") (by walk_at "lkp") ?_; refine wa_cons ?_; refine we_local (by walk_at "mem") (by walk_at "lkp") ?_; refine wa_nil ?_
            refine ⟨by rw [sizeLine_eq]; simp, ?_⟩
            refine nx_ret ?_; refine nx_ret ?_; refine lk_ret ?_; refine nx_ret ?_
            exact hs e (by rw [List.find?_cons, h1]) _ _
          · have h1' : (e.1 == uri) = false := by simpa using h1
            refine iff' h1' ?_
            refine ws_nil ?_; refine nx_next ?_; refine ws_nil ?_; refine lk_next ?_
            exact ih _ hz' (by walk_at "lkp") (by walk_at "lkp") (by walk_at "lkp") (fun e' he => hs e' (by rw [List.find?_cons, h1']; exact he)) fun hq => hn (by rw [List.find?_cons, h1']; exact hq)
      · intro e he l1 l2
        rw [he] at hr
        cases hr
        refine nx_ret ?_
        exact ⟨_, .cons _ (.cons _ (.refl _)), h⟩
      · intro he loc l1 l2
        rw [he] at hr
        simp only at hr
        refine nx_next ?_; refine ws_cons' ?_; refine wx_if ?_; refine wt_not ?_; refine wt_val ?_; refine we_local (by walk_at "mem") (by walk_at "lkp") ?_; refine tr_str (by walk_at "om") ?_
        by_cases g1 : (!((uri.length : Int) != 0)) = true
        · refine ift g1 ?_
          rw [if_pos g1] at hr
          cases hr
          refine ws_cons' ?_; refine wx_ret ?_; refine we_tuple ?_; refine wa_cons ?_; refine we_local (by walk_at "mem") (by walk_at "lkp") ?_; refine wa_cons ?_; refine we_local (by walk_at "mem") (by walk_at "lkp") ?_; refine wa_cons ?_; refine we_local (by walk_at "mem") (by walk_at "lkp") ?_; refine wa_nil ?_
          refine ⟨by rw [sizeLine_eq]; simp, ?_⟩
          refine nx_ret ?_; refine nx_ret ?_
          rw [hn0] at h
          exact ⟨_, .cons _ (.cons _ (.refl _)), h⟩
        · rw [if_neg g1] at hr
          cases hr
end
section
noncomputable abbrev pl (p : Str × Str) : List Str := [p.1, p.2]
noncomputable def sortP (ps : List (Str × Str)) : List (Str × Str) := (ordIx (ksLt (ps.map pl)) ps.length).map fun i => ps.getD i (Str.empty, Str.empty)
theorem map_getD {α β : Type} (f : α → β) (l : List α) (a : α) (b : β) (ix : List Nat) (h : ∀ i ∈ ix, i < l.length) : ix.map (fun i => (l.map f).getD i b) = (ix.map fun i => l.getD i a).map f := by
  rw [List.map_map]
  exact List.map_congr_left fun i hi => getD_map f l i a b (h i hi)
theorem sortV_pairs (ps : List (Str × Str)) : sortV (ps.map pl) (ps.map prV) = (sortP ps).map prV := by
  unfold sortV sortP
  rw [List.length_map]
  exact map_getD prV ps _ _ _ fun i hi => ordIx_lt i hi
theorem pairs_VT (ps : List (Str × Str)) : (ps.map pl).map VT = ps.map prV := by rw [List.map_map]; rfl
theorem sortP_perm (ps : List (Str × Str)) : (sortP ps).Perm ps := by
  unfold sortP
  have h := ordIx_perm (ksLt (ps.map pl)) ps.length
  refine (h.map _).trans ?_
  have : (List.range ps.length).map (fun i => ps.getD i (Str.empty, Str.empty)) = ps := by
    refine List.ext_getElem (by simp) fun i h1 h2 => ?_
    simp at h1
    simp [h1]
  rw [this]
theorem sortP_length (ps : List (Str × Str)) : (sortP ps).length = ps.length := (sortP_perm ps).length_eq
end
section
theorem repL_flat (c : Nat) (z : List Nat) (g : Nat → List Nat) (l : List Nat) : repL c z (l.flatMap g) = l.flatMap fun x => repL c z (g x) := by
  unfold repL
  rw [List.flatMap_assoc]
theorem rep_toList (c : Nat) (z x : Str) : (rep c z x).cps.toList = repL c z.cps.toList x.cps.toList := by simp [rep]
theorem repL_def (c : Nat) (z l : List Nat) : repL c z l = l.flatMap fun x => repL c z [x] := by
  unfold repL
  simp
noncomputable def escA1 (x : Nat) : List Nat := repL 13 (Str.ofString "&#xD;").cps.toList (repL 10 (Str.ofString "&#xA;").cps.toList (repL 9 (Str.ofString "&#x9;").cps.toList (repL 34 (Str.ofString "&quot;").cps.toList (repL 60 (Str.ofString "&lt;").cps.toList (repL 38 (Str.ofString "&amp;").cps.toList [x])))))
noncomputable def escC1 (x : Nat) : List Nat := repL 13 (Str.ofString "&#xD;").cps.toList (repL 62 (Str.ofString "&gt;").cps.toList (repL 60 (Str.ofString "&lt;").cps.toList (repL 38 (Str.ofString "&amp;").cps.toList [x])))
theorem escA1_of (x : Nat) : escA1 x = if x = 38 then (Str.ofString "&amp;").cps.toList else if x = 60 then (Str.ofString "&lt;").cps.toList else if x = 34 then (Str.ofString "&quot;").cps.toList else if x = 9 then (Str.ofString "&#x9;").cps.toList else if x = 10 then (Str.ofString "&#xA;").cps.toList else if x = 13 then (Str.ofString "&#xD;").cps.toList else [x] := by
  by_cases h1 : x = 38
  · subst h1; decide
  by_cases h2 : x = 60
  · subst h2; decide
  by_cases h3 : x = 34
  · subst h3; decide
  by_cases h4 : x = 9
  · subst h4; decide
  by_cases h5 : x = 10
  · subst h5; decide
  by_cases h6 : x = 13
  · subst h6; decide
  rw [if_neg h1, if_neg h2, if_neg h3, if_neg h4, if_neg h5, if_neg h6]
  unfold escA1
  rw [repL_free 38 _ [x] (by simp; walk_at "om"), repL_free 60 _ [x] (by simp; walk_at "om"), repL_free 34 _ [x] (by simp; walk_at "om"), repL_free 9 _ [x] (by simp; walk_at "om"), repL_free 10 _ [x] (by simp; walk_at "om"), repL_free 13 _ [x] (by simp; walk_at "om")]
theorem flat_len {f : Nat → List Nat} (h : ∀ x, (f x).length ≤ 6) : ∀ l : List Nat, (l.flatMap f).length ≤ 6 * l.length
  | [] => by simp
  | a :: r => by
    have := flat_len h r
    have := h a
    simp only [List.flatMap_cons, List.length_append, List.length_cons]
    walk_at "om"
theorem escA1_len (x : Nat) : (escA1 x).length ≤ 6 := by
  rw [escA1_of]
  repeat' split
  all_goals first | decide | simp
end
section
theorem escA_flat (t : Str) : (escA t).cps.toList = t.cps.toList.flatMap escA1 := by
  unfold escA
  rw [rep_toList, rep_toList, rep_toList, rep_toList, rep_toList, rep_toList, repL_def 38, repL_flat, repL_flat, repL_flat, repL_flat, repL_flat]
  rfl
theorem escC_flat (t : Str) : (escC t).cps.toList = t.cps.toList.flatMap escC1 := by
  unfold escC
  rw [rep_toList, rep_toList, rep_toList, rep_toList, repL_def 38, repL_flat, repL_flat, repL_flat]
  rfl
theorem escA_len (t : Str) : (escA t).length ≤ 6 * t.length := by
  have h := flat_len escA1_len t.cps.toList
  rw [← escA_flat] at h
  simpa [Str.length] using h
end
section
noncomputable def stFd (P : Params) : FuncData := Subtype.val (p := fun fd => ∃ o, (hd1.heap_1 P).lookup 126 = some o ∧ o.data = .func fd) ⟨_, _, rfl, rfl⟩
noncomputable def stBody (P : Params) : List Stmt := Subtype.val (p := fun b => (stFd P).body = .stmts b) ⟨_, rfl⟩
noncomputable def wled0 (k : KA) (s : St) (rd rn : List V) (rest : Led) : Led :=
  (k.x, .obj (instObj 150 k.dx)) :: (k.dx, .dict (esW k s.seen s.done)) :: (k.dl, .list (s.data.map V.str)) :: (k.dd, .list rd) :: (k.dn, .list rn) ::
  (k.pm, .dict (s.pmap.map fun p => (p.1, .str p.2))) :: (k.ps, .list (s.ps.map V.bool)) :: (k.po, .list (s.out.map V.str)) :: (k.b, .obj (bndO k.po)) :: (k.f, .obj k.fo) :: (k.c, .obj k.oc) ::
  (ents s.decl ++ (ents s.ns ++ (wtab s.tb ++ rest)))
theorem perm_in (a : Addr × AO) (P A B R : Led) : (a :: (P ++ (A ++ (B ++ R)))).Perm (P ++ (A ++ ((B ++ [a]) ++ R))) := by
  have h1 : (a :: (P ++ (A ++ (B ++ R)))) = [a] ++ ((P ++ A ++ B) ++ R) := by simp
  have h2 : (P ++ (A ++ ((B ++ [a]) ++ R))) = ((P ++ A ++ B) ++ ([a] ++ R)) := by simp
  rw [h1, h2]
  exact List.perm_append_comm_assoc _ _ _
theorem perm_newns {k : KA} {s : St} {rest : Led} {a : Addr} : ((a, AO.list []) :: wled0 k s (refsOf s.decl) (refsOf s.ns ++ [.ref a]) rest).Perm (wled k { s with ns := s.ns ++ [(a, [])] } rest) := by
  unfold wled0 wled
  dsimp only
  rw [refs_last, ents_append]
  exact perm_in (a, .list []) [_, _, _, _, _, _, _, _, _, _, _] (ents s.decl) (ents s.ns) (wtab s.tb ++ rest)
theorem perm_newdecl {k : KA} {s : St} {rest : Led} {a : Addr} : ((a, AO.list []) :: wled0 k s (refsOf s.decl ++ [.ref a]) (refsOf s.ns) rest).Perm (wled k { s with decl := s.decl ++ [(a, [])] } rest) := by
  unfold wled0 wled
  dsimp only
  rw [refs_last, ents_append]
  exact perm_in (a, .list []) [_, _, _, _, _, _, _, _, _, _, _] [] (ents s.decl) (ents s.ns ++ (wtab s.tb ++ rest))
theorem sub_popdecl {k : KA} {s : St} {rest : Led} {d0 : Stk} {e : Addr × List (Str × Str)} (h : s.decl = d0 ++ [e]) {n0 : Stk} {e' : Addr × List (Str × Str)} (h' : s.ns = n0 ++ [e']) :
    (wled k { s with decl := d0, ns := n0 } rest).Sublist (wled0 k s (refsOf d0) (refsOf n0) rest) := by
  unfold wled0 wled
  dsimp only
  rw [h, h', ents_append, ents_append]
  refine .cons₂ _ (.cons₂ _ (.cons₂ _ (.cons₂ _ (.cons₂ _ (.cons₂ _ (.cons₂ _ (.cons₂ _ (.cons₂ _ (.cons₂ _ (.cons₂ _ ?_))))))))))
  exact (List.sublist_append_left _ _).append ((List.sublist_append_left _ _).append (.refl _))
theorem wx_asattr {o : Expr} {attr : Str} {p' p : Pos} {value : Expr} {Q : F → Led → Prop} (h : WE C n X env value led fun v led1 => WE C n X env o led1 fun ov led2 => W2 C n X RU (fun o v => setAttr o attr v) ov v led2 fun _ led3 => Q .next led3)
    (hs : swapsWithSole [.Attribute o attr p'] value p.line env = pure false := by kernel_rfl) (hw : swappedStores [.Attribute o attr p'] value env = pure none := by kernel_rfl) : WX C n X env (.Assign [.Attribute o attr p'] value p) led Q :=
  wx_assigns (W.mono h fun v l z => show W1 C n X RU (assign (.Attribute o attr p') env) v l fun _ led2 => Q .next led2 from wa_attr z) hs hw
theorem sa_own' {x K dx : Addr} {es es' : List (Str × V)} {Fg : Frag} {name : Str} {v : V} {Q : Unit → Led → Prop} (c : Cls C Fg K) (i : Inst C led x K dx es) (ht : takerIn Fg K name = some none) (hz : es.length ≤ 900) (he : stE es name v = es')
    {led' : Led} (U : Up dx (.dict es) (.dict es') led led') (h : Q () led') : W2 C n X RU (fun o v => setAttr o name v) (.ref x) v led Q := sa_own c i ht hz (he ▸ U) h
theorem stE_seen (k : KA) (a b : Bool) : stE (esW k a b) (Str.ofString "_root_seen") (.bool true) = esW k true b := by rfl
theorem wg_nil {target : Expr} {ifs : List Expr} {inner : Led → (Led → Prop) → Prop} {lean : Led → Prop} {Q : Led → Prop} (hl : lean led) (h : Q led) : WGenO C n env target ifs inner lean [] led Q := ⟨hl, h⟩
theorem wg_cons0 {target : Expr} {inner : Led → (Led → Prop) → Prop} {lean : Led → Prop} {Q : Led → Prop} {v : V} {r : List V} (hl : lean led) (h : W1 C n NoX RU (assign target env) v led fun _ led1 => inner led1 fun led2 => WGenO C n env target [] inner lean r led2 Q) :
    WGenO C n env target [] inner lean (v :: r) led Q := ⟨hl, h⟩
theorem wg_cons1 {target c : Expr} {inner : Led → (Led → Prop) → Prop} {lean : Led → Prop} {Q : Led → Prop} {v : V} {r : List V} (hl : lean led)
    (h : W1 C n NoX RU (assign target env) v led fun _ led1 => WT C n NoX env c led1 fun b led2 => if b then inner led2 (fun led3 => WGenO C n env target [c] inner lean r led3 Q) else WGenO C n env target [c] inner lean r led2 Q) :
    WGenO C n env target [c] inner lean (v :: r) led Q := ⟨hl, fun A Φ s x hA S hx => wpAny_mono (h A Φ s x hA S hx) (fun _ _ ⟨Φ', b, l, q1, q2, q3, q4⟩ => ⟨Φ', b, l, q1, q2, q3, W.mono q4 fun f l z => by cases f <;> exact z⟩) fun _ _ e => e⟩
noncomputable def atT (p : Str × Str) : Str := Str.empty ++ Str.ofString " " ++ p.1 ++ Str.ofString "=\"" ++ escA p.2 ++ Str.ofString "\""
noncomputable def outC (tx : Str) (al : List (Str × Str)) : List Str := [Str.ofString "<" ++ tx] ++ (if al = [] then [] else [catAll (al.map atT)]) ++ [Str.ofString ">"]
noncomputable abbrev strD (es : List (Str × Str)) : List (Str × V) := es.map fun kv => (kv.1, V.str kv.2)
theorem atT_len {e : Str × Str} (h : e.1.length ≤ 1000 ∧ e.2.length ≤ 100) : (atT e).length ≤ 1700 := by
  unfold atT
  rw [slen_append, slen_append, slen_append, slen_append, slen_append]
  have := escA_len e.2
  have : Str.empty.length = 0 := rfl
  have : (Str.ofString " ").length = 1 := rfl
  have : (Str.ofString "=\"").length = 2 := rfl
  have : (Str.ofString "\"").length = 1 := rfl
  walk_at "om"
theorem al_room0 : ∀ (al : List (Str × Str)), (∀ e ∈ al, e.1.length ≤ 1000 ∧ e.2.length ≤ 100) → ((al.map atT).map Str.length).sum ≤ al.length * 1700
  | [], _ => by simp
  | e :: r, h => by
    have h1 := atT_len (h e List.mem_cons_self)
    have h2 := al_room0 r fun e he => h e (.tail _ he)
    simp only [List.map_cons, List.sum_cons, List.length_cons, Nat.add_mul]
    walk_at "om"
theorem al_room (al : List (Str × Str)) (hl : al.length ≤ 60) (h : ∀ e ∈ al, e.1.length ≤ 1000 ∧ e.2.length ≤ 100) : ((al.map atT).map Str.length).sum ≤ 16777216 := by
  have := al_room0 al h
  have : al.length * 1700 ≤ 60 * 1700 := Nat.mul_le_mul_right _ hl
  walk_at "om"
theorem partC {k : KA} {s : St} {ps0 : List Bool} {pb : Bool} {L c c0 AL PD : Addr} {pd : List (Str × V)} {al ats : List (Str × Str)} {loc : List (Str × V)} {tag tx tg ur : Str} {rest : Led} {Q : F → Led → Prop} (G : Gr C)
    (l2 : loc.lookup (Str.ofString "attrs") = some (.dct (strD ats))) (l3 : loc.lookup (Str.ofString "tag") = some (.str tag)) (l4 : loc.lookup (Str.ofString "parsed_qnames") = some (.ref PD))
    (l5 : loc.lookup (Str.ofString "attr_list") = some (.ref AL)) (l6 : loc.lookup (Str.ofString "qname_text") = some .none)
    (hsp : (strD ats).lookup (Str.ofString "{http://www.w3.org/XML/1998/namespace}space") = none) (hps : s.ps = ps0 ++ [pb]) (hz1 : s.ps.length ≤ 1000) (hz2 : s.out.length ≤ 9000) (hz3 : s.ns.length ≤ 1000) (hpd : pd.lookup tag = some (VT [tx, tg, ur])) (htx : tx.length ≤ 2000)
    (hal : al.length ≤ 60) (hal2 : ∀ e ∈ al, e.1.length ≤ 1000 ∧ e.2.length ≤ 100)
    (h : ∀ aN, Q .next (wled k { s with ps := s.ps ++ [pb], out := s.out ++ outC tx al, seen := true, ns := s.ns ++ [(aN, [])] } rest)) :
    WS C (n + 1) NoX (fenv (stFd C.w.params) 126 L [(Str.ofString "parse_qname", c), (Str.ofString "self", c0)]) ((stBody C.w.params).drop 9) ((AL, .list (al.map prV)) :: (PD, .dict pd) :: (c0, .cell (some (.ref k.x))) :: (L, .frame loc) :: wled k s rest) (fun f l => ∃ l1 : Led, l1.Sublist l ∧ ∃ l2, l1.Perm l2 ∧ Q f l2) := by
  dsimp only [fenv, stFd, stBody, List.drop]
  refine ws_cons' ?_; refine wx_assign ?_; refine we_mcall ?_; refine we_local (by walk_at "mem") (by walk_at "lkp") ?_; refine wm_dget dv_fz ?_; refine wa_cons ?_; refine we_str ?_; refine wa_nil ?_; refine wall_nil ?_
  refine ⟨kept_builtin, wc_getN dv_fz hsp ?_⟩
  refine wn_local (by walk_at "up") ?_; refine nx_next ?_; refine ws_cons' ?_; refine wx_expr ?_; refine we_mcall ?_; refine we_attr ?_; refine we_cell (by rfl) (by walk_at "mem") ?_; refine ga_own (cls1 (by assumption)) ⟨_, by walk_at "mem", by walk_at "mem"⟩ (by rfl) (by rfl) (fun _ e => by cases e) ?_; refine wm_lappend (lv_own (by walk_at "mem")) ?_; refine wa_cons ?_; refine we_ife ?_; refine wt_val ?_; refine we_local (by walk_at "mem") (by walk_at "lkp") ?_; refine tr_none ?_; refine iff' (by rfl) ?_; refine we_last ?_; refine we_attr ?_; refine we_cell (by rfl) (by walk_at "mem") ?_; refine ga_own (cls1 (by assumption)) ⟨_, by walk_at "mem", by walk_at "mem"⟩ (by rfl) (by rfl) (fun _ e => by cases e) ?_
  refine ⟨_, _, _, lv_own (by walk_at "mem"), (by rw [hps, List.map_append]; rfl), ?_⟩
  refine wa_nil ?_; refine wall_nil ?_
  refine ⟨kept_builtin, wc_append (by walk_at "up") (by rw [sizeLine_eq, List.length_map]; walk_at "om") ?_⟩
  refine nx_next ?_; refine ws_cons' ?_; refine wx_assign ?_; refine we_attr ?_; refine we_cell (by rfl) (by walk_at "mem") ?_; refine ga_own (cls1 (by assumption)) ⟨_, by walk_at "mem", by walk_at "mem"⟩ (by rfl) (by rfl) (fun _ e => by cases e) ?_; refine wn_local (by walk_at "up") ?_; refine nx_next ?_; refine ws_cons' ?_; refine wx_expr ?_; refine we_call ?_; refine we_local (by walk_at "mem") (by walk_at "lkp") ?_; refine wa_cons ?_; refine we_bin ?_; refine we_str ?_
  refine we_tsub (we_dsub ?_)
  refine we_local (by walk_at "mem") (by walk_at "lkp") ?_; refine we_local (by walk_at "mem") (by walk_at "lkp") ?_
  refine ⟨pd, tag, _, dv_own (by walk_at "mem"), rfl, hpd, _, _, tv_fz, rfl, ?_⟩
  refine wb_cat (by rw [sizeLine_eq]; have : (Str.ofString "<").length = 1 := rfl
                    walk_at "om") ?_
  refine wa_nil ?_; refine wall_nil ?_
  refine ⟨kept_bnd (by walk_at "mem") rfl rfl, wc_bnd (by walk_at "mem") (by walk_at "up") (by rw [sizeLine_eq, List.length_map]; walk_at "om") ?_⟩
  refine nx_next ?_; refine ws_cons' ?_; refine wx_if ?_; refine wt_val ?_; refine we_local (by walk_at "mem") (by walk_at "lkp") ?_
  refine tr_list (lv_own (by walk_at "mem")) (by rw [List.length_map]; walk_at "om") ?_
  by_cases h0 : al = []
  · refine iff' (by rw [h0]; rfl) (ws_nil ?_)
    refine nx_next ?_; refine ws_cons' ?_; refine wx_expr ?_; refine we_call ?_; refine we_local (by walk_at "mem") (by walk_at "lkp") ?_; refine wa_cons ?_; refine we_str ?_; refine wa_nil ?_; refine wall_nil ?_
    refine ⟨kept_bnd (by walk_at "mem") rfl rfl, wc_bnd (by walk_at "mem") (by walk_at "up") (by rw [sizeLine_eq]; simp; walk_at "om") ?_⟩
    refine nx_next ?_; refine ws_cons' ?_; refine wx_if ?_; refine wt_cmp ?_; refine we_local (by walk_at "mem") (by walk_at "lkp") ?_; refine we_none ?_; refine wc_isnot_none trivial ?_; refine tr_bool ?_; refine iff' (by rfl) ?_; refine ws_nil ?_; refine nx_next ?_; refine ws_cons' ?_
    refine wx_asattr ?_
    refine we_bool ?_; refine we_cell (by rfl) (by walk_at "mem") ?_
    refine sa_own' (cls1 G) (by walk_at "inst") (by rfl) (by show 18 ≤ 900; decide) (stE_seen k _ _) (by walk_at "up") ?_
    refine nx_next ?_; refine ws_cons' ?_; refine wx_expr ?_; refine we_mcall ?_; refine we_attr ?_; refine we_cell (by rfl) (by walk_at "mem") ?_; refine ga_own (cls1 (by assumption)) ⟨_, by walk_at "mem", by walk_at "mem"⟩ (by rfl) (by rfl) (fun _ e => by cases e) ?_; refine wm_lappend (lv_own (by walk_at "mem")) ?_; refine wa_cons ?_
    refine we_list ?_
    refine wa_nil ?_
    refine ⟨by rw [sizeLine_eq]; simp, fun aN => ?_⟩
    refine wa_nil ?_; refine wall_nil ?_
    refine ⟨kept_builtin, wc_append (by walk_at "up") (by rw [sizeLine_eq, List.length_map]; walk_at "om") ?_⟩
    refine nx_next ?_; refine ws_nil ?_
    refine ⟨_, .cons₂ _ (.cons _ (.cons _ (.cons _ (.cons _ (.refl _))))), _, ?_, h aN⟩
    have P := perm_newns (k := k) (s := { s with ps := s.ps ++ [pb], out := s.out ++ outC tx al, seen := true }) (rest := rest) (a := aN)
    unfold wled0 at P
    simp only [outC, h0, if_pos, List.map_append, List.map_cons, List.map_nil, List.append_assoc, List.append_nil, List.nil_append, List.cons_append, outC] at P ⊢
    exact P
  · refine ift (by cases al with | nil => exact absurd rfl h0 | cons _ _ => rfl) ?_
    refine ws_cons' ?_; refine wx_expr ?_; refine we_call ?_; refine we_local (by walk_at "mem") (by walk_at "lkp") ?_; refine wa_cons ?_; refine we_mcall ?_; refine we_str ?_; refine wm_join ?_; refine wa_cons ?_
    refine we_lcompO (cl := []) ?_
    refine we_local (by walk_at "mem") (by walk_at "lkp") ?_
    refine ⟨_, _, it_own (vs := al.map prV) (by walk_at "mem"), by walk_at "mem", fun acc L' => wcells_id rfl ?_⟩
    refine (?_ : ∀ (al' : List (Str × Str)) (done : List Str) (loc' : List (Str × V)), (∀ e ∈ al', e.1.length ≤ 1000 ∧ e.2.length ≤ 100) → done.length + al'.length ≤ 60 → (∀ loc', ?Q3 ((L', .frame loc') :: (acc, .list ((done ++ al'.map atT).map V.str)) :: (AL, .list (al.map prV)) :: ?R3)) →
      WGenO C _ _ _ _ _ _ (al'.map prV) ((L', .frame loc') :: (acc, .list (done.map V.str)) :: (AL, .list (al.map prV)) :: ?R3) ?Q3) al [] [] hal2 (by simpa using hal) ?_
    · intro al'
      induction al' with
      | nil => intro done loc' _ _ hq; exact wg_nil (by walk_at "mem") (by simpa using hq loc')
      | cons e al' ih =>
        intro done loc' hz hl hq
        refine wg_cons0 (by walk_at "mem") (wa_tup2 (unp_tup (vs := [.str e.1, .str e.2]) tv_fz) ?_)
        refine wn_local (by walk_at "up") ?_; refine wn_local (by walk_at "up") ?_
        have he := hz e List.mem_cons_self
        have hea := escA_len e.2
        show WE _ _ _ _ _ _ _
        refine we_fstr (we_str ⟨_, rfl, by rw [sizeLine_eq]; decide, ?_⟩)
        refine we_fval (we_local (by walk_at "mem") (by walk_at "lkp") ⟨_, rfl, by rw [sizeLine_eq]; walk_at "om", ⟨_, rfl, ?_, ?_⟩⟩)
        · rw [slen_append, sizeLine_eq]
          have : Str.empty.length = 0 := rfl
          have : (Str.ofString " ").length = 1 := rfl
          walk_at "om"
        refine we_str ⟨_, rfl, ?_, ?_⟩
        · rw [slen_append, slen_append, sizeLine_eq]
          have : Str.empty.length = 0 := rfl
          have : (Str.ofString " ").length = 1 := rfl
          have : (Str.ofString "=\"").length = 2 := rfl
          walk_at "om"
        refine we_fval ?_
        refine we_call ?_; refine we_glob (glob1 (by assumption) (by rfl)) ?_; refine wa_cons ?_; refine we_local (by walk_at "mem") (by walk_at "lkp") ?_; refine wa_nil ?_; refine wall_nil ?_
        refine ⟨kept_base (G.inn 168 _ rfl) rfl, (esc_attrib G he.2 ?_).wc⟩
        refine ⟨_, rfl, by rw [sizeLine_eq]; walk_at "om", ⟨_, rfl, ?_, ?_⟩⟩
        · rw [slen_append, slen_append, slen_append, sizeLine_eq]
          have : Str.empty.length = 0 := rfl
          have : (Str.ofString " ").length = 1 := rfl
          have : (Str.ofString "=\"").length = 2 := rfl
          walk_at "om"
        refine we_str ⟨_, rfl, ?_, ?_⟩
        · rw [slen_append, slen_append, slen_append, slen_append, sizeLine_eq]
          have : Str.empty.length = 0 := rfl
          have : (Str.ofString " ").length = 1 := rfl
          have : (Str.ofString "=\"").length = 2 := rfl
          have : (Str.ofString "\"").length = 1 := rfl
          walk_at "om"
        refine wc_append (by walk_at "up") (by rw [sizeLine_eq, List.length_map]; simp at hl; walk_at "om") ?_
        have hl' : (done ++ [atT e]).length + al'.length ≤ 60 := by simp at hl ⊢; walk_at "om"
        have := ih (done ++ [atT e]) (setLoc (setLoc loc' (Str.ofString "k") (V.str e.1)) (Str.ofString "v") (V.str e.2)) (fun e' he' => hz e' (.tail _ he')) hl' (fun loc'' => by
          have := hq loc''
          simp only [List.map_cons, List.append_assoc, List.singleton_append] at this ⊢
          exact this)
        rw [List.map_append] at this
        exact this
    · intro loc'
      refine ⟨_, _, .head, ?_⟩
      refine wa_nil ?_; refine wall_nil ?_
      refine ⟨kept_builtin, wc_join (ss := al.map atT) (lv_own (by walk_at "mem")) ?_ ?_⟩
      · rw [catAll_length, sizeLine_eq]
        exact al_room al hal hal2
      refine wa_nil ?_; refine wall_nil ?_
      refine ⟨kept_bnd (by walk_at "mem") rfl rfl, wc_bnd (by walk_at "mem") (by walk_at "up") (by rw [sizeLine_eq]; simp; walk_at "om") ?_⟩
      refine nx_next ?_; refine ws_nil ?_; refine nx_next ?_; refine ws_cons' ?_; refine wx_expr ?_; refine we_call ?_; refine we_local (by walk_at "mem") (by walk_at "lkp") ?_; refine wa_cons ?_; refine we_str ?_; refine wa_nil ?_; refine wall_nil ?_
      refine ⟨kept_bnd (by walk_at "mem") rfl rfl, wc_bnd (by walk_at "mem") (by walk_at "up") (by rw [sizeLine_eq]; simp; walk_at "om") ?_⟩
      refine nx_next ?_; refine ws_cons' ?_; refine wx_if ?_; refine wt_cmp ?_; refine we_local (by walk_at "mem") (by walk_at "lkp") ?_; refine we_none ?_; refine wc_isnot_none trivial ?_; refine tr_bool ?_; refine iff' (by rfl) ?_; refine ws_nil ?_; refine nx_next ?_; refine ws_cons' ?_
      refine wx_asattr ?_
      refine we_bool ?_; refine we_cell (by rfl) (by walk_at "mem") ?_
      refine sa_own' (cls1 G) (by walk_at "inst") (by rfl) (by show 18 ≤ 900; decide) (stE_seen k _ _) (by walk_at "up") ?_
      refine nx_next ?_; refine ws_cons' ?_; refine wx_expr ?_; refine we_mcall ?_; refine we_attr ?_; refine we_cell (by rfl) (by walk_at "mem") ?_; refine ga_own (cls1 (by assumption)) ⟨_, by walk_at "mem", by walk_at "mem"⟩ (by rfl) (by rfl) (fun _ e => by cases e) ?_; refine wm_lappend (lv_own (by walk_at "mem")) ?_; refine wa_cons ?_
      refine we_list ?_
      refine wa_nil ?_
      refine ⟨by rw [sizeLine_eq]; simp, fun aN => ?_⟩
      refine wa_nil ?_; refine wall_nil ?_
      refine ⟨kept_builtin, wc_append (by walk_at "up") (by rw [sizeLine_eq, List.length_map]; walk_at "om") ?_⟩
      refine nx_next ?_; refine ws_nil ?_
      refine ⟨_, .cons₂ _ (.cons _ (.cons _ (.cons _ (.cons _ (.cons _ (.refl _)))))), _, ?_, h aN⟩
      have P := perm_newns (k := k) (s := { s with ps := s.ps ++ [pb], out := s.out ++ outC tx al, seen := true }) (rest := rest) (a := aN)
      unfold wled0 at P
      simp only [outC, if_neg h0, List.map_append, List.map_cons, List.map_nil, List.append_assoc, List.append_nil, List.nil_append, List.cons_append, outC] at P ⊢
      exact P
end
section
theorem wm_ditems {v : V} {es : List (Str × V)} {Q : V × List V → Led → Prop} (hd : DictV C led v es) (h : Q (.val (.builtin "dict.items"), [v]) led) : WM C n X (Str.ofString "items") v led Q := wm_builtin (ty_dict hd) F.plainAttrs_dict F.slot_dict_items F.type_dict_items h
theorem wx_tup3 {x y z : Str} {p1 p2 p3 p4 p : Pos} {k : Nat} {value : Expr} {Q : F → Led → Prop} (h : WE C n X env value led fun v led1 => ∃ v1 v2 v3, UnpV C led1 v [v1, v2, v3] ∧ W1 C n X RU (assign (.Name x p1) env) v1 led1 fun _ led2 => W1 C n X RU (assign (.Name y p2) env) v2 led2 fun _ led3 => W1 C n X RU (assign (.Name z p3) env) v3 led3 fun _ led4 => Q .next led4)
    (hs : swapsWithSole [.Tuple [.Name x p1, .Name y p2, .Name z p3] k p4] value p.line env = pure false := by kernel_rfl) (hw : swappedStores [.Tuple [.Name x p1, .Name y p2, .Name z p3] k p4] value env = pure none := by kernel_rfl) : WX C n X env (.Assign [.Tuple [.Name x p1, .Name y p2, .Name z p3] k p4] value p) led Q :=
  wx_assigns (W.mono h fun v l ⟨v1, v2, v3, h1, h2⟩ => show W1 C n X RU (assign (.Tuple [.Name x p1, .Name y p2, .Name z p3] k p4) env) v l fun _ led2 => Q .next led2 from wa_tup3 h1 h2) hs hw
theorem ift_both {c : Bool} {A B : Prop} (h1 : c = true → A) (h2 : c = false → B) : if c = true then A else B := by
  cases c
  · exact h2 rfl
  · exact h1 rfl
noncomputable abbrev PQ := Str → Str × Str × Str
noncomputable def atQ (pq : PQ) (e : Str × Str) : Str × Str := (if (((pq e.1).2.2.length : Int) != 0) = true then (pq e.1).1 else (pq e.1).2.1, e.2)
structure COk (s : St) (ps0 : List Bool) (pb : Bool) (ats : List (Str × Str)) : Prop where
  sp : (strD ats).lookup (Str.ofString "{http://www.w3.org/XML/1998/namespace}space") = none
  ps : s.ps = ps0 ++ [pb]
  z1 : s.ps.length ≤ 1000
  z2 : s.out.length ≤ 9000
  z3 : s.ns.length ≤ 1000
theorem partB2 {k : KA} {s : St} {ps0 : List Bool} {pb : Bool} {L c c0 AL PD : Addr} {pd : List (Str × V)} {nl ats : List (Str × Str)} {pq : PQ} {loc : List (Str × V)} {tag : Str} {rest : Led} {Q : F → Led → Prop} (G : Gr C) (co : COk s ps0 pb ats)
    (l2 : loc.lookup (Str.ofString "attrs") = some (.dct (strD ats))) (l3 : loc.lookup (Str.ofString "tag") = some (.str tag)) (l4 : loc.lookup (Str.ofString "parsed_qnames") = some (.ref PD))
    (l5 : loc.lookup (Str.ofString "attr_list") = some (.ref AL)) (l6 : loc.lookup (Str.ofString "qname_text") = some .none) (l7 : loc.lookup (Str.ofString "qattrs") = some .none)
    (hpd : ∀ e ∈ ats, pd.lookup e.1 = some (VT [(pq e.1).1, (pq e.1).2.1, (pq e.1).2.2])) (hpt : pd.lookup tag = some (VT [(pq tag).1, (pq tag).2.1, (pq tag).2.2]))
    (hz : ∀ q, (pq q).1.length ≤ 1000 ∧ (pq q).2.1.length ≤ 1000 ∧ (pq q).2.2.length ≤ 1000) (hats : ats.length ≤ 30) (hat2 : ∀ e ∈ ats, e.2.length ≤ 100) (hnl : nl.length ≤ 30) (hnl2 : ∀ e ∈ nl, e.1.length ≤ 1000 ∧ e.2.length ≤ 100)
    (h : ∀ aN, Q .next (wled k { s with ps := s.ps ++ [pb], out := s.out ++ outC (pq tag).1 (nl ++ (sortP ats).map (atQ pq)), seen := true, ns := s.ns ++ [(aN, [])] } rest)) :
    WS C (n + 1) NoX (fenv (stFd C.w.params) 126 L [(Str.ofString "parse_qname", c), (Str.ofString "self", c0)]) ((stBody C.w.params).drop 8) ((AL, .list (nl.map prV)) :: (PD, .dict pd) :: (c0, .cell (some (.ref k.x))) :: (L, .frame loc) :: wled k s rest) (fun f l => ∃ l1 : Led, l1.Sublist l ∧ ∃ l2, l1.Perm l2 ∧ Q f l2) := by
  have hatq : ∀ e ∈ (sortP ats).map (atQ pq), e.1.length ≤ 1000 ∧ e.2.length ≤ 100 := fun e he => by
    obtain ⟨e', he', rfl⟩ := List.mem_map.mp he
    have := hat2 e' ((sortP_perm ats).mem_iff.mp he')
    have := hz e'.1
    unfold atQ
    refine ⟨?_, by dsimp only; walk_at "om"⟩
    dsimp only
    split <;> walk_at "om"
  have fin : ∀ loc : List (Str × V), loc.lookup (Str.ofString "attrs") = some (.dct (strD ats)) → loc.lookup (Str.ofString "tag") = some (.str tag) → loc.lookup (Str.ofString "parsed_qnames") = some (.ref PD) → loc.lookup (Str.ofString "attr_list") = some (.ref AL) → loc.lookup (Str.ofString "qname_text") = some .none →
      WS C (n + 1) NoX (fenv (stFd C.w.params) 126 L [(Str.ofString "parse_qname", c), (Str.ofString "self", c0)]) ((stBody C.w.params).drop 9) ((AL, .list ((nl ++ (sortP ats).map (atQ pq)).map prV)) :: (PD, .dict pd) :: (c0, .cell (some (.ref k.x))) :: (L, .frame loc) :: wled k s rest) (fun f l => ∃ l1 : Led, l1.Sublist l ∧ ∃ l2, l1.Perm l2 ∧ Q f l2) := fun loc l2 l3 l4 l5 l6 =>
    partC G l2 l3 l4 l5 l6 co.sp co.ps co.z1 co.z2 co.z3 hpt (by have := hz tag; walk_at "om") (by rw [List.length_append, List.length_map, sortP_length]; walk_at "om") (fun e he => (List.mem_append.mp he).elim (hnl2 e) (hatq e)) h
  dsimp only [fenv, stFd, stBody, List.drop] at fin ⊢
  refine ws_cons' ?_; refine wx_if ?_; refine wt_val ?_; refine we_local (by walk_at "mem") (by walk_at "lkp") ?_
  refine tr_dict dv_fz (by rw [List.length_map]; walk_at "om") ?_
  by_cases h0 : ats = []
  · refine iff' (by rw [h0]; rfl) (ws_nil ?_)
    have e : nl ++ (sortP ats).map (atQ pq) = nl := by rw [h0]; exact List.append_nil _
    rw [e] at fin
    exact fin loc l2 l3 l4 l5 l6
  · refine ift (by cases ats with | nil => exact absurd rfl h0 | cons _ _ => rfl) ?_
    refine ws_cons' ?_
    refine wx_for ?_
    refine we_call ?_; refine we_bltn (bltn1 (by assumption) (by rfl) (by rfl) (by decide)) ?_; refine wa_cons ?_; refine we_mcall ?_; refine we_local (by walk_at "mem") (by walk_at "lkp") ?_
    refine wm_ditems dv_fz ?_
    refine wa_nil ?_; refine wall_nil ?_
    refine ⟨kept_builtin, wc_items fun r => ?_⟩
    refine wa_nil ?_; refine wall_nil ?_
    refine ⟨kept_builtin, wc_sorted_items (es := ats) (by walk_at "mem") (by walk_at "om") ?_⟩
    rw [show (List.map (fun kv : Str × Str => [kv.1, kv.2]) ats) = ats.map pl from rfl, pairs_VT, sortV_pairs]
    refine ⟨_, it_lst, ?_⟩
    refine (?_ : ∀ (as dn : List (Str × Str)) (loc : List (Str × V)), (∀ e ∈ as, e ∈ ats) → dn.length + as.length ≤ 60 → loc.lookup (Str.ofString "attrs") = some (.dct (strD ats)) → loc.lookup (Str.ofString "tag") = some (.str tag) → loc.lookup (Str.ofString "parsed_qnames") = some (.ref PD) → loc.lookup (Str.ofString "attr_list") = some (.ref AL) →
        loc.lookup (Str.ofString "qname_text") = some .none → loc.lookup (Str.ofString "qattrs") = some .none →
        (∀ loc : List (Str × V), loc.lookup (Str.ofString "attrs") = some (.dct (strD ats)) → loc.lookup (Str.ofString "tag") = some (.str tag) → loc.lookup (Str.ofString "parsed_qnames") = some (.ref PD) → loc.lookup (Str.ofString "attr_list") = some (.ref AL) → loc.lookup (Str.ofString "qname_text") = some .none →
          ?Q5 .next ((r, .items (strD ats)) :: (AL, .list ((dn ++ as.map (atQ pq)).map prV)) :: (PD, .dict pd) :: (c0, .cell (some (.ref k.x))) :: (L, .frame loc) :: wled k s rest)) →
        WLoop C _ _ _ _ (as.map prV) ((r, .items (strD ats)) :: (AL, .list (dn.map prV)) :: (PD, .dict pd) :: (c0, .cell (some (.ref k.x))) :: (L, .frame loc) :: wled k s rest) ?Q5) (sortP ats) nl loc (fun e he => (sortP_perm ats).mem_iff.mp he) (by rw [sortP_length]; walk_at "om") l2 l3 l4 l5 l6 l7 ?_
    · intro as
      induction as with
      | nil => intro dn loc _ _ l2 l3 l4 l5 l6 _ hq; exact wl_nil (by have := hq loc l2 l3 l4 l5 l6; simpa using this)
      | cons e as ih =>
        intro dn loc hm hl l2 l3 l4 l5 l6 l7 hq
        obtain ⟨z1, z2, z3⟩ := hz e.1
        have hl' : (dn ++ [atQ pq e]).length + as.length ≤ 60 := by simp at hl ⊢; walk_at "om"
        refine wl_cons (wa_tup2 (unp_tup (vs := [.str e.1, .str e.2]) tv_fz) ?_)
        refine wn_local (by walk_at "up") ?_; refine wn_local (by walk_at "up") ?_; refine ws_cons' ?_; refine wx_if ?_; refine wt_and ?_; refine wt_cmp ?_; refine we_local (by walk_at "mem") (by walk_at "lkp") ?_; refine we_none ?_; refine wc_isnot_none trivial ?_; refine tr_bool ?_; refine iff' (by rfl) ?_; refine iff' (by rfl) ?_; refine ws_nil ?_; refine nx_next ?_; refine ws_cons' ?_
        refine wx_tup3 (we_dsub ?_)
        refine we_local (by walk_at "mem") (by walk_at "lkp") ?_; refine we_local (by walk_at "mem") (by walk_at "lkp") ?_
        refine ⟨pd, e.1, _, dv_own (by walk_at "mem"), rfl, hpd e (hm e List.mem_cons_self), _, _, _, unp_tup tv_fz, wa_name ?_⟩
        refine wn_local (by walk_at "up") ?_
        refine wa_name ?_
        refine wn_local (by walk_at "up") ?_
        refine wa_name ?_
        refine wn_local (by walk_at "up") ?_; refine nx_next ?_; refine ws_cons' ?_; refine wx_expr ?_; refine we_mcall ?_; refine we_local (by walk_at "mem") (by walk_at "lkp") ?_; refine wm_lappend (lv_own (by walk_at "mem")) ?_; refine wa_cons ?_; refine we_tuple ?_; refine wa_cons ?_; refine we_ife ?_; refine wt_val ?_; refine we_local (by walk_at "mem") (by walk_at "lkp") ?_; refine tr_str (by walk_at "om") ?_
        have ea : atQ pq e = (if (((pq e.1).2.2.length : Int) != 0) = true then (pq e.1).1 else (pq e.1).2.1, e.2) := rfl
        have nxt := ih (dn ++ [atQ pq e]) (setLoc (setLoc (setLoc (setLoc (setLoc loc (Str.ofString "k") (V.str e.1)) (Str.ofString "v") (V.str e.2)) (Str.ofString "attr_qname") (V.str (pq e.1).1)) (Str.ofString "attr_name") (V.str (pq e.1).2.1)) (Str.ofString "uri") (V.str (pq e.1).2.2)) (fun e' he' => hm e' (.tail _ he')) hl'
          (by walk_at "lkp") (by walk_at "lkp") (by walk_at "lkp") (by walk_at "lkp") (by walk_at "lkp") (by walk_at "lkp") (fun loc a1 a2 a3 a4 a5 => by
            have := hq loc a1 a2 a3 a4 a5
            rw [List.map_cons, List.append_cons] at this
            exact this)
        rw [List.map_append, ea] at nxt
        refine ift_both (fun hc => ?_) (fun hc => ?_)
        · rw [if_pos hc] at nxt
          refine we_local (by walk_at "mem") (by walk_at "lkp") ?_; refine wa_cons ?_; refine we_local (by walk_at "mem") (by walk_at "lkp") ?_; refine wa_nil ?_
          refine ⟨by rw [sizeLine_eq]; simp, ?_⟩
          refine wa_nil ?_; refine wall_nil ?_
          refine ⟨kept_builtin, wc_append (by walk_at "up") (by rw [sizeLine_eq, List.length_map]; simp at hl; walk_at "om") ?_⟩
          refine nx_next ?_; refine ws_nil ?_; refine lk_next ?_
          exact nxt
        · rw [if_neg (by rw [hc]; decide)] at nxt
          refine we_local (by walk_at "mem") (by walk_at "lkp") ?_; refine wa_cons ?_; refine we_local (by walk_at "mem") (by walk_at "lkp") ?_; refine wa_nil ?_
          refine ⟨by rw [sizeLine_eq]; simp, ?_⟩
          refine wa_nil ?_; refine wall_nil ?_
          refine ⟨kept_builtin, wc_append (by walk_at "up") (by rw [sizeLine_eq, List.length_map]; simp at hl; walk_at "om") ?_⟩
          refine nx_next ?_; refine ws_nil ?_; refine lk_next ?_
          exact nxt
    · intro loc l2 l3 l4 l5 l6
      refine nx_next (ws_nil (nx_next ?_))
      exact W.drop (.cons _ (.refl _)) (fin loc l2 l3 l4 l5 l6)
end
section
theorem wm_lsort {v : V} {vs : List V} {Q : V × List V → Led → Prop} (hd : ListV C led v vs) (h : Q (.val (.builtin "list.sort"), [v]) led) : WM C n X (Str.ofString "sort") v led Q := wm_builtin (ty_list hd) F.plainAttrs_list F.slot_list_sort F.type_list_sort h
theorem mem_decl {k : KA} {s : St} {rest : Led} {d0 : Stk} {a : Addr} {l : List (Str × Str)} (h : s.decl = d0 ++ [(a, l)]) : (a, AO.list (l.map prV)) ∈ wled k s rest := (up_decl (l' := l) h).mem
noncomputable def xmT (p : Str) : Str := if ((p.length : Int) != 0) = true then Str.ofString "xmlns:" ++ p else Str.ofString "xmlns"
noncomputable def nsQ (e : Str × Str) : Str × Str := (xmT e.2, e.1)
theorem partB1 {k : KA} {s : St} {ps0 : List Bool} {pb : Bool} {L c c0 a PD : Addr} {pd : List (Str × V)} {d0 : Stk} {l ats : List (Str × Str)} {pq : PQ} {loc : List (Str × V)} {tag : Str} {rest : Led} {Q : F → Led → Prop} (G : Gr C) (co : COk s ps0 pb ats) (hd : s.decl = d0 ++ [(a, l)])
    (l2 : loc.lookup (Str.ofString "attrs") = some (.dct (strD ats))) (l3 : loc.lookup (Str.ofString "tag") = some (.str tag)) (l4 : loc.lookup (Str.ofString "parsed_qnames") = some (.ref PD))
    (l5 : loc.lookup (Str.ofString "new_namespaces") = some (.ref a)) (l6 : loc.lookup (Str.ofString "qname_text") = some .none) (l7 : loc.lookup (Str.ofString "qattrs") = some .none)
    (hpd : ∀ e ∈ ats, pd.lookup e.1 = some (VT [(pq e.1).1, (pq e.1).2.1, (pq e.1).2.2])) (hpt : pd.lookup tag = some (VT [(pq tag).1, (pq tag).2.1, (pq tag).2.2]))
    (hz : ∀ q, (pq q).1.length ≤ 1000 ∧ (pq q).2.1.length ≤ 1000 ∧ (pq q).2.2.length ≤ 1000) (hats : ats.length ≤ 30) (hat2 : ∀ e ∈ ats, e.2.length ≤ 100) (hnl : l.length ≤ 30) (hnl2 : ∀ e ∈ l, e.2.length ≤ 900 ∧ e.1.length ≤ 100)
    (h : ∀ aN, Q .next (wled k { s with ps := s.ps ++ [pb], out := s.out ++ outC (pq tag).1 (sortP (l.map nsQ) ++ (sortP ats).map (atQ pq)), seen := true, ns := s.ns ++ [(aN, [])] } rest)) :
    WS C (n + 1) NoX (fenv (stFd C.w.params) 126 L [(Str.ofString "parse_qname", c), (Str.ofString "self", c0)]) ((stBody C.w.params).drop 7) ((PD, .dict pd) :: (c0, .cell (some (.ref k.x))) :: (L, .frame loc) :: wled k s rest) (fun f l => ∃ l1 : Led, l1.Sublist l ∧ ∃ l2, l1.Perm l2 ∧ Q f l2) := by
  have hx : ∀ e ∈ sortP (l.map nsQ), e.1.length ≤ 1000 ∧ e.2.length ≤ 100 := fun e he => by
    obtain ⟨e', he', rfl⟩ := List.mem_map.mp ((sortP_perm _).mem_iff.mp he)
    have := hnl2 e' he'
    have : (Str.ofString "xmlns:").length = 6 := rfl
    have : (Str.ofString "xmlns").length = 5 := rfl
    unfold nsQ xmT
    refine ⟨?_, by dsimp only; walk_at "om"⟩
    dsimp only
    split
    · rw [slen_append]; walk_at "om"
    · walk_at "om"
  have fin : ∀ (AL : Addr) (loc : List (Str × V)), loc.lookup (Str.ofString "attrs") = some (.dct (strD ats)) → loc.lookup (Str.ofString "tag") = some (.str tag) → loc.lookup (Str.ofString "parsed_qnames") = some (.ref PD) → loc.lookup (Str.ofString "attr_list") = some (.ref AL) → loc.lookup (Str.ofString "qname_text") = some .none → loc.lookup (Str.ofString "qattrs") = some .none →
      WS C (n + 1) NoX (fenv (stFd C.w.params) 126 L [(Str.ofString "parse_qname", c), (Str.ofString "self", c0)]) ((stBody C.w.params).drop 8) ((AL, .list ((sortP (l.map nsQ)).map prV)) :: (PD, .dict pd) :: (c0, .cell (some (.ref k.x))) :: (L, .frame loc) :: wled k s rest) (fun f l => ∃ l1 : Led, l1.Sublist l ∧ ∃ l2, l1.Perm l2 ∧ Q f l2) := fun AL loc l2 l3 l4 l5 l6 l7 =>
    partB2 G co l2 l3 l4 l5 l6 l7 hpd hpt hz hats hat2 (by rw [sortP_length, List.length_map]; walk_at "om") hx h
  dsimp only [fenv, stFd, stBody, List.drop] at fin ⊢
  have hmem := mem_decl (k := k) (rest := rest) hd
  refine ws_cons' ?_; refine wx_if ?_; refine wt_val ?_; refine we_local (by walk_at "mem") (by walk_at "lkp") ?_
  refine tr_list (lv_own (.tail _ (.tail _ (.tail _ hmem)))) (by rw [List.length_map]; walk_at "om") ?_
  by_cases h0 : l = []
  · refine iff' (by rw [h0]; rfl) ?_
    refine ws_cons' (wx_assign (we_list (wa_nil ⟨by rw [sizeLine_eq]; simp, fun AL => wn_local (by walk_at "up") (nx_next (ws_nil (nx_next ?_)))⟩)))
    have := fin AL (setLoc loc (Str.ofString "attr_list") (.ref AL)) (by walk_at "lkp") (by walk_at "lkp") (by walk_at "lkp") (by walk_at "lkp") (by walk_at "lkp") (by walk_at "lkp")
    rw [h0] at this
    exact this
  · refine ift (by cases l with | nil => exact absurd rfl h0 | cons _ _ => rfl) (ws_cons' (wx_lcomp (cl := []) ?_))
    refine we_local (by walk_at "mem") (by walk_at "lkp") ?_
    refine ⟨_, _, it_own (vs := l.map prV) (.tail _ (.tail _ (.tail _ hmem))), .tail _ (.tail _ (.tail _ hmem)), fun acc L' => wcells_id rfl ?_⟩
    refine (?_ : ∀ (al' dn : List (Str × Str)) (loc' : List (Str × V)), (∀ e ∈ al', e.2.length ≤ 900 ∧ e.1.length ≤ 100) → dn.length + al'.length ≤ 60 → (∀ loc', ?Q6 ((L', .frame loc') :: (acc, .list ((dn ++ al'.map nsQ).map prV)) :: (PD, .dict pd) :: (c0, .cell (some (.ref k.x))) :: (L, .frame loc) :: wled k s rest)) →
      WGenO C _ _ _ _ _ _ (al'.map prV) ((L', .frame loc') :: (acc, .list (dn.map prV)) :: (PD, .dict pd) :: (c0, .cell (some (.ref k.x))) :: (L, .frame loc) :: wled k s rest) ?Q6) l [] [] hnl2 (by simp; walk_at "om") ?_
    · intro al'
      induction al' with
      | nil => intro dn loc' _ _ hq; exact wg_nil (.tail _ (.tail _ (.tail _ (.tail _ (.tail _ hmem))))) (by simpa using hq loc')
      | cons e al' ih =>
        intro dn loc' hz hl hq
        obtain ⟨z1, z2⟩ := hz e List.mem_cons_self
        have hl' : (dn ++ [nsQ e]).length + al'.length ≤ 60 := by simp at hl ⊢; walk_at "om"
        have ea : nsQ e = (if ((e.2.length : Int) != 0) = true then Str.ofString "xmlns:" ++ e.2 else Str.ofString "xmlns", e.1) := rfl
        have nxt := ih (dn ++ [nsQ e]) (setLoc (setLoc loc' (Str.ofString "uri") (V.str e.1)) (Str.ofString "prefix") (V.str e.2)) (fun e' he' => hz e' (.tail _ he')) hl' (fun loc => by
            have := hq loc
            rw [List.map_cons, List.append_cons] at this
            exact this)
        rw [List.map_append, ea] at nxt
        refine wg_cons0 (.tail _ (.tail _ (.tail _ (.tail _ (.tail _ hmem))))) (wa_tup2 (unp_tup (vs := [.str e.1, .str e.2]) tv_fz) ?_)
        refine wn_local (by walk_at "up") ?_; refine wn_local (by walk_at "up") ?_; refine we_tuple ?_; refine wa_cons ?_; refine we_ife ?_; refine wt_val ?_; refine we_local (by walk_at "mem") (by walk_at "lkp") ?_; refine tr_str (by walk_at "om") ?_
        refine ift_both (fun hc => ?_) (fun hc => ?_)
        · rw [if_pos hc] at nxt
          refine we_bin ?_; refine we_str ?_; refine we_local (by walk_at "mem") (by walk_at "lkp") ?_
          refine wb_cat (by rw [sizeLine_eq, show (Str.ofString "xmlns:").length = 6 from rfl]; walk_at "om") ?_
          refine wa_cons ?_; refine we_local (by walk_at "mem") (by walk_at "lkp") ?_; refine wa_nil ?_
          refine ⟨by rw [sizeLine_eq]; simp, ?_⟩
          exact wc_append (by walk_at "up") (by rw [sizeLine_eq, List.length_map]; simp at hl; walk_at "om") nxt
        · rw [if_neg (by rw [hc]; decide)] at nxt
          refine we_str ?_; refine wa_cons ?_; refine we_local (by walk_at "mem") (by walk_at "lkp") ?_; refine wa_nil ?_
          refine ⟨by rw [sizeLine_eq]; simp, ?_⟩
          exact wc_append (by walk_at "up") (by rw [sizeLine_eq, List.length_map]; simp at hl; walk_at "om") nxt
    · intro loc'
      refine wn_local (by walk_at "up") ⟨_, _, .head, nx_next (ws_cons' ?_)⟩
      refine wx_expr ?_; refine we_mcall ?_; refine we_local (by walk_at "mem") (by walk_at "lkp") ?_
      refine wm_lsort (lv_own (by walk_at "mem")) ?_
      refine wa_nil ?_; refine wall_nil ?_
      refine ⟨kept_builtin, wc_lsortT (kss := (l.map nsQ).map pl) (led' := (acc, .list ((sortP (l.map nsQ)).map prV)) :: (PD, .dict pd) :: (c0, .cell (some (.ref k.x))) :: (L, .frame (setLoc loc (Str.ofString "attr_list") (.ref acc))) :: wled k s rest) ?_ (fun ss hs => by obtain ⟨e, _, rfl⟩ := List.mem_map.mp hs; simp) (by simp; walk_at "om") (nx_next (ws_nil (nx_next ?_)))⟩
      · rw [pairs_VT, sortV_pairs, List.nil_append]
        exact .head
      · exact fin acc _ (by walk_at "lkp") (by walk_at "lkp") (by walk_at "lkp") (by walk_at "lkp") (by walk_at "lkp") (by walk_at "lkp")
end
section
theorem WC.dropQ {f : V} {pos : List V} {kw : Kw} {Q : V → Led → Prop} (h : WC C n X f pos kw led fun v l => ∃ l', l'.Sublist l ∧ Q v l') : WC C n X f pos kw led Q := fun A Φ s fx xs ks hA S hf hp hk => wpAny_mono (h A Φ s fx xs ks hA S hf hp hk) (fun _ _ z => z.drop) fun _ _ z => z
theorem wkw_one {nm : Option Str} {value : Expr} {kp pos : Pos} {Q : List V → Led → Prop} (h : WE C n X env value led fun v led1 => Q [v] led1) : WAll C n X (kwTrees pos [⟨nm, value, kp⟩] env) led Q :=
  wall_cons (t := do let v ← eval value env; standAt pos; pure v) (ts := []) (fun A Φ s hA S => wpAny_bind (wpAny_mono (h A Φ s hA S) (fun _ _ ⟨Φ', b, l, q1, q2, q3, q4⟩ => wpAny_bind (wpAny_standAt (wpAny_pure ⟨Φ', b, l, q1, q2, q3, wall_nil q4⟩))) fun _ _ z => z))
theorem inmain {code : Value} (G : Gr C) (hc : env.code = code) (h : kdsCode (hd1.heap_1 C.w.params) code = true) : InMain C env := fun A led Φ s Q E S hq => kds_main ((cls1 G).at S.toSat0) (by rw [hc]; exact h) hq
theorem WE.permQ {e : Expr} {Q : V → Led → Prop} (h : WE C n X env e led fun v l => ∃ l', l.Perm l' ∧ Q v l') : WE C n X env e led Q := fun A Φ s hA S => wpAny_mono (h A Φ s hA S) (fun _ _ z => z.perm) fun _ _ z => z
theorem perm_in2 (a b : Addr × AO) (F P R : Led) : (a :: (F ++ (P ++ ([b] ++ R)))).Perm (F ++ (P ++ ([b, a] ++ R))) := by
  have h1 : (a :: (F ++ (P ++ ([b] ++ R)))) = [a] ++ ((F ++ P ++ [b]) ++ R) := by simp
  have h2 : (F ++ (P ++ ([b, a] ++ R))) = (F ++ P ++ [b]) ++ ([a] ++ R) := by simp
  rw [h1, h2]
  exact List.perm_append_comm_assoc _ _ _
noncomputable def wledG (k : KA) (s : St) (T rest : Led) : Led :=
  (k.x, .obj (instObj 150 k.dx)) :: (k.dx, .dict (esW k s.seen s.done)) :: (k.dl, .list (s.data.map V.str)) :: (k.dd, .list (refsOf s.decl)) :: (k.dn, .list (refsOf s.ns)) ::
  (k.pm, .dict (s.pmap.map fun p => (p.1, .str p.2))) :: (k.ps, .list (s.ps.map V.bool)) :: (k.po, .list (s.out.map V.str)) :: (k.b, .obj (bndO k.po)) :: (k.f, .obj k.fo) :: (k.c, .obj k.oc) ::
  (ents s.decl ++ (ents s.ns ++ (T ++ rest)))
theorem wledG_eq (k : KA) (s : St) (T rest : Led) : wledG k s T rest = wledG k s [] [] ++ (T ++ rest) := by
  unfold wledG
  simp only [List.append_nil, List.cons_append, List.append_assoc, List.nil_append]
noncomputable def lamQual : Str := Str.ofString "C14NWriterTarget._start" ++ Str.ofString ".<locals>." ++ "<lambda>"
noncomputable def TbOk (s : St) : Prop := ∀ c oc, s.tb = some (c, oc) → ∃ vs t, oc.data = .fields vs ∧ vs[1]? = some (.str lamQual t)
theorem we_lamS {k : KA} {s : St} {rest front : Led} {params : Arguments} {body : Expr} {scope : Scope} {pos : Pos} {clos : List (Str × Addr)} {Q : V → Led → Prop} (G : Gr C) (ht : TbOk s)
    (hdef : defaultsOf params env = ([], [])) (hge : env.globals = mainGlobals) (hcode : env.code = .ref 125) (hcl : closureFor scope env = pure clos) (hq : env.qual ++ "<lambda>" = lamQual) (hp1 : rawInt pos.line = rawInt 139) (hp2 : rawInt pos.col = rawInt 71)
    (hn : codeAmong pos [] = none) (hn2 : ∀ c, codeAmong pos [rawInt 139, rawInt 71, .ref c] = some (.ref c))
    (h : ∀ f c' oc pm ctv, TbOk { s with tb := some (c', oc) } → Q (.ref f) ((f, .obj (kla_obj "<lambda>" lamQual params body scope clos pm c' ctv)) :: (front ++ wled k { s with tb := some (c', oc) } rest))) :
    WE C n X env (.Lambda params body scope pos) (front ++ wled k s rest) Q := by
  obtain ⟨p, loose, mean, mg, mb, T⟩ := G.top
  obtain ⟨d1, e1, n1, m1, p1, o1, b1, b2, tb⟩ := s
  cases tb with
  | none =>
    refine WE.permQ (we_lam_new (ps := #[]) (led' := fun c' => front ++ wledG k ⟨d1, e1, n1, m1, p1, o1, b1, b2, none⟩ [(123, .obj (tabObj #[rawInt 139, rawInt 71, .ref c']))] rest) T G.cdS hdef hge hcode hcl (fun c' => ?_) trivial hn fun f c' oc vs t ctv h1 h2 => ?_)
    · refine Up.right ?_ _
      rw [hp1, hp2]
      show Up _ _ _ (wledG k _ [(123, .obj (tabObj #[]))] rest) _
      rw [wledG_eq, wledG_eq k _ [(123, .obj (tabObj #[rawInt 139, rawInt 71, .ref c']))] rest]
      exact Up.right .head _
    · rw [hq] at h2 ⊢
      refine ⟨_, ?_, h f c' oc ((mg (Str.ofString "__name__")).getD Value.none) ctv fun c oc' e => by cases e; exact ⟨vs, t, h1, h2⟩⟩
      refine List.Perm.cons _ ?_
      show List.Perm _ (front ++ wledG k _ [(123, .obj (tabObj #[rawInt 139, rawInt 71, .ref c'])), (c', .obj oc)] rest)
      rw [wledG_eq, wledG_eq k _ [(123, .obj (tabObj #[rawInt 139, rawInt 71, .ref c'])), (c', .obj oc)] rest]
      show ((c', AO.obj oc) :: (front ++ (wledG k _ [] [] ++ ([_] ++ rest)))).Perm (front ++ (wledG k _ [] [] ++ ([_, (c', AO.obj oc)] ++ rest)))
      exact perm_in2 _ _ front _ rest
  | some cc =>
    obtain ⟨c', oc⟩ := cc
    refine we_lam_hit (c' := c') (ps := #[rawInt 139, rawInt 71, .ref c']) T G.cdS hdef hge hcode hcl ?_ trivial (hn2 c') fun f ctv => ?_
    · refine List.mem_append_right _ ?_
      show _ ∈ wledG k _ [(123, .obj (tabObj #[rawInt 139, rawInt 71, .ref c'])), (c', .obj oc)] rest
      rw [wledG_eq]
      exact List.mem_append_right _ (.head _)
    · rw [hq]
      exact h f c' oc _ ctv ht
end
section
noncomputable def KeyG (C : Cx) (n : Nat) (q : Addr) (kf : Str → List Str) (led : Led) : Prop := ∀ k p1 p2, k.length ≤ 1000 → WC C n NoX (.ref q) [.str k] [] (p1 :: p2 :: led) fun v led' => v = VL (kf k) ∧ led' = p1 :: p2 :: led
theorem key_fold2 {A : Around} {E : Value → Shared → Prop} {q l kS : Addr} {kf : Str → List Str} {ol : Obj} {body : Value → PUnit → Sem (ForInStep PUnit)} (hA : Room n A) (hf : KeyG C n q kf led)
    (hb : ∀ x (s : Shared) (Q : ForInStep PUnit → Shared → Prop), wpAny C.M A (call (.ref q) [x]) (fun k s' => wpAny C.M A (Builtin.List.listUpdate (.ref kS) (·.push k)) (fun _ s'' => Q (.yield ⟨⟩) s'') E s') (fun _ _ => False) s → wpAny C.M A (body x ⟨⟩) Q E s) :
    ∀ (ws : List Str) (xs : List Value) (done : List Str) (Φ : PH) (s : Shared) (Q : PUnit → Shared → Prop), Sat C Φ ((kS, .list (done.map fun k => VL (kf k))) :: (l, .obj ol) :: led) s → VRs C Φ (ws.map V.str) xs → (∀ w ∈ ws, w.length ≤ 1000) → done.length + ws.length < 64 →
      (∀ Φ' s', Le Φ Φ' → Sat C Φ' ((kS, .list ((done ++ ws).map fun k => VL (kf k))) :: (l, .obj ol) :: led) s' → Q ⟨⟩ s') → wpAny C.M A (forIn xs PUnit.unit body) Q E s
  | [], xs, done, Φ, s, Q, S, hv, hw, hz, hq => by
    simp only [List.map_nil, VRs] at hv; subst hv
    rw [List.forIn_nil]
    exact wpAny_pure (hq Φ s (Le.refl _) (by rw [List.append_nil]; exact S))
  | w :: ws, xs, done, Φ, s, Q, S, hv, hw, hz, hq => by
    simp only [List.map_cons, VRs] at hv
    obtain ⟨y, ys, rfl, h1, h2⟩ := hv
    rw [List.forIn_cons]
    refine wpAny_bind (hb y s _ (wpThen S.tk (hf w _ _ (hw w List.mem_cons_self) A Φ s _ [y] [] hA S vval (VRs.cons h1 VRs.nil) (by simp only [VEs])) (fun k Φ1 v led1 s1 hl1 S1 r1 q1 => ?_) fun _ _ e => e.no))
    obtain ⟨rfl, rfl⟩ := q1
    obtain ⟨o, ho, zs, c, rfl, hr⟩ := S1.at (a := kS) List.mem_cons_self
    have hlz := hr.length
    rw [List.length_map] at hlz
    obtain ⟨c', hc'⟩ := setSeq ho (·.push k)
    refine listUpdate_at (show s1.heap.get? kS = some (seqObj "list" zs.toArray c) from ho) rfl ?_ (by rw [List.size_toArray, sizeLine_eq]; simp at hz; walk_at "om") (by rw [Array.size_push, List.size_toArray, sizeLine_eq]; simp at hz; walk_at "om")
    have S2 : Sat C Φ1 ((kS, .list ((done ++ [w]).map fun k => VL (kf k))) :: (l, .obj ol) :: led) { s1 with heap := s1.heap.update kS (Obj.mapSeq (·.push k)) } :=
      ⟨S1.toSat0.up1 (s' := { s1 with heap := s1.heap.update kS (Obj.mapSeq (·.push k)) }) .head (Heap.SameBut.update ..).extBut hc' ⟨zs ++ [k], c', by simp [lstO], by rw [List.map_append]; exact VRs.append hr (VRs.cons r1 VRs.nil)⟩, S1.tk⟩
    show wpAny C.M A (forIn ys PUnit.unit body) _ _ _
    exact key_fold2 hA hf hb ws ys (done ++ [w]) Φ1 _ Q S2 (h2.mono hl1) (fun w' hw' => hw w' (.tail _ hw')) (by simp at hz ⊢; walk_at "om") fun Φ' s' hl' S' => hq Φ' s' (hl1.trans hl') (by rw [List.append_assoc] at S'; exact S')
theorem wc_sorted_key2 {a q : Addr} {ss : List Str} {kf : Str → List Str} {Q : V → Led → Prop} (hm : (a, AO.setL ss) ∈ led) (h1 : ss ≠ []) (h64 : ss.length < 64) (hlen : ∀ x ∈ ss, x.length ≤ 1000) (hf : KeyG C n q kf led)
    (h : ∀ out : List Str, out.Perm ss → True → Q (.lst (out.map V.str)) led) : WC C (n + 1) X (.val (.builtin "sorted")) [.ref a] [("key", .ref q)] led Q := fun A Φ s fx xs ks hA S hfx hp hk => by
  obtain ⟨x, rfl, hx⟩ := vrs1 hp
  simp only [VEs] at hk
  obtain ⟨y, ys, rfl, hy, rfl⟩ := hk
  rw [wv_val hfx, wv_val hx, wv_val hy]
  obtain ⟨o, ho, hok⟩ := S.at hm
  obtain ⟨es, ep, t, hex, hd, hft, hsz, hz, hld, hpl, ls, hls, hlv⟩ := set_vals hok
  have hpos : 1 ≤ ss.length := by cases ss with | nil => exact absurd rfl h1 | cons _ _ => simp
  refine call_function_entry_kw kind_sorted plain_sorted entry_sorted (ksk_s1 _ _) ?_
  unfold Builtin.«sorted»
  refine wpAny_bind (m := checkCount "sorted" 1 1 _) (wpAny_pure ?_)
  refine wpAny_bind (wpTok (collect_set (A := A.in1) (by exact hA.handled) ho hex hd hft (by walk_at "om") hz hld (hpl.resolve_left h1) fun d h' tk vals hpv hkp => fun ht => ?_))
  have ht : 0 < tk := Nat.lt_of_lt_of_le S.tk ht
  have S1 : Sat0 C Φ led { s with heap := h', toks := tk, drawn := d } := S.toSat0.ext (s' := { s with heap := h', toks := tk, drawn := d }) hkp rfl rfl
  obtain ⟨hvv, hvp⟩ := vrs_of_perm hlv hpv
  generalize hws : vals.map strOfV = ws at hvv hvp
  have hwl : ws.length = ss.length := (hvp.trans hls).length_eq
  have hvl : vals.length = ws.length := by rw [← hws, List.length_map]
  refine wpAny_bind (wpAny_newList ?_ (by rw [sizeLine_eq]; walk_at "om"))
  have hoL : (h'.push (lstO vals 0)).get? h'.objs.size = some (lstO vals 0) := Heap.get?_push_size _ rfl
  have S2 : Sat0 C Φ ((h'.objs.size, .obj (lstO vals 0)) :: led) { s with heap := h'.push (lstO vals 0), toks := tk, drawn := d } := S1.alloc (o := lstO vals 0) (ao := .obj (lstO vals 0)) rfl ⟨rfl, rfl⟩
  show wpAny C.M A.in1 (holding [Value.ref h'.objs.size] (call (.builtin "list.sort") [Value.ref h'.objs.size] [(Str.ofString "key", .ref q)]) >>= fun _ => ret (Value.ref h'.objs.size)) _ _ { s with heap := h'.push (lstO vals 0), toks := tk, drawn := d }
  refine wpAny_bind (wpAny_holding (wpAny_call_entry_kw slot_list_sort ⟨_, hoL, rfl⟩ entry_list_sort ?_ (ksk_l1 _ _)))
  rw [ksk_t1]
  unfold ksk_tree
  refine wpAny_bind (listItems_at (show Heap.get? _ _ = some (seqObj "list" vals.toArray 0) from hoL) rfl ?_)
  refine wpAny_bind (listUpdate_at (show Heap.get? _ _ = some (seqObj "list" vals.toArray 0) from hoL) rfl ?_ (by rw [List.size_toArray, sizeLine_eq]; walk_at "om") (Nat.zero_le _))
  obtain ⟨e1, ho1⟩ := setSeq hoL (fun _ => (#[] : Array Value))
  have sb1 := Heap.SameBut.update (h'.push (lstO vals 0)) h'.objs.size (Obj.mapSeq fun _ => (#[] : Array Value))
  refine wpAny_bind (seqEpoch_at (show Heap.get? _ _ = some (seqObj "list" #[] e1) from ho1) rfl ?_)
  have S3 : Sat0 C Φ ((h'.objs.size, .obj (lstO [] e1)) :: led) { s with heap := (h'.push (lstO vals 0)).update h'.objs.size (Obj.mapSeq fun _ => (#[] : Array Value)), toks := tk, drawn := d } :=
    S2.up1 (s' := { s with heap := (h'.push (lstO vals 0)).update h'.objs.size (Obj.mapSeq fun _ => (#[] : Array Value)), toks := tk, drawn := d }) .head sb1.extBut ho1 ⟨by simp, rfl⟩
  refine wpAny_bind (wpAny_newTuple ?_ (by show vals.length ≤ _; rw [sizeLine_eq]; walk_at "om"))
  have S4 : Sat0 C Φ ((h'.objs.size, .obj (lstO [] e1)) :: led) { s with heap := ((h'.push (lstO vals 0)).update h'.objs.size (Obj.mapSeq fun _ => (#[] : Array Value))).push (seqObj "tuple" vals.toArray 0), toks := tk, drawn := d } := S3.ext (s' := { s with heap := ((h'.push (lstO vals 0)).update h'.objs.size (Obj.mapSeq fun _ => (#[] : Array Value))).push (seqObj "tuple" vals.toArray 0), toks := tk, drawn := d }) (fun b o e => Heap.get?_push_of_some _ e) rfl rfl
  refine wpAny_bind (wpAny_newList ?_ (Nat.zero_le _))
  have S5 := S4.alloc (o := lstO [] 0) (ao := .list []) rfl ⟨[], 0, rfl, VRs.nil⟩
  refine wpAny_holding ?_
  unfold ksk_rest
  refine wpAny_bind (wpAny_rule ?_)
  rw [List.forIn_toArray]
  refine wpAny_bind (key_fold2 (n := n) (led := led) (ol := lstO [] e1) hA.in2 hf (fun x s' Q' hx => ?_) ws vals [] Φ _ _ ⟨S5, ht⟩ hvv (fun w hw => hlen w ((hvp.trans hls).mem_iff.mp hw)) (by simp; walk_at "om") fun Φ' s' hle S' => ?_)
  · refine wpAny_bind (wpAny_attempt (wpAny_mono hx (fun k s'' hk => ?_) fun _ _ hF => hF.elim))
    exact wpAny_bind (wpAny_mono hk (fun _ _ z => wpAny_pure z) fun _ _ z => z)
  · rw [List.nil_append] at S'
    refine wp_key_end (A := A.in1.in1) (by have := hA.units; show A.units + 1 + 1 < 9900; walk_at "om") S' (hvv.mono hle) (by walk_at "om") fun s2 out ys c hop hos hov S6 => ⟨_, rfl, wpAny_pure ⟨_, rfl, ?_⟩⟩
    -- the list is frozen now
    obtain ⟨o6, ho6, e6, _⟩ := S6.at (a := h'.objs.size) List.mem_cons_self
    subst e6
    have S7 := S6.drop (List.sublist_cons_self _ _)
    have hoff := S6.off _ (List.mem_cons_self (a := (h'.objs.size, AO.obj (lstO ys c))))
    have hnl : h'.objs.size ∉ led.map (·.1) := (List.nodup_cons.mp (by simpa using S6.nd)).1
    have S8 := S7.putI hoff hnl ho6
    refine ⟨_, _, led, hle.trans (Le.put _ hoff), S8.toSat0, ?_, h out (hop.trans (hvp.trans hls)) hos⟩
    simp only [RV, VR]
    exact ⟨_, ys, c, rfl, PH.put_self _ _ _, hov.mono (Le.put _ hoff)⟩
end
section
theorem wm_split {x : Str} {Q : V × List V → Led → Prop} (h : Q (.val (.builtin "str.split"), [.str x]) led) : WM C n X (Str.ofString "split") (.str x) led Q := wm_builtin ty_str F.plainAttrs_str F.slot_str_split F.type_str_split h
noncomputable abbrev Spl := Str → Str × Str
noncomputable def NameOk (spl : Spl) (q : Str) : Prop := Qn q (spl q).1 (spl q).2 ∧ q.length ≤ 900 ∧ (spl q).1.length ≤ 900 ∧ (spl q).2.length ≤ 900
noncomputable def Parse (N D0 : List (Str × Str)) (spl : Spl) (pq : PQ) : List Str → List (Str × Str) → List (Str × Str) → Prop
  | [], l, l' => l' = l
  | q :: r, l, l' => ∃ p b, qnR (spl q).1 (l ++ D0) N = some (p, b) ∧ p.length ≤ 900 ∧ pq q = (nm p (spl q).2, (spl q).2, (spl q).1) ∧ Parse N D0 spl pq r (if b then l ++ [((spl q).1, p)] else l) l'
noncomputable abbrev vq (pq : PQ) (q : Str) : Str × V := (q, VT [(pq q).1, (pq q).2.1, (pq q).2.2])
theorem flat_snoc (d0 : Stk) (a : Addr) (l : List (Str × Str)) : flat (d0 ++ [(a, l)]) = l ++ flat d0 := by unfold flat; simp
theorem stE_new {pq : PQ} {q : Str} {v : V} {done : List Str} (h : q ∉ done) : stE (done.map (vq pq)) q v = done.map (vq pq) ++ [(q, v)] := by
  unfold stE
  rw [if_neg]
  intro hc
  rw [List.any_eq_true] at hc
  obtain ⟨e, he, hk⟩ := hc
  obtain ⟨q', hq', rfl⟩ := List.mem_map.mp he
  have : q' = q := of_decide_eq_true hk
  exact h (this ▸ hq')
theorem look_vq {pq : PQ} : ∀ {l : List Str} {q : Str}, q ∈ l → (l.map (vq pq)).lookup q = some (VT [(pq q).1, (pq q).2.1, (pq q).2.2])
  | [], _, h => by cases h
  | a :: r, q, h => by
    rw [List.map_cons, List.lookup_cons]
    by_cases e : q = a
    · subst e; simp
    · have : (q == a) = false := by simpa using e
      rw [this]
      exact look_vq ((List.mem_cons.mp h).resolve_left e)
structure SZ (s : St) (d0 : Stk) : Prop where
  a : d0.length ≤ 900
  b : (flat d0).length ≤ 1800
  c : s.ns.length ≤ 900
  d : (flat s.ns).length ≤ 1800
  e : ∀ e ∈ flat d0, e.2.length ≤ 1000
  f : ∀ e ∈ flat s.ns, e.2.length ≤ 1000
theorem adds_mem : ∀ (ks ss : List Str) (q : Str), q ∈ addsS ss ks ↔ q ∈ ss ∨ q ∈ ks
  | [], ss, q => by simp [addsS]
  | x :: ks, ss, q => by
    show q ∈ addsS (addS ss x) ks ↔ _
    rw [adds_mem ks]
    unfold addS
    split
    · rename_i h
      rw [any_mem] at h
      simp only [List.mem_cons]
      constructor
      · rintro (a | b)
        · exact .inl a
        · exact .inr (.inr b)
      · rintro (a | rfl | b)
        · exact .inl a
        · exact .inl h
        · exact .inr b
    · simp only [List.mem_append, List.mem_cons, List.not_mem_nil, or_false]
      constructor
      · rintro ((a | b) | c)
        · exact .inl a
        · exact .inr (.inl b)
        · exact .inr (.inr c)
      · rintro (a | b | c)
        · exact .inl (.inl a)
        · exact .inl (.inr b)
        · exact .inr c
theorem adds_nodup : ∀ (ks ss : List Str), ss.Nodup → (addsS ss ks).Nodup
  | [], ss, h => h
  | x :: ks, ss, h => adds_nodup ks (addS ss x) (addS_nodup h)
theorem adds_facts (tag : Str) (ks : List Str) : tag ∈ addsS [tag] ks ∧ (∀ x ∈ ks, x ∈ addsS [tag] ks) ∧ (addsS [tag] ks).Nodup ∧ ∀ q ∈ addsS [tag] ks, q ∈ tag :: ks :=
  ⟨(adds_mem _ _ _).mpr (.inl (by simp)), fun x hx => (adds_mem _ _ _).mpr (.inr hx), adds_nodup _ _ (by simp), fun q hq => by
    rcases (adds_mem _ _ _).mp hq with h | h
    · simp at h; subst h; exact .head _
    · exact .tail _ h⟩
theorem w_start0 {k : KA} {s : St} {ps0 : List Bool} {pb : Bool} {a : Addr} {d0 : Stk} {ats : List (Str × Str)} {tag : Str} {spl : Spl} {rest : Led} {Q : V → Led → Prop} (G : Gr C) (ko : KOk C k) (hrw : k.rw = false) (ht : TbOk s) (co : COk s ps0 pb ats) (sz : SZ s d0) (hd : s.decl = d0 ++ [(a, [])])
    (hats : ats.length ≤ 30) (hat2 : ∀ e ∈ ats, e.2.length ≤ 100) (hnm : ∀ q ∈ tag :: ats.map (·.1), NameOk spl q)
    (h : ∀ out : List Str, out.Perm (addsS [tag] (ats.map (·.1))) → True → ∃ pq l, Parse (flat s.ns) (flat d0) spl pq out [] l ∧ (∀ q, (pq q).1.length ≤ 1000 ∧ (pq q).2.1.length ≤ 1000 ∧ (pq q).2.2.length ≤ 1000) ∧ l.length ≤ 30 ∧ (∀ e ∈ l, e.2.length ≤ 900 ∧ e.1.length ≤ 100) ∧
      ∀ aN tb, TbOk { s with tb := some tb } → Q .none (wled k { s with decl := d0 ++ [(a, l)], ps := s.ps ++ [pb], out := s.out ++ outC (pq tag).1 (sortP (l.map nsQ) ++ (sortP ats).map (atQ pq)), seen := true, ns := s.ns ++ [(aN, [])], tb := some tb } rest)) :
    WK C (n + 4) X (.ref 126) [.ref k.x, .str tag, .dct (strD ats), .ref a] [] (wled k s rest) Q := by
  refine WK.permQ (.refl _) ?_
  refine WK.dropQ ?_
  refine wk_def (G.inn 126 _ rfl) rfl rfl (code_at G.inn rfl rfl rfl) G.lim (binds := [(Str.ofString "self", .ref k.x), (Str.ofString "tag", .str tag), (Str.ofString "attrs", .dct (strD ats)), (Str.ofString "new_namespaces", .ref a), (Str.ofString "qname_text", .none)]) (bindD (G.inn 121 _ rfl) rfl rfl _ (fun xs => rfl) ?_) fun L => ?_
  · intro Φ xs hx
    simp only [VRs] at hx
    obtain ⟨y1, _, rfl, h1, y2, _, rfl, h2, y3, _, rfl, h3, y4, _, rfl, h4, rfl⟩ := hx
    exact ⟨_, rfl, by simp only [VEs]; exact ⟨_, _, rfl, h1, _, _, rfl, h2, _, _, rfl, h3, _, _, rfl, h4, _, _, rfl, vnone, rfl⟩⟩
  dsimp only [fenv]
  show ∀ c0, _
  intro c0
  show ∀ c, _
  intro c
  refine wst_cons (wn_cell rfl (by walk_at "up") (wst_cons (wn_local (by walk_at "up") (wst_cons (wn_local (by walk_at "up") (wst_cons (wn_local (by walk_at "up") (wst_cons (wn_local (by walk_at "up") (wst_nil ?_))))))))))
  refine ws_cons' ?_; refine wx_if ?_; refine wt_and ?_; refine wt_cmp ?_; refine we_attr ?_; refine we_cell (by rfl) (by walk_at "mem") ?_; refine ga_own (cls1 (by assumption)) ⟨_, by walk_at "mem", by walk_at "mem"⟩ (by rfl) (by rfl) (fun _ e => by cases e) ?_; refine we_none ?_; refine wc_isnot_none trivial ?_; refine tr_bool ?_; refine iff' (by rfl) ?_; refine iff' (by rfl) ?_; refine ws_nil ?_; refine nx_next ?_; refine ws_cons' ?_; refine wx_assign ?_
  refine we_setstar (inmain G rfl rfl) fun A => ?_
  refine we_local (by walk_at "mem") (by walk_at "lkp") ?_
  refine ⟨tag, _, rfl, .head, ?_⟩
  refine we_local (by walk_at "mem") (by walk_at "lkp") ?_
  refine ⟨_, _, rfl, by rw [List.length_map]; walk_at "om", .head, ?_⟩
  refine wn_local (by walk_at "up") ?_; refine nx_next ?_; refine ws_cons' ?_; refine wx_assign ?_
  refine we_dict0 fun R => ?_
  refine wn_local (by walk_at "up") ?_; refine nx_next ?_; refine ws_cons' ?_; refine wx_if ?_; refine wt_cmp ?_; refine we_local (by walk_at "mem") (by walk_at "lkp") ?_; refine we_none ?_; refine wc_isnot_none trivial ?_; refine tr_bool ?_; refine iff' (by rfl) ?_; refine ws_nil ?_; refine nx_next ?_; refine ws_cons' ?_; refine wx_if ?_; refine wt_and ?_; refine wt_cmp ?_; refine we_attr ?_; refine we_cell (by rfl) (by walk_at "mem") ?_; refine ga_own (cls1 (by assumption)) ⟨_, by walk_at "mem", by walk_at "mem"⟩ (by rfl) (by rfl) (fun _ e => by cases e) ?_; refine we_none ?_; refine wc_isnot_none trivial ?_; refine tr_bool ?_; refine iff' (by rfl) ?_; refine iff' (by rfl) ?_; refine ws_cons' ?_; refine wx_assign ?_; refine we_none ?_; refine wn_local (by walk_at "up") ?_; refine nx_next ?_; refine ws_nil ?_; refine nx_next ?_; refine ws_cons' ?_; refine wx_assign ?_; refine we_attr ?_; refine we_cell (by rfl) (by walk_at "mem") ?_
  refine ga_meth (cls1 G) (by walk_at "inst") (by rfl) (by rfl) (by rfl) (by rfl) (by decide) (by rfl) fun m => ?_
  refine wn_cell (by rfl) (by walk_at "up") ?_; refine nx_next ?_; refine ws_cons' ?_
  generalize hloc : setLoc (setLoc _ _ _) _ _ = loc
  have l1 : loc.lookup (Str.ofString "tag") = some (.str tag) := by rw [← hloc]; rfl
  have l2 : loc.lookup (Str.ofString "attrs") = some (.dct (strD ats)) := by rw [← hloc]; rfl
  have l3 : loc.lookup (Str.ofString "new_namespaces") = some (.ref a) := by rw [← hloc]; rfl
  have l4 : loc.lookup (Str.ofString "qname_text") = some .none := by rw [← hloc]; rfl
  have l5 : loc.lookup (Str.ofString "qattrs") = some .none := by rw [← hloc]; rfl
  have l6 : loc.lookup (Str.ofString "qnames") = some (.ref A) := by rw [← hloc]; rfl
  clear hloc
  have hkeys : (strD ats).map (·.1) = ats.map (·.1) := by unfold strD; rw [List.map_map]; rfl
  have hss : ((addsS [tag] ((strD ats).map (·.1)))).length < 64 := by
    have := addsS_length ((strD ats).map (·.1)) [tag]
    rw [hkeys, List.length_map] at this
    rw [hkeys]
    simp at this; walk_at "om"
  have hmemS : tag ∈ addsS [tag] (ats.map (·.1)) ∧ (∀ e ∈ ats, e.1 ∈ addsS [tag] (ats.map (·.1))) ∧ (addsS [tag] (ats.map (·.1))).Nodup ∧ ∀ q ∈ addsS [tag] (ats.map (·.1)), q ∈ tag :: ats.map (·.1) := adds_facts tag _ |>.imp_right fun z => ⟨fun e he => z.1 e.1 (List.mem_map_of_mem he), z.2⟩
  refine wx_dcomp (cl := [(Str.ofString "parse_qname", c)]) ?_
  refine we_call ?_
  refine we_bltn (bltn1 (by assumption) (by rfl) (by rfl) (by decide)) ?_; refine wa_cons ?_; refine we_local (by walk_at "mem") (by walk_at "lkp") ?_; refine wa_nil ?_
  refine wkw_one ?_
  refine we_lamS (front := [_, _, _, _, _, _]) G ht rfl rfl rfl rfl rfl rfl rfl rfl (fun _ => rfl) fun f c' oc pm ctv ht' => ?_
  obtain ⟨ws, t, hoc1, hoc2⟩ := ht' c' oc rfl
  have hcm : (c', AO.obj oc) ∈ wled k { s with tb := some (c', oc) } rest := by
    show _ ∈ wledG k _ [_, (c', .obj oc)] rest
    rw [wledG_eq]
    exact List.mem_append_right _ (.tail _ (.head _))
  refine ⟨kept_builtin, wc_sorted_key2 (ss := addsS [tag] ((strD ats).map (·.1))) (kf := fun q => Txt.splitMax q (Str.ofString "}") 1) (by walk_at "mem") ?_ hss (fun x hx => by rw [hkeys] at hx; exact Nat.le_trans (hnm x (hmemS.2.2.2 x hx)).2.1 (by decide)) ?_ fun out hout hsort => ?_⟩
  · intro e
    rw [hkeys] at e
    rw [e] at hmemS
    cases hmemS.1
  · intro q p1 p2 hql
    refine WC.dropQ ?_
    refine wc_lamL (.tail _ (.tail _ (.head _))) (.tail _ (.tail _ (.tail _ (List.mem_append_right _ hcm)))) hoc1 hoc2 G.lim (binds := [(Str.ofString "n", .str q)]) (bind1 fun y => rfl) fun L2 => ?_
    refine wcells_id rfl (wst_cons (wn_local .head (wst_nil ?_)))
    refine we_mcall ?_; refine we_local (by walk_at "mem") (by walk_at "lkp") ?_
    refine wm_split ?_
    refine wa_cons ?_; refine we_str ?_; refine wa_cons ?_; refine we_int ?_; refine wa_nil ?_; refine wall_nil ?_
    refine ⟨kept_builtin, wc_split1 rfl ⟨by decide, by decide⟩ (by rw [sizeLine_eq]; walk_at "om") ?_⟩
    exact ⟨_, .cons _ (.refl _), rfl, rfl⟩
  · rw [hkeys] at hout
    obtain ⟨pq, l', hpar, hpz, hl1, hl2, hfin⟩ := h out hout hsort
    refine ⟨_, _, it_lst.o, trivial, fun PD L' => wcells_id rfl ?_⟩
    have hnd : out.Nodup := hout.nodup_iff.mpr hmemS.2.2.1
    have hin : ∀ q ∈ out, NameOk spl q := fun q hq => hnm q (hmemS.2.2.2 q (hout.mem_iff.mp hq))
    have hol : out.length ≤ 64 := by rw [hout.length_eq, ← hkeys]; walk_at "om"
    have hsd : ({ s with decl := d0 ++ [(a, [])], tb := some (c', oc) } : St) = { s with tb := some (c', oc) } := by rw [← hd]
    rw [← hsd]
    refine (?_ : ∀ (todo done : List Str) (l : List (Str × Str)) (loc' : List (Str × V)), (done ++ todo).Nodup → (∀ q ∈ todo, NameOk spl q) → done.length + todo.length ≤ 64 → l.length + todo.length ≤ 64 → (∀ e ∈ l, e.2.length ≤ 1000) → Parse (flat s.ns) (flat d0) spl pq todo l l' →
      (∀ loc', ?Q7 ((L', .frame loc') :: (PD, .dict ((done ++ todo).map (vq pq))) :: (f, ?lam) :: (m, .obj (methodObj (.ref 90) (.ref k.x))) :: (R, .dict []) :: (A, ?setA) :: (c, .cell (some (.ref m))) :: (c0, .cell (some (.ref k.x))) :: (L, .frame loc) :: wled k { s with decl := d0 ++ [(a, l')], tb := some (c', oc) } rest)) →
      WGenO C _ _ _ _ _ noLean (todo.map V.str) ((L', .frame loc') :: (PD, .dict (done.map (vq pq))) :: (f, ?lam) :: (m, .obj (methodObj (.ref 90) (.ref k.x))) :: (R, .dict []) :: (A, ?setA) :: (c, .cell (some (.ref m))) :: (c0, .cell (some (.ref k.x))) :: (L, .frame loc) :: wled k { s with decl := d0 ++ [(a, l)], tb := some (c', oc) } rest) ?Q7) out [] [] [] hnd hin (by simpa using hol) (by simpa using hol) (fun e he => by cases he) hpar ?_
    · intro todo
      induction todo with
      | nil => intro done l loc' _ _ _ _ _ hp hq; cases hp; exact wg_nil trivial (by have := hq loc'; rw [List.append_nil] at this; exact this)
      | cons q todo ih =>
        intro done l loc' hnd hin hz1 hz2 hz3 hp hq
        obtain ⟨p, b, hp1, hp2, hp3, hp4⟩ := hp
        obtain ⟨n1, n2, n3, n4⟩ := hin q List.mem_cons_self
        have hnin : q ∉ done := fun hq => (List.nodup_append.mp hnd).2.2 q hq q List.mem_cons_self rfl
        have e1 : stE (done.map (vq pq)) q (VT [nm p (spl q).2, (spl q).2, (spl q).1]) = (done ++ [q]).map (vq pq) := by
          rw [stE_new hnin, List.map_append]
          simp only [vq, hp3, List.map_cons, List.map_nil]
        have hfl : flat (d0 ++ [(a, l)]) = l ++ flat d0 := flat_snoc d0 a l
        have s1 := sz.a
        have s2 := sz.b
        have s3 := sz.c
        have s4 := sz.d
        simp only [List.length_cons] at hz1 hz2
        have hst : (if b = true then { ({ s with decl := d0 ++ [(a, l)], tb := some (c', oc) } : St) with decl := d0 ++ [(a, l ++ [((spl q).1, p)])] } else ({ s with decl := d0 ++ [(a, l)], tb := some (c', oc) } : St)) = { s with decl := d0 ++ [(a, if b = true then l ++ [((spl q).1, p)] else l)], tb := some (c', oc) } := by cases b <;> rfl
        refine wg_cons0 trivial (wa_name ?_)
        refine wn_local (by walk_at "up") ?_; refine we_local (by walk_at "mem") (by walk_at "lkp") ?_; refine we_call ?_; refine we_cell (by rfl) (by walk_at "mem") ?_; refine wa_cons ?_; refine we_local (by walk_at "mem") (by walk_at "lkp") ?_; refine wa_nil ?_; refine wall_nil ?_
        refine ⟨kept_meth (by walk_at "mem") (G.inn 90 _ rfl) rfl, WK.wc (wk_meth (by walk_at "mem") (WK.pre [_, _, _, _, _, _, _, _, _] (w_qname (s := { s with decl := d0 ++ [(a, l)], tb := some (c', oc) }) (p := p) (b := b) G ko hrw rfl n1 (by walk_at "om") (by walk_at "om") (by walk_at "om") ?_ ?_ ?_ ?_ ?_ ?_ ?_ (preQ ?_))))⟩
        · simp; walk_at "om"
        · show (flat (d0 ++ [(a, l)])).length ≤ 2000
          rw [hfl, List.length_append]; walk_at "om"
        · show s.ns.length ≤ 1000
          walk_at "om"
        · show (flat s.ns).length ≤ 2000
          walk_at "om"
        · intro e he
          have he : e ∈ flat (d0 ++ [(a, l)]) := he
          rw [hfl] at he
          exact (List.mem_append.mp he).elim (hz3 e) (sz.e e)
        · exact sz.f
        · show qnR _ (flat (d0 ++ [(a, l)])) (flat s.ns) = _
          rw [hfl]; exact hp1
        rw [hst]
        refine ⟨q, done.map (vq pq), _, rfl, (by rw [e1]; exact .tail .head), by rw [List.length_map, sizeLine_eq]; walk_at "om", ?_⟩
        refine ih (done ++ [q]) _ _ (by rw [List.append_assoc]; exact hnd) (fun q' hq' => hin q' (.tail _ hq')) (by simp; walk_at "om") (by split <;> (try rw [List.length_append, List.length_singleton]) <;> walk_at "om") ?_ hp4 fun loc'' => ?_
        · intro e he
          split at he
          · rcases List.mem_append.mp he with he | he
            · exact hz3 e he
            · simp at he; subst he; dsimp only; walk_at "om"
          · exact hz3 e he
        · have := hq loc''
          rw [List.append_assoc]
          exact this
    · intro loc'
      refine wn_local (by walk_at "up") ⟨_, _, .head, nx_next ?_⟩
      refine W.drop (led' := (PD, .dict (out.map (vq pq))) :: (c0, .cell (some (.ref k.x))) :: (L, .frame (setLoc loc (Str.ofString "parsed_qnames") (.ref PD))) :: wled k { s with decl := d0 ++ [(a, l')], tb := some (c', oc) } rest) (.cons₂ _ (.cons _ (.cons _ (.cons _ (.cons _ (.cons _ (.cons₂ _ (.cons₂ _ (.refl _))))))))) ?_
      have co' : COk { s with decl := d0 ++ [(a, l')], tb := some (c', oc) } ps0 pb ats := ⟨co.sp, co.ps, co.z1, co.z2, co.z3⟩
      exact partB1 (Q := fun f l => Q (retV f) l) G co' rfl (by walk_at "lkp") (by walk_at "lkp") (by walk_at "lkp") (by walk_at "lkp") (by walk_at "lkp") (by walk_at "lkp") (fun e he => look_vq (hout.mem_iff.mpr (hmemS.2.1 e he))) (look_vq (hout.mem_iff.mpr hmemS.1)) hpz hats hat2 hl1 hl2 (fun aN => hfin aN _ ht')
end
section
theorem wm_lpop {v : V} {vs : List V} {Q : V × List V → Led → Prop} (hd : ListV C led v vs) (h : Q (.val (.builtin "list.pop"), [v]) led) : WM C n X (Str.ofString "pop") v led Q := wm_builtin (ty_list hd) F.plainAttrs_list F.slot_list_pop F.type_list_pop h
theorem stE_done (k : KA) (a b c : Bool) : stE (esW k a b) (Str.ofString "_root_done") (.bool c) = esW k a c := by rfl
theorem wled0_app (k : KA) (s : St) (rd rn : List V) (r : Led) : wled0 k s rd rn r = wled0 k s rd rn [] ++ r := by
  unfold wled0
  simp only [List.append_nil, List.cons_append, List.append_assoc]
theorem wled0_mid (k : KA) (s : St) (rd rn : List V) (z : Addr × AO) (r : Led) : (z :: wled0 k s rd rn r).Perm (wled0 k s rd rn (z :: r)) := by
  rw [wled0_app, wled0_app k s rd rn (z :: r)]
  exact List.perm_middle.symm
theorem flq_keep (s : St) : (flq s).decl = s.decl ∧ (flq s).ns = s.ns ∧ (flq s).ps = s.ps ∧ (flq s).seen = s.seen ∧ (flq s).tb = s.tb ∧ (flq s).pmap = s.pmap ∧ (flq s).data = [] ∧ (flq s).out.length ≤ s.out.length + 1 := by
  unfold flq fl
  split
  · rename_i h; simp [h]
  · simp
theorem w_start {k : KA} {s : St} {ps0 : List Bool} {pb : Bool} {ats : List (Str × Str)} {tag : Str} {spl : Spl} {rest : Led} {Q : V → Led → Prop} (G : Gr C) (ko : KOk C k) (hrw : k.rw = false) (ht : TbOk s) (dok : DOk s) (co : COk s ps0 pb ats) (ho : s.out.length ≤ 8000) (sz : SZ s s.decl)
    (hats : ats.length ≤ 30) (hat2 : ∀ e ∈ ats, e.2.length ≤ 100) (hnm : ∀ q ∈ tag :: ats.map (·.1), NameOk spl q)
    (h : ∀ out : List Str, out.Perm (addsS [tag] (ats.map (·.1))) → True → ∃ pq l, Parse (flat s.ns) (flat s.decl) spl pq out [] l ∧ (∀ q, (pq q).1.length ≤ 1000 ∧ (pq q).2.1.length ≤ 1000 ∧ (pq q).2.2.length ≤ 1000) ∧ l.length ≤ 30 ∧ (∀ e ∈ l, e.2.length ≤ 900 ∧ e.1.length ≤ 100) ∧
      ∀ a aN tb, TbOk { s with tb := some tb } → Q .none (wled k { flq s with decl := s.decl ++ [(a, l)], ps := s.ps ++ [pb], out := (flq s).out ++ outC (pq tag).1 (sortP (l.map nsQ) ++ (sortP ats).map (atQ pq)), seen := true, ns := s.ns ++ [(aN, [])], tb := some tb } rest)) :
    WK C (n + 5) X (.ref 120) [.ref k.x, .str tag, .dct (strD ats)] [] (wled k s rest) Q := by
  obtain ⟨f1, f2, f3, f4, f5, f6, f7, f8⟩ := flq_keep s
  refine WK.dropQ ?_
  refine wk_def (G.inn 120 _ rfl) rfl rfl (code_at G.inn rfl rfl rfl) G.lim (binds := [(Str.ofString "self", .ref k.x), (Str.ofString "tag", .str tag), (Str.ofString "attrs", .dct (strD ats))]) (bind3 fun y z t => rfl) fun L => ?_
  dsimp only [fenv]
  refine wcells_id rfl (wst_cons (wn_local .head (wst_cons (wn_local .head (wst_cons (wn_local .head (wst_nil ?_)))))))
  refine ws_cons' ?_; refine wx_if ?_; refine wt_and ?_; refine wt_cmp ?_; refine we_attr ?_; refine we_local (by walk_at "mem") (by walk_at "lkp") ?_; refine ga_own (cls1 (by assumption)) ⟨_, by walk_at "mem", by walk_at "mem"⟩ (by rfl) (by rfl) (fun _ e => by cases e) ?_; refine we_none ?_; refine wc_isnot_none trivial ?_; refine tr_bool ?_; refine iff' (by rfl) ?_; refine iff' (by rfl) ?_; refine ws_nil ?_; refine nx_next ?_; refine ws_cons' ?_; refine wx_flush (by assumption) (by assumption) (by rfl) ?_; refine nx_next ?_; refine ws_cons' ?_; refine wx_assign ?_
  refine we_list ?_
  refine wa_nil ?_
  refine ⟨by rw [sizeLine_eq]; simp, fun a => ?_⟩
  refine wn_local (by walk_at "up") ?_; refine nx_next ?_; refine ws_cons' ?_; refine wx_expr ?_; refine we_mcall ?_; refine we_attr ?_; refine we_local (by walk_at "mem") (by walk_at "lkp") ?_; refine ga_own (cls1 (by assumption)) ⟨_, by walk_at "mem", by walk_at "mem"⟩ (by rfl) (by rfl) (fun _ e => by cases e) ?_; refine wm_lappend (lv_own (by walk_at "mem")) ?_; refine wa_cons ?_; refine we_local (by walk_at "mem") (by walk_at "lkp") ?_; refine wa_nil ?_; refine wall_nil ?_
  refine ⟨kept_builtin, wc_append (by walk_at "up") (by rw [sizeLine_eq, List.length_map, f1]; have := sz.a; walk_at "om") ?_⟩
  refine nx_next ?_; refine ws_cons' ?_; refine wx_if ?_; refine wt_and ?_; refine wt_cmp ?_; refine we_attr ?_; refine we_local (by walk_at "mem") (by walk_at "lkp") ?_; refine ga_own (cls1 (by assumption)) ⟨_, by walk_at "mem", by walk_at "mem"⟩ (by rfl) (by rfl) (fun _ e => by cases e) ?_; refine we_none ?_; refine wc_isnot_none trivial ?_; refine tr_bool ?_; refine iff' (by rfl) ?_; refine iff' (by rfl) ?_; refine ws_nil ?_; refine nx_next ?_; refine ws_cons' ?_; refine wx_expr ?_; refine we_mcall ?_; refine we_local (by walk_at "mem") (by walk_at "lkp") ?_; refine wm_inst (cls1 (by assumption)) ⟨_, by walk_at "mem", by walk_at "mem"⟩ (by rfl) (by rfl) (by rfl) ?_; refine wa_cons ?_; refine we_local (by walk_at "mem") (by walk_at "lkp") ?_; refine wa_cons ?_; refine we_local (by walk_at "mem") (by walk_at "lkp") ?_; refine wa_cons ?_; refine we_local (by walk_at "mem") (by walk_at "lkp") ?_; refine wa_nil ?_; refine wall_nil ?_
  generalize hloc : setLoc (setLoc _ _ _) _ _ = loc
  clear hloc
  refine ⟨kept_base (G.inn 126 _ rfl) rfl, WK.wc (WK.permQ (led' := wled k { flq s with decl := (flq s).decl ++ [(a, [])] } ((L, .frame loc) :: rest)) ?_ ?_)⟩
  · have P := perm_newdecl (k := k) (s := flq s) (rest := (L, AO.frame loc) :: rest) (a := a)
    refine List.Perm.trans ?_ P
    exact List.Perm.cons _ (wled0_mid k (flq s) _ _ _ rest)
  · refine w_start0 (spl := spl) (d0 := (flq s).decl) (ps0 := ps0) (pb := pb) G ko hrw (by unfold TbOk at ht ⊢; simpa only [f5] using ht) ⟨co.sp, by dsimp only; rw [f3]; exact co.ps, by dsimp only; rw [f3]; exact co.z1, by dsimp only; walk_at "om", by dsimp only; rw [f2]; exact co.z3⟩ ?_ rfl hats hat2 hnm fun out h1 h2 => ?_
    · dsimp only; rw [f1]
      exact ⟨sz.a, sz.b, by dsimp only; rw [f2]; exact sz.c, by dsimp only; rw [f2]; exact sz.d, sz.e, by dsimp only; rw [f2]; exact sz.f⟩
    · obtain ⟨pq, l, p1, p2, p3, p4, p5⟩ := h out h1 h2
      refine ⟨pq, l, by dsimp only; rw [f1, f2]; exact p1, p2, p3, p4, fun aN tb htb => ?_⟩
      refine ⟨_, wled_perm k _ [(L, .frame loc)] rest, ?_⟩
      refine nx_next ?_; refine ws_nil ?_
      refine ⟨_, .cons _ (.refl _), ?_⟩
      have := p5 a aN tb (fun c oc e => htb c oc e)
      dsimp only at this ⊢
      rw [f1, f2, f3]
      exact this
theorem w_end {k : KA} {s : St} {d0 n0 : Stk} {a : Addr} {e' : Addr × List (Str × Str)} {ps0 : List Bool} {pb : Bool} {l : List (Str × Str)} {q uri tag p : Str} {b : Bool} {rest : Led} {Q : V → Led → Prop} (G : Gr C) (ko : KOk C k) (hrw : k.rw = false) (dok : DOk s) (hd : s.decl = d0 ++ [(a, l)]) (hn : s.ns = n0 ++ [e']) (hps : s.ps = ps0 ++ [pb])
    (ho : s.out.length ≤ 8000) (hq : Qn q uri tag) (hzq : q.length ≤ 900) (hzt : tag.length ≤ 900) (hzu : uri.length ≤ 900) (hzp : p.length ≤ 900) (sz : SZ s s.decl) (hz1 : s.ps.length ≤ 1000)
    (hr : qnR uri (flat s.decl) (flat s.ns) = some (p, b))
    (h : Q .none (wled k { flq s with decl := d0, ns := n0, ps := ps0, out := (flq s).out ++ [Str.empty ++ Str.ofString "</" ++ nm p tag ++ Str.ofString ">"], done := ((ps0.length : Int) == 1) } rest)) : WK C (n + 4) X (.ref 133) [.ref k.x, .str q] [] (wled k s rest) Q := by
  obtain ⟨f1, f2, f3, f4, f5, f6, f7, f8⟩ := flq_keep s
  have z1 := sz.a
  have z2 := sz.b
  have z3 := sz.c
  have z4 := sz.d
  refine WK.dropQ ?_
  refine wk_def (G.inn 133 _ rfl) rfl rfl (code_at G.inn rfl rfl rfl) G.lim (binds := [(Str.ofString "self", .ref k.x), (Str.ofString "tag", .str q)]) (bind2 fun y z => rfl) fun L => ?_
  dsimp only [fenv]
  refine wcells_id rfl (wst_cons (wn_local .head (wst_cons (wn_local .head (wst_nil ?_)))))
  refine ws_cons' ?_; refine wx_if ?_; refine wt_val ?_; refine we_attr ?_; refine we_local (by walk_at "mem") (by walk_at "lkp") ?_; refine ga_own (cls1 (by assumption)) ⟨_, by walk_at "mem", by walk_at "mem"⟩ (by rfl) (by rfl) (fun _ e => by cases e) ?_; refine tr_int ?_; refine iff' (by rfl) ?_; refine ws_nil ?_; refine nx_next ?_; refine ws_cons' ?_; refine wx_flush (by assumption) (by assumption) (by rfl) ?_; refine nx_next ?_; refine ws_cons' ?_; refine wx_expr ?_; refine we_mcall ?_; refine we_local (by walk_at "mem") (by walk_at "lkp") ?_; refine wm_own (cls1 (by assumption)) ⟨_, by walk_at "mem", by walk_at "mem"⟩ (by rfl) (by rfl) (fun _ e => by cases e) ?_; refine wa_cons ?_
  refine we_fstr (we_str ⟨_, rfl, by rw [sizeLine_eq]; decide, we_fval (we_tsub ?_)⟩)
  refine we_mcall ?_; refine we_local (by walk_at "mem") (by walk_at "lkp") ?_; refine wm_inst (cls1 (by assumption)) ⟨_, by walk_at "mem", by walk_at "mem"⟩ (by rfl) (by rfl) (by rfl) ?_; refine wa_cons ?_; refine we_local (by walk_at "mem") (by walk_at "lkp") ?_; refine wa_nil ?_; refine wall_nil ?_
  generalize hs2 : (if b = true then { flq s with decl := d0 ++ [(a, l ++ [(uri, p)])] } else flq s) = s2
  have g1 : ∃ l2, s2.decl = d0 ++ [(a, l2)] := by
    rw [← hs2]
    cases b
    · exact ⟨l, f1.trans hd⟩
    · exact ⟨_, rfl⟩
  have g2 : s2.ns = n0 ++ [e'] ∧ s2.ps = ps0 ++ [pb] ∧ s2.out = (flq s).out ∧ s2.data = (flq s).data ∧ s2.pmap = (flq s).pmap ∧ s2.seen = (flq s).seen ∧ s2.tb = (flq s).tb := by
    rw [← hs2]
    cases b
    · exact ⟨f2.trans hn, f3.trans hps, rfl, rfl, rfl, rfl, rfl⟩
    · exact ⟨f2.trans hn, f3.trans hps, rfl, rfl, rfl, rfl, rfl⟩
  refine ⟨kept_base (G.inn 90 _ rfl) rfl, WK.wc (WK.pre [_] (w_qname (s := flq s) (p := p) (b := b) G ko hrw (f1.trans hd) hq (by walk_at "om") (by walk_at "om") (by walk_at "om") (by rw [f1]; walk_at "om") (by rw [f1]; walk_at "om") (by rw [f2]; walk_at "om") (by rw [f2]; walk_at "om") (by rw [f1]; exact sz.e) (by rw [f2]; exact sz.f) (by rw [f1, f2]; exact hr) (preQ ?_)))⟩
  rw [hs2]
  obtain ⟨l2, g1⟩ := g1
  obtain ⟨g2, g3, g4, g5, g6, g7, g8⟩ := g2
  have r1 : refsOf s2.decl = refsOf d0 ++ [V.ref a] := by rw [g1]; exact refs_last _ _ _
  have r2 : refsOf s2.ns = refsOf n0 ++ [V.ref e'.1] := by rw [g2]; simp [refsOf]
  refine ⟨_, _, tv_fz, rfl, ?_⟩
  have hnml : (nm p tag).length ≤ 2000 := by
    unfold nm
    split
    · rw [slen_append, slen_append, slen_append]
      have : Str.empty.length = 0 := rfl
      have : (Str.ofString ":").length = 1 := rfl
      walk_at "om"
    · walk_at "om"
  have c1 : Str.empty.length = 0 := rfl
  have c2 : (Str.ofString "</").length = 2 := rfl
  have c3 : (Str.ofString ">").length = 1 := rfl
  refine ⟨_, rfl, by rw [sizeLine_eq]; walk_at "om", ⟨_, rfl, by rw [slen_append, sizeLine_eq]; walk_at "om", we_str ⟨_, rfl, by rw [slen_append, slen_append, sizeLine_eq]; walk_at "om", ?_⟩⟩⟩
  show WA _ _ _ _ _ _ _ _
  refine wa_nil ?_; refine wall_nil ?_
  refine ⟨kept_bnd (by walk_at "mem") rfl rfl, wc_bnd (by walk_at "mem") (by walk_at "up") (by rw [sizeLine_eq, List.length_map, g4]; walk_at "om") ?_⟩
  refine nx_next ?_; refine ws_cons' ?_; refine wx_expr ?_; refine we_mcall ?_; refine we_attr ?_; refine we_local (by walk_at "mem") (by walk_at "lkp") ?_; refine ga_own (cls1 (by assumption)) ⟨_, by walk_at "mem", by walk_at "mem"⟩ (by rfl) (by rfl) (fun _ e => by cases e) ?_
  refine wm_lpop (lv_own (by walk_at "mem")) ?_
  refine wa_nil ?_; refine wall_nil ?_
  refine ⟨kept_builtin, wc_pop (vs := ps0.map V.bool) (w := .bool pb) (led' := ?led1) ?_ (by rw [sizeLine_eq, List.length_map]; rw [hps] at hz1; simp at hz1; walk_at "om") ?_⟩
  case led1 => exact [(L, .frame (setLoc (setLoc [] (Str.ofString "self") (V.ref k.x)) (Str.ofString "tag") (V.str q)))] ++ wled0 k { s2 with ps := ps0, out := (flq s).out ++ [Str.empty ++ Str.ofString "</" ++ nm p tag ++ Str.ofString ">"] } (refsOf d0 ++ [.ref a]) (refsOf n0 ++ [.ref e'.1]) rest
  · rw [← r1, ← r2, g3]
    unfold wled0
    dsimp only
    rw [List.map_append, List.map_append, ← g4]
    refine .tail (.tail (.tail (.tail (.tail (.tail (.tail .head))))))
  refine nx_next ?_; refine ws_cons' ?_
  have hp0 : ps0.length ≤ 1000 := by rw [hps] at hz1; simp at hz1; walk_at "om"
  have hd0 : d0.length ≤ 900 := by rw [hd] at z1; simp at z1; walk_at "om"
  have hn0 : n0.length ≤ 900 := by rw [hn] at z3; simp at z3; walk_at "om"
  refine wx_asattr ?_
  refine we_cmp ?_; refine we_call ?_; refine we_bltn (bltn1 (by assumption) (by rfl) (by rfl) (by decide)) ?_; refine wa_cons ?_; refine we_attr ?_; refine we_local (by walk_at "mem") (by walk_at "lkp") ?_; refine ga_own (cls1 (by assumption)) ⟨_, by walk_at "mem", by walk_at "mem"⟩ (by rfl) (by rfl) (fun _ e => by cases e) ?_; refine wa_nil ?_; refine wall_nil ?_
  refine ⟨kept_builtin, wc_len_list (vs := ps0.map V.bool) (lv_own (by walk_at "mem")) (by rw [List.length_map]; walk_at "om") ?_⟩
  rw [List.length_map]
  refine we_int ?_; refine wc_eq_int ?_; refine we_local (by walk_at "mem") (by walk_at "lkp") ?_
  refine sa_own' (cls1 G) (by walk_at "inst") (by rfl) (by show 18 ≤ 900; decide) (stE_done k _ _ _) (by walk_at "up") ?_
  refine nx_next ?_; refine ws_cons' ?_; refine wx_expr ?_; refine we_mcall ?_; refine we_attr ?_; refine we_local (by walk_at "mem") (by walk_at "lkp") ?_; refine ga_own (cls1 (by assumption)) ⟨_, by walk_at "mem", by walk_at "mem"⟩ (by rfl) (by rfl) (fun _ e => by cases e) ?_
  refine wm_lpop (lv_own (by walk_at "mem")) ?_
  refine wa_nil ?_; refine wall_nil ?_
  refine ⟨kept_builtin, wc_pop (vs := refsOf d0) (w := .ref a) (by walk_at "up") (by rw [sizeLine_eq, List.length_map]; walk_at "om") ?_⟩
  refine nx_next ?_; refine ws_cons' ?_; refine wx_expr ?_; refine we_mcall ?_; refine we_attr ?_; refine we_local (by walk_at "mem") (by walk_at "lkp") ?_; refine ga_own (cls1 (by assumption)) ⟨_, by walk_at "mem", by walk_at "mem"⟩ (by rfl) (by rfl) (fun _ e => by cases e) ?_
  refine wm_lpop (lv_own (by walk_at "mem")) ?_
  refine wa_nil ?_; refine wall_nil ?_
  refine ⟨kept_builtin, wc_pop (vs := refsOf n0) (w := .ref e'.1) (by walk_at "up") (by rw [sizeLine_eq, List.length_map]; walk_at "om") ?_⟩
  refine nx_next ?_; refine ws_nil ?_
  have hS := sub_popdecl (k := k) (s := { s2 with ps := ps0, out := (flq s).out ++ [Str.empty ++ Str.ofString "</" ++ nm p tag ++ Str.ofString ">"], done := ((ps0.length : Int) == 1) }) (rest := rest) (d0 := d0) (e := (a, l2)) g1 (n0 := n0) (e' := e') g2
  refine ⟨_, .cons _ hS, ?_⟩
  dsimp only
  rw [g5, g6, g7, g8]
  exact h
end
section
theorem perm10 {α : Type} (a b c d e f g h i j : α) (r : List α) : (a :: b :: c :: d :: e :: f :: g :: h :: i :: j :: r).Perm (i :: j :: h :: f :: e :: b :: a :: g :: d :: c :: r) := by
  classical
  refine List.perm_iff_count.mpr fun x => ?_
  simp only [List.count_cons]
  walk_at "om"
end
section
noncomputable def EntsOk (P : Params) : List DictEntry → List (Str × Str) → Prop
  | [], [] => True
  | e :: es, (x, y) :: r => (∃ t u, e = { hash := PyData.keyHash P x, key := .str x t, val := .str y u }) ∧ EntsOk P es r
  | _, _ => False
theorem ents_pairs {Φ : PH} : ∀ {es : List DictEntry} {r : List (Str × Str)}, EntsOk C.w.params es r → ∃ kvs, Pairs C.sk es kvs ∧ VEs C Φ (strD r) kvs ∧ kvs.map (·.1) = r.map (·.1) ∧ ∀ e ∈ es, ∃ k, C.sk.is k e.key = true ∧ e.hash = C.sk.hash k
  | [], [], _ => ⟨[], .nil, by simp only [List.map_nil, VEs], rfl, fun e he => by cases he⟩
  | e :: es, (x, y) :: r, h => by
    obtain ⟨⟨t, u, rfl⟩, h⟩ := h
    obtain ⟨kvs, h1, h2, h3, h4⟩ := ents_pairs h
    refine ⟨(x, .str y u) :: kvs, .cons sk_is rfl h1, ?_, by simp [h3], fun e he => ?_⟩
    · simp only [List.map_cons, VEs]; exact ⟨_, _, rfl, vstr, h2⟩
    · rcases List.mem_cons.mp he with rfl | he
      · exact ⟨x, sk_is, rfl⟩
      · exact h4 e he
theorem conv_dict {a : Addr} {es : Array DictEntry} {m : Nat} {r : List (Str × Str)} (ho : C.base.get? a = some { cls := .type "dict", data := .dict es m }) (hs : (a == sysModules) = false) (he : EntsOk C.w.params es.toList r) (hn : (r.map (·.1)).Nodup) : ConvV C led (.ref a) led (.dct (strD r)) := fun Φ s x S hx => by
  obtain ⟨kvs, h1, h2, h3, h4⟩ := ents_pairs (C := C) (Φ := Φ) he
  refine ⟨Φ, Le.refl _, S, ?_⟩
  rw [wv_val hx]
  simp only [VR]
  exact ⟨a, _, kvs, rfl, hs, S.base _ _ ho, ⟨⟨rfl, rfl, rfl⟩, es, m, rfl, fun e he => h4 e (Array.mem_toList_iff.mpr he), h1, by rw [h3]; exact hn⟩, h2⟩
theorem stE_app {es : List (Str × V)} {k : Str} {v : V} (h : (es.any fun kv => decide (kv.1 = k)) = false) : stE es k v = es ++ [(k, v)] := by unfold stE; rw [if_neg (by rw [h]; decide)]
noncomputable def NSM : List (Str × Str) := [(Str.ofString "http://www.w3.org/XML/1998/namespace", Str.ofString "xml"), (Str.ofString "http://www.w3.org/1999/xhtml", Str.ofString "html"), (Str.ofString "http://www.w3.org/1999/02/22-rdf-syntax-ns#", Str.ofString "rdf"), (Str.ofString "http://schemas.xmlsoap.org/wsdl/", Str.ofString "wsdl"),
  (Str.ofString "http://www.w3.org/2001/XMLSchema", Str.ofString "xs"), (Str.ofString "http://www.w3.org/2001/XMLSchema-instance", Str.ofString "xsi"), (Str.ofString "http://purl.org/dc/elements/1.1/", Str.ofString "dc")]
theorem conv_nsm (G : Gr C) : ConvV C led (.ref 44) led (.dct (strD NSM)) := conv_dict (G.inn 44 _ rfl) (by decide) ⟨⟨_, _, rfl⟩, ⟨_, _, rfl⟩, ⟨_, _, rfl⟩, ⟨_, _, rfl⟩, ⟨_, _, rfl⟩, ⟨_, _, rfl⟩, ⟨_, _, rfl⟩, trivial⟩ (by decide)
noncomputable def xmlP : Str × Str := (Str.ofString "http://www.w3.org/XML/1998/namespace", Str.ofString "xml")
noncomputable def esI (b dl dd dn pm ps : Addr) : List (Str × V) :=
  [(Str.ofString "_write", .ref b), (Str.ofString "_data", .ref dl), (Str.ofString "_with_comments", .bool false), (Str.ofString "_strip_text", .bool false), (Str.ofString "_exclude_attrs", .none), (Str.ofString "_exclude_tags", .none),
   (Str.ofString "_rewrite_prefixes", .bool false), (Str.ofString "_qname_aware_tags", .none), (Str.ofString "_find_qname_aware_attrs", .none), (Str.ofString "_declared_ns_stack", .ref dd), (Str.ofString "_ns_stack", .ref dn),
   (Str.ofString "_prefix_map", .ref pm), (Str.ofString "_preserve_space", .ref ps), (Str.ofString "_pending_start", .none), (Str.ofString "_root_seen", .bool false), (Str.ofString "_root_done", .bool false), (Str.ofString "_ignored_depth", .int 0)]
theorem w_init {x dx b : Addr} {Q : V → Led → Prop} (G : Gr C)
    (h : ∀ dl dd dn pm ps a0 aM aE, Q .none ((x, .obj (instObj 150 dx)) :: (dx, .dict (esI b dl dd dn pm ps)) :: (dl, .list []) :: (dd, .list [.ref a0]) :: (dn, .list [.ref aM, .ref aE]) :: (pm, .dict []) :: (ps, .list [.bool false]) :: (a0, .list [prV xmlP]) :: (aM, .list (NSM.map prV)) :: (aE, .list []) :: led)) : WK C (n + 1) X (.ref 67) [.ref x, .ref b] [] ((x, .obj (instObj 150 dx)) :: (dx, .dict []) :: led) Q := by
  refine WK.permQ (.refl _) ?_
  refine WK.dropQ ?_
  refine wk_def (G.inn 67 _ rfl) rfl rfl (code_at G.inn rfl rfl rfl) G.lim (binds := [(Str.ofString "self", .ref x), (Str.ofString "write", .ref b), (Str.ofString "with_comments", .bool false), (Str.ofString "strip_text", .bool false), (Str.ofString "rewrite_prefixes", .bool false), (Str.ofString "qname_aware_tags", .none), (Str.ofString "qname_aware_attrs", .none), (Str.ofString "exclude_attrs", .none), (Str.ofString "exclude_tags", .none)]) (bindTo ?_) fun L => ?_
  · intro Φ led s xs ks S hp hk
    obtain ⟨y, z, rfl, hy, hz⟩ := vrs2 hp
    rw [ves0 hk]
    refine ⟨_, kp_binds ((cls1 G).at S.toSat0) (fun S => rfl), ?_⟩
    simp only [VEs]
    exact ⟨_, _, rfl, hy, _, _, rfl, hz, _, _, rfl, vbool, _, _, rfl, vbool, _, _, rfl, vbool, _, _, rfl, vnone, _, _, rfl, vnone, _, _, rfl, vnone, _, _, rfl, vnone, rfl⟩
  dsimp only [fenv]
  refine wcells_id rfl ?_
  refine wst_cons (wn_local (by walk_at "up") (wst_cons (wn_local (by walk_at "up") (wst_cons (wn_local (by walk_at "up") (wst_cons (wn_local (by walk_at "up") (wst_cons (wn_local (by walk_at "up") (wst_cons (wn_local (by walk_at "up") (wst_cons (wn_local (by walk_at "up") (wst_cons (wn_local (by walk_at "up") (wst_cons (wn_local (by walk_at "up") (wst_nil ?_))))))))))))))))))
  refine ws_cons' ?_; refine wx_asattr ?_; refine we_local (by walk_at "mem") (by walk_at "lkp") ?_; refine we_local (by walk_at "mem") (by walk_at "lkp") ?_; refine sa_own' (cls1 (by assumption)) ⟨_, by walk_at "mem", by walk_at "mem"⟩ (by kernel_rfl) (Nat.le_of_ble_eq_true (by kernel_rfl)) (stE_app (by kernel_rfl)) (by walk_at "up") ?_; refine nx_next ?_; refine ws_cons' ?_; refine wx_asattr ?_
  refine we_list ?_
  refine wa_nil ?_
  refine ⟨by rw [sizeLine_eq]; simp, fun dl => ?_⟩
  refine we_local (by walk_at "mem") (by walk_at "lkp") ?_; refine sa_own' (cls1 (by assumption)) ⟨_, by walk_at "mem", by walk_at "mem"⟩ (by kernel_rfl) (Nat.le_of_ble_eq_true (by kernel_rfl)) (stE_app (by kernel_rfl)) (by walk_at "up") ?_; refine nx_next ?_; refine ws_cons' ?_; refine wx_asattr ?_; refine we_local (by walk_at "mem") (by walk_at "lkp") ?_; refine we_local (by walk_at "mem") (by walk_at "lkp") ?_; refine sa_own' (cls1 (by assumption)) ⟨_, by walk_at "mem", by walk_at "mem"⟩ (by kernel_rfl) (Nat.le_of_ble_eq_true (by kernel_rfl)) (stE_app (by kernel_rfl)) (by walk_at "up") ?_; refine nx_next ?_; refine ws_cons' ?_; refine wx_asattr ?_; refine we_local (by walk_at "mem") (by walk_at "lkp") ?_; refine we_local (by walk_at "mem") (by walk_at "lkp") ?_; refine sa_own' (cls1 (by assumption)) ⟨_, by walk_at "mem", by walk_at "mem"⟩ (by kernel_rfl) (Nat.le_of_ble_eq_true (by kernel_rfl)) (stE_app (by kernel_rfl)) (by walk_at "up") ?_; refine nx_next ?_; refine ws_cons' ?_; refine wx_asattr ?_; refine we_ife ?_; refine wt_val ?_; refine we_local (by walk_at "mem") (by walk_at "lkp") ?_; refine tr_none ?_; refine iff' (by rfl) ?_; refine we_none ?_; refine we_local (by walk_at "mem") (by walk_at "lkp") ?_; refine sa_own' (cls1 (by assumption)) ⟨_, by walk_at "mem", by walk_at "mem"⟩ (by kernel_rfl) (Nat.le_of_ble_eq_true (by kernel_rfl)) (stE_app (by kernel_rfl)) (by walk_at "up") ?_; refine nx_next ?_; refine ws_cons' ?_; refine wx_asattr ?_; refine we_ife ?_; refine wt_val ?_; refine we_local (by walk_at "mem") (by walk_at "lkp") ?_; refine tr_none ?_; refine iff' (by rfl) ?_; refine we_none ?_; refine we_local (by walk_at "mem") (by walk_at "lkp") ?_; refine sa_own' (cls1 (by assumption)) ⟨_, by walk_at "mem", by walk_at "mem"⟩ (by kernel_rfl) (Nat.le_of_ble_eq_true (by kernel_rfl)) (stE_app (by kernel_rfl)) (by walk_at "up") ?_; refine nx_next ?_; refine ws_cons' ?_; refine wx_asattr ?_; refine we_local (by walk_at "mem") (by walk_at "lkp") ?_; refine we_local (by walk_at "mem") (by walk_at "lkp") ?_; refine sa_own' (cls1 (by assumption)) ⟨_, by walk_at "mem", by walk_at "mem"⟩ (by kernel_rfl) (Nat.le_of_ble_eq_true (by kernel_rfl)) (stE_app (by kernel_rfl)) (by walk_at "up") ?_; refine nx_next ?_; refine ws_cons' ?_; refine wx_if ?_; refine wt_val ?_; refine we_local (by walk_at "mem") (by walk_at "lkp") ?_; refine tr_none ?_; refine iff' (by rfl) ?_; refine ws_cons' ?_; refine wx_asattr ?_; refine we_none ?_; refine we_local (by walk_at "mem") (by walk_at "lkp") ?_; refine sa_own' (cls1 (by assumption)) ⟨_, by walk_at "mem", by walk_at "mem"⟩ (by kernel_rfl) (Nat.le_of_ble_eq_true (by kernel_rfl)) (stE_app (by kernel_rfl)) (by walk_at "up") ?_; refine nx_next ?_; refine ws_nil ?_; refine nx_next ?_; refine ws_cons' ?_; refine wx_if ?_; refine wt_val ?_; refine we_local (by walk_at "mem") (by walk_at "lkp") ?_; refine tr_none ?_; refine iff' (by rfl) ?_; refine ws_cons' ?_; refine wx_asattr ?_; refine we_none ?_; refine we_local (by walk_at "mem") (by walk_at "lkp") ?_; refine sa_own' (cls1 (by assumption)) ⟨_, by walk_at "mem", by walk_at "mem"⟩ (by kernel_rfl) (Nat.le_of_ble_eq_true (by kernel_rfl)) (stE_app (by kernel_rfl)) (by walk_at "up") ?_; refine nx_next ?_; refine ws_nil ?_; refine nx_next ?_; refine ws_cons' ?_; refine wx_asattr ?_
  refine we_list (wa_cons (we_list (wa_cons (we_tuple ?_))))
  refine wa_cons ?_; refine we_str ?_; refine wa_cons ?_; refine we_str ?_; refine wa_nil ?_
  refine ⟨by rw [sizeLine_eq]; simp, ?_⟩
  refine wa_nil ?_
  refine ⟨by rw [sizeLine_eq]; simp, fun a0 => ?_⟩
  refine wa_nil ?_
  refine ⟨by rw [sizeLine_eq]; simp, fun dd => ?_⟩
  refine we_local (by walk_at "mem") (by walk_at "lkp") ?_; refine sa_own' (cls1 (by assumption)) ⟨_, by walk_at "mem", by walk_at "mem"⟩ (by kernel_rfl) (Nat.le_of_ble_eq_true (by kernel_rfl)) (stE_app (by kernel_rfl)) (by walk_at "up") ?_; refine nx_next ?_; refine ws_cons' ?_; refine wx_asattr ?_
  refine we_list ?_
  refine wa_nil ?_
  refine ⟨by rw [sizeLine_eq]; simp, fun dn => ?_⟩
  refine we_local (by walk_at "mem") (by walk_at "lkp") ?_; refine sa_own' (cls1 (by assumption)) ⟨_, by walk_at "mem", by walk_at "mem"⟩ (by kernel_rfl) (Nat.le_of_ble_eq_true (by kernel_rfl)) (stE_app (by kernel_rfl)) (by walk_at "up") ?_; refine nx_next ?_; refine ws_cons' ?_; refine wx_if ?_; refine wt_not ?_; refine wt_val ?_; refine we_local (by walk_at "mem") (by walk_at "lkp") ?_; refine tr_bool ?_; refine ift (by rfl) ?_; refine ws_cons' ?_; refine wx_expr ?_; refine we_mcall ?_; refine we_attr ?_; refine we_local (by walk_at "mem") (by walk_at "lkp") ?_; refine ga_own (cls1 (by assumption)) ⟨_, by walk_at "mem", by walk_at "mem"⟩ (by rfl) (by rfl) (fun _ e => by cases e) ?_; refine wm_lappend (lv_own (by walk_at "mem")) ?_; refine wa_cons ?_; refine we_call ?_; refine we_bltn (bltn1 (by assumption) (by rfl) (by rfl) (by decide)) ?_; refine wa_cons ?_; refine we_mcall ?_; refine we_glob (glob1 (by assumption) (by rfl)) ?_
  refine fun pl => W1.conv (conv_nsm G) (wm_ditems dv_fz ?_ pl)
  refine wa_nil ?_; refine wall_nil ?_
  refine ⟨kept_builtin, wc_items fun r => ?_⟩
  refine wa_nil ?_; refine wall_nil ?_
  refine ⟨kept_type, wc_list_items (by walk_at "mem") (by rw [sizeLine_eq]; decide) fun aM => ?_⟩
  refine wa_nil ?_; refine wall_nil ?_
  refine ⟨kept_builtin, wc_append (by walk_at "up") (by rw [sizeLine_eq]; simp) ?_⟩
  refine nx_next ?_; refine ws_nil ?_; refine nx_next ?_; refine ws_cons' ?_; refine wx_expr ?_; refine we_mcall ?_; refine we_attr ?_; refine we_local (by walk_at "mem") (by walk_at "lkp") ?_; refine ga_own (cls1 (by assumption)) ⟨_, by walk_at "mem", by walk_at "mem"⟩ (by rfl) (by rfl) (fun _ e => by cases e) ?_; refine wm_lappend (lv_own (by walk_at "mem")) ?_; refine wa_cons ?_
  refine we_list ?_
  refine wa_nil ?_
  refine ⟨by rw [sizeLine_eq]; simp, fun aE => ?_⟩
  refine wa_nil ?_; refine wall_nil ?_
  refine ⟨kept_builtin, wc_append (by walk_at "up") (by rw [sizeLine_eq]; simp) ?_⟩
  refine nx_next ?_; refine ws_cons' ?_; refine wx_asattr ?_
  refine we_dict0 fun pm => ?_
  refine we_local (by walk_at "mem") (by walk_at "lkp") ?_; refine sa_own' (cls1 (by assumption)) ⟨_, by walk_at "mem", by walk_at "mem"⟩ (by kernel_rfl) (Nat.le_of_ble_eq_true (by kernel_rfl)) (stE_app (by kernel_rfl)) (by walk_at "up") ?_; refine nx_next ?_; refine ws_cons' ?_; refine wx_asattr ?_
  refine we_list ?_
  refine wa_cons ?_; refine we_bool ?_; refine wa_nil ?_
  refine ⟨by rw [sizeLine_eq]; simp, fun ps => ?_⟩
  refine we_local (by walk_at "mem") (by walk_at "lkp") ?_; refine sa_own' (cls1 (by assumption)) ⟨_, by walk_at "mem", by walk_at "mem"⟩ (by kernel_rfl) (Nat.le_of_ble_eq_true (by kernel_rfl)) (stE_app (by kernel_rfl)) (by walk_at "up") ?_; refine nx_next ?_; refine ws_cons' ?_; refine wx_asattr ?_; refine we_none ?_; refine we_local (by walk_at "mem") (by walk_at "lkp") ?_; refine sa_own' (cls1 (by assumption)) ⟨_, by walk_at "mem", by walk_at "mem"⟩ (by kernel_rfl) (Nat.le_of_ble_eq_true (by kernel_rfl)) (stE_app (by kernel_rfl)) (by walk_at "up") ?_; refine nx_next ?_; refine ws_cons' ?_; refine wx_asattr ?_; refine we_bool ?_; refine we_local (by walk_at "mem") (by walk_at "lkp") ?_; refine sa_own' (cls1 (by assumption)) ⟨_, by walk_at "mem", by walk_at "mem"⟩ (by kernel_rfl) (Nat.le_of_ble_eq_true (by kernel_rfl)) (stE_app (by kernel_rfl)) (by walk_at "up") ?_; refine nx_next ?_; refine ws_cons' ?_; refine wx_asattr ?_; refine we_bool ?_; refine we_local (by walk_at "mem") (by walk_at "lkp") ?_; refine sa_own' (cls1 (by assumption)) ⟨_, by walk_at "mem", by walk_at "mem"⟩ (by kernel_rfl) (Nat.le_of_ble_eq_true (by kernel_rfl)) (stE_app (by kernel_rfl)) (by walk_at "up") ?_; refine nx_next ?_; refine ws_cons' ?_; refine wx_asattr ?_; refine we_int ?_; refine we_local (by walk_at "mem") (by walk_at "lkp") ?_; refine sa_own' (cls1 (by assumption)) ⟨_, by walk_at "mem", by walk_at "mem"⟩ (by kernel_rfl) (Nat.le_of_ble_eq_true (by kernel_rfl)) (stE_app (by kernel_rfl)) (by walk_at "up") ?_; refine nx_next ?_; refine ws_nil ?_
  refine ⟨_, .cons₂ _ (.cons₂ _ (.cons₂ _ (.cons₂ _ (.cons _ (.cons₂ _ (.cons₂ _ (.cons₂ _ (.cons₂ _ (.cons _ (.refl _)))))))))), _, perm10 _ _ _ _ _ _ _ _ _ _ _, ?_⟩
  refine Eq.mpr ?_ (h dl dd dn pm ps a0 aM aE)
  kernel_rfl
end
section
noncomputable def uA : Str := Str.ofString "urn:a"
noncomputable def uB : Str := Str.ofString "urn:b"
noncomputable def uC : Str := Str.ofString "urn:c"
noncomputable def uD : Str := Str.ofString "urn:d"
noncomputable def uE : Str := Str.ofString "urn:e"
noncomputable def u0 : Str := Str.ofString ""
noncomputable def uX : Str := Str.ofString "http://www.w3.org/XML/1998/namespace"
noncomputable def uS : Str := Str.ofString "http://www.w3.org/2001/XMLSchema"
noncomputable def PFX0 : List (Str × Str) := [(uA, Str.ofString "p"), (uB, Str.ofString "q"), (uC, Str.ofString "p"), (uD, u0), (uE, u0), (u0, u0)]
noncomputable def PFX : List (Str × Str) := PFX0 ++ [(uX, Str.ofString "xml"), (uS, Str.ofString "xs")]
noncomputable def URIS : List Str := [uA, uB, uC, uD, uE, u0, uX, uS]
noncomputable def look (d : List (Str × Str)) (k z : Str) : Str := (d.lookup k).getD z
noncomputable def pfx (u : Str) : Str := look PFX u u0
noncomputable def stS (d : List (Str × Str)) (k v : Str) : List (Str × Str) := if d.any (fun kv => kv.1 = k) then d.map (fun kv => if kv.1 = k then (kv.1, v) else kv) else d ++ [(k, v)]
theorem strD_st (d : List (Str × Str)) (k v : Str) : stE (strD d) k (.str v) = strD (stS d k v) := by
  unfold stE stS strD
  have : (d.map fun kv => (kv.1, V.str kv.2)).any (fun kv => decide (kv.1 = k)) = d.any (fun kv => decide (kv.1 = k)) := by rw [List.any_map]; rfl
  rw [this]
  split
  · rw [List.map_map, List.map_map]
    refine List.map_congr_left fun e _ => ?_
    simp only [Function.comp]
    split <;> rfl
  · rw [List.map_append]; rfl
theorem strD_lookup (d : List (Str × Str)) (k : Str) : (strD d).lookup k = (d.lookup k).map V.str := by
  induction d with
  | nil => rfl
  | cons e r ih =>
    unfold strD at ih ⊢
    rw [List.map_cons, List.lookup_cons, List.lookup_cons]
    cases h : (k == e.1) with
    | true => rfl
    | false => exact ih
theorem strD_getD (d : List (Str × Str)) (k z : Str) : ((strD d).lookup k).getD (.str z) = .str (look d k z) := by
  rw [strD_lookup]; unfold look
  cases d.lookup k <;> rfl
theorem pfx_look : ∀ u ∈ URIS, (strD PFX).lookup u = some (.str (pfx u)) := by
  intro u hu
  rw [strD_lookup]
  have : ∀ u ∈ URIS, (PFX.lookup u) = some (pfx u) := by decide +kernel
  rw [this u hu]; rfl
noncomputable def ones : List Str := [uA, uB, uC, uX, uS, uB]
noncomputable def bit (x : Int) (n : Nat) : Bool := ((x.fdiv 8).fdiv (2 ^ n)).fmod 2 == 1
noncomputable def klT (n : Nat) : Str := if n = 5 then Str.ofString "l" else Str.ofString "k"
noncomputable def txT (x : Int) : Str := Str.ofString "<" ++ (toString (x.fmod 10) : String)
noncomputable abbrev UA := List (Str × Str) × List (Str × Str × Str)
noncomputable def stepU (x : Int) (ua : UA) (n : Nat) : UA := if (bit x n && look ua.1 (pfx (ones.getD n u0)) (ones.getD n u0) == ones.getD n u0) = true then (stS ua.1 (pfx (ones.getD n u0)) (ones.getD n u0), ua.2 ++ [(ones.getD n u0, klT n, txT x)]) else ua
noncomputable def uri0 (x : Int) (scope : List (Str × Str)) (back : Bool) : Str := if (URIS.getD (x.fmod 8).toNat u0 == u0 && (!back && look scope u0 u0 != u0)) = true then uC else URIS.getD (x.fmod 8).toNat u0
noncomputable def usedA (x : Int) (uri : Str) : UA := (List.range 6).foldl (stepU x) ([(pfx uri, uri)], [])
noncomputable def zAt : List (Str × Str × Str) := [(u0, Str.ofString "z", Str.ofString "\t"), (u0, Str.ofString "a", Str.ofString "\"")]
noncomputable def attrs2 (x : Int) (back : Bool) (as : List (Str × Str × Str)) : List (Str × Str × Str) := if (!back && (x.fdiv 11).fmod 2 == 0) = true then as ++ zAt else as
noncomputable def told0 (used scope : List (Str × Str)) : List (Str × Str) := ((used.map (·.1)).filter fun p => !([Str.ofString "xml", Str.ofString "xs"].any (· == p)) && look scope p u0 != look used p u0).map fun p => (p, look used p u0)
noncomputable def moreU (x : Int) : Str := URIS.getD ((x.fdiv 3).fmod 6).toNat u0
noncomputable def told1 (x : Int) (back : Bool) (used : List (Str × Str)) (told : List (Str × Str)) : List (Str × Str) :=
  if (!(used.lookup (pfx (moreU x))).isSome && (moreU x != u0 || back)) = true then told.take ((x.fdiv 5).fmod 2 * told.length).toNat ++ (pfx (moreU x), moreU x) :: told.drop ((x.fdiv 5).fmod 2 * told.length).toNat else told
noncomputable def nameU (x : Int) : Str := [Str.ofString "x", Str.ofString "y", Str.ofString "z"].getD ((x.fdiv 7).fmod 3).toNat u0
noncomputable def attrs3 (x : Int) (as : List (Str × Str × Str)) : List (Str × Str × Str) := if ((x.fdiv 8).fmod 2 == 0) = true then as.reverse else as
structure Uses where
  uri : Str
  name : Str
  attrs : List (Str × Str × Str)
  told : List (Str × Str)
noncomputable def usesU (x : Int) (scope : List (Str × Str)) (back : Bool) : Uses :=
  let uri := uri0 x scope back
  let ua := usedA x uri
  { uri := uri, name := nameU x, attrs := attrs3 x (attrs2 x back ua.2), told := told1 x back ua.1 (told0 ua.1 scope) }
noncomputable abbrev V3 (a : Str × Str × Str) : V := VL [a.1, a.2.1, a.2.2]
noncomputable abbrev V2 (a : Str × Str) : V := VL [a.1, a.2]
noncomputable def usesV (u : Uses) : V := .lst [VL [u.uri, u.name], .lst (u.attrs.map V3), .lst (u.told.map V2), .dct (strD PFX)]
theorem uris_get (i : Int) (h0 : 0 ≤ i) (h1 : i < 8) : (URIS.map V.str)[i.toNat]? = some (.str (URIS.getD i.toNat u0)) ∧ URIS.getD i.toNat u0 ∈ URIS := by
  have h : i.toNat < 8 := by walk_at "om"
  generalize i.toNat = k at h
  match k, h with
  | 0, _ | 1, _ | 2, _ | 3, _ | 4, _ | 5, _ | 6, _ | 7, _ => exact ⟨rfl, by decide⟩
theorem fmod_in (x m : Int) (h : 0 < m) : 0 ≤ x.fmod m ∧ x.fmod m < m := ⟨Int.fmod_nonneg_of_pos x h, Int.fmod_lt_of_pos x h⟩
end
section
theorem wp_cons {k v : Expr} {ks : List (Option Expr)} {vs : List Expr} {Q : List (Str × V) → Led → Prop} (h : WE C n X env k led fun kv led1 => WE C n X env v led1 fun vv led2 => ∃ key, kv = .str key ∧ WPairs C n X env ks vs led2 fun es led3 => Q ((key, vv) :: es) led3) : WPairs C n X env (some k :: ks) (v :: vs) led Q := h
theorem wp_nil {Q : List (Str × V) → Led → Prop} (h : Q [] led) : WPairs C n X env [] [] led Q := h
theorem Up.cast {a : Addr} {ao : AO} {es es' : List (Str × V)} {l l' : Led} (e : es = es') (U : Up a ao (.dict es') l l') : Up a ao (.dict es) l l' := e ▸ U
theorem si_dict' {a : Addr} {es es' : List (Str × V)} {k : Str} {v : V} {led' : Led} {Q : Unit → Led → Prop} (hz : es.length ≤ sizeLine) (he : stE es k v = es') (U : Up a (.dict es) (.dict es') led led') (h : Q () led') : W3 C n X RU setItem (.ref a) (.str k) v led Q := si_dict (Up.cast he U) hz h
theorem wx_assub {o i : Expr} {p' p : Pos} {value : Expr} {Q : F → Led → Prop} (h : WE C n X env value led fun v led1 => WE C n X env o led1 fun ov led2 => WE C n X env i led2 fun iv led3 => W3 C n X RU setItem ov iv v led3 fun _ led4 => Q .next led4)
    (hs : swapsWithSole [.Subscript o i p'] value p.line env = pure false := by kernel_rfl) (hw : swappedStores [.Subscript o i p'] value env = pure none := by kernel_rfl) : WX C n X env (.Assign [.Subscript o i p'] value p) led Q :=
  wx_assigns (W.mono h fun v l z => show W1 C n X RU (assign (.Subscript o i p') env) v l fun _ led2 => Q .next led2 from wa_sub z) hs hw
theorem wc_getS {v : V} {d : List (Str × Str)} {k z : Str} {Q : V → Led → Prop} (hv : DictV C led v (strD d)) (h : Q (.str (look d k z)) led) : WC C n X (.val (.builtin "dict.get")) [v, .str k, .str z] [] led Q := wc_get3 hv (by rw [strD_getD]; exact h)
theorem we_lsubx {o i : Expr} {p : Pos} {Q : V → Led → Prop} (h : WE C n X env o led fun v led1 => WE C n X env i led1 fun iv led2 => ∃ vs k w, ListV C led2 v vs ∧ iv = .int k ∧ 0 ≤ k ∧ k < 2 ^ 63 ∧ vs[k.toNat]? = some w ∧ Q w led2)
    (hs : ∀ o z, ∃ ops, subscripted i false o z = operate ops (getItem o z) := by exact fun _ _ => ⟨_, rfl⟩) : WE C n X env (.Subscript o i p) led Q :=
  we_sub (T := "list") (W.mono h fun v l z => W.mono z fun iv l2 ⟨vs, k, w, h1, h2, h3, h4, h5, h6⟩ => ⟨ty_list h1, by subst h2; exact gi_list h1 h3 h4 h5 h6⟩) F.slot_list_getitem.lookup hs
theorem we_ssubx {o i : Expr} {p : Pos} {Q : V → Led → Prop} (h : WE C n X env o led fun v led1 => WE C n X env i led1 fun iv led2 => ∃ x k c, v = .str x ∧ iv = .int k ∧ 0 ≤ k ∧ k < 2 ^ 63 ∧ x.cps[k.toNat]? = some c ∧ Q (.str ⟨#[c]⟩) led2)
    (hs : ∀ o z, ∃ ops, subscripted i false o z = operate ops (getItem o z) := by exact fun _ _ => ⟨_, rfl⟩) : WE C n X env (.Subscript o i p) led Q :=
  we_sub (T := "str") (W.mono h fun v l z => W.mono z fun iv l2 ⟨x, k, c, h1, h2, h3, h4, h5, h6⟩ => ⟨by subst h1; exact ty_str, by subst h1; subst h2; exact gi_str h3 h4 h5 h6⟩) F.slot_str_getitem.lookup hs
theorem wm_lextend {v : V} {vs : List V} {Q : V × List V → Led → Prop} (hd : ListV C led v vs) (h : Q (.val (.builtin "list.extend"), [v]) led) : WM C n X (Str.ofString "extend") v led Q := wm_builtin (ty_list hd) F.plainAttrs_list F.slot_list_extend F.type_list_extend h
theorem wm_linsert {v : V} {vs : List V} {Q : V × List V → Led → Prop} (hd : ListV C led v vs) (h : Q (.val (.builtin "list.insert"), [v]) led) : WM C n X (Str.ofString "insert") v led Q := wm_builtin (ty_list hd) F.plainAttrs_list F.slot_list_insert F.type_list_insert h
theorem WX.cutC {st : Stmt} {Q : F → Led → Prop} {led1 : Led} (h1 : WX C n X env st led fun f l => f = .next ∧ Conv C l led1) (h2 : Q .next led1) : WX C n X env st led Q :=
  W.convL (fun Φ Φ' b a hl hr => by
    cases b with
    | ret v => obtain ⟨x, h1, h2⟩ := hr; exact ⟨x, h1, h2.mono hl⟩
    | next => exact hr
    | brk => exact hr
    | cont => exact hr) (W.mono h1 fun f l ⟨a, b⟩ => ⟨led1, b, by subst a; exact h2⟩)
theorem Conv.frame {L : Addr} {loc loc' : List (Str × V)} {led2 : Led} (U : Up L (.frame loc) (.frame loc') led led2) (hi : ∀ x v, loc'.lookup x = some v → loc.lookup x = some v) : Conv C led led2 := fun Φ s S => by
  obtain ⟨o, ho, es, ep, h1, h2, h3⟩ := S.at U.mem
  exact ⟨Φ, Le.refl _, S.up1 U (fun b o _ e => e) ho ⟨es, ep, h1, h2, fun x v e => h3 x v (hi x v e)⟩⟩
theorem Conv.same {L : Addr} {loc : List (Str × V)} {x : Str} {v : V} {led2 : Led} (U : Up L (.frame loc) (.frame (setLoc loc x v)) led led2) (hv : loc.lookup x = some v) : Conv C led led2 := Conv.frame U fun y w e => by
  rcases lookup_setLoc e with ⟨rfl, rfl⟩ | ⟨_, h⟩
  · exact hv
  · exact h
noncomputable def luFd (P : Params) : FuncData := Subtype.val (p := fun fd => ∃ o, (hd1.heap_1 P).lookup 173 = some o ∧ o.data = .func fd) ⟨_, _, rfl, rfl⟩
noncomputable def luBody (P : Params) : List Stmt := Subtype.val (p := fun b => (luFd P).body = .stmts b) ⟨_, rfl⟩
theorem mkD_app : ∀ (fs es : List (Str × V)), ((es ++ fs).map (·.1)).Nodup → mkD es fs = es ++ fs
  | [], es, _ => by simp [mkD]
  | (k, v) :: fs, es, h => by
    have hk : (es.any fun kv => decide (kv.1 = k)) = false := by
      rw [List.any_eq_false]
      intro e he hc
      have hc := of_decide_eq_true hc
      rw [List.map_append, List.nodup_append] at h
      exact h.2.2 e.1 (List.mem_map_of_mem he) k (by simp) hc
    show mkD (stE es k v) fs = _
    rw [stE_app hk, mkD_app fs (es ++ [(k, v)]) (by simpa using h)]
    simp
theorem mkD_str (d : List (Str × Str)) (h : (d.map (·.1)).Nodup) : mkD [] (strD d) = strD d := by
  rw [mkD_app _ _ (by unfold strD; rw [List.nil_append, List.map_map]; exact h), List.nil_append]
theorem Conv.loc' {L : Addr} {loc : List (Str × V)} {x : Str} {v v' : V} {led1 led2 : Led} (hm : (L, AO.frame loc) ∈ led) (hv : loc.lookup x = some v) (hc : ConvV C led v led1 v') (U : Up L (.frame loc) (.frame (setLoc loc x v')) led1 led2) : Conv C led led2 := Conv.loc hv hc U hm
theorem pf0 : mkD [] (strD PFX0) = strD PFX0 := mkD_str _ (by decide +kernel)
theorem pf1 : stE (strD PFX0) (Str.ofString "http://www.w3.org/XML/1998/namespace") (.str (Str.ofString "xml")) = strD (PFX0 ++ [(uX, Str.ofString "xml")]) := by rw [strD_st]; exact congrArg strD (by decide +kernel)
theorem pf2 : stE (strD (PFX0 ++ [(uX, Str.ofString "xml")])) (Str.ofString "http://www.w3.org/2001/XMLSchema") (.str (Str.ofString "xs")) = strD PFX := by rw [strD_st]; exact congrArg strD (by decide +kernel)
end
section
theorem xyz_get (i : Int) (h0 : 0 ≤ i) (h1 : i < 3) : ∃ c, (Str.ofString "xyz").cps[i.toNat]? = some c ∧ (⟨#[c]⟩ : Str) = [Str.ofString "x", Str.ofString "y", Str.ofString "z"].getD i.toNat u0 := by
  have h : i.toNat < 3 := by walk_at "om"
  generalize i.toNat = k at h
  match k, h with
  | 0, _ | 1, _ | 2, _ => exact ⟨_, rfl, rfl⟩
noncomputable abbrev luEnv (C : Cx) (L c1 c2 : Addr) : Env := fenv (luFd C.w.params) 173 L [(Str.ofString "used", c2), (Str.ofString "scope", c1)]
theorem partU13 {x : Int} {uri : Str} {as : List (Str × Str × Str)} {td : List (Str × Str)} {L c1 c2 T AT : Addr} {loc : List (Str × V)} {r : Led} {Q : F → Led → Prop} (G : Gr C) (hz : as.length ≤ 1000)
    (l1 : loc.lookup (Str.ofString "x") = some (.int x)) (l2 : loc.lookup (Str.ofString "uri") = some (.str uri)) (l3 : loc.lookup (Str.ofString "attrs") = some (.ref AT)) (l4 : loc.lookup (Str.ofString "told") = some (.ref T)) (l5 : loc.lookup (Str.ofString "prefixes") = some (.dct (strD PFX)))
    (h : ∀ l1 l2, Q (.ret (.lst [VL [uri, nameU x], .lst ((attrs3 x as).map V3), .lst (td.map V2), .dct (strD PFX)])) (l1 ++ (l2 :: r))) :
    WS C n NoX (luEnv C L c1 c2) ((luBody C.w.params).drop 13) ((T, .list (td.map V2)) :: (AT, .list (as.map V3)) :: (L, .frame loc) :: r) Q := by
  dsimp only [luEnv, fenv, luFd, luBody, List.drop]
  refine ws_cons' (wx_ret (we_listF (wa_cons (we_listF (wa_cons ?_)))))
  have m3 := fmod_in (x.fdiv 7) 3 (by decide)
  obtain ⟨c, hc1, hc2⟩ := xyz_get _ m3.1 m3.2
  refine we_local (by walk_at "mem") (by walk_at "lkp") ?_; refine wa_cons ?_
  refine we_ssubx ?_
  refine we_str ?_; refine we_bin ?_; refine we_bin ?_; refine we_local (by walk_at "mem") (by walk_at "lkp") ?_; refine we_int ?_; refine wb_div (by decide) (PyProof.noPylong_of_log2 (by decide +kernel)) ?_; refine we_int ?_; refine wb_mod (by decide) ?_
  refine ⟨_, _, c, rfl, rfl, m3.1, by walk_at "om", hc1, ?_⟩
  refine wa_nil ?_
  refine ⟨by rw [sizeLine_eq]; simp, ?_⟩
  refine wa_cons ?_; refine we_ife ?_; refine wt_cmp ?_; refine we_bin ?_; refine we_bin ?_; refine we_local (by walk_at "mem") (by walk_at "lkp") ?_; refine we_int ?_; refine wb_div (by decide) (PyProof.noPylong_of_log2 (by decide +kernel)) ?_; refine we_int ?_; refine wb_mod (by decide) ?_; refine we_int ?_; refine wc_eq_int ?_; refine tr_bool ?_
  rw [hc2]
  refine ift_both (fun hb => ?_) (fun hb => ?_)
  · have e3 : (attrs3 x as).map V3 = (as.map V3).reverse := by unfold attrs3; rw [if_pos hb, List.map_reverse]
    rw [e3] at h
    refine we_sub (T := "list") ?_ F.slot_list_getitem.lookup
    refine we_local (by walk_at "mem") (by walk_at "lkp") ?_
    refine we_slice (wp_none (wp_none (wp_some (we_neg (we_int ⟨1, rfl, ?_⟩)))))
    refine ⟨-1, rfl, fun a o ho => ⟨ty_list (lv_own (.tail _ (.tail _ (.head _)))), gi_lrev (lv_own (.tail _ (.tail _ (.head _)))) ho (by rw [sizeLine_eq, List.length_map]; walk_at "om") ?_⟩⟩
    refine wa_cons (W.convV (we_local (by walk_at "mem") (by walk_at "lkp") ⟨_, _, frzL .head, ?_⟩))
    refine wa_cons ?_; refine we_local (by walk_at "mem") (by walk_at "lkp") ?_; refine wa_nil ?_
    refine ⟨by rw [sizeLine_eq]; simp, ?_⟩
    exact nx_ret (h [(AT, .list (as.map V3))] _)
  · have e3 : attrs3 x as = as := by unfold attrs3; rw [if_neg (by rw [hb]; decide)]
    rw [e3] at h
    refine W.convV (we_local (by walk_at "mem") (by walk_at "lkp") ⟨_, _, frzL (.tail .head), ?_⟩)
    refine wa_cons (W.convV (we_local (by walk_at "mem") (by walk_at "lkp") ⟨_, _, frzL .head, ?_⟩))
    refine wa_cons ?_; refine we_local (by walk_at "mem") (by walk_at "lkp") ?_; refine wa_nil ?_
    refine ⟨by rw [sizeLine_eq]; simp, ?_⟩
    exact nx_ret (h [] _)
theorem wm_notin_look {d : List (Str × Str)} {k : Str} : (!((strD d).lookup k).isSome) = !(d.lookup k).isSome := by rw [strD_lookup]; cases d.lookup k <;> rfl
theorem partU11 {x : Int} {back : Bool} {uri : Str} {as : List (Str × Str × Str)} {td used : List (Str × Str)} {L c1 c2 T AT : Addr} {loc : List (Str × V)} {vs : V} {r : Led} {Q : F → Led → Prop} (G : Gr C) (hz : as.length ≤ 1000) (hz2 : td.length ≤ 1000)
    (l0 : loc.lookup (Str.ofString "back") = some (.bool back)) (l1 : loc.lookup (Str.ofString "x") = some (.int x)) (l2 : loc.lookup (Str.ofString "uri") = some (.str uri)) (l3 : loc.lookup (Str.ofString "attrs") = some (.ref AT)) (l4 : loc.lookup (Str.ofString "told") = some (.ref T)) (l5 : loc.lookup (Str.ofString "prefixes") = some (.dct (strD PFX))) (l6 : loc.lookup (Str.ofString "uris") = some (.lst (URIS.map V.str)))
    (h : ∀ l1, Q (.ret (.lst [VL [uri, nameU x], .lst ((attrs3 x as).map V3), .lst ((told1 x back used td).map V2), .dct (strD PFX)])) (l1 ++ r)) :
    WS C n NoX (luEnv C L c1 c2) ((luBody C.w.params).drop 11) ((T, .list (td.map V2)) :: (AT, .list (as.map V3)) :: (c2, .cell (some (.dct (strD used)))) :: (c1, .cell (some vs)) :: (L, .frame loc) :: r) Q := by
  have fin : ∀ (td : List (Str × Str)) (loc : List (Str × V)), td = told1 x back used td → True := fun _ _ _ => trivial
  clear fin
  have m6 := fmod_in (x.fdiv 3) 6 (by decide)
  obtain ⟨g6, g6'⟩ := uris_get _ m6.1 (by walk_at "om")
  have hp := pfx_look _ g6'
  have eM : moreU x = URIS.getD ((x.fdiv 3).fmod 6).toNat u0 := rfl
  rw [← eM] at g6 g6' hp
  have fin : ∀ (td' : List (Str × Str)) (loc : List (Str × V)), td' = told1 x back used td → loc.lookup (Str.ofString "x") = some (.int x) → loc.lookup (Str.ofString "uri") = some (.str uri) → loc.lookup (Str.ofString "attrs") = some (.ref AT) → loc.lookup (Str.ofString "told") = some (.ref T) → loc.lookup (Str.ofString "prefixes") = some (.dct (strD PFX)) →
      WS C n NoX (luEnv C L c1 c2) ((luBody C.w.params).drop 13) ((T, .list (td'.map V2)) :: (AT, .list (as.map V3)) :: (c2, .cell (some (.dct (strD used)))) :: (c1, .cell (some vs)) :: (L, .frame loc) :: r) Q := fun td' loc e l1 l2 l3 l4 l5 => by
    subst e
    refine W.drop (.cons₂ _ (.cons₂ _ (.cons _ (.cons _ (.refl _))))) (partU13 G hz l1 l2 l3 l4 l5 fun q1 q2 => ?_)
    have := h (q1 ++ [q2])
    rw [List.append_assoc] at this
    exact this
  dsimp only [luEnv, fenv, luFd, luBody, List.drop] at fin ⊢
  refine ws_cons' ?_; refine wx_assign ?_
  refine we_lsubx ?_
  refine we_local (by walk_at "mem") (by walk_at "lkp") ?_; refine we_bin ?_; refine we_bin ?_; refine we_local (by walk_at "mem") (by walk_at "lkp") ?_; refine we_int ?_; refine wb_div (by decide) (PyProof.noPylong_of_log2 (by decide +kernel)) ?_; refine we_int ?_; refine wb_mod (by decide) ?_
  refine ⟨_, _, _, lv_fz, rfl, m6.1, by walk_at "om", g6, ?_⟩
  refine wn_local (by walk_at "up") (nx_next (ws_cons' (wx_if (WT.cut (!(used.lookup (pfx (moreU x))).isSome && (moreU x != u0 || back)) ?_ ?_))))
  · refine wt_and ?_; refine wt_cmp ?_
    refine we_dsub ?_
    refine we_local (by walk_at "mem") (by walk_at "lkp") ?_; refine we_local (by walk_at "mem") (by walk_at "lkp") ?_
    refine ⟨_, _, _, dv_fz, rfl, hp, ?_⟩
    refine we_cell (by rfl) (by walk_at "mem") ?_
    refine wc_notin_dict dv_fz ?_
    rw [wm_notin_look]
    refine tr_bool ?_
    refine ift_both (fun b1 => ?_) (fun b1 => ?_)
    · refine wt_and ?_; refine wt_or ?_; refine wt_cmp ?_; refine we_local (by walk_at "mem") (by walk_at "lkp") ?_; refine we_str ?_; refine wc_ne_str ?_; refine tr_bool ?_
      refine ift_both (fun b2 => ?_) (fun b2 => ?_)
      · have b2 : (moreU x != u0) = true := b2
        refine ift (by rfl) ?_; refine wt_and_nil ?_
        exact ⟨by rw [b1, b2]; rfl, rfl⟩
      · have b2 : (moreU x != u0) = false := b2
        refine wt_or ?_; refine wt_val ?_; refine we_local (by walk_at "mem") (by walk_at "lkp") ?_; refine tr_bool ?_
        refine ift_both (fun b3 => ?_) (fun b3 => ?_)
        · refine ift (by rfl) ?_; refine wt_and_nil ?_
          exact ⟨by rw [b1, b2, b3]; rfl, rfl⟩
        · refine wt_or_nil ?_; refine iff' (by rfl) ?_
          exact ⟨by rw [b1, b2, b3]; rfl, rfl⟩
    · exact ⟨by rw [b1]; rfl, rfl⟩
  · refine ift_both (fun b1 => ?_) (fun b1 => ?_)
    · refine ws_cons' ?_; refine wx_expr ?_; refine we_mcall ?_; refine we_local (by walk_at "mem") (by walk_at "lkp") ?_
      refine wm_linsert (lv_own (by walk_at "mem")) ?_
      refine wa_cons ?_; refine we_bin ?_; refine we_bin ?_; refine we_bin ?_; refine we_local (by walk_at "mem") (by walk_at "lkp") ?_; refine we_int ?_; refine wb_div (by decide) (PyProof.noPylong_of_log2 (by decide +kernel)) ?_; refine we_int ?_; refine wb_mod (by decide) ?_; refine we_call ?_; refine we_bltn (bltn1 (by assumption) (by rfl) (by rfl) (by decide)) ?_; refine wa_cons ?_; refine we_local (by walk_at "mem") (by walk_at "lkp") ?_; refine wa_nil ?_; refine wall_nil ?_
      refine ⟨kept_builtin, wc_len_list (vs := td.map V2) (lv_own (by walk_at "mem")) (by rw [List.length_map]; walk_at "om") ?_⟩
      rw [List.length_map]
      have m2 := fmod_in (x.fdiv 5) 2 (by decide)
      have hpos : 0 ≤ (x.fdiv 5).fmod 2 * (td.length : Int) ∧ (x.fdiv 5).fmod 2 * (td.length : Int) ≤ td.length := by
        have : (x.fdiv 5).fmod 2 = 0 ∨ (x.fdiv 5).fmod 2 = 1 := by walk_at "om"
        rcases this with e | e <;> rw [e] <;> walk_at "om"
      have hmu : IntMulOk ((x.fdiv 5).fmod 2) (td.length : Int) := by
        have : (x.fdiv 5).fmod 2 = 0 ∨ (x.fdiv 5).fmod 2 = 1 := by walk_at "om"
        rcases this with e | e <;> rw [e] <;> exact IntMulOk.of_left (by decide)
      refine wb_mul hmu ?_
      refine wa_cons ?_
      refine we_listF (wa_cons (we_dsub ?_))
      refine we_local (by walk_at "mem") (by walk_at "lkp") ?_; refine we_local (by walk_at "mem") (by walk_at "lkp") ?_
      refine ⟨_, _, _, dv_fz, rfl, hp, ?_⟩
      refine wa_cons ?_; refine we_local (by walk_at "mem") (by walk_at "lkp") ?_; refine wa_nil ?_
      refine ⟨by rw [sizeLine_eq]; simp, ?_⟩
      refine wa_nil ?_; refine wall_nil ?_
      refine ⟨kept_builtin, wc_insert (by walk_at "up") hpos.1 (by walk_at "om") (by rw [List.length_map]; walk_at "om") (by rw [sizeLine_eq, List.length_map]; walk_at "om") ?_⟩
      refine nx_next (ws_nil (nx_next ?_))
      have e1 : told1 x back used td = td.take ((x.fdiv 5).fmod 2 * td.length).toNat ++ (pfx (moreU x), moreU x) :: td.drop ((x.fdiv 5).fmod 2 * td.length).toNat := by unfold told1; rw [if_pos b1]
      have := fin _ (setLoc loc (Str.ofString "more") (.str (moreU x))) e1.symm (by walk_at "lkp") (by walk_at "lkp") (by walk_at "lkp") (by walk_at "lkp") (by walk_at "lkp")
      rw [List.map_append, List.map_cons, List.map_take, List.map_drop] at this
      exact this
    · refine ws_nil (nx_next ?_)
      exact fin td (setLoc loc (Str.ofString "more") (.str (moreU x))) (by unfold told1; rw [if_neg (by rw [b1]; decide)]) (by walk_at "lkp") (by walk_at "lkp") (by walk_at "lkp") (by walk_at "lkp") (by walk_at "lkp")
end
section
theorem Conv.cell {c : Addr} {v v' : V} {led1 led2 : Led} (hm : (c, AO.cell (some v)) ∈ led) (hc : ConvV C led v led1 v') (U : Up c (.cell (some v)) (.cell (some v')) led1 led2) : Conv C led led2 := fun Φ s S => by
  obtain ⟨o, ho, y, hd, z, rfl, hz⟩ := S.ok _ hm
  obtain ⟨Φ1, h1, S1, r1⟩ := hc Φ s z S hz
  exact ⟨Φ1, h1, S1.up1 (s' := s) U (fun b o _ e => e) ho ⟨some z, hd, z, rfl, r1⟩⟩
theorem wc_getSf {d : List (Str × Str)} {k z : Str} {Q : V → Led → Prop} (h : Q (.str (look d k z)) led) : WC C n X (.val (.builtin "dict.get")) [.dct (strD d), .str k, .str z] [] led Q := wc_getS dv_fz h
noncomputable abbrev noXs (p : Str) : Bool := !([Str.ofString "xml", Str.ofString "xs"].any (· == p))
theorem partU10 {x : Int} {back : Bool} {uri : Str} {as : List (Str × Str × Str)} {used scope : List (Str × Str)} {L c1 c2 AT U : Addr} {loc : List (Str × V)} {r : Led} {Q : F → Led → Prop} (G : Gr C) (hz : as.length ≤ 1000) (hz2 : used.length ≤ 100) (hnd : (used.map (·.1)).Nodup)
    (l0 : loc.lookup (Str.ofString "back") = some (.bool back)) (l1 : loc.lookup (Str.ofString "x") = some (.int x)) (l2 : loc.lookup (Str.ofString "uri") = some (.str uri)) (l3 : loc.lookup (Str.ofString "attrs") = some (.ref AT)) (l5 : loc.lookup (Str.ofString "prefixes") = some (.dct (strD PFX))) (l6 : loc.lookup (Str.ofString "uris") = some (.lst (URIS.map V.str)))
    (h : ∀ l1, Q (.ret (.lst [VL [uri, nameU x], .lst ((attrs3 x as).map V3), .lst ((told1 x back used (told0 used scope)).map V2), .dct (strD PFX)])) (l1 ++ r)) :
    WS C n NoX (luEnv C L c1 c2) ((luBody C.w.params).drop 10) ((AT, .list (as.map V3)) :: (U, .dict (strD used)) :: (c2, .cell (some (.ref U))) :: (c1, .cell (some (.dct (strD scope)))) :: (L, .frame loc) :: r) Q := by
  have ht0 : (told0 used scope).length ≤ 1000 := by
    unfold told0
    rw [List.length_map]
    refine Nat.le_trans (List.length_filter_le _ _) ?_
    rw [List.length_map]; walk_at "om"
  have fin : ∀ (T : Addr) (loc : List (Str × V)), loc.lookup (Str.ofString "back") = some (.bool back) → loc.lookup (Str.ofString "x") = some (.int x) → loc.lookup (Str.ofString "uri") = some (.str uri) → loc.lookup (Str.ofString "attrs") = some (.ref AT) → loc.lookup (Str.ofString "told") = some (.ref T) → loc.lookup (Str.ofString "prefixes") = some (.dct (strD PFX)) → loc.lookup (Str.ofString "uris") = some (.lst (URIS.map V.str)) →
      WS C n NoX (luEnv C L c1 c2) ((luBody C.w.params).drop 11) ((T, .list ((told0 used scope).map V2)) :: (AT, .list (as.map V3)) :: (c2, .cell (some (.dct (strD used)))) :: (c1, .cell (some (.dct (strD scope)))) :: (L, .frame loc) :: r) Q := fun T loc l0 l1 l2 l3 l4 l5 l6 =>
    partU11 G hz ht0 l0 l1 l2 l3 l4 l5 l6 h
  dsimp only [luEnv, fenv, luFd, luBody, List.drop] at fin ⊢
  refine W.conv (Conv.cell (c := c2) (v' := .dct (strD used)) (led1 := (AT, .list (as.map V3)) :: (c2, .cell (some (.ref U))) :: (c1, .cell (some (.dct (strD scope)))) :: (L, .frame loc) :: r) (.tail _ (.tail _ (.head _))) (frzD (.tail .head)) (.tail .head)) ?_
  refine ws_cons' (wx_lcomp (cl := [(Str.ofString "used", c2), (Str.ofString "scope", c1)]) ?_)
  refine we_cell (by rfl) (by walk_at "mem") ?_
  refine ⟨_, _, it_dct.o, trivial, fun acc L' => wcells_id rfl ?_⟩
  rw [show ((strD used).map fun kv => V.str kv.1) = (used.map (·.1)).map V.str from by unfold strD; rw [List.map_map, List.map_map]; rfl]
  have hlk : ∀ q ∈ used.map (·.1), (strD used).lookup q = some (.str (look used q u0)) := fun q hq => by
    rw [strD_lookup]
    unfold look
    cases e : used.lookup q with
    | none =>
      exfalso
      obtain ⟨p, hp, rfl⟩ := List.mem_map.mp hq
      rw [List.lookup_eq_none_iff] at e
      have := e p hp
      simp at this
    | some z => rfl
  refine (?_ : ∀ (ks : List Str) (dn : List (Str × Str)) (loc' : List (Str × V)), (∀ q ∈ ks, q ∈ used.map (·.1)) → dn.length + ks.length ≤ 100 → (∀ loc', ?Q8 ((L', .frame loc') :: (acc, .list ((dn ++ (ks.filter fun p => noXs p && look scope p u0 != look used p u0).map fun p => (p, look used p u0)).map V2)) :: (AT, .list (as.map V3)) :: (c2, .cell (some (.dct (strD used)))) :: (c1, .cell (some (.dct (strD scope)))) :: (L, .frame loc) :: r)) →
      WGenO C _ _ _ _ _ noLean (ks.map V.str) ((L', .frame loc') :: (acc, .list (dn.map V2)) :: (AT, .list (as.map V3)) :: (c2, .cell (some (.dct (strD used)))) :: (c1, .cell (some (.dct (strD scope)))) :: (L, .frame loc) :: r) ?Q8) (used.map (·.1)) [] [] (fun q hq => hq) (by simp; walk_at "om") ?_
  · intro ks
    induction ks with
    | nil => intro dn loc' _ _ hq; exact wg_nil trivial (by simpa using hq loc')
    | cons q ks ih =>
      intro dn loc' hin hl hq
      have hk := hlk q (hin q List.mem_cons_self)
      refine wg_cons1 trivial (wa_name ?_)
      refine wn_local (by walk_at "up") (WT.cut (noXs q && look scope q u0 != look used q u0) ?_ ?_)
      · refine wt_and ?_; refine wt_cmp ?_; refine we_local (by walk_at "mem") (by walk_at "lkp") ?_
        refine we_listF ?_
        refine wa_cons ?_; refine we_str ?_; refine wa_cons ?_; refine we_str ?_; refine wa_nil ?_
        refine ⟨by rw [sizeLine_eq]; simp, wc_notin_words (ss := [Str.ofString "xml", Str.ofString "xs"]) lv_fz ?_⟩
        refine tr_bool ?_
        refine ift_both (fun b1 => ?_) (fun b1 => ?_)
        · have b1 : noXs q = true := b1
          refine wt_and ?_; refine wt_cmp ?_; refine we_mcall ?_; refine we_cell (by rfl) (by walk_at "mem") ?_; refine wm_dget dv_fz ?_; refine wa_cons ?_; refine we_local (by walk_at "mem") (by walk_at "lkp") ?_; refine wa_cons ?_; refine we_str ?_; refine wa_nil ?_; refine wall_nil ?_
          refine ⟨kept_builtin, wc_getSf ?_⟩
          skip
          refine we_dsub ?_
          refine we_cell (by rfl) (by walk_at "mem") ?_; refine we_local (by walk_at "mem") (by walk_at "lkp") ?_
          refine ⟨_, _, _, dv_fz, rfl, hk, ?_⟩
          refine wc_ne_str ?_; refine tr_bool ?_
          refine ift_both (fun b2 => ?_) (fun b2 => ?_)
          · have b2 : (look scope q u0 != look used q u0) = true := b2
            refine wt_and_nil ?_
            exact ⟨by rw [b1, b2]; rfl, rfl⟩
          · have b2 : (look scope q u0 != look used q u0) = false := b2
            exact ⟨by rw [b1, b2]; rfl, rfl⟩
        · have b1 : noXs q = false := b1
          exact ⟨by rw [b1]; rfl, rfl⟩
      · refine ift_both (fun b1 => ?_) (fun b1 => ?_)
        · refine we_listF ?_
          refine wa_cons ?_; refine we_local (by walk_at "mem") (by walk_at "lkp") ?_; refine wa_cons ?_
          refine we_dsub ?_
          refine we_cell (by rfl) (by walk_at "mem") ?_; refine we_local (by walk_at "mem") (by walk_at "lkp") ?_
          refine ⟨_, _, _, dv_fz, rfl, hk, ?_⟩
          refine wa_nil ?_
          refine ⟨by rw [sizeLine_eq]; simp, ?_⟩
          simp only [List.length_cons] at hl
          refine wc_append (by walk_at "up") (by rw [sizeLine_eq, List.length_map]; walk_at "om") ?_
          have := ih (dn ++ [(q, look used q u0)]) (setLoc loc' (Str.ofString "prefix") (.str q)) (fun q' hq' => hin q' (.tail _ hq')) (by simp; walk_at "om") (fun loc'' => by
            have := hq loc''
            rw [List.filter_cons, if_pos b1, List.map_cons, List.append_cons] at this
            exact this)
          rw [List.map_append] at this
          exact this
        · simp only [List.length_cons] at hl
          exact ih dn (setLoc loc' (Str.ofString "prefix") (.str q)) (fun q' hq' => hin q' (.tail _ hq')) (by walk_at "om") (fun loc'' => by
            have := hq loc''
            rw [List.filter_cons, if_neg (by rw [b1]; decide)] at this
            exact this)
  · intro loc'
    refine wn_local (by walk_at "up") ⟨_, _, .head, nx_next ?_⟩
    exact fin acc _ (by walk_at "lkp") (by walk_at "lkp") (by walk_at "lkp") (by walk_at "lkp") (by walk_at "lkp") (by walk_at "lkp") (by walk_at "lkp")
theorem partU9 {x : Int} {back : Bool} {uri : Str} {as : List (Str × Str × Str)} {used scope : List (Str × Str)} {L c1 c2 AT U : Addr} {loc : List (Str × V)} {r : Led} {Q : F → Led → Prop} (G : Gr C) (hz : as.length ≤ 900) (hz2 : used.length ≤ 100) (hnd : (used.map (·.1)).Nodup)
    (l0 : loc.lookup (Str.ofString "back") = some (.bool back)) (l1 : loc.lookup (Str.ofString "x") = some (.int x)) (l2 : loc.lookup (Str.ofString "uri") = some (.str uri)) (l3 : loc.lookup (Str.ofString "attrs") = some (.ref AT)) (l5 : loc.lookup (Str.ofString "prefixes") = some (.dct (strD PFX))) (l6 : loc.lookup (Str.ofString "uris") = some (.lst (URIS.map V.str)))
    (h : ∀ l1, Q (.ret (.lst [VL [uri, nameU x], .lst ((attrs3 x (attrs2 x back as)).map V3), .lst ((told1 x back used (told0 used scope)).map V2), .dct (strD PFX)])) (l1 ++ r)) :
    WS C n NoX (luEnv C L c1 c2) ((luBody C.w.params).drop 9) ((AT, .list (as.map V3)) :: (U, .dict (strD used)) :: (c2, .cell (some (.ref U))) :: (c1, .cell (some (.dct (strD scope)))) :: (L, .frame loc) :: r) Q := by
  have hza : (attrs2 x back as).length ≤ 1000 := by
    unfold attrs2
    split
    · rw [List.length_append, show zAt.length = 2 from rfl]; walk_at "om"
    · walk_at "om"
  have fin : WS C n NoX (luEnv C L c1 c2) ((luBody C.w.params).drop 10) ((AT, .list ((attrs2 x back as).map V3)) :: (U, .dict (strD used)) :: (c2, .cell (some (.ref U))) :: (c1, .cell (some (.dct (strD scope)))) :: (L, .frame loc) :: r) Q := partU10 G hza hz2 hnd l0 l1 l2 l3 l5 l6 h
  dsimp only [luEnv, fenv, luFd, luBody, List.drop] at fin ⊢
  refine ws_cons' (wx_if (WT.cut (!back && (x.fdiv 11).fmod 2 == 0) ?_ ?_))
  · refine wt_and ?_; refine wt_not ?_; refine wt_val ?_; refine we_local (by walk_at "mem") (by walk_at "lkp") ?_; refine tr_bool ?_
    cases back with
    | true => exact ⟨rfl, rfl⟩
    | false =>
      refine ift rfl ?_
      refine wt_and ?_; refine wt_cmp ?_; refine we_bin ?_; refine we_bin ?_; refine we_local (by walk_at "mem") (by walk_at "lkp") ?_; refine we_int ?_; refine wb_div (by decide) (PyProof.noPylong_of_log2 (by decide +kernel)) ?_; refine we_int ?_; refine wb_mod (by decide) ?_; refine we_int ?_; refine wc_eq_int ?_; refine tr_bool ?_
      refine ift_both (fun b1 => ?_) (fun b1 => ?_)
      · refine wt_and_nil ?_
        exact ⟨by rw [b1]; rfl, rfl⟩
      · exact ⟨by rw [b1]; rfl, rfl⟩
  · refine ift_both (fun b1 => ?_) (fun b1 => ?_)
    · refine ws_cons' ?_; refine wx_expr ?_; refine we_mcall ?_; refine we_local (by walk_at "mem") (by walk_at "lkp") ?_
      refine wm_lextend (lv_own (by walk_at "mem")) ?_
      refine wa_cons ?_
      refine we_listF (wa_cons (we_listF ?_))
      refine wa_cons ?_; refine we_str ?_; refine wa_cons ?_; refine we_str ?_; refine wa_cons ?_; refine we_str ?_; refine wa_nil ?_
      refine ⟨by rw [sizeLine_eq]; simp, wa_cons (we_listF ?_)⟩
      refine wa_cons ?_; refine we_str ?_; refine wa_cons ?_; refine we_str ?_; refine wa_cons ?_; refine we_str ?_; refine wa_nil ?_
      refine ⟨by rw [sizeLine_eq]; simp, ?_⟩
      refine wa_nil ?_
      refine ⟨by rw [sizeLine_eq]; simp, ?_⟩
      refine wa_nil ?_; refine wall_nil ?_
      have e : (attrs2 x back as).map V3 = as.map V3 ++ zAt.map V3 := by unfold attrs2; rw [if_pos b1, List.map_append]
      rw [e] at fin
      refine ⟨kept_builtin, wc_extend (ws := zAt.map V3) (led' := (AT, .list (as.map V3 ++ zAt.map V3)) :: (U, .dict (strD used)) :: (c2, .cell (some (.ref U))) :: (c1, .cell (some (.dct (strD scope)))) :: (L, .frame loc) :: r) .head lv_fz (by rw [sizeLine_eq, List.length_map]; simp [zAt]; walk_at "om") (nx_next (ws_nil (nx_next fin)))⟩
    · have e : attrs2 x back as = as := by unfold attrs2; rw [if_neg (by rw [b1]; decide)]
      rw [e] at fin
      exact ws_nil (nx_next fin)
end
section
theorem stS_keys (d : List (Str × Str)) (k v : Str) : (stS d k v).map (·.1) = if d.any (fun kv => kv.1 = k) then d.map (·.1) else d.map (·.1) ++ [k] := by
  unfold stS
  split
  · rw [List.map_map]
    refine List.map_congr_left fun e _ => ?_
    simp only [Function.comp]
    split <;> rfl
  · rw [List.map_append]; rfl
theorem stS_nodup {d : List (Str × Str)} {k v : Str} (h : (d.map (·.1)).Nodup) : ((stS d k v).map (·.1)).Nodup := by
  rw [stS_keys]
  split
  · exact h
  · rename_i hc
    rw [List.nodup_append]
    refine ⟨h, by simp, fun a ha b hb => ?_⟩
    simp at hb; subst hb
    intro e; subst e
    obtain ⟨p, hp, rfl⟩ := List.mem_map.mp ha
    exact hc (List.any_eq_true.mpr ⟨p, hp, by simp⟩)
theorem stS_length (d : List (Str × Str)) (k v : Str) : (stS d k v).length ≤ d.length + 1 := by
  unfold stS
  split
  · rw [List.length_map]; walk_at "om"
  · simp
noncomputable def usedF (x : Int) (used : List (Str × Str)) : UA := (List.range 6).foldl (stepU x) (used, [])
theorem pow_ok : ∀ n, n < 6 → ((2 : Int) ^ n ≠ 0 ∧ ((2 : Int) ^ n).natAbs.log2 < 9000) := by decide +kernel
theorem kl_get : ∀ n : Nat, n < 6 → 0 ≤ ((n : Int).fdiv 5) ∧ (n : Int).fdiv 5 < 2 ^ 63 ∧ ∃ c, (Str.ofString "kl").cps[((n : Int).fdiv 5).toNat]? = some c ∧ (⟨#[c]⟩ : Str) = klT n := by
  intro n h
  match n, h with
  | 0, _ | 1, _ | 2, _ | 3, _ | 4, _ | 5, _ => exact ⟨by decide, by decide, _, rfl, rfl⟩
theorem ones_get : ∀ n : Nat, n < 6 → (ones.map V.str)[(n : Int).toNat]? = some (.str (ones.getD n u0)) ∧ ones.getD n u0 ∈ URIS := by
  intro n h
  match n, h with
  | 0, _ | 1, _ | 2, _ | 3, _ | 4, _ | 5, _ => exact ⟨rfl, by decide⟩
theorem dig_ok : ∀ k : Nat, k < 10 → (((toString (k : Int) : String) : Str)).length ≤ 2 ∧ (k : Int).natAbs.log2 < 1920 := by decide +kernel
theorem dig10 (x : Int) : (((toString (x.fmod 10) : String) : Str)).length ≤ 2 ∧ (x.fmod 10).natAbs.log2 < 1920 := by
  have m := fmod_in x 10 (by decide)
  have e : x.fmod 10 = ((x.fmod 10).toNat : Int) := by walk_at "om"
  rw [e]
  exact dig_ok _ (by walk_at "om")
theorem partU8 {x : Int} {back : Bool} {uri : Str} {used scope : List (Str × Str)} {L c1 c2 AT U : Addr} {loc : List (Str × V)} {r : Led} {Q : F → Led → Prop} (G : Gr C) (hz2 : used.length ≤ 10) (hnd : (used.map (·.1)).Nodup)
    (l0 : loc.lookup (Str.ofString "back") = some (.bool back)) (l1 : loc.lookup (Str.ofString "x") = some (.int x)) (l2 : loc.lookup (Str.ofString "uri") = some (.str uri)) (l3 : loc.lookup (Str.ofString "attrs") = some (.ref AT)) (l5 : loc.lookup (Str.ofString "prefixes") = some (.dct (strD PFX))) (l6 : loc.lookup (Str.ofString "uris") = some (.lst (URIS.map V.str)))
    (h : ∀ l1, Q (.ret (.lst [VL [uri, nameU x], .lst ((attrs3 x (attrs2 x back (usedF x used).2)).map V3), .lst ((told1 x back (usedF x used).1 (told0 (usedF x used).1 scope)).map V2), .dct (strD PFX)])) (l1 ++ r)) :
    WS C n NoX (luEnv C L c1 c2) ((luBody C.w.params).drop 8) ((AT, .list []) :: (U, .dict (strD used)) :: (c2, .cell (some (.ref U))) :: (c1, .cell (some (.dct (strD scope)))) :: (L, .frame loc) :: r) Q := by
  have fin : ∀ (ua : UA) (loc : List (Str × V)), ua = usedF x used → ua.2.length ≤ 900 → ua.1.length ≤ 100 → (ua.1.map (·.1)).Nodup → loc.lookup (Str.ofString "back") = some (.bool back) → loc.lookup (Str.ofString "x") = some (.int x) → loc.lookup (Str.ofString "uri") = some (.str uri) → loc.lookup (Str.ofString "attrs") = some (.ref AT) → loc.lookup (Str.ofString "prefixes") = some (.dct (strD PFX)) → loc.lookup (Str.ofString "uris") = some (.lst (URIS.map V.str)) →
      WS C n NoX (luEnv C L c1 c2) ((luBody C.w.params).drop 9) ((AT, .list (ua.2.map V3)) :: (U, .dict (strD ua.1)) :: (c2, .cell (some (.ref U))) :: (c1, .cell (some (.dct (strD scope)))) :: (L, .frame loc) :: r) Q := fun ua loc e h1 h2 h3 l0 l1 l2 l3 l5 l6 => partU9 G h1 h2 h3 l0 l1 l2 l3 l5 l6 (by rw [e]; exact h)
  dsimp only [luEnv, fenv, luFd, luBody, List.drop] at fin ⊢
  refine ws_cons' (wx_for ?_)
  refine we_call ?_; refine we_bltn (bltn1 (by assumption) (by rfl) (by rfl) (by decide)) ?_; refine wa_cons ?_; refine we_int ?_; refine wa_nil ?_; refine wall_nil ?_
  refine ⟨kept_type, wc_range1 fun rr o ho => ⟨_, it_range (by walk_at "mem") ho (by decide) (by decide) (by decide), ?_⟩⟩
  rw [show ((List.range ((6 : Int) - 0).toNat).map fun i : Nat => V.int (0 + i)) = (List.range 6).map (fun i : Nat => V.int i) from List.map_congr_left fun i _ => by rw [Int.zero_add]]
  obtain ⟨R6, hR6⟩ : ∃ l, l = List.range 6 := ⟨_, rfl⟩
  have hRl : R6.length = 6 := by rw [hR6]; rfl
  have hRm : ∀ n ∈ R6, n < 6 := fun n hn => List.mem_range.mp (hR6 ▸ hn)
  have hRf : ∀ ua, ua = R6.foldl (stepU x) (used, []) → ua = usedF x used := fun ua e => by rw [e, hR6]; rfl
  rw [← hR6]
  clear hR6
  have z0 : ((used, []) : UA).2.length + R6.length ≤ 100 := by rw [hRl]; show 0 + 6 ≤ 100; walk_at "om"
  have z1 : ((used, []) : UA).1.length + R6.length ≤ 100 := by rw [hRl]; show used.length + 6 ≤ 100; walk_at "om"
  refine (?_ : ∀ (ns : List Nat) (ua : UA) (loc : List (Str × V)), (∀ n ∈ ns, n < 6) → ua.2.length + ns.length ≤ 100 → ua.1.length + ns.length ≤ 100 → (ua.1.map (·.1)).Nodup → loc.lookup (Str.ofString "back") = some (.bool back) → loc.lookup (Str.ofString "x") = some (.int x) → loc.lookup (Str.ofString "uri") = some (.str uri) → loc.lookup (Str.ofString "attrs") = some (.ref AT) → loc.lookup (Str.ofString "prefixes") = some (.dct (strD PFX)) → loc.lookup (Str.ofString "uris") = some (.lst (URIS.map V.str)) →
    (∀ (ua' : UA) (loc : List (Str × V)), ua' = ns.foldl (stepU x) ua → ua'.2.length ≤ 100 → ua'.1.length ≤ 100 → (ua'.1.map (·.1)).Nodup → loc.lookup (Str.ofString "back") = some (.bool back) → loc.lookup (Str.ofString "x") = some (.int x) → loc.lookup (Str.ofString "uri") = some (.str uri) → loc.lookup (Str.ofString "attrs") = some (.ref AT) → loc.lookup (Str.ofString "prefixes") = some (.dct (strD PFX)) → loc.lookup (Str.ofString "uris") = some (.lst (URIS.map V.str)) →
      ?Q9 .next ((rr, .obj o) :: (AT, .list (ua'.2.map V3)) :: (U, .dict (strD ua'.1)) :: (c2, .cell (some (.ref U))) :: (c1, .cell (some (.dct (strD scope)))) :: (L, .frame loc) :: r)) →
    WLoop C _ _ _ _ (ns.map (fun i : Nat => V.int i)) ((rr, .obj o) :: (AT, .list (ua.2.map V3)) :: (U, .dict (strD ua.1)) :: (c2, .cell (some (.ref U))) :: (c1, .cell (some (.dct (strD scope)))) :: (L, .frame loc) :: r) ?Q9) R6 (used, []) loc hRm z0 z1 hnd l0 l1 l2 l3 l5 l6 ?_
  · intro ns
    induction ns with
    | nil => intro ua loc _ h1 h2 h3 l0 l1 l2 l3 l5 l6 hq; exact wl_nil (hq ua loc rfl (by simpa using h1) (by simpa using h2) h3 l0 l1 l2 l3 l5 l6)
    | cons m ns ih =>
      intro ua loc hin h1 h2 h3 l0 l1 l2 l3 l5 l6 hq
      have hm := hin m List.mem_cons_self
      obtain ⟨g1, g2⟩ := ones_get m hm
      have hp := pfx_look _ g2
      generalize hone : ones.getD m u0 = one at g1 g2 hp
      have est : stepU x ua m = if (bit x m && look ua.1 (pfx one) one == one) = true then (stS ua.1 (pfx one) one, ua.2 ++ [(one, klT m, txT x)]) else ua := by unfold stepU; rw [hone]
      obtain ⟨k1, k2, c, k3, k4⟩ := kl_get m hm
      obtain ⟨d1, d2⟩ := dig10 x
      obtain ⟨w1, w2⟩ := pow_ok m hm
      simp only [List.length_cons] at h1 h2
      refine wl_cons (wa_name ?_)
      refine wn_local (v := .int (m : Int)) (by walk_at "up") (ws_cons' (wx_assign (we_lsubx (we_listF ?_))))
      refine wa_cons ?_; refine we_str ?_; refine wa_cons ?_; refine we_str ?_; refine wa_cons ?_; refine we_str ?_; refine wa_cons ?_
      refine we_lsub ?_
      refine we_local (by walk_at "mem") (by walk_at "lkp") ?_
      refine ⟨_, _, lv_fz, rfl, ?_⟩
      refine wa_cons (we_lsub ?_)
      refine we_local (by walk_at "mem") (by walk_at "lkp") ?_
      refine ⟨_, _, lv_fz, rfl, ?_⟩
      refine wa_cons ?_; refine we_str ?_; refine wa_nil ?_
      refine ⟨by rw [sizeLine_eq]; simp, ?_⟩
      refine we_local (by walk_at "mem") (by walk_at "lkp") ?_
      refine ⟨_, _, _, lv_fz, rfl, by walk_at "om", by walk_at "om", g1, ?_⟩
      refine wn_local (by walk_at "up") (nx_next (ws_cons' (wx_if (WT.cut (bit x m && look ua.1 (pfx one) one == one) ?_ ?_))))
      · refine wt_and ?_; refine wt_cmp ?_; refine we_bin ?_; refine we_bin ?_; refine we_bin ?_; refine we_local (by walk_at "mem") (by walk_at "lkp") ?_; refine we_int ?_; refine wb_div (by decide) (PyProof.noPylong_of_log2 (by decide +kernel)) ?_; refine we_bin ?_; refine we_int ?_; refine we_local (by walk_at "mem") (by walk_at "lkp") ?_
        refine wb_pow (by walk_at "om") (by walk_at "om") (by decide) ?_
        refine wb_div (j := 2 ^ m) w1 (PyProof.noPylong_of_log2 w2) ?_
        refine we_int ?_; refine wb_mod (by decide) ?_; refine we_int ?_; refine wc_eq_int ?_; refine tr_bool ?_
        refine ift_both (fun b1 => ?_) (fun b1 => ?_)
        · have b1 : bit x m = true := b1
          refine wt_and ?_; refine wt_cmp ?_; refine we_mcall ?_; refine we_cell (by rfl) (by walk_at "mem") ?_; refine wm_dget (dv_own (by walk_at "mem")) ?_; refine wa_cons ?_
          refine we_dsub ?_
          refine we_local (by walk_at "mem") (by walk_at "lkp") ?_; refine we_local (by walk_at "mem") (by walk_at "lkp") ?_
          refine ⟨_, _, _, dv_fz, rfl, hp, ?_⟩
          refine wa_cons ?_; refine we_local (by walk_at "mem") (by walk_at "lkp") ?_; refine wa_nil ?_; refine wall_nil ?_
          refine ⟨kept_builtin, wc_getS (dv_own (by walk_at "mem")) ?_⟩
          refine we_local (by walk_at "mem") (by walk_at "lkp") ?_; refine wc_eq_str ?_; refine tr_bool ?_
          refine ift_both (fun b2 => ?_) (fun b2 => ?_)
          · refine wt_and_nil ?_
            exact ⟨by rw [b1, b2]; rfl, rfl⟩
          · exact ⟨by rw [b1, b2]; rfl, rfl⟩
        · have b1 : bit x m = false := b1
          exact ⟨by rw [b1]; rfl, rfl⟩
      · refine ift_both (fun b1 => ?_) (fun b1 => ?_)
        · rw [if_pos b1] at est
          refine ws_cons' ?_
          refine wx_assub ?_
          refine we_local (by walk_at "mem") (by walk_at "lkp") ?_; refine we_cell (by rfl) (by walk_at "mem") ?_
          refine we_dsub ?_
          refine we_local (by walk_at "mem") (by walk_at "lkp") ?_; refine we_local (by walk_at "mem") (by walk_at "lkp") ?_
          refine ⟨_, _, _, dv_fz, rfl, hp, ?_⟩
          refine si_dict' (es := strD ua.1) (es' := strD (stS ua.1 (pfx one) one)) (by rw [sizeLine_eq, List.length_map]; walk_at "om") (strD_st _ _ _) (.tail (.tail .head)) ?_
          refine nx_next ?_; refine ws_cons' ?_; refine wx_expr ?_; refine we_mcall ?_; refine we_local (by walk_at "mem") (by walk_at "lkp") ?_; refine wm_lappend (lv_own (by walk_at "mem")) ?_; refine wa_cons ?_
          refine we_listF ?_
          refine wa_cons ?_; refine we_local (by walk_at "mem") (by walk_at "lkp") ?_; refine wa_cons ?_
          refine we_ssubx ?_
          refine we_str ?_; refine we_bin ?_; refine we_local (by walk_at "mem") (by walk_at "lkp") ?_; refine we_int ?_; refine wb_div (by decide) (PyProof.noPylong_of_log2 (by decide +kernel)) ?_
          refine ⟨_, _, c, rfl, rfl, k1, k2, k3, ?_⟩
          refine wa_cons ?_; refine we_bin ?_; refine we_str ?_; refine we_call ?_; refine we_bltn (bltn1 (by assumption) (by rfl) (by rfl) (by decide)) ?_; refine wa_cons ?_; refine we_bin ?_; refine we_local (by walk_at "mem") (by walk_at "lkp") ?_; refine we_int ?_; refine wb_mod (by decide) ?_; refine wa_nil ?_; refine wall_nil ?_
          refine ⟨kept_type, wc_str_int d2 ?_⟩
          refine wb_cat (by rw [sizeLine_eq, show (Str.ofString "<").length = 1 from rfl]; walk_at "om") ?_
          refine wa_nil ?_
          refine ⟨by rw [sizeLine_eq]; simp, ?_⟩
          refine wa_nil ?_; refine wall_nil ?_
          rw [k4]
          refine ⟨kept_builtin, wc_append (by walk_at "up") (by rw [sizeLine_eq, List.length_map]; walk_at "om") ?_⟩
          refine nx_next ?_; refine ws_nil ?_; refine nx_next ?_; refine ws_nil ?_; refine lk_next ?_
          have hst := stS_length ua.1 (pfx one) one
          have nxt := ih (stepU x ua m) (setLoc (setLoc loc (Str.ofString "n") (.int (m : Int))) (Str.ofString "one") (.str one)) (fun n hn => hin n (.tail _ hn)) (by rw [est]; simp; walk_at "om") (by rw [est]; simp; walk_at "om") (by rw [est]; exact stS_nodup h3) (by walk_at "lkp") (by walk_at "lkp") (by walk_at "lkp") (by walk_at "lkp") (by walk_at "lkp") (by walk_at "lkp") hq
          rw [est] at nxt
          dsimp only at nxt
          rw [List.map_append] at nxt
          exact nxt
        · rw [if_neg (by rw [b1]; decide)] at est
          refine ws_nil (nx_next (ws_nil (lk_next ?_)))
          have nxt := ih (stepU x ua m) (setLoc (setLoc loc (Str.ofString "n") (.int (m : Int))) (Str.ofString "one") (.str one)) (fun n hn => hin n (.tail _ hn)) (by rw [est]; walk_at "om") (by rw [est]; walk_at "om") (by rw [est]; exact h3) (by walk_at "lkp") (by walk_at "lkp") (by walk_at "lkp") (by walk_at "lkp") (by walk_at "lkp") (by walk_at "lkp") hq
          rw [est] at nxt
          exact nxt
  · intro ua' loc e h1 h2 h3 l0 l1 l2 l3 l5 l6
    exact nx_next (W.drop (.cons _ (.refl _)) (fin ua' loc (hRf ua' e) (by walk_at "om") h2 h3 l0 l1 l2 l3 l5 l6))
end
section
theorem pfx_keys : (strD PFX).map (fun kv => V.str kv.1) = URIS.map V.str := rfl
theorem law_uses {x : Int} {D : Addr} {scope : List (Str × Str)} {back : Bool} {Q : V → Led → Prop} (G : Gr C) (hsc : scope.length ≤ 1000)
    (h : Q (usesV (usesU x scope back)) led) : WK C (n + 1) X (.ref 173) [.int x, .dct (strD scope), .bool back] [] led Q := by
  refine WK.dropQ ?_
  refine wk_def (G.inn 173 _ rfl) rfl rfl (code_at G.inn rfl rfl rfl) G.lim (binds := [(Str.ofString "x", .int x), (Str.ofString "scope", .dct (strD scope)), (Str.ofString "back", .bool back)]) (bind3 fun y z t => rfl) fun L => ?_
  dsimp only [fenv]
  show ∀ c1, _
  intro c1
  show ∀ c2, _
  intro c2
  refine wst_cons (wn_local (by walk_at "up") (wst_cons (wn_cell rfl (by walk_at "up") (wst_cons (wn_local (by walk_at "up") (wst_nil ?_))))))
  refine ws_cons' ?_; refine wx_assign ?_
  refine we_dict (hall := rfl) (hl := (show (6 : Nat) = 6 from rfl)) (h0 := List.cons_ne_nil _ _) (hlen := Nat.le_of_ble_eq_true rfl) fun P => ?_
  refine wp_cons ?_
  refine we_str ?_; refine we_str ?_
  refine ⟨_, rfl, wp_cons ?_⟩
  refine we_str ?_; refine we_str ?_
  refine ⟨_, rfl, wp_cons ?_⟩
  refine we_str ?_; refine we_str ?_
  refine ⟨_, rfl, wp_cons ?_⟩
  refine we_str ?_; refine we_str ?_
  refine ⟨_, rfl, wp_cons ?_⟩
  refine we_str ?_; refine we_str ?_
  refine ⟨_, rfl, wp_cons ?_⟩
  refine we_str ?_; refine we_str ?_
  refine ⟨_, rfl, wp_nil ⟨_, Up.cast (es' := strD PFX0) pf0 .head, by simp, ?_⟩⟩
  refine wn_local (by walk_at "up") ?_; refine nx_next ?_; refine ws_cons' ?_
  refine wx_assub ?_
  refine we_str ?_; refine we_local (by walk_at "mem") (by walk_at "lkp") ?_; refine we_str ?_
  have hz1 : (strD PFX0).length ≤ sizeLine := by rw [sizeLine_eq]; decide
  refine si_dict' (es' := strD (PFX0 ++ [(uX, Str.ofString "xml")])) hz1 pf1 (by walk_at "up") ?_
  refine nx_next ?_; refine ws_cons' ?_
  refine wx_assub ?_
  refine we_str ?_; refine we_local (by walk_at "mem") (by walk_at "lkp") ?_; refine we_str ?_
  have hz2 : (strD (PFX0 ++ [(uX, Str.ofString "xml")])).length ≤ sizeLine := by rw [sizeLine_eq]; decide
  refine si_dict' (es' := strD PFX) hz2 pf2 (by walk_at "up") (nx_next ?_)
  refine W.conv (Conv.loc' (L := L) (x := Str.ofString "prefixes") (by walk_at "mem") (by walk_at "lkp") (frzD (by walk_at "rm")) (by walk_at "up")) ?_
  refine ws_cons' ?_; refine wx_assign ?_; refine we_call ?_; refine we_bltn (bltn1 (by assumption) (by rfl) (by rfl) (by decide)) ?_; refine wa_cons ?_; refine we_local (by walk_at "mem") (by walk_at "lkp") ?_; refine wa_nil ?_; refine wall_nil ?_
  refine ⟨kept_type, wc_list_dct (by rw [sizeLine_eq]; decide) ?_⟩
  rw [pfx_keys]
  refine wn_local (by walk_at "up") ?_; refine nx_next ?_; refine ws_cons' ?_; refine wx_assign ?_
  have m8 := fmod_in x 8 (by decide)
  obtain ⟨g8, g8'⟩ := uris_get _ m8.1 m8.2
  refine we_lsubx ?_
  refine we_local (by walk_at "mem") (by walk_at "lkp") ?_; refine we_bin ?_; refine we_local (by walk_at "mem") (by walk_at "lkp") ?_; refine we_int ?_; refine wb_mod (by decide) ?_
  refine ⟨_, _, _, lv_fz, rfl, m8.1, by walk_at "om", g8, ?_⟩
  refine wn_local (by walk_at "up") (nx_next (ws_cons' ?_))
  generalize hloc : setLoc (setLoc _ _ _) _ _ = loc
  have l1 : loc.lookup (Str.ofString "x") = some (.int x) := by rw [← hloc]; walk_at "lkp"
  have l2 : loc.lookup (Str.ofString "back") = some (.bool back) := by rw [← hloc]; walk_at "lkp"
  have l3 : loc.lookup (Str.ofString "prefixes") = some (.dct (strD PFX)) := by rw [← hloc]; walk_at "lkp"
  have l4 : loc.lookup (Str.ofString "uris") = some (.lst (URIS.map V.str)) := by rw [← hloc]; walk_at "lkp"
  have l5 : loc.lookup (Str.ofString "uri") = some (.str (URIS.getD (x.fmod 8).toNat u0)) := by rw [← hloc]; walk_at "lkp"
  clear hloc
  have hu : uri0 x scope back ∈ URIS := by unfold uri0; split <;> first | decide | exact g8'
  have huc : uri0 x scope back = if (URIS.getD (x.fmod 8).toNat u0 == u0 && (!back && look scope u0 u0 != u0)) = true then uC else URIS.getD (x.fmod 8).toNat u0 := rfl
  generalize hg : URIS.getD (x.fmod 8).toNat u0 = g at l5 huc
  have hres : ∀ l1, ∃ l' : Led, l'.Sublist (l1 ++ led) ∧ Q (retV (.ret (.lst [VL [uri0 x scope back, nameU x], .lst ((attrs3 x (attrs2 x back (usedF x [(pfx (uri0 x scope back), uri0 x scope back)]).2)).map V3), .lst ((told1 x back (usedF x [(pfx (uri0 x scope back), uri0 x scope back)]).1 (told0 (usedF x [(pfx (uri0 x scope back), uri0 x scope back)]).1 scope)).map V2), .dct (strD PFX)]))) l' := fun l1 => ⟨led, List.sublist_append_right _ _, h⟩
  have hp := pfx_look _ hu
  generalize hur : uri0 x scope back = uri at hu huc hres hp
  refine WX.cutC (led1 := (c2, .cell none) :: (c1, .cell (some (.dct (strD scope)))) :: (L, .frame (setLoc loc (Str.ofString "uri") (.str uri))) :: led) ?_ (nx_next ?_)
  · refine wx_if (WT.cut (g == u0 && (!back && look scope u0 u0 != u0)) ?_ ?_)
    · refine wt_and ?_; refine wt_cmp ?_; refine we_local (by walk_at "mem") (by walk_at "lkp") ?_; refine we_str ?_; refine wc_eq_str ?_; refine tr_bool ?_
      refine ift_both (fun b1 => ?_) (fun b1 => ?_)
      · have b1 : (g == u0) = true := b1
        refine wt_and ?_; refine wt_not ?_; refine wt_val ?_; refine we_local (by walk_at "mem") (by walk_at "lkp") ?_; refine tr_bool ?_
        cases back with
        | true => exact ⟨by rw [b1]; rfl, rfl⟩
        | false =>
          refine ift rfl ?_
          refine wt_and ?_; refine wt_cmp ?_; refine we_mcall ?_; refine we_cell (by rfl) (by walk_at "mem") ?_; refine wm_dget dv_fz ?_; refine wa_cons ?_; refine we_str ?_; refine wa_cons ?_; refine we_str ?_; refine wa_nil ?_; refine wall_nil ?_
          refine ⟨kept_builtin, wc_getSf ?_⟩
          refine we_str ?_; refine wc_ne_str ?_; refine tr_bool ?_
          refine ift_both (fun b2 => ?_) (fun b2 => ?_)
          · have b2 : (look scope u0 u0 != u0) = true := b2
            refine wt_and_nil ?_
            exact ⟨by rw [b1, b2]; rfl, rfl⟩
          · have b2 : (look scope u0 u0 != u0) = false := b2
            exact ⟨by rw [b1, b2]; rfl, rfl⟩
      · have b1 : (g == u0) = false := b1
        exact ⟨by rw [b1]; rfl, rfl⟩
    · refine ift_both (fun b1 => ?_) (fun b1 => ?_)
      · rw [if_pos b1] at huc
        rw [huc]
        refine ws_cons' ?_; refine wx_assign ?_; refine we_str ?_; refine wn_local (by walk_at "up") ?_; refine nx_next ?_; refine ws_nil ?_
        exact ⟨rfl, Conv.refl⟩
      · rw [if_neg (by rw [b1]; decide)] at huc
        rw [huc]
        exact ws_nil ⟨rfl, Conv.same (.tail (.tail .head)) l5⟩
  · refine ws_cons' ?_
    refine wx_assign ?_
    refine we_dict (hall := rfl) (hl := (show (1 : Nat) = 1 from rfl)) (h0 := List.cons_ne_nil _ _) (hlen := Nat.le_of_ble_eq_true rfl) fun U => ?_
    refine wp_cons (we_dsub ?_)
    refine we_local (by walk_at "mem") (by walk_at "lkp") ?_; refine we_local (by walk_at "mem") (by walk_at "lkp") ?_
    refine ⟨_, _, _, dv_fz, rfl, hp, ?_⟩
    refine we_local (by walk_at "mem") (by walk_at "lkp") ?_
    refine ⟨_, rfl, wp_nil ⟨_, Up.cast (es' := strD [(pfx uri, uri)]) rfl .head, by simp, ?_⟩⟩
    refine wn_cell rfl (.tail .head) (nx_next (ws_cons' (wx_assign (we_list (wa_nil ⟨by rw [sizeLine_eq]; simp, fun AT => ?_⟩)))))
    refine wn_local (by walk_at "up") (nx_next ?_)
    exact partU8 G (by simp) (by simp) (by walk_at "lkp") (by walk_at "lkp") (by walk_at "lkp") (by walk_at "lkp") (by walk_at "lkp") (by walk_at "lkp") hres
end
section
noncomputable def lwFd (P : Params) : FuncData := Subtype.val (p := fun fd => ∃ o, (hd1.heap_1 P).lookup 190 = some o ∧ o.data = .func fd) ⟨_, _, rfl, rfl⟩
noncomputable def lwBody (P : Params) : List Stmt := Subtype.val (p := fun b => (lwFd P).body = .stmts b) ⟨_, rfl⟩
noncomputable def lwLoop (P : Params) : List Stmt := Subtype.val (p := fun b => ∃ t i e p, (lwBody P)[11]? = some (.For t i b e p)) ⟨_, _, _, _, _, rfl⟩
noncomputable def lwStart (P : Params) : List Stmt := Subtype.val (p := fun b => ∃ c e p, (lwLoop P)[1]? = some (.If c b e p)) ⟨_, _, _, _, rfl⟩
noncomputable def lwEnd (P : Params) : List Stmt := Subtype.val (p := fun b => ∃ c a c' e p p', (lwLoop P)[1]? = some (.If c a [.If c' b e p'] p)) ⟨_, _, _, _, _, _, _, rfl⟩
noncomputable def lwData (P : Params) : List Stmt := Subtype.val (p := fun b => ∃ c a c' e p p', (lwLoop P)[1]? = some (.If c a [.If c' e b p'] p)) ⟨_, _, _, _, _, _, _, rfl⟩
noncomputable abbrev lwEnv (C : Cx) (L : Addr) : Env := fenv (lwFd C.w.params) 190 L []
structure LocOk (k : KA) (dv dc OP SC WR : Addr) (back : Bool) (due : Str) (loc : List (Str × V)) : Prop where
  value : loc.lookup (Str.ofString "value") = some (.ref dv)
  content : loc.lookup (Str.ofString "content") = some (.ref dc)
  pieces : loc.lookup (Str.ofString "pieces") = some (.ref k.po)
  writer : loc.lookup (Str.ofString "writer") = some (.ref k.x)
  back : loc.lookup (Str.ofString "back") = some (.bool back)
  due : loc.lookup (Str.ofString "due") = some (.str due)
  opened : loc.lookup (Str.ofString "opened") = some (.ref OP)
  scopes : loc.lookup (Str.ofString "scopes") = some (.ref SC)
  written : loc.lookup (Str.ofString "written") = some (.ref WR)
noncomputable def VAL : List (Str × Str) := [(Str.ofString "&", Str.ofString "&amp;"), (Str.ofString "<", Str.ofString "&lt;"), (Str.ofString "\"", Str.ofString "&quot;"), (Str.ofString "\t", Str.ofString "&#x9;"), (Str.ofString "\n", Str.ofString "&#xA;"), (Str.ofString "\r", Str.ofString "&#xD;")]
noncomputable def CON : List (Str × Str) := [(Str.ofString "&", Str.ofString "&amp;"), (Str.ofString "<", Str.ofString "&lt;"), (Str.ofString ">", Str.ofString "&gt;"), (Str.ofString "\r", Str.ofString "&#xD;")]
noncomputable def refT (d : List (Str × Str)) (t : Str) : Str := catAll ((signs t).map fun s => look d s s)
theorem refer_look (d : List (Str × Str)) (s : Str) : refer (strD d) s = .str (look d s s) := strD_getD d s s
noncomputable abbrev dctsV (ds : List (List (Str × Str))) : List V := ds.map fun d => .dct (strD d)
noncomputable def lled (k : KA) (s : St) (L dv dc OP SC WR : Addr) (loc : List (Str × V)) (op : List (Str × Str)) (sc wr : List (List (Str × Str))) (rest : Led) : Led :=
  (L, .frame loc) :: (dv, .dict (strD VAL)) :: (dc, .dict (strD CON)) :: (OP, .list (op.map V2)) :: (SC, .list (dctsV sc)) :: (WR, .list (dctsV wr)) :: wled k s rest
theorem w_dataW {k : KA} {s : St} {t : Str} {rest : Led} {Q : V → Led → Prop} (G : Gr C) (hz : s.data.length ≤ 1000) (h : Q .none (wled k { s with data := s.data ++ [t] } rest)) : WK C (n + 1) X (.ref 97) [.ref k.x, .str t] [] (wled k s rest) Q := by
  refine w_data (dx := k.dx) (dl := k.dl) (es := esW k s.seen s.done) (vs := s.data.map V.str) (led' := wled k { s with data := s.data ++ [t] } rest) G ⟨_, by walk_at "mem", by walk_at "mem"⟩ rfl rfl ?_ (by rw [List.length_map]; exact hz) h
  unfold wled
  dsimp only
  rw [List.map_append]
  exact .tail (.tail .head)
noncomputable def dT (q : Int) : Str := Str.ofString "a&" ++ ⟨#[(62 + q.fmod 2).toNat]⟩
theorem dT_ok (q : Int) : (signs (dT q)).length ≤ 3 ∧ (refT CON (dT q)).length ≤ 20 ∧ (dT q).length = 3 := by
  have m := fmod_in q 2 (by decide)
  unfold dT
  have : q.fmod 2 = 0 ∨ q.fmod 2 = 1 := by walk_at "om"
  rcases this with e | e <;> rw [e] <;> decide +kernel
theorem partData {k : KA} {s : St} {L dv dc OP SC WR : Addr} {loc : List (Str × V)} {op : List (Str × Str)} {sc wr : List (List (Str × Str))} {rest : Led} {back : Bool} {due : Str} {q : Int} {Q : F → Led → Prop} (G : Gr C) (lo : LocOk k dv dc OP SC WR back due loc) (hq : loc.lookup (Str.ofString "q") = some (.int q)) (hz : s.data.length ≤ 1000) (hd : due.length ≤ 1000000)
    (h : Q .next (lled k { s with data := s.data ++ [dT q] } L dv dc OP SC WR (setLoc loc (Str.ofString "due") (.str (due ++ refT CON (dT q)))) op sc wr rest)) :
    WS C (n + 1) NoX (lwEnv C L) (lwData C.w.params) (lled k s L dv dc OP SC WR loc op sc wr rest) Q := by
  obtain ⟨o1, o2, o3, o4, o5, o6, o7, o8, o9⟩ := lo
  dsimp only [lwEnv, fenv, lwFd, lwData]
  unfold lled
  have m2 := fmod_in q 2 (by decide)
  obtain ⟨t1, t2, t3⟩ := dT_ok q
  refine ws_cons' ?_; refine wx_expr ?_; refine we_mcall ?_; refine we_local (by walk_at "mem") (by walk_at "lkp") ?_; refine wm_inst (cls1 (by assumption)) ⟨_, by walk_at "mem", by walk_at "mem"⟩ (by rfl) (by rfl) (by rfl) ?_; refine wa_cons ?_; refine we_bin ?_; refine we_str ?_; refine we_call ?_; refine we_bltn (bltn1 (by assumption) (by rfl) (by rfl) (by decide)) ?_; refine wa_cons ?_; refine we_bin ?_; refine we_int ?_; refine we_bin ?_; refine we_local (by walk_at "mem") (by walk_at "lkp") ?_; refine we_int ?_; refine wb_mod (by decide) ?_; refine wb_add ?_; refine wa_nil ?_; refine wall_nil ?_
  refine ⟨kept_builtin, wc_chr (by walk_at "om") (by walk_at "om") ?_⟩
  refine wb_cat (by rw [sizeLine_eq, show (Str.ofString "a&").length = 2 from rfl]; show 2 + 1 ≤ _; walk_at "om") ?_
  refine wa_nil ?_; refine wall_nil ?_
  refine ⟨kept_base (G.inn 97 _ rfl) rfl, WK.wc (WK.pre [_, _, _, _, _, _] (w_dataW G hz (preQ ?_)))⟩
  refine nx_next (ws_cons' (wx_aug (wl_local (by walk_at "mem") (by walk_at "lkp") ?_)))
  refine we_call ?_; refine we_glob (glob1 (by assumption) (by rfl)) ?_; refine wa_cons ?_; refine we_bin ?_; refine we_str ?_; refine we_call ?_; refine we_bltn (bltn1 (by assumption) (by rfl) (by rfl) (by decide)) ?_; refine wa_cons ?_; refine we_bin ?_; refine we_int ?_; refine we_bin ?_; refine we_local (by walk_at "mem") (by walk_at "lkp") ?_; refine we_int ?_; refine wb_mod (by decide) ?_; refine wb_add ?_; refine wa_nil ?_; refine wall_nil ?_
  refine ⟨kept_builtin, wc_chr (by walk_at "om") (by walk_at "om") ?_⟩
  refine wb_cat (by rw [sizeLine_eq, show (Str.ofString "a&").length = 2 from rfl]; show 2 + 1 ≤ _; walk_at "om") ?_
  refine wa_cons ?_; refine we_local (by walk_at "mem") (by walk_at "lkp") ?_; refine wa_nil ?_; refine wall_nil ?_
  refine ⟨kept_base (G.inn 185 _ rfl) rfl, (law_refer (t := dT q) (f := fun s => look CON s s) G (by walk_at "om") (by walk_at "mem") (fun s _ => refer_look CON s) (by rw [sizeLine_eq]; show (refT CON (dT q)).length ≤ _; walk_at "om") ?_).wc⟩
  refine iadd_str' (by rw [sizeLine_eq]; show due.length + (refT CON (dT q)).length ≤ _; walk_at "om") ?_
  refine wn_local (by walk_at "up") ?_; refine nx_next ?_; refine ws_nil ?_
  exact h
end
section
theorem partEnd {k : KA} {s s' : St} {L dv dc OP SC WR : Addr} {loc : List (Str × V)} {op : List (Str × Str)} {sc wr : List (List (Str × Str))} {d1 d2 : List (Str × Str)} {tx ky : Str} {rest : Led} {back : Bool} {due : Str} {Q : F → Led → Prop} (G : Gr C) (lo : LocOk k dv dc OP SC WR back due loc) (hd : due.length ≤ 1000000) (htx : tx.length ≤ 1000)
    (hz1 : op.length ≤ 1000) (hz2 : sc.length ≤ 1000) (hz3 : wr.length ≤ 1000)
    (hw : ∀ {rest : Led} {Q' : V → Led → Prop}, Q' .none (wled k s' rest) → WK C n NoX (.ref 133) [.ref k.x, .str ky] [] (wled k s rest) Q')
    (h : Q .next (lled k s' L dv dc OP SC WR (setLoc loc (Str.ofString "due") (.str (due ++ (Str.ofString "</" ++ tx ++ Str.ofString ">")))) op sc wr rest)) :
    WS C n NoX (lwEnv C L) (lwEnd C.w.params) (lled k s L dv dc OP SC WR loc (op ++ [(tx, ky)]) (sc ++ [d1]) (wr ++ [d2]) rest) Q := by
  obtain ⟨o1, o2, o3, o4, o5, o6, o7, o8, o9⟩ := lo
  dsimp only [lwEnv, fenv, lwFd, lwEnd]
  unfold lled
  have c2 : (Str.ofString "</").length = 2 := rfl
  have c3 : (Str.ofString ">").length = 1 := rfl
  refine ws_cons' ?_; refine wx_expr ?_; refine we_mcall ?_; refine we_local (by walk_at "mem") (by walk_at "lkp") ?_; refine wm_inst (cls1 (by assumption)) ⟨_, by walk_at "mem", by walk_at "mem"⟩ (by rfl) (by rfl) (by rfl) ?_; refine wa_cons ?_
  refine we_lsub ?_
  refine we_last ?_; refine we_local (by walk_at "mem") (by walk_at "lkp") ?_
  refine ⟨_, _, _, lv_own (by walk_at "mem"), by rw [List.map_append]; rfl, _, _, lv_fz, rfl, ?_⟩
  refine wa_nil ?_; refine wall_nil ?_
  refine ⟨kept_base (G.inn 133 _ rfl) rfl, WK.wc (WK.pre [_, _, _, _, _, _] (hw (preQ ?_)))⟩
  refine nx_next (ws_cons' (wx_aug (wl_local (by walk_at "mem") (by walk_at "lkp") ?_)))
  refine we_bin (we_bin (we_str (we_lsub ?_)))
  refine we_mcall ?_; refine we_local (by walk_at "mem") (by walk_at "lkp") ?_
  refine wm_lpop (lv_own (by walk_at "mem")) ?_
  refine wa_nil ?_; refine wall_nil ?_
  refine ⟨kept_builtin, wc_pop (vs := op.map V2) (w := V2 (tx, ky)) (led' := (L, .frame loc) :: (dv, .dict (strD VAL)) :: (dc, .dict (strD CON)) :: (OP, .list (op.map V2)) :: (SC, .list (dctsV (sc ++ [d1]))) :: (WR, .list (dctsV (wr ++ [d2]))) :: wled k s' rest) (by rw [List.map_append]; exact .tail (.tail (.tail .head))) (by rw [sizeLine_eq, List.length_map]; walk_at "om") ?_⟩
  refine ⟨_, .str tx, lv_fz, rfl, ?_⟩
  refine wb_cat (by rw [sizeLine_eq]; walk_at "om") ?_
  refine we_str ?_
  refine wb_cat (by rw [sizeLine_eq, slen_append]; walk_at "om") ?_
  refine iadd_str' (by rw [sizeLine_eq, slen_append, slen_append]; walk_at "om") ?_
  refine wn_local (by walk_at "up") ?_; refine nx_next ?_; refine ws_cons' ?_; refine wx_expr ?_; refine we_mcall ?_; refine we_local (by walk_at "mem") (by walk_at "lkp") ?_
  refine wm_lpop (lv_own (by walk_at "mem")) ?_
  refine wa_nil ?_; refine wall_nil ?_
  refine ⟨kept_builtin, wc_pop (vs := dctsV sc) (w := .dct (strD d1)) (led' := (L, .frame (setLoc loc (Str.ofString "due") (.str (due ++ (Str.ofString "</" ++ tx ++ Str.ofString ">"))))) :: (dv, .dict (strD VAL)) :: (dc, .dict (strD CON)) :: (OP, .list (op.map V2)) :: (SC, .list (dctsV sc)) :: (WR, .list (dctsV (wr ++ [d2]))) :: wled k s' rest) (by unfold dctsV; rw [List.map_append]; exact .tail (.tail (.tail (.tail .head)))) (by rw [sizeLine_eq, List.length_map]; walk_at "om") ?_⟩
  refine nx_next ?_; refine ws_cons' ?_; refine wx_expr ?_; refine we_mcall ?_; refine we_local (by walk_at "mem") (by walk_at "lkp") ?_
  refine wm_lpop (lv_own (by walk_at "mem")) ?_
  refine wa_nil ?_; refine wall_nil ?_
  refine ⟨kept_builtin, wc_pop (vs := dctsV wr) (w := .dct (strD d2)) (led' := (L, .frame (setLoc loc (Str.ofString "due") (.str (due ++ (Str.ofString "</" ++ tx ++ Str.ofString ">"))))) :: (dv, .dict (strD VAL)) :: (dc, .dict (strD CON)) :: (OP, .list (op.map V2)) :: (SC, .list (dctsV sc)) :: (WR, .list (dctsV wr)) :: wled k s' rest) (by unfold dctsV; rw [List.map_append]; exact .tail (.tail (.tail (.tail (.tail .head))))) (by rw [sizeLine_eq, List.length_map]; walk_at "om") ?_⟩
  refine nx_next ?_; refine ws_nil ?_
  exact h
end
section
noncomputable abbrev tl (a : Str × Str × Str) : List Str := [a.1, a.2.1, a.2.2]
noncomputable def sort3 (ps : List (Str × Str × Str)) : List (Str × Str × Str) := (ordIx (ksLt (ps.map tl)) ps.length).map fun i => ps.getD i (Str.empty, Str.empty, Str.empty)
theorem sortV_V3 (ps : List (Str × Str × Str)) : sortV (ps.map tl) (ps.map V3) = (sort3 ps).map V3 := by
  unfold sortV sort3
  rw [List.length_map]
  exact map_getD V3 ps _ _ _ fun i hi => ordIx_lt i hi
theorem sortV_V2 (ps : List (Str × Str)) : sortV (ps.map pl) (ps.map V2) = (sortP ps).map V2 := by
  unfold sortV sortP
  rw [List.length_map]
  exact map_getD V2 ps _ _ _ fun i hi => ordIx_lt i hi
theorem sort3_perm (ps : List (Str × Str × Str)) : (sort3 ps).Perm ps := by
  unfold sort3
  have h := ordIx_perm (ksLt (ps.map tl)) ps.length
  refine (h.map _).trans ?_
  have : (List.range ps.length).map (fun i => ps.getD i (Str.empty, Str.empty, Str.empty)) = ps := by
    refine List.ext_getElem (by simp) fun i h1 h2 => ?_
    simp at h1
    simp [h1]
  rw [this]
theorem V3_tl (ps : List (Str × Str × Str)) : (ps.map tl).map VL = ps.map V3 := by rw [List.map_map]; rfl
theorem V2_pl (ps : List (Str × Str)) : (ps.map pl).map VL = ps.map V2 := by rw [List.map_map]; rfl
noncomputable def nsD (e : Str × Str) : Str := Str.ofString " xmlns" ++ (if (e.1 != u0) = true then Str.ofString ":" ++ e.1 else u0) ++ Str.ofString "=\"" ++ e.2 ++ Str.ofString "\""
noncomputable def atD (e : Str × Str × Str) : Str := Str.ofString " " ++ (if (e.1 != u0) = true then pfx e.1 ++ Str.ofString ":" else u0) ++ e.2.1 ++ Str.ofString "=\"" ++ refT VAL e.2.2 ++ Str.ofString "\""
noncomputable def cats (d : Str) (l : List Str) : Str := l.foldl (· ++ ·) d
theorem partS12 {k : KA} {s : St} {L dv dc OP SC WR : Addr} {loc : List (Str × V)} {op : List (Str × Str)} {sc wr : List (List (Str × Str))} {rest : Led} {back : Bool} {due : Str} {Q : F → Led → Prop} (G : Gr C) (lo : LocOk k dv dc OP SC WR back due loc) (hd : due.length ≤ 1000000) {NW : Addr × AO}
    (h : Q .next (NW :: lled k s L dv dc OP SC WR (setLoc loc (Str.ofString "due") (.str (due ++ Str.ofString ">"))) op sc wr rest)) :
    WS C n NoX (lwEnv C L) ((lwStart C.w.params).drop 12) (NW :: lled k s L dv dc OP SC WR loc op sc wr rest) Q := by
  obtain ⟨o1, o2, o3, o4, o5, o6, o7, o8, o9⟩ := lo
  dsimp only [lwEnv, fenv, lwFd, lwStart, List.drop]
  unfold lled
  refine ws_cons' (wx_aug (wl_local (by walk_at "mem") (by walk_at "lkp") ?_))
  refine we_str ?_
  refine iadd_str' (by rw [sizeLine_eq, show (Str.ofString ">").length = 1 from rfl]; walk_at "om") ?_
  refine wn_local (by walk_at "up") ?_; refine nx_next ?_; refine ws_nil ?_
  exact h
theorem LocOk.due' {k : KA} {dv dc OP SC WR : Addr} {back : Bool} {due due' : Str} {loc : List (Str × V)} (lo : LocOk k dv dc OP SC WR back due loc) : LocOk k dv dc OP SC WR back due' (setLoc loc (Str.ofString "due") (.str due')) :=
  ⟨lookup_set_ne (by decide +kernel) lo.value, lookup_set_ne (by decide +kernel) lo.content, lookup_set_ne (by decide +kernel) lo.pieces, lookup_set_ne (by decide +kernel) lo.writer, lookup_set_ne (by decide +kernel) lo.back, lookup_set_same, lookup_set_ne (by decide +kernel) lo.opened, lookup_set_ne (by decide +kernel) lo.scopes, lookup_set_ne (by decide +kernel) lo.written⟩
noncomputable def ownN : List Str := [Str.ofString "x", Str.ofString "kind", Str.ofString "q", Str.ofString "tag", Str.ofString "attrs", Str.ofString "told", Str.ofString "prefixes", Str.ofString "prefix", Str.ofString "uri", Str.ofString "name", Str.ofString "text", Str.ofString "shown", Str.ofString "new"]
theorem own_ne : ∀ x ∈ ownN, (Str.ofString "value" == x) = false ∧ (Str.ofString "content" == x) = false ∧ (Str.ofString "pieces" == x) = false ∧ (Str.ofString "writer" == x) = false ∧ (Str.ofString "back" == x) = false ∧ (Str.ofString "due" == x) = false ∧ (Str.ofString "opened" == x) = false ∧ (Str.ofString "scopes" == x) = false ∧ (Str.ofString "written" == x) = false := by decide +kernel
theorem LocOk.set {k : KA} {dv dc OP SC WR : Addr} {back : Bool} {due : Str} {loc : List (Str × V)} {x : Str} {v : V} (lo : LocOk k dv dc OP SC WR back due loc) (hx : x ∈ ownN) : LocOk k dv dc OP SC WR back due (setLoc loc x v) := by
  obtain ⟨a1, a2, a3, a4, a5, a6, a7, a8, a9⟩ := own_ne x hx
  exact ⟨lookup_set_ne a1 lo.value, lookup_set_ne a2 lo.content, lookup_set_ne a3 lo.pieces, lookup_set_ne a4 lo.writer, lookup_set_ne a5 lo.back, lookup_set_ne a6 lo.due, lookup_set_ne a7 lo.opened, lookup_set_ne a8 lo.scopes, lookup_set_ne a9 lo.written⟩
theorem signs_len (t : Str) : (signs t).length = t.length := by simp [signs, Str.length]
theorem pfx_len : ∀ u ∈ URIS, (pfx u).length ≤ 3 := by decide +kernel
theorem partS11 {k : KA} {s : St} {L dv dc OP SC WR : Addr} {loc : List (Str × V)} {op : List (Str × Str)} {sc wr : List (List (Str × Str))} {as : List (Str × Str × Str)} {rest : Led} {back : Bool} {due : Str} {Q : F → Led → Prop} (G : Gr C) (lo : LocOk k dv dc OP SC WR back due loc) (hd : due.length ≤ 900000) {NW : Addr × AO}
    (la : loc.lookup (Str.ofString "attrs") = some (.lst (as.map V3))) (lp : loc.lookup (Str.ofString "prefixes") = some (.dct (strD PFX))) (hz : as.length ≤ 60) (hu : ∀ e ∈ as, e.1 ∈ URIS ∧ e.2.1.length ≤ 10 ∧ e.2.2.length ≤ 10 ∧ (refT VAL e.2.2).length ≤ 100)
    (h : ∀ loc', LocOk k dv dc OP SC WR back (cats due ((sort3 as).map atD) ++ Str.ofString ">") loc' → Q .next (NW :: lled k s L dv dc OP SC WR loc' op sc wr rest)) :
    WS C (n + 1) NoX (lwEnv C L) ((lwStart C.w.params).drop 11) (NW :: lled k s L dv dc OP SC WR loc op sc wr rest) Q := by
  have fin : ∀ (due' : Str) (loc : List (Str × V)), due' = cats due ((sort3 as).map atD) → due'.length ≤ 1000000 → LocOk k dv dc OP SC WR back due' loc → WS C (n + 1) NoX (lwEnv C L) ((lwStart C.w.params).drop 12) (NW :: lled k s L dv dc OP SC WR loc op sc wr rest) Q := fun due' loc e h1 lo => partS12 G lo h1 (h _ (by rw [← e]; exact lo.due'))
  dsimp only [lwEnv, fenv, lwFd, lwStart, List.drop] at fin ⊢
  unfold lled at fin ⊢
  refine ws_cons' (wx_for ?_)
  refine we_call ?_; refine we_bltn (bltn1 (by assumption) (by rfl) (by rfl) (by decide)) ?_; refine wa_cons ?_; refine we_local (by walk_at "mem") (by walk_at "lkp") ?_; refine wa_nil ?_; refine wall_nil ?_
  refine ⟨kept_builtin, wc_sortedL (kss := as.map tl) (by rw [V3_tl]; exact lv_fz) (by rw [List.length_map]; walk_at "om") ?_⟩
  rw [V3_tl, sortV_V3]
  refine ⟨_, it_lst, ?_⟩
  refine (?_ : ∀ (es : List (Str × Str × Str)) (du : Str) (loc : List (Str × V)), (∀ e ∈ es, e ∈ as) → du.length + 200 * es.length ≤ 990000 → LocOk k dv dc OP SC WR back du loc → loc.lookup (Str.ofString "prefixes") = some (.dct (strD PFX)) →
      (∀ loc', LocOk k dv dc OP SC WR back (cats du (es.map atD)) loc' → (cats du (es.map atD)).length ≤ 990000 → ?QA .next (NW :: (L, .frame loc') :: (dv, .dict (strD VAL)) :: (dc, .dict (strD CON)) :: (OP, .list (op.map V2)) :: (SC, .list (dctsV sc)) :: (WR, .list (dctsV wr)) :: wled k s rest)) →
      WLoop C _ _ _ _ (es.map V3) (NW :: (L, .frame loc) :: (dv, .dict (strD VAL)) :: (dc, .dict (strD CON)) :: (OP, .list (op.map V2)) :: (SC, .list (dctsV sc)) :: (WR, .list (dctsV wr)) :: wled k s rest) ?QA) (sort3 as) due loc (fun e he => (sort3_perm as).mem_iff.mp he) (by rw [(sort3_perm as).length_eq]; walk_at "om") lo lp ?_
  · intro es
    induction es with
    | nil => intro du loc _ hl lo _ hq; exact wl_nil (hq loc lo (by show du.length ≤ _; walk_at "om"))
    | cons e es ih =>
      intro du loc hin hl lo lp hq
      obtain ⟨v1, v2, v3, v4⟩ := hu e (hin e List.mem_cons_self)
      have hp := pfx_look _ v1
      have hpl := pfx_len e.1 v1
      simp only [List.length_cons] at hl
      have lo3 : LocOk k dv dc OP SC WR back du (setLoc (setLoc (setLoc loc (Str.ofString "uri") (.str e.1)) (Str.ofString "name") (.str e.2.1)) (Str.ofString "text") (.str e.2.2)) := ((lo.set (by decide +kernel)).set (by decide +kernel)).set (by decide +kernel)
      have lp3 : (setLoc (setLoc (setLoc loc (Str.ofString "uri") (.str e.1)) (Str.ofString "name") (.str e.2.1)) (Str.ofString "text") (.str e.2.2)).lookup (Str.ofString "prefixes") = some (.dct (strD PFX)) := by walk_at "lkp"
      refine wl_cons (wa_tup3 (unp_list (vs := [.str e.1, .str e.2.1, .str e.2.2]) lv_fz) ?_)
      refine wa_name (wn_local (by walk_at "up") (wa_name (wn_local (by walk_at "up") (wa_name (wn_local (by walk_at "up") ?_)))))
      generalize hpre : (if (e.1 != u0) = true then pfx e.1 ++ Str.ofString ":" else u0) = pre
      have hprl : pre.length ≤ 10 := by
        rw [← hpre]
        split
        · rw [slen_append, show (Str.ofString ":").length = 1 from rfl]; walk_at "om"
        · decide
      have eat : atD e = Str.ofString " " ++ pre ++ e.2.1 ++ Str.ofString "=\"" ++ refT VAL e.2.2 ++ Str.ofString "\"" := by unfold atD; rw [hpre]
      have c1 : (Str.ofString " ").length = 1 := rfl
      have c2 : (Str.ofString "=\"").length = 2 := rfl
      have c3 : (Str.ofString "\"").length = 1 := rfl
      refine ws_cons' (wx_aug (wl_local (by walk_at "mem") lo3.due (we_bin (we_bin (we_bin (we_bin (we_bin (we_str (WE.cut (fun v _ => v = .str pre) ?_ fun v hv => ?_)))))))))
      · refine we_ife ?_; refine wt_cmp ?_; refine we_local (by walk_at "mem") (by walk_at "lkp") ?_; refine we_str ?_; refine wc_ne_str ?_; refine tr_bool ?_
        refine ift_both (fun b => ?_) (fun b => ?_)
        · have b : (e.1 != u0) = true := b
          rw [if_pos b] at hpre
          refine we_bin (we_dsub ?_)
          refine we_local (by walk_at "mem") lp3 ?_
          refine we_local (by walk_at "mem") (by walk_at "lkp") ?_
          refine ⟨_, _, _, dv_fz, rfl, hp, ?_⟩
          refine we_str ?_
          refine wb_cat (by rw [sizeLine_eq, show (Str.ofString ":").length = 1 from rfl]; walk_at "om") ?_
          exact ⟨by rw [hpre], rfl⟩
        · have b : (e.1 != u0) = false := b
          rw [if_neg (by rw [b]; decide)] at hpre
          refine we_str ?_
          exact ⟨by rw [← hpre]; rfl, rfl⟩
      subst hv
      refine wb_cat (by rw [sizeLine_eq]; walk_at "om") ?_
      refine we_local (by walk_at "mem") (by walk_at "lkp") ?_
      refine wb_cat (by rw [sizeLine_eq, slen_append]; walk_at "om") ?_
      refine we_str ?_
      refine wb_cat (by rw [sizeLine_eq, slen_append, slen_append]; walk_at "om") ?_
      refine we_call ?_; refine we_glob (glob1 (by assumption) (by rfl)) ?_; refine wa_cons ?_; refine we_local (by walk_at "mem") (by walk_at "lkp") ?_; refine wa_cons ?_
      refine we_local (by walk_at "mem") lo3.value ?_
      refine wa_nil ?_; refine wall_nil ?_
      refine ⟨kept_base (G.inn 185 _ rfl) rfl, (law_refer (t := e.2.2) (f := fun s => look VAL s s) G (by rw [signs_len]; walk_at "om") (by walk_at "mem") (fun s _ => refer_look VAL s) (by rw [sizeLine_eq]; show (refT VAL e.2.2).length ≤ _; walk_at "om") ?_).wc⟩
      show W2 _ _ _ _ _ _ (.str (refT VAL e.2.2)) _ _
      refine wb_cat (by rw [sizeLine_eq, slen_append, slen_append, slen_append]; walk_at "om") ?_
      refine we_str ?_
      refine wb_cat (by rw [sizeLine_eq, slen_append, slen_append, slen_append, slen_append]; walk_at "om") ?_
      rw [← eat]
      have hea : (atD e).length ≤ 200 := by rw [eat, slen_append, slen_append, slen_append, slen_append, slen_append]; walk_at "om"
      refine iadd_str' (by rw [sizeLine_eq]; walk_at "om") ?_
      refine wn_local (by walk_at "up") ?_; refine nx_next ?_; refine ws_nil ?_; refine lk_next ?_
      exact ih (du ++ atD e) _ (fun e' he' => hin e' (.tail _ he')) (by rw [slen_append]; walk_at "om") lo3.due' (lookup_set_ne (by decide +kernel) lp3) hq
  · intro loc' lo' hl'
    exact nx_next (fin _ loc' rfl (by walk_at "om") lo')
theorem partS10 {k : KA} {s : St} {L dv dc OP SC WR NWa : Addr} {loc : List (Str × V)} {op : List (Str × Str)} {sc wr : List (List (Str × Str))} {as : List (Str × Str × Str)} {new : List (Str × Str)} {rest : Led} {back : Bool} {due : Str} {Q : F → Led → Prop} (G : Gr C) (lo : LocOk k dv dc OP SC WR back due loc) (hd : due.length ≤ 800000)
    (la : loc.lookup (Str.ofString "attrs") = some (.lst (as.map V3))) (lp : loc.lookup (Str.ofString "prefixes") = some (.dct (strD PFX))) (ln : loc.lookup (Str.ofString "new") = some (.ref NWa)) (hz : as.length ≤ 60) (hu : ∀ e ∈ as, e.1 ∈ URIS ∧ e.2.1.length ≤ 10 ∧ e.2.2.length ≤ 10 ∧ (refT VAL e.2.2).length ≤ 100)
    (hzn : new.length ≤ 60) (hn : ∀ e ∈ new, e.1.length ≤ 10 ∧ e.2.length ≤ 100)
    (h : ∀ loc', LocOk k dv dc OP SC WR back (cats (cats due ((sortP new).map nsD)) ((sort3 as).map atD) ++ Str.ofString ">") loc' → Q .next ((NWa, .list (new.map V2)) :: lled k s L dv dc OP SC WR loc' op sc wr rest)) :
    WS C (n + 1) NoX (lwEnv C L) ((lwStart C.w.params).drop 10) ((NWa, .list (new.map V2)) :: lled k s L dv dc OP SC WR loc op sc wr rest) Q := by
  have fin : ∀ (due' : Str) (loc : List (Str × V)), due' = cats due ((sortP new).map nsD) → due'.length ≤ 900000 → LocOk k dv dc OP SC WR back due' loc → loc.lookup (Str.ofString "attrs") = some (.lst (as.map V3)) → loc.lookup (Str.ofString "prefixes") = some (.dct (strD PFX)) → WS C (n + 1) NoX (lwEnv C L) ((lwStart C.w.params).drop 11) ((NWa, .list (new.map V2)) :: lled k s L dv dc OP SC WR loc op sc wr rest) Q := fun due' loc e h1 lo la lp => partS11 G lo h1 la lp hz hu (by rw [e]; exact h)
  dsimp only [lwEnv, fenv, lwFd, lwStart, List.drop] at fin ⊢
  unfold lled at fin ⊢
  refine ws_cons' (wx_for ?_)
  refine we_call ?_; refine we_bltn (bltn1 (by assumption) (by rfl) (by rfl) (by decide)) ?_; refine wa_cons ?_; refine we_local (by walk_at "mem") (by walk_at "lkp") ?_; refine wa_nil ?_; refine wall_nil ?_
  refine ⟨kept_builtin, wc_sortedL (kss := new.map pl) (by rw [V2_pl]; exact lv_own (by walk_at "mem")) (by rw [List.length_map]; walk_at "om") ?_⟩
  rw [V2_pl, sortV_V2]
  refine ⟨_, it_lst, ?_⟩
  refine (?_ : ∀ (es : List (Str × Str)) (du : Str) (loc : List (Str × V)), (∀ e ∈ es, e ∈ new) → du.length + 200 * es.length ≤ 890000 → LocOk k dv dc OP SC WR back du loc → loc.lookup (Str.ofString "attrs") = some (.lst (as.map V3)) → loc.lookup (Str.ofString "prefixes") = some (.dct (strD PFX)) →
      (∀ loc', LocOk k dv dc OP SC WR back (cats du (es.map nsD)) loc' → loc'.lookup (Str.ofString "attrs") = some (.lst (as.map V3)) → loc'.lookup (Str.ofString "prefixes") = some (.dct (strD PFX)) → (cats du (es.map nsD)).length ≤ 890000 → ?QA .next ((NWa, .list (new.map V2)) :: (L, .frame loc') :: (dv, .dict (strD VAL)) :: (dc, .dict (strD CON)) :: (OP, .list (op.map V2)) :: (SC, .list (dctsV sc)) :: (WR, .list (dctsV wr)) :: wled k s rest)) →
      WLoop C _ _ _ _ (es.map V2) ((NWa, .list (new.map V2)) :: (L, .frame loc) :: (dv, .dict (strD VAL)) :: (dc, .dict (strD CON)) :: (OP, .list (op.map V2)) :: (SC, .list (dctsV sc)) :: (WR, .list (dctsV wr)) :: wled k s rest) ?QA) (sortP new) due loc (fun e he => (sortP_perm new).mem_iff.mp he) (by rw [sortP_length]; walk_at "om") lo la lp ?_
  · intro es
    induction es with
    | nil => intro du loc _ hl lo la lp hq; exact wl_nil (hq loc lo la lp (by show du.length ≤ _; walk_at "om"))
    | cons e es ih =>
      intro du loc hin hl lo la lp hq
      obtain ⟨v1, v2⟩ := hn e (hin e List.mem_cons_self)
      simp only [List.length_cons] at hl
      have lo3 : LocOk k dv dc OP SC WR back du (setLoc (setLoc loc (Str.ofString "prefix") (.str e.1)) (Str.ofString "uri") (.str e.2)) := (lo.set (by decide +kernel)).set (by decide +kernel)
      refine wl_cons (wa_tup2 (unp_list (vs := [.str e.1, .str e.2]) lv_fz) ?_)
      refine wn_local (by walk_at "up") (wn_local (by walk_at "up") ?_)
      generalize hpre : (if (e.1 != u0) = true then Str.ofString ":" ++ e.1 else u0) = pre
      have hprl : pre.length ≤ 20 := by
        rw [← hpre]
        split
        · rw [slen_append, show (Str.ofString ":").length = 1 from rfl]; walk_at "om"
        · decide
      have eat : nsD e = Str.ofString " xmlns" ++ pre ++ Str.ofString "=\"" ++ e.2 ++ Str.ofString "\"" := by unfold nsD; rw [hpre]
      have c1 : (Str.ofString " xmlns").length = 6 := rfl
      have c2 : (Str.ofString "=\"").length = 2 := rfl
      have c3 : (Str.ofString "\"").length = 1 := rfl
      refine ws_cons' (wx_aug (wl_local (by walk_at "mem") lo3.due (we_bin (we_bin (we_bin (we_bin (we_str (WE.cut (fun v _ => v = .str pre) ?_ fun v hv => ?_))))))))
      · refine we_ife ?_; refine wt_cmp ?_; refine we_local (by walk_at "mem") (by walk_at "lkp") ?_; refine we_str ?_; refine wc_ne_str ?_; refine tr_bool ?_
        refine ift_both (fun b => ?_) (fun b => ?_)
        · have b : (e.1 != u0) = true := b
          rw [if_pos b] at hpre
          refine we_bin ?_; refine we_str ?_; refine we_local (by walk_at "mem") (by walk_at "lkp") ?_
          refine wb_cat (by rw [sizeLine_eq, show (Str.ofString ":").length = 1 from rfl]; walk_at "om") ?_
          exact ⟨by rw [hpre], rfl⟩
        · have b : (e.1 != u0) = false := b
          rw [if_neg (by rw [b]; decide)] at hpre
          refine we_str ?_
          exact ⟨by rw [← hpre]; rfl, rfl⟩
      subst hv
      refine wb_cat (by rw [sizeLine_eq]; walk_at "om") ?_
      refine we_str ?_
      refine wb_cat (by rw [sizeLine_eq, slen_append]; walk_at "om") ?_
      refine we_local (by walk_at "mem") (by walk_at "lkp") ?_
      refine wb_cat (by rw [sizeLine_eq, slen_append, slen_append]; walk_at "om") ?_
      refine we_str ?_
      refine wb_cat (by rw [sizeLine_eq, slen_append, slen_append, slen_append]; walk_at "om") ?_
      rw [← eat]
      have hea : (nsD e).length ≤ 200 := by rw [eat, slen_append, slen_append, slen_append, slen_append]; walk_at "om"
      refine iadd_str' (by rw [sizeLine_eq]; walk_at "om") ?_
      refine wn_local (by walk_at "up") ?_; refine nx_next ?_; refine ws_nil ?_; refine lk_next ?_
      exact ih (du ++ nsD e) _ (fun e' he' => hin e' (.tail _ he')) (by rw [slen_append]; walk_at "om") lo3.due' (by walk_at "lkp") (by walk_at "lkp") hq
  · intro loc' lo' la' lp' hl'
    exact nx_next (fin _ loc' rfl (by walk_at "om") lo' la' lp')
end
section
theorem uri_len : ∀ u ∈ URIS, u.length ≤ 50 := by decide +kernel
noncomputable def dueS (due tx : Str) (new : List (Str × Str)) (as : List (Str × Str × Str)) : Str := cats (cats (due ++ (Str.ofString "<" ++ tx)) ((sortP new).map nsD)) ((sort3 as).map atD) ++ Str.ofString ">"
theorem partS9 {k : KA} {s : St} {L dv dc OP SC WR NWa : Addr} {loc : List (Str × V)} {op : List (Str × Str)} {sc wr : List (List (Str × Str))} {as : List (Str × Str × Str)} {new : List (Str × Str)} {rest : Led} {back : Bool} {due : Str} {Q : F → Led → Prop} (G : Gr C) (lo : LocOk k dv dc OP SC WR back due loc) {tx ky : Str} (hd : due.length ≤ 700000) (htx : tx.length ≤ 1000)
    (la : loc.lookup (Str.ofString "attrs") = some (.lst (as.map V3))) (lp : loc.lookup (Str.ofString "prefixes") = some (.dct (strD PFX))) (ln : loc.lookup (Str.ofString "new") = some (.ref NWa)) (hz : as.length ≤ 60) (hu : ∀ e ∈ as, e.1 ∈ URIS ∧ e.2.1.length ≤ 10 ∧ e.2.2.length ≤ 10 ∧ (refT VAL e.2.2).length ≤ 100)
    (hzn : new.length ≤ 60) (hn : ∀ e ∈ new, e.1.length ≤ 10 ∧ e.2.length ≤ 100)
    (hop : op.length ≤ 1000)
    (h : ∀ loc', LocOk k dv dc OP SC WR back (dueS due tx new as) loc' → Q .next ((NWa, .list (new.map V2)) :: lled k s L dv dc OP SC WR loc' (op ++ [(tx, ky)]) sc wr rest)) :
    WS C (n + 1) NoX (lwEnv C L) ((lwStart C.w.params).drop 9) ((NWa, .list (new.map V2)) :: lled k s L dv dc OP SC WR loc (op ++ [(tx, ky)]) sc wr rest) Q := by
  have c1 : (Str.ofString "<").length = 1 := rfl
  have fin := fun (lo' : LocOk k dv dc OP SC WR back (due ++ (Str.ofString "<" ++ tx)) (setLoc loc (Str.ofString "due") (.str (due ++ (Str.ofString "<" ++ tx))))) => partS10 (n := n) (s := s) (op := op ++ [(tx, ky)]) (sc := sc) (wr := wr) (rest := rest) G lo' (by rw [slen_append, slen_append]; walk_at "om") (by walk_at "lkp") (by walk_at "lkp") (by walk_at "lkp") hz hu hzn hn h
  have fin := fin lo.due'
  obtain ⟨o1, o2, o3, o4, o5, o6, o7, o8, o9⟩ := lo
  dsimp only [lwEnv, fenv, lwFd, lwStart, List.drop] at fin ⊢
  unfold lled at fin ⊢
  refine ws_cons' (wx_aug (wl_local (by walk_at "mem") (by walk_at "lkp") (we_bin (we_str (we_lsub ?_)))))
  refine we_last ?_; refine we_local (by walk_at "mem") (by walk_at "lkp") ?_
  refine ⟨_, _, _, lv_own (by walk_at "mem"), by rw [List.map_append]; rfl, _, .str tx, lv_fz, rfl, ?_⟩
  refine wb_cat (by rw [sizeLine_eq]; walk_at "om") ?_
  refine iadd_str' (by rw [sizeLine_eq, slen_append]; walk_at "om") ?_
  refine wn_local (.tail .head) (nx_next ?_)
  exact fin
noncomputable def tagT (uri name : Str) : Str := (if (pfx uri != u0) = true then pfx uri ++ Str.ofString ":" else u0) ++ name
theorem partS8 {k : KA} {s : St} {L dv dc OP SC WR NWa : Addr} {loc : List (Str × V)} {op : List (Str × Str)} {sc wr : List (List (Str × Str))} {as : List (Str × Str × Str)} {new : List (Str × Str)} {rest : Led} {back : Bool} {due : Str} {Q : F → Led → Prop} (G : Gr C) (lo : LocOk k dv dc OP SC WR back due loc) {uri name : Str} (hd : due.length ≤ 700000) (huri : uri ∈ URIS) (hname : name.length ≤ 10)
    (la : loc.lookup (Str.ofString "attrs") = some (.lst (as.map V3))) (lp : loc.lookup (Str.ofString "prefixes") = some (.dct (strD PFX))) (ln : loc.lookup (Str.ofString "new") = some (.ref NWa)) (hz : as.length ≤ 60) (hu : ∀ e ∈ as, e.1 ∈ URIS ∧ e.2.1.length ≤ 10 ∧ e.2.2.length ≤ 10 ∧ (refT VAL e.2.2).length ≤ 100)
    (hzn : new.length ≤ 60) (hn : ∀ e ∈ new, e.1.length ≤ 10 ∧ e.2.length ≤ 100)
    (hop : op.length ≤ 900) (lt : loc.lookup (Str.ofString "tag") = some (VL [uri, name]))
    (h : ∀ loc', LocOk k dv dc OP SC WR back (dueS due (tagT uri name) new as) loc' → Q .next ((NWa, .list (new.map V2)) :: lled k s L dv dc OP SC WR loc' (op ++ [(tagT uri name, keyOf uri name)]) sc wr rest)) :
    WS C (n + 1) NoX (lwEnv C L) ((lwStart C.w.params).drop 8) ((NWa, .list (new.map V2)) :: lled k s L dv dc OP SC WR loc op sc wr rest) Q := by
  have hp := pfx_look _ huri
  have hpl := pfx_len uri huri
  have hul := uri_len uri huri
  have htl : (tagT uri name).length ≤ 100 := by
    unfold tagT
    rw [slen_append]
    have : (if (pfx uri != u0) = true then pfx uri ++ Str.ofString ":" else u0).length ≤ 10 := by
      split
      · rw [slen_append, show (Str.ofString ":").length = 1 from rfl]; walk_at "om"
      · decide
    walk_at "om"
  have fin := partS9 (n := n) (s := s) (op := op) (sc := sc) (wr := wr) (rest := rest) (tx := tagT uri name) (ky := keyOf uri name) G lo hd (by walk_at "om") la lp ln hz hu hzn hn (by walk_at "om") h
  obtain ⟨o1, o2, o3, o4, o5, o6, o7, o8, o9⟩ := lo
  dsimp only [lwEnv, fenv, lwFd, lwStart, List.drop] at fin ⊢
  unfold lled at fin ⊢
  generalize hpre : (if (pfx uri != u0) = true then pfx uri ++ Str.ofString ":" else u0) = pre
  have hprl : pre.length ≤ 10 := by
    rw [← hpre]
    split
    · rw [slen_append, show (Str.ofString ":").length = 1 from rfl]; walk_at "om"
    · decide
  have eat : tagT uri name = pre ++ name := by unfold tagT; rw [hpre]
  refine ws_cons' (wx_expr (we_mcall ?_))
  refine we_local (by walk_at "mem") (by walk_at "lkp") ?_; refine wm_lappend (lv_own (by walk_at "mem")) ?_; refine wa_cons ?_
  refine we_listF (wa_cons (we_bin (WE.cut (fun v _ => v = .str pre) ?_ fun v hv => ?_)))
  · refine we_ife (wt_cmp (we_dsub ?_))
    refine we_local (by walk_at "mem") (by walk_at "lkp") ?_
    refine we_lsub ?_
    refine we_local (by walk_at "mem") (by walk_at "lkp") ?_
    refine ⟨_, .str uri, lv_fz, rfl, _, _, _, dv_fz, rfl, hp, ?_⟩
    refine we_str ?_; refine wc_ne_str ?_; refine tr_bool ?_
    refine ift_both (fun b => ?_) (fun b => ?_)
    · have b : (pfx uri != u0) = true := b
      rw [if_pos b] at hpre
      refine we_bin (we_dsub ?_)
      refine we_local (by walk_at "mem") (by walk_at "lkp") ?_
      refine we_lsub ?_
      refine we_local (by walk_at "mem") (by walk_at "lkp") ?_
      refine ⟨_, .str uri, lv_fz, rfl, _, _, _, dv_fz, rfl, hp, ?_⟩
      refine we_str ?_
      refine wb_cat (by rw [sizeLine_eq, show (Str.ofString ":").length = 1 from rfl]; walk_at "om") ?_
      exact ⟨by rw [hpre], rfl⟩
    · have b : (pfx uri != u0) = false := b
      rw [if_neg (by rw [b]; decide)] at hpre
      refine we_str ?_
      exact ⟨by rw [← hpre]; rfl, rfl⟩
  subst hv
  refine we_lsub ?_
  refine we_local (by walk_at "mem") (by walk_at "lkp") ?_
  refine ⟨_, .str name, lv_fz, rfl, ?_⟩
  refine wb_cat (by rw [sizeLine_eq]; walk_at "om") ?_
  rw [← eat]
  refine wa_cons ?_; refine we_call ?_; refine we_glob (glob1 (by assumption) (by rfl)) ?_; refine wa_cons ?_
  refine we_lsub ?_
  refine we_local (by walk_at "mem") (by walk_at "lkp") ?_
  refine ⟨_, .str uri, lv_fz, rfl, ?_⟩
  refine wa_cons (we_lsub ?_)
  refine we_local (by walk_at "mem") (by walk_at "lkp") ?_
  refine ⟨_, .str name, lv_fz, rfl, ?_⟩
  refine wa_nil ?_; refine wall_nil ?_
  refine ⟨kept_base (G.inn 180 _ rfl) rfl, (law_key G (by walk_at "om") ?_).wc⟩
  refine wa_nil ?_
  refine ⟨by rw [sizeLine_eq]; simp, ?_⟩
  refine wa_nil ?_; refine wall_nil ?_
  rw [List.map_append] at fin
  refine ⟨kept_builtin, wc_append (by walk_at "up") (by rw [sizeLine_eq, List.length_map]; walk_at "om") (nx_next ?_)⟩
  exact fin
theorem partS7 {k : KA} {s : St} {L dv dc OP SC WR NWa : Addr} {loc : List (Str × V)} {op : List (Str × Str)} {sc wr : List (List (Str × Str))} {as : List (Str × Str × Str)} {new : List (Str × Str)} {rest : Led} {back : Bool} {due : Str} {Q : F → Led → Prop} (G : Gr C) (lo : LocOk k dv dc OP SC WR back due loc) {uri name : Str} {shown : List (Str × Str)} {SH : Addr} (hd : due.length ≤ 700000) (huri : uri ∈ URIS) (hname : name.length ≤ 10)
    (la : loc.lookup (Str.ofString "attrs") = some (.lst (as.map V3))) (lp : loc.lookup (Str.ofString "prefixes") = some (.dct (strD PFX))) (ln : loc.lookup (Str.ofString "new") = some (.ref NWa)) (hz : as.length ≤ 60) (hu : ∀ e ∈ as, e.1 ∈ URIS ∧ e.2.1.length ≤ 10 ∧ e.2.2.length ≤ 10 ∧ (refT VAL e.2.2).length ≤ 100)
    (hzn : new.length ≤ 60) (hn : ∀ e ∈ new, e.1.length ≤ 10 ∧ e.2.length ≤ 100)
    (hop : op.length ≤ 900) (hwr : wr.length ≤ 900) (lt : loc.lookup (Str.ofString "tag") = some (VL [uri, name])) (ls : loc.lookup (Str.ofString "shown") = some (.ref SH))
    (h : ∀ loc', LocOk k dv dc OP SC WR back (dueS due (tagT uri name) new as) loc' → Q .next ((NWa, .list (new.map V2)) :: lled k s L dv dc OP SC WR loc' (op ++ [(tagT uri name, keyOf uri name)]) sc (wr ++ [shown]) rest)) :
    WS C (n + 1) NoX (lwEnv C L) ((lwStart C.w.params).drop 7) ((NWa, .list (new.map V2)) :: (SH, .dict (strD shown)) :: lled k s L dv dc OP SC WR loc op sc wr rest) Q := by
  have fin := partS8 (n := n) (s := s) (op := op) (sc := sc) (wr := wr ++ [shown]) (rest := rest) G lo hd huri hname la lp ln hz hu hzn hn hop lt h
  obtain ⟨o1, o2, o3, o4, o5, o6, o7, o8, o9⟩ := lo
  dsimp only [lwEnv, fenv, lwFd, lwStart, List.drop] at fin ⊢
  unfold lled at fin ⊢
  refine ws_cons' (wx_expr (we_mcall (we_local (by walk_at "mem") (by walk_at "lkp") (wm_lappend (lv_own (by walk_at "mem")) (wa_cons (W.convV (we_local (by walk_at "mem") ls ⟨_, _, frzD (.tail .head), ?_⟩)))))))
  refine wa_nil ?_; refine wall_nil ?_
  unfold dctsV at fin ⊢
  rw [List.map_append] at fin
  refine ⟨kept_builtin, wc_append (by walk_at "up") (by rw [sizeLine_eq, List.length_map]; walk_at "om") (nx_next ?_)⟩
  exact fin
end
section
noncomputable abbrev SN := List (Str × Str) × List (Str × Str)
noncomputable def snStep (sn : SN) (u : Str) : SN := if (look sn.1 (pfx u) u0 != u) = true then (stS sn.1 (pfx u) u, sn.2 ++ [(pfx u, u)]) else sn
noncomputable def urisOf (uri : Str) (as : List (Str × Str × Str)) : List Str := uri :: (as.filter fun e => e.1 != u0).map (·.1)
noncomputable def snOf (shown : List (Str × Str)) (us : List Str) : SN := us.foldl snStep (shown, [])
theorem partS6 {k : KA} {s : St} {L dv dc OP SC WR NWa SH : Addr} {loc : List (Str × V)} {op : List (Str × Str)} {sc wr : List (List (Str × Str))} {as : List (Str × Str × Str)} {shown : List (Str × Str)} {uri name : Str} {rest : Led} {back : Bool} {due : Str} {Q : F → Led → Prop} (G : Gr C) (lo : LocOk k dv dc OP SC WR back due loc)
    (hd : due.length ≤ 700000) (huri : uri ∈ URIS) (hname : name.length ≤ 10) (la : loc.lookup (Str.ofString "attrs") = some (.lst (as.map V3))) (lp : loc.lookup (Str.ofString "prefixes") = some (.dct (strD PFX))) (hz : as.length ≤ 30) (hu : ∀ e ∈ as, e.1 ∈ URIS ∧ e.2.1.length ≤ 10 ∧ e.2.2.length ≤ 10 ∧ (refT VAL e.2.2).length ≤ 100)
    (hop : op.length ≤ 900) (hwr : wr.length ≤ 900) (lt : loc.lookup (Str.ofString "tag") = some (VL [uri, name]))
    (ln : loc.lookup (Str.ofString "new") = some (.ref NWa)) (ls : loc.lookup (Str.ofString "shown") = some (.ref SH)) (hsh : shown.length ≤ 500)
    (h : ∀ loc', LocOk k dv dc OP SC WR back (dueS due (tagT uri name) (snOf shown (urisOf uri as)).2 as) loc' → Q .next ((NWa, .list ((snOf shown (urisOf uri as)).2.map V2)) :: lled k s L dv dc OP SC WR loc' (op ++ [(tagT uri name, keyOf uri name)]) sc (wr ++ [(snOf shown (urisOf uri as)).1]) rest)) :
    WS C (n + 1) NoX (lwEnv C L) ((lwStart C.w.params).drop 6) ((NWa, .list []) :: (SH, .dict (strD shown)) :: lled k s L dv dc OP SC WR loc op sc wr rest) Q := by
  have fin : ∀ (sn : SN) (loc : List (Str × V)) (z : List (Addr × AO)), sn = snOf shown (urisOf uri as) → sn.2.length ≤ 60 → (∀ e ∈ sn.2, e.1.length ≤ 10 ∧ e.2.length ≤ 100) → LocOk k dv dc OP SC WR back due loc → loc.lookup (Str.ofString "attrs") = some (.lst (as.map V3)) → loc.lookup (Str.ofString "prefixes") = some (.dct (strD PFX)) → loc.lookup (Str.ofString "tag") = some (VL [uri, name]) → loc.lookup (Str.ofString "new") = some (.ref NWa) → loc.lookup (Str.ofString "shown") = some (.ref SH) →
      WS C (n + 1) NoX (lwEnv C L) ((lwStart C.w.params).drop 7) (z ++ ((NWa, .list (sn.2.map V2)) :: (SH, .dict (strD sn.1)) :: lled k s L dv dc OP SC WR loc op sc wr rest)) Q := fun sn loc z e h1 h2 lo la lp lt ln ls => W.drop (List.sublist_append_right _ _) (partS7 G lo hd huri hname la lp ln (by walk_at "om") hu h1 h2 hop hwr lt ls (by rw [e]; exact h))
  have lo' := lo
  obtain ⟨o1, o2, o3, o4, o5, o6, o7, o8, o9⟩ := lo
  dsimp only [lwEnv, fenv, lwFd, lwStart, List.drop] at fin ⊢
  unfold lled at fin ⊢
  refine ws_cons' (wx_for (we_bin (we_listF (wa_cons (we_lsub ?_)))))
  refine we_local (by walk_at "mem") (by walk_at "lkp") ?_
  refine ⟨_, .str uri, lv_fz, rfl, ?_⟩
  refine wa_nil ?_
  refine ⟨by rw [sizeLine_eq]; simp, ?_⟩
  refine we_lcompO (cl := []) ?_
  refine we_local (by walk_at "mem") (by walk_at "lkp") ?_
  refine ⟨_, _, it_lst.o, trivial, fun acc L' => wcells_id rfl ?_⟩
  refine (?_ : ∀ (es : List (Str × Str × Str)) (dn : List Str) (loc' : List (Str × V)), dn.length + es.length ≤ 60 → (∀ loc', ?QB ((L', .frame loc') :: (acc, .list ((dn ++ (es.filter fun e => e.1 != u0).map (·.1)).map V.str)) :: (NWa, .list []) :: (SH, .dict (strD shown)) :: (L, .frame loc) :: ?RB)) →
      WGenO C _ _ _ _ _ noLean (es.map V3) ((L', .frame loc') :: (acc, .list (dn.map V.str)) :: (NWa, .list []) :: (SH, .dict (strD shown)) :: (L, .frame loc) :: ?RB) ?QB) as [] [] (by simp; walk_at "om") ?_
  · intro es
    induction es with
    | nil => intro dn loc' _ hq; exact wg_nil trivial (by simpa using hq loc')
    | cons e es ih =>
      intro dn loc' hl hq
      simp only [List.length_cons] at hl
      refine wg_cons1 trivial (wa_tup3 (unp_list (vs := [.str e.1, .str e.2.1, .str e.2.2]) lv_fz) ?_)
      refine wa_name (wn_local (by walk_at "up") (wa_name (wn_local (by walk_at "up") (wa_name (wn_local (by walk_at "up") ?_)))))
      refine wt_cmp ?_; refine we_local (by walk_at "mem") (by walk_at "lkp") ?_; refine we_str ?_; refine wc_ne_str ?_; refine tr_bool ?_
      refine ift_both (fun b => ?_) (fun b => ?_)
      · have b : (e.1 != u0) = true := b
        refine we_local (by walk_at "mem") (by walk_at "lkp") ?_
        refine wc_append (by walk_at "up") (by rw [sizeLine_eq, List.length_map]; walk_at "om") ?_
        have nxt := ih (dn ++ [e.1]) (setLoc (setLoc (setLoc loc' (Str.ofString "uri") (.str e.1)) (Str.ofString "name") (.str e.2.1)) (Str.ofString "text") (.str e.2.2)) (by simp; walk_at "om") (fun loc'' => by
          have := hq loc''
          rw [List.filter_cons, if_pos b, List.map_cons, List.append_cons] at this
          exact this)
        rw [List.map_append] at nxt
        exact nxt
      · have b : (e.1 != u0) = false := b
        exact ih dn _ (by walk_at "om") (fun loc'' => by
          have := hq loc''
          rw [List.filter_cons, if_neg (by rw [b]; decide)] at this
          exact this)
  · intro loc'
    refine ⟨_, _, .head, ?_⟩
    have hfl : ((as.filter fun e => e.1 != u0).map (·.1)).length ≤ 30 := by
      rw [List.length_map]
      exact Nat.le_trans (List.length_filter_le _ _) hz
    refine wb_catl lv_fz (lv_own (by walk_at "mem")) (by rw [sizeLine_eq, List.nil_append, List.length_map]; simp only [List.length_singleton]; walk_at "om") ?_
    refine ⟨_, it_lst, ?_⟩
    rw [List.nil_append, show [V.str uri] ++ List.map V.str ((as.filter fun e => e.1 != u0).map (·.1)) = (urisOf uri as).map V.str from rfl]
    have hus : ∀ u ∈ urisOf uri as, u ∈ URIS := fun u hu' => by
      rcases List.mem_cons.mp hu' with rfl | hu'
      · exact huri
      · obtain ⟨e, he, rfl⟩ := List.mem_map.mp hu'
        exact (hu e (List.mem_filter.mp he).1).1
    have hul : (urisOf uri as).length ≤ 31 := by unfold urisOf; rw [List.length_cons]; walk_at "om"
    have z1 : ((shown, []) : SN).2.length + (urisOf uri as).length ≤ 60 := by show 0 + _ ≤ 60; walk_at "om"
    have z2 : ((shown, []) : SN).1.length + (urisOf uri as).length ≤ 600 := by show shown.length + _ ≤ 600; walk_at "om"
    obtain ⟨us, hus0⟩ : ∃ us, us = urisOf uri as := ⟨_, rfl⟩
    have hsn : ∀ sn', sn' = us.foldl snStep (shown, []) → sn' = snOf shown (urisOf uri as) := fun _ e => by rw [e, hus0]; rfl
    rw [← hus0] at z1 z2 hus hul ⊢
    clear hus0
    refine (?_ : ∀ (us : List Str) (sn : SN) (loc : List (Str × V)), (∀ u ∈ us, u ∈ URIS) → sn.2.length + us.length ≤ 60 → sn.1.length + us.length ≤ 600 → (∀ e ∈ sn.2, e.1.length ≤ 10 ∧ e.2.length ≤ 100) → LocOk k dv dc OP SC WR back due loc → loc.lookup (Str.ofString "attrs") = some (.lst (as.map V3)) → loc.lookup (Str.ofString "prefixes") = some (.dct (strD PFX)) → loc.lookup (Str.ofString "tag") = some (VL [uri, name]) → loc.lookup (Str.ofString "new") = some (.ref NWa) → loc.lookup (Str.ofString "shown") = some (.ref SH) →
        (∀ (sn' : SN) (loc : List (Str × V)), sn' = us.foldl snStep sn → sn'.2.length ≤ 60 → (∀ e ∈ sn'.2, e.1.length ≤ 10 ∧ e.2.length ≤ 100) → LocOk k dv dc OP SC WR back due loc → loc.lookup (Str.ofString "attrs") = some (.lst (as.map V3)) → loc.lookup (Str.ofString "prefixes") = some (.dct (strD PFX)) → loc.lookup (Str.ofString "tag") = some (VL [uri, name]) → loc.lookup (Str.ofString "new") = some (.ref NWa) → loc.lookup (Str.ofString "shown") = some (.ref SH) → ?QC .next ((acc, ?av) :: (NWa, .list (sn'.2.map V2)) :: (SH, .dict (strD sn'.1)) :: (L, .frame loc) :: (dv, .dict (strD VAL)) :: (dc, .dict (strD CON)) :: (OP, .list (op.map V2)) :: (SC, .list (dctsV sc)) :: (WR, .list (dctsV wr)) :: wled k s rest)) →
        WLoop C _ _ _ _ (us.map V.str) ((acc, ?av) :: (NWa, .list (sn.2.map V2)) :: (SH, .dict (strD sn.1)) :: (L, .frame loc) :: (dv, .dict (strD VAL)) :: (dc, .dict (strD CON)) :: (OP, .list (op.map V2)) :: (SC, .list (dctsV sc)) :: (WR, .list (dctsV wr)) :: wled k s rest) ?QC) us (shown, []) loc hus z1 z2 (fun e he => by cases he) lo' la lp lt ln ls ?_
    · intro us
      induction us with
      | nil => intro sn loc _ h1 _ h2 lo la lp lt ln ls hq; exact wl_nil (hq sn loc rfl (by simpa using h1) h2 lo la lp lt ln ls)
      | cons u us ih =>
        intro sn loc hus h1 h2 h3 lo la lp lt ln ls hq
        have hu1 := hus u List.mem_cons_self
        have hp := pfx_look _ hu1
        have hpl := pfx_len u hu1
        have hul := uri_len u hu1
        simp only [List.length_cons] at h1 h2
        have lo3 : LocOk k dv dc OP SC WR back due (setLoc loc (Str.ofString "uri") (.str u)) := lo.set (by decide +kernel)
        have est : snStep sn u = if (look sn.1 (pfx u) u0 != u) = true then (stS sn.1 (pfx u) u, sn.2 ++ [(pfx u, u)]) else sn := rfl
        generalize hst : snStep sn u = sn1 at est
        have hfold : (u :: us).foldl snStep sn = us.foldl snStep sn1 := by rw [List.foldl_cons, hst]
        rw [hfold] at hq
        refine wl_cons (wa_name (wn_local (by walk_at "up") (ws_cons' (wx_if ?_))))
        refine wt_cmp ?_; refine we_mcall ?_; refine we_local (by walk_at "mem") (by walk_at "lkp") ?_; refine wm_dget (dv_own (by walk_at "mem")) ?_; refine wa_cons ?_
        refine we_dsub ?_
        refine we_local (by walk_at "mem") (by walk_at "lkp") ?_; refine we_local (by walk_at "mem") (by walk_at "lkp") ?_
        refine ⟨_, _, _, dv_fz, rfl, hp, ?_⟩
        refine wa_cons ?_; refine we_str ?_; refine wa_nil ?_; refine wall_nil ?_
        refine ⟨kept_builtin, wc_getS (dv_own (by walk_at "mem")) ?_⟩
        refine we_local (by walk_at "mem") (by walk_at "lkp") ?_; refine wc_ne_str ?_; refine tr_bool ?_
        refine ift_both (fun b => ?_) (fun b => ?_)
        · have b : (look sn.1 (pfx u) u0 != u) = true := b
          rw [if_pos b] at est
          refine ws_cons' (wx_assub ?_)
          refine we_local (by walk_at "mem") (by walk_at "lkp") ?_; refine we_local (by walk_at "mem") (by walk_at "lkp") ?_
          refine we_dsub ?_
          refine we_local (by walk_at "mem") (by walk_at "lkp") ?_; refine we_local (by walk_at "mem") (by walk_at "lkp") ?_
          refine ⟨_, _, _, dv_fz, rfl, hp, ?_⟩
          refine si_dict' (es := strD sn.1) (es' := strD (stS sn.1 (pfx u) u)) (by rw [sizeLine_eq, List.length_map]; walk_at "om") (strD_st _ _ _) (.tail (.tail .head)) ?_
          refine nx_next ?_; refine ws_cons' ?_; refine wx_expr ?_; refine we_mcall ?_; refine we_local (by walk_at "mem") (by walk_at "lkp") ?_; refine wm_lappend (lv_own (by walk_at "mem")) ?_; refine wa_cons ?_
          refine we_listF (wa_cons (we_dsub ?_))
          refine we_local (by walk_at "mem") (by walk_at "lkp") ?_; refine we_local (by walk_at "mem") (by walk_at "lkp") ?_
          refine ⟨_, _, _, dv_fz, rfl, hp, ?_⟩
          refine wa_cons ?_; refine we_local (by walk_at "mem") (by walk_at "lkp") ?_; refine wa_nil ?_
          refine ⟨by rw [sizeLine_eq]; simp, ?_⟩
          refine wa_nil ?_; refine wall_nil ?_
          refine ⟨kept_builtin, wc_append (by walk_at "up") (by rw [sizeLine_eq, List.length_map]; walk_at "om") ?_⟩
          refine nx_next ?_; refine ws_nil ?_; refine nx_next ?_; refine ws_nil ?_; refine lk_next ?_
          have hl := stS_length sn.1 (pfx u) u
          have nxt := ih sn1 (setLoc loc (Str.ofString "uri") (.str u)) (fun u' hu' => hus u' (.tail _ hu')) (by rw [est]; simp; walk_at "om") (by rw [est]; dsimp only; walk_at "om") (by
            rw [est]
            intro e he
            rcases List.mem_append.mp he with he | he
            · exact h3 e he
            · simp at he; subst he; dsimp only; walk_at "om") lo3 (by walk_at "lkp") (by walk_at "lkp") (by walk_at "lkp") (by walk_at "lkp") (by walk_at "lkp") hq
          rw [est] at nxt
          dsimp only at nxt
          rw [List.map_append] at nxt
          exact nxt
        · have b : (look sn.1 (pfx u) u0 != u) = false := b
          rw [if_neg (by rw [b]; decide)] at est
          refine ws_nil (nx_next (ws_nil (lk_next ?_)))
          have nxt := ih sn1 (setLoc loc (Str.ofString "uri") (.str u)) (fun u' hu' => hus u' (.tail _ hu')) (by rw [est]; walk_at "om") (by rw [est]; walk_at "om") (by rw [est]; exact h3) lo3 (by walk_at "lkp") (by walk_at "lkp") (by walk_at "lkp") (by walk_at "lkp") (by walk_at "lkp") hq
          rw [est] at nxt
          exact nxt
    · intro sn' loc e h1 h2 lo la lp lt ln ls
      exact nx_next (fin sn' loc [_] (hsn sn' e) h1 h2 lo la lp lt ln ls)
end
section
theorem mkD_strs : ∀ (b a : List (Str × Str)), mkD (strD a) (strD b) = strD (b.foldl (fun a e => stS a e.1 e.2) a)
  | [], a => rfl
  | (x, y) :: b, a => by
    show mkD (stE (strD a) x (.str y)) (strD b) = _
    rw [strD_st, mkD_strs b]
    rfl
noncomputable def mergeS (a b : List (Str × Str)) : List (Str × Str) := b.foldl (fun a e => stS a e.1 e.2) a
theorem merge_length : ∀ (b a : List (Str × Str)), (mergeS a b).length ≤ a.length + b.length
  | [], a => by simp [mergeS]
  | e :: b, a => by
    have := merge_length b (stS a e.1 e.2)
    have := stS_length a e.1 e.2
    show (mergeS (stS a e.1 e.2) b).length ≤ _
    rw [List.length_cons]; walk_at "om"
theorem partS4 {k : KA} {s : St} {L dv dc OP SC WR : Addr} {loc : List (Str × V)} {op : List (Str × Str)} {sc wr : List (List (Str × Str))} {as : List (Str × Str × Str)} {w : List (Str × Str)} {uri name : Str} {rest : Led} {back : Bool} {due : Str} {Q : F → Led → Prop} (G : Gr C) (lo : LocOk k dv dc OP SC WR back due loc)
    (hd : due.length ≤ 700000) (huri : uri ∈ URIS) (hname : name.length ≤ 10) (la : loc.lookup (Str.ofString "attrs") = some (.lst (as.map V3))) (lp : loc.lookup (Str.ofString "prefixes") = some (.dct (strD PFX))) (hz : as.length ≤ 30) (hu : ∀ e ∈ as, e.1 ∈ URIS ∧ e.2.1.length ≤ 10 ∧ e.2.2.length ≤ 10 ∧ (refT VAL e.2.2).length ≤ 100)
    (hop : op.length ≤ 900) (hwr : wr.length ≤ 800) (lt : loc.lookup (Str.ofString "tag") = some (VL [uri, name])) (hw1 : w.length ≤ 500) (hw2 : (w.map (·.1)).Nodup)
    (h : ∀ z loc', LocOk k dv dc OP SC WR back (dueS due (tagT uri name) (snOf w (urisOf uri as)).2 as) loc' → Q .next (z :: lled k s L dv dc OP SC WR loc' (op ++ [(tagT uri name, keyOf uri name)]) sc (wr ++ [w] ++ [(snOf w (urisOf uri as)).1]) rest)) :
    WS C (n + 1) NoX (lwEnv C L) ((lwStart C.w.params).drop 4) (lled k s L dv dc OP SC WR loc op sc (wr ++ [w]) rest) Q := by
  have fin : ∀ (SH NWa : Addr) (loc : List (Str × V)), LocOk k dv dc OP SC WR back due loc → loc.lookup (Str.ofString "attrs") = some (.lst (as.map V3)) → loc.lookup (Str.ofString "prefixes") = some (.dct (strD PFX)) → loc.lookup (Str.ofString "tag") = some (VL [uri, name]) → loc.lookup (Str.ofString "new") = some (.ref NWa) → loc.lookup (Str.ofString "shown") = some (.ref SH) →
      WS C (n + 1) NoX (lwEnv C L) ((lwStart C.w.params).drop 6) ((NWa, .list []) :: (SH, .dict (strD w)) :: lled k s L dv dc OP SC WR loc op sc (wr ++ [w]) rest) Q := fun SH NWa loc lo la lp lt ln ls => partS6 G lo hd huri hname la lp hz hu hop (by simp; walk_at "om") lt ln ls hw1 (h _)
  have lo' := lo
  obtain ⟨o1, o2, o3, o4, o5, o6, o7, o8, o9⟩ := lo
  dsimp only [lwEnv, fenv, lwFd, lwStart, List.drop] at fin ⊢
  unfold lled at fin ⊢
  refine ws_cons' (wx_assign (we_star1 fun SH => we_last ?_))
  refine we_local (by walk_at "mem") (by walk_at "lkp") ?_
  refine ⟨_, dctsV wr, .dct (strD w), lv_own (by walk_at "mem"), by unfold dctsV; rw [List.map_append]; rfl, strD w, _, dv_fz, (fun e => by cases e), by rw [sizeLine_eq, List.length_map]; walk_at "om", Up.cast (mkD_str w hw2) .head, ?_⟩
  refine wn_local (by walk_at "up") (nx_next (ws_cons' (wx_assign (we_list (wa_nil ⟨by rw [sizeLine_eq]; simp, fun NWa => ?_⟩)))))
  refine wn_local (by walk_at "up") (nx_next ?_)
  exact fin SH NWa _ ((lo'.set (by decide +kernel)).set (by decide +kernel)) (by walk_at "lkp") (by walk_at "lkp") (by walk_at "lkp") (by walk_at "lkp") (by walk_at "lkp")
theorem partS3 {k : KA} {s : St} {L dv dc OP SC WR : Addr} {loc : List (Str × V)} {op : List (Str × Str)} {sc wr : List (List (Str × Str))} {as : List (Str × Str × Str)} {w : List (Str × Str)} {uri name : Str} {rest : Led} {back : Bool} {due : Str} {Q : F → Led → Prop} (G : Gr C) (lo : LocOk k dv dc OP SC WR back due loc) {told d : List (Str × Str)}
    (hd : due.length ≤ 700000) (huri : uri ∈ URIS) (hname : name.length ≤ 10) (la : loc.lookup (Str.ofString "attrs") = some (.lst (as.map V3))) (lp : loc.lookup (Str.ofString "prefixes") = some (.dct (strD PFX))) (hz : as.length ≤ 30) (hu : ∀ e ∈ as, e.1 ∈ URIS ∧ e.2.1.length ≤ 10 ∧ e.2.2.length ≤ 10 ∧ (refT VAL e.2.2).length ≤ 100)
    (hop : op.length ≤ 900) (hwr : wr.length ≤ 800) (lt : loc.lookup (Str.ofString "tag") = some (VL [uri, name])) (hw1 : w.length ≤ 500) (hw2 : (w.map (·.1)).Nodup)
    (hsc : sc.length ≤ 800) (hd1 : d.length ≤ 400) (hd2 : (d.map (·.1)).Nodup) (htd : told.length ≤ 60) (ltd : loc.lookup (Str.ofString "told") = some (.lst (told.map V2)))
    (h : ∀ z loc', LocOk k dv dc OP SC WR back (dueS due (tagT uri name) (snOf w (urisOf uri as)).2 as) loc' → Q .next (z :: lled k s L dv dc OP SC WR loc' (op ++ [(tagT uri name, keyOf uri name)]) (sc ++ [d] ++ [mergeS d (mergeS [] told)]) (wr ++ [w] ++ [(snOf w (urisOf uri as)).1]) rest)) :
    WS C (n + 1) NoX (lwEnv C L) ((lwStart C.w.params).drop 3) (lled k s L dv dc OP SC WR loc op (sc ++ [d]) (wr ++ [w]) rest) Q := by
  have fin : WS C (n + 1) NoX (lwEnv C L) ((lwStart C.w.params).drop 4) (lled k s L dv dc OP SC WR loc op (sc ++ [d] ++ [mergeS d (mergeS [] told)]) (wr ++ [w]) rest) Q := partS4 G lo hd huri hname la lp hz hu hop hwr lt hw1 hw2 h
  obtain ⟨o1, o2, o3, o4, o5, o6, o7, o8, o9⟩ := lo
  dsimp only [lwEnv, fenv, lwFd, lwStart, List.drop] at fin ⊢
  unfold lled at fin ⊢
  refine ws_cons' (wx_expr (we_mcall (we_local (by walk_at "mem") (by walk_at "lkp") (wm_lappend (lv_own (by walk_at "mem")) (wa_cons (W.convV (we_star2 fun DD => we_last ?_)))))))
  refine we_local (by walk_at "mem") (by walk_at "lkp") ?_
  refine ⟨_, dctsV sc, .dct (strD d), lv_own (by walk_at "mem"), by unfold dctsV; rw [List.map_append]; rfl, strD d, _, dv_fz, (fun e => by cases e), by rw [sizeLine_eq, List.length_map]; walk_at "om", by exact .head, ?_⟩
  refine W.convV (we_dcomp (cl := []) ?_)
  refine we_local (by walk_at "mem") (by walk_at "lkp") ?_
  refine ⟨_, _, it_lst.o, trivial, fun acc L' => wcells_id rfl ?_⟩
  refine (?_ : ∀ (es dn : List (Str × Str)) (loc' : List (Str × V)), dn.length + es.length ≤ 60 → (∀ loc', ?QD ((L', .frame loc') :: (acc, .dict (strD (mergeS dn es))) :: (DD, .dict (mkD [] (strD d))) :: ?RD)) →
      WGenO C _ _ _ _ _ noLean (es.map V2) ((L', .frame loc') :: (acc, .dict (strD dn)) :: (DD, .dict (mkD [] (strD d))) :: ?RD) ?QD) told [] [] (by simpa using htd) ?_
  · intro es
    induction es with
    | nil => intro dn loc' _ hq; exact wg_nil trivial (hq loc')
    | cons e es ih =>
      intro dn loc' hl hq
      simp only [List.length_cons] at hl
      have := stS_length dn e.1 e.2
      refine wg_cons0 trivial (wa_tup2 (unp_list (vs := [.str e.1, .str e.2]) lv_fz) ?_)
      refine wn_local (by walk_at "up") (wn_local (by walk_at "up") ?_)
      refine we_local (by walk_at "mem") (by walk_at "lkp") ?_; refine we_local (by walk_at "mem") (by walk_at "lkp") ?_
      refine ⟨_, strD dn, _, rfl, Up.cast (strD_st _ _ _) (.tail .head), by rw [sizeLine_eq, List.length_map]; walk_at "om", ?_⟩
      exact ih (stS dn e.1 e.2) _ (by walk_at "om") hq
  · intro loc'
    have hml := merge_length told []
    have em : mkD (mkD [] (strD d)) (strD (mergeS [] told)) = strD (mergeS d (mergeS [] told)) := by rw [mkD_str d hd2, mkD_strs]; rfl
    refine ⟨_, _, .head, .dct (strD (mergeS [] told)), _, frzD .head, strD (mergeS [] told), _, dv_fz, (fun e => by cases e), ?_, Up.cast em .head, .dct (strD (mergeS d (mergeS [] told))), _, frzD .head, ?_⟩
    · rw [mkD_str d hd2, sizeLine_eq, List.length_map, List.length_map]
      simp at hml; walk_at "om"
    refine wa_nil ?_; refine wall_nil ?_
    unfold dctsV at fin ⊢
    rw [List.map_append] at fin
    refine ⟨kept_builtin, wc_append (by walk_at "up") (by rw [sizeLine_eq, List.length_map]; simp; walk_at "om") (nx_next ?_)⟩
    exact fin
end
section
theorem wa_tup4 {x y z u : Str} {p1 p2 p3 p4 p : Pos} {k : Nat} {v v1 v2 v3 v4 : V} {Q : Unit → Led → Prop} (hv : UnpV C led v [v1, v2, v3, v4]) (h : W1 C n X RU (assign (.Name x p1) env) v1 led fun _ led1 => W1 C n X RU (assign (.Name y p2) env) v2 led1 fun _ led2 => W1 C n X RU (assign (.Name z p3) env) v3 led2 fun _ led3 => W1 C n X RU (assign (.Name u p4) env) v4 led3 Q) : W1 C n X RU (assign (.Tuple [.Name x p1, .Name y p2, .Name z p3, .Name u p4] k p) env) v led Q :=
  wa_tup hv rfl h
noncomputable def katt (e : Str × Str × Str) : Str × Str := (keyOf e.1 e.2.1, e.2.2)
theorem partS2 {k : KA} {s : St} {L dv dc OP SC WR : Addr} {loc : List (Str × V)} {op : List (Str × Str)} {sc wr : List (List (Str × Str))} {as : List (Str × Str × Str)} {w told d : List (Str × Str)} {uri name : Str} {rest : Led} {back : Bool} {due : Str} {Q : F → Led → Prop} (G : Gr C) (lo : LocOk k dv dc OP SC WR back due loc)
    (hd : due.length ≤ 700000) (huri : uri ∈ URIS) (hname : name.length ≤ 10) (la : loc.lookup (Str.ofString "attrs") = some (.lst (as.map V3))) (lp : loc.lookup (Str.ofString "prefixes") = some (.dct (strD PFX))) (hz : as.length ≤ 30) (hu : ∀ e ∈ as, e.1 ∈ URIS ∧ e.2.1.length ≤ 10 ∧ e.2.2.length ≤ 10 ∧ (refT VAL e.2.2).length ≤ 100)
    (hop : op.length ≤ 900) (hwr : wr.length ≤ 800) (lt : loc.lookup (Str.ofString "tag") = some (VL [uri, name])) (hw1 : w.length ≤ 500) (hw2 : (w.map (·.1)).Nodup)
    (hsc : sc.length ≤ 800) (hd1 : d.length ≤ 400) (hd2 : (d.map (·.1)).Nodup) (htd : told.length ≤ 60) (ltd : loc.lookup (Str.ofString "told") = some (.lst (told.map V2))) {R : St → Prop}
    (hw : ∀ {rest : Led} {Q' : V → Led → Prop}, (∀ s', R s' → Q' .none (wled k s' rest)) → WK C (n + 1) NoX (.ref 120) [.ref k.x, .str (keyOf uri name), .dct (strD (mergeS [] (as.map katt)))] [] (wled k s rest) Q')
    (h : ∀ s', R s' → ∀ z loc', LocOk k dv dc OP SC WR back (dueS due (tagT uri name) (snOf w (urisOf uri as)).2 as) loc' → Q .next (z :: lled k s' L dv dc OP SC WR loc' (op ++ [(tagT uri name, keyOf uri name)]) (sc ++ [d] ++ [mergeS d (mergeS [] told)]) (wr ++ [w] ++ [(snOf w (urisOf uri as)).1]) rest)) :
    WS C (n + 1) NoX (lwEnv C L) ((lwStart C.w.params).drop 2) (lled k s L dv dc OP SC WR loc op (sc ++ [d]) (wr ++ [w]) rest) Q := by
  have hul := uri_len uri huri
  have fin : ∀ s', R s' → WS C (n + 1) NoX (lwEnv C L) ((lwStart C.w.params).drop 3) (lled k s' L dv dc OP SC WR loc op (sc ++ [d]) (wr ++ [w]) rest) Q := fun s' hs' => partS3 G lo hd huri hname la lp hz hu hop hwr lt hw1 hw2 hsc hd1 hd2 htd ltd (h s' hs')
  obtain ⟨o1, o2, o3, o4, o5, o6, o7, o8, o9⟩ := lo
  dsimp only [lwEnv, fenv, lwFd, lwStart, List.drop] at fin ⊢
  unfold lled at fin ⊢
  refine ws_cons' (wx_expr (we_mcall ?_))
  refine we_local (by walk_at "mem") (by walk_at "lkp") ?_; refine wm_inst (cls1 (by assumption)) ⟨_, by walk_at "mem", by walk_at "mem"⟩ (by rfl) (by rfl) (by rfl) ?_; refine wa_cons ?_; refine we_call ?_; refine we_glob (glob1 (by assumption) (by rfl)) ?_; refine wa_cons ?_
  refine we_lsub ?_
  refine we_local (by walk_at "mem") (by walk_at "lkp") ?_
  refine ⟨_, .str uri, lv_fz, rfl, ?_⟩
  refine wa_cons (we_lsub ?_)
  refine we_local (by walk_at "mem") (by walk_at "lkp") ?_
  refine ⟨_, .str name, lv_fz, rfl, ?_⟩
  refine wa_nil ?_; refine wall_nil ?_
  refine ⟨kept_base (G.inn 180 _ rfl) rfl, (law_key G (by walk_at "om") ?_).wc⟩
  refine wa_cons (W.convV (we_dcomp (cl := []) ?_))
  refine we_local (by walk_at "mem") (by walk_at "lkp") ?_
  refine ⟨_, _, it_lst.o, trivial, fun acc L' => wcells_id rfl ?_⟩
  refine (?_ : ∀ (es : List (Str × Str × Str)) (dn : List (Str × Str)) (loc' : List (Str × V)), (∀ e ∈ es, e ∈ as) → dn.length + es.length ≤ 60 → (∀ loc', ?QE ((L', .frame loc') :: (acc, .dict (strD (mergeS dn (es.map katt)))) :: ?RE)) →
      WGenO C _ _ _ _ _ noLean (es.map V3) ((L', .frame loc') :: (acc, .dict (strD dn)) :: ?RE) ?QE) as [] [] (fun e he => he) (by simp; walk_at "om") ?_
  · intro es
    induction es with
    | nil => intro dn loc' _ _ hq; exact wg_nil trivial (hq loc')
    | cons e es ih =>
      intro dn loc' hin hl hq
      simp only [List.length_cons] at hl
      obtain ⟨v1, v2, v3, v4⟩ := hu e (hin e List.mem_cons_self)
      have hel := uri_len e.1 v1
      have := stS_length dn (katt e).1 (katt e).2
      refine wg_cons0 trivial (wa_tup3 (unp_list (vs := [.str e.1, .str e.2.1, .str e.2.2]) lv_fz) ?_)
      refine wa_name (wn_local (by walk_at "up") (wa_name (wn_local (by walk_at "up") (wa_name (wn_local (by walk_at "up") ?_)))))
      refine we_call ?_; refine we_glob (glob1 (by assumption) (by rfl)) ?_; refine wa_cons ?_; refine we_local (by walk_at "mem") (by walk_at "lkp") ?_; refine wa_cons ?_; refine we_local (by walk_at "mem") (by walk_at "lkp") ?_; refine wa_nil ?_; refine wall_nil ?_
      refine ⟨kept_base (G.inn 180 _ rfl) rfl, (law_key G (by walk_at "om") ?_).wc⟩
      refine we_local (by walk_at "mem") (by walk_at "lkp") ?_
      refine ⟨_, strD dn, _, rfl, Up.cast (strD_st _ _ _) (.tail .head), by rw [sizeLine_eq, List.length_map]; walk_at "om", ?_⟩
      exact ih (stS dn (katt e).1 (katt e).2) _ (fun e' he' => hin e' (.tail _ he')) (by walk_at "om") hq
  · intro loc'
    refine ⟨_, _, .head, .dct (strD (mergeS [] (as.map katt))), _, frzD .head, ?_⟩
    refine wa_nil ?_; refine wall_nil ?_
    refine ⟨kept_base (G.inn 120 _ rfl) rfl, WK.wc (WK.pre [_, _, _, _, _, _] (hw fun s' hs' => preQ ?_))⟩
    refine nx_next ?_
    exact fin s' hs'
theorem partS1 {k : KA} {s : St} {L dv dc OP SC WR : Addr} {loc : List (Str × V)} {op : List (Str × Str)} {sc wr : List (List (Str × Str))} {as : List (Str × Str × Str)} {w told d : List (Str × Str)} {uri name : Str} {rest : Led} {back : Bool} {due : Str} {Q : F → Led → Prop} (G : Gr C) (lo : LocOk k dv dc OP SC WR back due loc)
    (hd : due.length ≤ 700000) (huri : uri ∈ URIS) (hname : name.length ≤ 10) (la : loc.lookup (Str.ofString "attrs") = some (.lst (as.map V3))) (lp : loc.lookup (Str.ofString "prefixes") = some (.dct (strD PFX))) (hz : as.length ≤ 30) (hu : ∀ e ∈ as, e.1 ∈ URIS ∧ e.2.1.length ≤ 10 ∧ e.2.2.length ≤ 10 ∧ (refT VAL e.2.2).length ≤ 100)
    (hop : op.length ≤ 900) (hwr : wr.length ≤ 800) (lt : loc.lookup (Str.ofString "tag") = some (VL [uri, name])) (hw1 : w.length ≤ 500) (hw2 : (w.map (·.1)).Nodup)
    (hsc : sc.length ≤ 800) (hd1 : d.length ≤ 400) (hd2 : (d.map (·.1)).Nodup) (htd : told.length ≤ 60) (ltd : loc.lookup (Str.ofString "told") = some (.lst (told.map V2))) {R : St → Prop} {I : List (Str × Str) → St → Prop} {T : St → Str × Str → St} (hI : I told s)
    (hns : ∀ s e r, I (e :: r) s → I r (T s e) ∧ ∀ {rest : Led} {Q' : V → Led → Prop}, Q' .none (wled k (T s e) rest) → WK C (n + 1) NoX (.ref 113) [.ref k.x, .str e.1, .str e.2] [] (wled k s rest) Q')
    (hw : ∀ {rest : Led} {Q' : V → Led → Prop}, (∀ s', R s' → Q' .none (wled k s' rest)) → WK C (n + 1) NoX (.ref 120) [.ref k.x, .str (keyOf uri name), .dct (strD (mergeS [] (as.map katt)))] [] (wled k (told.foldl T s) rest) Q')
    (h : ∀ s', R s' → ∀ z loc', LocOk k dv dc OP SC WR back (dueS due (tagT uri name) (snOf w (urisOf uri as)).2 as) loc' → Q .next (z :: lled k s' L dv dc OP SC WR loc' (op ++ [(tagT uri name, keyOf uri name)]) (sc ++ [d] ++ [mergeS d (mergeS [] told)]) (wr ++ [w] ++ [(snOf w (urisOf uri as)).1]) rest)) :
    WS C (n + 1) NoX (lwEnv C L) ((lwStart C.w.params).drop 1) (lled k s L dv dc OP SC WR loc op (sc ++ [d]) (wr ++ [w]) rest) Q := by
  have fin : ∀ (s1 : St) (loc : List (Str × V)), s1 = told.foldl T s → LocOk k dv dc OP SC WR back due loc → loc.lookup (Str.ofString "attrs") = some (.lst (as.map V3)) → loc.lookup (Str.ofString "prefixes") = some (.dct (strD PFX)) → loc.lookup (Str.ofString "tag") = some (VL [uri, name]) → loc.lookup (Str.ofString "told") = some (.lst (told.map V2)) →
      WS C (n + 1) NoX (lwEnv C L) ((lwStart C.w.params).drop 2) (lled k s1 L dv dc OP SC WR loc op (sc ++ [d]) (wr ++ [w]) rest) Q := fun s1 loc e lo la lp lt ltd => by subst e; exact partS2 G lo hd huri hname la lp hz hu hop hwr lt hw1 hw2 hsc hd1 hd2 htd ltd hw h
  have lo' := lo
  dsimp only [lwEnv, fenv, lwFd, lwStart, List.drop] at fin ⊢
  unfold lled at fin ⊢
  refine ws_cons' (wx_for ?_)
  refine we_local (by walk_at "mem") (by walk_at "lkp") ?_
  refine ⟨_, it_lst, ?_⟩
  refine (?_ : ∀ (es : List (Str × Str)) (s : St) (loc : List (Str × V)), I es s → LocOk k dv dc OP SC WR back due loc → loc.lookup (Str.ofString "attrs") = some (.lst (as.map V3)) → loc.lookup (Str.ofString "prefixes") = some (.dct (strD PFX)) → loc.lookup (Str.ofString "tag") = some (VL [uri, name]) → loc.lookup (Str.ofString "told") = some (.lst (told.map V2)) →
      (∀ loc : List (Str × V), LocOk k dv dc OP SC WR back due loc → loc.lookup (Str.ofString "attrs") = some (.lst (as.map V3)) → loc.lookup (Str.ofString "prefixes") = some (.dct (strD PFX)) → loc.lookup (Str.ofString "tag") = some (VL [uri, name]) → loc.lookup (Str.ofString "told") = some (.lst (told.map V2)) →
        ?QF .next ((L, .frame loc) :: (dv, .dict (strD VAL)) :: (dc, .dict (strD CON)) :: (OP, .list (op.map V2)) :: (SC, .list (dctsV (sc ++ [d]))) :: (WR, .list (dctsV (wr ++ [w]))) :: wled k (es.foldl T s) rest)) →
      WLoop C _ _ _ _ (es.map V2) ((L, .frame loc) :: (dv, .dict (strD VAL)) :: (dc, .dict (strD CON)) :: (OP, .list (op.map V2)) :: (SC, .list (dctsV (sc ++ [d]))) :: (WR, .list (dctsV (wr ++ [w]))) :: wled k s rest) ?QF) told s loc hI lo' la lp lt ltd ?_
  · intro es
    induction es with
    | nil => intro s loc _ lo la lp lt ltd hq; exact wl_nil (hq loc lo la lp lt ltd)
    | cons e es ih =>
      intro s loc hI lo la lp lt ltd hq
      obtain ⟨i1, i2⟩ := hns s e es hI
      have lo3 : LocOk k dv dc OP SC WR back due (setLoc (setLoc loc (Str.ofString "prefix") (.str e.1)) (Str.ofString "uri") (.str e.2)) := (lo.set (by decide +kernel)).set (by decide +kernel)
      have lw := lo.writer
      refine wl_cons (wa_tup2 (unp_list (vs := [.str e.1, .str e.2]) lv_fz) ?_)
      refine wn_local (by walk_at "up") (wn_local (by walk_at "up") ?_)
      refine ws_cons' ?_; refine wx_expr ?_; refine we_mcall ?_; refine we_local (by walk_at "mem") (by walk_at "lkp") ?_; refine wm_inst (cls1 (by assumption)) ⟨_, by walk_at "mem", by walk_at "mem"⟩ (by rfl) (by rfl) (by rfl) ?_; refine wa_cons ?_; refine we_local (by walk_at "mem") (by walk_at "lkp") ?_; refine wa_cons ?_; refine we_local (by walk_at "mem") (by walk_at "lkp") ?_; refine wa_nil ?_; refine wall_nil ?_
      refine ⟨kept_base (G.inn 113 _ rfl) rfl, WK.wc (WK.pre [_, _, _, _, _, _] (i2 (preQ ?_)))⟩
      refine nx_next (ws_nil (lk_next ?_))
      exact ih (T s e) _ i1 lo3 (by walk_at "lkp") (by walk_at "lkp") (by walk_at "lkp") (by walk_at "lkp") hq
  · intro loc lo la lp lt ltd
    exact nx_next (fin _ loc rfl lo la lp lt ltd)
end
section
theorem wx_tup4 {x y z u : Str} {p1 p2 p3 p4 p5 p : Pos} {k : Nat} {value : Expr} {Q : F → Led → Prop} (h : WE C n X env value led fun v led1 => ∃ v1 v2 v3 v4, UnpV C led1 v [v1, v2, v3, v4] ∧ W1 C n X RU (assign (.Name x p1) env) v1 led1 fun _ led2 => W1 C n X RU (assign (.Name y p2) env) v2 led2 fun _ led3 => W1 C n X RU (assign (.Name z p3) env) v3 led3 fun _ led4 => W1 C n X RU (assign (.Name u p4) env) v4 led4 fun _ led5 => Q .next led5)
    (hs : swapsWithSole [.Tuple [.Name x p1, .Name y p2, .Name z p3, .Name u p4] k p5] value p.line env = pure false := by kernel_rfl) (hw : swappedStores [.Tuple [.Name x p1, .Name y p2, .Name z p3, .Name u p4] k p5] value env = pure none := by kernel_rfl) : WX C n X env (.Assign [.Tuple [.Name x p1, .Name y p2, .Name z p3, .Name u p4] k p5] value p) led Q :=
  wx_assigns (W.mono h fun v l ⟨v1, v2, v3, v4, h1, h2⟩ => show W1 C n X RU (assign (.Tuple [.Name x p1, .Name y p2, .Name z p3, .Name u p4] k p5) env) v l fun _ led2 => Q .next led2 from wa_tup4 h1 h2) hs hw
theorem wx_swap2 {x y : Str} {elts : List Expr} {k : Nat} {tp : Pos} {value : Expr} {p : Pos} {Q : F → Led → Prop} (hw : swappedStores [.Tuple elts k tp] value env = pure (some [x, y]))
    (h : WE C n X env value led fun v led1 => ∃ v1 v2, UnpV C led1 v [v1, v2] ∧ W1 C n X RU (storeName env y) v2 led1 fun _ led2 => W1 C n X RU (storeName env x) v1 led2 fun _ led3 => Q .next led3)
    (hs : swapsWithSole [.Tuple elts k tp] value p.line env = pure false := by kernel_rfl) : WX C n X env (.Assign [.Tuple elts k tp] value p) led Q :=
  wx_swap hw (W.mono h fun v l ⟨v1, v2, h1, h2⟩ => ⟨[v1, v2], h1, rfl, h2⟩) hs
theorem WS.thenNext {sts : List Stmt} {Q : F → Led → Prop} (h : WS C n X env sts led fun f l => f = .next ∧ Q .next l) : WS C n X env sts led Q := W.mono h fun f l ⟨a, b⟩ => by subst a; exact b
theorem partS0 {k : KA} {s : St} {L dv dc OP SC WR : Addr} {loc : List (Str × V)} {op : List (Str × Str)} {sc wr : List (List (Str × Str))} {w d : List (Str × Str)} {q : Int} {rest : Led} {back : Bool} {due : Str} {Q : F → Led → Prop} (G : Gr C) (lo : LocOk k dv dc OP SC WR back due loc) (hq : loc.lookup (Str.ofString "q") = some (.int q))
    (u : Uses) (hu0 : u = usesU q d back) (hd : due.length ≤ 700000) (huri : u.uri ∈ URIS) (hname : u.name.length ≤ 10) (hz : u.attrs.length ≤ 30) (hu : ∀ e ∈ u.attrs, e.1 ∈ URIS ∧ e.2.1.length ≤ 10 ∧ e.2.2.length ≤ 10 ∧ (refT VAL e.2.2).length ≤ 100)
    (hop : op.length ≤ 900) (hwr : wr.length ≤ 800) (hw1 : w.length ≤ 500) (hw2 : (w.map (·.1)).Nodup) (hsc : sc.length ≤ 800) (hd1 : d.length ≤ 400) (hd2 : (d.map (·.1)).Nodup) (htd : u.told.length ≤ 60)
    {R : St → Prop} {I : List (Str × Str) → St → Prop} {T : St → Str × Str → St} (hI : I u.told s)
    (hns : ∀ s e r, I (e :: r) s → I r (T s e) ∧ ∀ {rest : Led} {Q' : V → Led → Prop}, Q' .none (wled k (T s e) rest) → WK C (n + 1) NoX (.ref 113) [.ref k.x, .str e.1, .str e.2] [] (wled k s rest) Q')
    (hw : ∀ {rest : Led} {Q' : V → Led → Prop}, (∀ s', R s' → Q' .none (wled k s' rest)) → WK C (n + 1) NoX (.ref 120) [.ref k.x, .str (keyOf u.uri u.name), .dct (strD (mergeS [] (u.attrs.map katt)))] [] (wled k (u.told.foldl T s) rest) Q')
    (h : ∀ s', R s' → ∀ z loc', LocOk k dv dc OP SC WR back (dueS due (tagT u.uri u.name) (snOf w (urisOf u.uri u.attrs)).2 u.attrs) loc' → Q .next (z :: lled k s' L dv dc OP SC WR loc' (op ++ [(tagT u.uri u.name, keyOf u.uri u.name)]) (sc ++ [d] ++ [mergeS d (mergeS [] u.told)]) (wr ++ [w] ++ [(snOf w (urisOf u.uri u.attrs)).1]) rest)) :
    WS C (n + 1) NoX (lwEnv C L) (lwStart C.w.params) (lled k s L dv dc OP SC WR loc op (sc ++ [d]) (wr ++ [w]) rest) Q := by
  have fin : ∀ loc : List (Str × V), LocOk k dv dc OP SC WR back due loc → loc.lookup (Str.ofString "attrs") = some (.lst (u.attrs.map V3)) → loc.lookup (Str.ofString "prefixes") = some (.dct (strD PFX)) → loc.lookup (Str.ofString "tag") = some (VL [u.uri, u.name]) → loc.lookup (Str.ofString "told") = some (.lst (u.told.map V2)) →
      WS C (n + 1) NoX (lwEnv C L) ((lwStart C.w.params).drop 1) (lled k s L dv dc OP SC WR loc op (sc ++ [d]) (wr ++ [w]) rest) Q := fun loc lo la lp lt ltd => partS1 G lo hd huri hname la lp hz hu hop hwr lt hw1 hw2 hsc hd1 hd2 htd ltd hI hns hw h
  have lo' := lo
  obtain ⟨o1, o2, o3, o4, o5, o6, o7, o8, o9⟩ := lo
  dsimp only [lwEnv, fenv, lwFd, lwStart, List.drop] at fin ⊢
  unfold lled at fin ⊢
  refine ws_cons' (wx_tup4 ?_)
  refine we_call ?_; refine we_glob (glob1 (by assumption) (by rfl)) ?_; refine wa_cons ?_; refine we_local (by walk_at "mem") (by walk_at "lkp") ?_; refine wa_cons ?_; refine we_last ?_; refine we_local (by walk_at "mem") (by walk_at "lkp") ?_
  refine ⟨_, dctsV sc, .dct (strD d), lv_own (by walk_at "mem"), by unfold dctsV; rw [List.map_append]; rfl, ?_⟩
  refine wa_cons ?_; refine we_local (by walk_at "mem") (by walk_at "lkp") ?_; refine wa_nil ?_; refine wall_nil ?_
  refine ⟨kept_base (G.inn 173 _ rfl) rfl, (law_uses (D := 0) (scope := d) G (by walk_at "om") ?_).wc⟩
  rw [← hu0]
  refine ⟨_, _, _, _, unp_list (vs := [VL [u.uri, u.name], .lst (u.attrs.map V3), .lst (u.told.map V2), .dct (strD PFX)]) lv_fz, wa_name (wn_local (by walk_at "up") (wa_name (wn_local (by walk_at "up") (wa_name (wn_local (by walk_at "up") (wa_name (wn_local (by walk_at "up") ?_)))))))⟩
  refine nx_next ?_
  exact fin _ ((((lo'.set (by decide +kernel)).set (by decide +kernel)).set (by decide +kernel)).set (by decide +kernel)) (by walk_at "lkp") (by walk_at "lkp") (by walk_at "lkp") (by walk_at "lkp")
theorem partTurn {k : KA} {s : St} {L dv dc OP SC WR : Addr} {loc : List (Str × V)} {op : List (Str × Str)} {sc wr : List (List (Str × Str))} {x : Int} {rest : Led} {back : Bool} {due : Str} {Q : F → Led → Prop} (G : Gr C) (lo : LocOk k dv dc OP SC WR back due loc) (hx : loc.lookup (Str.ofString "x") = some (.int x)) (hop : op.length ≤ 1000)
    (h1 : (decide (x.fmod 4 < 2) || op.isEmpty) = true → ∀ loc, LocOk k dv dc OP SC WR back due loc → loc.lookup (Str.ofString "q") = some (.int (x.fdiv 4)) → WS C n NoX (lwEnv C L) (lwStart C.w.params) (lled k s L dv dc OP SC WR loc op sc wr rest) fun f l => f = .next ∧ Q .next l)
    (h2 : (decide (x.fmod 4 < 2) || op.isEmpty) = false → (x.fmod 4 == 2 && decide (1 < op.length)) = true → ∀ loc, LocOk k dv dc OP SC WR back due loc → loc.lookup (Str.ofString "q") = some (.int (x.fdiv 4)) → WS C n NoX (lwEnv C L) (lwEnd C.w.params) (lled k s L dv dc OP SC WR loc op sc wr rest) fun f l => f = .next ∧ Q .next l)
    (h3 : (decide (x.fmod 4 < 2) || op.isEmpty) = false → (x.fmod 4 == 2 && decide (1 < op.length)) = false → ∀ loc, LocOk k dv dc OP SC WR back due loc → loc.lookup (Str.ofString "q") = some (.int (x.fdiv 4)) → WS C n NoX (lwEnv C L) (lwData C.w.params) (lled k s L dv dc OP SC WR loc op sc wr rest) fun f l => f = .next ∧ Q .next l) :
    WS C n NoX (lwEnv C L) (lwLoop C.w.params) (lled k s L dv dc OP SC WR loc op sc wr rest) Q := by
  have lo' := lo
  obtain ⟨o1, o2, o3, o4, o5, o6, o7, o8, o9⟩ := lo
  dsimp only [lwEnv, fenv, lwFd, lwLoop, lwStart, lwEnd, lwData] at h1 h2 h3 ⊢
  unfold lled at h1 h2 h3 ⊢
  refine ws_cons' (wx_swap2 (x := Str.ofString "kind") (y := Str.ofString "q") rfl ?_)
  refine we_tuple ?_; refine wa_cons ?_; refine we_bin ?_; refine we_local (by walk_at "mem") (by walk_at "lkp") ?_; refine we_int ?_; refine wb_mod (by decide) ?_; refine wa_cons ?_; refine we_bin ?_; refine we_local (by walk_at "mem") (by walk_at "lkp") ?_; refine we_int ?_; refine wb_div (by decide) (PyProof.noPylong_of_log2 (by decide +kernel)) ?_; refine wa_nil ?_
  refine ⟨by rw [sizeLine_eq]; simp, _, _, unp_tup tv_fz, wn_local (by walk_at "up") (wn_local (by walk_at "up") ?_)⟩
  refine nx_next (ws_cons' (wx_if (WT.cut (decide (x.fmod 4 < 2) || op.isEmpty) ?_ ?_)))
  · refine wt_or ?_; refine wt_cmp ?_; refine we_local (by walk_at "mem") (by walk_at "lkp") ?_; refine we_int ?_; refine wc_lt_int ?_; refine tr_bool ?_
    refine ift_both (fun b => ?_) (fun b => ?_)
    · exact ⟨by rw [b]; rfl, rfl⟩
    · refine wt_or ?_; refine wt_cmp ?_; refine we_local (by walk_at "mem") (by walk_at "lkp") ?_
      refine we_listF (wa_nil ⟨by rw [sizeLine_eq]; simp, wc_eq_nil (vs := op.map V2) (lv_own (by walk_at "mem")) lv_fz ?_⟩)
      rw [show (op.map V2).isEmpty = op.isEmpty from by cases op <;> rfl]
      refine tr_bool ?_
      refine ift_both (fun b2 => ?_) (fun b2 => ?_)
      · exact ⟨by rw [b, b2]; rfl, rfl⟩
      · refine wt_or_nil ?_
        exact ⟨by rw [b, b2]; rfl, rfl⟩
  · refine ift_both (fun b => ?_) (fun b => ?_)
    · refine W.mono (h1 b _ ((lo'.set (by decide +kernel)).set (by decide +kernel)) (by walk_at "lkp")) fun f l ⟨e1, e2⟩ => ?_
      subst e1
      exact nx_next (ws_nil e2)
    · refine ws_cons' (wx_if (WT.cut (x.fmod 4 == 2 && decide (1 < op.length)) ?_ ?_))
      · refine wt_and ?_; refine wt_cmp ?_; refine we_local (by walk_at "mem") (by walk_at "lkp") ?_; refine we_int ?_; refine wc_eq_int ?_; refine tr_bool ?_
        refine ift_both (fun b2 => ?_) (fun b2 => ?_)
        · refine wt_and ?_; refine wt_cmp ?_; refine we_call ?_; refine we_bltn (bltn1 (by assumption) (by rfl) (by rfl) (by decide)) ?_; refine wa_cons ?_; refine we_local (by walk_at "mem") (by walk_at "lkp") ?_; refine wa_nil ?_; refine wall_nil ?_
          refine ⟨kept_builtin, wc_len_list (vs := op.map V2) (lv_own (by walk_at "mem")) (by rw [List.length_map]; walk_at "om") ?_⟩
          rw [List.length_map]
          refine we_int ?_; refine wc_gt_int ?_; refine tr_bool ?_
          refine ift_both (fun b3 => ?_) (fun b3 => ?_)
          · refine wt_and_nil ?_
            have b3 : 1 < op.length := by have := of_decide_eq_true b3; walk_at "om"
            exact ⟨by rw [b2, decide_eq_true b3]; rfl, rfl⟩
          · have b3 : ¬ 1 < op.length := by have := of_decide_eq_false b3; walk_at "om"
            exact ⟨by rw [b2, decide_eq_false b3]; rfl, rfl⟩
        · exact ⟨by rw [b2]; rfl, rfl⟩
      · refine ift_both (fun b2 => ?_) (fun b2 => ?_)
        · refine W.mono (h2 b b2 _ ((lo'.set (by decide +kernel)).set (by decide +kernel)) (by walk_at "lkp")) fun f l ⟨e1, e2⟩ => ?_
          subst e1
          exact nx_next (ws_nil (nx_next (ws_nil e2)))
        · refine W.mono (h3 b b2 _ ((lo'.set (by decide +kernel)).set (by decide +kernel)) (by walk_at "lkp")) fun f l ⟨e1, e2⟩ => ?_
          subst e1
          exact nx_next (ws_nil (nx_next (ws_nil e2)))
end
section
theorem WS.dropQ {sts : List Stmt} {Q : F → Led → Prop} (h : WS C n X env sts led fun v l => ∃ l', l'.Sublist l ∧ Q v l') : WS C n X env sts led Q := fun A Φ s hA S => wpAny_mono (h A Φ s hA S) (fun _ _ z => z.drop) fun _ _ z => z
theorem partT {k : KA} {s s' : St} {L dv dc OP SC WR : Addr} {loc : List (Str × V)} {op : List (Str × Str)} {sc wr : List (List (Str × Str))} {tx ky : Str} {rest : Led} {back : Bool} {due : Str} {Q : F → Led → Prop} (G : Gr C) (lo : LocOk k dv dc OP SC WR back due loc) (hd : due.length ≤ 1000000) (htx : tx.length ≤ 1000) (hout : (catAll s'.out).length ≤ 16777216)
    (hw : ∀ {rest : Led} {Q' : V → Led → Prop}, Q' .none (wled k s' rest) → WK C n NoX (.ref 133) [.ref k.x, .str ky] [] (wled k s rest) Q')
    (h : Q (.ret (.bool (catAll s'.out == due ++ Str.ofString "</" ++ tx ++ Str.ofString ">"))) (lled k s' L dv dc OP SC WR loc ((tx, ky) :: op) sc wr rest)) :
    WS C n NoX (lwEnv C L) ((lwBody C.w.params).drop 12) (lled k s L dv dc OP SC WR loc ((tx, ky) :: op) sc wr rest) Q := by
  obtain ⟨o1, o2, o3, o4, o5, o6, o7, o8, o9⟩ := lo
  dsimp only [lwEnv, fenv, lwFd, lwBody, List.drop]
  unfold lled at h ⊢
  have c2 : (Str.ofString "</").length = 2 := rfl
  have c3 : (Str.ofString ">").length = 1 := rfl
  refine ws_cons' (wx_expr (we_mcall ?_))
  refine we_local (by walk_at "mem") (by walk_at "lkp") ?_; refine wm_inst (cls1 (by assumption)) ⟨_, by walk_at "mem", by walk_at "mem"⟩ (by rfl) (by rfl) (by rfl) ?_; refine wa_cons ?_
  refine we_lsub (we_lsub ?_)
  refine we_local (by walk_at "mem") (by walk_at "lkp") ?_
  refine ⟨_, V2 (tx, ky), lv_own (by walk_at "mem"), rfl, _, .str ky, lv_fz, rfl, ?_⟩
  refine wa_nil ?_; refine wall_nil ?_
  refine ⟨kept_base (G.inn 133 _ rfl) rfl, WK.wc (WK.pre [_, _, _, _, _, _] (hw (preQ ?_)))⟩
  refine nx_next (ws_cons' (wx_ret (we_cmp (we_mcall ?_))))
  refine we_str ?_; refine wm_join ?_; refine wa_cons ?_; refine we_local (by walk_at "mem") (by walk_at "lkp") ?_; refine wa_nil ?_; refine wall_nil ?_
  refine ⟨kept_builtin, wc_join (ss := s'.out) (lv_own (by walk_at "mem")) (by rw [sizeLine_eq]; exact hout) ?_⟩
  refine we_bin (we_bin (we_bin ?_))
  refine we_local (by walk_at "mem") (by walk_at "lkp") ?_; refine we_str ?_
  refine wb_cat (by rw [sizeLine_eq]; walk_at "om") ?_
  refine we_lsub (we_lsub ?_)
  refine we_local (by walk_at "mem") (by walk_at "lkp") ?_
  refine ⟨_, V2 (tx, ky), lv_own (by walk_at "mem"), rfl, _, .str tx, lv_fz, rfl, ?_⟩
  refine wb_cat (by rw [sizeLine_eq, slen_append]; walk_at "om") ?_
  refine we_str ?_
  refine wb_cat (by rw [sizeLine_eq, slen_append, slen_append]; walk_at "om") ?_
  refine wc_eq_str ?_; refine nx_ret ?_
  exact h
theorem law_loop {k : KA} {L dv dc OP SC WR : Addr} {rest : Led} {back : Bool} {target : Expr} {p : Pos} (G : Gr C) (ht : target = .Name (Str.ofString "x") p)
    {Inv : List Int → St → List (Str × Str) → List (List (Str × Str)) → List (List (Str × Str)) → Str → Prop}
    (step : ∀ x xs s op sc wr due loc (Q : F → Led → Prop), Inv (x :: xs) s op sc wr due → LocOk k dv dc OP SC WR back due loc → loc.lookup (Str.ofString "x") = some (.int x) →
      (∀ s' op' sc' wr' due' loc', Inv xs s' op' sc' wr' due' → LocOk k dv dc OP SC WR back due' loc' → Q .next (lled k s' L dv dc OP SC WR loc' op' sc' wr' rest)) → WS C n NoX (lwEnv C L) (lwLoop C.w.params) (lled k s L dv dc OP SC WR loc op sc wr rest) Q) :
    ∀ (xs : List Int) (s : St) (op : List (Str × Str)) (sc wr : List (List (Str × Str))) (due : Str) (loc : List (Str × V)) (Q : F → Led → Prop), Inv xs s op sc wr due → LocOk k dv dc OP SC WR back due loc →
      (∀ s' op' sc' wr' due' loc', Inv [] s' op' sc' wr' due' → LocOk k dv dc OP SC WR back due' loc' → Q .next (lled k s' L dv dc OP SC WR loc' op' sc' wr' rest)) →
      WLoop C n (lwEnv C L) target (lwLoop C.w.params) (xs.map V.int) (lled k s L dv dc OP SC WR loc op sc wr rest) Q
  | [], s, op, sc, wr, due, loc, Q, hi, lo, hq => wl_nil (hq s op sc wr due loc hi lo)
  | x :: xs, s, op, sc, wr, due, loc, Q, hi, lo, hq => by
    subst ht
    refine wl_cons (wa_name (wn_local .head ?_))
    refine step x xs s op sc wr due _ _ hi (lo.set (by decide +kernel)) lookup_set_same fun s' op' sc' wr' due' loc' hi' lo' => ?_
    exact lk_next (law_loop G rfl step xs s' op' sc' wr' due' loc' Q hi' lo' hq)
end
section
theorem str_beq {a b : Str} : (a == b) = true ↔ a = b := by simp
theorem stS_lookup (d : List (Str × Str)) (k v q : Str) : (stS d k v).lookup q = if q = k then some v else d.lookup q := by
  unfold stS
  split
  · rename_i h
    induction d with
    | nil => simp at h
    | cons e r ih =>
      rw [List.map_cons]
      by_cases e1 : e.1 = k
      · rw [if_pos e1]
        by_cases q1 : q = k
        · subst q1
          simp [List.lookup_cons, e1]
        · have : (q == e.1) = false := by rw [e1]; simpa using q1
          rw [List.lookup_cons, List.lookup_cons, this]
          simp only
          by_cases hr : (r.any fun kv => decide (kv.1 = k)) = true
          · exact ih hr
          · have hm : (r.map fun kv => if kv.1 = k then (kv.1, v) else kv) = r := by
              rw [List.map_congr_left (g := id), List.map_id]
              intro a ha
              have : ¬ a.1 = k := fun e => hr (List.any_eq_true.mpr ⟨a, ha, decide_eq_true e⟩)
              rw [if_neg this]; rfl
            rw [hm, if_neg q1]
      · rw [if_neg e1]
        have hr : (r.any fun kv => decide (kv.1 = k)) = true := by
          rw [List.any_cons, decide_eq_false e1, Bool.false_or] at h; exact h
        rw [List.lookup_cons, List.lookup_cons]
        cases hq : (q == e.1) with
        | true =>
          have : q ≠ k := fun e2 => e1 (by rw [← e2]; exact (str_beq.mp hq).symm)
          simp only [if_neg this]
        | false => exact ih hr
  · rename_i h
    rw [List.lookup_append]
    by_cases q1 : q = k
    · subst q1
      have : d.lookup q = none := by
        rw [List.lookup_eq_none_iff]
        intro e he
        have : ¬ e.1 = q := fun e2 => h (List.any_eq_true.mpr ⟨e, he, decide_eq_true e2⟩)
        simpa using fun e3 : q = e.1 => this e3.symm
      rw [this, if_pos rfl]
      simp [List.lookup_cons]
    · rw [if_neg q1]
      have : (q == k) = false := by simpa using q1
      simp [List.lookup_cons, this]
theorem stS_mem {d : List (Str × Str)} {k v : Str} {e : Str × Str} (h : e ∈ stS d k v) : e = (k, v) ∨ e ∈ d := by
  unfold stS at h
  split at h
  · obtain ⟨a, ha, rfl⟩ := List.mem_map.mp h
    split
    · rename_i e1; exact .inl (by rw [e1])
    · exact .inr ha
  · rcases List.mem_append.mp h with h | h
    · exact .inr h
    · exact .inl (List.mem_singleton.mp h)
theorem stS_keysQ (d : List (Str × Str)) (k v : Str) : (stS d k v).map (·.1) = if k ∈ d.map (·.1) then d.map (·.1) else d.map (·.1) ++ [k] := by
  have hk : (d.any fun kv => decide (kv.1 = k)) = true ↔ k ∈ d.map (·.1) := by
    rw [List.any_eq_true, List.mem_map]
    exact ⟨fun ⟨x, h1, h2⟩ => ⟨x, h1, of_decide_eq_true h2⟩, fun ⟨x, h1, h2⟩ => ⟨x, h1, decide_eq_true h2⟩⟩
  unfold stS
  by_cases h : k ∈ d.map (·.1)
  · rw [if_pos h, if_pos (hk.mpr h), List.map_map]
    refine List.map_congr_left fun e _ => ?_
    simp only [Function.comp]
    split <;> rfl
  · rw [if_neg h, if_neg (fun q => h (hk.mp q)), List.map_append]; rfl
theorem stS_nodupQ {d : List (Str × Str)} {k v : Str} (h : (d.map (·.1)).Nodup) : ((stS d k v).map (·.1)).Nodup := by
  rw [stS_keysQ]
  split
  · exact h
  · rename_i hn
    rw [List.nodup_append]
    refine ⟨h, by simp, fun a ha b hb => ?_⟩
    rw [List.mem_singleton] at hb
    subst hb
    exact fun e => hn (e ▸ ha)
theorem look_mem {d : List (Str × Str)} {k v : Str} : d.lookup k = some v → (k, v) ∈ d := by
  induction d with
  | nil => intro h; cases h
  | cons e r ih =>
    rw [List.lookup_cons]
    cases hq : (k == e.1) with
    | true =>
      intro h
      have e1 := str_beq.mp hq
      have e2 : e.2 = v := by simpa using h
      exact List.mem_cons.mpr (.inl (by rw [e1, ← e2]))
    | false => exact fun h => .tail _ (ih h)
theorem mem_look {d : List (Str × Str)} {k v : Str} (hn : (d.map (·.1)).Nodup) : (k, v) ∈ d → d.lookup k = some v := by
  induction d with
  | nil => intro h; cases h
  | cons e r ih =>
    rw [List.map_cons, List.nodup_cons] at hn
    intro h
    rw [List.lookup_cons]
    rcases List.mem_cons.mp h with h | h
    · subst h; simp
    · have : (k == e.1) = false := by
        have : k ≠ e.1 := fun e1 => hn.1 (by rw [← e1]; exact List.mem_map.mpr ⟨_, h, rfl⟩)
        simpa using this
      rw [this]
      exact ih hn.2 h
theorem look_key {d : List (Str × Str)} {k : Str} : (d.lookup k).isSome = true ↔ k ∈ d.map (·.1) := by
  induction d with
  | nil => simp
  | cons e r ih =>
    rw [List.lookup_cons, List.map_cons, List.mem_cons]
    cases hq : (k == e.1) with
    | true => simp [str_beq.mp hq]
    | false =>
      have : k ≠ e.1 := by simpa using hq
      simp only [ih, this, false_or]
theorem look_none {d : List (Str × Str)} {k : Str} : d.lookup k = none ↔ k ∉ d.map (·.1) := by
  rw [← look_key]
  cases d.lookup k <;> simp
noncomputable def mergeQ (a b : List (Str × Str)) : List (Str × Str) := b.foldl (fun a e => stS a e.1 e.2) a
theorem merge_none {p : Str} : ∀ (b a : List (Str × Str)), p ∉ b.map (·.1) → (mergeQ a b).lookup p = a.lookup p
  | [], a, _ => rfl
  | e :: b, a, h => by
    rw [List.map_cons, List.mem_cons, not_or] at h
    show (mergeQ (stS a e.1 e.2) b).lookup p = _
    rw [merge_none b _ h.2, stS_lookup, if_neg h.1]
theorem merge_some {p v : Str} : ∀ (b a : List (Str × Str)), (b.map (·.1)).Nodup → (p, v) ∈ b → (mergeQ a b).lookup p = some v
  | [], a, _, h => by cases h
  | e :: b, a, hn, h => by
    rw [List.map_cons, List.nodup_cons] at hn
    show (mergeQ (stS a e.1 e.2) b).lookup p = _
    rcases List.mem_cons.mp h with h | h
    · subst h
      rw [merge_none b _ hn.1, stS_lookup, if_pos rfl]
    · exact merge_some b _ hn.2 h
theorem merge_nodup : ∀ (b a : List (Str × Str)), (a.map (·.1)).Nodup → ((mergeQ a b).map (·.1)).Nodup
  | [], a, h => h
  | e :: b, a, h => merge_nodup b _ (stS_nodupQ h)
theorem merge_new : ∀ (b a : List (Str × Str)), ((a ++ b).map (·.1)).Nodup → mergeQ a b = a ++ b
  | [], a, _ => (List.append_nil a).symm
  | e :: b, a, h => by
    show mergeQ (stS a e.1 e.2) b = _
    have h2 : ((a ++ [e]) ++ b).map (·.1) = (a ++ e :: b).map (·.1) := by simp
    have he : stS a e.1 e.2 = a ++ [e] := by
      unfold stS
      rw [if_neg]
      intro hc
      obtain ⟨x, h1, h3⟩ := List.any_eq_true.mp hc
      rw [List.map_append, List.nodup_append] at h
      exact h.2.2 _ (List.mem_map.mpr ⟨x, h1, rfl⟩) _ (List.mem_map.mpr ⟨e, List.mem_cons_self, rfl⟩) (of_decide_eq_true h3)
    rw [he, merge_new b (a ++ [e]) (by rw [h2]; exact h), List.append_assoc]; rfl
noncomputable def sixAt (x : Int) : List (Str × Str × Str) := (List.range 6).map fun n => (ones.getD n u0, klT n, txT x)
theorem ones_ok : ∀ m, m < 6 → ones.getD m u0 ∈ URIS ∧ ones.getD m u0 ≠ u0 := by
  intro m hm
  have : ∀ m ∈ List.range 6, ones.getD m u0 ∈ URIS ∧ ones.getD m u0 ≠ u0 := by decide +kernel
  exact this m (List.mem_range.mpr hm)
structure UaOk (x : Int) (uri : Str) (m : Nat) (ua : UA) : Prop where
  nd : (ua.1.map (·.1)).Nodup
  pr : ∀ e ∈ ua.1, e.2 ∈ URIS ∧ e.1 = pfx e.2
  ur : ua.1.lookup (pfx uri) = some uri
  at' : ∀ e ∈ ua.2, e.1 ∈ URIS ∧ e.1 ≠ u0 ∧ ua.1.lookup (pfx e.1) = some e.1
  sb : ua.2.Sublist ((List.range m).map fun n => (ones.getD n u0, klT n, txT x))
  us : ∀ e ∈ ua.1, e.2 = uri ∨ e.2 ≠ u0
  ln : ua.1.length ≤ 1 + m
theorem stS_len (d : List (Str × Str)) (k v : Str) : (stS d k v).length ≤ d.length + 1 := by
  have h := congrArg List.length (stS_keysQ d k v)
  rw [List.length_map] at h
  rw [h]
  split <;> simp
theorem ua_step {x : Int} {uri : Str} {m : Nat} {ua : UA} (hm : m < 6) (h : UaOk x uri m ua) : UaOk x uri (m + 1) (stepU x ua m) := by
  have oo := ones_ok m hm
  have sbr : ∀ l : List (Str × Str × Str), l.Sublist ((List.range m).map fun n => (ones.getD n u0, klT n, txT x)) → l.Sublist ((List.range (m + 1)).map fun n => (ones.getD n u0, klT n, txT x)) := fun l hl => by
    rw [List.range_succ, List.map_append]
    exact hl.trans (List.sublist_append_left ..)
  have sba : (ua.2 ++ [(ones.getD m u0, klT m, txT x)]).Sublist ((List.range (m + 1)).map fun n => (ones.getD n u0, klT n, txT x)) := by
    rw [List.range_succ, List.map_append]
    exact List.Sublist.append h.sb (List.Sublist.refl _)
  unfold stepU
  generalize ones.getD m u0 = one at *
  obtain ⟨o1, o2⟩ := oo
  by_cases hc : (bit x m && look ua.1 (pfx one) one == one) = true
  · rw [if_pos hc]
    have hlk : look ua.1 (pfx one) one = one := by
      rw [Bool.and_eq_true] at hc
      exact str_beq.mp hc.2
    have same : ∀ v, ua.1.lookup (pfx v) = some v → pfx v = pfx one → v = one := fun v hv hp => by
      rw [hp] at hv
      unfold look at hlk
      rw [hv] at hlk
      exact hlk
    have keep : ∀ v, ua.1.lookup (pfx v) = some v → (stS ua.1 (pfx one) one).lookup (pfx v) = some v := fun v hv => by
      rw [stS_lookup]
      by_cases hp : pfx v = pfx one
      · rw [if_pos hp, same v hv hp]
      · rw [if_neg hp, hv]
    refine ⟨stS_nodupQ h.nd, fun e he => ?_, keep uri h.ur, fun e he => ?_, sba, fun e he => ?_, ?_⟩
    · rcases stS_mem he with rfl | he
      · exact ⟨o1, rfl⟩
      · exact h.pr e he
    · rcases List.mem_append.mp he with he | he
      · exact ⟨(h.at' e he).1, (h.at' e he).2.1, keep _ (h.at' e he).2.2⟩
      · rw [List.mem_singleton] at he
        subst he
        exact ⟨o1, o2, by rw [stS_lookup, if_pos rfl]⟩
    · rcases stS_mem he with rfl | he
      · exact .inr o2
      · exact h.us e he
    · have := stS_len ua.1 (pfx one) one
      have := h.ln
      show (stS ua.1 (pfx one) one).length ≤ _
      walk_at "om"
  · rw [if_neg hc]
    exact ⟨h.nd, h.pr, h.ur, h.at', sbr _ h.sb, h.us, by have := h.ln; walk_at "om"⟩
theorem ua_fold {x : Int} {uri : Str} (hu : uri ∈ URIS) : ∀ m, m ≤ 6 → UaOk x uri m ((List.range m).foldl (stepU x) ([(pfx uri, uri)], []))
  | 0, _ => by
    show UaOk x uri 0 ([(pfx uri, uri)], [])
    refine ⟨by simp, fun e he => ?_, by simp [List.lookup_cons], fun e he => (by cases he), by simp, fun e he => ?_, by simp⟩
    · rw [List.mem_singleton] at he
      subst he
      exact ⟨hu, rfl⟩
    · rw [List.mem_singleton] at he
      subst he
      exact .inl rfl
  | m + 1, h => by
    rw [List.range_succ, List.foldl_append]
    exact ua_step (by walk_at "om") (ua_fold hu m (by walk_at "om"))
theorem uri0_in (x : Int) (scope : List (Str × Str)) (back : Bool) : uri0 x scope back ∈ URIS := by
  have m := fmod_in x 8 (by decide)
  unfold uri0
  split
  · decide
  · exact (uris_get _ m.1 m.2).2
theorem more_in (x : Int) : moreU x ∈ URIS := by
  have m := fmod_in (x.fdiv 3) 6 (by decide)
  exact (uris_get _ m.1 (by walk_at "om")).2
structure UOk (back : Bool) (d : List (Str × Str)) (x : Int) (u : Uses) : Prop where
  uri : u.uri ∈ URIS
  name : u.name ∈ [Str.ofString "x", Str.ofString "y", Str.ofString "z"]
  ats : ∃ as0, u.attrs.Perm as0 ∧ as0.Sublist (sixAt x ++ zAt)
  ain : ∀ e ∈ u.attrs, e.1 ≠ u0 → e.1 ∈ URIS
  abk : back = true → ∀ e ∈ u.attrs, e.1 ≠ u0
  one : ∀ v w, (v = u.uri ∨ v ≠ u0 ∧ v ∈ u.attrs.map (·.1)) → (w = u.uri ∨ w ≠ u0 ∧ w ∈ u.attrs.map (·.1)) → pfx v = pfx w → v = w
  nob : back = false → u.uri = u0 → look d u0 u0 = u0
  tok : ∀ e ∈ u.told, e.2 ∈ URIS ∧ e.1 = pfx e.2 ∧ (back = false → e.2 ≠ u0)
  tnd : (u.told.map (·.1)).Nodup
  tin : ∀ v, (v = u.uri ∨ v ≠ u0 ∧ v ∈ u.attrs.map (·.1)) → pfx v = Str.ofString "xml" ∨ pfx v = Str.ofString "xs" ∨ (pfx v, v) ∈ u.told ∨ (pfx v ∉ u.told.map (·.1) ∧ look d (pfx v) u0 = v)
  tln : u.told.length ≤ 8
theorem uses_ok (x : Int) (d : List (Str × Str)) (back : Bool) : UOk back d x (usesU x d back) := by
  have hu := uri0_in x d back
  have hf : UaOk x (uri0 x d back) 6 (usedA x (uri0 x d back)) := ua_fold hu 6 (Nat.le_refl _)
  have hnob : back = false → uri0 x d back = u0 → look d u0 u0 = u0 := fun hb h0 => by
    unfold uri0 at h0
    subst hb
    split at h0
    · exact absurd h0 (by decide)
    · rename_i hc
      by_cases e : look d u0 u0 = u0
      · exact e
      · exfalso
        apply hc
        rw [h0]
        simp [e]
  rw [show usesU x d back = { uri := uri0 x d back, name := nameU x, attrs := attrs3 x (attrs2 x back (usedA x (uri0 x d back)).2), told := told1 x back (usedA x (uri0 x d back)).1 (told0 (usedA x (uri0 x d back)).1 d) } from rfl]
  generalize uri0 x d back = uri at *
  generalize usedA x uri = ua at *
  have hp2 : (attrs2 x back ua.2).Sublist (sixAt x ++ zAt) := by
    unfold attrs2
    split
    · exact List.Sublist.append hf.sb (List.Sublist.refl _)
    · exact hf.sb.trans (List.sublist_append_left ..)
  have hm2 : ∀ e ∈ attrs2 x back ua.2, e ∈ ua.2 ∨ (back = false ∧ e ∈ zAt) := fun e he => by
    unfold attrs2 at he
    split at he
    · rename_i hc
      rcases List.mem_append.mp he with he | he
      · exact .inl he
      · exact .inr ⟨by cases back <;> simp_all, he⟩
    · exact .inl he
  have z0 : ∀ e ∈ zAt, e.1 = u0 := by decide +kernel
  have hpm : (attrs3 x (attrs2 x back ua.2)).Perm (attrs2 x back ua.2) := by
    unfold attrs3
    split
    · exact List.reverse_perm _
    · exact .refl _
  have hin : ∀ e ∈ attrs3 x (attrs2 x back ua.2), e ∈ ua.2 ∨ (back = false ∧ e ∈ zAt) := fun e he => hm2 e (hpm.mem_iff.mp he)
  have hus : ∀ v, (v = uri ∨ v ≠ u0 ∧ v ∈ (attrs3 x (attrs2 x back ua.2)).map (·.1)) → ua.1.lookup (pfx v) = some v := fun v hv => by
    rcases hv with rfl | ⟨h1, h2⟩
    · exact hf.ur
    · obtain ⟨e, he, rfl⟩ := List.mem_map.mp h2
      rcases hin e he with h | ⟨_, h⟩
      · exact (hf.at' e h).2.2
      · exact absurd (z0 e h) h1
  have hk0 : ∀ e ∈ told0 ua.1 d, ua.1.lookup e.1 = some e.2 ∧ look d e.1 u0 ≠ e.2 := fun e he => by
    unfold told0 at he
    obtain ⟨p, hp, rfl⟩ := List.mem_map.mp he
    rw [List.mem_filter] at hp
    obtain ⟨h1, h2⟩ := hp
    have := look_key.mpr h1
    rw [Bool.and_eq_true] at h2
    unfold look at h2 ⊢
    obtain ⟨v, hv⟩ := Option.isSome_iff_exists.mp this
    rw [hv] at h2 ⊢
    exact ⟨rfl, by simpa using h2.2⟩
  have hkk : (told0 ua.1 d).map (·.1) = (ua.1.map (·.1)).filter fun p => !([Str.ofString "xml", Str.ofString "xs"].any (· == p)) && look d p u0 != look ua.1 p u0 := by
    unfold told0
    rw [List.map_map]
    exact (List.map_congr_left fun _ _ => rfl).trans (List.map_id _)
  have hnd0 : ((told0 ua.1 d).map (·.1)).Nodup := by rw [hkk]; exact hf.nd.filter _
  have hln0 : (told0 ua.1 d).length ≤ 7 := by
    have h1 := congrArg List.length hkk
    rw [List.length_map] at h1
    rw [h1]
    refine Nat.le_trans (List.length_filter_le ..) ?_
    rw [List.length_map]
    exact hf.ln
  have hu1 : ∀ e ∈ ua.1, back = false → e.2 = u0 → look d u0 u0 = u0 := fun e he hb h0 => by
    rcases hf.us e he with h | h
    · exact hnob hb (h ▸ h0)
    · exact absurd h0 h
  have hp0 : pfx u0 = u0 := by decide +kernel
  have htk0 : ∀ e ∈ told0 ua.1 d, e.2 ∈ URIS ∧ e.1 = pfx e.2 ∧ (back = false → e.2 ≠ u0) := fun e he => by
    obtain ⟨h1, h2⟩ := hk0 e he
    have hm := look_mem h1
    refine ⟨(hf.pr _ hm).1, (hf.pr _ hm).2, fun hb h0 => h2 ?_⟩
    have := hu1 _ hm hb h0
    have e1 := (hf.pr _ hm).2
    simp only [h0] at e1
    rw [e1, hp0, h0, this]
  have hpt : ∃ m, told1 x back ua.1 (told0 ua.1 d) = told0 ua.1 d ∨ ((told1 x back ua.1 (told0 ua.1 d)).Perm (m :: told0 ua.1 d) ∧ m.1 ∉ ua.1.map (·.1) ∧ m.2 ∈ URIS ∧ m.1 = pfx m.2 ∧ (back = false → m.2 ≠ u0)) := by
    refine ⟨(pfx (moreU x), moreU x), ?_⟩
    unfold told1
    split
    · rename_i hc
      rw [Bool.and_eq_true] at hc
      refine .inr ⟨List.perm_middle.trans (by rw [List.take_append_drop]), ?_, more_in x, rfl, fun hb => ?_⟩
      · rw [← look_none]
        cases h : ua.1.lookup (pfx (moreU x)) with
        | none => rfl
        | some v => rw [h] at hc; simp at hc
      · subst hb
        simpa using hc.2
    · exact .inl rfl
  have hk1 : ∀ v, ua.1.lookup (pfx v) = some v → ¬ (pfx v = Str.ofString "xml" ∨ pfx v = Str.ofString "xs") → (look d (pfx v) u0 ≠ v → (pfx v, v) ∈ told0 ua.1 d) ∧ (look d (pfx v) u0 = v → pfx v ∉ (told0 ua.1 d).map (·.1)) := fun v hv hx => by
    have e1 : look ua.1 (pfx v) u0 = v := by unfold look; rw [hv]; rfl
    constructor
    · intro hl
      refine List.mem_map.mpr ⟨pfx v, ?_, by rw [e1]⟩
      rw [List.mem_filter]
      refine ⟨look_key.mp (by rw [hv]; rfl), ?_⟩
      rw [e1]
      rw [not_or] at hx
      have a1 : (Str.ofString "xml" == pfx v) = false := by simpa using fun h => hx.1 (Eq.symm h)
      have a2 : (Str.ofString "xs" == pfx v) = false := by simpa using fun h => hx.2 (Eq.symm h)
      have a3 : (look d (pfx v) u0 != v) = true := by simpa using hl
      rw [List.any_cons, List.any_cons, List.any_nil, a1, a2, a3]; rfl
    · intro hl hm
      rw [hkk, List.mem_filter] at hm
      have := hm.2
      rw [e1, hl, Bool.and_eq_true] at this
      simp at this
  obtain ⟨mm, hmm⟩ := hpt
  have hno : ∀ v, ua.1.lookup (pfx v) = some v → mm.1 ∉ ua.1.map (·.1) → pfx v ≠ mm.1 := fun v hv hm e => hm (by rw [← e]; exact look_key.mp (by rw [hv]; rfl))
  refine ⟨hu, ?_, ⟨_, hpm, hp2⟩, fun e he h0 => ?_, fun hb e he => ?_, fun v w hv hw hp => ?_, hnob, fun e he => ?_, ?_, fun v hv => ?_, ?_⟩
  · have m := fmod_in (x.fdiv 7) 3 (by decide)
    show nameU x ∈ _
    unfold nameU
    have : ((x.fdiv 7).fmod 3).toNat < 3 := by walk_at "om"
    generalize ((x.fdiv 7).fmod 3).toNat = k at this
    match k, this with
    | 0, _ | 1, _ | 2, _ => decide +kernel
  · rcases hin e he with h | ⟨_, h⟩
    · exact (hf.at' e h).1
    · exact absurd (z0 e h) h0
  · rcases hin e he with h | ⟨h, _⟩
    · exact (hf.at' e h).2.1
    · rw [hb] at h; cases h
  · have h1 := hus v hv
    have h2 := hus w hw
    rw [hp, h2] at h1
    exact (Option.some.inj h1).symm
  · rcases hmm with h | ⟨h, h2, h3, h4, h5⟩
    · simp only [h] at he
      exact htk0 e he
    · rcases List.mem_cons.mp (h.mem_iff.mp he) with rfl | he
      · exact ⟨h3, h4, h5⟩
      · exact htk0 e he
  · rcases hmm with h | ⟨h, h2, h3, h4, h5⟩
    · simp only [h]
      exact hnd0
    · refine ((h.map (·.1)).nodup_iff).mpr ?_
      rw [List.map_cons, List.nodup_cons]
      refine ⟨fun hm => h2 ?_, hnd0⟩
      rw [hkk, List.mem_filter] at hm
      exact hm.1
  · have hv1 := hus v hv
    by_cases hx : pfx v = Str.ofString "xml" ∨ pfx v = Str.ofString "xs"
    · rcases hx with h | h
      · exact .inl h
      · exact .inr (.inl h)
    · obtain ⟨k1, k2⟩ := hk1 v hv1 hx
      refine .inr (.inr ?_)
      by_cases hl : look d (pfx v) u0 = v
      · refine .inr ⟨?_, hl⟩
        rcases hmm with h | ⟨h, h2, h3, h4, h5⟩
        · simp only [h]; exact k2 hl
        · intro hm
          rcases List.mem_cons.mp ((h.map (·.1)).mem_iff.mp hm) with h | h
          · exact hno v hv1 h2 h
          · exact k2 hl h
      · refine .inl ?_
        rcases hmm with h | ⟨h, h2, h3, h4, h5⟩
        · simp only [h]; exact k1 hl
        · exact h.mem_iff.mpr (.tail _ (k1 hl))
  · rcases hmm with h | ⟨h, h2, h3, h4, h5⟩
    · simp only [h]; walk_at "om"
    · have := h.length_eq
      rw [List.length_cons] at this
      show (told1 x back ua.1 (told0 ua.1 d)).length ≤ 8
      walk_at "om"
end
section
noncomputable def lkp (p : Str) (D : List (Str × Str)) : Option Str := (D.find? fun e => e.2 == p).map (·.1)
noncomputable def lk0 (p : Str) (D : List (Str × Str)) : Str := (lkp p D).getD u0
theorem lkp_cons (p : Str) (e : Str × Str) (D : List (Str × Str)) : lkp p (e :: D) = if e.2 = p then some e.1 else lkp p D := by
  unfold lkp
  rw [List.find?_cons]
  by_cases h : e.2 = p
  · rw [if_pos h, show (e.2 == p) = true from by simpa using h]; rfl
  · rw [if_neg h, show (e.2 == p) = false from by simpa using h]
theorem lkp_app (p : Str) (A D : List (Str × Str)) : lkp p (A ++ D) = (lkp p A).or (lkp p D) := by
  induction A with
  | nil => rfl
  | cons e r ih =>
    rw [List.cons_append, lkp_cons, lkp_cons, ih]
    split <;> rfl
theorem lkp_none {p : Str} {D : List (Str × Str)} : lkp p D = none ↔ p ∉ D.map (·.2) := by
  induction D with
  | nil => simp [lkp]
  | cons e r ih =>
    rw [lkp_cons, List.map_cons, List.mem_cons, not_or]
    by_cases h : e.2 = p
    · rw [if_pos h]; simp [h]
    · rw [if_neg h, ih]
      exact ⟨fun a => ⟨fun q => h q.symm, a⟩, fun a => a.2⟩
theorem lkp_mem {p u : Str} {D : List (Str × Str)} : lkp p D = some u → (u, p) ∈ D := by
  induction D with
  | nil => intro h; cases h
  | cons e r ih =>
    rw [lkp_cons]
    by_cases h : e.2 = p
    · rw [if_pos h]
      intro q
      have : e.1 = u := Option.some.inj q
      exact List.mem_cons.mpr (.inl (by rw [← h, ← this]))
    · rw [if_neg h]
      exact fun q => .tail _ (ih q)
theorem addS_mem (ss : List Str) (x q : Str) : q ∈ addS ss x ↔ q ∈ ss ∨ q = x := by
  have := adds_mem [x] ss q
  rw [List.mem_singleton] at this
  exact this
theorem seek_spec {uri : Str} : ∀ (D : List (Str × Str)) (seen : List Str), (∀ e ∈ D, e.1 = uri → e.2 = pfx uri) → seek uri D seen = if pfx uri ∉ seen ∧ lkp (pfx uri) D = some uri then some (pfx uri) else none
  | [], seen, _ => by
    rw [if_neg]
    · rfl
    · intro h; cases h.2
  | (u, p) :: r, seen, h => by
    have ih := seek_spec r (addS seen p) fun e he => h e (.tail _ he)
    unfold seek
    rw [lkp_cons]
    by_cases hu : u = uri
    · have hp : p = pfx uri := h _ List.mem_cons_self hu
      rw [if_pos (by simpa using hu), if_pos hp]
      by_cases hs : pfx uri ∈ seen
      · rw [if_neg, ih, if_neg, if_neg]
        · exact fun q => q.1 hs
        · exact fun q => q.1 ((addS_mem ..).mpr (.inl hs))
        · rw [hp, (any_mem ..).mpr hs]; decide
      · rw [if_pos, if_pos ⟨hs, by rw [hu]⟩, hp]
        rw [hp]
        cases ha : (seen.any fun x => x == pfx uri) with
        | false => rfl
        | true => exact absurd ((any_mem ..).mp ha) hs
    · rw [if_neg (by simpa using hu), ih]
      by_cases hp : p = pfx uri
      · rw [if_pos hp, if_neg, if_neg]
        · exact fun q => hu (Option.some.inj q.2)
        · exact fun q => q.1 ((addS_mem ..).mpr (.inr hp.symm))
      · rw [if_neg hp]
        have : (pfx uri ∉ addS seen p) ↔ pfx uri ∉ seen := by
          rw [addS_mem]
          exact ⟨fun a b => a (.inl b), fun a b => b.elim a fun q => hp q.symm⟩
        simp only [this]
theorem len0 {u : Str} : (!((u.length : Int) != 0)) = true ↔ u = u0 := by
  constructor
  · intro h
    have : u.length = 0 := by
      simp at h
      exact h
    obtain ⟨⟨l⟩⟩ := u
    have : l = [] := by simpa [Str.length] using this
    subst this
    rfl
  · intro h; subst h; rfl
theorem pfx_u0 : pfx u0 = u0 := by decide +kernel
theorem qn_old {uri : Str} {D N : List (Str × Str)} (hD : ∀ e ∈ D, e.1 = uri → e.2 = pfx uri) (h : lk0 (pfx uri) D = uri) : qnR uri D N = some (pfx uri, false) := by
  unfold qnR
  rw [seek_spec D [] hD]
  by_cases hl : lkp (pfx uri) D = some uri
  · rw [if_pos ⟨by simp, hl⟩]
  · rw [if_neg (fun q => hl q.2)]
    have hn : lkp (pfx uri) D = none := by
      cases e : lkp (pfx uri) D with
      | none => rfl
      | some v =>
        unfold lk0 at h
        rw [e] at h
        exact absurd (by rw [e]; exact congrArg some h) hl
    have hu : uri = u0 := by unfold lk0 at h; rw [hn] at h; exact h.symm
    subst hu
    rw [pfx_u0] at hn ⊢
    have : (addsS [] (D.map (·.2))).any (· == Str.ofString "") = false := by
      cases ha : (addsS [] (D.map (·.2))).any (· == Str.ofString "") with
      | false => rfl
      | true =>
        have := (adds_mem _ _ _).mp ((any_mem ..).mp ha)
        exact absurd (this.resolve_left (by simp)) (lkp_none.mp hn)
    simp only
    rw [this, if_pos (by rfl)]
    rfl
theorem find_uri {uri p : Str} {N : List (Str × Str)} (hN : ∀ e ∈ N, e.1 = uri → e.2 = p) (h : (uri, p) ∈ N) : ∃ e, N.find? (fun e => e.1 == uri) = some e ∧ e.2 = p := by
  cases hf : N.find? (fun e => e.1 == uri) with
  | none =>
    have := List.find?_eq_none.mp hf _ h
    simp at this
  | some e => exact ⟨e, rfl, hN e (List.mem_of_find?_eq_some hf) (str_beq.mp (by simpa using List.find?_some hf))⟩
theorem qn_new {uri : Str} {D N : List (Str × Str)} (hD : ∀ e ∈ D, e.1 = uri → e.2 = pfx uri) (hN : ∀ e ∈ N, e.1 = uri → e.2 = pfx uri) (hm : (uri, pfx uri) ∈ N) (h : lk0 (pfx uri) D ≠ uri) : qnR uri D N = some (pfx uri, true) := by
  unfold qnR
  rw [seek_spec D [] hD, if_neg]
  · obtain ⟨e, h1, h2⟩ := find_uri hN hm
    simp only
    rw [if_neg, h1, ← h2]
    intro hc
    rw [Bool.and_eq_true] at hc
    have hu := len0.mp hc.1
    subst hu
    rw [pfx_u0] at h
    have hn : lkp u0 D ≠ none := fun q => h (by unfold lk0; rw [q]; rfl)
    have hin : u0 ∈ D.map (·.2) := Classical.byContradiction fun q => hn (lkp_none.mpr q)
    have : (addsS [] (D.map (·.2))).any (· == Str.ofString "") = true := (any_mem ..).mpr ((adds_mem _ _ _).mpr (.inr hin))
    rw [this] at hc
    exact absurd hc.2 (by decide)
  · intro q
    exact h (by unfold lk0; rw [q.2]; rfl)
theorem qn_nil {D N : List (Str × Str)} (hD : ∀ e ∈ D, e.1 ≠ u0) (hN : ∀ e ∈ N, e.1 ≠ u0) : qnR u0 D N = some (u0, false) := by
  have hn : ¬ lkp u0 D = some u0 := fun q => hD _ (lkp_mem q) rfl
  unfold qnR
  rw [seek_spec D [] (fun e he q => absurd q (hD e he)), pfx_u0, if_neg (fun q => hn q.2)]
  simp only
  split
  · rfl
  · have : N.find? (fun e => e.1 == u0) = none := List.find?_eq_none.mpr fun e he q => hN e he (by simpa using q)
    rw [this]
    rfl
structure ParsIn (N D0 : List (Str × Str)) (S : List Str) : Prop where
  d : ∀ e ∈ D0, e.1 ∈ URIS → e.2 = pfx e.1
  n : ∀ e ∈ N, e.1 ∈ URIS → e.2 = pfx e.1
  s : ∀ v ∈ S, v ∈ URIS ∧ (lk0 (pfx v) D0 = v ∨ (v, pfx v) ∈ N)
  o : ∀ v ∈ S, ∀ w ∈ S, pfx v = pfx w → v = w
theorem lk_same {l D0 : List (Str × Str)} {p : Str} (h : p ∉ l.map (·.2)) : lk0 p (l ++ D0) = lk0 p D0 := by
  unfold lk0
  rw [lkp_app, lkp_none.mpr h]; rfl
noncomputable def prs (vs : List Str) : List (Str × Str) := vs.map fun v => (v, pfx v)
theorem prs2 (vs : List Str) : (prs vs).map (·.2) = vs.map pfx := by unfold prs; rw [List.map_map]; rfl
theorem pfx_len9 : ∀ u ∈ URIS, (pfx u).length ≤ 900 := by decide +kernel
theorem parse_ok {N D0 : List (Str × Str)} {S : List Str} {spl : Spl} {pq : PQ} (P : ParsIn N D0 S) : ∀ (names : List Str) (vs : List Str), (∀ q ∈ names, pq q = (nm (pfx (spl q).1) (spl q).2, (spl q).2, (spl q).1) ∧ ((spl q).1 ∈ S ∨ ((spl q).1 = u0 ∧ (∀ e ∈ D0, e.1 ≠ u0) ∧ ∀ e ∈ N, e.1 ≠ u0))) →
    vs.Nodup → (∀ v ∈ vs, v ∈ S) → (∀ v ∈ vs, lk0 (pfx v) D0 ≠ v) →
    ∃ ws, Parse N D0 spl pq names (prs vs) (prs ws) ∧ ws.Nodup ∧ (∀ v, v ∈ ws ↔ v ∈ vs ∨ (v ∈ S ∧ v ∈ names.map (fun q => (spl q).1) ∧ lk0 (pfx v) D0 ≠ v))
  | [], vs, _, hn, hs, hl => ⟨vs, rfl, hn, fun v => by simp⟩
  | q :: r, vs, hq, hn, hs, hl => by
    obtain ⟨e1, e2⟩ := hq q List.mem_cons_self
    have hq' := fun a (ha : a ∈ r) => hq a (.tail _ ha)
    by_cases hv : (spl q).1 ∈ S
    · obtain ⟨hu, ht⟩ := P.s _ hv
      have hD : ∀ e ∈ prs vs ++ D0, e.1 = (spl q).1 → e.2 = pfx (spl q).1 := fun e he h => by
        rcases List.mem_append.mp he with he | he
        · obtain ⟨v, _, rfl⟩ := List.mem_map.mp he
          exact congrArg pfx h
        · rw [P.d e he (h ▸ hu), h]
      have hN : ∀ e ∈ N, e.1 = (spl q).1 → e.2 = pfx (spl q).1 := fun e he h => by rw [P.n e he (h ▸ hu), h]
      by_cases hin : (spl q).1 ∈ vs
      · have hlk : lk0 (pfx (spl q).1) (prs vs ++ D0) = (spl q).1 := by
          unfold lk0
          rw [lkp_app]
          cases hk : lkp (pfx (spl q).1) (prs vs) with
          | none => exact absurd (by rw [prs2]; exact List.mem_map.mpr ⟨_, hin, rfl⟩) (lkp_none.mp hk)
          | some w =>
            obtain ⟨v, hv1, hv2⟩ := List.mem_map.mp (lkp_mem hk)
            have a1 : v = w := congrArg Prod.fst hv2
            have a2 : pfx v = pfx (spl q).1 := congrArg Prod.snd hv2
            show w = _
            rw [← a1]
            exact P.o _ (hs v hv1) _ hv a2
        obtain ⟨ws, w1, w2, w3⟩ := parse_ok P r vs hq' hn hs hl
        refine ⟨ws, ⟨pfx (spl q).1, false, qn_old hD hlk, pfx_len9 _ hu, e1, w1⟩, w2, fun v => ?_⟩
        rw [w3, List.map_cons, List.mem_cons]
        constructor
        · rintro (a | ⟨a, b, c⟩)
          · exact .inl a
          · exact .inr ⟨a, .inr b, c⟩
        · rintro (a | ⟨a, b | b, c⟩)
          · exact .inl a
          · exact .inl (b ▸ hin)
          · exact .inr ⟨a, b, c⟩
      · have hnp : pfx (spl q).1 ∉ (prs vs).map (·.2) := fun hm => by
          rw [prs2] at hm
          obtain ⟨v, hv1, hv2⟩ := List.mem_map.mp hm
          exact hin (P.o _ (hs v hv1) _ hv hv2 ▸ hv1)
        by_cases hc : lk0 (pfx (spl q).1) D0 = (spl q).1
        · obtain ⟨ws, w1, w2, w3⟩ := parse_ok P r vs hq' hn hs hl
          refine ⟨ws, ⟨pfx (spl q).1, false, qn_old hD (by rw [lk_same hnp, hc]), pfx_len9 _ hu, e1, w1⟩, w2, fun v => ?_⟩
          rw [w3, List.map_cons, List.mem_cons]
          constructor
          · rintro (a | ⟨a, b, c⟩)
            · exact .inl a
            · exact .inr ⟨a, .inr b, c⟩
          · rintro (a | ⟨a, b | b, c⟩)
            · exact .inl a
            · exact absurd (b ▸ hc) c
            · exact .inr ⟨a, b, c⟩
        · have hp1 : prs (vs ++ [(spl q).1]) = prs vs ++ [((spl q).1, pfx (spl q).1)] := by unfold prs; rw [List.map_append]; rfl
          obtain ⟨ws, w1, w2, w3⟩ := parse_ok P r (vs ++ [(spl q).1]) hq' (by
            rw [List.nodup_append]
            refine ⟨hn, by simp, fun a ha b hb => ?_⟩
            rw [List.mem_singleton] at hb
            subst hb
            exact fun e => hin (e ▸ ha)) (fun v hv' => by
            rcases List.mem_append.mp hv' with h | h
            · exact hs v h
            · rw [List.mem_singleton.mp h]; exact hv) (fun v hv' => by
            rcases List.mem_append.mp hv' with h | h
            · exact hl v h
            · rw [List.mem_singleton.mp h]; exact hc)
          refine ⟨ws, ⟨pfx (spl q).1, true, qn_new hD hN (ht.resolve_left hc) (by rw [lk_same hnp]; exact hc), pfx_len9 _ hu, e1, by rw [if_pos rfl, ← hp1]; exact w1⟩, w2, fun v => ?_⟩
          rw [w3, List.map_cons, List.mem_cons, List.mem_append, List.mem_singleton]
          constructor
          · rintro ((a | a) | ⟨a, b, c⟩)
            · exact .inl a
            · exact .inr ⟨a ▸ hv, .inl a, a ▸ hc⟩
            · exact .inr ⟨a, .inr b, c⟩
          · rintro (a | ⟨a, b | b, c⟩)
            · exact .inl (.inl a)
            · exact .inl (.inr b)
            · exact .inr ⟨a, b, c⟩
    · obtain ⟨h0, hD, hN⟩ := e2.resolve_left hv
      have hnv : u0 ∉ vs := fun h => hv (h0 ▸ hs _ h)
      have hD' : ∀ e ∈ prs vs ++ D0, e.1 ≠ u0 := fun e he => by
        rcases List.mem_append.mp he with he | he
        · obtain ⟨v, hv1, rfl⟩ := List.mem_map.mp he
          exact fun h => hnv (h ▸ hv1)
        · exact hD e he
      obtain ⟨ws, w1, w2, w3⟩ := parse_ok P r vs hq' hn hs hl
      refine ⟨ws, ⟨u0, false, by rw [h0]; exact qn_nil hD' hN, by decide, by rw [e1, h0, pfx_u0], w1⟩, w2, fun v => ?_⟩
      rw [w3, List.map_cons, List.mem_cons]
      constructor
      · rintro (a | ⟨a, b, c⟩)
        · exact .inl a
        · exact .inr ⟨a, .inr b, c⟩
      · rintro (a | ⟨a, b | b, c⟩)
        · exact .inl a
        · exact absurd (b ▸ a) hv
        · exact .inr ⟨a, b, c⟩
end
section
theorem lkp_prs {ws S : List Str} {u : Str} (hs : ∀ v ∈ ws, v ∈ S) (ho : ∀ v ∈ S, ∀ w ∈ S, pfx v = pfx w → v = w) (hu : u ∈ S) : lkp (pfx u) (prs ws) = if u ∈ ws then some u else none := by
  by_cases hin : u ∈ ws
  · rw [if_pos hin]
    cases hk : lkp (pfx u) (prs ws) with
    | none => exact absurd (by rw [prs2]; exact List.mem_map.mpr ⟨_, hin, rfl⟩) (lkp_none.mp hk)
    | some w =>
      obtain ⟨v, hv1, hv2⟩ := List.mem_map.mp (lkp_mem hk)
      have a1 : v = w := congrArg Prod.fst hv2
      have a2 : pfx v = pfx u := congrArg Prod.snd hv2
      rw [← a1, ho _ (hs v hv1) _ hu a2]
  · rw [if_neg hin, lkp_none, prs2]
    intro hm
    obtain ⟨v, hv1, hv2⟩ := List.mem_map.mp hm
    exact hin (ho _ (hs v hv1) _ hu hv2 ▸ hv1)
structure SnOk (w0 : List (Str × Str)) (S done : List Str) (sn : SN) (ws : List Str) : Prop where
  nw : sn.2 = ws.map fun v => (pfx v, v)
  nd : ws.Nodup
  ms : ∀ v ∈ ws, v ∈ S
  mm : ∀ v ∈ S, (v ∈ ws ↔ v ∈ done ∧ look w0 (pfx v) u0 ≠ v)
  lk : ∀ p, sn.1.lookup p = (lkp p (prs ws)).or (w0.lookup p)
  kn : (sn.1.map (·.1)).Nodup
  ln : sn.1.length ≤ w0.length + done.length
  wn : ws.length ≤ done.length
theorem sn_step {w0 : List (Str × Str)} {S done : List Str} {sn : SN} {ws : List Str} {u : Str} (h : SnOk w0 S done sn ws) (ho : ∀ v ∈ S, ∀ w ∈ S, pfx v = pfx w → v = w) (hu : u ∈ S) : ∃ ws', SnOk w0 S (done ++ [u]) (snStep sn u) ws' := by
  have hk := lkp_prs h.ms ho hu
  have hl := h.lk (pfx u)
  rw [hk] at hl
  have e1 : look sn.1 (pfx u) u0 = if u ∈ ws then u else look w0 (pfx u) u0 := by
    unfold look
    rw [hl]
    split <;> rfl
  have ln1 : w0.length + done.length ≤ w0.length + (done ++ [u]).length := by rw [List.length_append]; walk_at "om"
  unfold snStep
  by_cases hin : u ∈ ws
  · rw [if_pos hin] at e1
    rw [if_neg (by rw [e1]; simp)]
    refine ⟨ws, h.nw, h.nd, h.ms, fun v hv => ?_, h.lk, h.kn, Nat.le_trans h.ln ln1, Nat.le_trans h.wn (by rw [List.length_append]; walk_at "om")⟩
    rw [h.mm v hv, List.mem_append, List.mem_singleton]
    constructor
    · exact fun a => ⟨.inl a.1, a.2⟩
    · rintro ⟨a | a, b⟩
      · exact ⟨a, b⟩
      · subst a
        exact (h.mm v hv).mp hin
  · rw [if_neg hin] at e1
    by_cases hc : look w0 (pfx u) u0 = u
    · rw [if_neg (by rw [e1, hc]; simp)]
      refine ⟨ws, h.nw, h.nd, h.ms, fun v hv => ?_, h.lk, h.kn, Nat.le_trans h.ln ln1, Nat.le_trans h.wn (by rw [List.length_append]; walk_at "om")⟩
      rw [h.mm v hv, List.mem_append, List.mem_singleton]
      constructor
      · exact fun a => ⟨.inl a.1, a.2⟩
      · rintro ⟨a | a, b⟩
        · exact ⟨a, b⟩
        · subst a
          exact absurd hc b
    · rw [if_pos (by rw [e1]; simpa using hc)]
      refine ⟨ws ++ [u], by rw [h.nw, List.map_append]; rfl, ?_, fun v hv => ?_, fun v hv => ?_, fun p => ?_, stS_nodupQ h.kn, ?_, by have := h.wn; simp only [List.length_append, List.length_singleton]; walk_at "om"⟩
      · rw [List.nodup_append]
        refine ⟨h.nd, by simp, fun a ha b hb => ?_⟩
        rw [List.mem_singleton] at hb
        subst hb
        exact fun e => hin (e ▸ ha)
      · rcases List.mem_append.mp hv with a | a
        · exact h.ms v a
        · rw [List.mem_singleton.mp a]; exact hu
      · rw [List.mem_append, List.mem_singleton, h.mm v hv, List.mem_append, List.mem_singleton]
        constructor
        · rintro (a | a)
          · exact ⟨.inl a.1, a.2⟩
          · subst a; exact ⟨.inr rfl, hc⟩
        · rintro ⟨a | a, b⟩
          · exact .inl ⟨a, b⟩
          · exact .inr a
      · show (stS sn.1 (pfx u) u).lookup p = _
        have hp1 : prs (ws ++ [u]) = prs ws ++ [(u, pfx u)] := by unfold prs; rw [List.map_append]; rfl
        rw [stS_lookup, hp1, lkp_app, lkp_cons]
        by_cases hp : p = pfx u
        · subst hp
          rw [if_pos rfl, hk, if_neg hin, if_pos rfl]; rfl
        · rw [if_neg hp, if_neg (fun q => hp q.symm), h.lk p]
          cases lkp p (prs ws) <;> rfl
      · have := stS_len sn.1 (pfx u) u
        have := h.ln
        show (stS sn.1 (pfx u) u).length ≤ _
        rw [List.length_append, List.length_singleton]
        walk_at "om"
theorem sn_fold {w0 : List (Str × Str)} {S : List Str} (ho : ∀ v ∈ S, ∀ w ∈ S, pfx v = pfx w → v = w) : ∀ (us done : List Str) (sn : SN) (ws : List Str), SnOk w0 S done sn ws → (∀ u ∈ us, u ∈ S) → ∃ ws', SnOk w0 S (done ++ us) (us.foldl snStep sn) ws'
  | [], done, sn, ws, h, _ => ⟨ws, by rw [List.append_nil]; exact h⟩
  | u :: us, done, sn, ws, h, hs => by
    obtain ⟨ws', h'⟩ := sn_step h ho (hs u List.mem_cons_self)
    obtain ⟨ws2, h2⟩ := sn_fold ho us _ _ _ h' fun v hv => hs v (.tail _ hv)
    exact ⟨ws2, by rw [List.append_assoc] at h2; exact h2⟩
theorem sn_ok {w0 : List (Str × Str)} {S : List Str} (hw : (w0.map (·.1)).Nodup) (ho : ∀ v ∈ S, ∀ w ∈ S, pfx v = pfx w → v = w) : ∃ ws, SnOk w0 S S (snOf w0 S) ws :=
  sn_fold ho S [] (w0, []) [] ⟨rfl, .nil, fun v hv => (by cases hv), fun v _ => (by simp), fun p => rfl, hw, by simp, by simp⟩ fun _ h => h
noncomputable def sL (s : Str) : List Nat := s.cps.toList
theorem sL_inj {a b : Str} (h : sL a = sL b) : a = b := by
  obtain ⟨⟨a⟩⟩ := a
  obtain ⟨⟨b⟩⟩ := b
  have : a = b := h
  rw [this]
theorem sL_app (a b : Str) : sL (a ++ b) = sL a ++ sL b := by unfold sL; rw [Str.cps_append, Array.toList_append]
theorem sL_cat (ss : List Str) : sL (catAll ss) = ss.flatMap sL := by unfold sL catAll; rw [List.flatMap_def]
theorem sL_u0 : sL u0 = [] := rfl
theorem catAll_app (a b : List Str) : catAll (a ++ b) = catAll a ++ catAll b := sL_inj (by rw [sL_app, sL_cat, sL_cat, sL_cat, List.flatMap_append])
theorem cats_eq : ∀ (l : List Str) (d : Str), cats d l = d ++ catAll l
  | [], d => sL_inj (by rw [sL_app, sL_cat]; show sL d = _; simp)
  | a :: l, d => by
    show cats (d ++ a) l = _
    rw [cats_eq l]
    exact sL_inj (by simp only [sL_app, sL_cat, List.flatMap_cons, List.append_assoc])
theorem slen (s : Str) : s.length = (sL s).length := by unfold sL Str.length; simp
noncomputable def sixM (m : Nat) : List (Str × Str × Str) := (List.range 6).map fun n => (ones.getD n u0, klT n, Str.ofString "<" ++ (toString (m : Int) : String))
noncomputable def allM (m : Nat) : List (Str × Str × Str) := sixM m ++ zAt
theorem six_M (x : Int) : ∃ m, m ∈ List.range 10 ∧ sixAt x ++ zAt = allM m := by
  have h := fmod_in x 10 (by decide)
  refine ⟨(x.fmod 10).toNat, List.mem_range.mpr (by walk_at "om"), ?_⟩
  have e : ((x.fmod 10).toNat : Int) = x.fmod 10 := by walk_at "om"
  unfold allM sixM sixAt txT
  rw [e]
noncomputable def atW (e : Str × Str × Str) : Str × Str := (if ((e.1.length : Int) != 0) = true then nm (pfx e.1) e.2.1 else e.2.1, e.2.2)
noncomputable def nameS : List Str := [Str.ofString "x", Str.ofString "y", Str.ofString "z", Str.ofString "k", Str.ofString "l", Str.ofString "a"]
theorem all_one : ∀ m ∈ List.range 10, ∀ e ∈ allM m, e.1 ∈ URIS ∧ e.2.1 ∈ nameS ∧ e.2.1.length ≤ 10 ∧ e.2.2.length ≤ 10 ∧ (refT VAL e.2.2).length ≤ 100 ∧ atT (atW e) = atD e ∧ keyOf e.1 e.2.1 ≠ Str.ofString "{http://www.w3.org/XML/1998/namespace}space" ∧ (atD e).length ≤ 200 := by decide +kernel
theorem all_lt : ∀ m ∈ List.range 10, ∀ a ∈ allM m, ∀ b ∈ allM m, ltS (pl (katt a)) (pl (katt b)) = ltS (tl a) (tl b) := by decide +kernel
theorem all_keys : ∀ m ∈ List.range 10, ((allM m).map fun e => keyOf e.1 e.2.1).Nodup := by decide +kernel
theorem ns_txt : ∀ v ∈ URIS, atT (xmT (pfx v), v) = nsD (pfx v, v) ∧ (nsD (pfx v, v)).length ≤ 200 := by decide +kernel
theorem tag_txt : ∀ v ∈ URIS, ∀ n ∈ nameS, nm (pfx v) n = tagT v n ∧ (tagT v n).length ≤ 100 := by decide +kernel
noncomputable def splN (q : Str) : Str × Str := if (stake q 1 == Str.ofString "{") = true then (match Txt.rsplitMax (sdrop q 1) (Str.ofString "}") 1 with
  | [a, b] => (a, b)
  | _ => (u0, q)) else (u0, q)
theorem key_spl0 : ∀ v ∈ URIS, ∀ n ∈ nameS, splN (keyOf v n) = (v, n) ∧ (((stake (keyOf v n) 1 == Str.ofString "{") = true ∧ Txt.rsplitMax (sdrop (keyOf v n) 1) (Str.ofString "}") 1 = [v, n]) ∨ ((stake (keyOf v n) 1 == Str.ofString "{") = false ∧ v = Str.ofString "" ∧ n = keyOf v n)) ∧ (keyOf v n).length ≤ 900 ∧ v.length ≤ 100 ∧ n.length ≤ 10 := by decide +kernel
theorem key_ok {v n : Str} (hv : v ∈ URIS) (hn : n ∈ nameS) : splN (keyOf v n) = (v, n) ∧ Qn (keyOf v n) v n ∧ NameOk splN (keyOf v n) := by
  obtain ⟨h1, h2, h3, h4, h5⟩ := key_spl0 v hv n hn
  refine ⟨h1, h2, ?_⟩
  unfold NameOk
  rw [h1]
  exact ⟨h2, h3, by show v.length ≤ 900; walk_at "om", by show n.length ≤ 900; walk_at "om"⟩
theorem getD_in {α : Type} {l : List α} {i : Nat} {d : α} (h : i < l.length) : l.getD i d ∈ l := by
  rw [List.getD_eq_getElem?_getD, List.getElem?_eq_getElem h]
  exact List.getElem_mem h
theorem sort_at {m : Nat} (hm : m ∈ List.range 10) {as : List (Str × Str × Str)} (ha : ∀ e ∈ as, e ∈ allM m) : sortP (as.map katt) = (sort3 as).map katt := by
  have e : ordIx (ksLt ((as.map katt).map pl)) as.length = ordIx (ksLt (as.map tl)) as.length := ordIx_congr fun i j hi hj => by
    show ltS (((as.map katt).map pl).getD i []) (((as.map katt).map pl).getD j []) = ltS ((as.map tl).getD i []) ((as.map tl).getD j [])
    rw [List.map_map, getD_map (pl ∘ katt) as i (u0, u0, u0) [] hi, getD_map (pl ∘ katt) as j (u0, u0, u0) [] hj, getD_map tl as i (u0, u0, u0) [] hi, getD_map tl as j (u0, u0, u0) [] hj]
    exact all_lt m hm _ (ha _ (getD_in hi)) _ (ha _ (getD_in hj))
  unfold sortP sort3
  rw [List.length_map, e]
  exact map_getD katt as _ _ _ fun i hi => ordIx_lt i hi
noncomputable def ORD : List Str := [u0, uD, uE, uA, uC, uB, uS]
noncomputable def exts : Nat → List (List Str)
  | 0 => [[]]
  | k + 1 => [] :: ORD.flatMap fun u => ((exts k).filter fun l => !(l.map pfx).contains (pfx u)).map (u :: ·)
theorem mem_exts : ∀ (k : Nat) (vs : List Str), vs.length ≤ k → (∀ v ∈ vs, v ∈ ORD) → (vs.map pfx).Nodup → vs ∈ exts k
  | 0, [], _, _, _ => .head _
  | 0, _ :: _, h, _, _ => by simp at h
  | k + 1, [], _, _, _ => .head _
  | k + 1, v :: vs, h, hv, hn => by
    rw [List.map_cons, List.nodup_cons] at hn
    refine .tail _ (List.mem_flatMap.mpr ⟨v, hv v List.mem_cons_self, List.mem_map.mpr ⟨vs, List.mem_filter.mpr ⟨mem_exts k vs (by simp at h; walk_at "om") (fun w hw => hv w (.tail _ hw)) hn.2, ?_⟩, rfl⟩⟩)
    simpa using hn.1
noncomputable def ordOf (vs : List Str) : List Str := ORD.filter fun u => vs.contains u
theorem exts_ok : ∀ vs ∈ exts 4, sortP ((prs vs).map nsQ) = (ordOf vs).map (fun v => (xmT (pfx v), v)) ∧ sortP (vs.map fun v => (pfx v, v)) = (ordOf vs).map (fun v => (pfx v, v)) := by decide +kernel
theorem pfx_four : ∀ v ∈ ORD, pfx v ∈ [u0, Str.ofString "p", Str.ofString "q", Str.ofString "xs"] := by decide +kernel
theorem nodup_len {α : Type} [DecidableEq α] : ∀ {l m : List α}, l.Nodup → (∀ a ∈ l, a ∈ m) → l.length ≤ m.length
  | [], m, _, _ => Nat.zero_le _
  | a :: l, m, hn, hs => by
    rw [List.nodup_cons] at hn
    have h1 : a ∈ m := hs a List.mem_cons_self
    have h2 := nodup_len (m := m.erase a) hn.2 fun b hb => (List.mem_erase_of_ne fun (e : b = a) => hn.1 (e ▸ hb)).mpr (hs b (.tail _ hb))
    rw [List.length_erase_of_mem h1] at h2
    have := List.length_pos_of_mem h1
    rw [List.length_cons]
    walk_at "om"
theorem sort_ns {vs ws : List Str} (hp : vs.Perm ws) (hu : ∀ v ∈ ws, v ∈ ORD) (hn : (ws.map pfx).Nodup) : sortP ((prs vs).map nsQ) = (sortP (ws.map fun v => (pfx v, v))).map fun e => (xmT e.1, e.2) := by
  have hl : ws.length ≤ 4 := by
    have := nodup_len (m := [u0, Str.ofString "p", Str.ofString "q", Str.ofString "xs"]) hn fun a ha => by
      obtain ⟨v, hv, rfl⟩ := List.mem_map.mp ha
      exact pfx_four v (hu v hv)
    simpa using this
  have h1 := (exts_ok ws (mem_exts 4 ws hl hu hn)).2
  have h2 := (exts_ok vs (mem_exts 4 vs (by rw [hp.length_eq]; exact hl) (fun v hv => hu v (hp.mem_iff.mp hv)) ((hp.map pfx).nodup_iff.mpr hn))).1
  have e : ordOf vs = ordOf ws := List.filter_congr fun u _ => by
    have := hp.mem_iff (a := u)
    by_cases h : u ∈ vs
    · rw [show vs.contains u = true from by simpa using h, show ws.contains u = true from by simpa using this.mp h]
    · rw [show vs.contains u = false from by simpa using h, show ws.contains u = false from by simpa using fun q => h (this.mpr q)]
  rw [h1, h2, e, List.map_map]
  rfl
theorem ord_uris : ∀ v ∈ ORD, v ∈ URIS := by decide +kernel
theorem ord_of : ∀ v ∈ URIS, v ≠ uX → v ∈ ORD := by decide +kernel
theorem outC_txt (tx : Str) (al : List (Str × Str)) : catAll (outC tx al) = Str.ofString "<" ++ tx ++ catAll (al.map atT) ++ Str.ofString ">" := by
  unfold outC
  refine sL_inj ?_
  by_cases h : al = []
  · subst h
    simp only [if_pos, sL_app, sL_cat, List.flatMap_append, List.flatMap_cons, List.flatMap_nil, List.map_nil, List.append_nil, List.append_assoc]
  · rw [if_neg h]
    simp only [sL_app, sL_cat, List.flatMap_append, List.flatMap_cons, List.flatMap_nil, List.append_nil, List.append_assoc]
theorem start_txt {m : Nat} (hm : m ∈ List.range 10) {as : List (Str × Str × Str)} (ha : ∀ e ∈ as, e ∈ allM m) {vs ws : List Str} (hp : vs.Perm ws) (hu : ∀ v ∈ ws, v ∈ ORD) (hn : (ws.map pfx).Nodup) {pq : PQ} (hpq : ∀ e ∈ as, pq (katt e).1 = (nm (pfx e.1) e.2.1, e.2.1, e.1)) (due tx : Str) :
    due ++ catAll (outC tx (sortP ((prs vs).map nsQ) ++ (sortP (as.map katt)).map (atQ pq))) = dueS due tx (ws.map fun v => (pfx v, v)) as := by
  have e1 : (sortP ((prs vs).map nsQ)).map atT = (sortP (ws.map fun v => (pfx v, v))).map nsD := by
    rw [sort_ns hp hu hn, List.map_map]
    refine List.map_congr_left fun e he => ?_
    obtain ⟨v, hv, rfl⟩ := List.mem_map.mp ((sortP_perm _).mem_iff.mp he)
    exact (ns_txt v (ord_uris v (hu v hv))).1
  have e2 : ((sortP (as.map katt)).map (atQ pq)).map atT = (sort3 as).map atD := by
    rw [sort_at hm ha, List.map_map, List.map_map]
    refine List.map_congr_left fun e he => ?_
    have he' := (sort3_perm as).mem_iff.mp he
    rw [← (all_one m hm e (ha e he')).2.2.2.2.2.1]
    show atT (atQ pq (katt e)) = _
    congr 1
    unfold atQ atW
    rw [hpq e he']
    rfl
  unfold dueS
  rw [cats_eq, cats_eq, outC_txt, List.map_append, e1, e2, catAll_app]
  exact sL_inj (by simp only [sL_app, List.append_assoc])
theorem escC_app (a b : Str) : escC (a ++ b) = escC a ++ escC b := sL_inj (by
  rw [sL_app]
  show (escC (a ++ b)).cps.toList = (escC a).cps.toList ++ (escC b).cps.toList
  rw [escC_flat, escC_flat, escC_flat, Str.cps_append, Array.toList_append, List.flatMap_append])
theorem escC_nil : escC (catAll []) = u0 := sL_inj (by
  show (escC (catAll [])).cps.toList = _
  rw [escC_flat]; rfl)
theorem dT_txt (q : Int) : escC (dT q) = refT CON (dT q) := by
  have m := fmod_in q 2 (by decide)
  unfold dT
  have : q.fmod 2 = 0 ∨ q.fmod 2 = 1 := by walk_at "om"
  rcases this with e | e <;> rw [e] <;> decide +kernel
end
section
noncomputable def sXml : Str := Str.ofString "xml"
noncomputable def sXs : Str := Str.ofString "xs"
theorem pfx_xml : ∀ v ∈ URIS, pfx v = sXml → v = uX := by decide +kernel
theorem pfx_xs : ∀ v ∈ URIS, pfx v = sXs → v = uS := by decide +kernel
theorem pfx_uX : pfx uX = sXml := by decide +kernel
theorem nodup_on {α β : Type} {f : α → β} : ∀ {l : List α}, l.Nodup → (∀ a ∈ l, ∀ b ∈ l, f a = f b → a = b) → (l.map f).Nodup
  | [], _, _ => .nil
  | a :: l, hn, hi => by
    rw [List.nodup_cons] at hn
    rw [List.map_cons, List.nodup_cons]
    refine ⟨fun hm => ?_, nodup_on hn.2 fun x hx y hy => hi x (.tail _ hx) y (.tail _ hy)⟩
    obtain ⟨b, hb, e⟩ := List.mem_map.mp hm
    exact hn.1 (hi a List.mem_cons_self b (.tail _ hb) e.symm ▸ hb)
structure Top (back : Bool) (j : Nat) (D N d w : List (Str × Str)) : Prop where
  dx : (uX, sXml) ∈ D
  dok : ∀ e ∈ D, e.1 ∈ URIS ∧ e.2 = pfx e.1 ∧ (back = false → e.1 ≠ u0)
  nok : ∀ e ∈ N, (e.1 ∈ URIS → e.2 = pfx e.1) ∧ (back = false → e.1 ≠ u0) ∧ e.2.length ≤ 900
  nx : (uX, pfx uX) ∈ N
  ns : (uS, pfx uS) ∈ N
  wl : ∀ p, w.lookup p = lkp p D
  wn : (w.map (·.1)).Nodup
  dn : (d.map (·.1)).Nodup
  ds : ∀ p u, d.lookup p = some u → (u, p) ∈ N
  dd : ∀ e ∈ D, e.2 = sXml ∨ e.2 = sXs ∨ (d.lookup e.2).isSome = true
  dz : d.length ≤ 8 * j
  wz : w.length ≤ 1 + 9 * j
noncomputable abbrev wr0 : List (Str × Str) := [(sXml, uX)]
inductive Lv (back : Bool) : Stk → Stk → List (Str × Str) → List (List (Str × Str)) → List (List (Str × Str)) → Prop
  | base {a0 aM aE : Addr} {l : List (Str × Str)} : Top back 0 (flat [(a0, [xmlP])]) (flat ([(aM, NSM)] ++ [(aE, l)])) [] wr0 → Lv back [(a0, [xmlP])] ([(aM, NSM)] ++ [(aE, l)]) [] ([] ++ [[]]) ([] ++ [wr0])
  | snoc {decl ns : Stk} {op : List (Str × Str)} {sc wr : List (List (Str × Str))} {a aN : Addr} {l t d w : List (Str × Str)} {u n : Str} : Lv back decl ns op sc wr → Top back (op.length + 1) (flat (decl ++ [(a, l)])) (flat (ns ++ [(aN, t)])) d w → u ∈ URIS → n ∈ nameS → look w (pfx u) u0 = u →
    Lv back (decl ++ [(a, l)]) (ns ++ [(aN, t)]) (op ++ [(tagT u n, keyOf u n)]) (sc ++ [d]) (wr ++ [w])
theorem Lv.top {back : Bool} {decl ns : Stk} {op : List (Str × Str)} {sc wr : List (List (Str × Str))} (h : Lv back decl ns op sc wr) : ∃ sc0 d wr1 w, sc = sc0 ++ [d] ∧ wr = wr1 ++ [w] ∧ Top back op.length (flat decl) (flat ns) d w := by
  cases h with
  | base h => exact ⟨[], [], [], wr0, rfl, rfl, h⟩
  | snoc h1 h2 h3 h4 h5 => exact ⟨_, _, _, _, rfl, rfl, by rw [List.length_append]; exact h2⟩
theorem Lv.len {back : Bool} {decl ns : Stk} {op : List (Str × Str)} {sc wr : List (List (Str × Str))} (h : Lv back decl ns op sc wr) : decl.length = op.length + 1 ∧ ns.length = op.length + 2 ∧ sc.length = op.length + 1 ∧ wr.length = op.length + 1 := by
  induction h with
  | base h => exact ⟨rfl, rfl, rfl, rfl⟩
  | snoc h1 h2 h3 h4 h5 ih => simp only [List.length_append, List.length_singleton]; walk_at "om"
noncomputable def tellNs (ns : Stk) (e : Str × Str) : Stk := match ns.reverse with
  | [] => []
  | (a, l) :: r => r.reverse ++ [(a, l ++ [(e.2, e.1)])]
theorem tell_app (ns : Stk) (a : Addr) (l : List (Str × Str)) (e : Str × Str) : tellNs (ns ++ [(a, l)]) e = ns ++ [(a, l ++ [(e.2, e.1)])] := by
  unfold tellNs
  rw [List.reverse_append]
  show ns.reverse.reverse ++ _ = _
  rw [List.reverse_reverse]
structure TellOk (back : Bool) (e : Str × Str) : Prop where
  u : e.2 ∈ URIS
  p : e.1 = pfx e.2
  b : back = false → e.2 ≠ u0
theorem Top.tell {back : Bool} {j : Nat} {D d w : List (Str × Str)} {ns : Stk} {a : Addr} {l : List (Str × Str)} {e : Str × Str} (h : Top back j D (flat (ns ++ [(a, l)])) d w) (he : TellOk back e) : Top back j D (flat (ns ++ [(a, l ++ [(e.2, e.1)])])) d w := by
  have hin : ∀ x, x ∈ flat (ns ++ [(a, l ++ [(e.2, e.1)])]) ↔ x ∈ flat (ns ++ [(a, l)]) ∨ x = (e.2, e.1) := fun x => by
    rw [flat_snoc, flat_snoc]
    simp only [List.mem_append, List.mem_singleton]
    constructor
    · rintro ((a | b) | c)
      · exact .inl (.inl a)
      · exact .inr b
      · exact .inl (.inr c)
    · rintro ((a | b) | c)
      · exact .inl (.inl a)
      · exact .inr b
      · exact .inl (.inr c)
  refine ⟨h.dx, h.dok, fun x hx => ?_, (hin _).mpr (.inl h.nx), (hin _).mpr (.inl h.ns), h.wl, h.wn, h.dn, fun p u q => (hin _).mpr (.inl (h.ds p u q)), h.dd, h.dz, h.wz⟩
  rcases (hin x).mp hx with hx | rfl
  · exact h.nok x hx
  · exact ⟨fun _ => he.p, he.b, by show e.1.length ≤ 900; rw [he.p]; exact pfx_len9 _ he.u⟩
theorem Lv.tell {back : Bool} {decl ns : Stk} {op : List (Str × Str)} {sc wr : List (List (Str × Str))} {e : Str × Str} (h : Lv back decl ns op sc wr) (he : TellOk back e) : Lv back decl (tellNs ns e) op sc wr := by
  cases h with
  | base h => rw [tell_app]; exact .base (h.tell he)
  | snoc h1 h2 h3 h4 h5 => rw [tell_app]; exact .snoc h1 (h2.tell he) h3 h4 h5
theorem Lv.snocNs {back : Bool} {decl ns : Stk} {op : List (Str × Str)} {sc wr : List (List (Str × Str))} (h : Lv back decl ns op sc wr) : ∃ ns0 a l, ns = ns0 ++ [(a, l)] := by
  cases h with
  | base h => exact ⟨_, _, _, rfl⟩
  | snoc h1 h2 h3 h4 h5 => exact ⟨_, _, _, rfl⟩
theorem tell_mem {ns : Stk} {e x : Str × Str} (h : ∃ ns0 a l, ns = ns0 ++ [(a, l)]) : x ∈ flat (tellNs ns e) ↔ x ∈ flat ns ∨ x = (e.2, e.1) := by
  obtain ⟨ns0, a, l, rfl⟩ := h
  rw [tell_app, flat_snoc, flat_snoc]
  simp only [List.mem_append, List.mem_singleton]
  constructor
  · rintro ((a | b) | c)
    · exact .inl (.inl a)
    · exact .inr b
    · exact .inl (.inr c)
  · rintro ((a | b) | c)
    · exact .inl (.inl a)
    · exact .inr b
    · exact .inl (.inr c)
theorem tell_len {ns : Stk} {e : Str × Str} (h : ∃ ns0 a l, ns = ns0 ++ [(a, l)]) : (flat (tellNs ns e)).length = (flat ns).length + 1 := by
  obtain ⟨ns0, a, l, rfl⟩ := h
  rw [tell_app, flat_snoc, flat_snoc]
  simp only [List.length_append, List.length_singleton]
  walk_at "om"
theorem Lv.tells {back : Bool} {decl : Stk} {op : List (Str × Str)} {sc wr : List (List (Str × Str))} : ∀ (es : List (Str × Str)) (ns : Stk), Lv back decl ns op sc wr → (∀ e ∈ es, TellOk back e) → Lv back decl (es.foldl tellNs ns) op sc wr ∧ (∀ e ∈ es, (e.2, e.1) ∈ flat (es.foldl tellNs ns)) ∧ (∀ x ∈ flat ns, x ∈ flat (es.foldl tellNs ns)) ∧ (flat (es.foldl tellNs ns)).length = (flat ns).length + es.length
  | [], ns, h, _ => ⟨h, fun e he => (by cases he), fun x hx => hx, rfl⟩
  | e :: es, ns, h, he => by
    have h1 := h.tell (he e List.mem_cons_self)
    obtain ⟨a, b, c, d⟩ := Lv.tells es (tellNs ns e) h1 fun x hx => he x (.tail _ hx)
    have hm := fun x => tell_mem (x := x) (e := e) h.snocNs
    refine ⟨a, fun x hx => ?_, fun x hx => c x ((hm x).mpr (.inl hx)), ?_⟩
    · rcases List.mem_cons.mp hx with rfl | hx
      · exact c _ ((hm _).mpr (.inr rfl))
      · exact b x hx
    · show (flat (es.foldl tellNs (tellNs ns e))).length = _
      rw [d, tell_len h.snocNs, List.length_cons]
      walk_at "om"
inductive InvX (back : Bool) (decl ns : Stk) (op : List (Str × Str)) (sc wr : List (List (Str × Str))) : Prop
  | mk (decl0 : Stk) (a : Addr) (l : List (Str × Str)) (ns0 : Stk) (e' : Addr × List (Str × Str)) (op0 : List (Str × Str)) (u n : Str) (sc0 : List (List (Str × Str))) (d : List (Str × Str)) (wr1 : List (List (Str × Str))) (w : List (Str × Str)) (h1 : decl = decl0 ++ [(a, l)]) (h2 : ns = ns0 ++ [e']) (h3 : op = op0 ++ [(tagT u n, keyOf u n)]) (h4 : sc = sc0 ++ [d]) (h5 : wr = wr1 ++ [w]) (h6 : Lv back decl0 ns0 op0 sc0 wr1) (h7 : u ∈ URIS) (h8 : n ∈ nameS) (h9 : qnR u (flat decl) (flat ns) = some (pfx u, false)) : InvX back decl ns op sc wr
theorem Lv.inv {back : Bool} {decl ns : Stk} {op : List (Str × Str)} {sc wr : List (List (Str × Str))} (h : Lv back decl ns op sc wr) (ho : op ≠ []) : InvX back decl ns op sc wr := by
  cases h with
  | base h => exact absurd rfl ho
  | snoc h1 h2 h3 h4 h5 =>
    refine ⟨_, _, _, _, _, _, _, _, _, _, _, _, rfl, rfl, rfl, rfl, rfl, h1, h3, h4, qn_old (fun e he hu => by rw [(h2.dok e he).2.1, hu]) ?_⟩
    unfold look at h5
    rw [h2.wl] at h5
    exact h5
theorem perm_nodup {vs ws : List Str} : vs.Nodup → ws.Nodup → (∀ v, v ∈ vs ↔ v ∈ ws) → vs.Perm ws := fun h1 h2 h3 => (List.perm_ext_iff_of_nodup h1 h2).mpr h3
theorem urisOf_mem {uri : Str} {as : List (Str × Str × Str)} {v : Str} : v ∈ urisOf uri as ↔ v = uri ∨ v ≠ u0 ∧ v ∈ as.map (·.1) := by
  unfold urisOf
  rw [List.mem_cons, List.mem_map, List.mem_map]
  constructor
  · rintro (h | ⟨e, he, rfl⟩)
    · exact .inl h
    · rw [List.mem_filter] at he
      exact .inr ⟨by simpa using he.2, e, he.1, rfl⟩
  · rintro (h | ⟨h0, e, he, rfl⟩)
    · exact .inl h
    · exact .inr ⟨e, List.mem_filter.mpr ⟨he, by simpa using h0⟩, rfl⟩
theorem urisOf_len (uri : Str) (as : List (Str × Str × Str)) : (urisOf uri as).length ≤ 1 + as.length := by
  unfold urisOf
  rw [List.length_cons, List.length_map]
  have := List.length_filter_le (fun e : Str × Str × Str => e.1 != u0) as
  walk_at "om"
theorem lkp_perm {vs ws S : List Str} (hp : vs.Perm ws) (hs : ∀ v ∈ ws, v ∈ S) (ho : ∀ v ∈ S, ∀ w ∈ S, pfx v = pfx w → v = w) (p : Str) : lkp p (prs vs) = lkp p (prs ws) := by
  cases hk : lkp p (prs vs) with
  | none =>
    rw [lkp_none, prs2] at hk
    exact (lkp_none.mpr (by rw [prs2]; exact fun h => hk ((hp.map _).mem_iff.mpr h))).symm
  | some v =>
    obtain ⟨v', h1, h2⟩ := List.mem_map.mp (lkp_mem hk)
    have a1 : v' = v := congrArg Prod.fst h2
    have a2 : pfx v' = p := congrArg Prod.snd h2
    subst a1 a2
    have hw := hp.mem_iff.mp h1
    rw [lkp_prs hs ho (hs _ hw), if_pos hw]
noncomputable def pqN (names : List Str) (q : Str) : Str × Str × Str := if q ∈ names then (nm (pfx (splN q).1) (splN q).2, (splN q).2, (splN q).1) else (u0, u0, u0)
theorem merge_QS (a b : List (Str × Str)) : mergeS a b = mergeQ a b := rfl
inductive OpenX (back : Bool) (decl ns : Stk) (op : List (Str × Str)) (sc0 wr1 : List (List (Str × Str))) (d w : List (Str × Str)) (u : Uses) (out : List Str) : Prop
  | mk (pq : PQ) (vs ws : List Str) (h0 : Parse (flat ns) (flat decl) splN pq out [] (prs vs)) (h1 : (∀ q, (pq q).1.length ≤ 1000 ∧ (pq q).2.1.length ≤ 1000 ∧ (pq q).2.2.length ≤ 1000)) (h2 : vs.length ≤ 9) (h3 : (∀ v ∈ ws, v ∈ ORD)) (h4 : (ws.map pfx).Nodup) (h5 : vs.Perm ws) (h6 : (pq (keyOf u.uri u.name)).1 = tagT u.uri u.name) (h7 : (∀ e ∈ u.attrs, pq (katt e).1 = (nm (pfx e.1) e.2.1, e.2.1, e.1))) (h8 : (snOf w (urisOf u.uri u.attrs)).2 = ws.map (fun v => (pfx v, v))) (h9 : ∀ a aN, Lv back (decl ++ [(a, prs vs)]) (ns ++ [(aN, [])]) (op ++ [(tagT u.uri u.name, keyOf u.uri u.name)]) (sc0 ++ [d] ++ [mergeS d (mergeS [] u.told)]) (wr1 ++ [w] ++ [(snOf w (urisOf u.uri u.attrs)).1])) : OpenX back decl ns op sc0 wr1 d w u out
theorem open_ok {back : Bool} {decl ns : Stk} {op : List (Str × Str)} {sc0 wr1 : List (List (Str × Str))} {d w : List (Str × Str)} {x : Int} {u : Uses} (lv : Lv back decl ns op (sc0 ++ [d]) (wr1 ++ [w])) (tp : Top back op.length (flat decl) (flat ns) d w) (hu : UOk back d x u) (ht : ∀ e ∈ u.told, (e.2, e.1) ∈ flat ns) (out : List Str) (hout : out.Perm (addsS [keyOf u.uri u.name] ((u.attrs.map katt).map (·.1)))) :
    OpenX back decl ns op sc0 wr1 d w u out := by
  obtain ⟨m, hm, hM⟩ := six_M x
  have hall : ∀ e ∈ u.attrs, e ∈ allM m := fun e he => by
    obtain ⟨as0, h1, h2⟩ := hu.ats
    rw [← hM]
    exact h2.subset (h1.mem_iff.mp he)
  have halen : u.attrs.length ≤ 8 := by
    obtain ⟨as0, h1, h2⟩ := hu.ats
    rw [h1.length_eq]
    refine Nat.le_trans h2.length_le ?_
    simp [sixAt, zAt]
  have hname : u.name ∈ nameS := by
    have : ∀ n ∈ [Str.ofString "x", Str.ofString "y", Str.ofString "z"], n ∈ nameS := by decide +kernel
    exact this _ hu.name
  have hS : ∀ v ∈ urisOf u.uri u.attrs, v ∈ URIS := fun v hv => by
    rcases urisOf_mem.mp hv with rfl | ⟨h1, h2⟩
    · exact hu.uri
    · obtain ⟨e, he, rfl⟩ := List.mem_map.mp h2
      exact hu.ain e he h1
  have ho : ∀ v ∈ urisOf u.uri u.attrs, ∀ w ∈ urisOf u.uri u.attrs, pfx v = pfx w → v = w := fun v hv w hw => hu.one v w (urisOf_mem.mp hv) (urisOf_mem.mp hw)
  have hlk : ∀ p, look w p u0 = lk0 p (flat decl) := fun p => by unfold look lk0; rw [tp.wl]
  -- the scope says what the nearest declaration says
  have hd0 : d.lookup u0 = none → lk0 u0 (flat decl) = u0 := fun hn => by
    unfold lk0
    cases hk : lkp u0 (flat decl) with
    | none => rfl
    | some v =>
      rcases tp.dd _ (lkp_mem hk) with h | h | h
      · exact absurd h (by show ¬ u0 = sXml; decide +kernel)
      · exact absurd h (by show ¬ u0 = sXs; decide +kernel)
      · rw [show d.lookup (v, u0).2 = none from hn] at h; cases h
  have hP : ParsIn (flat ns) (flat decl) (urisOf u.uri u.attrs) := by
    refine ⟨fun e he _ => (tp.dok e he).2.1, fun e he h => (tp.nok e he).1 h, fun v hv => ⟨hS v hv, ?_⟩, ho⟩
    rcases hu.tin v (urisOf_mem.mp hv) with h | h | h | ⟨h1, h2⟩
    · rw [pfx_xml v (hS v hv) h]; exact .inr tp.nx
    · rw [pfx_xs v (hS v hv) h]; exact .inr tp.ns
    · exact .inr (ht _ h)
    · unfold look at h2
      cases hl : d.lookup (pfx v) with
      | some v' =>
        rw [hl] at h2
        have : v' = v := h2
        subst this
        exact .inr (tp.ds _ _ hl)
      | none =>
        rw [hl] at h2
        have : u0 = v := h2
        subst this
        rw [pfx_u0] at hl ⊢
        exact .inl (hd0 hl)
  obtain ⟨f1, f2, f3, f4⟩ := adds_facts (keyOf u.uri u.name) ((u.attrs.map katt).map (·.1))
  have hnm : ∀ q ∈ keyOf u.uri u.name :: (u.attrs.map katt).map (·.1), ∃ v n, q = keyOf v n ∧ v ∈ URIS ∧ n ∈ nameS ∧ splN q = (v, n) ∧ (v ∈ urisOf u.uri u.attrs ∨ (v = u0 ∧ back = false)) := fun q hq => by
    rcases List.mem_cons.mp hq with rfl | hq
    · exact ⟨_, _, rfl, hu.uri, hname, (key_ok hu.uri hname).1, .inl (urisOf_mem.mpr (.inl rfl))⟩
    · rw [List.map_map] at hq
      obtain ⟨e, he, rfl⟩ := List.mem_map.mp hq
      obtain ⟨a1, a2, _⟩ := all_one m hm e (hall e he)
      refine ⟨e.1, e.2.1, rfl, a1, a2, (key_ok a1 a2).1, ?_⟩
      by_cases h0 : e.1 = u0
      · refine .inr ⟨h0, ?_⟩
        cases hb : back with
        | false => rfl
        | true => exact absurd h0 (hu.abk hb e he)
      · exact .inl (urisOf_mem.mpr (.inr ⟨h0, List.mem_map.mpr ⟨e, he, rfl⟩⟩))
  let names := keyOf u.uri u.name :: (u.attrs.map katt).map (·.1)
  have hpq : ∀ v n, v ∈ URIS → n ∈ nameS → keyOf v n ∈ names → pqN names (keyOf v n) = (nm (pfx v) n, n, v) := fun v n hv hn hin => by
    unfold pqN
    rw [if_pos hin, (key_ok hv hn).1]
  obtain ⟨vs, v1, v2, v3⟩ := parse_ok (pq := pqN names) hP out [] (fun q hq => by
    have hq' : q ∈ names := f4 q (hout.mem_iff.mp hq)
    obtain ⟨v, n, e1, e2, e3, e4, e5⟩ := hnm q hq'
    refine ⟨by unfold pqN; rw [if_pos hq'], ?_⟩
    rw [e4]
    rcases e5 with e5 | ⟨e5, hb⟩
    · exact .inl e5
    · exact .inr ⟨e5, fun e he => (tp.dok e he).2.2 hb, fun e he => (tp.nok e he).2.1 hb⟩) .nil (fun v hv => by cases hv) (fun v hv => by cases hv)
  have v4 : ∀ v, v ∈ vs ↔ v ∈ urisOf u.uri u.attrs ∧ lk0 (pfx v) (flat decl) ≠ v := fun v => by
    rw [v3]
    constructor
    · rintro (h | ⟨a, b, c⟩)
      · cases h
      · exact ⟨a, c⟩
    · rintro ⟨a, c⟩
      refine .inr ⟨a, ?_, c⟩
      rcases urisOf_mem.mp a with rfl | ⟨h1, h2⟩
      · exact List.mem_map.mpr ⟨_, hout.mem_iff.mpr f1, by rw [(key_ok hu.uri hname).1]⟩
      · obtain ⟨e, he, rfl⟩ := List.mem_map.mp h2
        obtain ⟨a1, a2, _⟩ := all_one m hm e (hall e he)
        exact List.mem_map.mpr ⟨(katt e).1, hout.mem_iff.mpr (f2 _ (List.mem_map.mpr ⟨_, List.mem_map.mpr ⟨e, he, rfl⟩, rfl⟩)), by rw [show (katt e).1 = keyOf e.1 e.2.1 from rfl, (key_ok a1 a2).1]⟩
  obtain ⟨ws, so⟩ := sn_ok (w0 := w) (S := urisOf u.uri u.attrs) tp.wn ho
  have hpm : vs.Perm ws := perm_nodup v2 so.nd fun v => by
    rw [v4]
    constructor
    · exact fun ⟨a, b⟩ => (so.mm v a).mpr ⟨a, by rw [hlk]; exact b⟩
    · intro h
      have a := so.ms v h
      exact ⟨a, by rw [← hlk]; exact ((so.mm v a).mp h).2⟩
  have hwn := so.wn
  have hul := urisOf_len u.uri u.attrs
  have etold : mergeS [] u.told = u.told := by rw [merge_QS, merge_new _ _ (by simpa using hu.tnd)]; rfl
  -- no namespace is not declared where it may not be taken back
  have hnb : back = false → u0 ∉ vs := fun hb h => by
    obtain ⟨a, b⟩ := (v4 u0).mp h
    rcases urisOf_mem.mp a with h0 | ⟨h0, _⟩
    · have hd := hu.nob hb h0.symm
      cases hl : d.lookup u0 with
      | none => rw [pfx_u0] at b; exact b (hd0 hl)
      | some v =>
        unfold look at hd
        rw [hl] at hd
        have : v = u0 := hd
        subst this
        exact (tp.nok _ (tp.ds _ _ hl)).2.1 hb rfl
    · exact h0 rfl
  have hlook : ∀ p, (mergeS d u.told).lookup p = (u.told.lookup p).or (d.lookup p) := fun p => by
    rw [merge_QS]
    cases hl : u.told.lookup p with
    | none => rw [merge_none _ _ (look_none.mp hl)]; rfl
    | some v => rw [merge_some _ _ hu.tnd (look_mem hl)]; rfl
  refine ⟨pqN names, vs, ws, v1, fun q => ?_, ?_, fun v hv => ?_, nodup_on so.nd fun a ha b hb e => ho a (so.ms a ha) b (so.ms b hb) e, hpm, ?_, fun e he => ?_, so.nw, fun a aN => ?_⟩
  · by_cases hq : q ∈ names
    · obtain ⟨v, n, e1, e2, e3, e4, e5⟩ := hnm q hq
      obtain ⟨_, _, k3, k4, k5⟩ := key_spl0 v e2 n e3
      have := (tag_txt v e2 n e3).2
      subst e1
      rw [hpq v n e2 e3 hq, (tag_txt v e2 n e3).1]
      exact ⟨by show (tagT v n).length ≤ 1000; walk_at "om", by show n.length ≤ 1000; walk_at "om", by show v.length ≤ 1000; walk_at "om"⟩
    · unfold pqN
      rw [if_neg hq]
      exact ⟨by decide, by decide, by decide⟩
  · rw [hpm.length_eq]
    walk_at "om"
  · refine ord_of v (hS v (so.ms v hv)) fun e => ?_
    have h3 := ((v4 v).mp (hpm.mem_iff.mpr hv)).2
    rw [e, pfx_uX] at h3
    unfold lk0 at h3
    cases hk : lkp sXml (flat decl) with
    | none => exact lkp_none.mp hk (List.mem_map.mpr ⟨_, tp.dx, rfl⟩)
    | some u2 =>
      rw [hk] at h3
      have h4 := tp.dok _ (lkp_mem hk)
      exact h3 (pfx_xml u2 h4.1 h4.2.1.symm)
  · rw [hpq u.uri u.name hu.uri hname List.mem_cons_self, (tag_txt _ hu.uri _ hname).1]
  · obtain ⟨a1, a2, _⟩ := all_one m hm e (hall e he)
    exact hpq e.1 e.2.1 a1 a2 (.tail _ (List.mem_map.mpr ⟨_, List.mem_map.mpr ⟨e, he, rfl⟩, rfl⟩))
  · rw [etold]
    refine .snoc lv ?_ hu.uri hname ?_
    · rw [flat_snoc, flat_snoc, List.nil_append]
      refine ⟨List.mem_append_right _ tp.dx, fun e he => ?_, tp.nok, tp.nx, tp.ns, fun p => ?_, so.kn, ?_, fun p v hv => ?_, fun e he => ?_, ?_, ?_⟩
      · rcases List.mem_append.mp he with he | he
        · obtain ⟨v, hv, rfl⟩ := List.mem_map.mp he
          exact ⟨hS v ((v4 v).mp hv).1, rfl, fun hb h => hnb hb (h ▸ hv)⟩
        · exact tp.dok e he
      · rw [so.lk, lkp_app, lkp_perm hpm so.ms ho, tp.wl]
      · rw [merge_QS]; exact merge_nodup _ _ tp.dn
      · rw [hlook] at hv
        cases hl : u.told.lookup p with
        | some v' =>
          rw [hl] at hv
          have : v' = v := Option.some.inj hv
          subst this
          exact ht _ (look_mem hl)
        | none =>
          rw [hl] at hv
          exact tp.ds _ _ hv
      · have keep : ∀ p, (d.lookup p).isSome = true → ((mergeS d u.told).lookup p).isSome = true := fun p h => by
          rw [hlook]
          cases u.told.lookup p with
          | some _ => rfl
          | none => exact h
        rcases List.mem_append.mp he with he | he
        · obtain ⟨v, hv, rfl⟩ := List.mem_map.mp he
          obtain ⟨a, b⟩ := (v4 v).mp hv
          rcases hu.tin v (urisOf_mem.mp a) with h | h | h | ⟨h1, h2⟩
          · exact .inl h
          · exact .inr (.inl h)
          · refine .inr (.inr ?_)
            show ((mergeS d u.told).lookup (pfx v)).isSome = true
            rw [hlook, mem_look hu.tnd h]; rfl
          · refine .inr (.inr (keep _ ?_))
            show (d.lookup (pfx v)).isSome = true
            cases hl : d.lookup (pfx v) with
            | some _ => rfl
            | none =>
              exfalso
              unfold look at h2
              rw [hl] at h2
              have : u0 = v := h2
              subst this
              rw [pfx_u0] at hl b
              exact b (hd0 hl)
        · rcases tp.dd e he with h | h | h
          · exact .inl h
          · exact .inr (.inl h)
          · exact .inr (.inr (keep _ h))
      · have := merge_length u.told d
        have := hu.tln
        have := tp.dz
        walk_at "om"
      · have := so.ln
        have := tp.wz
        walk_at "om"
    · have hin : u.uri ∈ urisOf u.uri u.attrs := urisOf_mem.mpr (.inl rfl)
      unfold look
      rw [so.lk, lkp_prs so.ms ho hin]
      by_cases h : u.uri ∈ ws
      · rw [if_pos h]; rfl
      · rw [if_neg h]
        have : ¬ look w (pfx u.uri) u0 ≠ u.uri := fun q => h ((so.mm _ hin).mpr ⟨hin, q⟩)
        exact Classical.byContradiction this
end
section
structure Inv (back : Bool) (xs : List Int) (s : St) (op : List (Str × Str)) (sc wr : List (List (Str × Str))) (due : Str) : Prop where
  lv : Lv back s.decl s.ns op sc wr
  tx : catAll s.out ++ escC (catAll s.data) = due
  sn : op ≠ [] → s.seen = true
  dn : s.data ≠ [] → op ≠ []
  dl : (catAll s.data).length = 3 * s.data.length
  tb : TbOk s
  ps : s.ps.length = op.length + 1
  sh : ∃ A m, xs = A ++ List.replicate m 2 ∧ op.length + A.length ≤ m + 1 ∧ (A ≠ [] ∨ op ≠ [])
  b1 : s.data.length + xs.length ≤ 49
  b2 : s.out.length + 5 * xs.length ≤ 250
  b3 : due.length + 6000 * xs.length ≤ 300000
  b4 : (flat s.decl).length + 9 * xs.length ≤ 450
  b5 : (flat s.ns).length + 8 * xs.length ≤ 400
  b6 : op.length + xs.length ≤ 49
variable {back : Bool} {xs : List Int} {s : St} {op : List (Str × Str)} {sc wr : List (List (Str × Str))} {due : Str} {x : Int}
theorem Inv.dok (iv : Inv back xs s op sc wr due) : DOk s := by
  have h1 := iv.b1
  have h2 := iv.b2
  refine ⟨fun h => ⟨iv.sn (iv.dn h), ?_⟩, ?_, by walk_at "om", by walk_at "om"⟩
  · rw [iv.dl]
    have := List.length_pos_iff.mpr h
    walk_at "om"
  · rw [iv.dl]; walk_at "om"
theorem top_sz {decl ns : Stk} {d w : List (Str × Str)} {j : Nat} (t : Top back j (flat decl) (flat ns) d w) : (∀ e ∈ flat decl, e.2.length ≤ 1000) ∧ (∀ e ∈ flat ns, e.2.length ≤ 1000) := by
  refine ⟨fun e he => ?_, fun e he => ?_⟩
  · have := pfx_len9 e.1 (t.dok e he).1
    rw [(t.dok e he).2.1]; walk_at "om"
  · have := (t.nok e he).2.2
    walk_at "om"
theorem Inv.sz (iv : Inv back xs s op sc wr due) : SZ s s.decl := by
  obtain ⟨h1, h2, h3, h4⟩ := iv.lv.len
  obtain ⟨_, d, _, w, _, _, t⟩ := iv.lv.top
  have b4 := iv.b4
  have b5 := iv.b5
  have b6 := iv.b6
  exact ⟨by walk_at "om", by walk_at "om", by walk_at "om", by walk_at "om", (top_sz t).1, (top_sz t).2⟩
theorem app_u0 (a : Str) : a ++ u0 = a := sL_inj (by rw [sL_app, sL_u0, List.append_nil])
theorem flq_tx (s : St) : catAll (flq s).out = catAll s.out ++ escC (catAll s.data) := by
  unfold flq
  split
  · rename_i h
    rw [h, escC_nil, app_u0]
  · unfold fl
    rw [catAll_app]
    exact sL_inj (by simp only [sL_app, sL_cat, List.flatMap_cons, List.flatMap_nil, List.append_nil])
theorem snoc_of {α : Type} {l : List α} {k : Nat} (h : l.length = k + 1) : ∃ l0 a, l = l0 ++ [a] := by
  cases hr : l.reverse with
  | nil =>
    have := congrArg List.length hr
    rw [List.length_reverse, h] at this
    cases this
  | cons a r => exact ⟨r.reverse, a, by rw [← List.reverse_reverse l, hr, List.reverse_cons]⟩
noncomputable def tellT (s : St) (e : Str × Str) : St := { flq s with ns := tellNs s.ns e }
theorem flq_nil {s : St} (h : s.data = []) : flq s = s := by unfold flq; rw [if_pos h]
theorem fold_tell : ∀ (es : List (Str × Str)) (s : St), es.foldl tellT s = if es = [] then s else { flq s with ns := es.foldl tellNs s.ns }
  | [], s => rfl
  | e :: es, s => by
    rw [if_neg (List.cons_ne_nil _ _)]
    show es.foldl tellT (tellT s e) = _
    rw [fold_tell es, flq_nil (s := tellT s e) (flq_keep s).2.2.2.2.2.2.1]
    by_cases h : es = []
    · subst h; rfl
    · rw [if_neg h]; rfl
theorem flq_fold (es : List (Str × Str)) (s : St) : flq (es.foldl tellT s) = { flq s with ns := es.foldl tellNs s.ns } := by
  rw [fold_tell]
  by_cases h : es = []
  · rw [if_pos h]
    subst h
    unfold flq fl
    split <;> rfl
  · rw [if_neg h]
    exact flq_nil (flq_keep s).2.2.2.2.2.2.1
theorem fold_facts (es : List (Str × Str)) (s : St) : (es.foldl tellT s).decl = s.decl ∧ (es.foldl tellT s).ns = es.foldl tellNs s.ns ∧ (es.foldl tellT s).ps = s.ps ∧ (es.foldl tellT s).seen = s.seen ∧ (es.foldl tellT s).tb = s.tb ∧ ((es.foldl tellT s).data = s.data ∨ (es.foldl tellT s).data = []) ∧ (es.foldl tellT s).out.length ≤ s.out.length + 1 := by
  obtain ⟨k1, k2, k3, k4, k5, k6, k7, k8⟩ := flq_keep s
  rw [fold_tell]
  by_cases h : es = []
  · rw [if_pos h]
    subst h
    exact ⟨rfl, rfl, rfl, rfl, rfl, .inl rfl, Nat.le_succ _⟩
  · rw [if_neg h]
    exact ⟨k1, rfl, k3, k4, k5, .inr k7, k8⟩
structure TellI (r : List (Str × Str)) (s : St) : Prop where
  d : s.data ≠ [] → s.seen = true ∧ 0 < (catAll s.data).length
  c : (catAll s.data).length ≤ 1000
  l : s.data.length ≤ 1000
  o : s.out.length + r.length ≤ 8000
  n : ∃ ns0 a l, s.ns = ns0 ++ [(a, l)] ∧ l.length + r.length ≤ 8000
theorem tell_step {k : KA} {s : St} {e : Str × Str} {r : List (Str × Str)} (G : Gr C) (h : TellI (e :: r) s) : TellI r (tellT s e) ∧ ∀ {rest : Led} {Q' : V → Led → Prop}, Q' .none (wled k (tellT s e) rest) → WK C (n + 3) NoX (.ref 113) [.ref k.x, .str e.1, .str e.2] [] (wled k s rest) Q' := by
  obtain ⟨ns0, a, l, hn, hl⟩ := h.n
  have ho := h.o
  rw [List.length_cons] at hl ho
  have hk := flq_keep s
  have hd : (tellT s e).data = [] := hk.2.2.2.2.2.2.1
  have ho2 : (tellT s e).out.length ≤ s.out.length + 1 := hk.2.2.2.2.2.2.2
  refine ⟨⟨fun q => absurd hd q, by rw [hd]; decide, by rw [hd]; decide, by walk_at "om", ns0, a, l ++ [(e.2, e.1)], ?_, ?_⟩, fun {rest Q'} hq => ?_⟩
  · show tellNs s.ns e = _
    rw [hn, tell_app]
  · rw [List.length_append, List.length_singleton]; walk_at "om"
  · refine w_start_ns (ns0 := ns0) (a := a) (l := l) G ⟨h.d, h.c, h.l, by walk_at "om"⟩ hn (by walk_at "om") ?_
    rw [show ({ flq s with ns := ns0 ++ [(a, l ++ [(e.2, e.1)])] } : St) = tellT s e from by unfold tellT; rw [hn, tell_app]]
    exact hq
theorem flat_bound {α : Type} (f : α → List Nat) (b : Nat) : ∀ (l : List α), (∀ a ∈ l, (f a).length ≤ b) → (l.flatMap f).length ≤ l.length * b
  | [], _ => by simp
  | a :: l, h => by
    rw [List.flatMap_cons, List.length_append, List.length_cons, Nat.add_mul]
    have := h a List.mem_cons_self
    have := flat_bound f b l fun x hx => h x (.tail _ hx)
    walk_at "om"
theorem dueS_len {m : Nat} (hm : m ∈ List.range 10) {as : List (Str × Str × Str)} (ha : ∀ e ∈ as, e ∈ allM m) {ws : List Str} (hu : ∀ v ∈ ws, v ∈ URIS) (due tx : Str) : (dueS due tx (ws.map fun v => (pfx v, v)) as).length ≤ due.length + tx.length + 2 + ws.length * 200 + as.length * 200 := by
  unfold dueS
  rw [cats_eq, cats_eq]
  rw [slen, slen due, slen tx]
  simp only [sL_app, sL_cat, List.length_append]
  have h1 := flat_bound sL 200 ((sortP (ws.map fun v => (pfx v, v))).map nsD) fun a h => by
    obtain ⟨e, he, rfl⟩ := List.mem_map.mp h
    obtain ⟨v, hv, rfl⟩ := List.mem_map.mp ((sortP_perm _).mem_iff.mp he)
    rw [← slen]
    exact (ns_txt v (hu v hv)).2
  have h2 := flat_bound sL 200 ((sort3 as).map atD) fun a h => by
    obtain ⟨e, he, rfl⟩ := List.mem_map.mp h
    rw [← slen]
    exact (all_one m hm e (ha e ((sort3_perm as).mem_iff.mp he))).2.2.2.2.2.2.2
  rw [List.length_map, sortP_length, List.length_map] at h1
  rw [List.length_map, (sort3_perm as).length_eq] at h2
  have c1 : (sL (Str.ofString "<")).length = 1 := rfl
  have c2 : (sL (Str.ofString ">")).length = 1 := rfl
  walk_at "om"
theorem shape_start {A0 : List Int} {m0 : Nat} (h : x :: xs = A0 ++ List.replicate m0 2) (h2 : op.length + A0.length ≤ m0 + 1) (h3 : A0 ≠ [] ∨ op ≠ []) (hc : (decide (x.fmod 4 < 2) || op.isEmpty) = true) {e : Str × Str} : ∃ A m, xs = A ++ List.replicate m 2 ∧ (op ++ [e]).length + A.length ≤ m + 1 ∧ (A ≠ [] ∨ op ++ [e] ≠ []) := by
  cases A0 with
  | nil =>
    cases m0 with
    | zero => cases h
    | succ m =>
      rw [List.nil_append, List.replicate_succ] at h
      injection h with ha hb
      subst ha
      have : op.isEmpty = true := by
        rw [show decide ((2 : Int).fmod 4 < 2) = false from by decide, Bool.false_or] at hc
        exact hc
      rw [List.isEmpty_iff] at this
      exact absurd this (h3.resolve_left (fun q => q rfl))
  | cons a A =>
    rw [List.cons_append] at h
    injection h with ha hb
    refine ⟨A, m0, hb, ?_, .inr (by simp)⟩
    rw [List.length_cons] at h2
    rw [List.length_append, List.length_singleton]
    walk_at "om"
theorem ats_ok {d : List (Str × Str)} {q : Int} {u : Uses} (hu : UOk back d q u) : ∃ m, m ∈ List.range 10 ∧ (∀ e ∈ u.attrs, e ∈ allM m) ∧ u.attrs.length ≤ 8 ∧ ((u.attrs.map katt).map (·.1)).Nodup ∧ mergeS [] (u.attrs.map katt) = u.attrs.map katt := by
  obtain ⟨m, hm, hM⟩ := six_M q
  obtain ⟨as0, h1, h2⟩ := hu.ats
  have hnd : ((u.attrs.map katt).map (·.1)).Nodup := by
    rw [List.map_map]
    refine ((h1.map _).nodup_iff).mpr ?_
    rw [hM] at h2
    exact List.Sublist.nodup (h2.map _) (all_keys m hm)
  refine ⟨m, hm, fun e he => ?_, ?_, hnd, ?_⟩
  · rw [← hM]
    exact h2.subset (h1.mem_iff.mp he)
  · rw [h1.length_eq]
    refine Nat.le_trans h2.length_le ?_
    simp [sixAt, zAt]
  · rw [merge_QS, merge_new _ _ (by simpa using hnd)]; rfl
theorem start_inv {sc0 wr1 : List (List (Str × Str))} {d w : List (Str × Str)} {u : Uses} {q : Int} {pb : Bool} (iv : Inv back (x :: xs) s op (sc0 ++ [d]) (wr1 ++ [w]) due) (hc : (decide (x.fmod 4 < 2) || op.isEmpty) = true) (tp : Top back op.length (flat s.decl) (flat s.ns) d w) (hu : UOk back d q u)
    (out : List Str) (hout : out.Perm (addsS [keyOf u.uri u.name] ((u.attrs.map katt).map (·.1)))) :
    ∃ pq l, Parse (flat (u.told.foldl tellT s).ns) (flat (u.told.foldl tellT s).decl) splN pq out [] l ∧ (∀ q, (pq q).1.length ≤ 1000 ∧ (pq q).2.1.length ≤ 1000 ∧ (pq q).2.2.length ≤ 1000) ∧ l.length ≤ 30 ∧ (∀ e ∈ l, e.2.length ≤ 900 ∧ e.1.length ≤ 100) ∧
      ∀ a aN tb, TbOk { (u.told.foldl tellT s) with tb := some tb } → Inv back xs { flq (u.told.foldl tellT s) with decl := (u.told.foldl tellT s).decl ++ [(a, l)], ps := (u.told.foldl tellT s).ps ++ [pb], out := (flq (u.told.foldl tellT s)).out ++ outC (pq (keyOf u.uri u.name)).1 (sortP (l.map nsQ) ++ (sortP (u.attrs.map katt)).map (atQ pq)), seen := true, ns := (u.told.foldl tellT s).ns ++ [(aN, [])], tb := some tb }
        (op ++ [(tagT u.uri u.name, keyOf u.uri u.name)]) (sc0 ++ [d] ++ [mergeS d (mergeS [] u.told)]) (wr1 ++ [w] ++ [(snOf w (urisOf u.uri u.attrs)).1]) (dueS due (tagT u.uri u.name) (snOf w (urisOf u.uri u.attrs)).2 u.attrs) := by
  obtain ⟨f1, f2, f3, f4, f5, f6, f7⟩ := fold_facts u.told s
  obtain ⟨m, hm, hM, halen, _, _⟩ := ats_ok hu
  obtain ⟨l1, l2, l3, l4⟩ := iv.lv.tells u.told s.ns (fun e he => ⟨(hu.tok e he).1, (hu.tok e he).2.1, (hu.tok e he).2.2⟩)
  obtain ⟨sc', d', wr', w', e1, e2, tp'⟩ := l1.top
  have ed : d = d' := by
    have := congrArg List.getLast? e1
    simpa using this
  have ew : w = w' := by
    have := congrArg List.getLast? e2
    simpa using this
  subst ed ew
  obtain ⟨pq, vs, ws, p1, p2, p3, p4o, p4n, p5, p6, p7, p8, p9⟩ := open_ok l1 tp' hu l2 out hout
  have p4 : ∀ v ∈ ws, v ∈ URIS := fun v hv => ord_uris v (p4o v hv)
  have hname : u.name ∈ nameS := by
    have : ∀ n ∈ [Str.ofString "x", Str.ofString "y", Str.ofString "z"], n ∈ nameS := by decide +kernel
    exact this _ hu.name
  have htx := (tag_txt _ hu.uri _ hname).2
  rw [f1, f2]
  refine ⟨pq, prs vs, p1, p2, by rw [show (prs vs).length = vs.length from List.length_map ..]; walk_at "om", fun e he => ?_, fun a aN tb htb => ?_⟩
  · obtain ⟨v, hv, rfl⟩ := List.mem_map.mp he
    have hv := p4 v (p5.mem_iff.mp hv)
    refine ⟨pfx_len9 v hv, ?_⟩
    have := uri_len v hv
    show v.length ≤ 100
    walk_at "om"
  · have b1 := iv.b1
    have b2 := iv.b2
    have b3 := iv.b3
    have b4 := iv.b4
    have b5 := iv.b5
    have b6 := iv.b6
    rw [List.length_cons] at b1 b2 b3 b4 b5 b6
    have hpl : (prs vs).length = vs.length := List.length_map ..
    have hdl : (dueS due (tagT u.uri u.name) (snOf w (urisOf u.uri u.attrs)).2 u.attrs).length ≤ due.length + (tagT u.uri u.name).length + 2 + ws.length * 200 + u.attrs.length * 200 := by
      rw [p8]
      exact dueS_len hm hM p4 _ _
    have hwl := p5.length_eq
    obtain ⟨A0, m0, s1, s2, s3⟩ := iv.sh
    have ho : (flq (u.told.foldl tellT s)).out.length ≤ s.out.length + 1 := by
      rw [flq_fold]
      exact (flq_keep s).2.2.2.2.2.2.2
    have hoc : ∀ t al, (outC t al).length ≤ 3 := fun t al => by
      unfold outC
      split <;> simp
    have htn := hu.tln
    refine ⟨p9 a aN, ?_, fun _ => rfl, fun h => ?_, ?_, htb, ?_, shape_start s1 s2 s3 hc, ?_, ?_, ?_, ?_, ?_, ?_⟩
    · show catAll ((flq (u.told.foldl tellT s)).out ++ _) ++ escC (catAll (flq (u.told.foldl tellT s)).data) = _
      rw [(flq_keep _).2.2.2.2.2.2.1, escC_nil, app_u0, catAll_app, flq_fold]
      show catAll (flq s).out ++ _ = _
      rw [flq_tx, iv.tx, p6, p8]
      exact start_txt hm hM p5 p4o p4n p7 _ _
    · exact absurd (flq_keep _).2.2.2.2.2.2.1 h
    · show (catAll (flq (u.told.foldl tellT s)).data).length = 3 * (flq (u.told.foldl tellT s)).data.length
      rw [(flq_keep _).2.2.2.2.2.2.1]; rfl
    · show ((u.told.foldl tellT s).ps ++ [pb]).length = (op ++ [_]).length + 1
      rw [f3, List.length_append, iv.ps, List.length_append, List.length_singleton, List.length_singleton]
    · show (flq (u.told.foldl tellT s)).data.length + _ ≤ _
      rw [(flq_keep _).2.2.2.2.2.2.1]
      show 0 + _ ≤ _
      walk_at "om"
    · show ((flq (u.told.foldl tellT s)).out ++ _).length + _ ≤ _
      rw [List.length_append]
      have := hoc (pq (keyOf u.uri u.name)).1 (sortP ((prs vs).map nsQ) ++ (sortP (u.attrs.map katt)).map (atQ pq))
      walk_at "om"
    · walk_at "om"
    · show (flat (s.decl ++ [(a, prs vs)])).length + _ ≤ _
      rw [flat_snoc, List.length_append, hpl]
      walk_at "om"
    · show (flat (u.told.foldl tellNs s.ns ++ [(aN, [])])).length + _ ≤ _
      rw [flat_snoc, List.nil_append, l4]
      walk_at "om"
    · rw [List.length_append, List.length_singleton]
      walk_at "om"
end
section
variable {back : Bool} {xs : List Int} {s : St} {op : List (Str × Str)} {sc wr : List (List (Str × Str))} {due : Str} {x : Int}
noncomputable def endS (s : St) (d0 n0 : Stk) (ps0 : List Bool) (tx : Str) : St := { flq s with decl := d0, ns := n0, ps := ps0, out := (flq s).out ++ [Str.empty ++ Str.ofString "</" ++ tx ++ Str.ofString ">"], done := ((ps0.length : Int) == 1) }
inductive EndX (C : Cx) (n : Nat) (k : KA) (back : Bool) (s : St) (op : List (Str × Str)) (sc wr : List (List (Str × Str))) : Prop
  | mk (decl0 : Stk) (a : Addr) (l : List (Str × Str)) (ns0 : Stk) (e' : Addr × List (Str × Str)) (op0 : List (Str × Str)) (u nm : Str) (sc0 : List (List (Str × Str))) (d : List (Str × Str)) (wr1 : List (List (Str × Str))) (w : List (Str × Str)) (ps0 : List Bool) (h1 : s.decl = decl0 ++ [(a, l)]) (h2 : s.ns = ns0 ++ [e']) (h3 : op = op0 ++ [(tagT u nm, keyOf u nm)]) (h4 : sc = sc0 ++ [d]) (h5 : wr = wr1 ++ [w]) (h6 : Lv back decl0 ns0 op0 sc0 wr1) (h7 : (tagT u nm).length ≤ 100) (h8 : ps0.length = op0.length + 1)
    (h9 : ∀ {rest : Led} {Q' : V → Led → Prop}, Q' .none (wled k (endS s decl0 ns0 ps0 (tagT u nm)) rest) → WK C (n + 4) NoX (.ref 133) [.ref k.x, .str (keyOf u nm)] [] (wled k s rest) Q') : EndX C n k back s op sc wr
theorem end_wk {k : KA} (G : Gr C) (ko : KOk C k) (hrw : k.rw = false) (iv : Inv back xs s op sc wr due) (ho : op ≠ []) : EndX C n k back s op sc wr := by
  obtain ⟨decl0, a, l, ns0, e', op0, u, nm, sc0, d, wr1, w, h1, h2, h3, h4, h5, h6, h7, h8, h9⟩ := iv.lv.inv ho
  obtain ⟨ps0, pb, hps⟩ := snoc_of iv.ps
  obtain ⟨k1, k2, k3⟩ := key_ok h7 h8
  obtain ⟨_, _, z1, z2, z3⟩ := key_spl0 u h7 nm h8
  have hp := pfx_len9 u h7
  have b2 := iv.b2
  have b6 := iv.b6
  have hpl := iv.ps
  rw [hps, h3] at hpl
  simp only [List.length_append, List.length_singleton] at hpl
  obtain ⟨t1, t2⟩ := tag_txt u h7 nm h8
  refine ⟨decl0, a, l, ns0, e', op0, u, nm, sc0, d, wr1, w, ps0, h1, h2, h3, h4, h5, h6, t2, by walk_at "om", fun {rest Q'} hq => ?_⟩
  refine w_end (b := false) G ko hrw iv.dok h1 h2 hps (by walk_at "om") k2 z1 (by walk_at "om") (by walk_at "om") hp iv.sz (by rw [iv.ps]; walk_at "om") h9 ?_
  rw [t1]
  exact hq
theorem end_tx {d0 n0 : Stk} {ps0 : List Bool} {tx : Str} (iv : Inv back xs s op sc wr due) : catAll (endS s d0 n0 ps0 tx).out = due ++ (Str.ofString "</" ++ tx ++ Str.ofString ">") := by
  show catAll ((flq s).out ++ _) = _
  rw [catAll_app, flq_tx, iv.tx]
  refine sL_inj ?_
  simp only [sL_app, sL_cat, List.flatMap_cons, List.flatMap_nil, List.append_nil, show sL Str.empty = [] from rfl, List.nil_append]
theorem flat_pop (d0 : Stk) (e : Addr × List (Str × Str)) : (flat d0).length ≤ (flat (d0 ++ [e])).length := by
  obtain ⟨a, l⟩ := e
  rw [flat_snoc, List.length_append]
  walk_at "om"
theorem end_inv {decl0 ns0 : Stk} {a : Addr} {l : List (Str × Str)} {e' : Addr × List (Str × Str)} {op0 : List (Str × Str)} {e : Str × Str} {sc0 wr1 : List (List (Str × Str))} {ps0 : List Bool} {tx : Str} (iv : Inv back (x :: xs) s (op0 ++ [e]) sc wr due) (h2 : (x.fmod 4 == 2 && decide (1 < (op0 ++ [e]).length)) = true) (hd : s.decl = decl0 ++ [(a, l)]) (hn : s.ns = ns0 ++ [e']) (lv : Lv back decl0 ns0 op0 sc0 wr1) (htx : tx.length ≤ 100) (hps : ps0.length = op0.length + 1) :
    Inv back xs (endS s decl0 ns0 ps0 tx) op0 sc0 wr1 (due ++ (Str.ofString "</" ++ tx ++ Str.ofString ">")) := by
  have b1 := iv.b1
  have b2 := iv.b2
  have b3 := iv.b3
  have b4 := iv.b4
  have b5 := iv.b5
  have b6 := iv.b6
  obtain ⟨k1, k2, k3, k4, k5, k6, k7, k8⟩ := flq_keep s
  have f1 := flat_pop decl0 (a, l)
  have f2 := flat_pop ns0 e'
  rw [hd] at b4
  rw [hn] at b5
  simp only [List.length_append, List.length_singleton, List.length_cons] at b1 b2 b3 b4 b5 b6 h2
  rw [Bool.and_eq_true] at h2
  have h3 : 1 < op0.length + 1 := of_decide_eq_true h2.2
  have hne : op0 ≠ [] := fun q => by rw [q] at h3; exact absurd h3 (by decide)
  refine ⟨lv, ?_, fun _ => ?_, fun h => absurd k7 h, ?_, ?_, hps, ?_, ?_, ?_, ?_, ?_, ?_, ?_⟩
  · rw [end_tx iv]
    show _ ++ escC (catAll (flq s).data) = _
    rw [k7, escC_nil, app_u0]
  · show (flq s).seen = true
    rw [k4]
    exact iv.sn (by simp)
  · show (catAll (flq s).data).length = 3 * (flq s).data.length
    rw [k7]; rfl
  · show ∀ c oc, (flq s).tb = some (c, oc) → _
    rw [k5]
    exact iv.tb
  · obtain ⟨A0, m0, s1, s2, s3⟩ := iv.sh
    rw [List.length_append, List.length_singleton] at s2
    cases A0 with
    | nil =>
      cases m0 with
      | zero => cases s1
      | succ m =>
        rw [List.nil_append, List.replicate_succ] at s1
        injection s1 with ha hb
        refine ⟨[], m, hb, ?_, .inr hne⟩
        simp only [List.length_nil] at s2 ⊢
        walk_at "om"
    | cons a A =>
      rw [List.cons_append] at s1
      injection s1 with ha hb
      refine ⟨A, m0, hb, ?_, .inr hne⟩
      rw [List.length_cons] at s2
      walk_at "om"
  · show (flq s).data.length + _ ≤ _
    rw [k7]
    show 0 + _ ≤ _
    walk_at "om"
  · show ((flq s).out ++ [_]).length + _ ≤ _
    rw [List.length_append, List.length_singleton]
    walk_at "om"
  · rw [slen]
    simp only [sL_app, List.length_append]
    rw [← slen, ← slen tx]
    have c1 : (sL (Str.ofString "</")).length = 2 := rfl
    have c2 : (sL (Str.ofString ">")).length = 1 := rfl
    walk_at "om"
  · show (flat decl0).length + _ ≤ _
    walk_at "om"
  · show (flat ns0).length + _ ≤ _
    walk_at "om"
  · walk_at "om"
theorem data_inv {q : Int} (iv : Inv back (x :: xs) s op sc wr due) (h1 : (decide (x.fmod 4 < 2) || op.isEmpty) = false) (h2 : (x.fmod 4 == 2 && decide (1 < op.length)) = false) : Inv back xs { s with data := s.data ++ [dT q] } op sc wr (due ++ refT CON (dT q)) := by
  have b1 := iv.b1
  have b2 := iv.b2
  have b3 := iv.b3
  have b4 := iv.b4
  have b5 := iv.b5
  have b6 := iv.b6
  simp only [List.length_cons] at b1 b2 b3 b4 b5 b6
  obtain ⟨t1, t2, t3⟩ := dT_ok q
  have hne : op ≠ [] := fun e => by rw [e] at h1; simp at h1
  have hcat : catAll (s.data ++ [dT q]) = catAll s.data ++ dT q := by
    rw [catAll_app]
    exact sL_inj (by simp only [sL_app, sL_cat, List.flatMap_cons, List.flatMap_nil, List.append_nil])
  refine ⟨iv.lv, ?_, iv.sn, fun _ => hne, ?_, iv.tb, iv.ps, ?_, ?_, ?_, ?_, ?_, ?_, ?_⟩
  · show catAll s.out ++ escC (catAll (s.data ++ [dT q])) = _
    rw [hcat, escC_app, dT_txt, ← iv.tx]
    exact sL_inj (by simp only [sL_app, List.append_assoc])
  · show (catAll (s.data ++ [dT q])).length = 3 * (s.data ++ [dT q]).length
    rw [hcat, slen, sL_app, List.length_append, ← slen, ← slen, iv.dl, t3, List.length_append, List.length_singleton]
    walk_at "om"
  · obtain ⟨A0, m0, s1, s2, s3⟩ := iv.sh
    cases A0 with
    | nil =>
      cases m0 with
      | zero => cases s1
      | succ m =>
        rw [List.nil_append, List.replicate_succ] at s1
        injection s1 with ha hb
        subst ha
        have h3 : ¬ 1 < op.length := fun q => by
          rw [show ((2 : Int).fmod 4 == 2) = true from by decide, Bool.true_and, decide_eq_true q] at h2
          cases h2
        refine ⟨[], m, hb, ?_, .inr hne⟩
        simp only [List.length_nil] at s2 ⊢
        walk_at "om"
    | cons a A =>
      rw [List.cons_append] at s1
      injection s1 with ha hb
      refine ⟨A, m0, hb, ?_, .inr hne⟩
      rw [List.length_cons] at s2
      walk_at "om"
  · show (s.data ++ [dT q]).length + _ ≤ _
    rw [List.length_append, List.length_singleton]
    walk_at "om"
  · show s.out.length + _ ≤ _
    walk_at "om"
  · rw [slen, sL_app, List.length_append, ← slen, ← slen]
    walk_at "om"
  · show (flat s.decl).length + _ ≤ _
    walk_at "om"
  · show (flat s.ns).length + _ ≤ _
    walk_at "om"
  · walk_at "om"
theorem law_step {k : KA} {L dv dc OP SC WR : Addr} {rest : Led} (G : Gr C) (ko : KOk C k) (hrw : k.rw = false) (x : Int) (xs : List Int) (s : St) (op : List (Str × Str)) (sc wr : List (List (Str × Str))) (due : Str) (loc : List (Str × V)) (Q : F → Led → Prop) (iv : Inv back (x :: xs) s op sc wr due) (lo : LocOk k dv dc OP SC WR back due loc) (hx : loc.lookup (Str.ofString "x") = some (.int x))
    (hq : ∀ s' op' sc' wr' due' loc', Inv back xs s' op' sc' wr' due' → LocOk k dv dc OP SC WR back due' loc' → Q .next (lled k s' L dv dc OP SC WR loc' op' sc' wr' rest)) : WS C (n + 6) NoX (lwEnv C L) (lwLoop C.w.params) (lled k s L dv dc OP SC WR loc op sc wr rest) Q := by
  have b1 := iv.b1
  have b2 := iv.b2
  have b3 := iv.b3
  have b4 := iv.b4
  have b5 := iv.b5
  have b6 := iv.b6
  have ln := iv.lv.len
  refine partTurn G lo hx (by walk_at "om") (fun hc loc lo hlq => ?_) (fun h1 h2 loc lo hlq => ?_) (fun h1 h2 loc lo hlq => ?_)
  · obtain ⟨sc0, d, wr1, w, e1, e2, tp⟩ := iv.lv.top
    subst e1 e2
    have hu := uses_ok (x.fdiv 4) d back
    generalize hus : usesU (x.fdiv 4) d back = u at hu
    obtain ⟨m, hm, hM, halen, hknd, hkm⟩ := ats_ok hu
    have hname : u.name ∈ nameS := by
      have : ∀ n ∈ [Str.ofString "x", Str.ofString "y", Str.ofString "z"], n ∈ nameS := by decide +kernel
      exact this _ hu.name
    obtain ⟨_, _, z1, z2, z3⟩ := key_spl0 u.uri hu.uri u.name hname
    simp only [List.length_append, List.length_singleton] at ln
    have dz := tp.dz
    have wz := tp.wz
    have tln := hu.tln
    obtain ⟨f1, f2, f3, f4, f5, f6, f7⟩ := fold_facts u.told s
    obtain ⟨l1, l2, l3, l4⟩ := iv.lv.tells u.told s.ns (fun e he => ⟨(hu.tok e he).1, (hu.tok e he).2.1, (hu.tok e he).2.2⟩)
    obtain ⟨ns0, na, nl, hns⟩ := iv.lv.snocNs
    have hnl : nl.length ≤ 400 := by
      rw [hns, flat_snoc, List.length_append] at b5
      walk_at "om"
    obtain ⟨ps0, pb, hps⟩ := snoc_of iv.ps
    have dok := iv.dok
    refine WS.dropQ (partS0 (n := n + 5) (R := fun s' => Inv back xs s' (op ++ [(tagT u.uri u.name, keyOf u.uri u.name)]) (sc0 ++ [d] ++ [mergeS d (mergeS [] u.told)]) (wr1 ++ [w] ++ [(snOf w (urisOf u.uri u.attrs)).1]) (dueS due (tagT u.uri u.name) (snOf w (urisOf u.uri u.attrs)).2 u.attrs)) (I := TellI) (T := tellT)
      G lo hlq u hus.symm (by walk_at "om") hu.uri z3 (by walk_at "om") (fun e he => ?_) (by walk_at "om") (by walk_at "om") (by walk_at "om") tp.wn (by walk_at "om") (by walk_at "om") tp.dn (by walk_at "om") ?_ (fun s e r h => tell_step (n := n + 3) G h) (fun {rest Q'} hq' => ?_) (fun s' iv' z loc' lo' => ⟨_, List.sublist_cons_self _ _, rfl, hq _ _ _ _ _ _ iv' lo'⟩))
    · obtain ⟨a1, a2, a3, a4, a5, _⟩ := all_one m hm e (hM e he)
      exact ⟨a1, a3, a4, a5⟩
    · exact ⟨dok.d, dok.c, dok.l, by walk_at "om", ns0, na, nl, hns, by walk_at "om"⟩
    · rw [hkm]
      have sz1 : SZ (u.told.foldl tellT s) (u.told.foldl tellT s).decl := by
        obtain ⟨g1, g2, g3, g4⟩ := l1.len
        obtain ⟨_, d', _, w', _, _, t⟩ := l1.top
        rw [f1]
        refine ⟨by walk_at "om", by walk_at "om", by rw [f2]; walk_at "om", by rw [f2]; walk_at "om", (top_sz t).1, by rw [f2]; exact (top_sz t).2⟩
      have dok1 : DOk (u.told.foldl tellT s) := by
        rcases f6 with f6 | f6
        · exact ⟨by rw [f6, f4]; exact dok.d, by rw [f6]; exact dok.c, by rw [f6]; exact dok.l, by walk_at "om"⟩
        · exact ⟨fun q => absurd f6 q, by rw [f6]; decide, by rw [f6]; decide, by walk_at "om"⟩
      refine w_start (n := n + 1) (spl := splN) (ps0 := ps0) (pb := pb) G ko hrw (by unfold TbOk; rw [f5]; exact iv.tb) dok1 ⟨?_, by rw [f3]; exact hps, by rw [f3, iv.ps]; walk_at "om", by walk_at "om", ?_⟩ (by walk_at "om") sz1 (by rw [List.length_map]; walk_at "om") (fun e he => ?_) (fun q hq2 => ?_) (fun out hp _ => ?_)
      · rw [strD_lookup, look_none.mpr]
        · rfl
        · intro hmem
          rw [List.map_map] at hmem
          obtain ⟨e, he, h0⟩ := List.mem_map.mp hmem
          exact (all_one m hm e (hM e he)).2.2.2.2.2.2.1 h0
      · have := l1.len
        rw [f2]
        walk_at "om"
      · obtain ⟨e0, he0, rfl⟩ := List.mem_map.mp he
        have := (all_one m hm e0 (hM e0 he0)).2.2.2.1
        show e0.2.2.length ≤ 100
        walk_at "om"
      · rcases List.mem_cons.mp hq2 with rfl | hq2
        · exact (key_ok hu.uri hname).2.2
        · rw [List.map_map] at hq2
          obtain ⟨e, he, rfl⟩ := List.mem_map.mp hq2
          obtain ⟨a1, a2, _⟩ := all_one m hm e (hM e he)
          exact (key_ok a1 a2).2.2
      · obtain ⟨pq, l, p1, p2, p3, p4, p5⟩ := start_inv (pb := pb) iv hc tp hu out hp
        exact ⟨pq, l, p1, p2, p3, p4, fun a aN tb htb => hq' _ (p5 a aN tb htb)⟩
  · have hne : op ≠ [] := fun e => by rw [e] at h1; simp at h1
    obtain ⟨decl0, a, l, ns0, e', op0, u, nm, sc0, d, wr1, w, ps0, g1, g2, g3, g4, g5, g6, g7, g8, g9⟩ := end_wk (n := n + 2) G ko hrw iv hne
    subst g3 g4 g5
    simp only [List.length_append, List.length_singleton] at ln b6
    refine partEnd G lo (by walk_at "om") (by walk_at "om") (by walk_at "om") (by walk_at "om") (by walk_at "om") g9 ⟨rfl, ?_⟩
    exact hq _ _ _ _ _ _ (end_inv iv h2 g1 g2 g6 g7 g8) lo.due'
  · refine partData (n := n + 5) G lo hlq (by walk_at "om") (by walk_at "om") ⟨rfl, ?_⟩
    exact hq _ _ _ _ _ _ (data_inv iv h1 h2) lo.due'
noncomputable def Grown (l : Led) : Prop := (∃ ps, (123, AO.obj (tabObj ps)) ∈ l) ∧ ∃ ps, (187, AO.obj (tabObj ps)) ∈ l
theorem grown_lled {k : KA} {s : St} {L dv dc OP SC WR : Addr} {loc : List (Str × V)} {op : List (Str × Str)} {sc wr : List (List (Str × Str))} {rest : Led} (hr : ∃ ps, (187, AO.obj (tabObj ps)) ∈ rest) : Grown (lled k s L dv dc OP SC WR loc op sc wr rest) := by
  have hin : ∀ e, e ∈ wtab s.tb ++ rest → e ∈ lled k s L dv dc OP SC WR loc op sc wr rest := fun e he => by
    unfold lled wled
    exact .tail _ (.tail _ (.tail _ (.tail _ (.tail _ (.tail _ (.tail _ (.tail _ (.tail _ (.tail _ (.tail _ (.tail _ (.tail _ (.tail _ (.tail _ (.tail _ (.tail _ (List.mem_append_right _ (List.mem_append_right _ he))))))))))))))))))
  refine ⟨?_, hr.elim fun ps h => ⟨ps, hin _ (List.mem_append_right _ h)⟩⟩
  have : ∃ ps, (123, AO.obj (tabObj ps)) ∈ wtab s.tb := by
    cases s.tb with
    | none => exact ⟨_, .head _⟩
    | some c => exact ⟨_, .head _⟩
  exact this.elim fun ps h => ⟨ps, hin _ (List.mem_append_left _ h)⟩
theorem law_end {k : KA} {L dv dc OP SC WR : Addr} {rest : Led} (G : Gr C) (ko : KOk C k) (hrw : k.rw = false) {s : St} {op : List (Str × Str)} {sc wr : List (List (Str × Str))} {due : Str} {loc : List (Str × V)} {Q : F → Led → Prop} (iv : Inv back [] s op sc wr due) (lo : LocOk k dv dc OP SC WR back due loc) (hr : ∃ ps, (187, AO.obj (tabObj ps)) ∈ rest) (hq : ∀ l, Grown l → Q (.ret (.bool true)) l) :
    WS C (n + 6) NoX (lwEnv C L) ((lwBody C.w.params).drop 12) (lled k s L dv dc OP SC WR loc op sc wr rest) Q := by
  obtain ⟨A, m, s1, s2, s3⟩ := iv.sh
  have hA : A = [] := (List.append_eq_nil_iff.mp s1.symm).1
  have hm : m = 0 := by
    have := congrArg List.length (List.append_eq_nil_iff.mp s1.symm).2
    rw [List.length_replicate] at this
    exact this
  subst hA hm
  have hne := s3.resolve_left (fun q => q rfl)
  obtain ⟨decl0, a, l, ns0, e', op0, u, nm, sc0, d, wr1, w, ps0, g1, g2, g3, g4, g5, g6, g7, g8, g9⟩ := end_wk (n := n + 2) G ko hrw iv hne
  subst g3
  have h0 : op0 = [] := by
    simp only [List.length_append, List.length_singleton, List.length_nil] at s2
    exact List.eq_nil_of_length_eq_zero (by walk_at "om")
  subst h0
  have b3 := iv.b3
  have et := end_tx (d0 := decl0) (n0 := ns0) (ps0 := ps0) (tx := tagT u nm) iv
  refine partT G lo (by walk_at "om") (by walk_at "om") ?_ g9 ?_
  · rw [et, slen]
    simp only [sL_app, List.length_append]
    rw [← slen, ← slen (tagT u nm)]
    have c1 : (sL (Str.ofString "</")).length = 2 := rfl
    have c2 : (sL (Str.ofString ">")).length = 1 := rfl
    walk_at "om"
  · have : (catAll (endS s decl0 ns0 ps0 (tagT u nm)).out == due ++ Str.ofString "</" ++ tagT u nm ++ Str.ofString ">") = true := by
      rw [et]
      have : due ++ (Str.ofString "</" ++ tagT u nm ++ Str.ofString ">") = due ++ Str.ofString "</" ++ tagT u nm ++ Str.ofString ">" := sL_inj (by simp only [sL_app, List.append_assoc])
      rw [this]
      simp
    rw [this]
    exact hq _ (grown_lled hr)
end
section
theorem swaps_dict {keys : List (Option Expr)} {values : List Expr} {p : Pos} {t : Option Expr} {line : Nat} : swapsWith (.Dict keys values p) t line env = pure false := rfl
theorem wx_assignD {x : Str} {p' p : Pos} {keys : List (Option Expr)} {values : List Expr} {q : Pos} {Q : F → Led → Prop} (h : WE C n X env (.Dict keys values q) led fun v led1 => W1 C n X RU (storeName env x) v led1 fun _ led2 => Q .next led2) : WX C n X env (.Assign [.Name x p'] (.Dict keys values q) p) led Q := wx_assign h (hs := swaps_dict)
theorem kept_150 (G : Gr C) : Kept C (.ref 150) led := fun Φ s fx S hx => by
  rw [wv_val hx]
  obtain ⟨k, _, h⟩ := looks_keep (M := C.M) (K := hd1.heap_1 C.w.params) (f := .ref 150) rfl ((cls1 G).at S.toSat0)
  exact ⟨k, h⟩
theorem con0 : mkD [] (strD CON) = strD CON := mkD_str _ (by decide +kernel)
theorem val0 : mkD [] (strD VAL) = strD VAL := mkD_str _ (by decide +kernel)
noncomputable def hled (xo dx dl dd dn pm ps a0 aM aE b po dc dv L : Addr) (loc : List (Str × V)) : Led :=
  [(xo, .obj (instObj 150 dx)), (dx, .dict (esI b dl dd dn pm ps)), (dl, .list []), (dd, .list [.ref a0]), (dn, .list [.ref aM, .ref aE]), (pm, .dict []), (ps, .list [.bool false]), (a0, .list [prV xmlP]), (aM, .list (NSM.map prV)), (aE, .list []),
   (b, .obj (bndO po)), (po, .list []), (dc, .dict (strD CON)), (dv, .dict (strD VAL)), (L, .frame loc), (123, .obj (tabObj #[])), (187, .obj (tabObj #[]))]
theorem partH0 {L : Addr} {ns : List Int} {Q : F → Led → Prop} (G : Gr C) (hns : ns.length ≤ 63)
    (h : ∀ xo dx dl dd dn pm ps a0 aM aE b po dc dv loc, loc.lookup (Str.ofString "script") = some (.lst ((ns.take 24).map V.int)) → loc.lookup (Str.ofString "value") = some (.ref dv) → loc.lookup (Str.ofString "content") = some (.ref dc) → loc.lookup (Str.ofString "pieces") = some (.ref po) → loc.lookup (Str.ofString "writer") = some (.ref xo) →
      WS C (n + 6) NoX (lwEnv C L) ((lwBody C.w.params).drop 5) (hled xo dx dl dd dn pm ps a0 aM aE b po dc dv L loc) Q) :
    WS C (n + 6) NoX (lwEnv C L) (lwBody C.w.params) ((L, .frame [(Str.ofString "script", .lst (ns.map V.int))]) :: (123, .obj (tabObj #[])) :: (187, .obj (tabObj #[])) :: []) Q := by
  dsimp only [lwEnv, fenv, lwFd, lwBody, List.drop, hled] at h ⊢
  refine ws_cons' (wx_assign (we_sub (T := "list") ?_ F.slot_list_getitem.lookup))
  refine we_local (by walk_at "mem") (by walk_at "lkp") ?_
  refine we_slice (wp_none (wp_some (we_int ⟨24, rfl, wp_none fun a o ho => ⟨ty_list lv_fz, gi_lslice lv_fz ho (by rw [sizeLine_eq, List.length_map]; walk_at "om") ?_⟩⟩)))
  have e24 : pickV (ns.map V.int) none (some 24) = (ns.take 24).map V.int := by
    unfold pickV
    rw [List.length_map, show kms_lo none ns.length = 0 from rfl, List.drop_zero, Nat.sub_zero, ← List.map_take]
    have : kms_hi (some 24) ns.length = min 24 ns.length := by simp [kms_hi]
    rw [this]
    congr 1
    rw [← List.take_take, List.take_length]
  rw [e24]
  refine wn_local (by walk_at "up") ?_
  refine nx_next ?_
  refine ws_cons' ?_
  refine wx_assignD ?_
  refine we_dict ?_ (hall := ?_) (hl := ?_) (h0 := ?_) (hlen := ?_)
  rotate_left
  · rfl
  · rfl
  · exact List.cons_ne_nil _ _
  · exact Nat.le_of_ble_eq_true rfl
  intro dv
  refine wp_cons ?_
  refine we_str ?_; refine we_str ?_
  refine ⟨_, rfl, wp_cons ?_⟩
  refine we_str ?_; refine we_str ?_
  refine ⟨_, rfl, wp_cons ?_⟩
  refine we_str ?_; refine we_str ?_
  refine ⟨_, rfl, wp_cons ?_⟩
  refine we_str ?_; refine we_str ?_
  refine ⟨_, rfl, wp_cons ?_⟩
  refine we_str ?_; refine we_str ?_
  refine ⟨_, rfl, wp_cons ?_⟩
  refine we_str ?_; refine we_str ?_
  refine ⟨_, rfl, wp_nil ⟨_, Up.cast (es' := strD VAL) val0 .head, by simp, ?_⟩⟩
  refine wn_local (by walk_at "up") ?_
  refine nx_next ?_
  refine ws_cons' ?_
  refine wx_assignD ?_
  refine we_dict ?_ (hall := ?_) (hl := ?_) (h0 := ?_) (hlen := ?_)
  rotate_left
  · rfl
  · rfl
  · exact List.cons_ne_nil _ _
  · exact Nat.le_of_ble_eq_true rfl
  intro dc
  refine wp_cons ?_
  refine we_str ?_; refine we_str ?_
  refine ⟨_, rfl, wp_cons ?_⟩
  refine we_str ?_; refine we_str ?_
  refine ⟨_, rfl, wp_cons ?_⟩
  refine we_str ?_; refine we_str ?_
  refine ⟨_, rfl, wp_cons ?_⟩
  refine we_str ?_; refine we_str ?_
  refine ⟨_, rfl, wp_nil ⟨_, Up.cast (es' := strD CON) con0 .head, by simp, ?_⟩⟩
  refine wn_local (by walk_at "up") (nx_next ?_)
  refine ws_cons' ?_; refine wx_assign ?_
  refine we_list (wa_nil ⟨by rw [sizeLine_eq]; simp, fun po => ?_⟩)
  refine wn_local (by walk_at "up") ?_; refine nx_next ?_; refine ws_cons' ?_; refine wx_assign ?_; refine we_call ?_; refine we_glob (glob1 (by assumption) (by rfl)) ?_; refine wa_cons ?_; refine we_attr ?_; refine we_local (by walk_at "mem") (by walk_at "lkp") ?_
  refine ga_append (by walk_at "mem") fun b => ?_
  refine wa_nil ?_; refine wall_nil ?_
  refine ⟨kept_150 G, wc_make (cls1 G) (makes1 C) (by rfl) (by rfl) fun xo dx => w_init G fun dl dd dn pm ps a0 aM aE => ⟨rfl, ?_⟩⟩
  refine wn_local (by walk_at "up") (nx_next ?_)
  exact h xo dx dl dd dn pm ps a0 aM aE b po dc dv _ (by walk_at "lkp") (by walk_at "lkp") (by walk_at "lkp") (by walk_at "lkp") (by walk_at "lkp")
end
section
theorem perm19 {α : Type} (f c x dx dl dd dn pm ps a0 aM aE b po dc dv L t1 t2 : α) : [f, c, x, dx, dl, dd, dn, pm, ps, a0, aM, aE, b, po, dc, dv, L, t1, t2].Perm [L, dv, dc, x, dx, dl, dd, dn, pm, ps, po, b, f, c, a0, aM, aE, t1, t2] := by
  classical
  refine List.perm_iff_count.mpr fun x => ?_
  simp only [List.count_cons, List.count_nil]
  walk_at "om"
theorem WS.perm {sts : List Stmt} {led' : Led} {Q : F → Led → Prop} (hp : led.Perm led') (h : WS C n X env sts led' Q) : WS C n X env sts led Q := fun A Φ s hA S => h A Φ s hA (S.perm hp)
noncomputable def S0 (a0 aM aE : Addr) : St := ⟨[], [(a0, [xmlP])], [(aM, NSM), (aE, [])], [], [false], [], false, false, none⟩
theorem flat_sum (stk : Stk) : (flat stk).length = (stk.map fun e => e.2.length).sum := by
  unfold flat
  rw [List.length_flatMap]
  have h : (stk.reverse.map fun e => e.2.length).Perm (stk.map fun e => e.2.length) := (List.reverse_perm stk).map _
  exact h.sum_nat
theorem flat_prV (stk : Stk) : (stk.reverse.flatMap fun e => e.2.map prV) = (flat stk).map prV := by
  unfold flat
  rw [List.map_flatMap]
theorem iter_lam2 {f c' ds : Addr} {name qual : Str} {pm ctv : Value} {oc : Obj} {ws : Array Value} {t : Tok} {params : Arguments} {mr mr' : List (Str × Const)} {p1 q s1 c1 c2 c3 c4 p q' pos : Pos} {k : Nat} {stk : List (Addr × List (Str × Str))} {Q : V → Led → Prop} (G : Gr C)
    (hf : (f, AO.obj (kla_obj name qual params (.ListComp (.Name sPair p1) [⟨.Name sPairs q, .Subscript (.Name sStack s1) (.Slice none none (some (.UnaryOp .USub (.Constant (.int 1) k c1) c2)) c3) c4, [], 0⟩, ⟨.Name sPair p, .Name sPairs q', [], 0⟩]
        { kind := .function, names := [(Str.ofString ".0", .local), (sPairs, .local), (sPair, .local)], isGenerator := false, isCoroutine := false, more := mr' } pos) { kind := .function, names := [(sStack, .local)], isGenerator := false, isCoroutine := false, more := mr } [] pm c' ctv)) ∈ led)
    (hc : (c', AO.obj oc) ∈ led) (hd : oc.data = .fields ws) (hv : ws[1]? = some (.str qual t))
    (hb : ∀ fd y, fd.params = params → fd.defaults = .none → fd.kwdefaults = .none → bindArgs fd ⟨[y], []⟩ = pure [(sStack, y)])
    (hds : (ds, AO.list (stk.map fun e => V.ref e.1)) ∈ led) (hents : ∀ e ∈ ents stk, e ∈ led) (hz : stk.length ≤ 1000) (hz2 : (stk.map fun e => e.2.length).sum ≤ 100000)
    (h : ∀ acc, Q (.ref acc) ((acc, .list (stk.reverse.flatMap fun e => e.2.map prV)) :: led)) : WC C (n + 1) X (.ref f) [.ref ds] [] led Q := by
  refine wc_lamL hf hc hd hv G.lim (binds := [(sStack, .ref ds)]) (bind1 fun y => hb _ y rfl rfl rfl) fun L => ?_
  refine wcells_id rfl (wst_cons (wn_local .head (wst_nil ?_)))
  refine WE.dropQ ?_
  refine we_lcomp2 (cl := []) (hnames := by dsimp only; decide) ?_
  refine we_sub (T := "list") ?_ F.slot_list_getitem.lookup
  refine we_local List.mem_cons_self rfl ?_
  refine we_slice (wp_none (wp_none (wp_some (we_neg (we_int ⟨1, rfl, ?_⟩)))))
  refine ⟨-1, rfl, fun a o ho => ⟨ty_list (lv_own (.tail _ (.tail _ hds))), ?_⟩⟩
  refine gi_lrev (lv_own (.tail _ (.tail _ hds))) ho (by rw [sizeLine_eq]; simp; walk_at "om") ?_
  refine ⟨_, _, it_lst.o, trivial, fun acc L' => wcells_id rfl ?_⟩
  rw [← List.map_reverse]
  refine pairs_loop (r := (L, .frame _) :: led) rfl rfl (by decide) rfl rfl (by decide) stk.reverse [] [] (fun x hx => .tail _ (hents x ?_)) ?_ fun loc => ?_
  · unfold ents at hx ⊢
    rw [List.map_reverse, List.mem_reverse] at hx
    exact hx
  · simp only [List.length_nil, Nat.zero_add, List.map_reverse, List.sum_reverse]; exact hz2
  · exact ⟨_, _, .head, _, .cons₂ _ (List.sublist_cons_self _ _), h acc⟩
theorem partH5 {xo dx dl dd dn pm ps a0 aM aE b po dc dv L : Addr} {loc : List (Str × V)} {Q : F → Led → Prop} (G : Gr C) (lw : loc.lookup (Str.ofString "writer") = some (.ref xo))
    (h : ∀ k : KA, KOk C k → k.rw = false → k.x = xo → k.po = po → ∀ rest, (∃ ps, (187, AO.obj (tabObj ps)) ∈ rest) → WS C (n + 6) NoX (lwEnv C L) ((lwBody C.w.params).drop 6) ((L, .frame loc) :: (dv, .dict (strD VAL)) :: (dc, .dict (strD CON)) :: wled k (S0 a0 aM aE) rest) Q) :
    WS C (n + 6) NoX (lwEnv C L) ((lwBody C.w.params).drop 5) (hled xo dx dl dd dn pm ps a0 aM aE b po dc dv L loc) Q := by
  obtain ⟨p, loose, mean, mg, mb, T⟩ := G.top
  dsimp only [lwEnv, fenv, lwFd, lwBody, List.drop, hled] at h ⊢
  refine ws_cons' (wx_asattr ?_)
  refine we_lam_new (ps := #[]) (led' := fun c' => [(xo, .obj (instObj 150 dx)), (dx, .dict (esI b dl dd dn pm ps)), (dl, .list []), (dd, .list [.ref a0]), (dn, .list [.ref aM, .ref aE]), (pm, .dict []), (ps, .list [.bool false]), (a0, .list [prV xmlP]), (aM, .list (NSM.map prV)), (aE, .list []),
   (b, .obj (bndO po)), (po, .list []), (dc, .dict (strD CON)), (dv, .dict (strD VAL)), (L, .frame loc), (123, .obj (tabObj #[])), (187, .obj (tabObj (#[] ++ #[rawInt 243, rawInt 30, .ref c'])))]) T G.cdL rfl rfl rfl rfl (fun c' => by walk_at "up") trivial rfl fun f c' oc vs t ctv h1 h2 => ?_
  refine we_local (by walk_at "mem") (by walk_at "lkp") ?_
  refine sa_own' (es' := esI b dl dd dn pm ps ++ [(Str.ofString "_iter_namespaces", .ref f)]) (cls1 G) (by walk_at "inst") (by rfl) (by show 17 ≤ 900; decide) (by rfl) (by walk_at "up") ?_
  refine nx_next (WS.perm (perm19 ..) ?_)
  refine h ⟨xo, dx, dl, dd, dn, pm, ps, po, b, f, _, c', oc, false⟩ ?_ rfl rfl rfl [_] ⟨_, .head _⟩
  refine ⟨⟨_, rfl⟩, fun {n X led ds stk Q} hf hc hds hent hz1 hz2 hq => ?_⟩
  refine iter_lam2 G hf hc h1 h2 (fun fd y hp hp2 hp3 => ?_) hds hent hz1 (by rw [← flat_sum]; walk_at "om") fun acc => ?_
  · unfold bindArgs
    rw [hp, hp2]
    rfl
  · rw [flat_prV]
    exact hq acc
end
section
theorem perm6 {α : Type} (a b c d e f : α) (r : List α) : (a :: b :: c :: d :: e :: f :: r).Perm (d :: e :: f :: c :: b :: a :: r) := by
  classical
  refine List.perm_iff_count.mpr fun x => ?_
  simp only [List.count_cons]
  walk_at "om"
theorem partH6 {k : KA} {ns : List Int} {a0 aM aE dc dv L : Addr} {loc : List (Str × V)} {rest : Led} {Q : F → Led → Prop} (G : Gr C) (hns : ns.length ≤ 24) (ls : loc.lookup (Str.ofString "script") = some (.lst (ns.map V.int)))
    (lv : loc.lookup (Str.ofString "value") = some (.ref dv)) (lc : loc.lookup (Str.ofString "content") = some (.ref dc)) (lp : loc.lookup (Str.ofString "pieces") = some (.ref k.po)) (lw : loc.lookup (Str.ofString "writer") = some (.ref k.x))
    (h : ∀ OP SC WR loc, LocOk k dv dc OP SC WR (ns.sum.fmod 2 == 1) u0 loc → loc.lookup (Str.ofString "script") = some (.lst (ns.map V.int)) → WS C (n + 6) NoX (lwEnv C L) ((lwBody C.w.params).drop 11) (lled k (S0 a0 aM aE) L dv dc OP SC WR loc [] [[]] [wr0] rest) Q) :
    WS C (n + 6) NoX (lwEnv C L) ((lwBody C.w.params).drop 6) ((L, .frame loc) :: (dv, .dict (strD VAL)) :: (dc, .dict (strD CON)) :: wled k (S0 a0 aM aE) rest) Q := by
  dsimp only [lwEnv, fenv, lwFd, lwBody, List.drop] at h ⊢
  unfold lled at h
  refine ws_cons' ?_; refine wx_assign ?_; refine we_cmp ?_; refine we_bin ?_; refine we_call ?_; refine we_bltn (bltn1 (by assumption) (by rfl) (by rfl) (by decide)) ?_; refine wa_cons ?_; refine we_local (by walk_at "mem") (by walk_at "lkp") ?_; refine wa_nil ?_; refine wall_nil ?_
  refine ⟨kept_builtin, wc_sum (ns := ns) lv_fz ?_⟩
  refine we_int ?_; refine wb_mod (by decide) ?_; refine we_int ?_; refine wc_eq_int ?_; refine wn_local (by walk_at "up") ?_; refine nx_next ?_; refine ws_cons' ?_; refine wx_assign ?_; refine we_str ?_; refine wn_local (by walk_at "up") ?_; refine nx_next ?_; refine ws_cons' ?_; refine wx_assign ?_
  refine we_list (wa_nil ⟨by rw [sizeLine_eq]; simp, fun OP => ?_⟩)
  refine wn_local (by walk_at "up") ?_; refine nx_next ?_; refine ws_cons' ?_; refine wx_assign ?_
  refine we_list ?_
  refine wa_cons ?_
  refine W.convV ?_
  refine we_dict0 fun d0 => ?_
  refine ⟨_, _, frzD .head, ?_⟩
  refine wa_nil ⟨by rw [sizeLine_eq]; simp, fun SC => ?_⟩
  refine wn_local (by walk_at "up") ?_; refine nx_next ?_; refine ws_cons' ?_; refine wx_assign ?_
  refine we_list ?_
  refine wa_cons ?_
  refine W.convV ?_
  refine we_dict ?_ (hall := ?_) (hl := ?_) (h0 := ?_) (hlen := ?_)
  rotate_left
  · rfl
  · rfl
  · exact List.cons_ne_nil _ _
  · exact Nat.le_of_ble_eq_true rfl
  intro dw
  refine wp_cons ?_
  refine we_str ?_; refine we_str ?_
  refine ⟨_, rfl, wp_nil ⟨_, .head, by simp, ?_⟩⟩
  refine ⟨_, _, frzD .head, ?_⟩
  refine wa_nil ⟨by rw [sizeLine_eq]; simp, fun WR => ?_⟩
  refine wn_local (by walk_at "up") (nx_next ?_)
  refine WS.perm (perm6 ..) ?_
  exact h OP SC WR _ ⟨by walk_at "lkp", by walk_at "lkp", by walk_at "lkp", by walk_at "lkp", by walk_at "lkp", by walk_at "lkp", by walk_at "lkp", by walk_at "lkp", by walk_at "lkp"⟩ (by walk_at "lkp")
end
section
noncomputable def frontI (ns : List Int) : List Int := if ns.isEmpty = true then [0] else ns
noncomputable def itemsI (ns : List Int) : List Int := frontI ns ++ List.replicate (ns.length + 1) 2
theorem nsm_ok : ∀ e ∈ NSM, (e.1 ∈ URIS → e.2 = pfx e.1) ∧ e.1 ≠ u0 ∧ e.2.length ≤ 900 := by decide +kernel
theorem nsm_two : (uX, pfx uX) ∈ NSM ∧ (uS, pfx uS) ∈ NSM ∧ NSM.length = 7 ∧ xmlP = (uX, sXml) ∧ pfx uX = sXml ∧ uX ∈ URIS ∧ uX ≠ u0 := by decide +kernel
theorem top0 {back : Bool} {a0 aM aE : Addr} : Top back 0 (flat [(a0, [xmlP])]) (flat ([(aM, NSM)] ++ [(aE, [])])) [] wr0 := by
  obtain ⟨h1, h2, h3, h4, h5, h6, h7⟩ := nsm_two
  have e1 : flat [(a0, [xmlP])] = [(uX, sXml)] := by rw [← h4]; rfl
  have e2 : flat ([(aM, NSM)] ++ [(aE, [])]) = NSM := by
    rw [flat_snoc]
    show flat ([] ++ [(aM, NSM)]) = _
    rw [flat_snoc]
    show NSM ++ [] = _
    rw [List.append_nil]
  rw [e1, e2]
  refine ⟨List.mem_cons_self, fun e he => ?_, fun e he => ⟨(nsm_ok e he).1, fun _ => (nsm_ok e he).2.1, (nsm_ok e he).2.2⟩, h1, h2, fun p => ?_, by simp, by simp, fun p u hp => (by cases hp), fun e he => ?_, by simp, by simp⟩
  · rw [List.mem_singleton] at he
    subst he
    exact ⟨h6, h5.symm, fun _ => h7⟩
  · rw [lkp_cons, List.lookup_cons]
    by_cases hp : p = sXml
    · subst hp
      simp
    · rw [show (p == sXml) = false from by simpa using hp, if_neg (fun q => hp q.symm)]
      rfl
  · rw [List.mem_singleton] at he
    subst he
    exact .inl rfl
theorem inv0 {back : Bool} {a0 aM aE : Addr} {ns : List Int} (hns : ns.length ≤ 24) : Inv back (itemsI ns) (S0 a0 aM aE) [] [[]] [wr0] u0 := by
  have hf : (frontI ns).length ≤ 24 ∧ (frontI ns).length ≤ ns.length + 1 ∧ frontI ns ≠ [] := by
    unfold frontI
    cases ns with
    | nil => exact ⟨by decide, by decide, by decide⟩
    | cons a r => exact ⟨hns, by show (a :: r).length ≤ _; walk_at "om", List.cons_ne_nil _ _⟩
  have hl : (itemsI ns).length ≤ 49 := by
    unfold itemsI
    rw [List.length_append, List.length_replicate]
    walk_at "om"
  obtain ⟨h1, h2, h3, h4, h5, h6, h7⟩ := nsm_two
  have f1 : (flat (S0 a0 aM aE).decl).length = 1 := rfl
  have f2 : (flat (S0 a0 aM aE).ns).length = 7 := rfl
  refine ⟨.base top0, ?_, fun q => absurd rfl q, fun q => absurd rfl q, rfl, fun c oc q => (by cases q), rfl, ⟨frontI ns, ns.length + 1, rfl, ?_, .inl hf.2.2⟩, ?_, ?_, ?_, ?_, ?_, ?_⟩
  · show catAll [] ++ escC (catAll []) = _
    rw [escC_nil, app_u0]; rfl
  · show 0 + _ ≤ _
    walk_at "om"
  · show 0 + _ ≤ _
    walk_at "om"
  · show 0 + _ ≤ _
    walk_at "om"
  · show 0 + _ ≤ _
    walk_at "om"
  · rw [f1]; walk_at "om"
  · rw [f2]; walk_at "om"
  · show 0 + _ ≤ _
    walk_at "om"
theorem rep_int (m : Nat) : (List.replicate m [V.int 2]).flatten = (List.replicate m (2 : Int)).map V.int := by
  induction m with
  | zero => rfl
  | succ m ih => rw [List.replicate_succ, List.flatten_cons, ih, List.replicate_succ]; rfl
theorem partH11 {k : KA} {ns : List Int} {a0 aM aE dc dv L OP SC WR : Addr} {back : Bool} {loc : List (Str × V)} {rest : Led} {Q : F → Led → Prop} (G : Gr C) (ko : KOk C k) (hrw : k.rw = false) (hns : ns.length ≤ 24) (ls : loc.lookup (Str.ofString "script") = some (.lst (ns.map V.int)))
    (lo : LocOk k dv dc OP SC WR back u0 loc) (hr : ∃ ps, (187, AO.obj (tabObj ps)) ∈ rest) (h : ∀ l, Grown l → Q (.ret (.bool true)) l) :
    WS C (n + 6) NoX (lwEnv C L) ((lwBody C.w.params).drop 11) (lled k (S0 a0 aM aE) L dv dc OP SC WR loc [] [[]] [wr0] rest) Q := by
  have fin : ∀ s' op' sc' wr' due' loc', Inv back [] s' op' sc' wr' due' → LocOk k dv dc OP SC WR back due' loc' → WS C (n + 6) NoX (lwEnv C L) ((lwBody C.w.params).drop 12) (lled k s' L dv dc OP SC WR loc' op' sc' wr' rest) Q := fun s' op' sc' wr' due' loc' iv lo' => law_end G ko hrw iv lo' hr h
  have loop := fun p : Pos => law_loop (n := n + 6) (L := L) (rest := rest) (target := .Name (Str.ofString "x") p) (p := p) G rfl (Inv := Inv back) (law_step (n := n) (L := L) (dv := dv) (dc := dc) (OP := OP) (SC := SC) (WR := WR) (rest := rest) G ko hrw) (itemsI ns) (S0 a0 aM aE) [] [[]] [wr0] u0 loc (nx (fun led1 => WS C (n + 6) NoX (lwEnv C L) ((lwBody C.w.params).drop 12) led1 Q) Q) (inv0 hns) lo fun s' op' sc' wr' due' loc' iv lo' => nx_next (fin s' op' sc' wr' due' loc' iv lo')
  clear fin
  have hw := lo
  obtain ⟨o1, o2, o3, o4, o5, o6, o7, o8, o9⟩ := lo
  dsimp only [lwEnv, fenv, lwFd, lwBody, lwLoop, List.drop] at loop ⊢
  unfold lled at loop ⊢
  refine ws_cons' (wx_for ?_)
  refine we_bin (WE.cut (fun v l => v = .lst ((frontI ns).map V.int)) ?_ ?_)
  · refine we_ife ?_; refine wt_cmp ?_; refine we_local (by walk_at "mem") (by walk_at "lkp") ?_
    refine we_listF (wa_nil ⟨by rw [sizeLine_eq]; simp, wc_ne_nil (vs := ns.map V.int) lv_fz lv_fz ?_⟩)
    rw [show (ns.map V.int).isEmpty = ns.isEmpty from by cases ns <;> rfl]
    refine tr_bool ?_
    refine ift_both (fun b => ?_) (fun b => ?_)
    · refine we_local (by walk_at "mem") (by walk_at "lkp") ?_
      refine ⟨?_, rfl⟩
      unfold frontI
      rw [if_neg (by intro q; rw [q] at b; cases b)]
    · refine we_listF (wa_cons ?_)
      refine we_int ?_; refine wa_nil ?_
      refine ⟨by rw [sizeLine_eq]; simp, ?_, rfl⟩
      unfold frontI
      rw [if_pos (by cases hq : ns.isEmpty with | true => rfl | false => rw [hq] at b; cases b)]
      rfl
  · intro v hv
    subst hv
    refine we_bin (we_listF (wa_cons ?_))
    refine we_int ?_; refine wa_nil ?_
    refine ⟨by rw [sizeLine_eq]; simp, ?_⟩
    refine we_bin ?_; refine we_call ?_; refine we_bltn (bltn1 (by assumption) (by rfl) (by rfl) (by decide)) ?_; refine wa_cons ?_; refine we_local (by walk_at "mem") (by walk_at "lkp") ?_; refine wa_nil ?_; refine wall_nil ?_
    refine ⟨kept_builtin, wc_len_list (vs := ns.map V.int) lv_fz (by rw [List.length_map]; walk_at "om") ?_⟩
    rw [List.length_map]
    refine we_int ?_; refine wb_add ?_
    refine wb_rep (vs := [V.int 2]) lv_fz (by walk_at "om") (by walk_at "om") (by rw [List.length_singleton]; walk_at "om") ?_
    have e1 : ((ns.length : Int) + 1).toNat = ns.length + 1 := by walk_at "om"
    rw [e1, rep_int]
    refine wb_catl lv_fz lv_fz ?_ ?_
    · rw [List.length_map, List.length_map, List.length_replicate, sizeLine_eq]
      have : (frontI ns).length ≤ 24 := by
        unfold frontI
        split
        · decide
        · exact hns
      walk_at "om"
    rw [← List.map_append]
    refine ⟨_, it_lst, ?_⟩
    exact loop _
theorem partH {L : Addr} {ns : List Int} {Q : F → Led → Prop} (G : Gr C) (hns : ns.length ≤ 63) (h : ∀ l, Grown l → Q (.ret (.bool true)) l) :
    WS C (n + 6) NoX (lwEnv C L) (lwBody C.w.params) ((L, .frame [(Str.ofString "script", .lst (ns.map V.int))]) :: (123, .obj (tabObj #[])) :: (187, .obj (tabObj #[])) :: []) Q :=
  partH0 G hns fun xo dx dl dd dn pm ps a0 aM aE b po dc dv loc l1 l2 l3 l4 l5 => partH5 G l5 fun k ko hrw e1 e2 rest hr => by
    subst e1 e2
    exact partH6 G (by rw [List.length_take]; walk_at "om") l1 l2 l3 l4 l5 fun OP SC WR loc lo ls => partH11 G ko hrw (by rw [List.length_take]; walk_at "om") ls lo hr h
end
section
theorem head_list {P : Params} {h : Heap} {ds : Addr} {vs : List Value} {l : List PyData} (w1 : Well P h (.ref ds) (ofPy (PyData.list l))) (hL : h.IsList ds vs.toArray) : h.get? ds = some (lstO vs 0) := by
  obtain ⟨xs, hx⟩ : ∃ xs, ofPy (PyData.list l) = WData.list xs := ⟨_, by rw [ofPy]⟩
  rw [hx] at w1
  cases w1 with
  | list h1 h2 =>
    obtain ⟨o, ho, _, n, hd⟩ := hL
    rw [h1] at ho
    cases ho
    injection hd with e1 e2
    rw [h1, e1]
    rfl
theorem ints_vr {C : Cx} {Φ : PH} {vs : List Value} {ns : List Int} (h : IntsAre vs ns) : VRs C Φ (ns.map V.int) vs := by
  induction h with
  | nil => exact .nil
  | cons n t _ ih => exact .cons (by simp only [VR]; exact ⟨t, rfl⟩) ih
theorem room6 (e : Env) : Room 6 (callerA.deeper e) := ⟨rfl, Nat.le_of_ble_eq_true rfl, Nat.le_of_ble_eq_true rfl⟩
theorem law1_run {w : World} {s : Shared} {gh : Heap} {A : Around} {L ds : Addr} {vs : List Value} {ns : List Int} {prog p : Program} {loose : List Str} {mean : ExcName → Option Value} {mg mb : Str → Option Value} {Q : Flow → Shared → Prop} {E : Value → Shared → Prop}
    (X : (hd1.heap_1 w.params).In gh) (T : _root_.PyProof.Rows.Top p loose mean mg mb gh) (cS : CodeHd gh 125 123) (cL : CodeHd gh 189 187)
    (F : Fr gh L s.heap fun x => List.lookup x [(Str.ofString "script", Value.ref ds)]) (N : News gh L s.heap [(123, tabObj #[]), (187, tabObj #[])])
    (hl : gh.get? ds = some (lstO vs 0)) (hi : IntsAre vs ns) (hn : ns.length ≤ 63) (hg : s.gens = #[]) (htk : 0 < s.toks) (room : Room 6 A)
    (hq : ∀ s', (∀ b o, gh.get? b = some o → s'.heap.get? b = some o) → s'.gens = #[] → s'.os = s.os → (∃ ps, s'.heap.get? 123 = some (tabObj ps)) → (∃ ps, s'.heap.get? 187 = some (tabObj ps)) → Q (.ret (.bool true)) s') :
    wpAny (model prog w) A (execs (lwBody w.params) (fenv (lwFd w.params) 190 L [])) Q E s := by
  let C : Cx := ⟨prog, w, gh, s.os⟩
  obtain ⟨og, _, _, hmain, _⟩ := T.g
  have big : mainGlobals < gh.objs.size := Heap.lt_size hmain
  have hL : gh.get? L = none := by
    cases e : gh.get? L with
    | none => rfl
    | some o => exact absurd (Nat.lt_of_lt_of_le (Heap.lt_size e) F.above) (Nat.lt_irrefl _)
  have n1 := N _ (.head _)
  have n2 := N _ (.tail _ (.head _))
  have bigL : 3 < L := Nat.lt_of_lt_of_le big F.above
  have S : Sat C gh.get? [(L, .frame [(Str.ofString "script", .lst (ns.map V.int))]), (123, .obj (tabObj #[])), (187, .obj (tabObj #[]))] s := by
    refine ⟨⟨fun a o e => e, fun a o e => F.keep a o e, ?_, fun q hp => ?_, fun q hp => ?_, hg, rfl, ⟨mainGlobals, og, by decide, hmain⟩, ?_⟩, htk⟩
    · show [L, 123, 187].Nodup
      have a1 : L ≠ 123 := fun e => n1.2.1 e.symm
      have a2 : L ≠ 187 := fun e => n2.2.1 e.symm
      simp [a1, a2]
    · rcases List.mem_cons.mp hp with rfl | hp
      · exact hL
      · rcases List.mem_cons.mp hp with rfl | hp
        · exact n1.2.2
        · rw [List.mem_singleton] at hp
          subst hp
          exact n2.2.2
    · rcases List.mem_cons.mp hp with rfl | hp
      · obtain ⟨o, es, ep, ho, hd, hk, hf⟩ := F.ns
        refine ⟨o, ho, es, ep, hd, hk, fun x v hv => ?_⟩
        rw [hf]
        show ∃ y, List.lookup x [(Str.ofString "script", Value.ref ds)] = some y ∧ _
        rw [List.lookup_cons] at hv ⊢
        cases hx : (x == Str.ofString "script") with
        | true =>
          rw [hx] at hv
          cases hv
          refine ⟨_, rfl, ?_⟩
          simp only [VR]
          exact ⟨ds, vs, 0, rfl, hl, ints_vr hi⟩
        | false => rw [hx] at hv; cases hv
      · rcases List.mem_cons.mp hp with rfl | hp
        · exact ⟨_, n1.1, rfl, get_freed n1.1⟩
        · rw [List.mem_singleton] at hp
          subst hp
          exact ⟨_, n2.1, rfl, get_freed n2.1⟩
    · show sysModules ∉ [L, 123, 187]
      have a1 : (1 : Nat) ≠ L := by intro e; rw [← e] at bigL; exact absurd bigL (by decide)
      have a2 : sysModules = 1 := rfl
      rw [a2]
      simp [a1]
  have G : Gr C := ⟨X, T.nolimit, ⟨p, loose, mean, mg, mb, T⟩, cS, cL⟩
  refine wpAny_mono (partH (C := C) (n := 0) (L := L) (Q := fun f l => f = .ret (.bool true) ∧ Grown l) G hn (fun l hl => ⟨rfl, hl⟩) A gh.get? s room S) (fun f s' h => ?_) (fun e s' h => h.no.elim)
  obtain ⟨Φ', b, l, hle, S', hr, rfl, hgr⟩ := h
  obtain ⟨x, rfl, hx⟩ := hr
  have hx : x = .bool true := by simpa only [VR] using hx
  subst hx
  refine hq s' (fun b o e => S'.keep e) S'.gens S'.os ?_ ?_
  · obtain ⟨ps, hm⟩ := hgr.1
    obtain ⟨o, ho, rfl, _⟩ := S'.at hm
    exact ⟨ps, ho⟩
  · obtain ⟨ps, hm⟩ := hgr.2
    obtain ⟨o, ho, rfl, _⟩ := S'.at hm
    exact ⟨ps, ho⟩
end
end Mine
theorem PySem.Challenge.cw_dr0132_01_holds : PySem.Challenge.rw_dr0132_01.Holds := by
  refine Mine.law_of (Mine.hd1 (by
    k_fill
    intro w s₀ s₁ mg mb G Y fa o pm cd doc dV kV ho hd hcd hD hmg hg args vals as hpre hlay hrd hwl hlo
    have KX := km_in_of Y
    km_tabs Y
    have X := (Ground.X G).1
    have V := (Ground.X G).2
    refine Ground.open G ?_
    intro T B D TE TW
    try (refine guard_noD D (by decide +kernel) ?_; clear D)
    km_lay T hmg ho hd cd
    have hfa := hmg.symm.trans (mg_of KX T.g (n := Str.ofString "law") (v := .ref 190) (by rfl))
    have hfa : fa = 190 := by injection hfa with e; injection e
    subst hfa
    clear hmg
    wrow_args hpre hlay hrd hwl hlo
    all_goals (
      first | refine callC_kw (enter_call ?_) | refine enter_call ?_
      w_top on
      kn_posts
      w_call any ho hd hcd hD T F
      clear hd
      kn_ghosts F T
      k_drop
      refine Mine.law1_run (by assumption) (by assumption) (by assumption) (by assumption) (by assumption) (by assumption) (ghost_get (by assumption) (Mine.head_list (by assumption) (by assumption)) (fun e => by cases e)) (by assumption) (by omega) (by assumption) (Nat.succ_pos _) (Mine.room6 _) (fun s' hk hg' ho' h1 h2 => ?_)
      exact ⟨⟨.inl ⟨.bool true, .bool true, [], rfl, fun _ => rfl, .bool true, (by first | rfl | wrow_post), fun _ => ⟨List.nodup_nil, fun _ q => by cases q⟩⟩, hk, ho', hg'⟩, h1, h2, trivial⟩)))
