import PyProof.Rows.All
import Wide.All
import OpenK.AllK
import Wide.FinOn
import PyProof.ListNew
import Lean
import PySem.Challenge.RW_tc0054_01
set_option Elab.async false
set_option linter.all false
set_option tactic.hygienic false
section
namespace Mine.Internal
theorem nos {α : Type} {a : α} {p : Prop} (h : (none : Option α) = some a) : p := nomatch h
theorem sp1 {α : Type} {p : Prop} {a c : α} (h : some a = some c) (k : c = a → p) : p := k (Option.some.inj h).symm
theorem sp2 {α β : Type} {p : Prop} {a c : α} {b d : β} (h : some (a, b) = some (c, d)) (k : c = a → b = d → p) : p := sp1 h fun q => k (congrArg Prod.fst q) (congrArg Prod.snd q).symm
theorem sp3 {α β γ : Type} {p : Prop} {a c : α} {b d : β} {e f : γ} (h : some (a, b, e) = some (c, d, f)) (k : c = a → d = b → f = e → p) : p := sp1 h fun q => k (congrArg Prod.fst q) (congrArg (·.2.1) q) (congrArg (·.2.2) q)
end Mine.Internal
end
section
open PySem PySem.W PyProof.Rows
namespace Mine.Internal
set_option tactic.hygienic true in
theorem runs_toks {M : Model} {Γ : Ctx} {p : Pos} {t : Sem Fin} {fs : List Frame} {s : Shared} {e : End} {s' : Shared} (h : Runs M Γ p t fs s e s') : s.toks ≤ s'.toks := by
  induction h <;> first
    | exact Nat.le_refl _
    | assumption
    | omega
    | (rename_i ih; exact Nat.le_of_succ_le ih)
    | (rename_i a b; exact Nat.le_trans a b)
    | (rename_i a _ _ b; exact Nat.le_trans a b)
    | (rename_i a b; exact Nat.le_trans (by exact a) (by exact b))
theorem wakes_toks {M : Model} {Γ : Ctx} {p : Pos} {g : Nat} {r : Resume} {s : Shared} {res : GenResult} {s' : Shared} (h : Wakes M Γ p g r s res s') : s.toks ≤ s'.toks := by
  unfold Wakes at h
  split at h
  · exact h.elim
  · split at h
    · obtain ⟨e₁, s₁, hr, _, _, rfl⟩ := h; have q := runs_toks hr; exact q
    · exact Nat.le_of_eq (by rw [h.2])
    · rw [h.2]; exact Nat.le_refl _
  · obtain ⟨e₁, s₁, hr, _, _, rfl⟩ := h; have q := runs_toks hr; exact q
  · rw [h.2]; exact Nat.le_refl _
  · rw [h.2]; exact Nat.le_refl _
theorem wp_toks {α : Type} {M : Model} {Γ : Ctx} {E : Value → Pos → Shared → Prop} {Q : α → Pos → Shared → Prop} (n : Nat) : ∀ (t : Sem α) (p : Pos) (s : Shared), n ≤ s.toks →
    Sem.wp M Γ t (fun a p' s' => n ≤ s'.toks → Q a p' s') E p s → Sem.wp M Γ t Q E p s := by
  intro t
  induction t with
  | pure a => intro p s hn h; simp only [Sem.wp] at *; exact h hn
  | raise e => intro p s hn h; simp only [Sem.wp] at *; exact h
  | unsupported => intro p s hn h; exact h
  | finish => intro p s hn h; exact h
  | rule _ k ih => intro p s hn h; simp only [Sem.wp] at *; exact ih _ _ _ hn h
  | «at» _ k ih => intro p s hn h; simp only [Sem.wp] at *; exact ih _ _ _ hn h
  | load a _ k ih => intro p s hn h; simp only [Sem.wp] at *; obtain ⟨o, ho, h⟩ := h; exact ⟨o, ho, ih _ _ _ hn h⟩
  | update a _ f k ih => intro p s hn h; simp only [Sem.wp] at *; exact ⟨h.1, ih _ _ _ hn h.2⟩
  | alloc o k ih => intro p s hn h; simp only [Sem.wp] at *; exact ih _ _ _ hn h
  | loadIfAlive a k ih => intro p s hn h; simp only [Sem.wp] at *; exact ih _ _ _ hn h
  | point _ k ih => intro p s hn h; simp only [Sem.wp] at *; exact ih _ _ _ hn h
  | register => intro p s hn h; exact h
  | fresh k ih => intro p s hn h; simp only [Sem.wp] at *; exact ih _ _ _ (Nat.le_succ_of_le hn) h
  | ask k ih => intro p s hn h; simp only [Sem.wp] at *; exact ih _ _ _ hn h
  | choose _ _ k ih => intro p s hn h; simp only [Sem.wp] at *; exact ⟨h.1, ih _ _ _ hn h.2⟩
  | os _ _ k ih => intro p s hn h; simp only [Sem.wp] at *; exact ih _ _ _ hn h
  | call c _ _ _ k ih =>
    intro p s hn h
    simp only [Sem.wp] at *
    obtain ⟨r, s', hr, h⟩ := h
    exact ⟨r, s', hr, ih _ _ _ (Nat.le_trans hn (runs_toks hr)) h⟩
  | handled _ k ih => intro p s hn h; simp only [Sem.wp] at *; exact ih _ _ _ hn h
  | newGen _ k ih => intro p s hn h; simp only [Sem.wp] at *; exact ih _ _ _ hn h
  | genState _ k ih => intro p s hn h; simp only [Sem.wp] at *; obtain ⟨o, ho, h⟩ := h; exact ⟨o, ho, ih _ _ _ hn h⟩
  | resume _ _ _ k ih =>
    intro p s hn h
    simp only [Sem.wp] at *
    obtain ⟨r, s', hr, h⟩ := h
    exact ⟨r, s', hr, ih _ _ _ (Nat.le_trans hn (wakes_toks hr)) h⟩
  | yield => intro p s hn h; exact h
  | stack k ih => intro p s hn h; simp only [Sem.wp] at *; exact ih _ _ _ hn h
  | fork => intro p s hn h; exact h
  | thread k ih => intro p s hn h; simp only [Sem.wp] at *; exact ih _ _ _ hn h
  | await => intro p s hn h; exact h
theorem wpAny_up {α : Type} {M : Model} {A : Around} {t : Sem α} {Q : α → Shared → Prop} {E : Value → Shared → Prop} {s : Shared}
    (h : wpAny M A t (fun v s' => s.toks ≤ s'.toks → Q v s') E s) : wpAny M A t Q E s := fun Γ p hΓ => wp_toks s.toks t p s (Nat.le_refl _) (h Γ p hΓ)
end Mine.Internal
end
section
open PySem PySem.W PyProof.Rows
namespace Mine.Internal
inductive Bi where
  | len | min | sum | sorted | int | range | list | str | zip
  deriving Inhabited
noncomputable def Bi.val : Bi → Value
  | .len => .builtin "len" | .min => .builtin "min" | .sum => .builtin "sum" | .sorted => .builtin "sorted"
  | .int => .type "int" | .range => .type "range" | .list => .type "list" | .str => .type "str" | .zip => .type "zip"
inductive PV where
  | none | bool (b : Bool) | int (i : Int) | str (s : Str) | strg (s : Str)
  | tup (xs : List PV) | lst (xs : List PV) | dct (es : List (Str × PV))
  | rng (a b c : Int) | hdr (n : Nat) | obj (n : Nat) | con (v : Value) | bi (b : Bi)
  deriving Inhabited
inductive PO where
  | list (xs : List PV) | dict (es : List (Str × PV)) | acc (xs : List PV) | lock
  deriving Inhabited
set_option genInjectivity false in
set_option genSizeOf false in
structure Stc where
  prog : Program
  w : World
  h₀ : Heap
  tb : Addr → Prop
  tbIn : ∀ a, tb a → ∃ o, h₀.get? a = some o
  cA : Addr
  cH : Addr
set_option genInjectivity false in
set_option genSizeOf false in
structure Gh where
  ρ : List Addr
  ξ : List Addr
  tk : Nat
noncomputable abbrev seqO (c : String) (vs : List Value) (k : Nat) : Obj := { cls := .type c, data := .seq vs.toArray k }
noncomputable def Fz (S : Stc) (g : Gh) (a : Addr) : Prop := a ∉ g.ρ ∧ a ∉ g.ξ ∧ ¬ S.tb a
mutual
inductive VR (S : Stc) (h : Heap) (g : Gh) : PV → Value → Prop
  | none : VR S h g .none .none
  | bool (b) : VR S h g (.bool b) (.bool b)
  | int (i t) : VR S h g (.int i) (.int i t)
  | str (x t) : VR S h g (.str x) (.str x t)
  | strg {x t} : 0 < t → t < g.tk → VR S h g (.strg x) (.str x t)
  | con (v) : VR S h g (.con v) v
  | bi (b) : VR S h g (.bi b) b.val
  | obj {n a} : g.ρ[n]? = some a → VR S h g (.obj n) (.ref a)
  | tup {xs vs a k} : h.get? a = some (seqO "tuple" vs k) → Fz S g a → VRs S h g xs vs → VR S h g (.tup xs) (.ref a)
  | lst {xs vs a k} : h.get? a = some (seqO "list" vs k) → Fz S g a → VRs S h g xs vs → VR S h g (.lst xs) (.ref a)
  | dct {es kvs a ep} : h.DictAt (strKind S.prog S.w) a kvs ep → Fz S g a → S.h₀.get? a = none → kvs.map (·.1) = es.map (·.1) → VRs S h g (es.map (·.2)) (kvs.map (·.2)) → VR S h g (.dct es) (.ref a)
  | rng {a b c r t u v} : IsRange h r a b c t u v → Fz S g r → VR S h g (.rng a b c) (.ref r)
  | hdr {n l x dx od m} : g.ρ[n]? = some l → h.get? x = some (instObj S.cH dx) → h.get? dx = some od → h.Ns dx m → m "_headers" = some (.ref l) → (∀ x, x ≠ ("_headers" : Str) → m x = none) → od.cls = .type "dict" → Fz S g x → Fz S g dx → VR S h g (.hdr n) (.ref x)
inductive VRs (S : Stc) (h : Heap) (g : Gh) : List PV → List Value → Prop
  | nil : VRs S h g [] []
  | cons {x v xs vs} : VR S h g x v → VRs S h g xs vs → VRs S h g (x :: xs) (v :: vs)
end
section
variable {S : Stc} {h : Heap} {g : Gh} {x : Value} {p : Prop}
noncomputable def VRi (S : Stc) (h : Heap) (g : Gh) : PV → Value → Prop
  | .none, x => x = .none
  | .bool b, x => x = .bool b
  | .int i, x => ∃ t, x = .int i t
  | .str y, x => ∃ t, x = .str y t
  | .strg y, x => ∃ t, x = .str y t ∧ 0 < t ∧ t < g.tk
  | .con v, x => x = v
  | .bi b, x => x = b.val
  | .obj n, x => ∃ a, x = .ref a ∧ g.ρ[n]? = some a
  | .tup xs, x => ∃ a vs k, x = .ref a ∧ h.get? a = some (seqO "tuple" vs k) ∧ Fz S g a ∧ VRs S h g xs vs
  | .lst xs, x => ∃ a vs k, x = .ref a ∧ h.get? a = some (seqO "list" vs k) ∧ Fz S g a ∧ VRs S h g xs vs
  | .rng a b c, x => ∃ r t u v, x = .ref r ∧ IsRange h r a b c t u v ∧ Fz S g r
  | .dct es, x => ∃ a kvs ep, x = .ref a ∧ h.DictAt (strKind S.prog S.w) a kvs ep ∧ Fz S g a ∧ S.h₀.get? a = none ∧ kvs.map (·.1) = es.map (·.1) ∧ VRs S h g (es.map (·.2)) (kvs.map (·.2))
  | .hdr n, x => ∃ y l dx od m, x = .ref y ∧ g.ρ[n]? = some l ∧ h.get? y = some (instObj S.cH dx) ∧ h.get? dx = some od ∧ h.Ns dx m ∧ m "_headers" = some (.ref l) ∧ (∀ x, x ≠ ("_headers" : Str) → m x = none) ∧ od.cls = .type "dict" ∧ Fz S g y ∧ Fz S g dx
theorem VR.inv {v : PV} {x : Value} (r : VR S h g v x) : VRi S h g v x :=
  VR.casesOn (motive_1 := fun v x j9 => VRi S h g v x) r rfl (fun j9 => rfl) (fun j9 t => ⟨t, rfl⟩) (fun j9 t => ⟨t, rfl⟩) (fun a b => ⟨_, rfl, a, b⟩) (fun j9 => rfl) (fun j9 => rfl) (fun e => ⟨_, rfl, e⟩) (fun a b c => ⟨_, _, _, rfl, a, b, c⟩) (fun a b c => ⟨_, _, _, rfl, a, b, c⟩) (fun a b c d e => ⟨_, _, _, rfl, a, b, c, d, e⟩) (fun a b => ⟨_, _, _, _, rfl, a, b⟩) (fun a b c d e f i j k => ⟨_, _, _, _, _, rfl, a, b, c, d, e, f, i, j, k⟩)
theorem VR.eNone (r : VR S h g .none x) (k : .none = x → p) : p := k r.inv.symm
theorem VR.eBool {b} (r : VR S h g (.bool b) x) (k : .bool b = x → p) : p := k r.inv.symm
theorem VR.eInt {i} (r : VR S h g (.int i) x) (k : ∀ t, .int i t = x → p) : p := r.inv.elim fun t e => k t e.symm
theorem VR.eStr {y} (r : VR S h g (.str y) x) (k : ∀ t, .str y t = x → p) : p := r.inv.elim fun t e => k t e.symm
theorem VR.eStrg {y} (r : VR S h g (.strg y) x) (k : ∀ t, .str y t = x → 0 < t → t < g.tk → p) : p := r.inv.elim fun t e => k t e.1.symm e.2.1 e.2.2
theorem VR.eCon {v} (r : VR S h g (.con v) x) (k : v = x → p) : p := k r.inv.symm
theorem VR.eBi {b} (r : VR S h g (.bi b) x) (k : b.val = x → p) : p := k r.inv.symm
theorem VR.eObj {n} (r : VR S h g (.obj n) x) (k : ∀ a, .ref a = x → g.ρ[n]? = some a → p) : p := r.inv.elim fun t e => k t e.1.symm e.2
theorem VR.eTup {xs} (r : VR S h g (.tup xs) x) (k : ∀ a vs k, .ref a = x → h.get? a = some (seqO "tuple" vs k) → Fz S g a → VRs S h g xs vs → p) : p := r.inv.elim fun a q => q.elim fun vs q => q.elim fun n q => k a vs n q.1.symm q.2.1 q.2.2.1 q.2.2.2
theorem VR.eLst {xs} (r : VR S h g (.lst xs) x) (k : ∀ a vs k, .ref a = x → h.get? a = some (seqO "list" vs k) → Fz S g a → VRs S h g xs vs → p) : p := r.inv.elim fun a q => q.elim fun vs q => q.elim fun n q => k a vs n q.1.symm q.2.1 q.2.2.1 q.2.2.2
theorem VR.eRng {a b c} (r : VR S h g (.rng a b c) x) (k : ∀ q t u v, .ref q = x → IsRange h q a b c t u v → Fz S g q → p) : p := r.inv.elim fun a q => q.elim fun t q => q.elim fun u q => q.elim fun v q => k a t u v q.1.symm q.2.1 q.2.2
theorem VR.eDct {es} (r : VR S h g (.dct es) x) (k : ∀ a kvs ep, .ref a = x → h.DictAt (strKind S.prog S.w) a kvs ep → Fz S g a → S.h₀.get? a = Option.none → kvs.map (·.1) = es.map (·.1) → VRs S h g (es.map (·.2)) (kvs.map (·.2)) → p) : p := r.inv.elim fun a q => q.elim fun kvs q => q.elim fun ep q => k a kvs ep q.1.symm q.2.1 q.2.2.1 q.2.2.2.1 q.2.2.2.2.1 q.2.2.2.2.2
theorem VR.eHdr {n} (r : VR S h g (.hdr n) x) (k : ∀ y l dx od m, .ref y = x → g.ρ[n]? = some l → h.get? y = some (instObj S.cH dx) → h.get? dx = some od → h.Ns dx m → m "_headers" = some (.ref l) → (∀ x, x ≠ ("_headers" : Str) → m x = Option.none) → od.cls = .type "dict" → Fz S g y ∧ Fz S g dx → p) : p :=
  r.inv.elim fun y q => q.elim fun l q => q.elim fun dx q => q.elim fun od q => q.elim fun m q => k y l dx od m q.1.symm q.2.1 q.2.2.1 q.2.2.2.1 q.2.2.2.2.1 q.2.2.2.2.2.1 q.2.2.2.2.2.2.1 q.2.2.2.2.2.2.2.1 q.2.2.2.2.2.2.2.2
theorem VRs.eNil {xs} (r : VRs S h g [] xs) (k : [] = xs → p) : p := by
  cases r; exact k rfl
theorem VRs.eCons {x xs us} (r : VRs S h g (x :: xs) us) (k : ∀ v vs, v :: vs = us → VR S h g x v → VRs S h g xs vs → p) : p := by
  cases r with | cons a b => exact k _ _ rfl a b
end
structure Mono (S : Stc) (h : Heap) (g : Gh) (h' : Heap) (g' : Gh) : Prop where
  keep : ∀ a o, h.get? a = some o → Fz S g a → h'.get? a = some o
  fz : ∀ a o, h.get? a = some o → Fz S g a → Fz S g' a
  at_ : ∀ (n : Nat) (a : Addr), g.ρ[n]? = some a → g'.ρ[n]? = some a
  tk : g.tk ≤ g'.tk
theorem Ns.of_keep {h h' : Heap} {a : Addr} {m} (x : h.Ns a m) (k : ∀ o, h.get? a = some o → h'.get? a = some o) : h'.Ns a m :=
  let ⟨o, es, ep, ho, r⟩ := x; ⟨o, es, ep, k o ho, r⟩
theorem DictAt.of_keep {prog w} {h h' : Heap} {a : Addr} {kvs ep} (x : h.DictAt (strKind prog w) a kvs ep) (k : ∀ o, h.get? a = some o → h'.get? a = some o) : h'.DictAt (strKind prog w) a kvs ep :=
  let ⟨o, es, ho, r⟩ := x; ⟨o, es, k o ho, r⟩
theorem IsRange.of_keep {h h' : Heap} {r : Addr} {a b c t u v} (x : IsRange h r a b c t u v) (k : ∀ o, h.get? r = some o → h'.get? r = some o) : IsRange h' r a b c t u v := by
  exact k _ x
theorem VR.mono {S h g h' g'} (M : Mono S h g h' g') {v x} (r : VR S h g v x) : VR S h' g' v x :=
  VR.rec (motive_1 := fun v x j9 => VR S h' g' v x) (motive_2 := fun v x j9 => VRs S h' g' v x) .none .bool .int .str (fun a b => .strg a (Nat.lt_of_lt_of_le b M.tk)) .con .bi (fun e => .obj (M.at_ _ _ e)) (fun e f j9 r => .tup (M.keep _ _ e f) (M.fz _ _ e f) r) (fun e f j9 r => .lst (M.keep _ _ e f) (M.fz _ _ e f) r)
    (fun e f z q j9 r => .dct (DictAt.of_keep e fun o ho => M.keep _ _ ho f) (e.elim fun o z => z.elim fun j9 z => M.fz _ o z.1 f) z q r) (fun e f => .rng (IsRange.of_keep e fun o ho => M.keep _ _ ho f) (M.fz _ _ e f))
    (fun e a b n q u c f f' => .hdr (M.at_ _ _ e) (M.keep _ _ a f) (M.keep _ _ b f') (Ns.of_keep n fun o ho => M.keep _ _ ho f') q u c (M.fz _ _ a f) (M.fz _ _ b f')) .nil (fun j9 j9 a b => .cons a b) r
theorem VRs.mono {S h g h' g'} (M : Mono S h g h' g') : ∀ {v x}, VRs S h g v x → VRs S h' g' v x
  | [], _, r => r.eNil fun q => q ▸ .nil
  | _ :: _, _, r => r.eCons fun j9 j9 q a b => q ▸ .cons (a.mono M) (b.mono M)
theorem VRs.length {S h g} : ∀ {xs vs}, VRs S h g xs vs → vs.length = xs.length
  | [], _, r => r.eNil fun q => q ▸ rfl
  | _ :: _, _, r => r.eCons fun j9 j9 q a b => q ▸ congrArg (· + 1) b.length
theorem VRs.append {S h g} {ys us} : ∀ {xs vs}, VRs S h g xs vs → VRs S h g ys us → VRs S h g (xs ++ ys) (vs ++ us)
  | [], _, r, q => r.eNil fun e => e ▸ q
  | _ :: _, _, r, q => r.eCons fun j9 j9 e a b => e ▸ .cons a (b.append q)
theorem VRs.get {S h g} : ∀ {xs : List PV} {vs : List Value} {i : Nat}, VRs S h g xs vs → ∀ {x}, xs[i]? = some x → ∃ v, vs[i]? = some v ∧ VR S h g x v
  | [], _, _, _, _, e => nomatch e
  | _ :: _, _, 0, r, _, e => r.eCons fun v j9 q a j9 => q ▸ ⟨v, rfl, Option.some.inj e ▸ a⟩
  | _ :: _, _, i + 1, r, _, e => r.eCons fun j9 j9 q j9 b => q ▸ b.get (i := i) e
theorem VRs.get' {S h g} : ∀ {xs : List PV} {vs : List Value} {i : Nat}, VRs S h g xs vs → ∀ {v}, vs[i]? = some v → ∃ x, xs[i]? = some x ∧ VR S h g x v
  | [], _, _, r, _, e => r.eNil fun q => by rw [← q] at e; exact nos e
  | x :: _, _, 0, r, _, e => r.eCons fun v us q a j9 => ⟨x, rfl, Option.some.inj (show (v :: us)[0]? = _ from q ▸ e) ▸ a⟩
  | _ :: _, _, i + 1, r, _, e => r.eCons fun v us q j9 b => b.get' (i := i) (show (v :: us)[i + 1]? = _ from q ▸ e)
theorem VRs.take {S h g} : ∀ {xs vs}, VRs S h g xs vs → ∀ n, VRs S h g (xs.take n) (vs.take n)
  | _, _, _, 0 => .nil
  | [], _, r, _ + 1 => r.eNil fun q => q ▸ .nil
  | _ :: _, _, r, n + 1 => r.eCons fun j9 j9 q a b => q ▸ .cons a (b.take n)
theorem VRs.drop {S h g} : ∀ {xs vs}, VRs S h g xs vs → ∀ n, VRs S h g (xs.drop n) (vs.drop n)
  | _, _, r, 0 => r
  | [], _, r, _ + 1 => r.eNil fun q => q ▸ .nil
  | _ :: _, _, r, n + 1 => r.eCons fun j9 j9 q a b => q ▸ b.drop n
theorem nodup_idx {α} {l : List α} {i j : Nat} {a : α} (n : l.Nodup) (h : l[i]? = some a) (h' : l[j]? = some a) : i = j :=
  (List.getElem?_inj (List.getElem?_eq_some_iff.mp h).1 n).mp (h.trans h'.symm)
noncomputable def Mu (g : Gh) (ph : List PO) (a : Addr) : Prop := ∃ n : Nat, g.ρ[n]? = some a ∧ ph[n]? ≠ some PO.lock
noncomputable def OR (S : Stc) (h : Heap) (g : Gh) : PO → Addr → Prop
  | .list xs, a => ∃ vs k, h.get? a = some (seqO "list" vs k) ∧ VRs S h g xs vs
  | .dict es, a => ∃ kvs ep, h.DictAt (strKind S.prog S.w) a kvs ep ∧ kvs.map (·.1) = es.map (·.1) ∧ VRs S h g (es.map (·.2)) (kvs.map (·.2))
  | .acc xs, a => ∃ vs k dx od m, h.get? a = some { cls := .ref S.cA, dict := some dx, data := .seq vs.toArray k } ∧ h.get? dx = some od ∧ od.cls = .type "dict" ∧ h.Ns dx m ∧
      (∀ x, x ≠ ("_initial_size" : Str) → m x = none) ∧ (∃ t, m "_initial_size" = some (.int 0 t)) ∧ Fz S g dx ∧ VRs S h g xs vs
  | .lock, a => ∃ o, h.get? a = some o
structure Inv (S : Stc) (h : Heap) (k : Nat) (g : Gh) (ph : List PO) : Prop where
  tk0 : 0 < g.tk
  tk : g.tk ≤ k
  top : ∀ a o, S.h₀.get? a = some o → ¬ S.tb a → h.get? a = some o
  old : OldK S.h₀ h
  len : g.ρ.length = ph.length
  nd : g.ρ.Nodup
  lo : ∀ a ∈ g.ρ, S.h₀.get? a = none
  obj : ∀ (n : Nat) po a, ph[n]? = some po → g.ρ[n]? = some a → OR S h g po a
  xi : ∀ a ∈ g.ξ, (∃ o, h.get? a = some o) ∧ a ∉ g.ρ ∧ S.h₀.get? a = none
theorem OR.alive {S h g po a} (x : OR S h g po a) : ∃ o, h.get? a = some o := by
  cases po with
  | list xs => obtain ⟨_, _, h, _⟩ := x; exact ⟨_, h⟩
  | dict es => obtain ⟨_, _, ⟨_, _, h, _⟩, _⟩ := x; exact ⟨_, h⟩
  | acc xs => obtain ⟨_, _, _, _, _, h, _⟩ := x; exact ⟨_, h⟩
  | lock => exact x
theorem Inv.alive {S h k g ph a} (I : Inv S h k g ph) (m : a ∈ g.ρ) : ∃ o, h.get? a = some o := by
  obtain ⟨n, hn⟩ := List.mem_iff_getElem?.mp m
  have hl : n < ph.length := by rw [← I.len]; exact (List.getElem?_eq_some_iff.mp hn).1
  exact (I.obj n _ a (List.getElem?_eq_getElem hl) hn).alive
theorem Inv.tbAlive {S h k g ph a} (I : Inv S h k g ph) (t : S.tb a) : ∃ o, h.get? a = some o := by
  obtain ⟨o, ho⟩ := S.tbIn a t
  exact I.old.there a o ho
theorem Inv.tbOut {S h k g ph a} (I : Inv S h k g ph) (t : S.tb a) : a ∉ g.ρ := fun m => by
  obtain ⟨o, ho⟩ := S.tbIn a t
  rw [I.lo a m] at ho; exact nos ho
theorem Inv.fresh {S h k g ph a} (I : Inv S h k g ph) (e : h.get? a = none) : a ∉ g.ρ ∧ a ∉ g.ξ ∧ ¬ S.tb a ∧ S.h₀.get? a = none := by
  refine ⟨fun m => ?_, fun m => ?_, fun t => ?_, ?_⟩
  · obtain ⟨o, ho⟩ := I.alive m; rw [e] at ho; exact nos ho
  · obtain ⟨⟨o, ho⟩, _⟩ := I.xi a m; rw [e] at ho; exact nos ho
  · obtain ⟨o, ho⟩ := I.tbAlive t; rw [e] at ho; exact nos ho
  · cases q : S.h₀.get? a with
    | none => rfl
    | some o => obtain ⟨o', ho'⟩ := I.old.there a o q; rw [e] at ho'; exact nos ho'
structure Step (S : Stc) (X : List Addr) (h : Heap) (g : Gh) (ph : List PO) (h' : Heap) (g' : Gh) (ph' : List PO) : Prop where
  keep : ∀ a o, h.get? a = some o → ¬ Mu g ph a → ¬ S.tb a → a ∉ X → h'.get? a = some o
  pre : ∃ more, g'.ρ = g.ρ ++ more
  xi : g'.ξ = g.ξ
  new : ∀ a ∈ g'.ρ, a ∉ g.ρ → h.get? a = none
  lock : ∀ n : Nat, n < g.ρ.length → (ph[n]? = some .lock ↔ ph'[n]? = some .lock)
  xal : ∀ a ∈ X, (∃ o, h.get? a = some o) → ∃ o, h'.get? a = some o
  tk : g.tk ≤ g'.tk
theorem Step.at_ {S X h g ph h' g' ph'} (T : Step S X h g ph h' g' ph') {n : Nat} {a} (e : g.ρ[n]? = some a) : g'.ρ[n]? = some a := by
  obtain ⟨more, q⟩ := T.pre
  rw [q, List.getElem?_append_left (List.getElem?_eq_some_iff.mp e).1]; exact e
theorem Mu.mem {g ph a} (m : Mu g ph a) : a ∈ g.ρ := by
  obtain ⟨n, hn, _⟩ := m; exact List.mem_of_getElem? hn
theorem Step.mono {S X h g ph h' g' ph'} (T : Step S X h g ph h' g' ph') (hX : ∀ a ∈ X, a ∈ g.ξ) : Mono S h g h' g' := by
  refine ⟨fun a o e f => T.keep a o e (fun m => f.1 m.mem) f.2.2 (fun q => f.2.1 (hX a q)), fun a o e f => ⟨fun m => ?_, by rw [T.xi]; exact f.2.1, f.2.2⟩, fun n a e => T.at_ e, T.tk⟩
  have := T.new a m f.1
  rw [e] at this; exact nos this.symm
theorem Step.refl {S X h g ph} : Step S X h g ph h g ph :=
  ⟨fun j9 j9 e j9 j9 j9 => e, ⟨[], by simp⟩, rfl, fun a m n => absurd m n, fun j9 j9 => Iff.rfl, fun j9 j9 e => e, Nat.le_refl _⟩
theorem Step.sub {S X Y h g ph h' g' ph'} (T : Step S X h g ph h' g' ph') (hXY : ∀ a ∈ X, a ∈ Y) (hY : ∀ a ∈ Y, a ∈ g.ξ) (I : Inv S h k g ph) (I' : Inv S h' k' g' ph') : Step S Y h g ph h' g' ph' :=
  ⟨fun a o e m t x => T.keep a o e m t (fun q => x (hXY a q)), T.pre, T.xi, T.new, T.lock, fun a m j9 => (I'.xi a (by rw [T.xi]; exact hY a m)).1, T.tk⟩
theorem Step.trans {S X h g ph h₁ g₁ ph₁ h₂ g₂ ph₂} (T : Step S X h g ph h₁ g₁ ph₁) (U : Step S X h₁ g₁ ph₁ h₂ g₂ ph₂) (I₁ : Inv S h₁ k₁ g₁ ph₁) : Step S X h g ph h₂ g₂ ph₂ := by
  obtain ⟨m1, e1⟩ := T.pre
  obtain ⟨m2, e2⟩ := U.pre
  refine ⟨fun a o e m t x => ?_, ⟨m1 ++ m2, by rw [e2, e1, List.append_assoc]⟩, U.xi.trans T.xi, fun a ha hn => ?_, fun n hn => (T.lock n hn).trans (U.lock n ?_), fun a m e => U.xal a m (T.xal a m e), Nat.le_trans T.tk U.tk⟩
  · refine U.keep a o (T.keep a o e m t x) (fun ⟨n, hn, hl⟩ => ?_) t x
    by_cases hlt : n < g.ρ.length
    · rw [e1, List.getElem?_append_left hlt] at hn
      exact m ⟨n, hn, fun q => hl ((T.lock n hlt).mp q)⟩
    · by_cases ha : a ∈ g.ρ
      · obtain ⟨k, hk⟩ := List.mem_iff_getElem?.mp ha
        have hk' := (List.getElem?_eq_some_iff.mp hk).1
        have h1 : g₁.ρ[k]? = some a := T.at_ hk
        have : n = k := nodup_idx I₁.nd hn h1
        omega
      · have := T.new a (List.mem_of_getElem? hn) ha
        rw [e] at this; exact nos this.symm
  · cases q : h.get? a with
    | none => rfl
    | some o =>
      have ha1 : a ∉ g₁.ρ := fun q1 => by
        have := T.new a q1 hn
        rw [q] at this; exact nos this.symm
      have nn := U.new a ha ha1
      by_cases t : S.tb a
      · obtain ⟨o', ho'⟩ := I₁.tbAlive t; rw [nn] at ho'; exact nos ho'
      · by_cases x : a ∈ X
        · obtain ⟨o', ho'⟩ := T.xal a x ⟨o, q⟩; rw [nn] at ho'; exact nos ho'
        · have := T.keep a o q (fun m => hn m.mem) t x
          rw [nn] at this; exact nos this
  · rw [e1, List.length_append]; omega
noncomputable def Same (s s' : Shared) : Prop := s'.os = s.os ∧ (AllBare s.gens → AllBare s'.gens)
theorem Same.refl {s : Shared} : Same s s := ⟨rfl, id⟩
theorem Same.trans {s s₁ s₂ : Shared} (a : Same s s₁) (b : Same s₁ s₂) : Same s s₂ := ⟨b.1.trans a.1, fun q => b.2 (a.2 q)⟩
theorem Same.of {s : Shared} {h : Heap} {t : Nat} : Same s { s with heap := h, toks := t } := ⟨rfl, id⟩
inductive Pst (S : Stc) (s : Shared) (g : Gh) (ph : List PO) (v : PV) (ph' : List PO) (x : Value) (s' : Shared) : Prop
  | mk (g' : Gh) (I : Inv S s'.heap s'.toks g' ph') (T : Step S [] s.heap g ph s'.heap g' ph') (r : VR S s'.heap g' v x) (m : Same s s')
theorem oldK_keep {h₀ h h' : Heap} (K : OldK h₀ h) (k : ∀ a o, (∃ o₀, h₀.get? a = some o₀) → h.get? a = some o → h'.get? a = some o) : OldK h₀ h' := by
  refine ⟨fun b o e => ?_, fun b o e => ?_⟩
  · rcases K.old b o e with x | ⟨t, hc, vs, more, hv, x⟩ | ⟨rfl, hc, ⟨o', es, n, ho', r⟩, z⟩
    · exact .inl (k b o ⟨o, e⟩ x)
    · exact .inr (.inl ⟨t, hc, vs, more, hv, k b _ ⟨o, e⟩ x⟩)
    · exact .inr (.inr ⟨rfl, hc, ⟨o', es, n, k _ _ ⟨o, e⟩ ho', r⟩, fun key => by rw [OldK.staticOf_congr ((k _ _ ⟨o, e⟩ ho').trans ho'.symm) key]; exact z key⟩)
  · obtain ⟨o', ho'⟩ := K.there b o e
    exact ⟨o', k b o' ⟨o, e⟩ ho'⟩
theorem Inv.keepOld {S : Stc} {h h' : Heap} {g ph} (I : Inv S h k g ph) (k : ∀ a o, h.get? a = some o → a ∉ g.ρ → a ∉ g.ξ → h'.get? a = some o) : OldK S.h₀ h' :=
  oldK_keep I.old fun a o ⟨o₀, e₀⟩ e => k a o e (fun m => by rw [I.lo a m] at e₀; exact nos e₀) (fun m => by rw [(I.xi a m).2.2] at e₀; exact nos e₀)
theorem Inv.keepTop {S : Stc} {h h' : Heap} {g ph} (I : Inv S h k g ph) (k : ∀ a o, h.get? a = some o → a ∉ g.ρ → a ∉ g.ξ → ¬ S.tb a → h'.get? a = some o) : ∀ a o, S.h₀.get? a = some o → ¬ S.tb a → h'.get? a = some o :=
  fun a o e t => k a o (I.top a o e t) (fun m => by rw [I.lo a m] at e; exact nos e) (fun m => by rw [(I.xi a m).2.2] at e; exact nos e) t
theorem OR.mono {S : Stc} {h h' : Heap} {g g' : Gh} {po : PO} {a : Addr} (M : Mono S h g h' g') (k : ∀ o, h.get? a = some o → h'.get? a = some o) (x : OR S h g po a) : OR S h' g' po a := by
  cases po with
  | list xs => obtain ⟨vs, k', h1, h2⟩ := x; exact ⟨vs, k', k _ h1, h2.mono M⟩
  | dict es => obtain ⟨kvs, ep, h1, h2, h3⟩ := x; exact ⟨kvs, ep, DictAt.of_keep h1 k, h2, h3.mono M⟩
  | acc xs =>
    obtain ⟨vs, k', dx, od, m, h1, h2, h3, h4, h5, h6, h7, h8⟩ := x
    exact ⟨vs, k', dx, od, m, k _ h1, M.keep _ _ h2 h7, h3, Ns.of_keep h4 fun o ho => M.keep _ _ ho h7, h5, h6, M.fz _ _ h2 h7, h8.mono M⟩
  | lock => obtain ⟨o, ho⟩ := x; exact ⟨o, k _ ho⟩
theorem Inv.grow {S : Stc} {h h' : Heap} {k k' n : Nat} {g ph} (I : Inv S h k g ph) (kp : ∀ a o, h.get? a = some o → h'.get? a = some o) (hn : g.tk ≤ n) (hk : n ≤ k') : Inv S h' k' { g with tk := n } ph := by
  have M : Mono S h g h' { g with tk := n } := ⟨fun a o e j9 => kp a o e, fun j9 j9 j9 f => f, fun j9 j9 e => e, hn⟩
  refine ⟨Nat.lt_of_lt_of_le I.tk0 hn, hk, I.keepTop fun a o e j9 j9 j9 => kp a o e, I.keepOld fun a o e j9 j9 => kp a o e, I.len, I.nd, I.lo, fun n po a e1 e2 => ?_, fun a m => let ⟨⟨o, ho⟩, r⟩ := I.xi a m; ⟨⟨o, kp a o ho⟩, r⟩⟩
  exact (I.obj n po a e1 e2).mono M fun o ho => kp a o ho
theorem Step.grow {S : Stc} {X} {h h' : Heap} {n : Nat} {g ph} (k : ∀ a o, h.get? a = some o → h'.get? a = some o) (hn : g.tk ≤ n) : Step S X h g ph h' { g with tk := n } ph :=
  ⟨fun a o e j9 j9 j9 => k a o e, ⟨[], by simp⟩, rfl, fun a m n => absurd m n, fun j9 j9 => Iff.rfl, fun a _ ⟨o, e⟩ => ⟨o, k a o e⟩, hn⟩
theorem Pst.grow {S : Stc} {s : Shared} {g ph v x} {h' : Heap} {t : Nat} (I : Inv S s.heap s.toks g ph) (k : ∀ a o, s.heap.get? a = some o → h'.get? a = some o) (ht : s.toks ≤ t) (r : VR S h' { g with tk := t } v x) : Pst S s g ph v ph x { s with heap := h', toks := t } :=
  ⟨_, I.grow k (Nat.le_trans I.tk ht) (Nat.le_refl _), .grow k (Nat.le_trans I.tk ht), r, .of⟩
theorem Pst.here {S : Stc} {s : Shared} {g ph v x} {t : Nat} (I : Inv S s.heap s.toks g ph) (ht : s.toks ≤ t) (r : VR S s.heap { g with tk := t } v x) : Pst S s g ph v ph x { s with toks := t } :=
  Pst.grow (h' := s.heap) I (fun j9 j9 e => e) ht r
theorem Pst.same {S : Stc} {s : Shared} {g ph v x} (I : Inv S s.heap s.toks g ph) (r : VR S s.heap g v x) : Pst S s g ph v ph x s := ⟨g, I, .refl, r, .refl⟩
end Mine.Internal
end
section
open PySem PySem.W PyProof.Rows
namespace Mine.Internal
noncomputable def natsEq : List Nat → List Nat → Bool
  | [], b => match b with
    | [] => true
    | _ :: _ => false
  | a :: as, b => match b with
    | [] => false
    | b :: bs => match Nat.beq a b with
      | true => natsEq as bs
      | false => false
noncomputable def sEq (a b : Str) : Bool := natsEq a.cps.toList b.cps.toList
theorem natsEq_iff : ∀ {a b : List Nat}, natsEq a b = true ↔ a = b
  | [], [] => ⟨fun j9 => rfl, fun j9 => rfl⟩
  | [], _ :: _ => ⟨nofun, nofun⟩
  | _ :: _, [] => ⟨nofun, nofun⟩
  | a :: as, b :: bs => by
    show (match Nat.beq a b with | true => natsEq as bs | false => false) = true ↔ _
    cases h : Nat.beq a b with
    | true => rw [Nat.eq_of_beq_eq_true h, List.cons.injEq]; exact natsEq_iff.trans ⟨fun h => ⟨rfl, h⟩, fun h => h.2⟩
    | false => exact ⟨nofun, fun q => absurd (List.cons.inj q).1 (Nat.ne_of_beq_eq_false h)⟩
noncomputable def ncode : List Nat → Nat
  | [] => 0
  | c :: l => 2 ^ c * (2 * ncode l + 1)
noncomputable def nEq (a b : Str) : Bool := Nat.beq (ncode a.cps.toList) (ncode b.cps.toList)
theorem two_inj {x y : Nat} : ∀ {c d : Nat}, 2 ^ c * (2 * x + 1) = 2 ^ d * (2 * y + 1) → c = d ∧ x = y
  | 0, 0, h => by omega
  | 0, d + 1, h => by rw [Nat.pow_succ, Nat.mul_right_comm] at h; omega
  | c + 1, 0, h => by rw [Nat.pow_succ, Nat.mul_right_comm] at h; omega
  | c + 1, d + 1, h => by
    rw [Nat.pow_succ, Nat.mul_right_comm, Nat.pow_succ, Nat.mul_right_comm (2 ^ d)] at h
    have := two_inj (c := c) (d := d) (Nat.eq_of_mul_eq_mul_right (by decide) h)
    exact ⟨congrArg (· + 1) this.1, this.2⟩
theorem ncode_pos {c : Nat} {l : List Nat} : ncode (c :: l) ≠ 0 := Nat.ne_of_gt (Nat.mul_pos (Nat.pow_pos (by decide)) (Nat.succ_pos _))
theorem ncode_inj : ∀ {a b : List Nat}, ncode a = ncode b → a = b
  | [], [], _ => rfl
  | [], _ :: _, h => absurd h.symm ncode_pos
  | _ :: _, [], h => absurd h ncode_pos
  | a :: as, b :: bs, h => by
    obtain ⟨h1, h2⟩ := two_inj h
    rw [h1, ncode_inj h2]
theorem str_list {a b : Str} (h : a.cps.toList = b.cps.toList) : a = b := by cases a; cases b; exact congrArg Str.mk (Array.ext' h)
theorem nEq_iff {a b : Str} : nEq a b = true ↔ a = b := ⟨fun h => str_list (ncode_inj (Nat.eq_of_beq_eq_true h)), fun h => h ▸ Nat.beq_refl _⟩
theorem nEq_eq {a b : Str} : nEq a b = (a == b) := by
  rw [Bool.eq_iff_iff, nEq_iff, beq_iff_eq]
theorem sEq_iff {a b : Str} : sEq a b = true ↔ a = b := ⟨fun h => str_list (natsEq_iff.mp h), fun h => natsEq_iff.mpr (h ▸ rfl)⟩
theorem sEq_eq {a b : Str} : sEq a b = (a == b) := by
  rw [Bool.eq_iff_iff, sEq_iff, beq_iff_eq]
noncomputable def look {α : Type} (x : Str) : List (Str × α) → Option α
  | [] => none
  | (k, v) :: r => match nEq x k with
    | true => some v
    | false => look x r
theorem look_eq {α : Type} {x : Str} : ∀ {l : List (Str × α)}, look x l = l.lookup x
  | [] => rfl
  | (k, v) :: r => by
    unfold look
    rw [List.lookup_cons, nEq_eq, look_eq]
    cases x == k <;> rfl
noncomputable def setL {α : Type} (x : Str) (v : α) : List (Str × α) → List (Str × α)
  | [] => [(x, v)]
  | (k, u) :: r => match nEq x k with
    | true => (k, v) :: r
    | false => (k, u) :: setL x v r
theorem look_setL {α : Type} {x y : Str} {v : α} : ∀ {l : List (Str × α)}, look y (setL x v l) = if y = x then some v else look y l
  | [] => by
    unfold setL look
    cases h : nEq y x with
    | true => simp [nEq_iff.mp h]
    | false => have : y ≠ x := fun e => by rw [nEq_iff.mpr e] at h; exact Bool.noConfusion h
               simp [this, look]
  | (k, u) :: r => by
    unfold setL
    cases h : nEq x k with
    | true =>
      have hx := nEq_iff.mp h; subst hx
      show (match nEq y x with | true => some v | false => look y r) = _
      show _ = if y = x then some v else (match nEq y x with | true => some u | false => look y r)
      cases q : nEq y x with
      | true => simp [nEq_iff.mp q]
      | false => have : y ≠ x := fun e => by rw [nEq_iff.mpr e] at q; exact Bool.noConfusion q
                 simp [this]
    | false =>
      show (match nEq y k with | true => some u | false => look y (setL x v r)) = _
      show _ = if y = x then some v else (match nEq y k with | true => some u | false => look y r)
      rw [look_setL]
      cases q : nEq y k with
      | false => rfl
      | true =>
        have hy := nEq_iff.mp q; subst hy
        have : y ≠ x := fun e => by rw [nEq_iff.mpr e.symm] at h; exact Bool.noConfusion h
        simp [this]
noncomputable def nAppend : Str := ⟨#[97, 112, 112, 101, 110, 100]⟩
noncomputable def nReplace : Str := ⟨#[114, 101, 112, 108, 97, 99, 101]⟩
noncomputable def nHeaders : Str := ⟨#[95, 104, 101, 97, 100, 101, 114, 115]⟩
noncomputable def nDebug : Str := ⟨#[95, 95, 100, 101, 98, 117, 103, 95, 95]⟩
noncomputable def nDelitem : Str := ⟨#[95, 95, 100, 101, 108, 105, 116, 101, 109, 95, 95]⟩
noncomputable def nLower : Str := ⟨#[108, 111, 119, 101, 114]⟩
noncomputable def nUpper : Str := ⟨#[117, 112, 112, 101, 114]⟩
noncomputable def nCount : Str := ⟨#[99, 111, 117, 110, 116]⟩
noncomputable def nFind : Str := ⟨#[102, 105, 110, 100]⟩
noncomputable def nJoin : Str := ⟨#[106, 111, 105, 110]⟩
theorem names_ok : nAppend = "append" ∧ nReplace = "replace" ∧ nHeaders = "_headers" ∧ nDebug = "__debug__" ∧ nDelitem = "__delitem__" ∧ nLower = "lower" ∧ nUpper = "upper" ∧ nCount = "count" ∧ nFind = "find" ∧ nJoin = "join" := by
  refine ⟨?_, ?_, ?_, ?_, ?_, ?_, ?_, ?_, ?_, ?_⟩ <;> decide +kernel
noncomputable abbrev Loc := List (Str × PV)
noncomputable abbrev Res (α : Type) := Option (α × List PO)
structure FnD where
  params : List Str
  dflt : List PV
  body : List Stmt
  scope : Scope
structure Top where
  glob : List (Str × PV)
  fn : List (Addr × FnD)
  met : List (Str × Addr)
  amet : List (Str × Addr)
  cA : Addr
  cH : Addr
inductive Fl where
  | next | brk | ret (v : PV)
structure Ev where
  e : Scope → Loc → Expr → List PO → Res PV
  t : Scope → Loc → Expr → List PO → Res Bool
  s : Scope → Loc → Stmt → List PO → Option (Fl × Loc × List PO)
  c : Addr → List PV → List PO → Res PV
  lv : Nat
noncomputable def PV.asStr : PV → Option Str
  | .str s => some s
  | .strg s => some s
  | _ => Option.none
noncomputable def seqOf (ph : List PO) : PV → Option (List PV)
  | .lst xs => some xs
  | .obj n => match ph[n]? with
    | some (.list xs) => some xs
    | _ => none
  | _ => none
noncomputable def allStr : List PV → Option (List Str)
  | [] => some []
  | x :: xs => match x.asStr with
    | some s => match allStr xs with
      | some r => some (s :: r)
      | none => none
    | none => none
noncomputable def allInt : List PV → Option (List Int)
  | [] => some []
  | .int i :: xs => match allInt xs with
    | some r => some (i :: r)
    | none => none
  | _ => none
mutual
noncomputable def PV.lt (k : Nat) : PV → Bool
  | .obj n => Nat.blt n k
  | .hdr n => Nat.blt n k
  | .tup xs => belowL k xs
  | .lst xs => belowL k xs
  | .dct es => belowD k es
  | _ => true
noncomputable def belowL (k : Nat) : List PV → Bool
  | [] => true
  | x :: xs => match x.lt k with
    | true => belowL k xs
    | false => false
noncomputable def belowD (k : Nat) : List (Str × PV) → Bool
  | [] => true
  | (_, x) :: xs => match x.lt k with
    | true => belowD k xs
    | false => false
end
noncomputable def PO.lt (k : Nat) : PO → Bool
  | .list xs => belowL k xs
  | .dict es => belowD k es
  | .acc xs => belowL k xs
  | .lock => true
noncomputable def strT : List Nat → Option Bool
  | [] => some false
  | c :: l => match Nat.ble l.length 1000 with
    | true => some true
    | false => none
noncomputable def truthP : PV → Option Bool
  | .none => some false
  | .bool b => some b
  | .int i => some (i != 0)
  | .str s => strT s.cps.toList
  | .strg s => strT s.cps.toList
  | _ => none
noncomputable def smallJ (i : Int) : Bool := decide (i.natAbs < 1073741824)
noncomputable def smallI (i : Int) : Bool := decide (i.natAbs < 9223372036854775808)
noncomputable def mapO {α β : Type} (f : α → Option β) : List α → Option (List β)
  | [] => some []
  | x :: xs => match f x with
    | some y => match mapO f xs with
      | some ys => some (y :: ys)
      | none => none
    | none => none
noncomputable def dataOf (ph : List PO) : Nat → PV → Option PyData
  | 0, _ => none
  | n + 1, v => match v with
    | .none => some .none
    | .bool b => some (.bool b)
    | .int i => some (.int i)
    | .str s => some (.str s)
    | .strg s => some (.str s)
    | .lst xs => (mapO (dataOf ph n) xs).map .list
    | .obj k => match ph[k]? with
      | some (.list xs) => (mapO (dataOf ph n) xs).map .list
      | _ => none
    | _ => none
noncomputable def addSeq (a b : PV) (ph : List PO) : Option PV := match seqOf ph a with
  | some xs => match seqOf ph b with
    | some ys => match Nat.ble (xs.length + ys.length) 1000 with
      | true => some (.lst (xs ++ ys))
      | false => none
    | none => none
  | none => none
noncomputable def addStr (x : Str) (b : PV) : Option PV := match b.asStr with
  | some y => match Nat.ble (x.cps.toList.length + y.cps.toList.length) 1000 with
    | true => some (.str ⟨(x.cps.toList ++ y.cps.toList).toArray⟩)
    | false => none
  | none => none
noncomputable def asI : PV → Option Int
  | .int i => some i
  | _ => none
noncomputable def addP (a b : PV) (ph : List PO) : Option PV := match asI a with
  | some i => match asI b with
    | some j => some (.int (i + j))
    | none => none
  | none => match a.asStr with
    | some x => addStr x b
    | none => addSeq a b ph
noncomputable def int2 (f : Int → Int → Option Int) (a b : PV) : Option PV := match asI a with
  | some i => match asI b with
    | some j => match f i j with
      | some k => some (.int k)
      | none => none
    | none => none
  | none => none
noncomputable def mulI (i j : Int) : Option Int := match smallI i with
  | true => some (i * j)
  | false => none
noncomputable def fdivI (i j : Int) : Option Int := match smallJ j && !(j == 0) with
  | true => some (i.fdiv j)
  | false => none
noncomputable def fmodI (i j : Int) : Option Int := match j == 0 with
  | true => none
  | false => some (i.fmod j)
noncomputable def powI (i j : Int) : Option Int := match smallI i && decide (0 ≤ j) && decide (j ≤ 64) with
  | true => some (i ^ j.toNat)
  | false => none
noncomputable def asLst : PV → Option (List PV)
  | .lst xs => some xs
  | _ => none
noncomputable def binP (op : Operator) (a b : PV) (ph : List PO) : Option PV :=
  match op with
  | .Add => addP a b ph
  | .Sub => int2 (fun i j => some (i - j)) a b
  | .Mult => int2 mulI a b
  | .FloorDiv => int2 fdivI a b
  | .Mod => int2 fmodI a b
  | .Pow => int2 powI a b
  | _ => none
noncomputable def eqSeq (a b : PV) (ph : List PO) : Option Bool := match seqOf ph a with
  | some _ => match seqOf ph b with
    | some _ => match dataOf ph 8 a with
      | some d => match dataOf ph 8 b with
        | some d' => match SeqAt.shaped d && SeqAt.shaped d' with
          | true => some (PyData.eqv d d')
          | false => none
        | none => none
      | none => none
    | none => none
  | none => none
noncomputable def eqStr (x : Str) (b : PV) : Option Bool := match b.asStr with
  | some y => some (sEq x y)
  | none => none
noncomputable def asBool : PV → Option Bool
  | .bool b => some b
  | _ => none
noncomputable def eqP (a b : PV) (ph : List PO) : Option Bool := match asI a with
  | some i => match asI b with
    | some j => some (i == j)
    | none => none
  | none => match a.asStr with
    | some x => eqStr x b
    | none => eqSeq a b ph
noncomputable def strIn (x y : Str) : Bool := !(Builtin.Str.occurrences x y 0 x.length 1).isEmpty
noncomputable def inP (a b : PV) : Option Bool :=
  match a.asStr with
  | some k => match b.asStr with
    | some x => some (strIn x k)
    | none => none
  | none => none
noncomputable def isNo : PV → Option Bool
  | .none => some true
  | .str _ => some false
  | .strg _ => some false
  | .obj _ => some false
  | .lst _ => some false
  | _ => none
noncomputable def isP (a b : PV) : Option Bool :=
  match b with
  | .none => isNo a
  | _ => none
noncomputable def notO (b : Option Bool) : Option Bool := match b with
  | some b => some (!b)
  | none => none
noncomputable def ordP (f : Int → Int → Bool) (a b : PV) : Option Bool := match asI a with
  | some i => match asI b with
    | some j => some (f i j)
    | none => none
  | none => none
noncomputable def cmpP (op : CmpOp) (a b : PV) (ph : List PO) : Option Bool :=
  match op with
  | .Eq => eqP a b ph
  | .NotEq => notO (eqP a b ph)
  | .In => inP a b
  | .NotIn => none
  | .Is => isP a b
  | .IsNot => notO (isP a b)
  | .Lt => ordP (fun i j => decide (i < j)) a b
  | .LtE => ordP (fun i j => decide (i ≤ j)) a b
  | .Gt => ordP (fun i j => decide (i > j)) a b
  | .GtE => ordP (fun i j => decide (i ≥ j)) a b
noncomputable def atP {α : Type} (xs : List α) (i : Int) : Option α :=
  if 0 ≤ i then xs[i.toNat]? else if -(xs.length : Int) ≤ i then xs[(i + xs.length).toNat]? else none
noncomputable def asTup : PV → Option (List PV)
  | .tup xs => some xs
  | _ => none
noncomputable def entsOf (ph : List PO) : PV → Option (List (Str × PV))
  | .dct es => some es
  | .obj n => match ph[n]? with
    | some (.dict es) => some es
    | _ => none
  | _ => none
noncomputable def itemI (o : PV) (k : Int) (ph : List PO) : Option PV := match smallI k with
  | false => none
  | true => match o.asStr with
    | some x => match atP x.cps.toList k with
      | some c => some (.str ⟨#[c]⟩)
      | none => none
    | none => match asTup o with
      | some xs => atP xs k
      | none => match seqOf ph o with
        | some xs => atP xs k
        | none => none
noncomputable def itemK (o : PV) (k : Str) (ph : List PO) : Option PV := match entsOf ph o with
  | some es => look k es
  | none => none
noncomputable def itemP (o i : PV) (ph : List PO) : Option PV := match asI i with
  | some k => itemI o k ph
  | none => match i.asStr with
    | some k => itemK o k ph
    | none => none
noncomputable def partP : PV → Option (Option Int)
  | .none => some none
  | .int i => some (some i)
  | _ => none
noncomputable def slicePickP {α : Type} (xs : List α) (lo hi : Option Int) : List α :=
  (sliceRange (sliceBounds lo hi none xs.length).1 (sliceBounds lo hi none xs.length).2.1 (sliceBounds lo hi none xs.length).2.2).filterMap (xs[·]?)
noncomputable def sliceP (o : PV) (lo hi : Option Int) (ph : List PO) : Option PV :=
  match o.asStr with
  | some x => match Nat.ble x.cps.toList.length 1000 with
    | true => some (.str (Txt.slice x lo hi))
    | false => none
  | none => match seqOf ph o with
    | some xs => if xs.length ≤ 1000 then some (.lst (slicePickP xs lo hi)) else none
    | none => none
noncomputable def argsP (r : Ev) (sc : Scope) (loc : Loc) : List Expr → List PO → Res (List PV)
  | [], ph => some ([], ph)
  | e :: es, ph => match r.e sc loc e ph with
    | some (v, ph) => match argsP r sc loc es ph with
      | some (vs, ph) => some (v :: vs, ph)
      | none => none
    | none => none
noncomputable def isStar (e : Expr) : Bool := Nat.beq e.ctorIdx 22
noncomputable def rngItems (a b c : Int) : List PV := (List.range (Int.toNat (Builtin.Range.rangeSize a b c))).map fun i : Nat => .int (a + (i : Int) * c)
noncomputable def asObj : PV → Option Nat
  | .obj n => some n
  | _ => none
noncomputable def listAt (ph : List PO) (n : Nat) : Option (List PV) := match ph[n]? with
  | some (.list xs) => some xs
  | _ => none
noncomputable def asDct : PV → Option (List (Str × PV))
  | .dct es => some es
  | _ => none
noncomputable def asRng : PV → Option (Int × Int × Int)
  | .rng a b c => some (a, b, c)
  | _ => none
noncomputable def itemsO (v : PV) (ph : List PO) : Option (List PV × Option Nat) := match asObj v with
  | some n => match listAt ph n with
    | some xs => some (xs, some n)
    | none => none
  | none => none
noncomputable def itemsF (v : PV) : Option (List PV) := match v.asStr with
  | some x => some (x.cps.toList.map fun c => .str ⟨#[c]⟩)
  | none => match asRng v with
    | some (a, b, c) => match smallJ a && smallJ b && c == 1 with
      | true => some (rngItems a b c)
      | false => none
    | none => match asLst v with
      | some xs => some xs
      | none => match asTup v with
        | some xs => some xs
        | none => match asDct v with
          | some es => some (es.map fun p => .str p.1)
          | none => none
noncomputable def itemsOf (v : PV) (ph : List PO) : Option (List PV × Option Nat) := match itemsF v with
  | some xs => some (xs, none)
  | none => itemsO v ph
noncomputable def frozenItems (v : PV) : Option (List PV) := match v.asStr with
  | some x => some (x.cps.toList.map fun c => .str ⟨#[c]⟩)
  | none => asLst v
noncomputable def zipL : List (List PV) → List (List PV)
  | [] => []
  | a :: ls => match ls with
    | [] => a.map fun x => [x]
    | _ :: _ => List.zipWith List.cons a (zipL ls)
noncomputable def zipAll (ls : List (List PV)) : List PV := (zipL ls).map .tup
noncomputable def lockP (n : Option Nat) (ph : List PO) : List PO := match n with
  | some n => ph.set n .lock
  | none => ph
noncomputable def unlockP (n : Option Nat) (xs : List PV) (ph : List PO) : Option (List PO) := match n with
  | some n => match ph[n]? with
    | some .lock => some (ph.set n (.list xs))
    | _ => none
  | none => some ph
noncomputable def isTupT (e : Expr) : Bool := Nat.beq e.ctorIdx 25
section
variable {β : Type} (k : Const → Option β) (n : Str → Option β) (t : List Expr → Option β) (s : Option Expr → Option Expr → Option Expr → Option β) (c : Expr → List Expr → List Keyword → Option β) (u : Expr → Expr → Option β)
noncomputable def pick (e : Expr) : Option β := Expr.casesOn (motive_1 := fun j9 => Option β) e (fun j9 j9 j9 => none) (fun j9 j9 j9 => none) (fun j9 j9 j9 j9 => none) (fun j9 j9 j9 => none) (fun j9 j9 j9 j9 => none) (fun j9 j9 j9 j9 => none) (fun j9 j9 j9 => none) (fun j9 j9 j9 => none) (fun j9 j9 j9 j9 => none) (fun j9 j9 j9 j9 => none) (fun j9 j9 j9 j9 j9 => none) (fun j9 j9 j9 j9 => none) (fun j9 j9 => none) (fun j9 j9 => none) (fun j9 j9 => none) (fun j9 j9 j9 j9 => none) (fun a b d j9 => c a b d) (fun j9 j9 j9 j9 => none) (fun j9 j9 => none) (fun a j9 j9 => k a) (fun j9 j9 j9 => none) (fun a b j9 => u a b) (fun j9 j9 => none) (fun a j9 => n a) (fun j9 j9 => none) (fun a j9 j9 => t a) (fun a b c j9 => s a b c)
variable {k n t s c u}
theorem pick_inv {e : Expr} {w : β} {p : Prop} (h : pick k n t s c u e = some w) (kk : ∀ a x y, e = .Constant a x y → k a = some w → p) (kn : ∀ a x, e = .Name a x → n a = some w → p) (kt : ∀ a x y, e = .Tuple a x y → t a = some w → p)
    (ks : ∀ a b d x, e = .Slice a b d x → s a b d = some w → p) (kc : ∀ a b d x, e = .Call a b d x → c a b d = some w → p) (ku : ∀ a b x, e = .Subscript a b x → u a b = some w → p) : p := by
  cases e
  case Constant => exact kk _ _ _ rfl h
  case Name => exact kn _ _ rfl h
  case Tuple => exact kt _ _ _ rfl h
  case Slice => exact ks _ _ _ _ rfl h
  case Call => exact kc _ _ _ _ rfl h
  case Subscript => exact ku _ _ _ rfl h
  all_goals exact nos h
end
noncomputable def nameOf (e : Expr) : Option Str := pick (fun j9 => none) some (fun j9 => none) (fun j9 j9 j9 => none) (fun j9 j9 j9 => none) (fun j9 j9 => none) e
theorem nameOf_N {x : Str} {p : Pos} : nameOf (.Name x p) = some x := rfl
noncomputable def subOf (e : Expr) : Option (Expr × Expr) := pick (fun j9 => none) (fun j9 => none) (fun j9 => none) (fun j9 j9 j9 => none) (fun j9 j9 j9 => none) (fun o i => some (o, i)) e
noncomputable def callArgs (f : Expr) (args : List Expr) (kws : List Keyword) : Option (Expr × List Expr) := match kws with
  | [] => some (f, args)
  | _ => none
noncomputable def callOf (e : Expr) : Option (Expr × List Expr) := pick (fun j9 => none) (fun j9 => none) (fun j9 => none) (fun j9 j9 j9 => none) callArgs (fun j9 j9 => none) e
noncomputable def globK (T : Top) (x : Str) : NameKind → Option PV
  | .globalImplicit => look x T.glob
  | _ => none
noncomputable def isZipV : PV → Bool
  | .bi .zip => true
  | _ => false
noncomputable def zipArgs (T : Top) (sc : Scope) (e : Expr) : Option (List Expr) := match callOf e with
  | some (f, args) => match nameOf f with
    | some x => match look x sc.names with
      | some k => match globK T x k with
        | some v => match isZipV v with
          | true => some args
          | false => none
        | none => none
      | none => none
    | none => none
  | none => none
noncomputable def zipSrc (r : Ev) (sc : Scope) (loc : Loc) (target : Expr) (args : List Expr) (ph : List PO) : Option (List PV × Option Nat × List PO) := match argsP r sc loc args ph with
  | some (vs, ph) => match mapO frozenItems vs with
    | some ls => match isTupT target && !args.any isStar && (Nat.beq ls.length 2 || Nat.beq ls.length 3) with
      | true => some (zipAll ls, none, ph)
      | false => none
    | none => none
  | none => none
noncomputable def srcP (r : Ev) (T : Top) (sc : Scope) (loc : Loc) (target e : Expr) (ph : List PO) : Option (List PV × Option Nat × List PO) := match zipArgs T sc e with
  | some args => zipSrc r sc loc target args ph
  | none => match r.e sc loc e ph with
    | some (v, ph) => match itemsOf v ph with
      | some (xs, n) => some (xs, n, ph)
      | none => none
    | none => none
noncomputable def storable (sc : Scope) (x : Str) : Bool := match look x sc.names with
  | some .local => true
  | some .cell => true
  | _ => false
noncomputable def bindNames (sc : Scope) : List Expr → List PV → Loc → Option Loc
  | [], vs, loc => match vs with
    | [] => some loc
    | _ => none
  | e :: es, vs, loc => match nameOf e with
    | some x => match vs with
      | v :: vs => match storable sc x with
        | true => bindNames sc es vs (setL x v loc)
        | false => none
      | [] => none
    | none => none
noncomputable def tupOf (e : Expr) : Option (List Expr) := pick (fun j9 => none) (fun j9 => none) some (fun j9 j9 j9 => none) (fun j9 j9 j9 => none) (fun j9 j9 => none) e
noncomputable def bindT (sc : Scope) (e : Expr) (v : PV) (loc : Loc) : Option Loc := match nameOf e with
  | some x => match storable sc x with
    | true => some (setL x v loc)
    | false => none
  | none => match tupOf e with
    | some es => match asTup v with
      | some xs => bindNames sc es xs loc
      | none => none
    | none => none
noncomputable def testsP (r : Ev) (sc : Scope) (loc : Loc) : List Expr → List PO → Res Bool
  | [], ph => some (true, ph)
  | e :: es, ph => match r.t sc loc e ph with
    | some (true, ph) => testsP r sc loc es ph
    | some (false, ph) => some (false, ph)
    | none => none
noncomputable abbrev CRes := Option (Loc × List PV × List PO)
noncomputable def itemsGo (bind : PV → Loc → Option Loc) (test : Loc → List PO → Res Bool) (inner : Loc → List PV → List PO → CRes) : List PV → Loc → List PV → List PO → CRes
  | [], loc, acc, ph => some (loc, acc, ph)
  | x :: xs, loc, acc, ph => match bind x loc with
    | some loc => match test loc ph with
      | some (true, ph) => match inner loc acc ph with
        | some (loc, acc, ph) => itemsGo bind test inner xs loc acc ph
        | none => none
      | some (false, ph) => itemsGo bind test inner xs loc acc ph
      | none => none
    | none => none
noncomputable def clauseGo (sc : Scope) (r : Ev) (target : Expr) (ifs : List Expr) (inner : Loc → List PV → List PO → CRes) (xs : List PV) (n : Option Nat) (loc : Loc) (acc : List PV) (ph : List PO) : CRes :=
  match itemsGo (bindT sc target) (fun loc ph => testsP r sc loc ifs ph) inner xs loc acc (lockP n ph) with
  | some (loc, acc, ph) => match unlockP n xs ph with
    | some ph => some (loc, acc, ph)
    | none => none
  | none => none
noncomputable def compGo (r : Ev) (T : Top) (sc : Scope) (elt : Expr) : List Comprehension → Loc → List PV → List PO → CRes
  | [], loc, acc, ph => match Nat.ble acc.length 1000 with
    | true => match r.e sc loc elt ph with
      | some (v, ph) => some (loc, acc ++ [v], ph)
      | none => none
    | false => none
  | g :: gs, loc, acc, ph => match g.is_async != 0 with
    | true => none
    | false => match srcP r T sc loc g.target g.iter ph with
      | some (xs, n, ph) => clauseGo sc r g.target g.ifs (compGo r T sc elt gs) xs n loc acc ph
      | none => none
noncomputable def captured (sc : Scope) (loc : Loc) : Loc := sc.names.filterMap fun p => match p.2 with
  | .free => (look p.1 loc).map fun v => (p.1, v)
  | _ => none
noncomputable def nClassdict : Str := ⟨#[95, 95, 99, 108, 97, 115, 115, 100, 105, 99, 116, 95, 95]⟩
noncomputable def namesOk : List (Str × NameKind) → Bool
  | [] => true
  | (x, _) :: r => match nEq x nDebug || nEq x nClassdict || (look x r).isSome with
    | true => false
    | false => namesOk r
noncomputable def isFun : ScopeKind → Bool
  | .function => true
  | _ => false
noncomputable def scOk (sc : Scope) : Bool := namesOk sc.names && isFun sc.kind
noncomputable def isVar : Option NameKind → Bool
  | some .cell => true
  | some .free => true
  | _ => false
noncomputable def capOne (sc : Scope) (loc : Loc) (p : Str × NameKind) : Bool := match p.2 with
  | .free => isVar (look p.1 sc.names) && (look p.1 loc).isSome
  | _ => true
noncomputable def capOk (sc : Scope) (loc : Loc) (names : List (Str × NameKind)) : Bool := names.all (capOne sc loc)
noncomputable def compOne (r : Ev) (T : Top) (sc : Scope) (loc : Loc) (elt target iter : Expr) (ifs : List Expr) (gs : List Comprehension) (csc : Scope) (ph : List PO) : Res PV := match srcP r T sc loc target iter ph with
  | some (xs, n, ph) => match clauseGo csc r target ifs (compGo r T csc elt gs) xs n (captured csc loc) [] ph with
    | some (_, acc, ph) => some (.lst acc, ph)
    | none => none
  | none => none
noncomputable def listComp (r : Ev) (T : Top) (sc : Scope) (loc : Loc) (elt : Expr) (gs : List Comprehension) (csc : Scope) (ph : List PO) : Res PV := match gs with
  | g :: gs => match g.is_async != 0 || !scOk csc || !capOk sc loc csc.names with
    | true => none
    | false => compOne r T sc loc elt g.target g.iter g.ifs gs csc ph
  | [] => none
set_option tactic.hygienic true in
noncomputable def notSuper (e : Expr) : Bool := by
  cases e
  case Call f a k p =>
    cases f
    case Name => exact match a, k with
      | [], [] => false
      | _, _ => true
    all_goals exact true
  all_goals exact true
noncomputable def lowerOk (x : Str) : Bool := x.cps.toList.all (fun c => Nat.blt c 128) && Nat.ble x.cps.toList.length 1000
noncomputable def hdrOk (x : Str) : Bool := x.cps.toList.all (fun c => Nat.ble 32 c && Nat.blt c 127) && Nat.ble x.cps.toList.length 1000
noncomputable def insS (a : Str) : List Str → List Str
  | [] => [a]
  | b :: r => match PySem.Spec.ltCps b.cps.toList a.cps.toList with
    | true => b :: insS a r
    | false => a :: b :: r
noncomputable def sortedStrs : List Str → List Str
  | [] => []
  | a :: r => insS a (sortedStrs r)
noncomputable def minInts : List Int → Option Int
  | [] => none
  | x :: xs => some (xs.foldl (fun m y => if y < m then y else m) x)
noncomputable def pairOf (i : PV) (b : PV) : Option Int := match b.asStr with
  | some _ => asI i
  | none => none
noncomputable def pairI (xs : List PV) : Option Int := match xs with
  | [i, b] => pairOf i b
  | _ => none
noncomputable def pairInt (v : PV) : Option Int := match asTup v with
  | some xs => pairI xs
  | none => none
noncomputable def nodupI : List Int → Bool
  | [] => true
  | a :: r => !r.any (· == a) && nodupI r
noncomputable def leastAt (ns : List Int) : Nat := argBest (fun i j => decide (ns.getD i 0 < ns.getD j 0)) (ns.length - 1)
noncomputable def minPairs (xs : List PV) (ph : List PO) : Res PV := match mapO pairInt xs with
  | some ns => match nodupI ns with
    | true => match xs[leastAt ns]? with
      | some v => some (v, ph)
      | none => none
    | false => none
  | none => none
noncomputable def joinP (x : Str) (vs : List PV) (ph : List PO) : Option PV := match vs with
  | [v] => match seqOf ph v with
    | some xs => match allStr xs with
      | some ys => match Nat.ble ((ys.map (·.length)).sum + ys.length * x.length) 16777216 with
        | true => some (.str (Txt.join x ys))
        | false => none
      | none => none
    | none => none
  | _ => none
noncomputable def caseP (f : Str → Str) (x : Str) (vs : List PV) : Option PV := match vs with
  | [] => match lowerOk x with
    | true => some (.strg (f x))
    | false => none
  | _ => none
noncomputable def strMeth (x : Str) (name : Str) (vs : List PV) (ph : List PO) : Option PV := match nEq name nLower with
  | true => caseP Txt.lower x vs
  | false => match nEq name nUpper with
    | true => caseP Txt.upper x vs
    | false => match nEq name nJoin with
      | true => joinP x vs ph
      | false => none
noncomputable def newList (xs : List PV) (ph : List PO) : Res PV := some (.obj ph.length, ph ++ [.list xs])
structure PrimT where
  f : Addr → List PV → List (Str × PV) → List PO → Res PV
  minx : List PV → List PO → Res PV
  lv : Nat
noncomputable def callK (r : Ev) (P : PrimT) (f : Addr) (vs : List PV) (kvs : List (Str × PV)) (ph : List PO) : Res PV := match kvs with
  | [] => r.c f vs ph
  | _ => match Nat.ble P.lv r.lv with
    | true => P.f f vs kvs ph
    | false => none
noncomputable def metStr (x : Str) (name : Str) (vs : List PV) (kvs : List (Str × PV)) (ph : List PO) : Res PV := match kvs with
  | [] => match strMeth x name vs ph with
    | some v => some (v, ph)
    | none => none
  | _ => none
inductive MK where
  | str (x : Str) | app | fn (f : Addr)
noncomputable def strNames : List Str := [nJoin, nLower, nUpper]
noncomputable def isStrName (x : Str) : Bool := strNames.any fun y => nEq x y
noncomputable def getStr (x : Str) (name : Str) : Option MK := match isStrName name with
  | true => some (.str x)
  | false => none
noncomputable def getFn (f : Option Addr) : Option MK := match f with
  | some f => some (.fn f)
  | none => none
noncomputable def getO (T : Top) (ov : PV) (name : Str) (ph : List PO) : Option MK := match ov with
  | .obj n => match ph[n]? with
    | some (.list _) => match nEq name nAppend with
      | true => some .app
      | false => none
    | some (.acc _) => getFn (look name T.amet)
    | _ => none
  | .hdr _ => getFn (look name T.met)
  | _ => none
noncomputable def getM (T : Top) (ov : PV) (name : Str) (ph : List PO) : Option MK := match ov.asStr with
  | some x => getStr x name
  | none => getO T ov name ph
noncomputable def metApp (ov : PV) (vs : List PV) (kvs : List (Str × PV)) (ph : List PO) : Res PV := match kvs with
  | [] => match vs with
    | [v] => match asObj ov with
      | some n => match listAt ph n with
        | some xs => match Nat.ble xs.length 1000 with
          | true => some (.none, ph.set n (.list (xs ++ [v])))
          | false => none
        | none => none
      | none => none
    | _ => none
  | _ => none
noncomputable def runM (r : Ev) (P : PrimT) (k : MK) (ov : PV) (name : Str) (vs : List PV) (kvs : List (Str × PV)) (ph : List PO) : Res PV := match k with
  | .str x => metStr x name vs kvs ph
  | .app => metApp ov vs kvs ph
  | .fn f => callK r P f (ov :: vs) kvs ph
noncomputable def lenN (k : Nat) (ph : List PO) : Res PV := match Nat.ble k 1000000 with
  | true => some (.int k, ph)
  | false => none
noncomputable def lenV (v : PV) (ph : List PO) : Res PV := match v.asStr with
  | some x => lenN x.cps.toList.length ph
  | none => match seqOf ph v with
    | some xs => lenN xs.length ph
    | none => match entsOf ph v with
      | some es => lenN es.length ph
      | none => none
noncomputable def lenP (vs : List PV) (ph : List PO) : Res PV := match vs with
  | [v] => lenV v ph
  | _ => none
noncomputable def minSeq (P : PrimT) (xs : List PV) (ph : List PO) : Res PV := match allInt xs with
  | some ns => match minInts ns with
    | some i => some (.int i, ph)
    | none => none
  | none => P.minx xs ph
noncomputable def minTwo (v u : PV) (ph : List PO) : Res PV := match asI v with
  | some a => match asI u with
    | some b => some (.int (if b < a then b else a), ph)
    | none => none
  | none => none
noncomputable def minP (P : PrimT) (vs : List PV) (ph : List PO) : Res PV := match vs with
  | [v] => match seqOf ph v with
    | some xs => minSeq P xs ph
    | none => none
  | [v, u] => minTwo v u ph
  | _ => none
noncomputable def sumP (vs : List PV) (ph : List PO) : Res PV := match vs with
  | [v] => match seqOf ph v with
    | some xs => match allInt xs with
      | some ns => match Nat.ble ns.length 64 && ns.all smallJ with
        | true => some (.int ns.sum, ph)
        | false => none
      | none => none
    | none => none
  | _ => none
noncomputable def sortSeq (xs : List PV) (ph : List PO) : Res PV := match Nat.blt xs.length 64 with
  | false => none
  | true => match allStr xs with
    | some ss => some (.lst ((sortedStrs ss).map .str), ph)
    | none => none
noncomputable def sortP (vs : List PV) (ph : List PO) : Res PV := match vs with
  | [v] => match seqOf ph v with
    | some xs => sortSeq xs ph
    | none => none
  | _ => none
noncomputable def intP (vs : List PV) (ph : List PO) : Res PV := match vs with
  | [v] => match asI v with
    | some i => some (.int i, ph)
    | none => none
  | _ => none
noncomputable def rangeP (vs : List PV) (ph : List PO) : Res PV := match vs with
  | [x] => match asI x with
    | some b => some (.rng 0 b 1, ph)
    | none => none
  | [x, y] => match asI x with
    | some a => match asI y with
      | some b => some (.rng a b 1, ph)
      | none => none
    | none => none
  | [x, y, z] => match asI x with
    | some a => match asI y with
      | some b => match asI z with
        | some c => match c == 0 || !smallJ c with
          | true => none
          | false => some (.rng a b c, ph)
        | none => none
      | none => none
    | none => none
  | _ => none
noncomputable def listP (vs : List PV) (ph : List PO) : Res PV := match vs with
  | [v] => match asRng v with
    | some (a, b, c) => match smallJ a && smallJ b && smallJ c && decide (0 < c) && decide (Builtin.Range.rangeSize a b c ≤ 1000) with
      | true => newList (rngItems a b c) ph
      | false => none
    | none => none
  | _ => none
noncomputable def callBi (P : PrimT) (b : Bi) (vs : List PV) (ph : List PO) : Res PV := match b with
  | .len => lenP vs ph
  | .min => minP P vs ph
  | .sum => sumP vs ph
  | .sorted => sortP vs ph
  | .int => intP vs ph
  | .range => rangeP vs ph
  | .list => listP vs ph
  | .str => none
  | .zip => none
noncomputable def newAcc (vs : List PV) (ph : List PO) : Res PV := match vs with
  | [] => some (.obj ph.length, ph ++ [.acc []])
  | _ => none
noncomputable def newHdr (vs : List PV) (ph : List PO) : Res PV := match vs with
  | [] => some (.hdr ph.length, ph ++ [.list []])
  | _ => none
noncomputable def callV (r : Ev) (P : PrimT) (f : PV) (vs : List PV) (ph : List PO) : Res PV :=
  match f with
  | .con v => match v with
    | .ref a => r.c a vs ph
    | _ => none
  | .bi b => callBi P b vs ph
  | _ => none
noncomputable def kwP (r : Ev) (sc : Scope) (loc : Loc) : List Keyword → List PO → Res (List (Str × PV))
  | [], ph => some ([], ph)
  | ⟨some n, e, _⟩ :: ks, ph => match r.e sc loc e ph with
    | some (v, ph) => match kwP r sc loc ks ph with
      | some (kvs, ph) => some ((n, v) :: kvs, ph)
      | none => none
    | none => none
  | _, _ => none
noncomputable def methArgs (r : Ev) (P : PrimT) (sc : Scope) (loc : Loc) (k : MK) (ov : PV) (name : Str) (args : List Expr) (kws : List Keyword) (ph : List PO) : Res PV :=
  match argsP r sc loc args ph with
  | some (vs, ph) => match kwP r sc loc kws ph with
    | some (kvs, ph) => runM r P k ov name vs kvs ph
    | none => none
  | none => none
noncomputable def callMeth (r : Ev) (T : Top) (P : PrimT) (sc : Scope) (loc : Loc) (o : Expr) (name : Str) (args : List Expr) (kws : List Keyword) (ph : List PO) : Res PV :=
  match r.e sc loc o ph with
  | some (ov, ph) => match getM T ov name ph with
    | some k => methArgs r P sc loc k ov name args kws ph
    | none => none
  | none => none
noncomputable def methFits (o : Expr) (apos pos : Pos) (args : List Expr) : Bool := notSuper o && Nat.beq apos.endLine pos.line && Nat.blt args.length 10 && !args.any isStar
noncomputable def callName (r : Ev) (P : PrimT) (sc : Scope) (loc : Loc) (f : Expr) (args : List Expr) (ph : List PO) : Res PV :=
  match r.e sc loc f ph with
  | some (fv, ph) => match argsP r sc loc args ph with
    | some (vs, ph) => callV r P fv vs ph
    | none => none
  | none => none
noncomputable def nameFits (kws : List Keyword) (args : List Expr) : Bool := kws.isEmpty && Nat.blt args.length 10 && !args.any isStar
set_option tactic.hygienic true in
noncomputable def callP (r : Ev) (T : Top) (P : PrimT) (sc : Scope) (loc : Loc) (f : Expr) (args : List Expr) (kws : List Keyword) (pos : Pos) (ph : List PO) : Res PV := by
  cases f
  case Attribute o name apos => exact match methFits o apos pos args && Nat.blt kws.length 10 with
    | false => none
    | true => callMeth r T P sc loc o name args kws ph
  case Name x p => exact match nameFits kws args with
    | false => none
    | true => callName r P sc loc (.Name x p) args ph
  all_goals exact none
noncomputable def stops (op : BoolOp) (b : Bool) : Bool := match op with
  | .And => !b
  | .Or => b
noncomputable def boolP (r : Ev) (sc : Scope) (loc : Loc) (op : BoolOp) : List Expr → List PO → Res PV
  | [], _ => none
  | e :: es, ph => match es with
    | [] => r.e sc loc e ph
    | _ :: _ => match r.e sc loc e ph with
      | some (v, ph) => match truthP v with
        | some b => match stops op b with
          | true => some (v, ph)
          | false => boolP r sc loc op es ph
        | none => none
      | none => none
noncomputable def allTrueP (r : Ev) (sc : Scope) (loc : Loc) (op : BoolOp) : List Expr → List PO → Res Bool
  | [], ph => some (match op with | .And => true | .Or => false, ph)
  | e :: es, ph => match r.t sc loc e ph with
    | some (b, ph) => match stops op b with
      | true => some (b, ph)
      | false => allTrueP r sc loc op es ph
    | none => none
noncomputable def optP (r : Ev) (sc : Scope) (loc : Loc) (e : Option Expr) (ph : List PO) : Res PV := match e with
  | some e => r.e sc loc e ph
  | none => some (.none, ph)
noncomputable def nameK (T : Top) (loc : Loc) (x : Str) : NameKind → Option PV
  | .globalImplicit => look x T.glob
  | .globalExplicit => none
  | _ => look x loc
noncomputable def nameP (T : Top) (sc : Scope) (loc : Loc) (x : Str) : Option PV := match look x sc.names with
  | some k => nameK T loc x k
  | none => none
noncomputable def constP : Const → Option PV
  | .none => some .none
  | .bool b => some (.bool b)
  | .int i => some (.int i)
  | .str s => some (.strg s)
  | _ => none
noncomputable def eConst (c : Const) (ph : List PO) : Res PV := match constP c with
  | some v => some (v, ph)
  | none => none
noncomputable def eName (T : Top) (sc : Scope) (loc : Loc) (x : Str) (ph : List PO) : Res PV := match nameP T sc loc x with
  | some v => some (v, ph)
  | none => none
noncomputable def eBin (r : Ev) (sc : Scope) (loc : Loc) (a : Expr) (op : Operator) (b : Expr) (ph : List PO) : Res PV := match r.e sc loc a ph with
  | some (x, ph) => match r.e sc loc b ph with
    | some (y, ph) => match binP op x y ph with
      | some v => some (v, ph)
      | none => none
    | none => none
  | none => none
noncomputable def eNot (r : Ev) (sc : Scope) (loc : Loc) (op : UnaryOp) (a : Expr) (ph : List PO) : Res PV := match op with
  | .Not => match r.e sc loc a ph with
    | some (x, ph) => match truthP x with
      | some b => some (.bool (!b), ph)
      | none => none
    | none => none
  | _ => none
noncomputable def cmpE (r : Ev) (sc : Scope) (loc : Loc) (a : Expr) (ops : List CmpOp) (bs : List Expr) (ph : List PO) : Res Bool := match ops, bs with
  | [op], [b] => match r.e sc loc a ph with
    | some (x, ph) => match r.e sc loc b ph with
      | some (y, ph) => match cmpP op x y ph with
        | some v => some (v, ph)
        | none => none
      | none => none
    | none => none
  | _, _ => none
noncomputable def eCmp (r : Ev) (sc : Scope) (loc : Loc) (a : Expr) (ops : List CmpOp) (bs : List Expr) (ph : List PO) : Res PV := match cmpE r sc loc a ops bs ph with
  | some (v, ph) => some (.bool v, ph)
  | none => none
noncomputable def eIf (r : Ev) (sc : Scope) (loc : Loc) (t a b : Expr) (ph : List PO) : Res PV := match r.t sc loc t ph with
  | some (c, ph) => match c with
    | true => r.e sc loc a ph
    | false => r.e sc loc b ph
  | none => none
noncomputable def manyE (es : List Expr) : Bool := es.any isStar || !Nat.ble es.length 1000
noncomputable def eList (r : Ev) (sc : Scope) (loc : Loc) (es : List Expr) (ph : List PO) : Res PV := match es with
  | [] => newList [] ph
  | es => match manyE es with
    | true => none
    | false => match argsP r sc loc es ph with
      | some (vs, ph) => some (.lst vs, ph)
      | none => none
noncomputable def eTup (r : Ev) (sc : Scope) (loc : Loc) (es : List Expr) (ph : List PO) : Res PV := match manyE es with
  | true => none
  | false => match argsP r sc loc es ph with
    | some (vs, ph) => some (.tup vs, ph)
    | none => none
noncomputable def eDict (ks : List (Option Expr)) (vs : List Expr) (ph : List PO) : Res PV := match ks, vs with
  | [], [] => some (.obj ph.length, ph ++ [.dict []])
  | _, _ => none
noncomputable def eSlice (r : Ev) (sc : Scope) (loc : Loc) (o : Expr) (lo hi st : Option Expr) (ph : List PO) : Res PV := match st with
  | some _ => none
  | none => match r.e sc loc o ph with
    | some (ov, ph) => match optP r sc loc lo ph with
      | some (lv, ph) => match optP r sc loc hi ph with
        | some (hv, ph) => match partP lv with
          | some l => match partP hv with
            | some h => match sliceP ov l h ph with
              | some v => some (v, ph)
              | none => none
            | none => none
          | none => none
        | none => none
      | none => none
    | none => none
noncomputable def eItem (r : Ev) (sc : Scope) (loc : Loc) (o i : Expr) (ph : List PO) : Res PV := match r.e sc loc o ph with
  | some (ov, ph) => match r.e sc loc i ph with
    | some (iv, ph) => match itemP ov iv ph with
      | some v => some (v, ph)
      | none => none
    | none => none
  | none => none
noncomputable def sliceOf (e : Expr) : Option (Option Expr × Option Expr × Option Expr) := pick (fun j9 => none) (fun j9 => none) (fun j9 => none) (fun lo hi st => some (lo, hi, st)) (fun j9 j9 j9 => none) (fun j9 j9 => none) e
noncomputable def eSub (r : Ev) (sc : Scope) (loc : Loc) (o i : Expr) (ph : List PO) : Res PV := match sliceOf i with
  | some (lo, hi, st) => eSlice r sc loc o lo hi st ph
  | none => eItem r sc loc o i ph
noncomputable def asHdr : PV → Option Nat
  | .hdr n => some n
  | _ => none
noncomputable def eAttr (r : Ev) (sc : Scope) (loc : Loc) (o : Expr) (name : Str) (ph : List PO) : Res PV := match notSuper o with
  | false => none
  | true => match r.e sc loc o ph with
    | some (v, ph) => match asHdr v with
      | some n => match nEq name nHeaders with
        | true => some (.obj n, ph)
        | false => none
      | none => none
    | none => none
set_option tactic.hygienic true in
noncomputable def exprStep (r : Ev) (T : Top) (P : PrimT) (sc : Scope) (loc : Loc) (e : Expr) (ph : List PO) : Res PV := by
  cases e
  case Constant c k p => exact eConst c ph
  case Name x p => exact eName T sc loc x ph
  case BinOp a op b p => exact eBin r sc loc a op b ph
  case UnaryOp op a p => exact eNot r sc loc op a ph
  case Compare a ops bs p => exact eCmp r sc loc a ops bs ph
  case BoolOp op vs p => exact boolP r sc loc op vs ph
  case IfExp t a b p => exact eIf r sc loc t a b ph
  case List es p => exact eList r sc loc es ph
  case Tuple es k p => exact eTup r sc loc es ph
  case Dict ks vs p => exact eDict ks vs ph
  case Subscript o i p => exact eSub r sc loc o i ph
  case ListComp elt gs csc p => exact listComp r T sc loc elt gs csc ph
  case Attribute o name p => exact eAttr r sc loc o name ph
  case Call f args kws pos => exact callP r T P sc loc f args kws pos ph
  all_goals exact none
noncomputable def tOf (x : Res PV) : Res Bool := match x with
  | some (v, ph) => match truthP v with
    | some b => some (b, ph)
    | none => none
  | none => none
noncomputable def tNot (r : Ev) (sc : Scope) (loc : Loc) (op : UnaryOp) (a : Expr) (ph : List PO) : Res Bool := match op with
  | .Not => match r.t sc loc a ph with
    | some (b, ph) => some (!b, ph)
    | none => none
  | _ => none
set_option tactic.hygienic true in
noncomputable def testStep (r : Ev) (T : Top) (P : PrimT) (sc : Scope) (loc : Loc) (e : Expr) (ph : List PO) : Res Bool := by
  cases e
  case UnaryOp op x p => exact tNot r sc loc op x ph
  case BoolOp op vs p => exact allTrueP r sc loc op vs ph
  case Compare a ops bs p => exact cmpE r sc loc a ops bs ph
  case Call f args kws pos => exact tOf (callP r T P sc loc f args kws pos ph)
  case Name x p => exact tOf (eName T sc loc x ph)
  case Subscript o i p => exact tOf (eSub r sc loc o i ph)
  all_goals exact none
noncomputable abbrev SRes := Option (Fl × Loc × List PO)
noncomputable def execsP (r : Ev) (sc : Scope) : List Stmt → Loc → List PO → SRes
  | [], loc, ph => some (.next, loc, ph)
  | st :: sts, loc, ph => match r.s sc loc st ph with
    | some (.next, loc, ph) => execsP r sc sts loc ph
    | x => x
noncomputable def forGo (bind : PV → Loc → Option Loc) (body : Loc → List PO → SRes) : List PV → Loc → List PO → SRes
  | [], loc, ph => some (.next, loc, ph)
  | x :: xs, loc, ph => match bind x loc with
    | some loc => match body loc ph with
      | some (.next, loc, ph) => forGo bind body xs loc ph
      | some (.brk, loc, ph) => some (.next, loc, ph)
      | some (.ret v, loc, ph) => some (.ret v, loc, ph)
      | none => none
    | none => none
noncomputable def whileGo (test : Loc → List PO → Res Bool) (body : Loc → List PO → SRes) : Nat → Loc → List PO → SRes
  | 0, _, _ => none
  | n + 1, loc, ph => match test loc ph with
    | some (true, ph) => match body loc ph with
      | some (.next, loc, ph) => whileGo test body n loc ph
      | some (.brk, loc, ph) => some (.next, loc, ph)
      | some (.ret v, loc, ph) => some (.ret v, loc, ph)
      | none => none
    | some (false, ph) => some (.next, loc, ph)
    | none => none
noncomputable def isComp (e : Expr) : Bool := Nat.ble 8 e.ctorIdx && Nat.ble e.ctorIdx 10
noncomputable def storedP (k : Str) (v : PV) (es : List (Str × PV)) : List (Str × PV) := match es.any (fun p => sEq p.1 k) with
  | true => es.map fun p => match sEq p.1 k with
    | true => (p.1, v)
    | false => p
  | false => es ++ [(k, v)]
noncomputable def dictAt (ph : List PO) (n : Nat) : Option (List (Str × PV)) := match ph[n]? with
  | some (.dict es) => some es
  | _ => none
noncomputable def storeL (n : Nat) (xs : List PV) (i v : PV) (ph : List PO) : Option (List PO) := match asI i with
  | some k => match decide (0 ≤ k) && decide (k < xs.length) && Nat.ble xs.length 1000 with
    | true => some (ph.set n (.list (xs.set k.toNat v)))
    | false => none
  | none => none
noncomputable def storeD (n : Nat) (es : List (Str × PV)) (i v : PV) (ph : List PO) : Option (List PO) := match i.asStr with
  | some k => match Nat.ble es.length 1000 with
    | true => some (ph.set n (.dict (storedP k v es)))
    | false => none
  | none => none
noncomputable def storeP (o i v : PV) (ph : List PO) : Option (List PO) := match asObj o with
  | some n => match listAt ph n with
    | some xs => storeL n xs i v ph
    | none => match dictAt ph n with
      | some es => storeD n es i v ph
      | none => none
  | none => none
noncomputable def sExpr (r : Ev) (sc : Scope) (loc : Loc) (v : Expr) (ph : List PO) : SRes := match isComp v with
  | true => none
  | false => match r.e sc loc v ph with
    | some (_, ph) => some (.next, loc, ph)
    | none => none
noncomputable def sRet (r : Ev) (sc : Scope) (loc : Loc) (v : Option Expr) (ph : List PO) : SRes := match v with
  | none => some (.ret .none, loc, ph)
  | some e => match r.e sc loc e ph with
    | some (v, ph) => some (.ret v, loc, ph)
    | none => none
noncomputable def sName (r : Ev) (sc : Scope) (loc : Loc) (x : Str) (v : Expr) (ph : List PO) : SRes := match r.e sc loc v ph with
  | some (y, ph) => match storable sc x with
    | true => some (.next, setL x y loc, ph)
    | false => none
  | none => none
noncomputable def sTwo (r : Ev) (sc : Scope) (loc : Loc) (s t : Expr) (v : Expr) (ph : List PO) : SRes := match nameOf s with
  | some x => match nameOf t with
    | some z => match r.e sc loc v ph with
      | some (y, ph) => match storable sc x && storable sc z && !isComp v with
        | true => some (.next, setL z y (setL x y loc), ph)
        | false => none
      | none => none
    | none => none
  | none => none
set_option tactic.hygienic true in
noncomputable def constAlone (v : Expr) : Bool := by
  cases v
  case Tuple vs k p => exact vs.all (constantsAlone 8)
  all_goals exact false
noncomputable def sPair (r : Ev) (sc : Scope) (loc : Loc) (x y : Str) (v : Expr) (ph : List PO) : SRes := match isComp v || constAlone v || nEq x y || !(storable sc x && storable sc y) with
  | true => none
  | false => match r.e sc loc v ph with
    | some (w, ph) => match asTup w with
      | some ws => match ws with
        | [a, b] => some (.next, setL y b (setL x a loc), ph)
        | _ => none
      | none => none
    | none => none
noncomputable def sTup (r : Ev) (sc : Scope) (loc : Loc) (es : List Expr) (v : Expr) (ph : List PO) : SRes := match es with
  | [a, b] => match nameOf a with
    | some x => match nameOf b with
      | some y => sPair r sc loc x y v ph
      | none => none
    | none => none
  | _ => none
noncomputable def sItem (r : Ev) (sc : Scope) (loc : Loc) (o i : Expr) (v : Expr) (ph : List PO) : SRes := match r.e sc loc v ph with
  | some (y, ph) => match r.e sc loc o ph with
    | some (ov, ph) => match r.e sc loc i ph with
      | some (iv, ph) => match storeP ov iv y ph with
        | some ph => some (.next, loc, ph)
        | none => none
      | none => none
    | none => none
  | none => none
noncomputable def sWhole (r : Ev) (sc : Scope) (loc : Loc) (o : Expr) (b : Bool) (v : Expr) (ph : List PO) : SRes := match b with
  | true => match r.e sc loc v ph with
    | some (y, ph) => match asLst y with
      | some ys => match r.e sc loc o ph with
        | some (ov, ph) => match asObj ov with
          | some n => match listAt ph n with
            | some xs => match Nat.ble xs.length 1000 && Nat.ble ys.length 1000 with
              | true => some (.next, loc, ph.set n (.list ys))
              | false => none
            | none => none
          | none => none
        | none => none
      | none => none
    | none => none
  | false => none
noncomputable def sSub (r : Ev) (P : PrimT) (sc : Scope) (loc : Loc) (o i : Expr) (v : Expr) (ph : List PO) : SRes := match sliceOf i with
  | some (lo, hi, st) => sWhole r sc loc o (lo.isNone && hi.isNone && st.isNone) v ph
  | none => match isComp v with
    | true => none
    | false => sItem r sc loc o i v ph
set_option tactic.hygienic true in
noncomputable def sOne (r : Ev) (P : PrimT) (sc : Scope) (loc : Loc) (v : Expr) (ph : List PO) (t : Expr) : SRes := by
  cases t
  case Name x p => exact sName r sc loc x v ph
  case Tuple es k p => exact sTup r sc loc es v ph
  case Subscript o i p => exact sSub r P sc loc o i v ph
  all_goals exact none
noncomputable def sAssign (r : Ev) (P : PrimT) (sc : Scope) (loc : Loc) (ts : List Expr) (v : Expr) (ph : List PO) : SRes := match ts with
  | t :: us => match us with
    | [] => sOne r P sc loc v ph t
    | u :: us => match us with
      | [] => sTwo r sc loc t u v ph
      | _ :: _ => none
  | [] => none
noncomputable def augI (op : Operator) (i j : Int) : Option Int := match op with
  | .Add => some (i + j)
  | .Sub => some (i - j)
  | _ => none
noncomputable def isAdd (op : Operator) : Bool := match op with
  | .Add => true
  | _ => false
noncomputable def augL (n : Nat) (op : Operator) (y : PV) (ph : List PO) : Res PV := match listAt ph n with
  | some xs => match asLst y with
    | some ys => match isAdd op && Nat.ble (xs.length + ys.length) 1000 with
      | true => some (.obj n, ph.set n (.list (xs ++ ys)))
      | false => none
    | none => none
  | none => none
noncomputable def augV (op : Operator) (old y : PV) (ph : List PO) : Res PV := match asI old with
  | some i => match asI y with
    | some j => match augI op i j with
      | some k => some (.int k, ph)
      | none => none
    | none => none
  | none => none
noncomputable def augP (op : Operator) (old y : PV) (ph : List PO) : Res PV := match asObj old with
  | some n => augL n op y ph
  | none => augV op old y ph
noncomputable def sAug (r : Ev) (T : Top) (sc : Scope) (loc : Loc) (t : Expr) (op : Operator) (v : Expr) (ph : List PO) : SRes := match nameOf t with
  | some x => match nameP T sc loc x with
    | some old => match r.e sc loc v ph with
      | some (y, ph) => match storable sc x with
        | true => match augP op old y ph with
          | some (z, ph) => some (.next, setL x z loc, ph)
          | none => none
        | false => none
      | none => none
    | none => none
  | none => none
noncomputable def sIf (r : Ev) (sc : Scope) (loc : Loc) (t : Expr) (a b : List Stmt) (ph : List PO) : SRes := match r.t sc loc t ph with
  | some (c, ph) => match c with
    | true => execsP r sc a loc ph
    | false => execsP r sc b loc ph
  | none => none
noncomputable def sFor (r : Ev) (T : Top) (sc : Scope) (loc : Loc) (target iter : Expr) (body orelse : List Stmt) (ph : List PO) : SRes := match orelse with
  | [] => match srcP r T sc loc target iter ph with
    | some (xs, n, ph) => match forGo (bindT sc target) (fun loc ph => execsP r sc body loc ph) xs loc (lockP n ph) with
      | some (fl, loc, ph) => match unlockP n xs ph with
        | some ph => some (fl, loc, ph)
        | none => none
      | none => none
    | none => none
  | _ => none
noncomputable def sWhile (r : Ev) (sc : Scope) (loc : Loc) (t : Expr) (body orelse : List Stmt) (ph : List PO) : SRes := match orelse with
  | [] => whileGo (fun loc ph => r.t sc loc t ph) (fun loc ph => execsP r sc body loc ph) 100 loc ph
  | _ => none
noncomputable def sDelOne (r : Ev) (T : Top) (sc : Scope) (loc : Loc) (o i : Expr) (ph : List PO) : SRes := match r.e sc loc o ph with
  | some (ov, ph) => match asHdr ov with
    | some n => match r.e sc loc i ph with
      | some (iv, ph) => match look nDelitem T.met with
        | some f => match r.c f [ov, iv] ph with
          | some (_, ph) => some (.next, loc, ph)
          | none => none
        | none => none
      | none => none
    | none => none
  | none => none
noncomputable def sDel (r : Ev) (T : Top) (sc : Scope) (loc : Loc) (ts : List Expr) (ph : List PO) : SRes := match ts with
  | [t] => match subOf t with
    | some (o, i) => sDelOne r T sc loc o i ph
    | none => none
  | _ => none
set_option tactic.hygienic true in
noncomputable def stmtStep (r : Ev) (T : Top) (P : PrimT) (sc : Scope) (loc : Loc) (st : Stmt) (ph : List PO) : SRes := by
  cases st
  case Expr v p => exact sExpr r sc loc v ph
  case Break p => exact some (.brk, loc, ph)
  case Return v p => exact sRet r sc loc v ph
  case Assign ts v p => exact sAssign r P sc loc ts v ph
  case AugAssign t op v p => exact sAug r T sc loc t op v ph
  case If t a b p => exact sIf r sc loc t a b ph
  case For target iter body orelse p => exact sFor r T sc loc target iter body orelse ph
  case While t body orelse p => exact sWhile r sc loc t body orelse ph
  case Delete ts p => exact sDel r T sc loc ts ph
  all_goals exact none
noncomputable def frz (k : Nat) (ph : List PO) : Nat → PV → Option PV
  | 0, _ => none
  | n + 1, v => match v.lt k with
    | true => some v
    | false => match asObj v with
      | some j => match listAt ph j with
        | some xs => match mapO (frz k ph n) xs with
          | some ys => some (.lst ys)
          | none => none
        | none => none
      | none => match asLst v with
        | some xs => match mapO (frz k ph n) xs with
          | some ys => some (.lst ys)
          | none => none
        | none => none
noncomputable def finishO (k j : Nat) (old ph : List PO) : Res PV := match Nat.blt j k with
  | true => some (.obj j, old)
  | false => match listAt ph j with
    | some xs => match belowL k xs with
      | true => some (.lst xs, old)
      | false => none
    | none => match dictAt ph j with
      | some es => match belowD k es with
        | true => some (.dct es, old)
        | false => none
      | none => none
noncomputable def finishV (k : Nat) (v : PV) (old ph : List PO) : Res PV := match v.lt k with
  | true => some (v, old)
  | false => match frz k ph 8 v with
    | some v => some (v, old)
    | none => none
noncomputable def finish (k : Nat) (v : PV) (ph : List PO) : Res PV := match (ph.take k).all (PO.lt k) with
  | true => match asObj v with
    | some j => finishO k j (ph.take k) ph
    | none => finishV k v (ph.take k) ph
  | false => none
noncomputable def bindArgsP (d : FnD) (vs : List PV) : Option Loc :=
  if vs.length ≤ d.params.length ∧ d.params.length ≤ vs.length + d.dflt.length then
    some (d.params.zip (vs ++ d.dflt.drop (d.dflt.length - (d.params.length - vs.length))))
  else none
noncomputable def lookN {α : Type} (a : Nat) : List (Nat × α) → Option α
  | [] => none
  | (k, v) :: r => match Nat.beq a k with
    | true => some v
    | false => lookN a r
noncomputable def retOf : Fl → Option PV
  | .ret v => some v
  | .next => some .none
  | .brk => none
noncomputable def callFn (r : Ev) (d : FnD) (vs : List PV) (ph : List PO) : Res PV := match bindArgsP d vs with
  | some loc => match execsP r d.scope d.body loc ph with
    | some (fl, _, ph') => match retOf fl with
      | some v => finish ph.length v ph'
      | none => none
    | none => none
  | none => none
noncomputable def callStep (r : Ev) (T : Top) (P : PrimT) (a : Addr) (vs : List PV) (ph : List PO) : Res PV := match lookN a T.fn with
  | some d => callFn r d vs ph
  | none => match Nat.ble P.lv r.lv with
    | true => P.f a vs [] ph
    | false => none
noncomputable def ev (T : Top) (P : PrimT) : Nat → Ev
  | 0 => ⟨fun j9 j9 j9 j9 => none, fun j9 j9 j9 j9 => none, fun j9 j9 j9 j9 => none, fun j9 j9 j9 => none, 0⟩
  | n + 1 => ⟨exprStep (ev T P n) T P, testStep (ev T P n) T P, stmtStep (ev T P n) T P, callStep (ev T P n) T P, n + 1⟩
/- how an equation of the evaluator is taken apart -/
section
variable {β : Type} {r : β} {p : Prop}
theorem iT {b : Bool} {k : Option β} (e : (match b with | true => k | false => none) = some r) (q : b = true → k = some r → p) : p := by
  cases b with
  | false => exact nos e
  | true => exact q rfl e
theorem iF {b : Bool} {k : Option β} (e : (match b with | false => none | true => k) = some r) (q : b = true → k = some r → p) : p := by
  cases b with
  | false => exact nos e
  | true => exact q rfl e
theorem iB {b : Bool} {k l : Option β} (e : (match b with | true => k | false => l) = some r) (q : b = true → k = some r → p) (q' : b = false → l = some r → p) : p := by
  cases b with
  | true => exact q rfl e
  | false => exact q' rfl e
theorem iIf {c : Prop} [Decidable c] {k : Option β} (e : (if c then k else none) = some r) (q : c → k = some r → p) : p := by
  by_cases h : c
  · rw [if_pos h] at e; exact q h e
  · rw [if_neg h] at e; exact nos e
theorem iNf {c : Prop} [Decidable c] {k : Option β} (e : (if c then none else k) = some r) (q : ¬ c → k = some r → p) : p := by
  by_cases h : c
  · rw [if_pos h] at e; exact nos e
  · rw [if_neg h] at e; exact q h e
theorem iI {x : Option (Int)} {k : (Int) → Option β} (e : (match x with | some v => k v | none => none) = some r) (q : ∀ v, x = some v → k v = some r → p) : p := by
  cases x with
  | none => exact nos e
  | some v => exact q v rfl e
theorem iS {x : Option (Str)} {k : (Str) → Option β} (e : (match x with | some v => k v | none => none) = some r) (q : ∀ v, x = some v → k v = some r → p) : p := by
  cases x with
  | none => exact nos e
  | some v => exact q v rfl e
theorem iV {x : Option (PV)} {k : (PV) → Option β} (e : (match x with | some v => k v | none => none) = some r) (q : ∀ v, x = some v → k v = some r → p) : p := by
  cases x with
  | none => exact nos e
  | some v => exact q v rfl e
theorem iL {x : Option (List PV)} {k : (List PV) → Option β} (e : (match x with | some v => k v | none => none) = some r) (q : ∀ v, x = some v → k v = some r → p) : p := by
  cases x with
  | none => exact nos e
  | some v => exact q v rfl e
theorem iBo {x : Option (Bool)} {k : (Bool) → Option β} (e : (match x with | some v => k v | none => none) = some r) (q : ∀ v, x = some v → k v = some r → p) : p := by
  cases x with
  | none => exact nos e
  | some v => exact q v rfl e
theorem iSs {x : Option (List Str)} {k : (List Str) → Option β} (e : (match x with | some v => k v | none => none) = some r) (q : ∀ v, x = some v → k v = some r → p) : p := by
  cases x with
  | none => exact nos e
  | some v => exact q v rfl e
theorem iIs {x : Option (List Int)} {k : (List Int) → Option β} (e : (match x with | some v => k v | none => none) = some r) (q : ∀ v, x = some v → k v = some r → p) : p := by
  cases x with
  | none => exact nos e
  | some v => exact q v rfl e
theorem iD {x : Option (PyData)} {k : (PyData) → Option β} (e : (match x with | some v => k v | none => none) = some r) (q : ∀ v, x = some v → k v = some r → p) : p := by
  cases x with
  | none => exact nos e
  | some v => exact q v rfl e
theorem iN {x : Option (Nat)} {k : (Nat) → Option β} (e : (match x with | some v => k v | none => none) = some r) (q : ∀ v, x = some v → k v = some r → p) : p := by
  cases x with
  | none => exact nos e
  | some v => exact q v rfl e
theorem iE {x : Option (List (Str × PV))} {k : (List (Str × PV)) → Option β} (e : (match x with | some v => k v | none => none) = some r) (q : ∀ v, x = some v → k v = some r → p) : p := by
  cases x with
  | none => exact nos e
  | some v => exact q v rfl e
theorem iK {x : Option (NameKind)} {k : (NameKind) → Option β} (e : (match x with | some v => k v | none => none) = some r) (q : ∀ v, x = some v → k v = some r → p) : p := by
  cases x with
  | none => exact nos e
  | some v => exact q v rfl e
theorem iLoc {x : Option (Loc)} {k : (Loc) → Option β} (e : (match x with | some v => k v | none => none) = some r) (q : ∀ v, x = some v → k v = some r → p) : p := by
  cases x with
  | none => exact nos e
  | some v => exact q v rfl e
theorem iPo {x : Option (List PO)} {k : (List PO) → Option β} (e : (match x with | some v => k v | none => none) = some r) (q : ∀ v, x = some v → k v = some r → p) : p := by
  cases x with
  | none => exact nos e
  | some v => exact q v rfl e
theorem iM {x : Option (MK)} {k : (MK) → Option β} (e : (match x with | some v => k v | none => none) = some r) (q : ∀ v, x = some v → k v = some r → p) : p := by
  cases x with
  | none => exact nos e
  | some v => exact q v rfl e
theorem iA {x : Option (Addr)} {k : (Addr) → Option β} (e : (match x with | some v => k v | none => none) = some r) (q : ∀ v, x = some v → k v = some r → p) : p := by
  cases x with
  | none => exact nos e
  | some v => exact q v rfl e
theorem oI {x : Option (Int)} {k : (Int) → Option β} {l : Option β} (e : (match x with | some v => k v | none => l) = some r) (q : ∀ v, x = some v → k v = some r → p) (q' : x = none → l = some r → p) : p := by
  cases x with
  | none => exact q' rfl e
  | some v => exact q v rfl e
theorem oS {x : Option (Str)} {k : (Str) → Option β} {l : Option β} (e : (match x with | some v => k v | none => l) = some r) (q : ∀ v, x = some v → k v = some r → p) (q' : x = none → l = some r → p) : p := by
  cases x with
  | none => exact q' rfl e
  | some v => exact q v rfl e
theorem oL {x : Option (List PV)} {k : (List PV) → Option β} {l : Option β} (e : (match x with | some v => k v | none => l) = some r) (q : ∀ v, x = some v → k v = some r → p) (q' : x = none → l = some r → p) : p := by
  cases x with
  | none => exact q' rfl e
  | some v => exact q v rfl e
theorem oBo {x : Option (Bool)} {k : (Bool) → Option β} {l : Option β} (e : (match x with | some v => k v | none => l) = some r) (q : ∀ v, x = some v → k v = some r → p) (q' : x = none → l = some r → p) : p := by
  cases x with
  | none => exact q' rfl e
  | some v => exact q v rfl e
theorem oSs {x : Option (List Str)} {k : (List Str) → Option β} {l : Option β} (e : (match x with | some v => k v | none => l) = some r) (q : ∀ v, x = some v → k v = some r → p) (q' : x = none → l = some r → p) : p := by
  cases x with
  | none => exact q' rfl e
  | some v => exact q v rfl e
theorem oIs {x : Option (List Int)} {k : (List Int) → Option β} {l : Option β} (e : (match x with | some v => k v | none => l) = some r) (q : ∀ v, x = some v → k v = some r → p) (q' : x = none → l = some r → p) : p := by
  cases x with
  | none => exact q' rfl e
  | some v => exact q v rfl e
theorem rV {x : Res (PV)} {k : (PV) → List PO → Option β} (e : (match x with | some (v, ph) => k v ph | none => none) = some r) (q : ∀ v ph, x = some (v, ph) → k v ph = some r → p) : p := by
  cases x with
  | none => exact nos e
  | some v => exact q v.1 v.2 rfl e
theorem rB {x : Res (Bool)} {k : (Bool) → List PO → Option β} (e : (match x with | some (v, ph) => k v ph | none => none) = some r) (q : ∀ v ph, x = some (v, ph) → k v ph = some r → p) : p := by
  cases x with
  | none => exact nos e
  | some v => exact q v.1 v.2 rfl e
theorem rL {x : Res (List PV)} {k : (List PV) → List PO → Option β} (e : (match x with | some (v, ph) => k v ph | none => none) = some r) (q : ∀ v ph, x = some (v, ph) → k v ph = some r → p) : p := by
  cases x with
  | none => exact nos e
  | some v => exact q v.1 v.2 rfl e
theorem rK {x : Res (List (Str × PV))} {k : (List (Str × PV)) → List PO → Option β} (e : (match x with | some (v, ph) => k v ph | none => none) = some r) (q : ∀ v ph, x = some (v, ph) → k v ph = some r → p) : p := by
  cases x with
  | none => exact nos e
  | some v => exact q v.1 v.2 rfl e
theorem rVn {x : Res PV} {k : PV → List PO → Option β} (e : (match x with | none => none | some (v, ph) => k v ph) = some r) (q : ∀ v ph, x = some (v, ph) → k v ph = some r → p) : p := by
  cases x with
  | none => exact nos e
  | some v => exact q v.1 v.2 rfl e
theorem iTn {b : Bool} {k : Option β} (e : (match b with | true => none | false => k) = some r) (q : b = false → k = some r → p) : p := by
  cases b with
  | true => exact nos e
  | false => exact q rfl e
theorem l1 {vs : List (PV)} {k : PV → Option β} (e : (match vs with | [v] => k v | _ => none) = some r) (q : ∀ v, vs = [v] → k v = some r → p) : p := by
  cases vs with
  | nil => exact nos e
  | cons v vs =>
    cases vs with
    | nil => exact q _ rfl e
    | cons u vs => exact nos e
theorem l0 {vs : List (PV)} {k : Option β} (e : (match vs with | [] => k | _ => none) = some r) (q : vs = [] → k = some r → p) : p := by
  cases vs with
  | nil => exact q rfl e
  | cons v vs => exact nos e
theorem k0 {vs : List (Str × PV)} {k : Option β} (e : (match vs with | [] => k | _ => none) = some r) (q : vs = [] → k = some r → p) : p := by
  cases vs with
  | nil => exact q rfl e
  | cons v vs => exact nos e
theorem w0 {vs : List (Keyword)} {k : Option β} (e : (match vs with | [] => k | _ => none) = some r) (q : vs = [] → k = some r → p) : p := by
  cases vs with
  | nil => exact q rfl e
  | cons v vs => exact nos e
theorem s0 {vs : List (Stmt)} {k : Option β} (e : (match vs with | [] => k | _ => none) = some r) (q : vs = [] → k = some r → p) : p := by
  cases vs with
  | nil => exact q rfl e
  | cons v vs => exact nos e
theorem e2 {vs : List (Expr)} {k : Expr → Expr → Option β} (e : (match vs with | [v, u] => k v u | _ => none) = some r) (q : ∀ v u, vs = [v, u] → k v u = some r → p) : p := by
  cases vs with
  | nil => exact nos e
  | cons v vs =>
    cases vs with
    | nil => exact nos e
    | cons u vs =>
      cases vs with
      | nil => exact q _ _ rfl e
      | cons w vs => exact nos e
theorem e1 {vs : List (Expr)} {k : Expr → Option β} (e : (match vs with | [v] => k v | _ => none) = some r) (q : ∀ v, vs = [v] → k v = some r → p) : p := by
  cases vs with
  | nil => exact nos e
  | cons v vs =>
    cases vs with
    | nil => exact q _ rfl e
    | cons u vs => exact nos e
theorem iPt {x : Option (Option Int)} {k : Option Int → Option β} (e : (match x with | some v => k v | none => none) = some r) (q : ∀ v, x = some v → k v = some r → p) : p := by
  cases x with
  | none => exact nos e
  | some v => exact q v rfl e
theorem iRg {x : Option (Int × Int × Int)} {k : Int → Int → Int → Option β} (e : (match x with | some (a, b, c) => k a b c | none => none) = some r) (q : ∀ a b c, x = some (a, b, c) → k a b c = some r → p) : p := by
  cases x with
  | none => exact nos e
  | some v => exact q v.1 v.2.1 v.2.2 rfl e
theorem l3 {vs : List PV} {k1 : PV → Option β} {k2 : PV → PV → Option β} {k3 : PV → PV → PV → Option β} (e : (match vs with | [x] => k1 x | [x, y] => k2 x y | [x, y, z] => k3 x y z | _ => none) = some r)
    (q1 : ∀ x, vs = [x] → k1 x = some r → p) (q2 : ∀ x y, vs = [x, y] → k2 x y = some r → p) (q3 : ∀ x y z, vs = [x, y, z] → k3 x y z = some r → p) : p := by
  cases vs with
  | nil => exact nos e
  | cons x vs =>
    cases vs with
    | nil => exact q1 _ rfl e
    | cons y vs =>
      cases vs with
      | nil => exact q2 _ _ rfl e
      | cons z vs =>
        cases vs with
        | nil => exact q3 _ _ _ rfl e
        | cons w vs => exact nos e
theorem iKw {nm : Option Str} {k : Str → Option β} (e : (match nm with | some n => k n | none => none) = some r) (q : ∀ n, nm = some n → k n = some r → p) : p := by
  cases nm with
  | none => exact nos e
  | some v => exact q v rfl e
theorem l12 {vs : List PV} {k1 : PV → Option β} {k2 : PV → PV → Option β} (e : (match vs with | [x] => k1 x | [x, y] => k2 x y | _ => none) = some r)
    (q1 : ∀ x, vs = [x] → k1 x = some r → p) (q2 : ∀ x y, vs = [x, y] → k2 x y = some r → p) : p := by
  cases vs with
  | nil => exact nos e
  | cons x vs =>
    cases vs with
    | nil => exact q1 _ rfl e
    | cons y vs =>
      cases vs with
      | nil => exact q2 _ _ rfl e
      | cons z vs => exact nos e
theorem iEs {x : Option (List Expr)} {k : (List Expr) → Option β} (e : (match x with | some v => k v | none => none) = some r) (q : ∀ v, x = some v → k v = some r → p) : p := by
  cases x with
  | none => exact nos e
  | some v => exact q v rfl e
theorem c1 {vs : List PV} {k : PV → List PV → Option β} (e : (match vs with | v :: vs => k v vs | [] => none) = some r) (q : ∀ v us, vs = v :: us → k v us = some r → p) : p := by
  cases vs with
  | nil => exact nos e
  | cons v vs => exact q _ _ rfl e
theorem oRg {x : Option (Int × Int × Int)} {k : Int → Int → Int → Option β} {l : Option β} (e : (match x with | some (a, b, c) => k a b c | none => l) = some r) (q : ∀ a b c, x = some (a, b, c) → k a b c = some r → p) (q' : l = some r → p) : p := by
  cases x with
  | none => exact q' e
  | some v => exact q v.1 v.2.1 v.2.2 rfl e
theorem iIt {x : Option (List PV × Option Nat)} {k : List PV → Option Nat → Option β} (e : (match x with | some (xs, n) => k xs n | none => none) = some r) (q : ∀ xs n, x = some (xs, n) → k xs n = some r → p) : p := by
  cases x with
  | none => exact nos e
  | some v => exact q v.1 v.2 rfl e
theorem iX {x : SRes} {k : Loc → List PO → SRes} {fl : Fl} {loc' : Loc} {ph' : List PO} (e : (match x with | some (.next, loc, ph) => k loc ph | x => x) = some (fl, loc', ph')) (q : ∀ loc ph, x = some (.next, loc, ph) → k loc ph = some (fl, loc', ph') → p) (q' : fl ≠ .next → x = some (fl, loc', ph') → p) : p := by
  cases x with
  | none => exact nos e
  | some v =>
    obtain ⟨f, v⟩ := v
    cases f
    · exact q _ _ rfl e
    · exact q' (by rw [← (Prod.mk.inj (Option.some.inj e)).1]; exact nofun) e
    · exact q' (by rw [← (Prod.mk.inj (Option.some.inj e)).1]; exact nofun) e
theorem iG {x : SRes} {k : Loc → List PO → SRes} {fl : Fl} {loc' : Loc} {ph' : List PO} (e : (match x with | some (.next, loc, ph) => k loc ph | some (.brk, loc, ph) => some (.next, loc, ph) | some (.ret v, loc, ph) => some (.ret v, loc, ph) | none => none) = some (fl, loc', ph')) (q : ∀ loc ph, x = some (.next, loc, ph) → k loc ph = some (fl, loc', ph') → p)
    (q1 : fl = .next → x = some (.brk, loc', ph') → p) (q2 : ∀ v, fl = .ret v → x = some (.ret v, loc', ph') → p) : p := by
  cases x with
  | none => exact nos e
  | some v =>
    obtain ⟨f, v⟩ := v
    cases f
    · exact q _ _ rfl e
    · exact sp3 e fun h1 h2 h3 => q1 h1 (h2 ▸ h3 ▸ rfl)
    · exact sp3 e fun h1 h2 h3 => q2 _ h1 (h2 ▸ h3 ▸ rfl)
theorem rW {x : Res Bool} {k l : List PO → Option β} (e : (match x with | some (true, ph) => k ph | some (false, ph) => l ph | none => none) = some r) (q : ∀ ph, x = some (true, ph) → k ph = some r → p) (q' : ∀ ph, x = some (false, ph) → l ph = some r → p) : p := by
  cases x with
  | none => exact nos e
  | some v =>
    obtain ⟨f, v⟩ := v
    cases f
    · exact q' _ rfl e
    · exact q _ rfl e
theorem iF3 {x : SRes} {k : Fl → Loc → List PO → Option β} (e : (match x with | some (fl, loc, ph) => k fl loc ph | none => none) = some r) (q : ∀ fl loc ph, x = some (fl, loc, ph) → k fl loc ph = some r → p) : p := by
  cases x with
  | none => exact nos e
  | some v => exact q v.1 v.2.1 v.2.2 rfl e
theorem iSrc {x : Option (List PV × Option Nat × List PO)} {k : List PV → Option Nat → List PO → Option β} (e : (match x with | some (xs, n, ph) => k xs n ph | none => none) = some r) (q : ∀ xs n ph, x = some (xs, n, ph) → k xs n ph = some r → p) : p := by
  cases x with
  | none => exact nos e
  | some v => exact q v.1 v.2.1 v.2.2 rfl e
theorem iCa {x : Option (Expr × List Expr)} {k : Expr → List Expr → Option β} (e : (match x with | some (f, args) => k f args | none => none) = some r) (q : ∀ f args, x = some (f, args) → k f args = some r → p) : p := by
  cases x with
  | none => exact nos e
  | some v => exact q v.1 v.2 rfl e
theorem oEs {x : Option (List Expr)} {k : List Expr → Option β} {l : Option β} (e : (match x with | some v => k v | none => l) = some r) (q : ∀ v, x = some v → k v = some r → p) (q' : x = none → l = some r → p) : p := by
  cases x with
  | none => exact q' rfl e
  | some v => exact q v rfl e
theorem l2 {vs : List PV} {k : PV → PV → Option β} (e : (match vs with | [v, u] => k v u | _ => none) = some r) (q : ∀ v u, vs = [v, u] → k v u = some r → p) : p := by
  cases vs with
  | nil => exact nos e
  | cons v vs =>
    cases vs with
    | nil => exact nos e
    | cons u vs =>
      cases vs with
      | nil => exact q _ _ rfl e
      | cons w vs => exact nos e
theorem rC {x : CRes} {k : Loc → List PV → List PO → Option β} (e : (match x with | some (loc, acc, ph) => k loc acc ph | none => none) = some r) (q : ∀ loc acc ph, x = some (loc, acc, ph) → k loc acc ph = some r → p) : p := by
  cases x with
  | none => exact nos e
  | some v => exact q v.1 v.2.1 v.2.2 rfl e
theorem cG {gs : List Comprehension} {k : Comprehension → List Comprehension → Option β} (e : (match gs with | g :: gs => k g gs | [] => none) = some r) (q : ∀ g gs', gs = g :: gs' → k g gs' = some r → p) : p := by
  cases gs with
  | nil => exact nos e
  | cons g gs => exact q _ _ rfl e
theorem oN {x : Option (Nat)} {k : (Nat) → Option β} {l : Option β} (e : (match x with | some v => k v | none => l) = some r) (q : ∀ v, x = some v → k v = some r → p) (q' : x = none → l = some r → p) : p := by
  cases x with
  | none => exact q' rfl e
  | some v => exact q v rfl e
theorem oFn {x : Option FnD} {k : FnD → Option β} {l : Option β} (e : (match x with | some v => k v | none => l) = some r) (q : ∀ v, x = some v → k v = some r → p) (q' : x = none → l = some r → p) : p := by
  cases x with
  | none => exact q' rfl e
  | some v => exact q v rfl e
theorem oSl {x : Option (Option Expr × Option Expr × Option Expr)} {k : Option Expr → Option Expr → Option Expr → Option β} {l : Option β} (e : (match x with | some (a, b, c) => k a b c | none => l) = some r) (q : ∀ a b c, x = some (a, b, c) → k a b c = some r → p) (q' : l = some r → p) : p := by
  cases x with
  | none => exact q' e
  | some v => exact q v.1 v.2.1 v.2.2 rfl e
theorem iLL {x : Option (List (List PV))} {k : List (List PV) → Option β} (e : (match x with | some v => k v | none => none) = some r) (q : ∀ v, x = some v → k v = some r → p) : p := by
  cases x with
  | none => exact nos e
  | some v => exact q v rfl e
theorem iX2 {x : Option (Expr × Expr)} {k : Expr → Expr → Option β} (e : (match x with | some (a, b) => k a b | none => none) = some r) (q : ∀ a b, x = some (a, b) → k a b = some r → p) : p := by
  cases x with
  | none => exact nos e
  | some v => exact q v.1 v.2 rfl e
end
end Mine.Internal
end
section
open PySem PySem.W PyProof.Rows
namespace Mine.Internal.Pl
section
variable {T : Top} {P : PrimT} {n : Nat} {sc : Scope} {loc loc' loc1 : Loc} {ph ph' ph1 ph2 : List PO} {r : Ev}
theorem c_of {a vs d v o fl} (hd : lookN a T.fn = some d) (hb : bindArgsP d vs = some loc) (hx : execsP (ev T P n) d.scope d.body loc ph = some (fl, loc', ph')) (hr : retOf fl = some v) (hf : finish ph.length v ph' = o) : (ev T P (n + 1)).c a vs ph = o := by
  show (match lookN a T.fn with | some d => callFn (ev T P n) d vs ph | none => match Nat.ble P.lv (ev T P n).lv with | true => P.f a vs [] ph | false => none) = o
  rw [hd]
  show (match bindArgsP d vs with | some loc => (match execsP (ev T P n) d.scope d.body loc ph with | some (fl, _, ph') => (match retOf fl with | some v => finish ph.length v ph' | none => none) | none => none) | none => none) = o
  rw [hb]
  show (match execsP (ev T P n) d.scope d.body loc ph with | some (fl, _, ph') => (match retOf fl with | some v => finish ph.length v ph' | none => none) | none => none) = o
  rw [hx]
  show (match retOf fl with | some v => finish ph.length v ph' | none => none) = o
  rw [hr]
  exact hf
theorem c_ret {a vs d v o} (hd : lookN a T.fn = some d) (hb : bindArgsP d vs = some loc) (hx : execsP (ev T P n) d.scope d.body loc ph = some (.ret v, loc', ph')) (hf : finish ph.length v ph' = o) : (ev T P (n + 1)).c a vs ph = o := c_of hd hb hx rfl hf
theorem c_next {a vs d o} (hd : lookN a T.fn = some d) (hb : bindArgsP d vs = some loc) (hx : execsP (ev T P n) d.scope d.body loc ph = some (.next, loc', ph')) (hf : finish ph.length .none ph' = o) : (ev T P (n + 1)).c a vs ph = o := c_of hd hb hx rfl hf
theorem ev_lv : ∀ {n : Nat}, (ev T P n).lv = n
  | 0 => rfl
  | _ + 1 => rfl
theorem c_prim {a vs} (hd : lookN a T.fn = none) (hlv : P.lv ≤ 20 := by decide) : (ev T P (n + 21)).c a vs ph = P.f a vs [] ph := by
  show callStep (ev T P (n + 20)) T P a vs ph = _
  unfold callStep
  rw [hd]; dsimp only
  rw [ev_lv, Nat.ble_eq.mpr (by omega : P.lv ≤ n + 20)]
theorem x_cons {st sts o} (h : r.s sc loc st ph = some (.next, loc', ph')) (k : execsP r sc sts loc' ph' = o) : execsP r sc (st :: sts) loc ph = o := by
  unfold execsP; rw [h]; exact k
theorem x_ret {st sts v} (h : r.s sc loc st ph = some (.ret v, loc', ph')) : execsP r sc (st :: sts) loc ph = some (.ret v, loc', ph') := by
  unfold execsP; rw [h]
theorem x_brk {st sts} (h : r.s sc loc st ph = some (.brk, loc', ph')) : execsP r sc (st :: sts) loc ph = some (.brk, loc', ph') := by
  unfold execsP; rw [h]
theorem x_one {st fl} (h : r.s sc loc st ph = some (fl, loc', ph')) : execsP r sc [st] loc ph = some (fl, loc', ph') := by
  unfold execsP; rw [h]; cases fl <;> rfl
theorem s_if {t a b p c o} (ht : (ev T P n).t sc loc t ph = some (c, ph1)) (h1 : c = true → execsP (ev T P n) sc a loc ph1 = o) (h2 : c = false → execsP (ev T P n) sc b loc ph1 = o) : (ev T P (n + 1)).s sc loc (.If t a b p) ph = o := by
  show sIf _ sc loc t a b ph = o
  unfold sIf; rw [ht]
  cases c
  · exact h2 rfl
  · exact h1 rfl
theorem s_for {t it body p xs o} (hs : srcP (ev T P n) T sc loc t it ph = some (xs, none, ph1)) (h : forGo (bindT sc t) (fun loc ph => execsP (ev T P n) sc body loc ph) xs loc ph1 = o) : (ev T P (n + 1)).s sc loc (.For t it body [] p) ph = o := by
  show sFor _ T sc loc t it body [] ph = o
  unfold sFor; dsimp only; rw [hs]; dsimp only
  rw [show lockP none ph1 = ph1 from rfl, h]
  cases o with
  | none => rfl
  | some x => rfl
theorem s_while {t body p o} (h : whileGo (fun loc ph => (ev T P n).t sc loc t ph) (fun loc ph => execsP (ev T P n) sc body loc ph) 100 loc ph = o) : (ev T P (n + 1)).s sc loc (.While t body [] p) ph = o := h
theorem s_name {x v p q y} (h : (ev T P n).e sc loc v ph = some (y, ph1)) (hs : storable sc x = true) : (ev T P (n + 1)).s sc loc (.Assign [.Name x p] v q) ph = some (.next, setL x y loc, ph1) := by
  show sName _ sc loc x v ph = _
  unfold sName; rw [h]; dsimp only; rw [hs]
theorem s_ret {v q y} (h : (ev T P n).e sc loc v ph = some (y, ph1)) : (ev T P (n + 1)).s sc loc (.Return (some v) q) ph = some (.ret y, loc, ph1) := by
  show sRet _ sc loc (some v) ph = _
  unfold sRet; dsimp only; rw [h]
theorem s_expr {v q} (h : (ev T P n).e sc loc v ph = some (.none, ph1)) (hc : isComp v = false) : (ev T P (n + 1)).s sc loc (.Expr v q) ph = some (.next, loc, ph1) := by
  show sExpr _ sc loc v ph = _
  unfold sExpr; rw [hc]; dsimp only; rw [h]
theorem e_call {x p args pos vs f o} (h1 : nameP T sc loc x = some (.con (.ref f))) (h2 : nameFits [] args = true) (h3 : argsP (ev T P (n + 1)) sc loc args ph = some (vs, ph1)) (h4 : (ev T P (n + 1)).c f vs ph1 = o) : (ev T P (n + 2)).e sc loc (.Call (.Name x p) args [] pos) ph = o := by
  show callP (ev T P (n + 1)) T P sc loc (.Name x p) args [] pos ph = o
  unfold callP; dsimp only; rw [h2]; dsimp only
  unfold callName
  rw [show (ev T P (n + 1)).e sc loc (.Name x p) ph = some (.con (.ref f), ph) from ?_]
  · dsimp only; rw [h3]; dsimp only
    exact h4
  · show eName T sc loc x ph = _
    unfold eName; rw [h1]
theorem a_nil : argsP r sc loc [] ph = some ([], ph) := rfl
theorem a_cons {e es v vs} (h1 : r.e sc loc e ph = some (v, ph1)) (h2 : argsP r sc loc es ph1 = some (vs, ph2)) : argsP r sc loc (e :: es) ph = some (v :: vs, ph2) := by
  unfold argsP; rw [h1]; dsimp only; rw [h2]
theorem f_nil {bind : PV → Loc → Option Loc} {body} : forGo bind body [] loc ph = some (.next, loc, ph) := rfl
theorem f_cons {bind : PV → Loc → Option Loc} {body x xs o} (h1 : bind x loc = some loc1) (h2 : body loc1 ph = some (.next, loc', ph')) (h3 : forGo bind body xs loc' ph' = o) : forGo bind body (x :: xs) loc ph = o := by
  unfold forGo; rw [h1]; dsimp only; rw [h2]; exact h3
theorem f_ret {bind : PV → Loc → Option Loc} {body x xs v} (h1 : bind x loc = some loc1) (h2 : body loc1 ph = some (.ret v, loc', ph')) : forGo bind body (x :: xs) loc ph = some (.ret v, loc', ph') := by
  unfold forGo; rw [h1]; dsimp only; rw [h2]
theorem f_brk {bind : PV → Loc → Option Loc} {body x xs} (h1 : bind x loc = some loc1) (h2 : body loc1 ph = some (.brk, loc', ph')) : forGo bind body (x :: xs) loc ph = some (.next, loc', ph') := by
  unfold forGo; rw [h1]; dsimp only; rw [h2]
theorem w_stop {test : Loc → List PO → Res Bool} {body k} (h : test loc ph = some (false, ph1)) : whileGo test body (k + 1) loc ph = some (.next, loc, ph1) := by
  unfold whileGo; rw [h]
theorem w_go {test : Loc → List PO → Res Bool} {body k o} (h : test loc ph = some (true, ph1)) (hb : body loc ph1 = some (.next, loc1, ph2)) (h3 : whileGo test body k loc1 ph2 = o) : whileGo test body (k + 1) loc ph = o := by
  unfold whileGo; rw [h]; dsimp only; rw [hb]; exact h3
theorem e_slice {o lo hi p q ov lv hv l h v} {ph3 : List PO} (h1 : (ev T P n).e sc loc o ph = some (ov, ph1)) (h2 : optP (ev T P n) sc loc lo ph1 = some (lv, ph2)) (h3 : optP (ev T P n) sc loc hi ph2 = some (hv, ph3)) (h4 : partP lv = some l) (h5 : partP hv = some h) (h6 : sliceP ov l h ph3 = some v) :
    (ev T P (n + 1)).e sc loc (.Subscript o (.Slice lo hi none p) q) ph = some (v, ph3) := by
  show eSlice _ sc loc o lo hi none ph = _
  unfold eSlice; dsimp only; rw [h1]; dsimp only; rw [h2]; dsimp only; rw [h3]; dsimp only; rw [h4, h5]; dsimp only; rw [h6]
theorem e_item {o i q ov iv v} {ph2 : List PO} (hi : sliceOf i = none) (h1 : (ev T P n).e sc loc o ph = some (ov, ph1)) (h2 : (ev T P n).e sc loc i ph1 = some (iv, ph2)) (h6 : itemP ov iv ph2 = some v) :
    (ev T P (n + 1)).e sc loc (.Subscript o i q) ph = some (v, ph2) := by
  show eSub _ sc loc o i ph = _
  unfold eSub; rw [hi]; dsimp only
  unfold eItem; rw [h1]; dsimp only; rw [h2]; dsimp only; rw [h6]
theorem e_bin {a op b q x y v} {ph2 : List PO} (h1 : (ev T P n).e sc loc a ph = some (x, ph1)) (h2 : (ev T P n).e sc loc b ph1 = some (y, ph2)) (h6 : binP op x y ph2 = some v) :
    (ev T P (n + 1)).e sc loc (.BinOp a op b q) ph = some (v, ph2) := by
  show eBin _ sc loc a op b ph = _
  unfold eBin; rw [h1]; dsimp only; rw [h2]; dsimp only; rw [h6]
theorem e_cmp {a op b q x y v} {ph2 : List PO} (h1 : (ev T P n).e sc loc a ph = some (x, ph1)) (h2 : (ev T P n).e sc loc b ph1 = some (y, ph2)) (h6 : cmpP op x y ph2 = some v) :
    (ev T P (n + 1)).e sc loc (.Compare a [op] [b] q) ph = some (.bool v, ph2) := by
  show eCmp _ sc loc a [op] [b] ph = _
  unfold eCmp cmpE; dsimp only; rw [h1]; dsimp only; rw [h2]; dsimp only; rw [h6]
theorem t_cmp {a op b q x y v} {ph2 : List PO} (h1 : (ev T P n).e sc loc a ph = some (x, ph1)) (h2 : (ev T P n).e sc loc b ph1 = some (y, ph2)) (h6 : cmpP op x y ph2 = some v) :
    (ev T P (n + 1)).t sc loc (.Compare a [op] [b] q) ph = some (v, ph2) := by
  show cmpE _ sc loc a [op] [b] ph = _
  unfold cmpE; dsimp only; rw [h1]; dsimp only; rw [h2]; dsimp only; rw [h6]
theorem t_sub {o i q v b} (h1 : (ev T P (n + 1)).e sc loc (.Subscript o i q) ph = some (v, ph1)) (h2 : truthP v = some b) : (ev T P (n + 1)).t sc loc (.Subscript o i q) ph = some (b, ph1) := by
  show tOf (eSub _ sc loc o i ph) = _
  rw [show eSub (ev T P n) sc loc o i ph = some (v, ph1) from h1]
  unfold tOf; dsimp only; rw [h2]
theorem t_bool {op vs q o} (h : allTrueP (ev T P n) sc loc op vs ph = o) : (ev T P (n + 1)).t sc loc (.BoolOp op vs q) ph = o := h
theorem t_not {x q b} (h : (ev T P n).t sc loc x ph = some (b, ph1)) : (ev T P (n + 1)).t sc loc (.UnaryOp .Not x q) ph = some (!b, ph1) := by
  show tNot _ sc loc .Not x ph = _
  unfold tNot; dsimp only; rw [h]
theorem at_cons {op b e es o} (h : r.t sc loc e ph = some (b, ph1)) (k : (match stops op b with | true => some (b, ph1) | false => allTrueP r sc loc op es ph1) = o) : allTrueP r sc loc op (e :: es) ph = o := by
  show (match r.t sc loc e ph with | some (b, ph) => (match stops op b with | true => some (b, ph) | false => allTrueP r sc loc op es ph) | none => none) = o
  rw [h]; exact k
theorem and_go {e es o} (h : r.t sc loc e ph = some (true, ph1)) (k : allTrueP r sc loc .And es ph1 = o) : allTrueP r sc loc .And (e :: es) ph = o := at_cons h k
theorem and_no {e es} (h : r.t sc loc e ph = some (false, ph1)) : allTrueP r sc loc .And (e :: es) ph = some (false, ph1) := at_cons h rfl
theorem or_go {e es o} (h : r.t sc loc e ph = some (false, ph1)) (k : allTrueP r sc loc .Or es ph1 = o) : allTrueP r sc loc .Or (e :: es) ph = o := at_cons h k
theorem or_yes {e es} (h : r.t sc loc e ph = some (true, ph1)) : allTrueP r sc loc .Or (e :: es) ph = some (true, ph1) := at_cons h rfl
theorem s_item {o i q v p y ov iv} {ph3 ph4 : List PO} (hi : sliceOf i = none) (hc : isComp v = false) (h0 : (ev T P n).e sc loc v ph = some (y, ph1)) (h1 : (ev T P n).e sc loc o ph1 = some (ov, ph2)) (h2 : (ev T P n).e sc loc i ph2 = some (iv, ph3)) (h3 : storeP ov iv y ph3 = some ph4) :
    (ev T P (n + 1)).s sc loc (.Assign [.Subscript o i p] v q) ph = some (.next, loc, ph4) := by
  have : sSub (ev T P n) P sc loc o i v ph = sItem (ev T P n) sc loc o i v ph := by
    unfold sSub; rw [hi]; dsimp only; rw [hc]
  show sSub _ P sc loc o i v ph = _
  rw [this]
  unfold sItem; rw [h0]; dsimp only; rw [h1]; dsimp only; rw [h2]; dsimp only; rw [h3]
theorem s_whole {o qq q v p ys m xs} {ph2 : List PO} (h0 : (ev T P n).e sc loc v ph = some (.lst ys, ph1)) (h1 : (ev T P n).e sc loc o ph1 = some (.obj m, ph2)) (h2 : listAt ph2 m = some xs) (h3 : (Nat.ble xs.length 1000 && Nat.ble ys.length 1000) = true) :
    (ev T P (n + 1)).s sc loc (.Assign [.Subscript o (.Slice none none none qq) q] v p) ph = some (.next, loc, ph2.set m (.list ys)) := by
  show sWhole _ sc loc o true v ph = _
  unfold sWhole; dsimp only; rw [h0]; dsimp only [asLst]; rw [h1]; dsimp only [asObj]; rw [h2]; dsimp only; rw [h3]
theorem s_del {o i q p k f iv w} {ph2 ph3 : List PO} (h1 : (ev T P n).e sc loc o ph = some (.hdr k, ph1)) (h2 : (ev T P n).e sc loc i ph1 = some (iv, ph2)) (hf : look nDelitem T.met = some f) (h3 : (ev T P n).c f [.hdr k, iv] ph2 = some (w, ph3)) :
    (ev T P (n + 1)).s sc loc (.Delete [.Subscript o i q] p) ph = some (.next, loc, ph3) := by
  show sDelOne _ T sc loc o i ph = _
  unfold sDelOne; rw [h1]; dsimp only [asHdr]; rw [h2]; dsimp only; rw [hf]; dsimp only; rw [h3]
theorem s_two {x z v p p' q y} (h : (ev T P n).e sc loc v ph = some (y, ph1)) (hs : (storable sc x && storable sc z && !isComp v) = true) : (ev T P (n + 1)).s sc loc (.Assign [.Name x p, .Name z p'] v q) ph = some (.next, setL z y (setL x y loc), ph1) := by
  show sTwo _ sc loc (.Name x p) (.Name z p') v ph = _
  unfold sTwo; dsimp only [nameOf_N]; rw [h]; dsimp only; rw [hs]
theorem e_bi {x p args pos vs b o} (h1 : nameP T sc loc x = some (.bi b)) (h2 : nameFits [] args = true) (h3 : argsP (ev T P (n + 1)) sc loc args ph = some (vs, ph1)) (h4 : callBi P b vs ph1 = o) : (ev T P (n + 2)).e sc loc (.Call (.Name x p) args [] pos) ph = o := by
  show callP (ev T P (n + 1)) T P sc loc (.Name x p) args [] pos ph = o
  unfold callP; dsimp only; rw [h2]; dsimp only
  unfold callName
  rw [show (ev T P (n + 1)).e sc loc (.Name x p) ph = some (.bi b, ph) from ?_]
  · dsimp only; rw [h3]; dsimp only
    exact h4
  · show eName T sc loc x ph = _
    unfold eName; rw [h1]
theorem src_plain {tgt e v xs m} (hz : zipArgs T sc e = none) (h1 : r.e sc loc e ph = some (v, ph1)) (h2 : itemsOf v ph1 = some (xs, m)) : srcP r T sc loc tgt e ph = some (xs, m, ph1) := by
  unfold srcP
  rw [hz]; dsimp only; rw [h1]; dsimp only; rw [h2]
end
noncomputable abbrev idx (k n : Nat) : List PV := (List.range' k n).map fun i : Nat => .int (i : Int)
theorem rng_idx {k : Nat} : rngItems 0 (k : Int) 1 = idx 0 k := by
  unfold rngItems idx
  have : (Builtin.Range.rangeSize 0 (k : Int) 1).toNat = k := by
    unfold Builtin.Range.rangeSize
    simp
    omega
  rw [this, List.range_eq_range']
  refine List.map_congr_left fun i j9 => ?_
  congr 1; omega
theorem items_rng {k : Nat} {ph : List PO} (h : k ≤ 1000) : itemsOf (.rng 0 (k : Int) 1) ph = some (idx 0 k, none) := by
  have e : itemsF (.rng 0 (k : Int) 1) = some (idx 0 k) := by
    show (match smallJ 0 && smallJ (k : Int) && (1 : Int) == 1 with | true => some (rngItems 0 (k : Int) 1) | false => none) = _
    rw [show smallJ (k : Int) = true from by unfold smallJ; simp; omega, rng_idx]
    rfl
  unfold itemsOf; rw [e]
theorem len_st {P : PrimT} {l : List Nat} {ph : List PO} (h : l.length ≤ 1000) : callBi P .len [.str ⟨l.toArray⟩] ph = some (.int l.length, ph) := by
  show (match Nat.ble l.length 1000000 with | true => some (PV.int l.length, ph) | false => none) = _
  rw [Nat.ble_eq.mpr (by omega)]
theorem mul2 {k : Int} {ph : List PO} (h : k.natAbs < 1000000) : binP .Mult (.int k) (.int 2) ph = some (.int (k * 2)) := by
  show (match (match smallI k with | true => some (k * 2) | false => none) with | some k => some (PV.int k) | none => none) = _
  rw [show smallI k = true from by unfold smallI; simp; omega]
theorem mul2' {k : Int} {ph : List PO} (h : k.natAbs < 1000000) : binP .Mult (.int 2) (.int k) ph = some (.int (2 * k)) := by
  rfl
noncomputable abbrev st (l : List Nat) : Str := ⟨l.toArray⟩
theorem sEq_st {a b : List Nat} : sEq (st a) (st b) = natsEq a b := rfl
theorem truth_st {l : List Nat} (h : l.length ≤ 1000) : truthP (.str (st l)) = some (!l.isEmpty) := by
  cases l with
  | nil => rfl
  | cons x l =>
    show (match Nat.ble l.length 1000 with | true => some true | false => none) = _
    rw [Nat.ble_eq.mpr (by simp at h; omega)]; rfl
theorem slice_from {l : List Nat} {k : Nat} {ph : List PO} (h : l.length ≤ 1000) (hk : k ≤ l.length) : sliceP (.str (st l)) (some (k : Int)) none ph = some (.str (st (l.drop k))) := by
  show (match Nat.ble l.length 1000 with | true => some (PV.str (Txt.slice (st l) (some (k : Int)) none)) | false => none) = _
  rw [Nat.ble_eq.mpr h]
  dsimp only
  rw [show Txt.slice (st l) (some (k : Int)) none = _ from StrLaws.sliceText_from (x := st l) (i := k) ⟨by omega, by simpa using hk⟩]
  simp only [List.toList_toArray, Int.toNat_natCast]
  rw [show ((l.length : Int) - (k : Int)).toNat = l.length - k by omega, List.take_of_length_le (by simp)]
theorem slice_all {l : List Nat} {ph : List PO} (h : l.length ≤ 1000) : sliceP (.str (st l)) none none ph = some (.str (st l)) := by
  show (match Nat.ble l.length 1000 with | true => some (PV.str (Txt.slice (st l) none none)) | false => none) = _
  rw [Nat.ble_eq.mpr h]
  dsimp only
  have : Txt.slice (st l) none none = Txt.slice (st l) (some ((0 : Nat) : Int)) none := rfl
  rw [this, show Txt.slice (st l) (some ((0 : Nat) : Int)) none = _ from StrLaws.sliceText_from (x := st l) (i := ((0 : Nat) : Int)) ⟨by omega, by simp⟩]
  simp
theorem slice_upto {l : List Nat} {k : Nat} {ph : List PO} (h : l.length ≤ 1000) (h0 : 0 < k) (hk : k ≤ l.length) : sliceP (.str (st l)) none (some (-(k : Int))) ph = some (.str (st (l.take (l.length - k)))) := by
  show (match Nat.ble l.length 1000 with | true => some (PV.str (Txt.slice (st l) none (some (-(k : Int))))) | false => none) = _
  rw [Nat.ble_eq.mpr h]
  dsimp only
  rw [show Txt.slice (st l) none (some (-(k : Int))) = _ from StrLaws.sliceText_to_neg (x := st l) (j := -(k : Int)) (by omega) (by show -((l.toArray.size : Nat) : Int) ≤ _; simp; omega)]
  have : (-(k : Int) + (st l).length - 0).toNat = l.length - k := by
    show (-(k : Int) + ((l.toArray.size : Nat) : Int) - 0).toNat = _
    simp; omega
  rw [this]
  simp
theorem item_nat {l : List Nat} {k x : Nat} {ph : List PO} (hk : l[k]? = some x) (h : k < 1000) : itemP (.str (st l)) (.int (k : Int)) ph = some (.str (st [x])) := by
  show (match smallI k with | false => none | true => match atP l (k : Int) with | some c => some (PV.str ⟨#[c]⟩) | none => none) = _
  rw [show smallI (k : Int) = true from by unfold smallI; simp; omega]
  dsimp only
  unfold atP
  rw [if_pos (by omega)]
  simp [hk]
theorem item_neg {l : List Nat} {k x : Nat} {ph : List PO} (hk : l[l.length - k]? = some x) (h : k < 1000) (h0 : 0 < k) (h1 : k ≤ l.length) : itemP (.str (st l)) (.int (-(k : Int))) ph = some (.str (st [x])) := by
  show (match smallI (-(k : Int)) with | false => none | true => match atP l (-(k : Int)) with | some c => some (PV.str ⟨#[c]⟩) | none => none) = _
  rw [show smallI (-(k : Int)) = true from by unfold smallI; simp; omega]
  dsimp only
  unfold atP
  rw [if_neg (by omega), if_pos (by omega)]
  have : (-(k : Int) + (l.length : Int)).toNat = l.length - k := by omega
  rw [this, hk]
noncomputable def IsS (v : PV) (l : List Nat) : Prop := v = .str (st l) ∨ v = .strg (st l)
theorem IsS.str {l : List Nat} : IsS (.str (st l)) l := .inl rfl
theorem IsS.strg {l : List Nat} : IsS (.strg (st l)) l := .inr rfl
theorem IsS.asStr {v : PV} {l : List Nat} (h : IsS v l) : v.asStr = some (st l) := by
  rcases h with rfl | rfl <;> rfl
theorem IsS.from {v : PV} {l : List Nat} {k : Nat} {ph : List PO} (h : IsS v l) (hl : l.length ≤ 1000) (hk : k ≤ l.length) : sliceP v (some (k : Int)) none ph = some (.str (st (l.drop k))) := by
  rcases h with rfl | rfl
  · exact slice_from hl hk
  · exact slice_from (ph := ph) hl hk
theorem IsS.nat {v : PV} {l : List Nat} {k x : Nat} {ph : List PO} (h : IsS v l) (hk : l[k]? = some x) (h1 : k < 1000) : itemP v (.int (k : Int)) ph = some (.str (st [x])) := by
  rcases h with rfl | rfl
  · exact item_nat hk h1
  · exact item_nat (ph := ph) hk h1
theorem IsS.eq {u v : PV} {a b : List Nat} {ph : List PO} (h : IsS u a) (h' : IsS v b) : cmpP .Eq u v ph = some (natsEq a b) := by
  rcases h with rfl | rfl <;> rcases h' with rfl | rfl <;> rfl
theorem IsS.ne {u v : PV} {a b : List Nat} {ph : List PO} (h : IsS u a) (h' : IsS v b) : cmpP .NotEq u v ph = some (!natsEq a b) := by
  rcases h with rfl | rfl <;> rcases h' with rfl | rfl <;> rfl
theorem IsS.truth {v : PV} {l : List Nat} (h : IsS v l) (hl : l.length ≤ 1000) : truthP v = some (!l.isEmpty) := by
  rcases h with rfl | rfl
  · exact truth_st hl
  · exact truth_st hl
section
variable {T : Top} {P : PrimT} {n : Nat} {sc : Scope} {loc loc' loc1 : Loc} {ph ph' ph1 ph2 : List PO} {r : Ev}
theorem it_yes {bind : PV → Loc → Option Loc} {test : Loc → List PO → Res Bool} {inner : Loc → List PV → List PO → CRes} {x xs acc acc2 loc2 ph3 o} (h1 : bind x loc = some loc1) (h2 : test loc1 ph = some (true, ph1)) (h3 : inner loc1 acc ph1 = some (loc2, acc2, ph3)) (h4 : itemsGo bind test inner xs loc2 acc2 ph3 = o) : itemsGo bind test inner (x :: xs) loc acc ph = o := by
  show (match bind x loc with | some loc => (match test loc ph with | some (true, ph) => (match inner loc acc ph with | some (loc, acc, ph) => itemsGo bind test inner xs loc acc ph | none => none) | some (false, ph) => itemsGo bind test inner xs loc acc ph | none => none) | none => none) = o
  rw [h1]; dsimp only; rw [h2]; dsimp only; rw [h3]; exact h4
theorem it_no {bind : PV → Loc → Option Loc} {test : Loc → List PO → Res Bool} {inner : Loc → List PV → List PO → CRes} {x xs acc o} (h1 : bind x loc = some loc1) (h2 : test loc1 ph = some (false, ph1)) (h4 : itemsGo bind test inner xs loc1 acc ph1 = o) : itemsGo bind test inner (x :: xs) loc acc ph = o := by
  show (match bind x loc with | some loc => (match test loc ph with | some (true, ph) => (match inner loc acc ph with | some (loc, acc, ph) => itemsGo bind test inner xs loc acc ph | none => none) | some (false, ph) => itemsGo bind test inner xs loc acc ph | none => none) | none => none) = o
  rw [h1]; dsimp only; rw [h2]; exact h4
theorem items_gen {α : Type} {bind : PV → Loc → Option Loc} {test : Loc → List PO → Res Bool} {inner : Loc → List PV → List PO → CRes} (F : Loc → Prop) (g : α → PV) (f : α → List PV) : ∀ (xs : List α) (loc : Loc) (acc : List PV), acc.length + (xs.flatMap f).length ≤ 1000 → F loc →
    (∀ x ∈ xs, ∀ loc, F loc → ∃ loc1, bind (g x) loc = some loc1 ∧ ((test loc1 ph = some (true, ph) ∧ ∀ acc : List PV, acc.length + (f x).length ≤ 1000 → ∃ loc2, F loc2 ∧ inner loc1 acc ph = some (loc2, acc ++ f x, ph)) ∨ (test loc1 ph = some (false, ph) ∧ f x = [] ∧ F loc1))) →
    ∃ loc', F loc' ∧ itemsGo bind test inner (xs.map g) loc acc ph = some (loc', acc ++ xs.flatMap f, ph)
  | [], loc, acc, _, h0, _ => ⟨loc, h0, by rw [List.flatMap_nil, List.append_nil]; rfl⟩
  | x :: xs, loc, acc, hl, h0, h' => by
    rw [List.flatMap_cons, List.length_append, ← Nat.add_assoc] at hl
    rw [List.flatMap_cons, ← List.append_assoc]
    obtain ⟨loc1, h1, h | ⟨h2, h3, h4⟩⟩ := h' x List.mem_cons_self loc h0
    · obtain ⟨h2, h3⟩ := h
      obtain ⟨loc2, h4, h5⟩ := h3 acc (Nat.le_trans (Nat.le_add_right _ _) hl)
      obtain ⟨l2, w0, w⟩ := items_gen F g f xs loc2 (acc ++ f x) (by rw [List.length_append]; exact hl) h4 fun y m => h' y (List.mem_cons_of_mem _ m)
      exact ⟨l2, w0, it_yes h1 h2 h5 w⟩
    · rw [h3, List.append_nil]
      rw [h3] at hl
      obtain ⟨l2, w0, w⟩ := items_gen F g f xs loc1 acc hl h4 fun y m => h' y (List.mem_cons_of_mem _ m)
      exact ⟨l2, w0, it_no h1 h2 w⟩
theorem lc_gen {α : Type} {elt tgt it ifs gs csc pos m} {xs : List α} (g : α → PV) (hok : (!scOk csc || !capOk sc loc csc.names) = false) (hs : srcP (ev T P n) T sc loc tgt it ph = some (xs.map g, m, ph1)) (hu : unlockP m (xs.map g) (lockP m ph1) = some ph1) (F : Loc → Prop) (f : α → List PV) (hlen : (xs.flatMap f).length ≤ 1000) (h0 : F (captured csc loc))
    (h : ∀ x ∈ xs, ∀ loc, F loc → ∃ loc1, bindT csc tgt (g x) loc = some loc1 ∧ ((testsP (ev T P n) csc loc1 ifs (lockP m ph1) = some (true, lockP m ph1) ∧ ∀ acc : List PV, acc.length + (f x).length ≤ 1000 → ∃ loc2, F loc2 ∧ compGo (ev T P n) T csc elt gs loc1 acc (lockP m ph1) = some (loc2, acc ++ f x, lockP m ph1)) ∨ (testsP (ev T P n) csc loc1 ifs (lockP m ph1) = some (false, lockP m ph1) ∧ f x = [] ∧ F loc1))) :
    (ev T P (n + 1)).e sc loc (.ListComp elt (⟨tgt, it, ifs, 0⟩ :: gs) csc pos) ph = some (.lst (xs.flatMap f), ph1) := by
  show (match ((0 : Int) != 0) || !scOk csc || !capOk sc loc csc.names with
    | true => none
    | false => compOne (ev T P n) T sc loc elt tgt it ifs gs csc ph) = _
  rw [show (((0 : Int) != 0) || !scOk csc || !capOk sc loc csc.names) = false from hok]
  dsimp only
  unfold compOne
  rw [hs]
  dsimp only
  unfold clauseGo
  obtain ⟨l2, _, w⟩ := items_gen (bind := bindT csc tgt) (test := fun loc ph => testsP (ev T P n) csc loc ifs ph) (inner := compGo (ev T P n) T csc elt gs) (ph := lockP m ph1) F g f xs (captured csc loc) [] (by rw [List.length_nil, Nat.zero_add]; exact hlen) h0 h
  rw [w]
  dsimp only
  rw [hu]; rfl
theorem comp_one {csc elt v acc} (h : (ev T P n).e csc loc elt ph = some (v, ph1)) (hl : acc.length + 1 ≤ 1000) : compGo (ev T P n) T csc elt [] loc acc ph = some (loc, acc ++ [v], ph1) := by
  show (match Nat.ble acc.length 1000 with | true => (match (ev T P n).e csc loc elt ph with | some (v, ph) => some (loc, acc ++ [v], ph) | none => none) | false => none) = _
  rw [Nat.ble_eq.mpr (Nat.le_of_succ_le hl)]; dsimp only; rw [h]
theorem flat_filter {α β : Type} (t : α → Bool) (f : α → β) : ∀ xs : List α, xs.flatMap (fun x => bif t x then [f x] else []) = (xs.filter t).map f
  | [] => rfl
  | x :: xs => by
    rw [List.flatMap_cons, List.filter_cons, flat_filter t f xs]
    cases t x <;> rfl
theorem lc_filterA {α : Type} {elt tgt it ifs csc pos m} {xs : List α} (g : α → PV) (hok : (!scOk csc || !capOk sc loc csc.names) = false) (hs : srcP (ev T P n) T sc loc tgt it ph = some (xs.map g, m, ph1)) (hu : unlockP m (xs.map g) (lockP m ph1) = some ph1) (hlen : xs.length ≤ 1000) (F : Loc → Prop) (t : α → Bool) (f : α → PV) (h0 : F (captured csc loc))
    (h : ∀ x ∈ xs, ∀ loc, F loc → ∃ loc', bindT csc tgt (g x) loc = some loc' ∧ F loc' ∧ testsP (ev T P n) csc loc' ifs (lockP m ph1) = some (t x, lockP m ph1) ∧ (t x = true → (ev T P n).e csc loc' elt (lockP m ph1) = some (f x, lockP m ph1))) :
    (ev T P (n + 1)).e sc loc (.ListComp elt [⟨tgt, it, ifs, 0⟩] csc pos) ph = some (.lst ((xs.filter t).map f), ph1) := by
  rw [← flat_filter]
  refine lc_gen g hok hs hu F _ (by rw [flat_filter, List.length_map]; exact Nat.le_trans (List.length_filter_le _ _) hlen) h0 fun x hx loc hF => ?_
  obtain ⟨loc', a1, a2, a3, a4⟩ := h x hx loc hF
  refine ⟨loc', a1, ?_⟩
  cases q : t x with
  | true => exact .inl ⟨q ▸ a3, fun acc hl => ⟨loc', a2, comp_one (a4 q) hl⟩⟩
  | false => exact .inr ⟨q ▸ a3, rfl, a2⟩
theorem lc_filter {elt tgt it ifs csc pos xs m} (hok : (!scOk csc || !capOk sc loc csc.names) = false) (hs : srcP (ev T P n) T sc loc tgt it ph = some (xs, m, ph1)) (hu : unlockP m xs (lockP m ph1) = some ph1) (hlen : xs.length ≤ 1000) (F : Loc → Prop) (t : PV → Bool) (f : PV → PV) (h0 : F (captured csc loc))
    (h : ∀ x ∈ xs, ∀ loc, F loc → ∃ loc', bindT csc tgt x loc = some loc' ∧ F loc' ∧ testsP (ev T P n) csc loc' ifs (lockP m ph1) = some (t x, lockP m ph1) ∧ (t x = true → (ev T P n).e csc loc' elt (lockP m ph1) = some (f x, lockP m ph1))) :
    (ev T P (n + 1)).e sc loc (.ListComp elt [⟨tgt, it, ifs, 0⟩] csc pos) ph = some (.lst ((xs.filter t).map f), ph1) :=
  lc_filterA id hok ((List.map_id xs).symm ▸ hs) ((List.map_id xs).symm ▸ hu) hlen F t f h0 h
theorem src_zip {tgt e args vs ls} (hz : zipArgs T sc e = some args) (ha : argsP r sc loc args ph = some (vs, ph1)) (hu : mapO frozenItems vs = some ls) (ht : (isTupT tgt && !args.any isStar && (Nat.beq ls.length 2 || Nat.beq ls.length 3)) = true) :
    srcP r T sc loc tgt e ph = some (zipAll ls, none, ph1) := by
  unfold srcP
  rw [hz]; dsimp only
  unfold zipSrc
  rw [ha]; dsimp only
  rw [hu]; dsimp only; rw [ht]
theorem e_if {t a b p c o} (ht : (ev T P n).t sc loc t ph = some (c, ph1)) (h1 : c = true → (ev T P n).e sc loc a ph1 = o) (h2 : c = false → (ev T P n).e sc loc b ph1 = o) : (ev T P (n + 1)).e sc loc (.IfExp t a b p) ph = o := by
  show eIf _ sc loc t a b ph = o
  unfold eIf; rw [ht]; dsimp only
  cases c
  · exact h2 rfl
  · exact h1 rfl
theorem e_mk {o apos args pos v k w vs kvs} {kws : List Keyword} {name : Str} {ph3 : List PO} (hr : nEq name nReplace = false) (hf : (methFits o apos pos args && Nat.blt kws.length 10) = true) (h1 : (ev T P (n + 1)).e sc loc o ph = some (v, ph1)) (hm : getM T v name ph1 = some k) (ha : argsP (ev T P (n + 1)) sc loc args ph1 = some (vs, ph2)) (hk : kwP (ev T P (n + 1)) sc loc kws ph2 = some (kvs, ph3)) (hc : runM (ev T P (n + 1)) P k v name vs kvs ph3 = w) :
    (ev T P (n + 2)).e sc loc (.Call (.Attribute o name apos) args kws pos) ph = w := by
  show callP (ev T P (n + 1)) T P sc loc (.Attribute o name apos) args kws pos ph = _
  unfold callP; dsimp only; rw [hf]; dsimp only
  unfold callMeth; rw [h1]; dsimp only
  rw [hm]; dsimp only
  unfold methArgs; rw [ha]; dsimp only; rw [hk]; exact hc
theorem getM_s {v l} {name : Str} (hv : IsS v l) (hs : isStrName name = true) : getM T v name ph = some (.str (st l)) := by
  unfold getM; rw [hv.asStr]; dsimp only; unfold getStr; rw [hs]
theorem e_lower {o apos args kws pos v l} {name : Str} (hn : nEq name nLower = true) (hr : nEq name nReplace = false) (hs : isStrName name = true) (hf : (methFits o apos pos args && Nat.blt kws.length 10) = true) (h1 : (ev T P (n + 1)).e sc loc o ph = some (v, ph1)) (hv : IsS v l) (ha : args = []) (hk : kws = []) (hc : lowerOk (st l) = true) :
    (ev T P (n + 2)).e sc loc (.Call (.Attribute o name apos) args kws pos) ph = some (.strg (Txt.lower (st l)), ph1) := by
  subst ha hk
  refine e_mk hr hf h1 (getM_s hv hs) rfl rfl ?_
  show metStr _ name [] [] ph1 = _
  unfold metStr strMeth caseP; dsimp only; rw [hn]; dsimp only; rw [hc]
theorem e_upper {o apos args kws pos v l} {name : Str} (hl : nEq name nLower = false) (hn : nEq name nUpper = true) (hr : nEq name nReplace = false) (hs : isStrName name = true) (hf : (methFits o apos pos args && Nat.blt kws.length 10) = true) (h1 : (ev T P (n + 1)).e sc loc o ph = some (v, ph1)) (hv : IsS v l) (ha : args = []) (hk : kws = []) (hc : lowerOk (st l) = true) :
    (ev T P (n + 2)).e sc loc (.Call (.Attribute o name apos) args kws pos) ph = some (.strg (Txt.upper (st l)), ph1) := by
  subst ha hk
  refine e_mk hr hf h1 (getM_s hv hs) rfl rfl ?_
  show metStr _ name [] [] ph1 = _
  unfold metStr strMeth caseP; dsimp only; rw [hl]; dsimp only; rw [hn]; dsimp only; rw [hc]
theorem e_meth {o apos args pos v vs f o'} {name : Str} (hr : nEq name nReplace = false) (hf : (methFits o apos pos args && Nat.blt 0 10) = true) (h1 : (ev T P (n + 1)).e sc loc o ph = some (v, ph1)) (hg : getM T v name ph1 = some (.fn f)) (ha : argsP (ev T P (n + 1)) sc loc args ph1 = some (vs, ph2)) (hc : (ev T P (n + 1)).c f (v :: vs) ph2 = o') :
    (ev T P (n + 2)).e sc loc (.Call (.Attribute o name apos) args [] pos) ph = o' := e_mk hr hf h1 hg ha rfl hc
end
end Mine.Internal.Pl
end
section
open PySem PySem.W PyProof.Rows
namespace Mine.Internal.Pl
open PySem.Challenge
set_option maxRecDepth 100000
set_option maxHeartbeats 0
noncomputable def fn0 : FnD := ⟨[], [], [], { kind := .function, names := [], isGenerator := false, isCoroutine := false }⟩
set_option tactic.hygienic true in
noncomputable def stD (s : Stmt) : List Stmt × Arguments × FnD := by
  cases s
  case FunctionDef n args body d r tp sc ts b p => exact ([], args, ⟨args.args.map (·.arg), [], body, sc⟩)
  case ClassDef n b k body d tp sc ts bd sa p => exact (body, default, fn0)
  all_goals exact ([], default, fn0)
noncomputable def stN (b : List Stmt) (k : Nat) : Stmt := b.getD k (.Pass ⟨0, 0, 0, 0⟩)
noncomputable def fnD (b : List Stmt) (n : Nat) (df : List PV) : FnD := { (stD (stN b n)).2.2 with dflt := df }
noncomputable def clD (b : List Stmt) (n k : Nat) (df : List PV) : FnD := fnD (stD (stN b n)).1 k df
noncomputable abbrev B : List Stmt := pw_tc0054_01.main.body
noncomputable def qSub : { d : FnD // fnD B 9 [] = d } := by
  have h : fnD B 9 [] = fnD B 9 [] := rfl
  conv at h => rhs; reduce
  exact ⟨_, h⟩
noncomputable abbrev dSub : FnD := qSub.1
noncomputable def qLev : { d : FnD // fnD B 10 [] = d } := by
  have h : fnD B 10 [] = fnD B 10 [] := rfl
  conv at h => rhs; reduce
  exact ⟨_, h⟩
noncomputable abbrev dLev : FnD := qLev.1
noncomputable def qWord : { d : FnD // fnD B 18 [] = d } := by
  have h : fnD B 18 [] = fnD B 18 [] := rfl
  conv at h => rhs; reduce
  exact ⟨_, h⟩
noncomputable abbrev dWord : FnD := qWord.1
noncomputable def qTurn : { d : FnD // fnD B 19 [] = d } := by
  have h : fnD B 19 [] = fnD B 19 [] := rfl
  conv at h => rhs; reduce
  exact ⟨_, h⟩
noncomputable abbrev dTurn : FnD := qTurn.1
noncomputable def qCost : { d : FnD // fnD B 20 [] = d } := by
  have h : fnD B 20 [] = fnD B 20 [] := rfl
  conv at h => rhs; reduce
  exact ⟨_, h⟩
noncomputable abbrev dCost : FnD := qCost.1
noncomputable def qRanks : { d : FnD // fnD B 21 [] = d } := by
  have h : fnD B 21 [] = fnD B 21 [] := rfl
  conv at h => rhs; reduce
  exact ⟨_, h⟩
noncomputable abbrev dRanks : FnD := qRanks.1
noncomputable def qPaired : { d : FnD // fnD B 22 [] = d } := by
  have h : fnD B 22 [] = fnD B 22 [] := rfl
  conv at h => rhs; reduce
  exact ⟨_, h⟩
noncomputable abbrev dPaired : FnD := qPaired.1
noncomputable def qWays : { d : FnD // fnD B 23 [] = d } := by
  have h : fnD B 23 [] = fnD B 23 [] := rfl
  conv at h => rhs; reduce
  exact ⟨_, h⟩
noncomputable abbrev dWays : FnD := qWays.1
noncomputable def qSteady : { d : FnD // fnD B 24 [] = d } := by
  have h : fnD B 24 [] = fnD B 24 [] := rfl
  conv at h => rhs; reduce
  exact ⟨_, h⟩
noncomputable abbrev dSteady : FnD := qSteady.1
noncomputable def qLaw : { d : FnD // fnD B 25 [] = d } := by
  have h : fnD B 25 [] = fnD B 25 [] := rfl
  conv at h => rhs; reduce
  exact ⟨_, h⟩
noncomputable abbrev dLaw : FnD := qLaw.1
noncomputable def qGet : { d : FnD // clD B 16 8 [.none] = d } := by
  have h : clD B 16 8 [.none] = clD B 16 8 [.none] := rfl
  conv at h => rhs; reduce
  exact ⟨_, h⟩
noncomputable abbrev dGet : FnD := qGet.1
noncomputable def qKeys : { d : FnD // clD B 16 9 [] = d } := by
  have h : clD B 16 9 [] = clD B 16 9 [] := rfl
  conv at h => rhs; reduce
  exact ⟨_, h⟩
noncomputable abbrev dKeys : FnD := qKeys.1
noncomputable def qDel : { d : FnD // clD B 16 4 [] = d } := by
  have h : clD B 16 4 [] = clD B 16 4 [] := rfl
  conv at h => rhs; reduce
  exact ⟨_, h⟩
noncomputable abbrev dDel : FnD := qDel.1
noncomputable def tT : Top := {
  glob := [(⟨#[95, 77, 79, 86, 69, 95, 67, 79, 83, 84]⟩, .int 2), (⟨#[95, 67, 65, 83, 69, 95, 67, 79, 83, 84]⟩, .int 1), (⟨#[95, 77, 65, 88, 95, 83, 84, 82, 73, 78, 71, 95, 83, 73, 90, 69]⟩, .int 40), (⟨#[95, 115, 117, 98, 115, 116, 105, 116, 117, 116, 105, 111, 110, 95, 99, 111, 115, 116]⟩, .con (.ref 129)), (⟨#[95, 108, 101, 118, 101, 110, 115, 104, 116, 101, 105, 110, 95, 100, 105, 115, 116, 97, 110, 99, 101]⟩, .con (.ref 136)), (⟨#[95, 108, 97, 119, 95, 119, 111, 114, 100]⟩, .con (.ref 293)), (⟨#[95, 108, 97, 119, 95, 116, 117, 114, 110]⟩, .con (.ref 300)), (⟨#[95, 108, 97, 119, 95, 99, 111, 115, 116]⟩, .con (.ref 305)), (⟨#[95, 108, 97, 119, 95, 114, 97, 110, 107, 115]⟩, .con (.ref 312)), (⟨#[95, 108, 97, 119, 95, 112, 97, 105, 114, 101, 100]⟩, .con (.ref 317)), (⟨#[95, 108, 97, 119, 95, 119, 97, 121, 115]⟩, .con (.ref 322)), (⟨#[95, 108, 97, 119, 95, 115, 116, 101, 97, 100, 121]⟩, .con (.ref 327)), (⟨#[108, 101, 110]⟩, .bi .len), (⟨#[122, 105, 112]⟩, .bi .zip), (⟨#[109, 105, 110]⟩, .bi .min), (⟨#[115, 117, 109]⟩, .bi .sum), (⟨#[114, 97, 110, 103, 101]⟩, .bi .range), (⟨#[115, 111, 114, 116, 101, 100]⟩, .bi .sorted), (⟨#[108, 105, 115, 116]⟩, .bi .list), (⟨#[105, 110, 116]⟩, .bi .int), (⟨#[72, 101, 97, 100, 101, 114, 115]⟩, .con (.ref 282)), (⟨#[95, 65, 99, 99, 117, 109, 117, 108, 97, 116, 111, 114]⟩, .con (.ref 118)), (⟨#[116, 121, 112, 101]⟩, .con (.type "type")), (⟨#[115, 116, 114]⟩, .bi .str), (⟨#[95, 110, 97, 109, 101, 95, 100, 105, 115, 97, 108, 108, 111, 119, 101, 100, 95, 114, 101]⟩, .con (.ref 146)), (⟨#[95, 118, 97, 108, 117, 101, 95, 100, 105, 115, 97, 108, 108, 111, 119, 101, 100, 95, 114, 101]⟩, .con (.ref 151))],
  fn := [(129, dSub), (136, dLev), (293, dWord), (300, dTurn), (305, dCost), (312, dRanks), (317, dPaired), (322, dWays), (327, dSteady), (332, dLaw), (229, dGet), (234, dKeys), (200, dDel)],
  met := [(⟨#[103, 101, 116]⟩, 229), (⟨#[107, 101, 121, 115]⟩, 234), (⟨#[97, 100, 100, 95, 104, 101, 97, 100, 101, 114]⟩, 279), (⟨#[95, 99, 111, 110, 118, 101, 114, 116, 95, 115, 116, 114, 105, 110, 103, 95, 116, 121, 112, 101]⟩, 181), (⟨#[95, 95, 100, 101, 108, 105, 116, 101, 109, 95, 95]⟩, 200)],
  amet := [(⟨#[112, 117, 115, 104]⟩, 62), (⟨#[112, 111, 112]⟩, 78)], cA := 118, cH := 282 }
end Mine.Internal.Pl
end
section
open PySem PySem.W PySem.W.X PyProof.Rows
set_option maxRecDepth 100000
namespace Mine.Internal.K2
noncomputable abbrev mB : List Stmt := PySem.Challenge.pw_tc0054_01.main.body
noncomputable abbrev fdA (n : Nat) := (Pl.stD (Pl.stN mB n)).2.1
noncomputable abbrev cD (m n : Nat) := (Pl.stD (Pl.stN (Pl.stD (Pl.stN mB m)).1 n)).2
noncomputable abbrev fcA (m n : Nat) := (cD m n).1
noncomputable abbrev fcB (m n : Nat) := (cD m n).2.body
noncomputable abbrev fcS (m n : Nat) := (cD m n).2.scope
noncomputable abbrev e (P : Params) (x : Str) (t : Nat) (v : Value) : DictEntry := ⟨PyData.keyHash P x, .str x t, v⟩
noncomputable abbrev z0 : Str := ⟨#[47,99,108,97,105,109,47,99,117,116,46,112,121]⟩
noncomputable abbrev z1 : Str := ⟨#[99,112,121,51,49,51,46,119,115,103,105,114,101,102,46,104,101,97,100,101,114,115]⟩
noncomputable abbrev z2 : Str := ⟨#[95,108,101,118,101,110,115,104,116,101,105,110,95,100,105,115,116,97,110,99,101]⟩
noncomputable abbrev z3 : Str := ⟨#[108,97,119,95,116,99,48,48,53,52,95,48,49]⟩
noncomputable abbrev z4 : Str := ⟨#[95,115,117,98,115,116,105,116,117,116,105,111,110,95,99,111,115,116]⟩
noncomputable abbrev z5 : Str := ⟨#[99,112,121,51,49,51,46,101,109,97,105,108,46,104,101,97,100,101,114]⟩
noncomputable abbrev z6 : Str := ⟨#[95,99,111,110,118,101,114,116,95,115,116,114,105,110,103,95,116,121,112,101]⟩
noncomputable abbrev z7 : Str := ⟨#[95,65,99,99,117,109,117,108,97,116,111,114]⟩
noncomputable abbrev z8 : Str := ⟨#[95,108,97,119,95,112,97,105,114,101,100]⟩
noncomputable abbrev z9 : Str := ⟨#[95,108,97,119,95,115,116,101,97,100,121]⟩
noncomputable abbrev z10 : Str := ⟨#[72,101,97,100,101,114,115,46,95,99,111,110,118,101,114,116,95,115,116,114,105,110,103,95,116,121,112,101]⟩
noncomputable abbrev z11 : Str := ⟨#[95,108,97,119,95,114,97,110,107,115]⟩
noncomputable abbrev z12 : Str := ⟨#[95,95,105,110,105,116,95,95]⟩
noncomputable abbrev z13 : Str := ⟨#[95,108,97,119,95,119,111,114,100]⟩
noncomputable abbrev z14 : Str := ⟨#[95,108,97,119,95,116,117,114,110]⟩
noncomputable abbrev z15 : Str := ⟨#[95,108,97,119,95,99,111,115,116]⟩
noncomputable abbrev z16 : Str := ⟨#[95,108,97,119,95,119,97,121,115]⟩
noncomputable abbrev z17 : Str := ⟨#[95,65,99,99,117,109,117,108,97,116,111,114,46,112,97,114,116,95,99,111,117,110,116]⟩
noncomputable abbrev z18 : Str := ⟨#[95,95,119,101,97,107,114,101,102,95,95]⟩
noncomputable abbrev z19 : Str := ⟨#[95,95,115,116,97,116,105,99,95,97,116,116,114,105,98,117,116,101,115,95,95]⟩
noncomputable abbrev z20 : Str := ⟨#[95,65,99,99,117,109,117,108,97,116,111,114,46,95,95,105,110,105,116,95,95]⟩
noncomputable abbrev z21 : Str := ⟨#[72,101,97,100,101,114,115]⟩
noncomputable abbrev z22 : Str := ⟨#[72,101,97,100,101,114,115,46,95,95,100,101,108,105,116,101,109,95,95]⟩
noncomputable abbrev z23 : Str := ⟨#[72,101,97,100,101,114,115,46,97,100,100,95,104,101,97,100,101,114]⟩
noncomputable abbrev z24 : Str := ⟨#[95,65,99,99,117,109,117,108,97,116,111,114,46,112,117,115,104]⟩
noncomputable abbrev z25 : Str := ⟨#[95,95,100,101,108,105,116,101,109,95,95]⟩
noncomputable abbrev z26 : Str := ⟨#[95,65,99,99,117,109,117,108,97,116,111,114,46,112,111,112]⟩
noncomputable abbrev z27 : Str := ⟨#[95,95,100,105,99,116,95,95]⟩
noncomputable abbrev z28 : Str := ⟨#[112,97,114,116,95,99,111,117,110,116]⟩
noncomputable abbrev z29 : Str := ⟨#[97,100,100,95,104,101,97,100,101,114]⟩
noncomputable abbrev z30 : Str := ⟨#[72,101,97,100,101,114,115,46,95,95,105,110,105,116,95,95]⟩
noncomputable abbrev z31 : Str := ⟨#[95,95,102,105,114,115,116,108,105,110,101,110,111,95,95]⟩
noncomputable abbrev z32 : Str := ⟨#[99,112,121,51,49,51,46,116,114,97,99,101,98,97,99,107]⟩
noncomputable abbrev z33 : Str := ⟨#[95,95,100,111,99,95,95]⟩
noncomputable abbrev z34 : Str := ⟨#[95,95,99,108,97,115,115,95,95]⟩
noncomputable def o0 (P : Params) : Obj := { cls := .type "dict", data := .dict #[e P ⟨#[95,95,110,97,109,101,95,95]⟩ 1 (.str ⟨#[98,117,105,108,116,105,110,115]⟩ 160), e P z33 2 (.builtin "builtins.__doc__:str#opaque"), e P ⟨#[95,95,112,97,99,107,97,103,101,95,95]⟩ 3 (.builtin "builtins.__package__:str#opaque"), e P ⟨#[95,95,108,111,97,100,101,114,95,95]⟩ 4 (.builtin "builtins.__loader__:shared#opaque"), e P ⟨#[95,95,115,112,101,99,95,95]⟩ 5 (.builtin "builtins.__spec__#opaque"), e P ⟨#[95,95,98,117,105,108,100,95,99,108,97,115,115,95,95]⟩ 6 (.builtin "__build_class__"), e P ⟨#[95,95,105,109,112,111,114,116,95,95]⟩ 7 (.builtin "__import__"), e P ⟨#[97,98,115]⟩ 8 (.builtin "abs"), e P ⟨#[97,108,108]⟩ 9 (.builtin "all"), e P ⟨#[97,110,121]⟩ 10 (.builtin "any"), e P ⟨#[97,115,99,105,105]⟩ 11 (.builtin "ascii"), e P ⟨#[98,105,110]⟩ 12 (.builtin "bin"), e P ⟨#[98,114,101,97,107,112,111,105,110,116]⟩ 13 (.builtin "breakpoint"), e P ⟨#[99,97,108,108,97,98,108,101]⟩ 14 (.builtin "callable"), e P ⟨#[99,104,114]⟩ 15 (.builtin "chr"), e P ⟨#[99,111,109,112,105,108,101]⟩ 16 (.builtin "compile"), e P ⟨#[100,101,108,97,116,116,114]⟩ 17 (.builtin "delattr"), e P ⟨#[100,105,114]⟩ 18 (.builtin "dir"), e P ⟨#[100,105,118,109,111,100]⟩ 19 (.builtin "divmod"), e P ⟨#[101,118,97,108]⟩ 20 (.builtin "eval"), e P ⟨#[101,120,101,99]⟩ 21 (.builtin "exec"), e P ⟨#[102,111,114,109,97,116]⟩ 22 (.builtin "format"), e P ⟨#[103,101,116,97,116,116,114]⟩ 23 (.builtin "getattr"), e P ⟨#[103,108,111,98,97,108,115]⟩ 24 (.builtin "globals"), e P ⟨#[104,97,115,97,116,116,114]⟩ 25 (.builtin "hasattr"), e P ⟨#[104,97,115,104]⟩ 26 (.builtin "hash"), e P ⟨#[104,101,120]⟩ 27 (.builtin "hex"), e P ⟨#[105,100]⟩ 28 (.builtin "id"), e P ⟨#[105,110,112,117,116]⟩ 29 (.builtin "input"), e P ⟨#[105,115,105,110,115,116,97,110,99,101]⟩ 30 (.builtin "isinstance"), e P ⟨#[105,115,115,117,98,99,108,97,115,115]⟩ 31 (.builtin "issubclass"), e P ⟨#[105,116,101,114]⟩ 32 (.builtin "iter"), e P ⟨#[97,105,116,101,114]⟩ 33 (.builtin "aiter"), e P ⟨#[108,101,110]⟩ 34 (.builtin "len"), e P ⟨#[108,111,99,97,108,115]⟩ 35 (.builtin "locals"), e P ⟨#[109,97,120]⟩ 36 (.builtin "max"), e P ⟨#[109,105,110]⟩ 37 (.builtin "min"), e P ⟨#[110,101,120,116]⟩ 38 (.builtin "next"), e P ⟨#[97,110,101,120,116]⟩ 39 (.builtin "anext"), e P ⟨#[111,99,116]⟩ 40 (.builtin "oct"), e P ⟨#[111,114,100]⟩ 41 (.builtin "ord"), e P ⟨#[112,111,119]⟩ 42 (.builtin "pow"), e P ⟨#[112,114,105,110,116]⟩ 43 (.builtin "print"), e P ⟨#[114,101,112,114]⟩ 44 (.builtin "repr"), e P ⟨#[114,111,117,110,100]⟩ 45 (.builtin "round"), e P ⟨#[115,101,116,97,116,116,114]⟩ 46 (.builtin "setattr"), e P ⟨#[115,111,114,116,101,100]⟩ 47 (.builtin "sorted"), e P ⟨#[115,117,109]⟩ 48 (.builtin "sum"), e P ⟨#[118,97,114,115]⟩ 49 (.builtin "vars"), e P ⟨#[78,111,110,101]⟩ 50 (.none), e P ⟨#[69,108,108,105,112,115,105,115]⟩ 51 (.ellipsis), e P ⟨#[78,111,116,73,109,112,108,101,109,101,110,116,101,100]⟩ 52 (.notImplemented), e P ⟨#[70,97,108,115,101]⟩ 53 (.bool false), e P ⟨#[84,114,117,101]⟩ 54 (.bool true), e P ⟨#[98,111,111,108]⟩ 55 (.type "bool"), e P ⟨#[109,101,109,111,114,121,118,105,101,119]⟩ 56 (.type "memoryview"), e P ⟨#[98,121,116,101,97,114,114,97,121]⟩ 57 (.type "bytearray"), e P ⟨#[98,121,116,101,115]⟩ 58 (.type "bytes"), e P ⟨#[99,108,97,115,115,109,101,116,104,111,100]⟩ 59 (.type "classmethod"), e P ⟨#[99,111,109,112,108,101,120]⟩ 60 (.type "complex"), e P ⟨#[100,105,99,116]⟩ 61 (.type "dict"), e P ⟨#[101,110,117,109,101,114,97,116,101]⟩ 62 (.type "enumerate"), e P ⟨#[102,105,108,116,101,114]⟩ 63 (.type "filter"), e P ⟨#[102,108,111,97,116]⟩ 64 (.type "float"), e P ⟨#[102,114,111,122,101,110,115,101,116]⟩ 65 (.type "frozenset"), e P ⟨#[112,114,111,112,101,114,116,121]⟩ 66 (.type "property"), e P ⟨#[105,110,116]⟩ 67 (.type "int"), e P ⟨#[108,105,115,116]⟩ 68 (.type "list"), e P ⟨#[109,97,112]⟩ 69 (.type "map"), e P ⟨#[111,98,106,101,99,116]⟩ 70 (.type "object"), e P ⟨#[114,97,110,103,101]⟩ 71 (.type "range"), e P ⟨#[114,101,118,101,114,115,101,100]⟩ 72 (.type "reversed"), e P ⟨#[115,101,116]⟩ 73 (.type "set"), e P ⟨#[115,108,105,99,101]⟩ 74 (.type "slice"), e P ⟨#[115,116,97,116,105,99,109,101,116,104,111,100]⟩ 75 (.type "staticmethod"), e P ⟨#[115,116,114]⟩ 76 (.type "str"), e P ⟨#[115,117,112,101,114]⟩ 77 (.type "super"), e P ⟨#[116,117,112,108,101]⟩ 78 (.type "tuple"), e P ⟨#[116,121,112,101]⟩ 79 (.type "type"), e P ⟨#[122,105,112]⟩ 80 (.type "zip"), e P ⟨#[95,95,100,101,98,117,103,95,95]⟩ 81 (.bool true), e P ⟨#[66,97,115,101,69,120,99,101,112,116,105,111,110]⟩ 82 (.type "BaseException"), e P ⟨#[66,97,115,101,69,120,99,101,112,116,105,111,110,71,114,111,117,112]⟩ 83 (.type "BaseExceptionGroup"), e P ⟨#[69,120,99,101,112,116,105,111,110]⟩ 84 (.type "Exception"), e P ⟨#[71,101,110,101,114,97,116,111,114,69,120,105,116]⟩ 85 (.type "GeneratorExit"), e P ⟨#[75,101,121,98,111,97,114,100,73,110,116,101,114,114,117,112,116]⟩ 86 (.type "KeyboardInterrupt"), e P ⟨#[83,121,115,116,101,109,69,120,105,116]⟩ 87 (.type "SystemExit"), e P ⟨#[65,114,105,116,104,109,101,116,105,99,69,114,114,111,114]⟩ 88 (.type "ArithmeticError"), e P ⟨#[65,115,115,101,114,116,105,111,110,69,114,114,111,114]⟩ 89 (.type "AssertionError"), e P ⟨#[65,116,116,114,105,98,117,116,101,69,114,114,111,114]⟩ 90 (.type "AttributeError"), e P ⟨#[66,117,102,102,101,114,69,114,114,111,114]⟩ 91 (.type "BufferError"), e P ⟨#[69,79,70,69,114,114,111,114]⟩ 92 (.type "EOFError"), e P ⟨#[73,109,112,111,114,116,69,114,114,111,114]⟩ 93 (.type "ImportError"), e P ⟨#[76,111,111,107,117,112,69,114,114,111,114]⟩ 94 (.type "LookupError"), e P ⟨#[77,101,109,111,114,121,69,114,114,111,114]⟩ 95 (.type "MemoryError"), e P ⟨#[78,97,109,101,69,114,114,111,114]⟩ 96 (.type "NameError"), e P ⟨#[79,83,69,114,114,111,114]⟩ 97 (.type "OSError"), e P ⟨#[82,101,102,101,114,101,110,99,101,69,114,114,111,114]⟩ 98 (.type "ReferenceError"), e P ⟨#[82,117,110,116,105,109,101,69,114,114,111,114]⟩ 99 (.type "RuntimeError"), e P ⟨#[83,116,111,112,65,115,121,110,99,73,116,101,114,97,116,105,111,110]⟩ 100 (.type "StopAsyncIteration"), e P ⟨#[83,116,111,112,73,116,101,114,97,116,105,111,110]⟩ 101 (.type "StopIteration"), e P ⟨#[83,121,110,116,97,120,69,114,114,111,114]⟩ 102 (.type "SyntaxError"), e P ⟨#[83,121,115,116,101,109,69,114,114,111,114]⟩ 103 (.type "SystemError"), e P ⟨#[84,121,112,101,69,114,114,111,114]⟩ 104 (.type "TypeError"), e P ⟨#[86,97,108,117,101,69,114,114,111,114]⟩ 105 (.type "ValueError"), e P ⟨#[87,97,114,110,105,110,103]⟩ 106 (.type "Warning"), e P ⟨#[70,108,111,97,116,105,110,103,80,111,105,110,116,69,114,114,111,114]⟩ 107 (.type "FloatingPointError"), e P ⟨#[79,118,101,114,102,108,111,119,69,114,114,111,114]⟩ 108 (.type "OverflowError"), e P ⟨#[90,101,114,111,68,105,118,105,115,105,111,110,69,114,114,111,114]⟩ 109 (.type "ZeroDivisionError"), e P ⟨#[66,121,116,101,115,87,97,114,110,105,110,103]⟩ 110 (.type "BytesWarning"), e P ⟨#[68,101,112,114,101,99,97,116,105,111,110,87,97,114,110,105,110,103]⟩ 111 (.type "DeprecationWarning"), e P ⟨#[69,110,99,111,100,105,110,103,87,97,114,110,105,110,103]⟩ 112 (.type "EncodingWarning"), e P ⟨#[70,117,116,117,114,101,87,97,114,110,105,110,103]⟩ 113 (.type "FutureWarning"), e P ⟨#[73,109,112,111,114,116,87,97,114,110,105,110,103]⟩ 114 (.type "ImportWarning"), e P ⟨#[80,101,110,100,105,110,103,68,101,112,114,101,99,97,116,105,111,110,87,97,114,110,105,110,103]⟩ 115 (.type "PendingDeprecationWarning"), e P ⟨#[82,101,115,111,117,114,99,101,87,97,114,110,105,110,103]⟩ 116 (.type "ResourceWarning"), e P ⟨#[82,117,110,116,105,109,101,87,97,114,110,105,110,103]⟩ 117 (.type "RuntimeWarning"), e P ⟨#[83,121,110,116,97,120,87,97,114,110,105,110,103]⟩ 118 (.type "SyntaxWarning"), e P ⟨#[85,110,105,99,111,100,101,87,97,114,110,105,110,103]⟩ 119 (.type "UnicodeWarning"), e P ⟨#[85,115,101,114,87,97,114,110,105,110,103]⟩ 120 (.type "UserWarning"), e P ⟨#[66,108,111,99,107,105,110,103,73,79,69,114,114,111,114]⟩ 121 (.type "BlockingIOError"), e P ⟨#[67,104,105,108,100,80,114,111,99,101,115,115,69,114,114,111,114]⟩ 122 (.type "ChildProcessError"), e P ⟨#[67,111,110,110,101,99,116,105,111,110,69,114,114,111,114]⟩ 123 (.type "ConnectionError"), e P ⟨#[70,105,108,101,69,120,105,115,116,115,69,114,114,111,114]⟩ 124 (.type "FileExistsError"), e P ⟨#[70,105,108,101,78,111,116,70,111,117,110,100,69,114,114,111,114]⟩ 125 (.type "FileNotFoundError"), e P ⟨#[73,110,116,101,114,114,117,112,116,101,100,69,114,114,111,114]⟩ 126 (.type "InterruptedError"), e P ⟨#[73,115,65,68,105,114,101,99,116,111,114,121,69,114,114,111,114]⟩ 127 (.type "IsADirectoryError"), e P ⟨#[78,111,116,65,68,105,114,101,99,116,111,114,121,69,114,114,111,114]⟩ 128 (.type "NotADirectoryError"), e P ⟨#[80,101,114,109,105,115,115,105,111,110,69,114,114,111,114]⟩ 129 (.type "PermissionError"), e P ⟨#[80,114,111,99,101,115,115,76,111,111,107,117,112,69,114,114,111,114]⟩ 130 (.type "ProcessLookupError"), e P ⟨#[84,105,109,101,111,117,116,69,114,114,111,114]⟩ 131 (.type "TimeoutError"), e P ⟨#[73,110,100,101,110,116,97,116,105,111,110,69,114,114,111,114]⟩ 132 (.type "IndentationError"), e P ⟨#[95,73,110,99,111,109,112,108,101,116,101,73,110,112,117,116,69,114,114,111,114]⟩ 133 (.type "_IncompleteInputError"), e P ⟨#[73,110,100,101,120,69,114,114,111,114]⟩ 134 (.type "IndexError"), e P ⟨#[75,101,121,69,114,114,111,114]⟩ 135 (.type "KeyError"), e P ⟨#[77,111,100,117,108,101,78,111,116,70,111,117,110,100,69,114,114,111,114]⟩ 136 (.type "ModuleNotFoundError"), e P ⟨#[78,111,116,73,109,112,108,101,109,101,110,116,101,100,69,114,114,111,114]⟩ 137 (.type "NotImplementedError"), e P ⟨#[80,121,116,104,111,110,70,105,110,97,108,105,122,97,116,105,111,110,69,114,114,111,114]⟩ 138 (.type "PythonFinalizationError"), e P ⟨#[82,101,99,117,114,115,105,111,110,69,114,114,111,114]⟩ 139 (.type "RecursionError"), e P ⟨#[85,110,98,111,117,110,100,76,111,99,97,108,69,114,114,111,114]⟩ 140 (.type "UnboundLocalError"), e P ⟨#[85,110,105,99,111,100,101,69,114,114,111,114]⟩ 141 (.type "UnicodeError"), e P ⟨#[66,114,111,107,101,110,80,105,112,101,69,114,114,111,114]⟩ 142 (.type "BrokenPipeError"), e P ⟨#[67,111,110,110,101,99,116,105,111,110,65,98,111,114,116,101,100,69,114,114,111,114]⟩ 143 (.type "ConnectionAbortedError"), e P ⟨#[67,111,110,110,101,99,116,105,111,110,82,101,102,117,115,101,100,69,114,114,111,114]⟩ 144 (.type "ConnectionRefusedError"), e P ⟨#[67,111,110,110,101,99,116,105,111,110,82,101,115,101,116,69,114,114,111,114]⟩ 145 (.type "ConnectionResetError"), e P ⟨#[84,97,98,69,114,114,111,114]⟩ 146 (.type "TabError"), e P ⟨#[85,110,105,99,111,100,101,68,101,99,111,100,101,69,114,114,111,114]⟩ 147 (.type "UnicodeDecodeError"), e P ⟨#[85,110,105,99,111,100,101,69,110,99,111,100,101,69,114,114,111,114]⟩ 148 (.type "UnicodeEncodeError"), e P ⟨#[85,110,105,99,111,100,101,84,114,97,110,115,108,97,116,101,69,114,114,111,114]⟩ 149 (.type "UnicodeTranslateError"), e P ⟨#[69,120,99,101,112,116,105,111,110,71,114,111,117,112]⟩ 150 (.type "ExceptionGroup"), e P ⟨#[69,110,118,105,114,111,110,109,101,110,116,69,114,114,111,114]⟩ 151 (.type "OSError"), e P ⟨#[73,79,69,114,114,111,114]⟩ 152 (.type "OSError"), e P ⟨#[111,112,101,110]⟩ 153 (.builtin "open"), e P ⟨#[113,117,105,116]⟩ 154 (.builtin "builtins.quit#opaque"), e P ⟨#[101,120,105,116]⟩ 155 (.builtin "builtins.exit#opaque"), e P ⟨#[99,111,112,121,114,105,103,104,116]⟩ 156 (.builtin "builtins.copyright#opaque"), e P ⟨#[99,114,101,100,105,116,115]⟩ 157 (.builtin "builtins.credits#opaque"), e P ⟨#[108,105,99,101,110,115,101]⟩ 158 (.builtin "builtins.license#opaque"), e P ⟨#[104,101,108,112]⟩ 159 (.builtin "builtins.help#opaque")] 159 }
noncomputable def o1 (P : Params) : Obj := { cls := .type "dict", data := .dict #[e P ⟨#[98,117,105,108,116,105,110,115]⟩ 162 (.ref 4), e P ⟨#[95,95,109,97,105,110,95,95]⟩ 163 (.ref 5), e P ⟨#[95,115,114,101]⟩ 244 (.ref 12)] 3 }
noncomputable def o2 (P : Params) : Obj := { cls := .none, data := .dict #[e P ⟨#[105,109,112,111,114,116,46,108,111,97,100,101,100,46,95,115,114,101]⟩ 183 (.bool true), e P ⟨#[99,108,97,115,115,46,95,102,114,111,122,101,110,95,105,109,112,111,114,116,108,105,98,46,66,117,105,108,116,105,110,73,109,112,111,114,116,101,114]⟩ 185 (.ref 14), e P ⟨#[119,97,116,99,104,101,100,46,105,109,112,111,114,116]⟩ 206 (.ref 18), e P ⟨#[99,108,97,115,115,46,95,102,114,111,122,101,110,95,105,109,112,111,114,116,108,105,98,46,77,111,100,117,108,101,83,112,101,99]⟩ 216 (.ref 22), e P ⟨#[115,121,115,46,109,111,100,117,108,101,115,46,98,111,111,107,101,100,45,101,112,111,99,104]⟩ 245 (.int 3 0), e P ⟨#[105,109,112,111,114,116,46,108,97,116,101,114,45,108,97,105,100,46,95,115,114,101]⟩ 270 (.bool true), e P ⟨#[119,97,116,99,104,101,100,46,108,105,98,114,97,114,121]⟩ 272 (.ref 27), e P ⟨#[119,97,116,99,104,101,100,46,108,105,98,114,97,114,121,45,111,98,106,101,99,116,115]⟩ 0 (.str ⟨#[12]⟩ 0), e P ⟨#[119,97,116,99,104,101,100,46,108,105,98,114,97,114,121,45,100,101,101,112,46,95,115,114,101]⟩ 273 (.str ⟨#[4,0,0,11,4,0,0,11,4,0,0,3,4,0,0,11,8,4,100,105,99,116,2]⟩ 0)] 9 }
noncomputable def o3 (P : Params) : Obj := { cls := .type "dict", data := .dict #[e P ⟨#[95,95,110,97,109,101,95,95]⟩ 165 (.str z3 689), e P z33 166 (.none), e P ⟨#[95,95,112,97,99,107,97,103,101,95,95]⟩ 167 (.none), e P ⟨#[95,95,108,111,97,100,101,114,95,95]⟩ 168 (.builtin "__main__.__loader__#opaque"), e P ⟨#[95,95,115,112,101,99,95,95]⟩ 169 (.none), e P ⟨#[95,95,97,110,110,111,116,97,116,105,111,110,115,95,95]⟩ 170 (.ref 6), e P ⟨#[95,95,98,117,105,108,116,105,110,115,95,95]⟩ 171 (.ref 4), e P ⟨#[95,95,102,105,108,101,95,95]⟩ 173 (.str z0 172), e P ⟨#[95,95,99,97,99,104,101,100,95,95]⟩ 174 (.none), e P ⟨#[95,115,114,101]⟩ 275 (.ref 12), e P ⟨#[95,119,97,108,108]⟩ 288 (.ref 38), e P ⟨#[69,77,80,84,89,83,84,82,73,78,71]⟩ 292 (.str ⟨#[]⟩ 291), e P z7 387 (.ref 118), e P ⟨#[95,77,65,88,95,83,84,82,73,78,71,95,83,73,90,69]⟩ 391 (.int 40 390), e P ⟨#[95,77,79,86,69,95,67,79,83,84]⟩ 393 (.int 2 392), e P ⟨#[95,67,65,83,69,95,67,79,83,84]⟩ 395 (.int 1 394), e P z4 403 (.ref 129), e P z2 423 (.ref 136), e P ⟨#[116,115,112,101,99,105,97,108,115]⟩ 459 (.ref 141), e P ⟨#[95,110,97,109,101,95,100,105,115,97,108,108,111,119,101,100,95,114,101]⟩ 485 (.ref 146), e P ⟨#[95,118,97,108,117,101,95,100,105,115,97,108,108,111,119,101,100,95,114,101]⟩ 519 (.ref 151), e P ⟨#[95,102,111,114,109,97,116,112,97,114,97,109]⟩ 529 (.ref 159), e P z21 688 (.ref 282), e P z13 698 (.ref 293), e P z14 706 (.ref 300), e P z15 712 (.ref 305), e P z11 725 (.ref 312), e P z8 731 (.ref 317), e P z16 737 (.ref 322), e P z9 743 (.ref 327), e P ⟨#[108,97,119]⟩ 749 (.ref 332)] 31 }
noncomputable def o6 (P : Params) : Obj := { cls := .type "dict", data := .dict #[] }
noncomputable def o39 (P : Params) : Obj := { cls := .type "tuple", data := .seq #[.type "list"] }
noncomputable def o42 (P : Params) : Obj := { cls := .type "cell", data := .cell (some (.ref 118)) }
noncomputable def o47 (P : Params) : Obj := { cls := .type "tuple", data := .seq #[.int 0 305] }
noncomputable def o48 (P : Params) : Obj := { cls := .type "tuple", data := .seq #[.ref 42] }
noncomputable def o54 (P : Params) : Obj := { cls := .type "code", data := .fields #[.str z12 306, .str z20 307, .str z0 308, .int 9 0, .int 2 0, .int 0 0, .int 0 0, .int 3 0, .ref 49, .bool true, .int 276 0, .ref 50, .none, .ref 51, .ref 52, .ref 53, .int 312 0, .int 9 0, .str z0 313] }
noncomputable def o55 (P : Params) : Obj := { cls := .type "function", data := .func { name := z12, qualname := z20, params := (fcA 4 0), body := .stmts (fcB 4 0), scope := (fcS 4 0), globals := 3, closure := [(z34, 42)], defaults := .ref 47, kwdefaults := .none, pyModule := .str z5 289, code := .ref 54, closureTuple := .ref 48 } }
noncomputable def o61 (P : Params) : Obj := { cls := .type "code", data := .fields #[.str ⟨#[112,117,115,104]⟩ 315, .str z24 316, .str z0 317, .int 13 0, .int 3 0, .int 0 0, .int 0 0, .int 3 0, .ref 56, .bool true, .int 276 0, .ref 57, .none, .ref 58, .ref 59, .ref 60, .int 321 0, .int 13 0, .str z0 322] }
noncomputable def o62 (P : Params) : Obj := { cls := .type "function", data := .func { name := ⟨#[112,117,115,104]⟩, qualname := z24, params := (fcA 4 1), body := .stmts (fcB 4 1), scope := (fcS 4 1), globals := 3, closure := [], defaults := .none, kwdefaults := .none, pyModule := .str z5 289, code := .ref 61 } }
noncomputable def o77 (P : Params) : Obj := { cls := .type "code", data := .fields #[.str ⟨#[112,111,112]⟩ 333, .str z26 334, .str z0 335, .int 19 0, .int 1 0, .int 0 0, .int 0 0, .int 3 0, .ref 72, .bool true, .int 276 0, .ref 73, .none, .ref 74, .ref 75, .ref 76, .int 338 0, .int 19 0, .str z0 339] }
noncomputable def o78 (P : Params) : Obj := { cls := .type "function", data := .func { name := ⟨#[112,111,112]⟩, qualname := z26, params := (fcA 4 3), body := .stmts (fcB 4 3), scope := (fcS 4 3), globals := 3, closure := [(z34, 42)], defaults := .none, kwdefaults := .none, pyModule := .str z5 289, code := .ref 77, closureTuple := .ref 71 } }
noncomputable def o108 (P : Params) : Obj := { cls := .type "tuple", data := .seq #[.ref 42] }
noncomputable def o114 (P : Params) : Obj := { cls := .type "code", data := .fields #[.str z28 370, .str z17 371, .str z0 372, .int 36 0, .int 1 0, .int 0 0, .int 0 0, .int 3 0, .ref 109, .bool true, .int 276 0, .ref 110, .none, .ref 111, .ref 112, .ref 113, .int 375 0, .int 36 0, .str z0 376] }
noncomputable def o115 (P : Params) : Obj := { cls := .type "function", data := .func { name := z28, qualname := z17, params := (fcA 4 8), body := .stmts (fcB 4 8), scope := (fcS 4 8), globals := 3, closure := [(z34, 42)], defaults := .none, kwdefaults := .none, pyModule := .str z5 289, code := .ref 114, closureTuple := .ref 108 } }
noncomputable def o117 (P : Params) : Obj := { cls := .type "dict", data := .dict #[e P ⟨#[95,95,109,111,100,117,108,101,95,95]⟩ 300 (.str z5 289), e P z31 304 (.int 7 303), e P z12 314 (.ref 55), e P ⟨#[112,117,115,104]⟩ 323 (.ref 62), e P ⟨#[112,111,112,95,102,114,111,109]⟩ 332 (.ref 70), e P ⟨#[112,111,112]⟩ 340 (.ref 78), e P ⟨#[95,95,108,101,110,95,95]⟩ 347 (.ref 85), e P ⟨#[95,95,115,116,114,95,95]⟩ 354 (.ref 92), e P ⟨#[114,101,115,101,116]⟩ 362 (.ref 100), e P ⟨#[105,115,95,111,110,108,121,119,115]⟩ 369 (.ref 107), e P z28 377 (.ref 115), e P z19 379 (.ref 116), e P z27 382 (.ref 119), e P z18 384 (.ref 120), e P z33 385 (.none)] 5 }
noncomputable def o118 (P : Params) : Obj := { cls := .type "type", data := .cls { name := z7, bases := [.type "list"], mro := [.ref 118, .type "list", .type "object"], ns := 117, qualname := z7 }, slots := #[some (.ref 39), none, some (.str z7 293), some (.str z7 301), some (.builtin "list.__new__"), some (.bool true)] }
noncomputable def o119 (P : Params) : Obj := { cls := .type "getset_descriptor", data := .fields #[.str z27 381, .ref 118, .builtin "function.__dict__", .builtin "function.__dict__#set"] }
noncomputable def o120 (P : Params) : Obj := { cls := .type "getset_descriptor", data := .fields #[.str z18 383, .ref 118, .builtin "ExceptionGroup.__weakref__", .none] }
noncomputable def o128 (P : Params) : Obj := { cls := .type "code", data := .fields #[.str z4 396, .str z4 397, .str z0 398, .int 42 0, .int 2 0, .int 0 0, .int 0 0, .int 3 0, .ref 123, .bool true, .int 276 0, .ref 124, .none, .ref 125, .ref 126, .ref 127, .int 401 0, .int 42 0, .str z0 402] }
noncomputable def o129 (P : Params) : Obj := { cls := .type "function", data := .func { name := z4, qualname := z4, params := (fdA 9), body := .stmts Pl.dSub.body, scope := Pl.dSub.scope, globals := 3, closure := [], defaults := .none, kwdefaults := .none, pyModule := .str z32 388, code := .ref 128 } }
noncomputable def o135 (P : Params) : Obj := { cls := .type "code", data := .fields #[.str z2 404, .str z2 405, .str z0 406, .int 48 0, .int 3 0, .int 0 0, .int 0 0, .int 3 0, .ref 130, .bool true, .int 276 0, .ref 131, .none, .ref 132, .ref 133, .ref 134, .int 421 0, .int 48 0, .str z0 422] }
noncomputable def o136 (P : Params) : Obj := { cls := .type "function", data := .func { name := z2, qualname := z2, params := (fdA 10), body := .stmts Pl.dLev.body, scope := Pl.dLev.scope, globals := 3, closure := [], defaults := .none, kwdefaults := .none, pyModule := .str z32 388, code := .ref 135 } }
noncomputable def o145 (P : Params) : Obj := { cls := .type "tuple", data := .seq #[.int 14 0, .int 10 0, .int 4 0, .int 1 0, .int 1 0, .int 22 0, .int 0 0, .int 31 0, .int 16 0, .int 127 0, .int 0 0, .int 13 0, .int 7 0, .int 22 0, .int 0 0, .int 31 0, .int 16 0, .int 127 0, .int 0 0, .int 1 0] }
noncomputable def o146 (P : Params) : Obj := { cls := .type "re.Pattern", data := .fields #[.str ⟨#[91,92,120,48,48,45,92,120,49,70,92,120,55,70,93]⟩ 461, .int 32 484, .int 0 0, .none, .none, .ref 145, .int 0 0] }
noncomputable def o150 (P : Params) : Obj := { cls := .type "tuple", data := .seq #[.int 14 0, .int 14 0, .int 4 0, .int 1 0, .int 1 0, .int 9 0, .int 4294966783 0, .int 0 0, .int 0 0, .int 2147483648 0, .int 0 0, .int 0 0, .int 0 0, .int 0 0, .int 0 0, .int 13 0, .int 11 0, .int 9 0, .int 4294966783 0, .int 0 0, .int 0 0, .int 2147483648 0, .int 0 0, .int 0 0, .int 0 0, .int 0 0, .int 0 0, .int 1 0] }
noncomputable def o151 (P : Params) : Obj := { cls := .type "re.Pattern", data := .fields #[.str ⟨#[91,92,120,48,48,45,92,120,48,56,92,120,48,65,45,92,120,49,70,92,120,55,70,93]⟩ 487, .int 32 518, .int 0 0, .none, .none, .ref 150, .int 0 0] }
noncomputable def o167 (P : Params) : Obj := { cls := .type "tuple", data := .seq #[.none] }
noncomputable def o173 (P : Params) : Obj := { cls := .type "code", data := .fields #[.str z12 542, .str z30 543, .str z0 544, .int 101 0, .int 2 0, .int 0 0, .int 0 0, .int 3 0, .ref 168, .bool true, .int 276 0, .ref 169, .none, .ref 170, .ref 171, .ref 172, .int 549 0, .int 101 0, .str z0 550] }
noncomputable def o174 (P : Params) : Obj := { cls := .type "function", data := .func { name := z12, qualname := z30, params := (fcA 16 0), body := .stmts (fcB 16 0), scope := (fcS 16 0), globals := 3, closure := [], defaults := .ref 167, kwdefaults := .none, pyModule := .str z1 424, code := .ref 173 } }
noncomputable def o180 (P : Params) : Obj := { cls := .type "code", data := .fields #[.str z6 552, .str z10 553, .str z0 554, .int 111 0, .int 2 0, .int 0 0, .int 1 0, .int 3 0, .ref 175, .bool true, .int 276 0, .ref 176, .none, .ref 177, .ref 178, .ref 179, .int 559 0, .int 111 0, .str z0 560] }
noncomputable def o181 (P : Params) : Obj := { cls := .type "function", data := .func { name := z6, qualname := z10, params := (fcA 16 1), body := .stmts (fcB 16 1), scope := (fcS 16 1), globals := 3, closure := [], defaults := .none, kwdefaults := .none, pyModule := .str z1 424, code := .ref 180 } }
noncomputable def o199 (P : Params) : Obj := { cls := .type "code", data := .fields #[.str z25 578, .str z22 579, .str z0 580, .int 126 0, .int 2 0, .int 0 0, .int 0 0, .int 3 0, .ref 196, .bool true, .int 276 0, .ref 197, .none, .none, .none, .ref 198, .int 581 0, .int 126 0, .str z0 582] }
noncomputable def o200 (P : Params) : Obj := { cls := .type "function", data := .func { name := z25, qualname := z22, params := (fcA 16 4), body := .stmts Pl.dDel.body, scope := Pl.dDel.scope, globals := 3, closure := [], defaults := .none, kwdefaults := .none, pyModule := .str z1 424, code := .ref 199 } }
noncomputable def o222 (P : Params) : Obj := { cls := .type "tuple", data := .seq #[.none] }
noncomputable def o228 (P : Params) : Obj := { cls := .type "code", data := .fields #[.str ⟨#[103,101,116]⟩ 608, .str ⟨#[72,101,97,100,101,114,115,46,103,101,116]⟩ 609, .str z0 610, .int 139 0, .int 3 0, .int 0 0, .int 0 0, .int 3 0, .ref 223, .bool true, .int 276 0, .ref 224, .none, .ref 225, .ref 226, .ref 227, .int 616 0, .int 139 0, .str z0 617] }
noncomputable def o229 (P : Params) : Obj := { cls := .type "function", data := .func { name := ⟨#[103,101,116]⟩, qualname := ⟨#[72,101,97,100,101,114,115,46,103,101,116]⟩, params := (fcA 16 8), body := .stmts Pl.dGet.body, scope := Pl.dGet.scope, globals := 3, closure := [], defaults := .ref 222, kwdefaults := .none, pyModule := .str z1 424, code := .ref 228 } }
noncomputable def o233 (P : Params) : Obj := { cls := .type "code", data := .fields #[.str ⟨#[107,101,121,115]⟩ 619, .str ⟨#[72,101,97,100,101,114,115,46,107,101,121,115]⟩ 620, .str z0 621, .int 146 0, .int 1 0, .int 0 0, .int 0 0, .int 3 0, .ref 230, .bool true, .int 276 0, .ref 231, .none, .none, .none, .ref 232, .int 622 0, .int 146 0, .str z0 623] }
noncomputable def o234 (P : Params) : Obj := { cls := .type "function", data := .func { name := ⟨#[107,101,121,115]⟩, qualname := ⟨#[72,101,97,100,101,114,115,46,107,101,121,115]⟩, params := (fcA 16 9), body := .stmts Pl.dKeys.body, scope := Pl.dKeys.scope, globals := 3, closure := [], defaults := .none, kwdefaults := .none, pyModule := .str z1 424, code := .ref 233 } }
noncomputable def o278 (P : Params) : Obj := { cls := .type "code", data := .fields #[.str z29 667, .str z23 668, .str z0 669, .int 167 0, .int 3 0, .int 0 0, .int 0 0, .int 11 0, .ref 273, .bool true, .int 276 0, .ref 274, .none, .ref 275, .ref 276, .ref 277, .int 677 0, .int 167 0, .str z0 678] }
noncomputable def o279 (P : Params) : Obj := { cls := .type "function", data := .func { name := z29, qualname := z23, params := (fcA 16 16), body := .stmts (fcB 16 16), scope := (fcS 16 16), globals := 3, closure := [], defaults := .none, kwdefaults := .none, pyModule := .str z1 424, code := .ref 278 } }
noncomputable def o280 (P : Params) : Obj := { cls := .type "tuple", data := .seq #[.str ⟨#[95,104,101,97,100,101,114,115]⟩ 680] }
noncomputable def o281 (P : Params) : Obj := { cls := .type "dict", data := .dict #[e P ⟨#[95,95,109,111,100,117,108,101,95,95]⟩ 537 (.str z1 424), e P z31 541 (.int 99 540), e P z12 551 (.ref 174), e P z6 561 (.ref 181), e P ⟨#[95,95,108,101,110,95,95]⟩ 568 (.ref 188), e P ⟨#[95,95,115,101,116,105,116,101,109,95,95]⟩ 577 (.ref 195), e P z25 583 (.ref 200), e P ⟨#[95,95,103,101,116,105,116,101,109,95,95]⟩ 591 (.ref 207), e P ⟨#[95,95,99,111,110,116,97,105,110,115,95,95]⟩ 599 (.ref 214), e P ⟨#[103,101,116,95,97,108,108]⟩ 607 (.ref 221), e P ⟨#[103,101,116]⟩ 618 (.ref 229), e P ⟨#[107,101,121,115]⟩ 624 (.ref 234), e P ⟨#[118,97,108,117,101,115]⟩ 630 (.ref 239), e P ⟨#[105,116,101,109,115]⟩ 637 (.ref 246), e P ⟨#[95,95,114,101,112,114,95,95]⟩ 644 (.ref 253), e P ⟨#[95,95,115,116,114,95,95]⟩ 650 (.ref 258), e P ⟨#[95,95,98,121,116,101,115,95,95]⟩ 657 (.ref 265), e P ⟨#[115,101,116,100,101,102,97,117,108,116]⟩ 666 (.ref 272), e P z29 679 (.ref 279), e P z19 681 (.ref 280), e P z27 683 (.ref 283), e P z18 685 (.ref 284), e P z33 686 (.none)] 4 }
noncomputable def o282 (P : Params) : Obj := { cls := .type "type", data := .cls { name := z21, bases := [.type "object"], mro := [.ref 282, .type "object"], ns := 281, qualname := z21 }, slots := #[none, none, some (.str z21 530), some (.str z21 538), some (.builtin "object.__new__"), some (.bool true)] }
noncomputable def o283 (P : Params) : Obj := { cls := .type "getset_descriptor", data := .fields #[.str z27 682, .ref 282, .builtin "function.__dict__", .builtin "function.__dict__#set"] }
noncomputable def o284 (P : Params) : Obj := { cls := .type "getset_descriptor", data := .fields #[.str z18 684, .ref 282, .builtin "ExceptionGroup.__weakref__", .none] }
noncomputable def o292 (P : Params) : Obj := { cls := .type "code", data := .fields #[.str z13 691, .str z13 692, .str z0 693, .int 181 0, .int 1 0, .int 0 0, .int 0 0, .int 3 0, .ref 287, .bool true, .int 276 0, .ref 288, .none, .ref 289, .ref 290, .ref 291, .int 696 0, .int 181 0, .str z0 697] }
noncomputable def o293 (P : Params) : Obj := { cls := .type "function", data := .func { name := z13, qualname := z13, params := (fdA 18), body := .stmts Pl.dWord.body, scope := Pl.dWord.scope, globals := 3, closure := [], defaults := .none, kwdefaults := .none, pyModule := .str z3 689, code := .ref 292 } }
noncomputable def o299 (P : Params) : Obj := { cls := .type "code", data := .fields #[.str z14 699, .str z14 700, .str z0 701, .int 186 0, .int 2 0, .int 0 0, .int 0 0, .int 3 0, .ref 294, .bool true, .int 276 0, .ref 295, .none, .ref 296, .ref 297, .ref 298, .int 704 0, .int 186 0, .str z0 705] }
noncomputable def o300 (P : Params) : Obj := { cls := .type "function", data := .func { name := z14, qualname := z14, params := (fdA 19), body := .stmts Pl.dTurn.body, scope := Pl.dTurn.scope, globals := 3, closure := [], defaults := .none, kwdefaults := .none, pyModule := .str z3 689, code := .ref 299 } }
noncomputable def o304 (P : Params) : Obj := { cls := .type "code", data := .fields #[.str z15 707, .str z15 708, .str z0 709, .int 190 0, .int 2 0, .int 0 0, .int 0 0, .int 3 0, .ref 301, .bool true, .int 276 0, .ref 302, .none, .none, .none, .ref 303, .int 710 0, .int 190 0, .str z0 711] }
noncomputable def o305 (P : Params) : Obj := { cls := .type "function", data := .func { name := z15, qualname := z15, params := (fdA 20), body := .stmts Pl.dCost.body, scope := Pl.dCost.scope, globals := 3, closure := [], defaults := .none, kwdefaults := .none, pyModule := .str z3 689, code := .ref 304 } }
noncomputable def o311 (P : Params) : Obj := { cls := .type "code", data := .fields #[.str z11 713, .str z11 714, .str z0 715, .int 196 0, .int 1 0, .int 0 0, .int 0 0, .int 3 0, .ref 306, .bool true, .int 276 0, .ref 307, .none, .ref 308, .ref 309, .ref 310, .int 723 0, .int 196 0, .str z0 724] }
noncomputable def o312 (P : Params) : Obj := { cls := .type "function", data := .func { name := z11, qualname := z11, params := (fdA 21), body := .stmts Pl.dRanks.body, scope := Pl.dRanks.scope, globals := 3, closure := [], defaults := .none, kwdefaults := .none, pyModule := .str z3 689, code := .ref 311 } }
noncomputable def o316 (P : Params) : Obj := { cls := .type "code", data := .fields #[.str z8 726, .str z8 727, .str z0 728, .int 204 0, .int 3 0, .int 0 0, .int 0 0, .int 3 0, .ref 313, .bool true, .int 276 0, .ref 314, .none, .none, .none, .ref 315, .int 729 0, .int 204 0, .str z0 730] }
noncomputable def o317 (P : Params) : Obj := { cls := .type "function", data := .func { name := z8, qualname := z8, params := (fdA 22), body := .stmts Pl.dPaired.body, scope := Pl.dPaired.scope, globals := 3, closure := [], defaults := .none, kwdefaults := .none, pyModule := .str z3 689, code := .ref 316 } }
noncomputable def o321 (P : Params) : Obj := { cls := .type "code", data := .fields #[.str z16 732, .str z16 733, .str z0 734, .int 226 0, .int 1 0, .int 0 0, .int 0 0, .int 3 0, .ref 318, .bool true, .int 276 0, .ref 319, .none, .none, .none, .ref 320, .int 735 0, .int 226 0, .str z0 736] }
noncomputable def o322 (P : Params) : Obj := { cls := .type "function", data := .func { name := z16, qualname := z16, params := (fdA 23), body := .stmts Pl.dWays.body, scope := Pl.dWays.scope, globals := 3, closure := [], defaults := .none, kwdefaults := .none, pyModule := .str z3 689, code := .ref 321 } }
noncomputable def o326 (P : Params) : Obj := { cls := .type "code", data := .fields #[.str z9 738, .str z9 739, .str z0 740, .int 234 0, .int 2 0, .int 0 0, .int 0 0, .int 3 0, .ref 323, .bool true, .int 276 0, .ref 324, .none, .none, .none, .ref 325, .int 741 0, .int 234 0, .str z0 742] }
noncomputable def o327 (P : Params) : Obj := { cls := .type "function", data := .func { name := z9, qualname := z9, params := (fdA 24), body := .stmts Pl.dSteady.body, scope := Pl.dSteady.scope, globals := 3, closure := [], defaults := .none, kwdefaults := .none, pyModule := .str z3 689, code := .ref 326 } }
noncomputable def o331 (P : Params) : Obj := { cls := .type "code", data := .fields #[.str ⟨#[108,97,119]⟩ 744, .str ⟨#[108,97,119]⟩ 745, .str z0 746, .int 240 0, .int 1 0, .int 0 0, .int 0 0, .int 3 0, .ref 328, .bool true, .int 276 0, .ref 329, .none, .none, .none, .ref 330, .int 747 0, .int 240 0, .str z0 748] }
noncomputable def o332 (P : Params) : Obj := { cls := .type "function", data := .func { name := ⟨#[108,97,119]⟩, qualname := ⟨#[108,97,119]⟩, params := (fdA 25), body := .stmts Pl.dLaw.body, scope := Pl.dLaw.scope, globals := 3, closure := [], defaults := .none, kwdefaults := .none, pyModule := .str z3 689, code := .ref 331 } }
noncomputable def K (P : Params) : Frag := [(0, o0 P), (1, o1 P), (2, o2 P), (3, o3 P), (6, o6 P), (39, o39 P), (42, o42 P), (47, o47 P), (48, o48 P), (54, o54 P), (55, o55 P), (61, o61 P), (62, o62 P), (77, o77 P), (78, o78 P), (108, o108 P), (114, o114 P), (115, o115 P), (117, o117 P), (118, o118 P), (119, o119 P), (120, o120 P), (128, o128 P), (129, o129 P), (135, o135 P), (136, o136 P), (145, o145 P), (146, o146 P), (150, o150 P), (151, o151 P), (167, o167 P), (173, o173 P), (174, o174 P), (180, o180 P), (181, o181 P), (199, o199 P), (200, o200 P), (222, o222 P), (228, o228 P), (229, o229 P), (233, o233 P), (234, o234 P), (278, o278 P), (279, o279 P), (280, o280 P), (281, o281 P), (282, o282 P), (283, o283 P), (284, o284 P), (292, o292 P), (293, o293 P), (299, o299 P), (300, o300 P), (304, o304 P), (305, o305 P), (311, o311 P), (312, o312 P), (316, o316 P), (317, o317 P), (321, o321 P), (322, o322 P), (326, o326 P), (327, o327 P), (331, o331 P), (332, o332 P)]
noncomputable def at_ : List Addr := [0, 1, 2, 3, 6, 39, 42, 47, 48, 54, 55, 61, 62, 77, 78, 108, 114, 115, 117, 118, 119, 120, 128, 129, 135, 136, 145, 146, 150, 151, 167, 173, 174, 180, 181, 199, 200, 222, 228, 229, 233, 234, 278, 279, 280, 281, 282, 283, 284, 292, 293, 299, 300, 304, 305, 311, 312, 316, 317, 321, 322, 326, 327, 331, 332]
end Mine.Internal.K2
end
section
open PySem PySem.W PySem.W.X PyProof.Rows
open PySem.W.X PySem.W.ZRun
set_option maxRecDepth 100000
set_option maxHeartbeats 0
namespace Mine.Internal
noncomputable abbrev pw : Program := PySem.Challenge.pw_tc0054_01
noncomputable def q : Program := PySem.W.view pw [0, 1, 3, 4, 6, 7, 8, 9, 10, 12, 13, 14, 16, 18, 19, 20, 21, 22, 23, 24, 25]
noncomputable def loose : List PySem.Str := [Str.ofString "_Accumulator", Str.ofString "tspecials", Str.ofString "_name_disallowed_re", Str.ofString "_value_disallowed_re", Str.ofString "_formatparam"]
noncomputable abbrev rr : OpenRow := PySem.Challenge.rw_tc0054_01.row
theorem left0 : LeftO rr.prog q loose (fun s => xlAt q [] s && recOk (RowW.records rr.toRowW) s) (obsZ K2.at_) (valZ K2.K 333 750) 3900 := by
  intro w
  kernel_rfl
end Mine.Internal
end
section
open PySem PySem.W PyProof.Rows PySem.Calls
namespace Mine.Internal
noncomputable abbrev MS (S : Stc) : Model := model S.prog S.w
noncomputable abbrev NoE : Value → Shared → Prop := fun j9 j9 => False
section
variable {S : Stc} {A : Around} {s : Shared} {g : Gh} {ph : List PO} {h : Heap} {k : Nat} {a b v : PV} {va vb x : Value} {i j : Int} {y z : Str}
theorem smallI_iff : smallI i = true ↔ i.natAbs < 9223372036854775808 := by simp [smallI]
theorem bits_small (h : smallI i = true) : Builtin.Int.intBits i ≤ 64 := by
  have := smallI_iff.mp h
  exact intBits_le_64 (by omega) (by omega)
theorem fresh_Fz {a} (I : Inv S h k g ph) (e : h.get? a = none) : Fz S g a := let q := I.fresh e; ⟨q.1, q.2.1, q.2.2.1⟩
theorem none_ge {a : Addr} (ha : h.objs.size ≤ a) : h.get? a = none := by
  cases q : h.get? a with
  | none => rfl
  | some o => exact absurd (Heap.lt_size q) (Nat.not_lt.mpr ha)
theorem none_size (h : Heap) : h.get? h.objs.size = none := none_ge (Nat.le_refl _)
theorem Mono.grow {h' : Heap} {n : Nat} (k : ∀ a o, h.get? a = some o → h'.get? a = some o) (hn : g.tk ≤ n) : Mono S h g h' { g with tk := n } :=
  ⟨fun a o' e j9 => k a o' e, fun j9 j9 j9 f => f, fun j9 j9 e => e, hn⟩
theorem Mono.push {o : Obj} {n : Nat} (I : Inv S h k g ph) (hn : g.tk ≤ n) : Mono S h g (h.push o) { g with tk := n } := .grow (fun j9 j9 e => Heap.get?_push_of_some _ e) hn
theorem asI_eq (e : asI v = some i) : v = .int i := by
  cases v
  case int => exact congrArg _ (Option.some.inj e)
  all_goals exact nos e
@[elab_as_elim] theorem eI {motive : Value → Prop} (e : asI v = some i) (r : VR S h g v x) (k : ∀ t, motive (.int i t)) : motive x := VR.eInt (p := motive x) (asI_eq e ▸ r) fun t q => Eq.subst (motive := motive) q (k t)
set_option tactic.hygienic true in
theorem asStr_VR (e : v.asStr = some z) (r : VR S h g v x) : ∃ t, x = .str z t := by
  cases v
  case str => exact Option.some.inj e ▸ r.inv
  case strg => exact let ⟨t, q, _⟩ := r.inv; Option.some.inj e ▸ ⟨t, q⟩
  all_goals exact nos e
@[elab_as_elim] theorem eS {motive : Value → Prop} (e : v.asStr = some z) (r : VR S h g v x) (k : ∀ t, motive (.str z t)) : motive x := (asStr_VR e r).elim fun t q => Eq.subst (motive := motive) q.symm (k t)
set_option tactic.hygienic true in
@[elab_as_elim] theorem eSeq {motive : Value → Prop} {xs : List PV} (I : Inv S h k g ph) (e : seqOf ph v = some xs) (r : VR S h g v x) (q : ∀ a vs n, h.get? a = some (seqO "list" vs n) → VRs S h g xs vs → motive (.ref a)) : motive x := by
  cases v
  case lst => exact r.eLst (p := motive x) fun a vs n e1 e2 j9 e3 => Eq.subst (motive := motive) e1 (q a vs n e2 (Option.some.inj e ▸ e3))
  case obj m =>
    replace e : (match ph[m]? with | some (.list xs) => some xs | _ => none) = some xs := e
    cases hp : ph[m]? with
    | none => rw [hp] at e; exact nos e
    | some po =>
      rw [hp] at e
      cases po
      case list ys =>
        exact r.eObj (p := motive x) fun a e1 e2 => Eq.subst (motive := motive) e1 (let ⟨vs, n, q1, q2⟩ := I.obj _ _ _ hp e2; q a vs n q1 (Option.some.inj e ▸ q2))
      all_goals exact nos e
  all_goals exact nos e
theorem seqOf_VR {xs : List PV} (I : Inv S h k g ph) (e : seqOf ph v = some xs) (r : VR S h g v x) : ∃ a vs n, x = .ref a ∧ h.get? a = some (seqO "list" vs n) ∧ VRs S h g xs vs := eSeq I e r fun a vs n q1 q2 => ⟨a, vs, n, rfl, q1, q2⟩
theorem allStr_VRs : ∀ {xs : List PV} {vs : List Value} {ys : List Str}, allStr xs = some ys → VRs S h g xs vs → StrsAre vs ys
  | [], _, _, e, r => r.eNil fun q => q ▸ (Option.some.inj e ▸ StrsAre.nil)
  | x :: xs, _, ys, e, r => r.eCons fun v vs q a b => by
    subst q
    replace e : (match x.asStr with | some s => (match allStr xs with | some r => some (s :: r) | none => none) | none => none) = some ys := e
    cases h1 : x.asStr with
    | none => rw [h1] at e; exact nos e
    | some z =>
      cases h2 : allStr xs with
      | none => rw [h1, h2] at e; exact nos e
      | some zs =>
        rw [h1, h2] at e
        obtain ⟨t, rfl⟩ := asStr_VR h1 a
        exact Option.some.inj e ▸ .cons _ _ (allStr_VRs h2 b)
set_option tactic.hygienic true in
theorem allInt_VRs : ∀ {xs : List PV} {vs : List Value} {ys : List Int}, allInt xs = some ys → VRs S h g xs vs → IntsAre vs ys
  | [], _, _, e, r => r.eNil fun q => q ▸ (Option.some.inj e ▸ IntsAre.nil)
  | x :: xs, _, ys, e, r => r.eCons fun v vs q a b => by
    subst q
    cases x
    case int i =>
      replace e : (match allInt xs with | some r => some (i :: r) | none => none) = some ys := e
      cases h2 : allInt xs with
      | none => rw [h2] at e; exact nos e
      | some zs =>
        rw [h2] at e
        exact a.eInt fun t q => q ▸ (Option.some.inj e ▸ .cons _ _ (allInt_VRs h2 b))
    all_goals exact nos e
theorem VRs_str : ∀ {vs : List Value} {ys : List Str}, StrsAre vs ys → VRs S h g (ys.map .str) vs
  | _, _, .nil => .nil
  | _, _, .cons _ _ r => .cons (.str _ _) (VRs_str r)
theorem VRs_int : ∀ {vs : List Value} {ys : List Int}, IntsAre vs ys → VRs S h g (ys.map .int) vs
  | _, _, .nil => .nil
  | _, _, .cons _ _ r => .cons (.int _ _) (VRs_int r)
theorem Pst.list {vs : List Value} {xs : List PV} {n : Nat} (I : Inv S s.heap s.toks g ph) (r : VRs S s.heap g xs vs) (hn : s.toks ≤ n) {k : Nat} :
    Pst S s g ph (.lst xs) ph (.ref s.heap.objs.size) { s with heap := s.heap.push (seqO "list" vs k), toks := n } :=
  Pst.grow I (fun a o e => Heap.get?_push_of_some _ e) hn (.lst (Heap.get?_push_size _ rfl) (show Fz S g _ from fresh_Fz I (none_size _)) (r.mono (Mono.push I (Nat.le_trans I.tk hn))))
theorem Pst.tuple {vs : List Value} {xs : List PV} {n : Nat} (I : Inv S s.heap s.toks g ph) (r : VRs S s.heap g xs vs) (hn : s.toks ≤ n) {k : Nat} :
    Pst S s g ph (.tup xs) ph (.ref s.heap.objs.size) { s with heap := s.heap.push (seqO "tuple" vs k), toks := n } :=
  Pst.grow I (fun a o e => Heap.get?_push_of_some _ e) hn (.tup (Heap.get?_push_size _ rfl) (show Fz S g _ from fresh_Fz I (none_size _)) (r.mono (Mono.push I (Nat.le_trans I.tk hn))))
theorem Pst.bool {b : Bool} (I : Inv S s.heap s.toks g ph) : Pst S s g ph (.bool b) ph (.bool b) s := Pst.same I (.bool b)
theorem Pst.int {t : Nat} (I : Inv S s.heap s.toks g ph) : Pst S s g ph (.int i) ph (.int i t) { s with toks := s.toks + 1 } := Pst.here I (Nat.le_succ _) (.int _ _)
theorem str_mk_append (x y : Str) : (⟨(x.cps.toList ++ y.cps.toList).toArray⟩ : Str) = x ++ y := by
  show _ = Str.append x y
  unfold Str.append
  congr 1
  apply Array.ext'
  simp
theorem toList_size (x : Str) : x.cps.toList.length = x.length := by simp [Str.length]
end
end Mine.Internal
end
section
open PySem PySem.W PyProof.Rows PySem.Calls
namespace Mine.Internal
section
variable {S : Stc} {A : Around} {s : Shared} {g : Gh} {ph : List PO} {h : Heap} {k : Nat} {a b v : PV} {va vb x : Value} {i j : Int} {y z : Str} {c : Bool} {xs ys : List PV}
noncomputable def BinOk (S : Stc) (op : Operator) (a b : PV) (ph : List PO) (v : PV) : Prop := ∀ {A : Around} {s : Shared} {g : Gh} {va vb : Value}, Inv S s.heap s.toks g ph → VR S s.heap g a va → VR S s.heap g b vb → wpAny (MS S) A (binaryOp op va vb) (Pst S s g ph v ph) NoE s
noncomputable def CmpOk (S : Stc) (op : CmpOp) (a b : PV) (ph : List PO) (c : Bool) : Prop := ∀ {A : Around} {s : Shared} {g : Gh} {va vb : Value}, A.units + 64 < cLine → Inv S s.heap s.toks g ph → VR S s.heap g a va → VR S s.heap g b vb → wpAny (MS S) A (compareOp op va vb) (Pst S s g ph (.bool c) ph) NoE s
theorem add_i (ea : asI a = some i) (eb : asI b = some j) : BinOk S .Add a b ph (.int (i + j)) := fun I ra rb => eI ea ra fun t => eI eb rb fun u => PyProof.Rows.add_int (Pst.int I)
theorem add_s (ea : a.asStr = some y) (eb : b.asStr = some z) (q : Nat.ble (y.cps.toList.length + z.cps.toList.length) 1000 = true) : BinOk S .Add a b ph (.str ⟨(y.cps.toList ++ z.cps.toList).toArray⟩) := fun I ra rb => eS ea ra fun t => eS eb rb fun u => by
  rw [str_mk_append]
  refine wpAny_up (PyProof.Rows.add_str (fun t' tk ht => Pst.here I ht (.str _ _)) ?_)
  rw [sizeLine_eq]
  exact Nat.le_trans (Nat.le_of_ble_eq_true q) (by decide)
theorem add_l (ea : seqOf ph a = some xs) (eb : seqOf ph b = some ys) (q : Nat.ble (xs.length + ys.length) 1000 = true) : BinOk S .Add a b ph (.lst (xs ++ ys)) := fun I ra rb => eSeq I ea ra fun l vs n q1 q2 => eSeq I eb rb fun l' vs' n' q1' q2' => by
  refine PySem.P.add_list q1 q1' ?_ ?_
  · have := Pst.list (k := 0) (n := _) I (q2.append q2') (Nat.le_refl _)
    simpa using this
  · rw [sizeLine_eq, List.size_toArray, List.size_toArray, q2.length, q2'.length]
    exact Nat.le_trans (Nat.le_of_ble_eq_true q) (by decide)
theorem sub_i (ea : asI a = some i) (eb : asI b = some j) : BinOk S .Sub a b ph (.int (i - j)) := fun I ra rb => eI ea ra fun t => eI eb rb fun u => PyProof.Rows.sub_int (Pst.int I)
theorem mul_i (ea : asI a = some i) (eb : asI b = some j) (q : smallI i = true) : BinOk S .Mult a b ph (.int (i * j)) := fun I ra rb => eI ea ra fun t => eI eb rb fun u => PyProof.Rows.mul_int (Pst.int I) (IntMulOk.of_left (bits_small q))
theorem fdiv_i (ea : asI a = some i) (eb : asI b = some j) (q : smallJ j = true) (q2 : (!(j == 0)) = true) : BinOk S .FloorDiv a b ph (.int (i.fdiv j)) := fun I ra rb => eI ea ra fun t => eI eb rb fun u =>
  PyProof.Rows.floordiv_int (fun z => by rw [z] at q2; cases q2) (Pst.int I) (.inl (PyProof.noPylong_small (of_decide_eq_true q)))
theorem mod_i (ea : asI a = some i) (eb : asI b = some j) (q : (!(j == 0)) = true) : BinOk S .Mod a b ph (.int (i.fmod j)) := fun I ra rb => eI ea ra fun t => eI eb rb fun u =>
  PyProof.Rows.mod_int' (fun z => by rw [z] at q; cases q) (Pst.int I)
theorem pow_i (ea : asI a = some i) (eb : asI b = some j) (q : smallI i = true) (q1 : decide (0 ≤ j) = true) (q2 : decide (j ≤ 64) = true) : BinOk S .Pow a b ph (.int (i ^ j.toNat)) := fun I ra rb => eI ea ra fun t => eI eb rb fun u => by
  refine PyProof.Rows.pow_int (of_decide_eq_true q1) ?_ (Pst.int I)
  have hb := bits_small q
  have : (Builtin.Int.intBits i : Int) * j ≤ 64 * 64 := Int.mul_le_mul (by omega) (of_decide_eq_true q2) (of_decide_eq_true q1) (by decide)
  exact Int.le_trans this (by decide)
theorem int2_ok {op : Operator} {f : Int → Int → Option Int} (h : ∀ {i j k}, asI a = some i → asI b = some j → f i j = some k → BinOk S op a b ph (.int k)) (e : int2 f a b = some v) : BinOk S op a b ph v := iI e fun i ha e => iI e fun j hb e => iI e fun k hk e => sp1 e fun q => q ▸ h ha hb hk
theorem bin_ok : ∀ {op : Operator}, binP op a b ph = some v → BinOk S op a b ph v
  | .Add, e => oI e (fun i ha e => iI e fun j hb e => sp1 e fun q => q ▸ add_i ha hb) fun j9 e => oS e (fun y ha e => iS e fun z hb e => iT e fun h e => sp1 e fun q => q ▸ add_s ha hb h) fun j9 e => iL e fun xs ha e => iL e fun ys hb e => iT e fun h e => sp1 e fun q => q ▸ add_l ha hb h
  | .Sub, e => int2_ok (fun ha hb e => sp1 e fun q => q ▸ sub_i ha hb) e
  | .Mult, e => int2_ok (fun ha hb e => iT e fun h e => sp1 e fun q => q ▸ mul_i ha hb h) e
  | .FloorDiv, e => int2_ok (fun ha hb e => iT e fun h e => sp1 e fun q => q ▸ (Bool.and_eq_true_iff.mp h).elim fun h1 h2 => fdiv_i ha hb h1 h2) e
  | .Mod, e => int2_ok (f := fmodI) (fun {i j k} ha hb e => by
    unfold fmodI at e
    cases h : j == 0 with
    | true => rw [h] at e; exact nos e
    | false => rw [h] at e; exact sp1 e fun q => q ▸ mod_i ha hb (by rw [h]; rfl)) e
  | .Pow, e => int2_ok (fun ha hb e => iT e fun h e => sp1 e fun q => q ▸ (Bool.and_eq_true_iff.mp h).elim fun h1 h2 => (Bool.and_eq_true_iff.mp h1).elim fun h0 h1 => pow_i ha hb h0 h1 h2) e
  | .Div, e | .MatMult, e | .LShift, e | .RShift, e | .BitOr, e | .BitXor, e | .BitAnd, e => nos e
end
end Mine.Internal
end
section
open PySem PySem.W PyProof.Rows PySem.Calls
namespace Mine.Internal
section
variable {S : Stc} {A : Around} {s : Shared} {g : Gh} {ph : List PO} {h : Heap} {k : Nat} {a b v : PV} {va vb x : Value} {i j : Int} {y z : Str} {c d : Bool} {xs ys : List PV}
noncomputable def Cmp2 (S : Stc) (op no : CmpOp) (a b : PV) (ph : List PO) (c : Bool) : Prop := CmpOk S op a b ph c ∧ CmpOk S no a b ph (!c)
theorem eq_i (ea : asI a = some i) (eb : asI b = some j) : Cmp2 S .Eq .NotEq a b ph (i == j) := ⟨fun j9 I ra rb => eI ea ra fun t => eI eb rb fun u => PyProof.Rows.eq_int (Pst.bool I), fun j9 I ra rb => eI ea ra fun t => eI eb rb fun u => PyProof.Rows.ne_int (Pst.bool I)⟩
theorem eq_s (ea : a.asStr = some y) (eb : b.asStr = some z) : Cmp2 S .Eq .NotEq a b ph (sEq y z) := by
  rw [sEq_eq]
  exact ⟨fun j9 I ra rb => eS ea ra fun t => eS eb rb fun u => PyProof.Rows.eq_str (Pst.bool I), fun j9 I ra rb => eS ea ra fun t => eS eb rb fun u => PyProof.Rows.ne_str (Pst.bool I)⟩
theorem eq_b : Cmp2 S .Eq .NotEq (.bool c) (.bool d) ph (c == d) := ⟨fun j9 I ra rb => by
  rw [← show PV.bool c = .bool c from rfl] at ra; cases ra.inv; cases rb.inv; exact PyProof.Rows.eq_bool (Pst.bool I), fun j9 I ra rb => by cases ra.inv; cases rb.inv; exact PyProof.Rows.ne_bool (Pst.bool I)⟩
theorem readsAll_mapO {f : PV → Option PyData} (hf : ∀ v x d, f v = some d → VR S h g v x → ∃ as, Reads h x d as) :
    ∀ {xs : List PV} {vs : List Value} {ds : List PyData}, mapO f xs = some ds → VRs S h g xs vs → ∃ as, ReadsAll h vs ds as
  | [], _, _, e, r => r.eNil fun q => q ▸ (Option.some.inj e ▸ ⟨_, .nil⟩)
  | x :: xs, _, ds, e, r => r.eCons fun v vs q a b => by
    subst q
    unfold mapO at e
    cases h1 : f x with
    | none => rw [h1] at e; exact nos e
    | some z =>
      cases h2 : mapO f xs with
      | none => rw [h1, h2] at e; exact nos e
      | some zs =>
        rw [h1, h2] at e
        obtain ⟨as, ha⟩ := hf _ _ _ h1 a
        obtain ⟨bs, hb⟩ := readsAll_mapO hf h2 b
        exact Option.some.inj e ▸ ⟨_, .cons ha hb⟩
set_option tactic.hygienic true in
theorem dataOf_reads (I : Inv S h k g ph) : ∀ (n : Nat) (v : PV) (x : Value) (d : PyData), dataOf ph n v = some d → VR S h g v x → ∃ as, Reads h x d as
  | 0, _, _, _, e, _ => nos e
  | n + 1, v, x, d, e, r => by
    have lst : ∀ {a : Addr} {vs : List Value} {k' : Nat} {ys : List PV}, h.get? a = some (seqO "list" vs k') → VRs S h g ys vs → (mapO (dataOf ph n) ys).map .list = some d → ∃ as, Reads h (.ref a) d as := fun q1 q2 e => by
      cases hm : mapO (dataOf ph n) _ with
      | none => rw [hm] at e; exact nos e
      | some ds =>
        rw [hm] at e
        obtain ⟨as, ha⟩ := readsAll_mapO (dataOf_reads I n) hm q2
        exact Option.some.inj e ▸ ⟨_, .list q1 rfl rfl (by simpa using ha)⟩
    cases v
    case none => exact r.eNone fun q => q ▸ (Option.some.inj e ▸ ⟨_, .none⟩)
    case bool b => exact r.eBool fun q => q ▸ (Option.some.inj e ▸ ⟨_, .bool _⟩)
    case int b => exact r.eInt fun t q => q ▸ (Option.some.inj e ▸ ⟨_, .int _ _⟩)
    case str b => exact r.eStr fun t q => q ▸ (Option.some.inj e ▸ ⟨_, .str _ _⟩)
    case strg b => exact r.eStrg fun t q j9 j9 => q ▸ (Option.some.inj e ▸ ⟨_, .str _ _⟩)
    case lst ys => exact r.eLst fun a vs k' q q1 j9 q2 => q ▸ lst q1 q2 e
    case obj m =>
      replace e : (match ph[m]? with | some (.list xs) => (mapO (dataOf ph n) xs).map .list | _ => none) = some d := e
      cases hp : ph[m]? with
      | none => rw [hp] at e; exact nos e
      | some po =>
        rw [hp] at e
        cases po
        case list ys => exact r.eObj fun a q e2 => q ▸ (let ⟨vs, k', q1, q2⟩ := I.obj _ _ _ hp e2; lst q1 q2 e)
        all_goals exact nos e
    all_goals exact nos e
theorem eq_d {p q : PyData} (ea : dataOf ph 8 a = some p) (eb : dataOf ph 8 b = some q) (h1 : SeqAt.shaped p = true) (h2 : SeqAt.shaped q = true) : Cmp2 S .Eq .NotEq a b ph (PyData.eqv p q) :=
  ⟨fun hA I ra rb => let ⟨_, r1⟩ := dataOf_reads I _ _ _ _ ea ra; let ⟨_, r2⟩ := dataOf_reads I _ _ _ _ eb rb; PyProof.Rows.eq_dataH r1 r2 h1 h2 hA (Pst.bool I),
   fun hA I ra rb => let ⟨_, r1⟩ := dataOf_reads I _ _ _ _ ea ra; let ⟨_, r2⟩ := dataOf_reads I _ _ _ _ eb rb; PyProof.Rows.ne_dataH r1 r2 h1 h2 hA (Pst.bool I)⟩
theorem in_s (ea : a.asStr = some y) (eb : b.asStr = some z) : CmpOk S .In a b ph (strIn z y) := fun j9 I ra rb => eS ea ra fun t => eS eb rb fun u => PyProof.Rows.in_str (Pst.bool I)
theorem isNo_VR (e : isNo a = some c) (r : VR S h g a x) : (x == .none) = c := by
  cases a
  case none => exact r.eNone fun q => q ▸ Option.some.inj e
  case str => exact r.eStr fun t q => q ▸ Option.some.inj e
  case strg => exact r.eStrg fun t q j9 j9 => q ▸ Option.some.inj e
  case obj => exact r.eObj fun t q j9 => q ▸ Option.some.inj e
  case lst => exact r.eLst fun j9 j9 j9 q j9 j9 j9 => q ▸ Option.some.inj e
  all_goals exact nos e
theorem is_n (e : isNo a = some c) : Cmp2 S .Is .IsNot a .none ph c :=
  ⟨fun j9 I ra rb => rb.eNone fun q => by subst q; rw [← isNo_VR e ra]; exact is_none (Pst.bool I), fun j9 I ra rb => rb.eNone fun q => by subst q; rw [← isNo_VR e ra]; exact isNot_none (Pst.bool I)⟩
theorem asBool_eq (e : asBool v = some c) : v = .bool c := by
  cases v
  case bool => exact congrArg _ (Option.some.inj e)
  all_goals exact nos e
theorem eqP_ok (e : eqP a b ph = some c) : Cmp2 S .Eq .NotEq a b ph c :=
  oI e (fun i ha e => iI e fun j hb e => sp1 e fun q => q ▸ eq_i ha hb) fun j9 e => oS e (fun y ha e => iS e fun z hb e => sp1 e fun q => q ▸ eq_s ha hb) fun j9 e =>
    iL e fun j9 j9 e => iL e fun j9 j9 e => iD e fun p ha e => iD e fun q hb e => iT e fun h e => sp1 e fun z => z ▸ (Bool.and_eq_true_iff.mp h).elim fun h1 h2 => eq_d ha hb h1 h2
theorem inP_ok (e : inP a b = some c) : CmpOk S .In a b ph c := iS e fun y ha e => iS e fun z hb e => sp1 e fun q => q ▸ in_s ha hb
theorem isP_ok (e : isP a b = some c) : Cmp2 S .Is .IsNot a b ph c := by
  cases b
  case none => exact is_n e
  all_goals exact nos e
theorem notO_ok {o : Option Bool} {op no : CmpOp} (h : ∀ {c}, o = some c → Cmp2 S op no a b ph c) (e : notO o = some c) : CmpOk S no a b ph c := iBo e fun d hd e => sp1 e fun q => q ▸ (h hd).2
theorem lt_i (ea : asI a = some i) (eb : asI b = some j) : CmpOk S .Lt a b ph (decide (i < j)) := fun j9 I ra rb => eI ea ra fun t => eI eb rb fun u => PyProof.Rows.lt_int (Pst.bool I)
theorem le_i (ea : asI a = some i) (eb : asI b = some j) : CmpOk S .LtE a b ph (decide (i ≤ j)) := fun j9 I ra rb => eI ea ra fun t => eI eb rb fun u => PyProof.Rows.le_int (Pst.bool I)
theorem gt_i (ea : asI a = some i) (eb : asI b = some j) : CmpOk S .Gt a b ph (decide (i > j)) := fun j9 I ra rb => eI ea ra fun t => eI eb rb fun u => PyProof.Rows.gt_int (Pst.bool I)
theorem ge_i (ea : asI a = some i) (eb : asI b = some j) : CmpOk S .GtE a b ph (decide (i ≥ j)) := fun j9 I ra rb => eI ea ra fun t => eI eb rb fun u => PyProof.Rows.ge_int (Pst.bool I)
theorem ordP_ok {op : CmpOp} {f : Int → Int → Bool} (h : ∀ {i j}, asI a = some i → asI b = some j → CmpOk S op a b ph (f i j)) (e : ordP f a b = some c) : CmpOk S op a b ph c := iI e fun i ha e => iI e fun j hb e => sp1 e fun q => q ▸ h ha hb
theorem cmp_ok : ∀ {op : CmpOp}, cmpP op a b ph = some c → CmpOk S op a b ph c
  | .Eq, e => (eqP_ok e).1
  | .NotEq, e => notO_ok eqP_ok e
  | .In, e => inP_ok e
  | .NotIn, e => nos e
  | .Is, e => (isP_ok e).1
  | .IsNot, e => notO_ok isP_ok e
  | .Lt, e => ordP_ok lt_i e
  | .LtE, e => ordP_ok le_i e
  | .Gt, e => ordP_ok gt_i e
  | .GtE, e => ordP_ok ge_i e
end
end Mine.Internal
end
section
open PySem PySem.W PyProof.Rows PySem.Calls
namespace Mine.Internal
section
variable {S : Stc} {A : Around} {s : Shared} {g : Gh} {ph : List PO} {h : Heap} {k : Nat} {a b v o : PV} {va vb x : Value} {i j : Int} {y z : Str} {c d : Bool} {xs ys : List PV}
noncomputable def TruthOk (S : Stc) (v : PV) (ph : List PO) (b : Bool) : Prop := ∀ {A : Around} {s : Shared} {g : Gh} {x : Value}, Inv S s.heap s.toks g ph → VR S s.heap g v x → wpAny (MS S) A (truthy x) (fun c s' => c = b ∧ Pst S s g ph v ph x s') NoE s
noncomputable def HasItems (s : Shared) (x : Value) : Prop := ∃ T id, s.TypeIs x T ∧ typeLookup (.type T) "__getitem__" = pure (some (.builtin id))
noncomputable def ItemOk (S : Stc) (o i : PV) (ph : List PO) (v : PV) : Prop := ∀ {A : Around} {s : Shared} {g : Gh} {xo xi : Value}, Inv S s.heap s.toks g ph → VR S s.heap g o xo → VR S s.heap g i xi → HasItems s xo ∧ wpAny (MS S) A (getItem xo xi) (Pst S s g ph v ph) NoE s
theorem strT_len (e : strT y.cps.toList = some c) : y.length ≤ 1001 ∧ c = ((y.length : Int) != 0) := by
  rw [← toList_size y]
  generalize y.cps.toList = l at e
  cases l with
  | nil => exact ⟨by decide, (Option.some.inj e).symm⟩
  | cons q l =>
    replace e : (match Nat.ble l.length 1000 with | true => some true | false => none) = some c := e
    cases h : Nat.ble l.length 1000 with
    | false => rw [h] at e; exact nos e
    | true =>
      rw [h] at e
      exact ⟨Nat.succ_le_succ (Nat.le_of_ble_eq_true h), (Option.some.inj e).symm.trans (by symm; simp only [List.length_cons, bne_iff_ne, ne_eq]; omega)⟩
theorem truth_s (e : strT y.cps.toList = some c) : TruthOk S (.str y) ph c := fun I r => by
  obtain ⟨h1, rfl⟩ := strT_len e
  exact r.eStr fun t q => by subst q; exact PySem.P.truthy_str (by omega) ⟨rfl, Pst.here I (Nat.le_add_right _ 2) (.str _ _)⟩
theorem truth_g (e : strT y.cps.toList = some c) : TruthOk S (.strg y) ph c := fun I r => by
  obtain ⟨h1, rfl⟩ := strT_len e
  exact r.eStrg fun t q h3 h2 => by subst q; exact PySem.P.truthy_str (by omega) ⟨rfl, Pst.here I (Nat.le_add_right _ 2) (.strg h3 (Nat.lt_of_lt_of_le h2 (Nat.le_trans I.tk (Nat.le_add_right _ 2))))⟩
set_option tactic.hygienic true in
theorem truth_ok (e : truthP v = some c) : TruthOk S v ph c := by
  cases v
  case none => exact sp1 e fun q => q ▸ fun I r => r.eNone fun q => q ▸ PyProof.Rows.truthy_none ⟨rfl, Pst.same I .none⟩
  case bool b => exact sp1 e fun q => q ▸ fun I r => r.eBool fun q => q ▸ wpAny_truthy_bool ⟨rfl, Pst.same I (.bool _)⟩
  case int i => exact sp1 e fun q => q ▸ fun I r => r.eInt fun t q => q ▸ PyProof.Rows.truthy_int ⟨rfl, Pst.same I (.int _ _)⟩
  case str y => exact truth_s e
  case strg y => exact truth_g e
  all_goals exact nos e
theorem atP_idx {α : Type} {xs : List α} {x : α} (e : atP xs i = some x) : ∃ j, seqIndex? i xs.length = some j ∧ xs[j]? = some x := by
  unfold atP at e
  unfold seqIndex?
  by_cases h : 0 ≤ i
  · rw [if_pos h] at e
    have hl := (List.getElem?_eq_some_iff.mp e).1
    refine ⟨i.toNat, ?_, e⟩
    have h1 : ¬ i < 0 := Int.not_lt.mpr h
    simp only [h1, if_false]
    rw [if_pos]
    simp only [Bool.and_eq_true, decide_eq_true_eq]
    omega
  · rw [if_neg h] at e
    by_cases h2 : -(xs.length : Int) ≤ i
    · rw [if_pos h2] at e
      refine ⟨(i + xs.length).toNat, ?_, e⟩
      have h1 : i < 0 := Int.not_le.mp h
      simp only [h1, if_true]
      rw [if_pos]
      simp only [Bool.and_eq_true, decide_eq_true_eq]
      omega
    · rw [if_neg h2] at e; exact nos e
theorem lookup_valueAt : ∀ {es : List (Str × PV)} {kvs : List (Str × Value)} {y : Str} {v : PV}, kvs.map (·.1) = es.map (·.1) → VRs S h g (es.map (·.2)) (kvs.map (·.2)) → look y es = some v → ∃ x, valueAt kvs y = some x ∧ VR S h g v x
  | [], _, _, _, _, _, e => nos e
  | (k', u) :: es, [], y, v, q, r, e => nomatch (show ([] : List Str) = _ :: _ from q)
  | (k', u) :: es, (k'', w) :: kvs, y, v, q, r, e => by
    simp only [List.map_cons, List.cons.injEq] at q
    obtain ⟨rfl, q⟩ := q
    refine r.eCons fun x vs e1 a b => ?_
    obtain ⟨rfl, rfl⟩ := List.cons.inj e1
    unfold look at e
    rw [nEq_eq] at e
    unfold valueAt
    by_cases hk : y = k''
    · subst hk
      rw [beq_self_eq_true] at e
      exact ⟨x, by simp, Option.some.inj e ▸ a⟩
    · rw [beq_eq_false_iff_ne.mpr hk] at e
      obtain ⟨x, h1, h2⟩ := lookup_valueAt q b e
      refine ⟨x, ?_, h2⟩
      simp only [List.find?_cons, decide_eq_false (show ¬ k'' = y from fun z => hk z.symm)]
      exact h1
theorem item_str (eo : o.asStr = some y) (q : smallI i = true) {w : Nat} (e : atP y.cps.toList i = some w) : ItemOk S o (.int i) ph (.str ⟨#[w]⟩) := fun {A s g xo xi} I ro ri => eS eo ro fun t => eI (i := i) rfl ri fun tk => by
  obtain ⟨j, h1, h2⟩ := atP_idx e
  refine ⟨⟨"str", _, typeIs_str s y t, PySem.F.slot_str_getitem.lookup⟩, ?_⟩
  refine PyProof.Rows.getItem_str (c := w) (by have := smallI_iff.mp q; simp; omega) ?_ (Pst.here I (Nat.le_succ _) (.str _ _))
  rw [toList_size] at h1
  rw [h1, Option.bind_some, ← Array.getElem?_toList]
  exact h2
theorem item_tup (q : smallI i = true) (e : atP xs i = some v) : ItemOk S (.tup xs) (.int i) ph v := fun {A s g xo xi} I ro ri => eI (i := i) rfl ri fun tk => ro.eTup fun a vs n q0 h1 h2 h3 => by
  subst q0
  have hb := smallI_iff.mp q
  obtain ⟨j, q1, q2⟩ := atP_idx e
  obtain ⟨x, q3, q4⟩ := h3.get q2
  refine ⟨⟨"tuple", _, ⟨_, h1, rfl⟩, PySem.F.slot_tuple_getitem.lookup⟩, ?_⟩
  refine PyProof.Rows.getItem_tuple (j := j) (x := x) ⟨_, h1, rfl, _, rfl⟩ (by omega) (by omega) ?_ ?_ (Pst.same I q4)
  · simp only [List.size_toArray, h3.length]; exact q1
  · simpa using q3
theorem item_list (eo : seqOf ph o = some xs) (q : smallI i = true) (e : atP xs i = some v) : ItemOk S o (.int i) ph v := fun {A s g xo xi} I ro ri => by
  obtain ⟨l, vs, n, rfl, q1, q2⟩ := seqOf_VR I eo ro
  refine eI (i := i) rfl ri fun tk => ?_
  have hb := smallI_iff.mp q
  refine ⟨⟨"list", _, ⟨_, q1, rfl⟩, slot_list_getitem.lookup⟩, ?_⟩
  unfold atP at e
  by_cases h0 : 0 ≤ i
  · rw [if_pos h0] at e
    obtain ⟨x, q3, q4⟩ := q2.get e
    exact wpAny_getItem_list ⟨_, q1, rfl, _, rfl⟩ h0 (by omega) (by simpa using q3) (Pst.same I q4)
  · rw [if_neg h0] at e
    by_cases h1 : -(xs.length : Int) ≤ i
    · rw [if_pos h1] at e
      obtain ⟨x, q3, q4⟩ := q2.get e
      refine wpAny_getItem_list_neg ⟨_, q1, rfl, _, rfl⟩ (Int.not_le.mp h0) ?_ (by omega) (x := x) ?_ (Pst.same I q4)
      · simp only [List.size_toArray, q2.length]; exact h1
      · simp only [List.size_toArray, q2.length, List.getElem?_toArray]; exact q3
    · rw [if_neg h1] at e; exact nos e
set_option tactic.hygienic true in
theorem entsOf_VR {es : List (Str × PV)} (I : Inv S h k g ph) (e : entsOf ph o = some es) (r : VR S h g o x) : ∃ a kvs ep, x = .ref a ∧ h.DictAt (strKind S.prog S.w) a kvs ep ∧ kvs.map (·.1) = es.map (·.1) ∧ VRs S h g (es.map (·.2)) (kvs.map (·.2)) ∧ S.h₀.get? a = none := by
  cases o
  case dct => exact r.eDct fun a kvs ep q hd j9 hn hq hr => Option.some.inj e ▸ ⟨_, _, _, q.symm, hd, hq, hr, hn⟩
  case obj m =>
    replace e : (match ph[m]? with | some (.dict es) => some es | _ => none) = some es := e
    cases hp : ph[m]? with
    | none => rw [hp] at e; exact nos e
    | some po =>
      rw [hp] at e
      cases po
      case dict ys => exact r.eObj fun a q e2 => let ⟨kvs, ep, h1, h2, h3⟩ := I.obj _ _ _ hp e2; Option.some.inj e ▸ ⟨a, kvs, ep, q.symm, h1, h2, h3, I.lo _ (List.mem_of_getElem? e2)⟩
      all_goals exact nos e
  all_goals exact nos e
theorem item_key {es : List (Str × PV)} (eo : entsOf ph o = some es) (ei : a.asStr = some y) (e : look y es = some v) : ItemOk S o a ph v := fun {A s g xo xi} I ro ri => by
  obtain ⟨l, kvs, ep, rfl, hd, hq, hr, _⟩ := entsOf_VR I eo ro
  refine eS ei ri fun t => ?_
  obtain ⟨x, h1, h2⟩ := lookup_valueAt hq hr e
  refine ⟨⟨"dict", _, hd.dictOf.typeIs, slot_dict_getitem.lookup⟩, ?_⟩
  refine wpAny_getItem_of (knd := strKind S.prog S.w) (k := y) ?_ hd.dictOf.mapOf h1 (Pst.here I (Nat.le_succ _) (h2.mono (Mono.grow (fun j9 j9 e => e) (Nat.le_trans I.tk (Nat.le_succ _)))))
  show Value.isStrOf y (.str y t) = true
  simp [Value.isStrOf]
theorem itemI_ok (e : itemI o i ph = some v) : ItemOk S o (.int i) ph v := iF e fun q e => oS e (fun y ho e => iN e fun w h e => sp1 e fun z => z ▸ item_str ho q h) fun j9 e => oL e (fun xs ho e => by
  cases o
  case tup ys => exact item_tup q (Option.some.inj ho ▸ e)
  all_goals exact nos ho) fun j9 e => iL e fun xs ho e => item_list ho q e
theorem item_ok (e : itemP o a ph = some v) : ItemOk S o a ph v := oI e (fun i ha e => asI_eq ha ▸ itemI_ok e) fun j9 e => iS e fun y ha e => iE e fun es ho e => item_key ho ha e
end
end Mine.Internal
end
section
open PySem PySem.W PyProof.Rows PySem.Calls
namespace Mine.Internal
section
variable {S : Stc} {A : Around} {s : Shared} {g : Gh} {ph : List PO} {h : Heap} {k sl : Addr} {a b v o vl vh : PV} {va vb x xl xh : Value} {i j : Int} {y z : Str} {c d : Bool} {xs ys : List PV} {lo hi l : Option Int}
noncomputable def SliceOk (S : Stc) (o vl vh : PV) (ph : List PO) (v : PV) : Prop := ∀ {A : Around} {s : Shared} {g : Gh} {xo xl xh : Value} {sl : Addr}, Inv S s.heap s.toks g ph → VR S s.heap g o xo → VR S s.heap g vl xl → VR S s.heap g vh xh →
  s.heap.get? sl = some { cls := .type "slice", data := .fields #[xl, xh, .none] } → HasItems s xo ∧ wpAny (MS S) A (getItem xo (.ref sl)) (Pst S s g ph v ph) NoE s
set_option tactic.hygienic true in
theorem part_VR (e : partP v = some l) (r : VR S h g v x) : ∃ l', l = l'.map (·.1) ∧ x = partValue l' := by
  cases v
  case none => exact r.eNone fun q => q ▸ (Option.some.inj e ▸ ⟨none, rfl, rfl⟩)
  case int i => exact r.eInt fun t q => q ▸ (Option.some.inj e ▸ ⟨some (_, _), rfl, rfl⟩)
  all_goals exact nos e
set_option tactic.hygienic true in
theorem part_is (e : partP v = some l) (r : VR S h g v x) : IsPart x l := by
  cases v
  case none => exact r.eNone fun q => q ▸ (Option.some.inj e ▸ .none)
  case int i => exact r.eInt fun t q => q ▸ (Option.some.inj e ▸ .int _ _)
  all_goals exact nos e
theorem slicePick_map {vs : List Value} (r : VRs S h g xs vs) (lo hi : Option Int) : VRs S h g (slicePickP xs lo hi) (slicePick vs.toArray lo hi none).toList := by
  unfold slicePickP slicePick
  simp only [List.size_toArray, r.length]
  generalize sliceRange _ _ _ = idx
  induction idx with
  | nil => exact .nil
  | cons i r' ih =>
    simp only [List.filterMap_cons, List.getElem?_toArray] at ih ⊢
    cases hx : xs[i]? with
    | none =>
      have : vs[i]? = none := by
        rw [List.getElem?_eq_none_iff] at hx ⊢; rw [r.length]; exact hx
      simp only [this]
      exact ih
    | some x =>
      obtain ⟨v, q1, q2⟩ := r.get hx
      simp only [q1]
      exact .cons q2 ih
set_option tactic.hygienic true in
theorem slice_str (eo : o.asStr = some y) (el : partP vl = some lo) (eh : partP vh = some hi) (q : Nat.ble y.cps.toList.length 1000 = true) : SliceOk S o vl vh ph (.str (Txt.slice y lo hi)) := fun {A s g xo xl xh sl} I ro rl rh hs => eS eo ro fun t => by
  have hlen := Nat.le_of_ble_eq_true q
  rw [toList_size] at hlen
  obtain ⟨l', rfl, rfl⟩ := part_VR el rl
  obtain ⟨h', rfl, rfl⟩ := part_VR eh rh
  refine ⟨⟨"str", _, typeIs_str s y t, PySem.F.slot_str_getitem.lookup⟩, ?_⟩
  refine wpAny_up (wpAny_getItem_str_slice (l := l') (u := h') (st := none) ⟨_, hs, rfl, rfl⟩ rfl ?_)
  have hle := Txt.slice_le y (l'.map (·.1)) (h'.map (·.1))
  unfold sliceMade slicePicked
  unfold Txt.slice at hle ⊢
  simp only [Option.map_none, Option.getD_none]
  split
  · intro ht; exact Pst.same I (.str _ _)
  · rename_i hc
    rw [if_neg hc] at hle
    refine ⟨by rw [sizeLine_eq]; omega, fun ht => Pst.here I (Nat.le_succ _) (.str _ _)⟩
theorem slice_list (eo : seqOf ph o = some xs) (el : partP vl = some lo) (eh : partP vh = some hi) (q : Nat.ble xs.length 1000 = true) : SliceOk S o vl vh ph (.lst (slicePickP xs lo hi)) := fun {A s g xo xl xh sl} I ro rl rh hs => by
  obtain ⟨l, vs, n, rfl, q1, q2⟩ := seqOf_VR I eo ro
  refine ⟨⟨"list", _, ⟨_, q1, rfl⟩, slot_list_getitem.lookup⟩, ?_⟩
  refine wpAny_getItem_list_slice ⟨_, q1, rfl, _, rfl⟩ ⟨_, hs, rfl, rfl⟩ (part_is el rl) (part_is eh rh) .none (by simp) ?_ ?_
  · have := Pst.list (k := 0) I (slicePick_map q2 lo hi) (Nat.le_refl _)
    simpa using this
  · rw [sizeLine_eq, List.size_toArray, q2.length]; exact Nat.le_trans (Nat.le_of_ble_eq_true q) (by decide)
theorem slice_ok (el : partP vl = some lo) (eh : partP vh = some hi) (e : sliceP o lo hi ph = some v) : SliceOk S o vl vh ph v :=
  oS e (fun y ho e => iT e fun q e => sp1 e fun z => z ▸ slice_str ho el eh q) fun j9 e => iL e fun xs ho e => iIf e fun q e => sp1 e fun z => z ▸ slice_list ho el eh (Nat.ble_eq.mpr q)
end
end Mine.Internal
end
section
open PySem PySem.W PyProof.Rows PySem.Calls
namespace Mine.Internal
section
variable {S : Stc} {h h' : Heap} {k k' m : Nat} {g : Gh} {ph : List PO} {a : Addr} {n : Nat} {po po' : PO}
theorem put_mono (I : Inv S h k g ph) (hn : g.ρ[n]? = some a) (hs : ∀ b o, b ≠ a → h.get? b = some o → h'.get? b = some o) (hm : g.tk ≤ m) : Mono S h g h' { g with tk := m } :=
  ⟨fun b o e f => hs b o (fun q => f.1 (q ▸ List.mem_of_getElem? hn)) e, fun j9 j9 j9 f => f, fun j9 j9 e => e, hm⟩
theorem Inv.put (I : Inv S h k g ph) (hn : g.ρ[n]? = some a) (hl : ph[n]? = some po) (hs : ∀ b o, b ≠ a → h.get? b = some o → h'.get? b = some o) (hm : g.tk ≤ m) (hk : m ≤ k')
    (hor : OR S h' { g with tk := m } po' a) : Inv S h' k' { g with tk := m } (ph.set n po') := by
  have M := put_mono I hn hs hm
  have ha : a ∈ g.ρ := List.mem_of_getElem? hn
  refine ⟨Nat.lt_of_lt_of_le I.tk0 hm, hk, I.keepTop fun b o e n1 j9 j9 => hs b o (fun q => n1 (q ▸ ha)) e, I.keepOld fun b o e n1 j9 => hs b o (fun q => n1 (q ▸ ha)) e, by rw [List.length_set]; exact I.len, I.nd, I.lo, fun j pj b e1 e2 => ?_, fun b hb => ?_⟩
  · by_cases hj : n = j
    · subst hj
      have : b = a := Option.some.inj (e2.symm.trans hn)
      subst this
      rw [List.getElem?_set] at e1
      simp only [if_true] at e1
      split at e1
      · cases e1; exact hor
      · cases e1
    · rw [List.getElem?_set_ne hj] at e1
      have hba : b ≠ a := fun q => hj (nodup_idx I.nd hn (q ▸ e2))
      exact (I.obj j pj b e1 e2).mono M (fun o ho => hs b o hba ho)
  · obtain ⟨⟨o, ho⟩, r⟩ := I.xi b hb
    exact ⟨⟨o, hs b o (fun q => r.1 (q ▸ ha)) ho⟩, r⟩
theorem Step.put {X} (I : Inv S h k g ph) (hn : g.ρ[n]? = some a) (hl : ph[n]? = some po) (hpo : po ≠ .lock) (hpo' : po' ≠ .lock) (hs : ∀ b o, b ≠ a → h.get? b = some o → h'.get? b = some o) (hm : g.tk ≤ m) (hX : ∀ b ∈ X, b ∈ g.ξ) :
    Step S X h g ph h' { g with tk := m } (ph.set n po') := by
  have ha : a ∈ g.ρ := List.mem_of_getElem? hn
  refine ⟨fun b o e nm j9 j9 => hs b o (fun q => nm ⟨n, q ▸ hn, by rw [hl]; exact fun z => hpo (Option.some.inj z)⟩) e, ⟨[], by simp⟩, rfl, fun b m' n' => absurd m' n', fun j hj => ?_, fun b hb ⟨o, ho⟩ => ?_, hm⟩
  · by_cases hnj : n = j
    · subst hnj
      rw [hl, List.getElem?_set]
      simp only [if_true]
      constructor
      · intro q; exact absurd (Option.some.inj q) hpo
      · intro q
        split at q
        · exact absurd (Option.some.inj q) hpo'
        · cases q
    · rw [List.getElem?_set_ne hnj]
  · exact ⟨o, hs b o (fun q => (I.xi b (hX b hb)).2.1 (q ▸ ha)) ho⟩
theorem new_mono (I : Inv S h k g ph) (e0 : h.get? a = none) (kp : ∀ b o, h.get? b = some o → h'.get? b = some o) (hm : g.tk ≤ m) : Mono S h g h' ⟨g.ρ ++ [a], g.ξ, m⟩ :=
  ⟨fun b o e j9 => kp b o e, fun b o e f => ⟨fun q => (by
    rcases List.mem_append.mp q with q | q
    · exact f.1 q
    · rw [List.mem_singleton.mp q] at e; rw [e0] at e; cases e), f.2.1, f.2.2⟩, fun j b e => by
    show (g.ρ ++ [a])[j]? = _
    rw [List.getElem?_append_left (List.getElem?_eq_some_iff.mp e).1]; exact e, hm⟩
theorem Inv.new (I : Inv S h k g ph) (e0 : h.get? a = none) (kp : ∀ b o, h.get? b = some o → h'.get? b = some o) (hm : g.tk ≤ m) (hk : m ≤ k') (hor : OR S h' ⟨g.ρ ++ [a], g.ξ, m⟩ po a) :
    Inv S h' k' ⟨g.ρ ++ [a], g.ξ, m⟩ (ph ++ [po]) := by
  have M := new_mono I e0 kp hm
  obtain ⟨f1, f2, f3, f4⟩ := I.fresh e0
  refine ⟨Nat.lt_of_lt_of_le I.tk0 hm, hk, I.keepTop fun b o e j9 j9 j9 => kp b o e, I.keepOld fun b o e j9 j9 => kp b o e, by simp [I.len], ?_, fun b hb => ?_, fun j pj b e1 e2 => ?_, fun b hb => ?_⟩
  · rw [List.nodup_append]
    refine ⟨I.nd, by simp, fun x hx y hy e => ?_⟩
    rw [List.mem_singleton] at hy
    exact f1 (hy ▸ e ▸ hx)
  · rcases List.mem_append.mp hb with q | q
    · exact I.lo b q
    · rw [List.mem_singleton.mp q]; exact f4
  · by_cases hj : j < ph.length
    · rw [List.getElem?_append_left hj] at e1
      rw [show (⟨g.ρ ++ [a], g.ξ, m⟩ : Gh).ρ = g.ρ ++ [a] from rfl, List.getElem?_append_left (by rw [I.len]; exact hj)] at e2
      exact (I.obj j pj b e1 e2).mono M (fun o ho => kp b o ho)
    · have hlj : j = ph.length := by
        have := (List.getElem?_eq_some_iff.mp e1).1
        simp at this; omega
      subst hlj
      rw [show (⟨g.ρ ++ [a], g.ξ, m⟩ : Gh).ρ = g.ρ ++ [a] from rfl, ← I.len] at e2
      simp at e1 e2
      subst e1; subst e2; exact hor
  · obtain ⟨⟨o, ho⟩, r1, r2⟩ := I.xi b hb
    refine ⟨⟨o, kp b o ho⟩, fun q => ?_, r2⟩
    rcases List.mem_append.mp q with q | q
    · exact r1 q
    · rw [List.mem_singleton.mp q] at hb; exact f2 hb
theorem Step.more {X} (I : Inv S h k g ph) (e0 : h.get? a = none) (kp : ∀ b o, h.get? b = some o → h'.get? b = some o) (hm : g.tk ≤ m) : Step S X h g ph h' ⟨g.ρ ++ [a], g.ξ, m⟩ (ph ++ [po]) :=
  ⟨fun b o e j9 j9 j9 => kp b o e, ⟨[a], rfl⟩, rfl, fun b hb nb => (by
    rcases List.mem_append.mp hb with q | q
    · exact absurd q nb
    · rw [List.mem_singleton.mp q]; exact e0), fun j hj => by rw [List.getElem?_append_left (by rw [← I.len]; exact hj)], fun b _ ⟨o, ho⟩ => ⟨o, kp b o ho⟩, hm⟩
end
structure Frm (S : Stc) (h : Heap) (g : Gh) (env : Env) (sc : Scope) (loc : Loc) (X : List Addr) : Prop where
  kind : env.scope.kind = .function
  glob : env.globals = mainGlobals
  blt : env.builtins = builtinsNs
  kd : ∀ x k, sc.names.lookup x = some k → match k with
    | .local => env.kindOf x = some .local
    | .cell => env.kindOf x = some .cell
    | .free => env.kindOf x = some .free ∨ env.kindOf x = some .cell
    | .globalImplicit => env.kindOf x = some .globalImplicit
    | .globalExplicit => True
  ns : ∃ m, h.Ns env.locals m ∧ ∀ x v, look x loc = some v → sc.names.lookup x = some .local → ∃ val, m x = some val ∧ VR S h g v val
  cell : ∀ x v k, look x loc = some v → sc.names.lookup x = some k → (k = .cell ∨ k = .free) → ∃ c val, env.cells.lookup x = some c ∧ h.IsCell c (some val) ∧ VR S h g v val
  own : ∀ x, sc.names.lookup x = some .cell → ∃ c o, env.cells.lookup x = some c ∧ h.IsCell c o ∧ c ∈ X
  inj : ∀ x y c, env.cells.lookup x = some c → env.cells.lookup y = some c → x = y
  L : env.locals ∈ X
  sub : ∀ a ∈ X, a ∈ g.ξ
  cxi : ∀ x c, env.cells.lookup x = some c → c ∈ g.ξ
  nl : ∀ x c, env.cells.lookup x = some c → c ≠ env.locals
  dbg : ∀ x k, sc.names.lookup x = some k → x ≠ nDebug ∧ x ≠ nClassdict
theorem Step.xiKeep {S : Stc} {h h' : Heap} {k : Nat} {g g' : Gh} {ph ph'} (I : Inv S h k g ph) (T : Step S [] h g ph h' g' ph') {a : Addr} (ha : a ∈ g.ξ) {o : Obj} (e : h.get? a = some o) : h'.get? a = some o := by
  obtain ⟨_, r1, r2⟩ := I.xi a ha
  refine T.keep a o e (fun m => r1 m.mem) (fun t => ?_) (fun q => nomatch q)
  obtain ⟨o', ho'⟩ := S.tbIn a t
  rw [r2] at ho'; cases ho'
theorem Frm.mono {S : Stc} {h h' : Heap} {g g' : Gh} {env sc loc X} (F : Frm S h g env sc loc X) (M : Mono S h g h' g') (kp : ∀ b o, b = env.locals ∨ (∃ x, env.cells.lookup x = some b) → h.get? b = some o → h'.get? b = some o) (hs : ∀ a ∈ X, a ∈ g'.ξ) (hc : ∀ x c, env.cells.lookup x = some c → c ∈ g'.ξ) : Frm S h' g' env sc loc X := by
  refine ⟨F.kind, F.glob, F.blt, F.kd, ?_, fun x v k e1 e2 e3 => ?_, fun x e => ?_, F.inj, F.L, hs, hc, F.nl, F.dbg⟩
  · obtain ⟨m, h1, h2⟩ := F.ns
    refine ⟨m, Ns.of_keep h1 fun o ho => kp _ o (.inl rfl) ho, fun x v e1 e2 => ?_⟩
    obtain ⟨val, q1, q2⟩ := h2 x v e1 e2
    exact ⟨val, q1, q2.mono M⟩
  · obtain ⟨c, val, q1, ⟨o, ho, hd⟩, q3⟩ := F.cell x v k e1 e2 e3
    exact ⟨c, val, q1, ⟨o, kp c o (.inr ⟨x, q1⟩) ho, hd⟩, q3.mono M⟩
  · obtain ⟨c, v, q1, ⟨o, ho, hd⟩, q3⟩ := F.own x e
    exact ⟨c, v, q1, ⟨o, kp c o (.inr ⟨x, q1⟩) ho, hd⟩, q3⟩
theorem Frm.step {S : Stc} {h h' : Heap} {k : Nat} {g g' : Gh} {ph ph'} {env sc loc X} (F : Frm S h g env sc loc X) (I : Inv S h k g ph) (T : Step S [] h g ph h' g' ph') : Frm S h' g' env sc loc X :=
  F.mono (T.mono fun j9 q => nomatch q) (fun b o q e => T.xiKeep I (q.elim (fun q => q ▸ F.sub _ F.L) fun ⟨x, q⟩ => F.cxi x b q) e) (fun a ha => T.xi ▸ F.sub a ha) fun x c e => T.xi ▸ F.cxi x c e
structure AOk (A : Around) (n : Nat) : Prop where
  hand : A.handled = none
  depth : A.depth + n < 900
  units : A.units + 4 * n + 500 < cLine
theorem AOk.eq {A n} (a : AOk A n) : A.units + 64 < cLine := by have := a.units; omega
theorem AOk.room {A n} (a : AOk A n) : A.depth < recursionLimit := by have := a.depth; unfold recursionLimit; omega
theorem AOk.deeper {A n env} (a : AOk A (n + 1)) : AOk (A.deeper env) n := ⟨a.hand, by have := a.depth; show A.depth + 1 + n < 900; omega, by have := a.units; show A.units + 3 + 4 * n + 500 < cLine; omega⟩
theorem AOk.less {A n} (a : AOk A (n + 1)) : AOk A n := ⟨a.hand, by have := a.depth; omega, by have := a.units; omega⟩
inductive PstU (S : Stc) (s : Shared) (g : Gh) (ph ph' : List PO) (s' : Shared) : Prop
  | mk (g' : Gh) (I : Inv S s'.heap s'.toks g' ph') (T : Step S [] s.heap g ph s'.heap g' ph') (m : Same s s')
inductive PstL (S : Stc) (s : Shared) (g : Gh) (ph : List PO) (vs : List PV) (ph' : List PO) (xs : List Value) (s' : Shared) : Prop
  | mk (g' : Gh) (I : Inv S s'.heap s'.toks g' ph') (T : Step S [] s.heap g ph s'.heap g' ph') (r : VRs S s'.heap g' vs xs) (m : Same s s')
noncomputable def FlR (S : Stc) (h : Heap) (g : Gh) : Fl → Flow → Prop
  | .next, .next => True
  | .brk, .brk => True
  | .ret v, .ret x => VR S h g v x
  | _, _ => False
inductive PstF (S : Stc) (s : Shared) (g : Gh) (ph : List PO) (env : Env) (sc : Scope) (X : List Addr) (fl : Fl) (loc' : Loc) (ph' : List PO) (f : Flow) (s' : Shared) : Prop
  | mk (g' : Gh) (I : Inv S s'.heap s'.toks g' ph') (T : Step S X s.heap g ph s'.heap g' ph') (m : Same s s') (F : Frm S s'.heap g' env sc loc' X) (r : FlR S s'.heap g' fl f)
inductive PstS (S : Stc) (s : Shared) (g : Gh) (ph : List PO) (env : Env) (sc : Scope) (X : List Addr) (loc' : Loc) (ph' : List PO) (s' : Shared) : Prop
  | mk (g' : Gh) (I : Inv S s'.heap s'.toks g' ph') (T : Step S X s.heap g ph s'.heap g' ph') (m : Same s s') (F : Frm S s'.heap g' env sc loc' X)
noncomputable def odd (e : Expr) : Bool := [7, 9, 10, 11, 22, 26].any (Nat.beq e.ctorIdx)
noncomputable def Keeps (S : Stc) (a : Addr) : Prop := ∀ h : Heap, (∀ b o, S.h₀.get? b = some o → ¬ S.tb b → h.get? b = some o) → ∃ k, (k = Keeper.frame ∨ k = Keeper.machine ∨ k = Keeper.boundFrame) ∧ Looks (MS S) h (keeperOf (.ref a)) k
section
variable {S : Stc} {A : Around} {s s₁ : Shared} {g g₁ : Gh} {ph ph₁ ph₂ : List PO}
theorem Pst.after {v x s'} (T : Step S [] s.heap g ph s₁.heap g₁ ph₁) (I₁ : Inv S s₁.heap s₁.toks g₁ ph₁) (m : Same s s₁) (p : Pst S s₁ g₁ ph₁ v ph₂ x s') : Pst S s g ph v ph₂ x s' :=
  let ⟨g', a, b, c, d⟩ := p; ⟨g', a, T.trans b I₁, c, m.trans d⟩
theorem PstU.after {s'} (T : Step S [] s.heap g ph s₁.heap g₁ ph₁) (I₁ : Inv S s₁.heap s₁.toks g₁ ph₁) (m : Same s s₁) (p : PstU S s₁ g₁ ph₁ ph₂ s') : PstU S s g ph ph₂ s' :=
  let ⟨g', a, b, d⟩ := p; ⟨g', a, T.trans b I₁, m.trans d⟩
theorem VR.step {v x} (r : VR S s.heap g v x) (T : Step S [] s.heap g ph s₁.heap g₁ ph₁) : VR S s₁.heap g₁ v x := r.mono (T.mono fun j9 q => nomatch q)
end
section
variable {S : Stc} {A : Around} {s : Shared} {g : Gh} {ph ph1 ph2 : List PO} {env : Env} {sc : Scope} {loc : Loc} {X : List Addr} {n : Nat} {v : PV} {t : Sem Value} {Q : Value → Shared → Prop} {b : Bool}
theorem wpP {s0 : Shared} (h : wpAny (MS S) A t (Pst S s0 g ph v ph1) NoE s) (k : ∀ x s1 g1, Inv S s1.heap s1.toks g1 ph1 → Step S [] s0.heap g ph s1.heap g1 ph1 → VR S s1.heap g1 v x → Same s0 s1 → Q x s1) : wpAny (MS S) A t Q NoE s :=
  wpAny_mono h (fun x s1 q => Pst.casesOn q fun g1 a b c d => k x s1 g1 a b c d) fun j9 j9 h => h
theorem wpPP {w : PV} (h : wpAny (MS S) A t (Pst S s g ph v ph1) NoE s) {k : Value → Sem Value} (c : ∀ {x s1 g1}, Inv S s1.heap s1.toks g1 ph1 → Step S [] s.heap g ph s1.heap g1 ph1 → VR S s1.heap g1 v x → wpAny (MS S) A (k x) (Pst S s1 g1 ph1 w ph2) NoE s1) :
    wpAny (MS S) A t (fun x s1 => wpAny (MS S) A (k x) (Pst S s g ph w ph2) NoE s1) NoE s :=
  wpP h fun x s1 g1 I T r m => wpAny_mono (c I T r) (fun j9 j9 q => q.after T I m) fun j9 j9 h => h
theorem wpT {t : Sem Bool} {Q : Bool → Shared → Prop} (h : wpAny (MS S) A t (fun c s' => c = b ∧ PstU S s g ph ph1 s') NoE s) (k : ∀ s1 g1, Inv S s1.heap s1.toks g1 ph1 → Step S [] s.heap g ph s1.heap g1 ph1 → Same s s1 → Q b s1) : wpAny (MS S) A t Q NoE s :=
  wpAny_mono h (fun x s1 q => q.1 ▸ PstU.casesOn q.2 fun g1 a b d => k s1 g1 a b d) fun j9 j9 h => h
theorem Pst.unit {x : Value} {s' : Shared} (p : Pst S s g ph v ph1 x s') : PstU S s g ph ph1 s' := Pst.casesOn p fun g1 a b j9 d => ⟨g1, a, b, d⟩
noncomputable def TEo (S : Stc) (n : Nat) (sc : Scope) (loc : Loc) (e : Expr) (ph : List PO) (v : PV) (ph' : List PO) : Prop :=
  ∀ {A : Around} {env : Env} {s : Shared} {g : Gh} {X : List Addr}, AOk A n → Inv S s.heap s.toks g ph → Frm S s.heap g env sc loc X → wpAny (MS S) A (eval e env) (Pst S s g ph v ph') NoE s
noncomputable def TUo (S : Stc) (n : Nat) (sc : Scope) (loc : Loc) (e : Expr) (ph : List PO) (v : PV) (ph' : List PO) : Prop :=
  ∀ {A : Around} {env : Env} {s : Shared} {g : Gh} {X : List Addr} {x : Str} {p : Pos}, storable sc x = true → AOk A n → Inv S s.heap s.toks g ph → Frm S s.heap g env sc loc X → wpAny (MS S) A (evalThenUse e env (assign (.Name x p) env)) (fun j9 s' => PstS S s g ph env sc X (setL x v loc) ph' s') NoE s
structure TE (S : Stc) (n : Nat) (sc : Scope) (loc : Loc) (e : Expr) (ph : List PO) (v : PV) (ph' : List PO) : Prop where
  no : odd e = false
  ok : TEo S n sc loc e ph v ph'
  use : isComp e = true → TUo S n sc loc e ph v ph'
noncomputable def TT (S : Stc) (n : Nat) (sc : Scope) (loc : Loc) (e : Expr) (ph : List PO) (b : Bool) (ph' : List PO) : Prop :=
  ∀ {A : Around} {env : Env} {s : Shared} {g : Gh} {X : List Addr}, AOk A n → Inv S s.heap s.toks g ph → Frm S s.heap g env sc loc X → wpAny (MS S) A (isTrue e env (eval e env)) (fun c s' => c = b ∧ PstU S s g ph ph' s') NoE s
noncomputable def TS (S : Stc) (n : Nat) (sc : Scope) (loc : Loc) (st : Stmt) (ph : List PO) (fl : Fl) (loc' : Loc) (ph' : List PO) : Prop :=
  ∀ {A : Around} {env : Env} {s : Shared} {g : Gh} {X : List Addr}, AOk A n → Inv S s.heap s.toks g ph → Frm S s.heap g env sc loc X → wpAny (MS S) A (exec st env) (PstF S s g ph env sc X fl loc' ph') NoE s
noncomputable def TX (S : Stc) (n : Nat) (sc : Scope) (loc : Loc) (sts : List Stmt) (ph : List PO) (fl : Fl) (loc' : Loc) (ph' : List PO) : Prop :=
  ∀ {A : Around} {env : Env} {s : Shared} {g : Gh} {X : List Addr}, AOk A n → Inv S s.heap s.toks g ph → Frm S s.heap g env sc loc X → wpAny (MS S) A (execs sts env) (PstF S s g ph env sc X fl loc' ph') NoE s
structure TC (S : Stc) (n : Nat) (a : Addr) (vs : List PV) (ph : List PO) (v : PV) (ph' : List PO) : Prop where
  k : Keeps S a
  ok : ∀ {A : Around} {s : Shared} {g : Gh} {xs : List Value}, AOk A n → Inv S s.heap s.toks g ph → VRs S s.heap g vs xs → wpAny (MS S) A (call (.ref a) xs) (Pst S s g ph v ph') NoE s
structure TA (S : Stc) (n : Nat) (sc : Scope) (loc : Loc) (es : List Expr) (ph : List PO) (vs : List PV) (ph' : List PO) : Prop where
  len : vs.length = es.length
  nil : es = [] → vs = [] ∧ ph' = ph
  ok : ∀ {A : Around} {env : Env} {s : Shared} {g : Gh} {X : List Addr} {p : Pos}, es.any isStar = false → AOk A n → Inv S s.heap s.toks g ph → Frm S s.heap g env sc loc X → wpAny (MS S) A (spliced (backTo p (starEach es env))) (PstL S s g ph vs ph') NoE s
end
end Mine.Internal
end
section
open PySem PySem.W PyProof.Rows PySem.Calls
namespace Mine.Internal
structure FnAt (S : Stc) (f : Addr) (d : FnD) (o : Obj) (fd : FuncData) : Prop where
  h0 : S.h₀.get? f = some o
  ht : ¬ S.tb f
  hdata : o.data = .func fd
  hsc : fd.scope = d.scope
  hbody : fd.body = .stmts d.body
  hclo : fd.closure = []
  hg : fd.globals = mainGlobals
  hbl : fd.builtins = builtinsNs
  code : ∃ c oc vs t, fd.code = .ref c ∧ S.h₀.get? c = some oc ∧ ¬ S.tb c ∧ oc.data = .fields vs ∧ vs[1]? = some (.str fd.qualname t)
  sc : namesOk d.scope.names = true ∧ d.scope.kind = .function ∧ d.scope.isCoroutine = false ∧ d.scope.isGenerator = false
structure FnOk (S : Stc) (a : Addr) (d : FnD) : Prop where
  fd : ∃ o fd, FnAt S a d o fd ∧ ∀ (s : Shared) (g : Gh) (ps : List PV) (xs : List Value) (loc : Loc), (∀ a o, S.h₀.get? a = some o → ¬ S.tb a → s.heap.get? a = some o) → bindArgsP d ps = some loc → VRs S s.heap g ps xs →
      ∃ binds, BindsTo s fd ⟨xs, []⟩ binds ∧ binds.map (·.1) = loc.map (·.1) ∧ VRs S s.heap g (loc.map (·.2)) (binds.map (·.2))
  par : ∀ x ∈ d.params, d.scope.names.lookup x = some .local ∨ d.scope.names.lookup x = some .cell
  pnd : d.params.Nodup
structure TopOk (S : Stc) (T : Top) : Prop where
  lim : S.h₀.NoLimit
  ntl : ¬ S.tb cStatics
  sys : ∃ o, S.h₀.get? sysModules = some o
  ex : ∃ mg mb, S.h₀.Ns mainGlobals mg ∧ S.h₀.Ns builtinsNs mb ∧ ¬ S.tb mainGlobals ∧ ¬ S.tb builtinsNs ∧
    ∀ x v, look x T.glob = some v → ∃ val, (mg x = some val ∨ (mg x = none ∧ mb x = some val)) ∧ ∀ h g, VR S h g v val
  fn : ∀ a d, lookN a T.fn = some d → FnOk S a d
  kp : ∀ a d, lookN a T.fn = some d → Keeps S a
structure Snd (S : Stc) (r : Ev) (n : Nat) : Prop where
  e : ∀ {sc loc x ph v ph'}, r.e sc loc x ph = some (v, ph') → TE S n sc loc x ph v ph'
  t : ∀ {sc loc x ph b ph'}, r.t sc loc x ph = some (b, ph') → TT S n sc loc x ph b ph'
  s : ∀ {sc loc st ph fl loc' ph'}, r.s sc loc st ph = some (fl, loc', ph') → TS S n sc loc st ph fl loc' ph'
  c : ∀ {a vs ph v ph'}, r.c a vs ph = some (v, ph') → TC S n a vs ph v ph'
  lv : r.lv = n
section
variable {S : Stc} {T : Top} {A : Around} {s : Shared} {g : Gh} {ph ph1 ph2 ph3 ph' : List PO} {env : Env} {sc : Scope} {loc : Loc} {X : List Addr} {n : Nat} {r : Ev} {e y z : Expr} {p q : Pos} {v v1 v2 v3 : PV} {b c : Bool} {es : List Expr} {vs : List PV}
theorem TE.of (h : (!odd e && !isComp e) = true) (ok : TEo S n sc loc e ph v ph') : TE S n sc loc e ph v ph' := by
  rw [Bool.and_eq_true, Bool.not_eq_true', Bool.not_eq_true'] at h
  exact ⟨h.1, ok, fun q => absurd (q.symm.trans h.2) (by decide)⟩
theorem nameP_some {x : Str} (e : nameP T sc loc x = some v) : ∃ k, sc.names.lookup x = some k ∧ nameK T loc x k = some v := iK e fun k hk e => ⟨k, look_eq ▸ hk, e⟩
theorem name_load (TO : TopOk S T) (I : Inv S s.heap s.toks g ph) (F : Frm S s.heap g env sc loc X) {x : Str} (e : nameP T sc loc x = some v) {Q : Value → Shared → Prop} (hQ : ∀ val, VR S s.heap g v val → Q val s) :
    wpAny (MS S) A (loadName env x) Q NoE s := by
  obtain ⟨k, hk, e⟩ := nameP_some e
  have kd := F.kd _ _ hk
  cases k with
  | globalImplicit =>
    obtain ⟨mg, mb, h1, h2, h3, h4, h5⟩ := TO.ex
    obtain ⟨val, q1, q2⟩ := h5 _ _ e
    have n1 : s.heap.Ns env.globals mg := by rw [F.glob]; exact Ns.of_keep h1 fun o ho => I.top _ _ ho h3
    have n2 : s.heap.Ns env.builtins mb := by rw [F.blt]; exact Ns.of_keep h2 fun o ho => I.top _ _ ho h4
    exact ks_loadName_global F.kind kd (q1.elim (fun q1 => loadGlobal_global n1 q1 (hQ _ (q2 _ _))) fun q1 => loadGlobal_builtin n1 q1.1 n2 q1.2 (hQ _ (q2 _ _)))
  | globalExplicit => exact nos e
  | «local» => exact let ⟨m, q1, q2⟩ := F.ns; let ⟨val, q3, q4⟩ := q2 _ _ e hk; wpAny_loadName_local F.kind kd q1 q3 (hQ _ q4)
  | cell => exact let ⟨c, val, q1, q2, q3⟩ := F.cell _ _ _ e hk (.inl rfl); wpAny_loadName_cell F.kind kd q1 q2 (hQ _ q3)
  | free =>
    obtain ⟨c, val, q1, q2, q3⟩ := F.cell _ _ _ e hk (.inr rfl)
    have cd : (x == ("__classdict__" : Str)) = false := beq_eq_false_iff_ne.mpr fun q => (F.dbg _ _ hk).2 (q.trans (by decide +kernel))
    exact kd.elim (fun kd => wpAny_loadName_free F.kind kd q1 q2 (hQ _ q3) cd) fun kd => wpAny_loadName_cell F.kind kd q1 q2 (hQ _ q3)
theorem name_dbg (F : Frm S s.heap g env sc loc X) {x : Str} (e : nameP T sc loc x = some v) : (x == ("__debug__" : Str)) = false := let ⟨k, hk, _⟩ := nameP_some e; beq_eq_false_iff_ne.mpr fun q => (F.dbg _ _ hk).1 (q.trans (by decide +kernel))
theorem t_name (TO : TopOk S T) {x : Str} (h : nameP T sc loc x = some v) : TE S n sc loc (.Name x p) ph v ph :=
  .of rfl fun a I F => wpAny_Name (name_load TO I F h fun val q => Pst.same I q) (name_dbg F h)
theorem t_none {k} : TE S n sc loc (.Constant .none k p) ph .none ph := .of rfl fun a I F => wpAny_Constant_none (Pst.same I .none)
theorem t_bool {k} : TE S n sc loc (.Constant (.bool b) k p) ph (.bool b) ph := .of rfl fun a I F => wpAny_Constant_bool (Pst.same I (.bool _))
theorem t_int {k} {i : Int} : TE S n sc loc (.Constant (.int i) k p) ph (.int i) ph := .of rfl fun a I F => wpAny_Constant_int (Pst.int I)
theorem t_str {k} {x : Str} : TE S n sc loc (.Constant (.str x) k p) ph (.strg x) ph := .of rfl fun a I F => wpAny_Constant_str (Pst.here I (Nat.le_succ _) (.strg (Nat.lt_of_lt_of_le I.tk0 I.tk) (Nat.lt_succ_self _)))
theorem two (h1 : TE S n sc loc y ph v1 ph1) (h2 : TE S n sc loc z ph1 v2 ph2) {k : Value → Value → Sem Value} (a : AOk A n) (I : Inv S s.heap s.toks g ph) (F : Frm S s.heap g env sc loc X)
    (h : ∀ {s : Shared} {g : Gh} {va vb}, Inv S s.heap s.toks g ph2 → VR S s.heap g v1 va → VR S s.heap g v2 vb → wpAny (MS S) A (k va vb) (Pst S s g ph2 v ph2) NoE s) :
    wpAny (MS S) A (eval y env) (fun va s1 => wpAny (MS S) A (eval z env) (fun vb s2 => wpAny (MS S) A (k va vb) (Pst S s g ph v ph2) NoE s2) NoE s1) NoE s :=
  wpP (h1.ok a I F) fun xa s1 g1 I1 T1 r1 m1 => wpP (h2.ok a I1 (F.step I T1)) fun xb s2 g2 I2 T2 r2 m2 => wpAny_mono (h I2 (r1.step T2) r2) (fun xc s3 p => (p.after T2 I2 m2).after T1 I1 m1) fun j9 j9 h => h
theorem t_bin {op : Operator} (h1 : TE S n sc loc y ph v1 ph1) (h2 : TE S n sc loc z ph1 v2 ph2) (h : BinOk S op v1 v2 ph2 v) : TE S (n + 1) sc loc (.BinOp y op z p) ph v ph2 :=
  .of rfl fun a I F => wpAny_BinOp (two h1 h2 a.less I F h)
theorem behind_of {op : CmpOp} (q : odd y = false) : behindInMarks op y = false := by
  cases y <;> first | rfl | cases q
theorem t_cmp {op : CmpOp} (h1 : TE S n sc loc y ph v1 ph1) (h2 : TE S n sc loc z ph1 v2 ph2) (h : CmpOk S op v1 v2 ph2 c) : TE S (n + 1) sc loc (.Compare y [op] [z] p) ph (.bool c) ph2 :=
  .of rfl fun a I F => wpAny_Compare1 (two h1 h2 a.less I F (h a.less.eq)) (behind_of h2.no)
theorem tt_cmp {op : CmpOp} (h1 : TE S n sc loc y ph v1 ph1) (h2 : TE S n sc loc z ph1 v2 ph2) (h : CmpOk S op v1 v2 ph2 c) : TT S (n + 1) sc loc (.Compare y [op] [z] p) ph c ph2 :=
  fun a I F => wpAny_isTrue_Compare1 (wpAny_mono (two h1 h2 a.less I F (h a.less.eq)) (fun xa s1 h1 => wpAny_mono h1 (fun xb s2 h2 => wpP h2 fun xc s3 g3 I3 T3 r3 m3 => r3.eBool fun q => q ▸ wpAny_truthy_bool ⟨rfl, g3, I3, T3, m3⟩) fun j9 j9 h => h) fun j9 j9 h => h) (behind_of h2.no)
theorem t_not (h1 : TE S n sc loc y ph v1 ph1) (h : TruthOk S v1 ph1 b) : TE S (n + 1) sc loc (.UnaryOp .Not y p) ph (.bool (!b)) ph1 :=
  .of rfl fun a I F => wpAny_UnaryOp (wpP (h1.ok a.less I F) fun xa s1 g1 I1 T1 r1 m1 => not_of (wpAny_mono (h I1 r1) (fun b' s2 q => q.1 ▸ Pst.casesOn (q.2.after T1 I1 m1) fun g2 I2 T2 j9 m2 => ⟨g2, I2, T2, .bool _, m2⟩) fun j9 j9 h => h))
theorem tt_not (h : TT S n sc loc y ph b ph1) : TT S (n + 1) sc loc (.UnaryOp .Not y p) ph (!b) ph1 :=
  fun a I F => wpAny_isTrue_Not (wpAny_mono (h a.less I F) (fun b' s1 q => ⟨congrArg _ q.1, q.2⟩) fun j9 j9 z => z)
theorem t_if {t : Expr} (h : TT S n sc loc t ph b ph1) (h1 : TE S n sc loc (match b with | true => y | false => z) ph1 v ph2) : TE S (n + 1) sc loc (.IfExp t y z p) ph v ph2 :=
  .of rfl fun a I F => wpAny_IfExp (wpT (h a.less I F) fun s1 g1 I1 T1 m1 => by
    cases b
    · exact wpAny_mono (h1.ok a.less I1 (F.step I T1)) (fun j9 j9 p => p.after T1 I1 m1) fun j9 j9 h => h
    · exact wpAny_mono (h1.ok a.less I1 (F.step I T1)) (fun j9 j9 p => p.after T1 I1 m1) fun j9 j9 h => h)
theorem ta_nil : TA S n sc loc [] ph [] ph := ⟨rfl, fun j9 => ⟨rfl, rfl⟩, fun {A env s g X p} _ a I F => spliced_nil ⟨g, I, .refl, .nil, .refl⟩⟩
theorem star_cons (h : isStar e = false) : starEach (e :: es) env = (false, eval e env) :: starEach es env := by cases e <;> first | rfl | cases h
theorem ta_cons (h1 : TE S n sc loc e ph v ph1) (h2 : TA S n sc loc es ph1 vs ph2) : TA S n sc loc (e :: es) ph (v :: vs) ph2 :=
  ⟨congrArg (· + 1) h2.len, nofun, fun hs a I F => by
    rw [List.any_cons, Bool.or_eq_false_iff] at hs
    rw [star_cons hs.1]
    exact spliced_cons (wpP (h1.ok a I F) fun xa s1 g1 I1 T1 r1 m1 => wpAny_mono (h2.ok hs.2 a I1 (F.step I T1)) (fun xs s2 q => PstL.casesOn q fun g2 I2 T2 r2 m2 => ⟨g2, I2, T1.trans T2 I1, .cons (r1.step T2) r2, m1.trans m2⟩) fun j9 j9 h => h)⟩
theorem t_tup {k} (hs : es.any isStar = false) (hl : Nat.ble es.length 1000 = true) (h : TA S n sc loc es ph vs ph1) : TE S (n + 1) sc loc (.Tuple es k p) ph (.tup vs) ph1 :=
  .of rfl fun a I F => wpAny_Tuple (wpAny_mono (h.ok hs a.less I F) (fun xs s1 q => PstL.casesOn q fun g1 I1 T1 r1 m1 => ⟨by rw [sizeLine_eq, r1.length, h.len]; exact Nat.le_trans (Nat.le_of_ble_eq_true hl) (by decide), (Pst.tuple (k := 0) I1 r1 (Nat.le_refl _)).after T1 I1 m1⟩) fun j9 j9 h => h)
theorem t_list (hs : es.any isStar = false) (hl : Nat.ble es.length 1000 = true) (h : TA S n sc loc es ph vs ph1) : TE S (n + 1) sc loc (.List es p) ph (.lst vs) ph1 :=
  .of rfl fun a I F => wpAny_List (wpAny_mono (h.ok hs a.less I F) (fun xs s1 q => PstL.casesOn q fun g1 I1 T1 r1 m1 => ⟨by rw [sizeLine_eq, r1.length, h.len]; exact Nat.le_trans (Nat.le_of_ble_eq_true hl) (by decide), (Pst.list (k := 0) I1 r1 (Nat.le_refl _)).after T1 I1 m1⟩) fun j9 j9 h => h)
theorem fresh_obj {o : Obj} {po : PO} (I : Inv S s.heap s.toks g ph) (h : OR S (s.heap.push o) ⟨g.ρ ++ [s.heap.objs.size], g.ξ, g.tk⟩ po s.heap.objs.size) : Pst S s g ph (.obj ph.length) (ph ++ [po]) (.ref s.heap.objs.size) { s with heap := s.heap.push o } :=
  have kp : ∀ (b : Addr) (ob : Obj), s.heap.get? b = some ob → (s.heap.push o).get? b = some ob := fun b ob e => Heap.get?_push_of_some _ e
  ⟨⟨g.ρ ++ [s.heap.objs.size], g.ξ, g.tk⟩, I.new (none_size _) kp (Nat.le_refl _) I.tk h, .more I (none_size _) kp (Nat.le_refl _), .obj (by rw [← I.len]; simp), .of⟩
theorem t_nil : TE S (n + 1) sc loc (.List [] p) ph (.obj ph.length) (ph ++ [.list []]) :=
  .of rfl fun a I F => wpAny_List (spliced_nil ⟨Nat.zero_le _, fresh_obj (o := seqO "list" [] 0) I ⟨[], 0, Heap.get?_push_size _ rfl, .nil⟩⟩)
theorem t_dict : TE S (n + 1) sc loc (.Dict [] [] p) ph (.obj ph.length) (ph ++ [.dict []]) :=
  .of rfl fun a I F => wpAny_Dict_empty (fresh_obj I (let ⟨ep, h⟩ := (Heap.DictOf.new (knd := strKind S.prog S.w) _).dictAt; ⟨[], ep, h, rfl, .nil⟩))
theorem t_item (hi : odd z = false) (h1 : TE S n sc loc y ph v1 ph1) (h2 : TE S n sc loc z ph1 v2 ph2) (h : ItemOk S v1 v2 ph2 v) : TE S (n + 1) sc loc (.Subscript y z p) ph v ph2 :=
  .of rfl fun a I F => Subscript_ (wpP (h1.ok a.less I F) fun xa s1 g1 I1 T1 r1 m1 => wpP (h2.ok a.less I1 (F.step I T1)) fun xb s2 g2 I2 T2 r2 m2 =>
    let ⟨⟨K, id, k1, k2⟩, k3⟩ := h I2 (r1.step T2) r2
    PyProof.Rows.tail_any k1 k2 (wpAny_mono k3 (fun j9 j9 q => (q.after T2 I2 m2).after T1 I1 m1) fun j9 j9 h => h) (ops := [xa, xb]) (by cases z <;> first | rfl | cases hi))
noncomputable def TP (S : Stc) (n : Nat) (sc : Scope) (loc : Loc) (o : Option Expr) (ph : List PO) (v : PV) (ph' : List PO) : Prop :=
  ∀ {A : Around} {env : Env} {s : Shared} {g : Gh} {X : List Addr}, AOk A n → Inv S s.heap s.toks g ph → Frm S s.heap g env sc loc X → wpAny (MS S) A (evalPart o env) (Pst S s g ph v ph') NoE s
theorem tp_none : TP S n sc loc none ph .none ph := fun a I F => wpAny_evalPart_none (Pst.same I .none)
theorem tp_some (h : TE S n sc loc e ph v ph1) : TP S n sc loc (some e) ph v ph1 := fun a I F => wpAny_evalPart_some (h.ok a I F)
theorem t_slice {lo hi : Option Expr} (h1 : TE S n sc loc y ph v1 ph1) (h2 : TP S n sc loc lo ph1 v2 ph2) (h3 : TP S n sc loc hi ph2 v3 ph3) (h : SliceOk S v1 v2 v3 ph3 v) : TE S (n + 1) sc loc (.Subscript y (.Slice lo hi none q) p) ph v ph3 :=
  .of rfl fun {A env s g X} a I F => Subscript_ (wpP (h1.ok a.less I F) fun xa s1 g1 I1 T1 r1 m1 => wpAny_Slice (wpP (h2 a.less I1 (F.step I T1)) fun xb s2 g2 I2 T2 r2 m2 => wpP (h3 a.less I2 ((F.step I T1).step I1 T2)) fun xc s3 g3 I3 T3 r3 m3 => wpAny_evalPart_none (by
    have kp : ∀ (b : Addr) (ob : Obj), s3.heap.get? b = some ob → (s3.heap.push { cls := .type "slice", data := .fields #[xb, xc, .none] }).get? b = some ob := fun b ob e => Heap.get?_push_of_some _ e
    have I4 := I3.grow kp (Nat.le_refl _) I3.tk
    have T4 : Step S [] s3.heap g3 ph3 _ g3 ph3 := Step.grow kp (Nat.le_refl _)
    have M4 : Mono S s3.heap g3 _ g3 := T4.mono fun j9 q => nomatch q
    obtain ⟨⟨K, id, k1, k2⟩, k3⟩ := h (A := A) (s := { s3 with heap := s3.heap.push { cls := .type "slice", data := .fields #[xb, xc, .none] } }) I4 (((r1.step T2).step T3).mono M4) ((r2.step T3).mono M4) (r3.mono M4) (Heap.get?_push_size _ rfl)
    exact PyProof.Rows.tail_any k1 k2 (wpAny_mono k3 (fun j9 j9 q => ((((q.after T4 I4 .of).after T3 I3 m3).after T2 I2 m2).after T1 I1 m1)) fun j9 j9 h => h) (ops := [.ref s3.heap.objs.size, xa]) rfl)))
theorem tt_of (he : ∀ env, isTrue e env (eval e env) = (do let v ← eval e env; standAt e.pos; holding [v] (truthy v))) (h1 : TE S n sc loc e ph v ph1) (h : TruthOk S v ph1 b) : TT S n sc loc e ph b ph1 :=
  fun a I F => wpAny_isTrue_value (wpP (h1.ok a I F) fun x s1 g1 I1 T1 r1 m1 => wpAny_mono (h I1 r1) (fun b' s2 q => ⟨q.1, (q.2.after T1 I1 m1).unit⟩) fun j9 j9 h => h) (he _)
end
end Mine.Internal
end
section
open PySem PySem.W PyProof.Rows PySem.Calls
namespace Mine.Internal
section
variable {S : Stc} {T : Top} {A : Around} {s : Shared} {g : Gh} {ph ph1 ph2 ph3 ph' : List PO} {env : Env} {sc : Scope} {loc : Loc} {X : List Addr} {n : Nat} {r : Ev} {e y z : Expr} {p q : Pos} {v v1 v2 v3 : PV} {b c : Bool} {es : List Expr} {vs : List PV}
noncomputable def TO (S : Stc) (n : Nat) (sc : Scope) (loc : Loc) (op : BoolOp) (es : List Expr) (ph : List PO) (v : PV) (ph' : List PO) : Prop :=
  ∀ {A : Around} {env : Env} {s : Shared} {g : Gh} {X : List Addr} {p : Pos}, AOk A n → Inv S s.heap s.toks g ph → Frm S s.heap g env sc loc X → wpAny (MS S) A (boolOp p op (evalEach es env)) (Pst S s g ph v ph') NoE s
theorem to_cons {op : BoolOp} (h1 : TE S n sc loc y ph v1 ph1) (h : TruthOk S v1 ph1 b) (k : stops op b = true → v1 = v ∧ ph1 = ph') (go : stops op b = false → TO S n sc loc op (z :: es) ph1 v ph') : TO S n sc loc op (y :: z :: es) ph v ph' := fun {A env s g X p} a I F => by
  show wpAny (MS S) A (boolOp p op (eval y env :: eval z env :: evalEach es env)) _ _ _
  unfold boolOp
  refine wpAny_bind (wpP (h1.ok a I F) fun xa s1 g1 I1 T1 r1 m1 => wpAny_bind (wpAny_standAt (wpAny_bind (wpAny_holding (wpAny_mono (h I1 r1) (fun b' s2 q => ?_) fun j9 j9 h => h)))))
  obtain ⟨rfl, g2, I2, T2, r2, m2⟩ := q
  have stop : stops op b' = true → wpAny (MS S) A (pure xa : Sem Value) (Pst S s g ph v ph') NoE s2 := fun h => by obtain ⟨rfl, rfl⟩ := k h; exact wpAny_pure ⟨g2, I2, T1.trans T2 I1, r2, m1.trans m2⟩
  have go : stops op b' = false → wpAny (MS S) A (boolOp p op (eval z env :: evalEach es env)) (Pst S s g ph v ph') NoE s2 := fun h => wpAny_mono (go h a I2 ((F.step I T1).step I1 T2)) (fun j9 j9 q => (q.after T2 I2 m2).after T1 I1 m1) fun j9 j9 h => h
  cases op <;> cases b'
  · exact stop rfl
  · exact go rfl
  · exact go rfl
  · exact stop rfl
theorem bool_ok (H : Snd S r n) {op : BoolOp} : ∀ {es : List Expr} {ph}, boolP r sc loc op es ph = some (v, ph') → TO S n sc loc op es ph v ph'
  | [], _, e => nos e
  | [x], _, e => fun a I F => (H.e e).ok a I F
  | x :: y :: es, ph, e => rV e fun v1 ph1 e1 e => iBo e fun b hb e => to_cons (H.e e1) (truth_ok hb) (fun h => sp2 (h ▸ e : (match true with | true => some (v1, ph1) | false => boolP r sc loc op (y :: es) ph1) = _) fun q1 q2 => ⟨q1.symm, q2⟩) fun h => bool_ok H (h ▸ e : (match false with | true => some (v1, ph1) | false => boolP r sc loc op (y :: es) ph1) = _)
noncomputable def TOt (S : Stc) (n : Nat) (sc : Scope) (loc : Loc) (op : BoolOp) (es : List Expr) (ph : List PO) (c : Bool) (ph' : List PO) : Prop :=
  ∀ {A : Around} {env : Env} {s : Shared} {g : Gh} {X : List Addr}, AOk A n → Inv S s.heap s.toks g ph → Frm S s.heap g env sc loc X → wpAny (MS S) A (allTrue op es env) (fun b s' => b = c ∧ PstU S s g ph ph' s') NoE s
theorem tot_cons {op : BoolOp} (h1 : TT S n sc loc y ph b ph1) (k : stops op b = true → b = c ∧ ph1 = ph') (go : stops op b = false → TOt S n sc loc op es ph1 c ph') : TOt S n sc loc op (y :: es) ph c ph' := fun {A env s g X} a I F => by
  unfold allTrue
  refine wpAny_bind (wpT (h1 a I F) fun s1 g1 I1 T1 m1 => ?_)
  have stop : stops op b = true → wpAny (MS S) A (pure b : Sem Bool) (fun b s' => b = c ∧ PstU S s g ph ph' s') NoE s1 := fun h => by obtain ⟨rfl, rfl⟩ := k h; exact wpAny_pure ⟨rfl, g1, I1, T1, m1⟩
  have go : stops op b = false → wpAny (MS S) A (allTrue op es env) (fun b s' => b = c ∧ PstU S s g ph ph' s') NoE s1 := fun h => wpAny_mono (go h a I1 (F.step I T1)) (fun j9 j9 q => ⟨q.1, q.2.after T1 I1 m1⟩) fun j9 j9 h => h
  cases op <;> cases b
  · exact stop rfl
  · exact go rfl
  · exact go rfl
  · exact stop rfl
theorem allTrue_ok (H : Snd S r n) {op : BoolOp} : ∀ {es : List Expr} {ph}, allTrueP r sc loc op es ph = some (c, ph') → TOt S n sc loc op es ph c ph'
  | [], _, e => fun a I F => by
    unfold allTrue
    exact sp2 e fun q1 q2 => q1 ▸ q2 ▸ wpAny_pure ⟨by cases op <;> rfl, _, I, .refl, .refl⟩
  | x :: es, ph, e => rB e fun b ph1 e1 e => tot_cons (H.t e1) (fun h => sp2 (h ▸ e : (match true with | true => some (b, ph1) | false => allTrueP r sc loc op es ph1) = _) fun q1 q2 => ⟨q1.symm, q2⟩) fun h => allTrue_ok H (h ▸ e : (match false with | true => some (b, ph1) | false => allTrueP r sc loc op es ph1) = _)
theorem args_ok (H : Snd S r n) : ∀ {es : List Expr} {ph ph' vs}, argsP r sc loc es ph = some (vs, ph') → TA S n sc loc es ph vs ph'
  | [], _, _, _, e => sp2 e fun q1 q2 => q1 ▸ q2 ▸ ta_nil
  | x :: es, _, _, _, e => rV e fun v ph1 e1 e => rL e fun us ph2 e2 e => sp2 e fun q1 q2 => by subst q1; subst q2; exact ta_cons (H.e e1) (args_ok H e2)
theorem manyE_no (h : manyE es = false) : es.any isStar = false ∧ Nat.ble es.length 1000 = true := by
  unfold manyE at h
  rw [Bool.or_eq_false_iff, Bool.not_eq_false'] at h
  exact h
theorem opt_ok (H : Snd S r n) : ∀ {o : Option Expr}, optP r sc loc o ph = some (v, ph') → TP S n sc loc o ph v ph'
  | none, e => sp2 e fun q1 q2 => q1 ▸ q2 ▸ tp_none
  | some x, e => tp_some (H.e e)
theorem item_of (H : Snd S r n) (e : eItem r sc loc y z ph = some (v, ph')) : TE S (n + 1) sc loc (.Subscript y z p) ph v ph' :=
  rV e fun v1 ph1 e1 e => rV e fun v2 ph2 e2 e => iV e fun v3 h e => sp2 e fun q1 q2 => q1 ▸ q2 ▸ t_item (H.e e2).no (H.e e1) (H.e e2) (item_ok h)
theorem slice_of (H : Snd S r n) {lo hi st : Option Expr} (e : eSlice r sc loc y lo hi st ph = some (v, ph')) : TE S (n + 1) sc loc (.Subscript y (.Slice lo hi st q) p) ph v ph' := by
  cases st
  · exact rV e fun v1 ph1 e1 e => rV e fun v2 ph2 e2 e => rV e fun v3 ph3 e3 e => iPt e fun l hl e => iPt e fun h hh e => iV e fun v3 hv e => sp2 e fun q1 q2 => q1 ▸ q2 ▸ t_slice (H.e e1) (opt_ok H e2) (opt_ok H e3) (slice_ok hl hh hv)
  · exact nos e
theorem sliceOf_eq {lo hi st : Option Expr} (h : sliceOf z = some (lo, hi, st)) : ∃ q, z = .Slice lo hi st q :=
  pick_inv h (fun j9 j9 j9 j9 h => nos h) (fun j9 j9 j9 h => nos h) (fun j9 j9 j9 j9 h => nos h) (fun a b d x q h => ⟨x, sp3 h fun q1 q2 q3 => by subst q1; subst q2; subst q3; exact q⟩) (fun j9 j9 j9 j9 j9 h => nos h) (fun j9 j9 j9 j9 h => nos h)
theorem sub_ok (H : Snd S r n) (e : eSub r sc loc y z ph = some (v, ph')) : TE S (n + 1) sc loc (.Subscript y z p) ph v ph' :=
  oSl e (fun lo hi st hz e => (sliceOf_eq hz).elim fun q z => z ▸ slice_of H e) fun e => item_of H e
theorem const_ok : ∀ {c : Const} {k}, eConst c ph = some (v, ph') → TE S n sc loc (.Constant c k p) ph v ph'
  | .none, _, e => sp2 e fun q1 q2 => q1 ▸ q2 ▸ t_none
  | .bool _, _, e => sp2 e fun q1 q2 => q1 ▸ q2 ▸ t_bool
  | .int _, _, e => sp2 e fun q1 q2 => q1 ▸ q2 ▸ t_int
  | .str _, _, e => sp2 e fun q1 q2 => q1 ▸ q2 ▸ t_str
  | .float .., _, e | .complex .., _, e | .ellipsis, _, e | .bytes _, _, e => nos e
theorem name_ok (O : TopOk S T) {x : Str} (e : eName T sc loc x ph = some (v, ph')) : TE S n sc loc (.Name x p) ph v ph' := iV e fun v hv e => sp2 e fun q1 q2 => q1 ▸ q2 ▸ t_name O hv
theorem bin_of (H : Snd S r n) {op : Operator} (e : eBin r sc loc y op z ph = some (v, ph')) : TE S (n + 1) sc loc (.BinOp y op z p) ph v ph' :=
  rV e fun v1 ph1 e1 e => rV e fun v2 ph2 e2 e => iV e fun v3 h e => sp2 e fun q1 q2 => q1 ▸ q2 ▸ t_bin (H.e e1) (H.e e2) (bin_ok h)
theorem not_ok (H : Snd S r n) : ∀ {op : UnaryOp}, eNot r sc loc op y ph = some (v, ph') → TE S (n + 1) sc loc (.UnaryOp op y p) ph v ph'
  | .Not, e => rV e fun v1 ph1 e1 e => iBo e fun b hb e => sp2 e fun q1 q2 => q1 ▸ q2 ▸ t_not (H.e e1) (truth_ok hb)
  | .Invert, e | .UAdd, e | .USub, e => nos e
theorem tnot_ok (H : Snd S r n) : ∀ {op : UnaryOp}, tNot r sc loc op y ph = some (c, ph') → TT S (n + 1) sc loc (.UnaryOp op y p) ph c ph'
  | .Not, e => rB e fun b ph1 e1 e => sp2 e fun q1 q2 => q1 ▸ q2 ▸ tt_not (H.t e1)
  | .Invert, e | .UAdd, e | .USub, e => nos e
theorem cmpE_inv {t : Prop} : ∀ {ops : List CmpOp} {bs : List Expr}, cmpE r sc loc y ops bs ph = some (c, ph') → (∀ op z, ops = [op] → bs = [z] → ∀ v1 ph1, r.e sc loc y ph = some (v1, ph1) → ∀ v2, r.e sc loc z ph1 = some (v2, ph') → cmpP op v1 v2 ph' = some c → t) → t
  | [op], [z], e, k => rV e fun v1 ph1 e1 e => rV e fun v2 ph2 e2 e => iBo e fun c hc e => sp2 e fun q1 q2 => by subst q1; subst q2; exact k op z rfl rfl v1 ph1 e1 v2 e2 hc
  | [], _, e, _ | _ :: _ :: _, _, e, _ | [_], [], e, _ | [_], _ :: _ :: _, e, _ => nos e
theorem cmp_of (H : Snd S r n) {ops : List CmpOp} {bs : List Expr} (e : eCmp r sc loc y ops bs ph = some (v, ph')) : TE S (n + 1) sc loc (.Compare y ops bs p) ph v ph' :=
  rB e fun c ph1 e1 e => sp2 e fun q1 q2 => cmpE_inv e1 fun op z h1 h2 v1 ph1 z1 v2 z2 hc => by subst h1; subst h2; subst q1; subst q2; exact t_cmp (H.e z1) (H.e z2) (cmp_ok hc)
theorem tcmp_of (H : Snd S r n) {ops : List CmpOp} {bs : List Expr} (e : cmpE r sc loc y ops bs ph = some (c, ph')) : TT S (n + 1) sc loc (.Compare y ops bs p) ph c ph' :=
  cmpE_inv e fun op z h1 h2 v1 ph1 e1 v2 e2 hc => by subst h1; subst h2; exact tt_cmp (H.e e1) (H.e e2) (cmp_ok hc)
theorem if_of (H : Snd S r n) {t : Expr} (e : eIf r sc loc t y z ph = some (v, ph')) : TE S (n + 1) sc loc (.IfExp t y z p) ph v ph' :=
  rB e fun c ph1 e1 e => t_if (H.t e1) (by cases c <;> exact H.e e)
theorem list_of (H : Snd S r n) : ∀ {es : List Expr}, eList r sc loc es ph = some (v, ph') → TE S (n + 1) sc loc (.List es p) ph v ph'
  | [], e => sp2 e fun q1 q2 => q1 ▸ q2 ▸ t_nil
  | _ :: _, e => iTn e fun h e => rL e fun vs ph1 e1 e => sp2 e fun q1 q2 => q1 ▸ q2 ▸ (manyE_no h).elim fun h1 h2 => t_list h1 h2 (args_ok H e1)
theorem tup_of (H : Snd S r n) (e : eTup r sc loc es ph = some (v, ph')) {k} : TE S (n + 1) sc loc (.Tuple es k p) ph v ph' :=
  iTn e fun h e => rL e fun vs ph1 e1 e => sp2 e fun q1 q2 => q1 ▸ q2 ▸ (manyE_no h).elim fun h1 h2 => t_tup h1 h2 (args_ok H e1)
theorem dict_of : ∀ {ks : List (Option Expr)} {es : List Expr}, eDict ks es ph = some (v, ph') → TE S (n + 1) sc loc (.Dict ks es p) ph v ph'
  | [], [], e => sp2 e fun q1 q2 => q1 ▸ q2 ▸ t_dict
  | _ :: _, _, e | [], _ :: _, e => nos e
theorem bool_of (H : Snd S r n) {op : BoolOp} (e : boolP r sc loc op es ph = some (v, ph')) : TE S (n + 1) sc loc (.BoolOp op es p) ph v ph' := .of rfl fun a I F => by rw [arm_eval_BoolOp]; exact bool_ok H e a.less I F
theorem tbool_of (H : Snd S r n) {op : BoolOp} (e : allTrueP r sc loc op es ph = some (c, ph')) : TT S (n + 1) sc loc (.BoolOp op es p) ph c ph' := fun a I F => wpAny_isTrue_BoolOp (allTrue_ok H e a.less I F)
end
end Mine.Internal
end
section
open PySem PySem.W PyProof.Rows PySem.Calls
namespace Mine.Internal
theorem ltC_antisymm : ∀ a b : List Nat, PySem.Spec.ltCps a b = false → PySem.Spec.ltCps b a = false → a = b
  | [], [], _, _ => rfl
  | [], _ :: _, h, _ => by simp [PySem.Spec.ltCps] at h
  | _ :: _, [], _, h => by simp [PySem.Spec.ltCps] at h
  | a :: r, b :: t, h1, h2 => by
    simp only [PySem.Spec.ltCps, Bool.or_eq_false_iff, Bool.and_eq_false_iff, decide_eq_false_iff_not, beq_eq_false_iff_ne] at h1 h2
    have hab : a = b := by omega
    subst hab
    have := ltC_antisymm r t (by rcases h1.2 with q | q; exact absurd rfl q; exact q) (by rcases h2.2 with q | q; exact absurd rfl q; exact q)
    rw [this]
theorem ltC_negTrans : ∀ a b c : List Nat, PySem.Spec.ltCps b a = false → PySem.Spec.ltCps c b = false → PySem.Spec.ltCps c a = false
  | [], _, [], _, _ => rfl
  | [], _, _ :: _, _, _ => rfl
  | _ :: _, [], _, h, _ => by simp [PySem.Spec.ltCps] at h
  | _ :: _, _ :: _, [], _, h => by simp [PySem.Spec.ltCps] at h
  | a :: r, b :: t, c :: u, h1, h2 => by
    simp only [PySem.Spec.ltCps, Bool.or_eq_false_iff, Bool.and_eq_false_iff, decide_eq_false_iff_not, beq_eq_false_iff_ne] at h1 h2 ⊢
    refine ⟨by omega, ?_⟩
    by_cases hca : c = a
    · have hab : a = b := by omega
      subst hca; subst hab
      right
      exact ltC_negTrans r t u (by rcases h1.2 with q | q; exact absurd rfl q; exact q) (by rcases h2.2 with q | q; exact absurd rfl q; exact q)
    · exact .inl hca
noncomputable def leS (a b : Str) : Prop := PySem.Spec.ltCps b.cps.toList a.cps.toList = false
theorem leS_trans {a b c : Str} (h : leS a b) (k : leS b c) : leS a c := ltC_negTrans _ _ _ h k
theorem leS_antisymm {a b : Str} (h : leS a b) (k : leS b a) : a = b := by
  have := ltC_antisymm _ _ k h
  cases a; cases b; exact congrArg Str.mk (Array.ext' this)
theorem ltC_asymm : ∀ a b : List Nat, PySem.Spec.ltCps a b = true → PySem.Spec.ltCps b a = false
  | [], [], h => by simp [PySem.Spec.ltCps] at h
  | [], _ :: _, _ => rfl
  | _ :: _, [], h => by simp [PySem.Spec.ltCps] at h
  | a :: r, b :: t, h => by
    simp only [PySem.Spec.ltCps, Bool.or_eq_true, Bool.and_eq_true, decide_eq_true_eq, beq_iff_eq] at h
    simp only [PySem.Spec.ltCps, Bool.or_eq_false_iff, Bool.and_eq_false_iff, decide_eq_false_iff_not, beq_eq_false_iff_ne]
    rcases h with h | ⟨rfl, h⟩
    · exact ⟨by omega, .inl (by omega)⟩
    · exact ⟨by omega, .inr (ltC_asymm r t h)⟩
theorem risingS_pw : ∀ (p : Str) (l : List Str), risingS p l = true → (p :: l).Pairwise leS
  | _, [], _ => by simp
  | p, x :: r, h => by
    simp only [risingS, Bool.and_eq_true, Bool.not_eq_true'] at h
    have ih := risingS_pw x r h.2
    refine List.pairwise_cons.mpr ⟨fun y hy => ?_, ih⟩
    rcases List.mem_cons.mp hy with rfl | hy
    · exact h.1
    · exact leS_trans h.1 ((List.pairwise_cons.mp ih).1 y hy)
theorem sortedS_pw : ∀ (l : List Str), sortedS l = true → l.Pairwise leS
  | [], _ => .nil
  | x :: r, h => risingS_pw x r h
theorem insS_perm (a : Str) : ∀ l, (insS a l).Perm (a :: l)
  | [] => .refl _
  | b :: r => by
    unfold insS
    split
    · exact ((insS_perm a r).cons b).trans (.swap a b r)
    · exact .refl _
set_option tactic.hygienic true in
theorem insS_pw (a : Str) : ∀ l, l.Pairwise leS → (insS a l).Pairwise leS
  | [], _ => by simp [insS]
  | b :: r, h => by
    obtain ⟨h1, h2⟩ := List.pairwise_cons.mp h
    unfold insS
    split
    · rename_i hlt
      refine List.pairwise_cons.mpr ⟨fun y hy => ?_, insS_pw a r h2⟩
      rcases List.mem_cons.mp ((insS_perm a r).mem_iff.mp hy) with rfl | hy
      · exact ltC_asymm _ _ hlt
      · exact h1 y hy
    · rename_i hlt
      refine List.pairwise_cons.mpr ⟨fun y hy => ?_, h⟩
      rcases List.mem_cons.mp hy with rfl | hy
      · exact hlt
      · exact leS_trans hlt (h1 y hy)
theorem sortedStrs_perm : ∀ l, (sortedStrs l).Perm l
  | [] => .refl _
  | a :: r => (insS_perm a _).trans ((sortedStrs_perm r).cons a)
theorem sortedStrs_pw : ∀ l, (sortedStrs l).Pairwise leS
  | [] => .nil
  | a :: r => insS_pw a _ (sortedStrs_pw r)
theorem sortedStrs_uniq {l l' : List Str} (hp : l'.Perm l) (hs : sortedS l' = true) : l' = sortedStrs l :=
  List.Perm.eq_of_pairwise (fun a b j9 j9 h k => leS_antisymm h k) (sortedS_pw _ hs) (sortedStrs_pw l) (hp.trans (sortedStrs_perm l).symm)
section
variable {S : Stc} {T : Top} {A : Around} {s : Shared} {g : Gh} {ph ph' : List PO} {v x u : PV} {h : Heap} {vs xs ys : List PV} {us ws : List Value}
@[elab_as_elim] theorem eOne {motive : List Value → Prop} (r : VRs S h g [x] us) (k : ∀ v, VR S h g x v → motive [v]) : motive us := r.eCons (p := motive us) fun v vs q a b => q ▸ b.eNil (p := motive (v :: vs)) fun e => e ▸ k v a
@[elab_as_elim] theorem eTwo {motive : List Value → Prop} (r : VRs S h g [x, v] us) (k : ∀ a b, VR S h g x a → VR S h g v b → motive [a, b]) : motive us := r.eCons (p := motive us) fun a vs q ra rb => q ▸ eOne (motive := fun l => motive (a :: l)) rb fun b rb => k a b ra rb
noncomputable def TBi (S : Stc) (f : Value) (vs : List PV) (ph : List PO) (v : PV) (ph' : List PO) : Prop := ∀ {A : Around} {s : Shared} {g : Gh} {xs : List Value}, A.handled = none → Inv S s.heap s.toks g ph → VRs S s.heap g vs xs → wpAny (MS S) A (call f xs) (Pst S s g ph v ph') NoE s
theorem Pst.sorted {out : Array Value} (I : Inv S s.heap s.toks g ph) (r : ∀ h g', VRs S h g' xs out.toList) :
    Pst S s g ph (.lst xs) ph (.ref (s.heap.objs.size + 1)) { s with heap := sortedAll s.heap us out } := by
  obtain ⟨e, he⟩ := sortedAll_at s.heap us out
  refine Pst.grow I (fun a o e => sortedAll_old e) (Nat.le_refl _) (.lst (k := e) (vs := out.toList) (by simpa using he) (show Fz S g _ from fresh_Fz I (none_ge (Nat.le_succ _))) (r _ _))
theorem sort_s {ss : List Str} (ev : seqOf ph x = some xs) (hl : Nat.blt xs.length 64 = true) (e : allStr xs = some ss) : TBi S (.builtin "sorted") [x] ph (.lst ((sortedStrs ss).map .str)) ph := fun {A s g us} hA I r => eOne r fun v r => eSeq I ev r fun a vs n q1 q2 =>
  PyProof.Rows.sorted_strs ⟨_, q1, rfl, n, rfl⟩ (allStr_VRs e q2) (q2.length ▸ Nat.le_of_ble_eq_true hl) fun out ss' q1 q2 q3 => Pst.sorted I fun h g' => VRs_str (sortedStrs_uniq q2 q3 ▸ q1)
theorem sortSeq_ok (ev : seqOf ph x = some xs) (e : sortSeq xs ph = some (v, ph')) : TBi S (.builtin "sorted") [x] ph v ph' :=
  iF e fun h e => oSs e (fun ss hs e => sp2 e fun q1 q2 => q1 ▸ q2 ▸ sort_s ev h hs) fun j9 e => nos e
theorem len_s {y : Str} (ev : x.asStr = some y) (h : Nat.ble y.cps.toList.length 1000000 = true) : TBi S (.builtin "len") [x] ph (.int y.cps.toList.length) ph := fun {A s g us} hA I r => eOne r fun v r => eS ev r fun t => by
  rw [toList_size] at h ⊢
  exact PyProof.Rows.len_str (by have := Nat.le_of_ble_eq_true h; omega) (Pst.here I (Nat.le_succ_of_le (Nat.le_succ _)) (.int _ _))
theorem len_l (ev : seqOf ph x = some xs) (h : Nat.ble xs.length 1000000 = true) : TBi S (.builtin "len") [x] ph (.int xs.length) ph := fun {A s g us} hA I r => eOne r fun v r => eSeq I ev r fun a vs n q1 q2 => by
  rw [← q2.length] at h ⊢
  exact call_len_list (items := vs.toArray) ⟨_, q1, rfl, n, rfl⟩ (by have := Nat.le_of_ble_eq_true h; rw [List.size_toArray]; omega) (Pst.here I (Nat.le_succ_of_le (Nat.le_succ _)) (.int _ _))
theorem len_d {es : List (Str × PV)} (O : TopOk S T) (ev : entsOf ph x = some es) (h : Nat.ble es.length 1000000 = true) : TBi S (.builtin "len") [x] ph (.int es.length) ph := fun {A s g us} hA I r => eOne r fun v r => by
  obtain ⟨a, kvs, ep, rfl, h1, h2, _, h3⟩ := entsOf_VR I ev r
  have hne : (a == sysModules) = false := beq_eq_false_iff_ne.mpr fun q => let ⟨o, ho⟩ := O.sys; nos (h3.symm.trans (q ▸ ho))
  have hl : kvs.length = es.length := by simpa using congrArg List.length h2
  rw [← hl] at h ⊢
  exact call_len_dict hne h1.dictOf (by have := Nat.le_of_ble_eq_true h; omega) (Pst.here I (Nat.le_succ_of_le (Nat.le_succ _)) (.int _ _))
theorem lenN_ok {k : Nat} {f : Value} (h : Nat.ble k 1000000 = true → TBi S f vs ph (.int k) ph) (e : lenN k ph = some (v, ph')) : TBi S f vs ph v ph' := iT e fun q e => sp2 e fun q1 q2 => q1 ▸ q2 ▸ h q
theorem len_ok (O : TopOk S T) (e : lenP vs ph = some (v, ph')) : TBi S (.builtin "len") vs ph v ph' :=
  l1 e fun x q e => q ▸ oS e (fun y hy e => lenN_ok (len_s hy) e) fun j9 e => oL e (fun xs hx e => lenN_ok (len_l hx) e) fun j9 e => iE e fun es he e => lenN_ok (len_d O he) e
theorem int_ok (e : intP vs ph = some (v, ph')) : TBi S (.type "int") vs ph v ph' := l1 e fun x q e => q ▸ iI e fun i hi e => sp2 e fun q1 q2 => q1 ▸ q2 ▸ fun hA I r => eOne r fun v r => eI hi r fun t => call_int_int (Pst.same I (.int _ _))
theorem Pst.rng {a b c : Int} {t u w : Tok} {m : Nat} (I : Inv S s.heap s.toks g ph) (hm : s.toks ≤ m) :
    Pst S s g ph (.rng a b c) ph (.ref s.heap.objs.size) { s with heap := s.heap.push { cls := .type "range", data := .fields #[.int a t, .int b u, .int c w] }, toks := m } :=
  Pst.grow I (fun a o e => Heap.get?_push_of_some _ e) hm (.rng (Heap.get?_push_size _ rfl) (show Fz S g _ from fresh_Fz I (none_size _)))
@[elab_as_elim] theorem eThree {y : PV} {motive : List Value → Prop} (r : VRs S h g [x, v, y] us) (k : ∀ a b c, VR S h g x a → VR S h g v b → VR S h g y c → motive [a, b, c]) : motive us := r.eCons (p := motive us) fun a vs q ra rb => q ▸ eTwo (motive := fun l => motive (a :: l)) rb fun b c rb rc => k a b c ra rb rc
theorem range_3 {y z : PV} {o p q : Int} (hx : asI x = some o) (hy : asI y = some p) (hz : asI z = some q) (h : (q == 0 || !smallJ q) = false) : TBi S (.type "range") [x, y, z] ph (.rng o p q) ph := fun hA I r => eThree r fun a b c ra rb rc => eI hx ra fun t => eI hy rb fun t => eI hz rc fun t => by
  rw [Bool.or_eq_false_iff, beq_eq_false_iff_ne, Bool.not_eq_false'] at h
  exact call_range_3 h.1 (Pst.rng I (Nat.le_refl _)) (.inl (PyProof.noPylong_small (of_decide_eq_true h.2)))
theorem range_ok (e : rangeP vs ph = some (v, ph')) : TBi S (.type "range") vs ph v ph' :=
  l3 e (fun x q e => iI e fun i hx e => sp2 e fun q1 q2 => q ▸ q1 ▸ q2 ▸ fun hA I r => eOne r fun a r => eI hx r fun t => call_range_1 (Pst.rng I (Nat.le_succ_of_le (Nat.le_succ _))))
    (fun x y q e => iI e fun i hx e => iI e fun j hy e => sp2 e fun q1 q2 => q ▸ q1 ▸ q2 ▸ fun hA I r => eTwo r fun a b ra rb => eI hx ra fun t => eI hy rb fun u => call_range_2 (Pst.rng I (Nat.le_succ _)))
    fun x y z q e => iI e fun i hx e => iI e fun j hy e => iI e fun k hz e => iTn e fun h e => sp2 e fun q1 q2 => q ▸ q1 ▸ q2 ▸ range_3 hx hy hz h
theorem itemsOf_VRs {a c : Int} : ∀ {n : Nat} {vs : List Value}, vs.length = n → (∀ (j : Nat) (v : Value), vs[j]? = some v → ∃ t, v = Value.int (a + (j : Int) * c) t) → VRs S h g ((List.range n).map fun i : Nat => PV.int (a + (i : Int) * c)) vs := by
  intro n
  induction n with
  | zero => intro vs hl _; rw [List.eq_nil_of_length_eq_zero hl]; exact .nil
  | succ n ih =>
    intro vs hl hv
    have hne : vs ≠ [] := fun e => by rw [e] at hl; exact nomatch hl
    have hd := List.dropLast_concat_getLast hne
    have hl' : vs.dropLast.length = n := by rw [List.length_dropLast, hl]; rfl
    generalize vs.getLast hne = w at hd
    rw [List.range_succ, List.map_append, ← hd]
    refine (ih hl' fun j v' q => hv j v' ?_).append ?_
    · rw [← hd, List.getElem?_append_left (List.getElem?_eq_some_iff.mp q).1]; exact q
    · obtain ⟨t, ht⟩ := hv n w (by rw [← hd, List.getElem?_append_right (Nat.le_of_eq hl'), hl', Nat.sub_self]; rfl)
      rw [ht]
      exact .cons (.int _ _) .nil
theorem fits {i : Int} (h : i.natAbs < 9223372036854775808) : Builtin.Range.rangeFitsLong i = true := by
  unfold Builtin.Range.rangeFitsLong
  simp; omega
theorem rng_small {a b c : Int} (h1 : smallJ a = true) (h2 : smallJ b = true) (h3 : smallJ c = true) (h4 : 0 < c) (h5 : Builtin.Range.rangeSize a b c ≤ 4294967296) : Builtin.Range.small a b c = true ∧ ∃ m : Nat, Builtin.Range.rangeSize a b c = m := by
  have h1 := of_decide_eq_true h1
  have h2 := of_decide_eq_true h2
  have h3 := of_decide_eq_true h3
  have h0 : 0 ≤ Builtin.Range.rangeSize a b c := by
    unfold Builtin.Range.rangeSize
    rw [if_pos (show c > 0 from h4)]
    split
    · exact Int.add_nonneg (Int.ediv_nonneg (by omega) (Int.le_of_lt h4)) (by decide)
    · exact Int.le_refl _
  obtain ⟨m, hm⟩ := Int.eq_ofNat_of_zero_le h0
  refine ⟨?_, m, hm⟩
  unfold Builtin.Range.small
  rw [if_pos (show c > 0 from h4), fits (Nat.lt_trans h1 (by decide)), fits (Nat.lt_trans h2 (by decide)), fits (Nat.lt_trans h3 (by decide)), hm, fits (by have := Int.ofNat_le.mp (hm ▸ h5); omega), fits (i := b + (c - 1)) (by omega)]
  exact Bool.or_true _
theorem Pst.new {h' : Heap} {tk : Nat} {po : PO} (I : Inv S s.heap s.toks g ph) (kp : ∀ b o, s.heap.get? b = some o → h'.get? b = some o) (ht : s.toks ≤ tk) (hor : OR S h' ⟨g.ρ ++ [s.heap.objs.size], g.ξ, g.tk⟩ po s.heap.objs.size) :
    Pst S s g ph (.obj ph.length) (ph ++ [po]) (.ref s.heap.objs.size) { s with heap := h', toks := tk } :=
  ⟨⟨g.ρ ++ [s.heap.objs.size], g.ξ, g.tk⟩, I.new (none_size _) kp (Nat.le_refl _) (Nat.le_trans I.tk ht) hor, .more I (none_size _) kp (Nat.le_refl _), .obj (by rw [← I.len]; simp), .of⟩
theorem asRng_eq {a b c : Int} (hv : asRng x = some (a, b, c)) : x = .rng a b c := by
  cases x
  case rng => exact congrArg (fun p => PV.rng p.1 p.2.1 p.2.2) (Option.some.inj hv)
  all_goals exact nos hv
theorem list_r {a b c : Int} (hv : asRng x = some (a, b, c)) (h : (smallJ a && smallJ b && smallJ c && decide (0 < c) && decide (Builtin.Range.rangeSize a b c ≤ 1000)) = true) : TBi S (.type "list") [x] ph (.obj ph.length) (ph ++ [.list (rngItems a b c)]) := fun {A s g us} hA I r => eOne r fun v r => by
  simp only [Bool.and_eq_true, decide_eq_true_eq] at h
  obtain ⟨hs, m, hm⟩ := rng_small h.1.1.1.1 h.1.1.1.2 h.1.1.2 h.1.2 (Int.le_trans h.2 (by decide))
  rw [asRng_eq hv] at r
  refine r.eRng fun l t u w q hr j9 => ?_
  subst q
  refine wpAny_up (call_list_range (n := m) hA hr hs hm (Nat.le_trans (Int.ofNat_le.mp (hm ▸ h.2)) (by decide)) fun h' tk acc' c' hk hat hit ht => ?_)
  refine Pst.new I hk ht ⟨acc'.toList, c', by simpa using hat, ?_⟩
  unfold rngItems
  rw [hm]
  exact itemsOf_VRs (by rw [Array.length_toList]; exact hit.1) fun j v q => hit.2 j v (by rw [← Array.getElem?_toList]; exact q)
theorem list_ok (e : listP vs ph = some (v, ph')) : TBi S (.type "list") vs ph v ph' := l1 e fun x q e => q ▸ iRg e fun a b c hv e => iT e fun h e => sp2 e fun q1 q2 => q1 ▸ q2 ▸ list_r hv h
theorem intItems_of {vs : List Value} {ns : List Int} (hi : IntsAre vs ns) : ∃ xs : Array (Int × Tok), vs.toArray = intItems xs ∧ ns = xs.toList.map (·.1) := by
  obtain ⟨xs, e⟩ := hi.allInts.items
  exact ⟨xs, e, by rw [← hi.numsOf, ← nums_intItems, ← e]⟩
theorem minInts_eq {ns : List Int} {M : Int} (h1 : M ∈ ns) (h2 : ∀ a ∈ ns, M ≤ a) : minInts ns = some M := by
  have gen : ∀ (l : List Int) (a : Int), (l.foldl (fun m y => if y < m then y else m) a) ≤ a ∧ (∀ b ∈ l, (l.foldl (fun m y => if y < m then y else m) a) ≤ b) ∧ ((l.foldl (fun m y => if y < m then y else m) a) = a ∨ (l.foldl (fun m y => if y < m then y else m) a) ∈ l) := by
    intro l
    induction l with
    | nil => intro a; simp
    | cons x l ih =>
      intro a
      simp only [List.foldl_cons]
      by_cases hxa : x < a
      · rw [if_pos hxa]
        obtain ⟨p, q, r⟩ := ih x
        refine ⟨by omega, fun b hb => ?_, ?_⟩
        · rcases List.mem_cons.mp hb with rfl | hb
          · exact p
          · exact q b hb
        · rcases r with r | r
          · right; rw [r]; exact List.mem_cons_self
          · right; exact List.mem_cons_of_mem _ r
      · rw [if_neg hxa]
        obtain ⟨p, q, r⟩ := ih a
        refine ⟨p, fun b hb => ?_, ?_⟩
        · rcases List.mem_cons.mp hb with rfl | hb
          · omega
          · exact q b hb
        · rcases r with r | r
          · left; exact r
          · right; exact List.mem_cons_of_mem _ r
  cases ns with
  | nil => cases h1
  | cons x l =>
    show some (l.foldl (fun m y => if y < m then y else m) x) = some M
    obtain ⟨p, q, r⟩ := gen l x
    have k1 : M ≤ l.foldl (fun m y => if y < m then y else m) x := by
      rcases r with r | r
      · rw [r]; exact h2 x List.mem_cons_self
      · exact h2 _ (List.mem_cons_of_mem _ r)
    have k2 : l.foldl (fun m y => if y < m then y else m) x ≤ M := by
      rcases List.mem_cons.mp h1 with rfl | h
      · exact p
      · exact q M h
    rw [show l.foldl (fun m y => if y < m then y else m) x = M from Int.le_antisymm k2 k1]
theorem getD_mem' {l : List Int} : ∀ {j : Nat}, j < l.length → l.getD j 0 ∈ l := by
  intro j h
  rw [List.getD_eq_getElem?_getD, List.getElem?_eq_getElem h]
  exact List.getElem_mem h
theorem mem_getD' {l : List Int} {a : Int} (h : a ∈ l) : ∃ j, j < l.length ∧ l.getD j 0 = a := by
  obtain ⟨j, hj⟩ := List.mem_iff_getElem?.mp h
  refine ⟨j, (List.getElem?_eq_some_iff.mp hj).1, ?_⟩
  rw [List.getD_eq_getElem?_getD, hj]; rfl
theorem min_l {ns : List Int} {i : Int} (hx : seqOf ph x = some xs) (hns : allInt xs = some ns) (hm : minInts ns = some i) : TBi S (.builtin "min") [x] ph (.int i) ph := fun {A s g us} hA I r => eOne r fun v r => eSeq I hx r fun l vs k h1 h2 => by
  obtain ⟨ys, q1, q2⟩ := intItems_of (allInt_VRs hns h2)
  have hne : 0 < ns.length := by cases ns with | nil => simp [minInts] at hm | cons => simp
  have hsz : 0 < ys.size := by rw [q2, List.length_map, Array.length_toList] at hne; exact hne
  refine wpAny_up (min_intList (xs := ys) hA (q1 ▸ ⟨_, h1, rfl, k, rfl⟩) hsz (fun v h' tk hv hk ht => ?_))
  obtain ⟨t, rfl⟩ := intItems_at hv
  obtain ⟨p1, p2⟩ := argBest_lt (numAt ys) (ys.size - 1)
  have hM : minInts ns = some (numAt ys (argBest (fun i j => decide (numAt ys i < numAt ys j)) (ys.size - 1))) := by
    refine minInts_eq ?_ fun a ha => ?_
    · rw [q2, numAt_eq]; exact getD_mem' (by rw [List.length_map, Array.length_toList]; omega)
    · rw [q2] at ha
      obtain ⟨j, hj, rfl⟩ := mem_getD' ha
      rw [List.length_map, Array.length_toList] at hj
      rw [← numAt_eq]; exact p2 j (by omega)
  rw [hM] at hm
  rw [← Option.some.inj hm]
  exact Pst.grow I hk ht (.int _ _)
theorem min_2 {v : PV} {a b : Int} (hx : asI x = some a) (hv : asI v = some b) : TBi S (.builtin "min") [x, v] ph (.int (if b < a then b else a)) ph := fun hA I r => eTwo r fun y z r1 r2 => eI hx r1 fun t => eI hv r2 fun u => by
  refine wpAny_up (min_two_ints hA (fun h' tk hk ht => ?_))
  by_cases h : b < a
  · rw [if_pos h, if_pos h]; exact Pst.grow I hk ht (.int _ _)
  · rw [if_neg h, if_neg h]; exact Pst.grow I hk ht (.int _ _)
theorem inl_of {i : Int} (h : i.natAbs < 9223372036854775808) : InLong i := by unfold InLong; omega
theorem sum_l {ns : List Int} (hx : seqOf ph x = some xs) (hns : allInt xs = some ns) (hq : Nat.ble ns.length 64 = true ∧ ns.all smallJ = true) : TBi S (.builtin "sum") [x] ph (.int ns.sum) ph := fun {A s g us} hA I r => eOne r fun v r => eSeq I hx r fun l us k q1 q2 => by
  have hlen := Nat.le_of_ble_eq_true hq.1
  have hall : ∀ i ∈ ns, i.natAbs < 1073741824 := fun i hi => by simpa [smallJ] using List.all_eq_true.mp hq.2 i hi
  obtain ⟨zs, p1, p2⟩ := intItems_of (allInt_VRs hns q2)
  have hsz : zs.size = ns.length := by rw [p2]; simp
  have hnum : numAt zs = fun j => ns.getD j 0 := by funext j; rw [numAt_eq, p2]
  have hsum : ∀ m : List Int, (∀ i ∈ m, i.natAbs < 1073741824) → m.sum.natAbs ≤ m.length * 1073741824 := by
    intro m
    induction m with
    | nil => intro _; simp
    | cons a m ih =>
      intro h
      have h1 := h a List.mem_cons_self
      have h2 := ih fun i hi => h i (List.mem_cons_of_mem _ hi)
      rw [List.sum_cons, List.length_cons, Nat.succ_mul, Nat.add_comm]
      exact Nat.le_trans (Int.natAbs_add_le a m.sum) (Nat.add_le_add (Nat.le_of_lt h1) h2)
  refine wpAny_up (sum_intList (xs := zs) hA (p1 ▸ ⟨_, q1, rfl, k, rfl⟩) (fun j hj => ?_) (fun h' tk t' hk ht => ?_))
  · rw [hnum, PyProof.Rows.preSum_getD]
    have h1 : (ns.getD j 0).natAbs < 1073741824 := hall _ (getD_mem' (by omega))
    have h2 := hsum (ns.take (j + 1)) fun i hi => hall i (List.mem_of_mem_take hi)
    have h3 : (ns.take (j + 1)).length ≤ 64 := by rw [List.length_take]; omega
    have h4 : (ns.take (j + 1)).length * 1073741824 ≤ 64 * 1073741824 := Nat.mul_le_mul_right _ h3
    refine ⟨?_, ?_⟩
    · exact inl_of (Nat.lt_trans h1 (by decide))
    · exact inl_of (Nat.lt_of_le_of_lt (Nat.le_trans h2 h4) (by decide))
  · rw [hnum, PyProof.Rows.preSum_getD, hsz, List.take_length]
    exact Pst.grow I hk ht (.int _ _)
theorem sum_ok (e : sumP vs ph = some (v, ph')) : TBi S (.builtin "sum") vs ph v ph' := l1 e fun x q e => q ▸ iL e fun xs hx e => iIs e fun ns hn e => iT e fun h e => sp2 e fun q1 q2 => q1 ▸ q2 ▸ sum_l hx hn (Bool.and_eq_true_iff.mp h)
end
end Mine.Internal
end
section
open PySem PySem.W PyProof.Rows PySem.Calls
namespace Mine.Internal
section
variable {S : Stc} {T : Top} {P : PrimT} {A : Around} {s : Shared} {g : Gh} {ph ph1 ph2 ph3 ph' : List PO} {env : Env} {sc : Scope} {loc : Loc} {X : List Addr} {n : Nat} {r : Ev} {e o : Expr} {v ov : PV} {es args : List Expr} {vs us : List PV} {ks kws : List Keyword} {kvs : List (Str × PV)} {name x y z : Str} {k : MK}
structure TK (S : Stc) (n : Nat) (sc : Scope) (loc : Loc) (ks : List Keyword) (ph : List PO) (kvs : List (Str × PV)) (ph' : List PO) : Prop where
  nm : ∀ p env, (backToKw p (keywordEach ks env)).all (·.1.isSome) = true ∧ (backToKw p (keywordEach ks env)).filterMap (·.1) = kvs.map (·.1)
  ok : ∀ {A : Around} {env : Env} {s : Shared} {g : Gh} {X : List Addr} {p : Pos}, AOk A n → Inv S s.heap s.toks g ph → Frm S s.heap g env sc loc X → wpAny (MS S) A (evalAll ((backToKw p (keywordEach ks env)).map (·.2))) (PstL S s g ph (kvs.map (·.2)) ph') NoE s
  nil : kvs = [] → ks = [] ∧ ph' = ph
theorem tk_nil : TK S n sc loc [] ph [] ph := ⟨fun j9 j9 => ⟨rfl, rfl⟩, fun {A env s g X p} _ I _ => evalAll_nil ⟨g, I, .refl, .nil, .refl⟩, fun j9 => ⟨rfl, rfl⟩⟩
theorem tk_cons {kp : Pos} {nm : Str} (h1 : TE S n sc loc e ph v ph1) (h2 : TK S n sc loc ks ph1 kvs ph') : TK S n sc loc (⟨some nm, e, kp⟩ :: ks) ph ((nm, v) :: kvs) ph' :=
  ⟨fun p env => ⟨(h2.nm p env).1, congrArg (nm :: ·) (h2.nm p env).2⟩,
   fun {A env s g X p} a I F => by
    show wpAny (MS S) A (evalAll ((do let v ← eval e env; standAt p; pure v) :: (backToKw p (keywordEach ks env)).map (·.2))) _ _ _
    exact evalAll_cons (wpAny_bind (wpP (h1.ok a I F) fun xa s1 g1 I1 T1 r1 m1 => wpAny_bind (wpAny_standAt (wpAny_pure (wpAny_mono (h2.ok a I1 (F.step I T1)) (fun xs s2 q => PstL.casesOn q fun g2 I2 T2 r2 m2 => ⟨g2, I2, T1.trans T2 I1, .cons (r1.step T2) r2, m1.trans m2⟩) fun j9 j9 h => h))))), nofun⟩
theorem kw_ok (H : Snd S r n) : ∀ {ks : List Keyword} {ph ph' kvs}, kwP r sc loc ks ph = some (kvs, ph') → TK S n sc loc ks ph kvs ph'
  | [], _, _, _, e => sp2 e fun q1 q2 => q1 ▸ q2 ▸ tk_nil
  | ⟨some nm, x, kp⟩ :: ks, _, _, _, e => rV e fun v ph1 e1 e => rK e fun us ph2 e2 e => sp2 e fun q1 q2 => by subst q1; subst q2; exact tk_cons (H.e e1) (kw_ok H e2)
  | ⟨none, x, kp⟩ :: ks, _, _, _, e => nos e
theorem stars_no {p : Pos} {env : Env} : ∀ {es : List Expr}, es.any isStar = false → (backTo p (starEach es env)).any (·.1) = false ∧ (backTo p (starEach es env)).all (fun x => !x.1) = true
  | [], _ => ⟨rfl, rfl⟩
  | x :: es, hs => by
    simp only [List.any_cons, Bool.or_eq_false_iff] at hs
    have hx : starEach (x :: es) env = (false, eval x env) :: starEach es env := by cases x <;> first | rfl | cases hs.1
    rw [hx]
    have := stars_no (p := p) (env := env) hs.2
    exact ⟨by show (false || (backTo p (starEach es env)).any (·.1)) = false; rw [this.1]; rfl, by show (true && (backTo p (starEach es env)).all (fun x => !x.1)) = true; rw [this.2]; rfl⟩
theorem ea_ok {f : Value} {p p' : Pos} {Q : Args → Shared → Prop} (h1 : TA S n sc loc es ph vs ph1) (h2 : TK S n sc loc ks ph1 kvs ph') (hs : es.any isStar = false) (a : AOk A n) (I : Inv S s.heap s.toks g ph) (F : Frm S s.heap g env sc loc X)
    (h : ∀ {xs ys s' g'}, Inv S s'.heap s'.toks g' ph' → Step S [] s.heap g ph s'.heap g' ph' → VRs S s'.heap g' vs xs → VRs S s'.heap g' (kvs.map (·.2)) ys → Same s s' → Q ⟨xs, (kvs.map (·.1)).zip ys⟩ s') :
    wpAny (MS S) A (evalArgs f true (backTo p (starEach es env)) (backToKw p' (keywordEach ks env))) Q NoE s := by
  have q0 := h2.nm p' env
  have k {xs s1 g1} (I1 : Inv S s1.heap s1.toks g1 ph1) (T1 : Step S [] s.heap g ph s1.heap g1 ph1) (r1 : VRs S s1.heap g1 vs xs) (m1 : Same s s1) : wpAny (MS S) A (evalAll ((backToKw p' (keywordEach ks env)).map (·.2))) (fun ys s2 => Q ⟨xs, ((backToKw p' (keywordEach ks env)).filterMap (·.1)).zip ys⟩ s2) NoE s1 := by
    rw [q0.2]
    exact wpAny_mono (h2.ok a I1 (F.step I T1)) (fun ys s2 q => PstL.casesOn q fun g2 I2 T2 r2 m2 => h I2 (T1.trans T2 I1) (r1.mono (T2.mono fun j9 q => nomatch q)) r2 (m1.trans m2)) fun j9 j9 h => h
  have h1' := h1.ok (p := p) hs a I F
  cases es with
  | nil =>
    obtain ⟨rfl, rfl⟩ := h1.nil rfl
    exact evalArgs_kw_nil q0.1 (k I .refl .nil .refl)
  | cons x es =>
    rw [Bool.or_eq_false_iff.mp hs |>.1 |> star_cons] at h1' ⊢
    exact evalArgs_kw q0.1 (wpAny_mono h1' (fun xs s1 q => PstL.casesOn q fun g1 I1 T1 r1 m1 => k I1 T1 r1 m1) fun j9 j9 h => h)
theorem str_join {t : Tok} {xs : List Value} (I : Inv S s.heap s.toks g ph) (r : VRs S s.heap g vs xs) (e : joinP x vs ph = some v) : wpAny (MS S) A (call (.builtin "str.join") (.str x t :: xs)) (Pst S s g ph v ph) NoE s :=
  l1 e fun y q e => iL e fun us hu e => iSs e fun ys hys e => iT e fun hb e => sp1 e fun z => z ▸ eOne (motive := fun xs => wpAny (MS S) A (call (.builtin "str.join") (.str x t :: xs)) (Pst S s g ph (.str (Txt.join x ys)) ph) NoE s) (q ▸ r) fun w rw => eSeq I hu rw fun l ws k q1 q2 =>
    wpAny_up (join_list (items := ws.toArray) ⟨_, q1, rfl, k, rfl⟩ (by simpa using allStr_VRs hys q2) (Nat.le_of_ble_eq_true hb) fun t' k ht => Pst.here I ht (.str _ _))
theorem lowerOk_len {x : Str} (h : lowerOk x = true) : x.length ≤ 1000 := by
  unfold lowerOk at h
  rw [Bool.and_eq_true] at h
  have := Nat.le_of_ble_eq_true h.2
  rw [Array.length_toList] at this
  exact this
inductive StrM : Str → String → Prop
  | join : StrM nJoin "str.join"
  | lower : StrM nLower "str.lower"
  | upper : StrM nUpper "str.upper"
theorem isStrName_some (h : isStrName name = true) : ∃ id, StrM name id := by
  unfold isStrName strNames at h
  simp only [List.any_cons, List.any_nil, Bool.or_false, Bool.or_eq_true, nEq_iff] at h
  rcases h with rfl | rfl | rfl
  · exact ⟨_, .join⟩
  · exact ⟨_, .lower⟩
  · exact ⟨_, .upper⟩
theorem nJoin_eq : nJoin = ("join" : Str) := by decide +kernel
theorem nLower_eq : nLower = ("lower" : Str) := by decide +kernel
theorem nUpper_eq : nUpper = ("upper" : Str) := by decide +kernel
theorem str_get {id : String} (m : StrM name id) {t pl} {Q : Value × List Value → Shared → Prop} (h : Q (.builtin id, [.str x t]) s) : wpAny (MS S) A (getMethod (.str x t) name pl) Q NoE s := by
  cases m
  · rw [nJoin_eq]; with_reducible exact GM.join h
  · rw [nLower_eq]; with_reducible exact GM.lower h
  · rw [nUpper_eq]; with_reducible exact GM.upper h
@[elab_as_elim] theorem eZero {h : Heap} {motive : List Value → Prop} {us : List Value} (r : VRs S h g [] us) (k : motive []) : motive us := r.eNil (p := motive us) fun q => q ▸ k
theorem case_ok {f : Str → Str} {id : String} {t : Tok} {xs : List Value} (k : x.length ≤ 1000 → wpAny (MS S) A (call (.builtin id) [.str x t]) (Pst S s g ph (.strg (f x)) ph) NoE s) (r : VRs S s.heap g vs xs) (e : caseP f x vs = some v) : wpAny (MS S) A (call (.builtin id) (.str x t :: xs)) (Pst S s g ph v ph) NoE s :=
  l0 e fun q e => iT e fun h e => sp1 e fun z => z ▸ eZero (motive := fun xs => wpAny (MS S) A (call (.builtin id) (.str x t :: xs)) (Pst S s g ph (.strg (f x)) ph) NoE s) (q ▸ r) (k (lowerOk_len h))
theorem strg_here (I : Inv S s.heap s.toks g ph) {t : Tok} (h : t = s.toks) : Pst S s g ph (.strg y) ph (.str y t) { s with toks := s.toks + 1 } := Pst.here I (Nat.le_succ _) (.strg (h ▸ Nat.lt_of_lt_of_le I.tk0 I.tk) (h ▸ Nat.lt_succ_self _))
theorem strMeth_ok {id : String} {t : Tok} {xs : List Value} (m : StrM name id) (I : Inv S s.heap s.toks g ph) (r : VRs S s.heap g vs xs) (e : strMeth x name vs ph = some v) : wpAny (MS S) A (call (.builtin id) (.str x t :: xs)) (Pst S s g ph v ph) NoE s := by
  cases m
  · exact str_join I r (show joinP x vs ph = some v from e)
  · exact case_ok (fun h => PyProof.Rows.SCL.lower (by omega) fun j9 => strg_here I rfl) r (show caseP Txt.lower x vs = some v from e)
  · exact case_ok (fun h => PyProof.Rows.SCL.upper (by omega) fun j9 => strg_here I rfl) r (show caseP Txt.upper x vs = some v from e)
theorem append_seq {l : Addr} {ws : List Value} {k : Nat} {x : Value} {Q : Value → Shared → Prop} (hl : s.heap.get? l = some (seqO "list" ws k))
    (hQ : ∀ h' k', h'.get? l = some (seqO "list" (ws ++ [x]) k') → (∀ (b : Addr) (o : Obj), b ≠ l → s.heap.get? b = some o → h'.get? b = some o) → Q .none { s with heap := h' }) (hsz : ws.length ≤ 1000) :
    wpAny (MS S) A (call (.builtin "list.append") [.ref l, x]) Q NoE s := by
  have hs : (ws.toArray).size ≤ sizeLine := by rw [sizeLine_eq]; simp; omega
  have hi : s.heap.IsList l ws.toArray := ⟨_, hl, rfl, k, rfl⟩
  refine wpAny_call_entry slot_list_append hi.typeIs entry_list_append ?_ (args_list_append _ _)
  show wpAny _ _ (updateSeq l (·.push x) >>= fun j9 => ret .none) _ _ s
  refine wpAny_bind ?_
  refine wpAny_updateSeq hl rfl (wpAny_pure ⟨.none, rfl, hQ _ (if (ws.toArray.push x).size == ws.toArray.size then k else k + 1) ?_ fun b o hb e => Heap.get?_update_of_ne _ (Ne.symm hb) e⟩)
  have := get?_update_seq (c := "list") (xs := ws.toArray) (n := k) hl (·.push x)
  rw [this]
  simp [seqO, seqObj]
theorem asObj_eq {n : Nat} (e : asObj v = some n) : v = .obj n := by
  cases v
  case obj => exact congrArg _ (Option.some.inj e)
  all_goals exact nos e
theorem listAt_eq {n : Nat} {xs : List PV} (e : listAt ph n = some xs) : ph[n]? = some (.list xs) := by
  unfold listAt at e
  cases h : ph[n]? with
  | none => rw [h] at e; exact nos e
  | some po =>
    rw [h] at e
    cases po
    case list => exact congrArg (fun l => some (PO.list l)) (Option.some.inj e)
    all_goals exact nos e
theorem append_ok {n : Nat} {xs : List PV} {l w : Value} (I : Inv S s.heap s.toks g ph) (rl : VR S s.heap g (.obj n) l) (rw' : VR S s.heap g v w) (hn : ph[n]? = some (.list xs)) (hl : Nat.ble xs.length 1000 = true) :
    wpAny (MS S) A (call (.builtin "list.append") [l, w]) (Pst S s g ph .none (ph.set n (.list (xs ++ [v])))) NoE s := rl.eObj fun a q hr => q ▸ by
  obtain ⟨ws, k, q1, q2⟩ := I.obj _ _ _ hn hr
  refine append_seq q1 (fun h' k' h1 hs => ?_) (q2.length ▸ Nat.le_of_ble_eq_true hl)
  have M := put_mono (m := g.tk) I hr hs (Nat.le_refl _)
  exact ⟨{ g with tk := g.tk }, I.put hr hn hs (Nat.le_refl _) I.tk ⟨_, _, h1, (q2.append (.cons rw' .nil)).mono M⟩, Step.put I hr hn nofun nofun hs (Nat.le_refl _) nofun, .none, .of⟩
theorem app_ok {l : Value} {xs : List Value} (I : Inv S s.heap s.toks g ph) (rl : VR S s.heap g ov l) (r : VRs S s.heap g vs xs) (e : metApp ov vs kvs ph = some (v, ph')) : wpAny (MS S) A (call (.builtin "list.append") (l :: xs)) (Pst S s g ph v ph') NoE s :=
  k0 e fun j9 e => l1 e fun y q e => iN e fun m hm e => iL e fun us hu e => iT e fun h e => sp2 e fun q1 q2 => by
    subst q1; subst q2; subst q
    rw [asObj_eq hm] at rl
    exact eOne (motive := fun xs => wpAny (MS S) A (call (.builtin "list.append") (l :: xs)) (Pst S s g ph .none (ph.set m (.list (us ++ [y])))) NoE s) r fun w rw' => append_ok I rl rw' (listAt_eq hu) h
structure PrimOk (S : Stc) (P : PrimT) (n : Nat) : Prop where
  f : ∀ {A a vs kvs ph v ph' s g xs ys}, P.lv ≤ n → AOk A n → P.f a vs kvs ph = some (v, ph') → Inv S s.heap s.toks g ph → VRs S s.heap g vs xs → VRs S s.heap g (kvs.map (·.2)) ys →
    wpAny (MS S) A (call (.ref a) xs ((kvs.map (·.1)).zip ys)) (Pst S s g ph v ph') NoE s
  k : ∀ {a vs kvs ph v ph'}, P.f a vs kvs ph = some (v, ph') → Keeps S a
  minx : ∀ {A xs ph v ph' s g l vs k}, AOk A n → P.minx xs ph = some (v, ph') → Inv S s.heap s.toks g ph → s.heap.get? l = some (seqO "list" vs k) → VRs S s.heap g xs vs → wpAny (MS S) A (call (.builtin "min") [.ref l]) (Pst S s g ph v ph') NoE s
structure MetOk (S : Stc) (T : Top) : Prop where
  met : ∀ {name f A s g ph n x pl}, look name T.met = some f → Inv S s.heap s.toks g ph → VR S s.heap g (.hdr n) x → wpAny (MS S) A (getMethod x name pl) (fun fx s' => fx = (.ref f, [x]) ∧ PstU S s g ph ph s') NoE s
  amet : ∀ {name f A s g ph n x xs pl}, look name T.amet = some f → Inv S s.heap s.toks g ph → ph[n]? = some (.acc xs) → VR S s.heap g (.obj n) x → wpAny (MS S) A (getMethod x name pl) (fun fx s' => fx = (.ref f, [x]) ∧ PstU S s g ph ph s') NoE s
structure ObjOk (S : Stc) (T : Top) (P : PrimT) : Prop where
  attr : ∀ {A s g ph n x}, A.handled = none → Inv S s.heap s.toks g ph → VR S s.heap g (.hdr n) x → wpAny (MS S) A (getAttr x nHeaders true) (Pst S s g ph (.obj n) ph) NoE s
  del : ∀ {A f s g ph n x y v ph'}, A.handled = none → look nDelitem T.met = some f → Inv S s.heap s.toks g ph → VR S s.heap g (.hdr n) x → wpAny (MS S) A (call (.ref f) [x, y]) (Pst S s g ph v ph') NoE s → wpAny (MS S) A (delItem x y) (fun j9 s' => PstU S s g ph ph' s') NoE s
inductive FxOk (name : Str) (x : Value) : MK → Value × List Value → Prop
  | str (id : String) (y : Str) (t : Tok) : StrM name id → x = .str y t → FxOk name x (.str y) (.builtin id, [x])
  | app : FxOk name x .app (.builtin "list.append", [x])
  | fn (f : Addr) : FxOk name x (.fn f) (.ref f, [x])
noncomputable def TG (S : Stc) (ov : PV) (name : Str) (ph : List PO) (k : MK) : Prop := ∀ ⦃A : Around⦄ ⦃s : Shared⦄ ⦃g : Gh⦄ ⦃x : Value⦄ ⦃pl⦄, Inv S s.heap s.toks g ph → VR S s.heap g ov x → wpAny (MS S) A (getMethod x name pl) (fun fx s' => FxOk name x k fx ∧ PstU S s g ph ph s') NoE s
theorem nAppend_eq : nAppend = ("append" : Str) := by decide +kernel
theorem tg_str (ho : ov.asStr = some y) (e : getStr y name = some k) : TG S ov name ph k := fun A s g x pl I r => iT e fun h e => sp1 e fun q => eS (motive := fun x => wpAny (MS S) A (getMethod x name pl) (fun fx s' => FxOk name x k fx ∧ PstU S s g ph ph s') NoE s) ho r fun t => by
  obtain ⟨id, m⟩ := isStrName_some h
  with_reducible refine str_get m ?_
  exact ⟨q ▸ .str _ _ _ m rfl, g, I, .refl, .refl⟩
theorem tg_fn {f : Option Addr} (h : ∀ {f'}, f = some f' → ∀ {A : Around} {s : Shared} {g : Gh} {x : Value} {pl}, Inv S s.heap s.toks g ph → VR S s.heap g ov x → wpAny (MS S) A (getMethod x name pl) (fun fx s' => fx = (.ref f', [x]) ∧ PstU S s g ph ph s') NoE s) (e : getFn f = some k) : TG S ov name ph k :=
  fun A s g x pl I r => iA e fun f' hf e => sp1 e fun q => q ▸ wpAny_mono (h hf I r) (fun fx s' q => ⟨q.1 ▸ .fn _, q.2⟩) fun j9 j9 h => h
theorem tg_app {n : Nat} {xs : List PV} (hn : ph[n]? = some (.list xs)) (h : nEq name nAppend = true) : TG S (.obj n) name ph .app := fun A s g x pl I r => r.eObj fun a q hr => by
  obtain ⟨ws, k, q1, q2⟩ := I.obj _ _ _ hn hr
  subst q
  rw [nEq_iff.mp h, nAppend_eq]
  exact getMethod_builtin (T := "list") ⟨_, q1, rfl⟩ PySem.F.plainAttrs_list slot_list_append type_list_append (fun b hb => Value.ref.inj hb ▸ ⟨_, q1, rfl⟩) ⟨.app, g, I, .refl, .refl⟩
set_option tactic.hygienic true in
theorem getO_ok (MO : MetOk S T) (e : getO T ov name ph = some k) : TG S ov name ph k := by
  cases ov
  case obj n =>
    replace e : (match ph[n]? with | some (.list _) => (match nEq name nAppend with | true => some .app | false => none) | some (.acc _) => getFn (look name T.amet) | _ => none) = some k := e
    cases hp : ph[n]? with
    | none => rw [hp] at e; exact nos e
    | some po =>
      rw [hp] at e
      cases po
      case list => exact iT e fun h e => sp1 e fun q => q ▸ tg_app hp h
      case acc => exact tg_fn (fun hf => fun I r => MO.amet hf I hp r) e
      all_goals exact nos e
  case hdr => exact tg_fn (fun hf => fun I r => MO.met hf I r) e
  all_goals exact nos e
theorem getM_ok (MO : MetOk S T) (e : getM T ov name ph = some k) : TG S ov name ph k := oS e (fun y ho e => tg_str ho e) fun j9 e => getO_ok MO e
set_option tactic.hygienic true in
theorem base_of {whole : Sem Value} (h : notSuper o = true) : attributeBase o name env whole = whole := by
  cases o
  case Call f args kws p =>
    cases f
    case Name =>
      cases args
      · cases kws
        · exact nomatch h
        · rfl
      · rfl
    all_goals rfl
  all_goals rfl
theorem meth_eval {o : Expr} {name : Str} {apos pos : Pos} {args : List Expr} {kws : List Keyword} {Q : Value → Shared → Prop} (hf : methFits o apos pos args = true) (hk : kws.length < 10) (hkn : (backToKw pos (keywordEach kws env)).all (·.1.isSome) = true)
    (h : wpAny (MS S) A (eval o env) (fun ov s₁ => ∀ pl, wpAny (MS S) A (getMethod ov name pl) (fun fx s₂ => wpAny (MS S) A (callWith pos fx.1 fx.2 (backTo pos (starEach args env)) (backToKw pos (keywordEach kws env))) Q NoE s₂) NoE s₁) NoE s) :
    wpAny (MS S) A (eval (.Call (.Attribute o name apos) args kws pos) env) Q NoE s := by
  unfold methFits at hf
  simp only [Bool.and_eq_true, Bool.not_eq_true'] at hf
  obtain ⟨⟨⟨h1, h2⟩, h3⟩, h4⟩ := hf
  have h3 : args.length < 10 := by simpa [Nat.blt_eq] using h3
  have hform : methodCallForm (args.length + kws.length) (backTo pos (starEach args env)) (backToKw pos (keywordEach kws env)) = true := by
    unfold methodCallForm
    rw [(stars_no h4).2, hkn]
    simp only [Bool.true_and, decide_eq_true_eq]
    split <;> omega
  have hpos : methodCallPos true o env apos pos = pure pos := by
    unfold methodCallPos
    simp [Nat.eq_of_beq_eq_true h2]
  rw [arm_eval_Call, base_of h1]
  refine wpAny_bind (wpAny_mono h (fun ov s₁ h₁ => ?_) fun j9 j9 e => e)
  refine wpAny_bind (wpAny_standAt ?_)
  unfold methodCall
  rw [hform]
  refine wpAny_bind (wpAny_holding ?_)
  show wpAny _ _ (getMethod ov name _) _ _ _
  refine wpAny_mono (h₁ _) (fun fx s₂ h₂ => ?_) fun j9 j9 e => e
  exact wpAny_bind (wpAny_of_eq hpos h₂)
end
end Mine.Internal
end
section
open PySem PySem.W PyProof.Rows PySem.Calls
namespace Mine.Internal
section
variable {S : Stc} {T : Top} {P : PrimT} {A : Around} {s : Shared} {g : Gh} {ph ph1 ph2 ph3 ph' : List PO} {env : Env} {sc : Scope} {loc : Loc} {X : List Addr} {n : Nat} {r : Ev} {e o : Expr} {v ov : PV} {es args : List Expr} {vs us : List PV} {ks kws : List Keyword} {kvs : List (Str × PV)} {name x y z : Str} {k : MK} {p pos apos : Pos}
noncomputable def TW (S : Stc) (n : Nat) (sc : Scope) (loc : Loc) (fx : Value × List Value) (es : List Expr) (ks : List Keyword) (ph : List PO) (v : PV) (ph' : List PO) (s : Shared) (g : Gh) : Prop := ∀ ⦃A : Around⦄ ⦃env : Env⦄ ⦃X : List Addr⦄ ⦃p : Pos⦄, AOk A n → Inv S s.heap s.toks g ph → Frm S s.heap g env sc loc X →
  wpAny (MS S) A (callWith p fx.1 fx.2 (backTo p (starEach es env)) (backToKw p (keywordEach ks env))) (Pst S s g ph v ph') NoE s
theorem tw_plain {id : String} {first : List Value} (hs : es.any isStar = false) (h1 : TA S n sc loc es ph vs ph1)
    (h : ∀ {A : Around} {xs s' g'}, AOk A n → Inv S s'.heap s'.toks g' ph1 → Step S [] s.heap g ph s'.heap g' ph1 → VRs S s'.heap g' vs xs → wpAny (MS S) A (call (.builtin id) (first ++ xs)) (Pst S s' g' ph1 v ph') NoE s') : TW S n sc loc (.builtin id, first) es [] ph v ph' s g := fun A env X p a I F =>
  callWith_builtin (stars_no hs).1 (ea_ok (p' := p) h1 tk_nil hs a I F fun I' T' r1 j9 m => wpAny_mono (h a I' T' r1) (fun j9 j9 q => q.after T' I' m) fun j9 j9 h => h)
theorem tw_type {id : String} {first : List Value} (hs : es.any isStar = false) (h1 : TA S n sc loc es ph vs ph1)
    (h : ∀ {A : Around} {xs s' g'}, AOk A n → Inv S s'.heap s'.toks g' ph1 → Step S [] s.heap g ph s'.heap g' ph1 → VRs S s'.heap g' vs xs → wpAny (MS S) A (call (.type id) (first ++ xs)) (Pst S s' g' ph1 v ph') NoE s') : TW S n sc loc (.type id, first) es [] ph v ph' s g := fun A env X p a I F =>
  PySem.callWith_type (stars_no hs).1 (ea_ok (p' := p) h1 tk_nil hs a I F fun I' T' r1 j9 m => wpAny_mono (h a I' T' r1) (fun j9 j9 q => q.after T' I' m) fun j9 j9 h => h)
theorem kw_some {l : List (Option Str × Sem Value)} (h : l.all (·.1.isSome) = true) : l.any (fun x => x.1.isNone) = false := by
  rw [List.any_eq_false]
  intro x hx
  have := List.all_eq_true.mp h x hx
  cases q : x.1 <;> simp_all
theorem tw_fn {f : Addr} {first : List Value} (K : Keeps S f) (hs : es.any isStar = false) (h1 : TA S n sc loc es ph vs ph1) (h2 : TK S n sc loc ks ph1 kvs ph2)
    (h : ∀ {A : Around} {xs ys s' g'}, AOk A n → Inv S s'.heap s'.toks g' ph2 → Step S [] s.heap g ph s'.heap g' ph2 → VRs S s'.heap g' vs xs → VRs S s'.heap g' (kvs.map (·.2)) ys → wpAny (MS S) A (call (.ref f) (first ++ xs) ((kvs.map (·.1)).zip ys)) (Pst S s' g' ph2 v ph') NoE s') : TW S n sc loc (.ref f, first) es ks ph v ph' s g := fun A env X p a I F => by
  refine callWith_of (P := fun h => ∀ b o, S.h₀.get? b = some o → ¬ S.tb b → h.get? b = some o) ?_ K ?_
  · rw [(stars_no hs).1, Bool.false_or]
    exact kw_some (h2.nm p env).1
  · exact ea_ok (p' := p) h1 h2 hs a I F fun I' T' r1 r2 m => ⟨fun b o z1 z2 => I'.top b o z1 z2, wpAny_mono (h a I' T' r1 r2) (fun j9 j9 q => q.after T' I' m) fun j9 j9 h => h⟩
theorem t_meth (hf : (methFits o apos pos args && Nat.blt kws.length 10) = true) (hk : ∀ env, (backToKw pos (keywordEach kws env)).all (·.1.isSome) = true) (h1 : TE S n sc loc o ph ov ph1) (hm : TG S ov name ph1 k)
    (h : ∀ {s g x fx}, Inv S s.heap s.toks g ph1 → VR S s.heap g ov x → FxOk name x k fx → TW S n sc loc fx args kws ph1 v ph2 s g) : TE S (n + 1) sc loc (.Call (.Attribute o name apos) args kws pos) ph v ph2 :=
  .of rfl fun a I F => meth_eval (Bool.and_eq_true_iff.mp hf).1 (Nat.blt_eq.mp (Bool.and_eq_true_iff.mp hf).2) (hk _) (wpP (h1.ok a.less I F) fun x s1 g1 I1 T1 r1 m1 pl => wpAny_mono (hm I1 r1) (fun fx s2 q => PstU.casesOn q.2 fun g2 I2 T2 m2 => wpAny_mono (h I2 (r1.step T2) q.1 a.less I2 ((F.step I T1).step I1 T2)) (fun j9 j9 q => (q.after T2 I2 m2).after T1 I1 m1) fun j9 j9 h => h) fun j9 j9 h => h)
theorem callK_ok (H : Snd S r n) (PO : PrimOk S P n) {f : Addr} (e : callK r P f vs kvs ph = some (v, ph')) : Keeps S f ∧ ∀ {A : Around} {s : Shared} {g : Gh} {xs ys : List Value}, AOk A n → Inv S s.heap s.toks g ph → VRs S s.heap g vs xs → VRs S s.heap g (kvs.map (·.2)) ys → wpAny (MS S) A (call (.ref f) xs ((kvs.map (·.1)).zip ys)) (Pst S s g ph v ph') NoE s := by
  cases kvs with
  | nil => exact ⟨(H.c e).k, fun a I r1 j9 => (H.c e).ok a I r1⟩
  | cons k kvs => exact iT e fun h e => ⟨PO.k e, fun a I r1 r2 => PO.f (H.lv ▸ Nat.le_of_ble_eq_true h) a e I r1 r2⟩
theorem runM_ok (H : Snd S r n) (PO : PrimOk S P n) {x : Value} {fx : Value × List Value} (hs : args.any isStar = false) (h1 : TA S n sc loc args ph vs ph1) (h2 : TK S n sc loc kws ph1 kvs ph2) (I : Inv S s.heap s.toks g ph) (rv : VR S s.heap g ov x) (hx : FxOk name x k fx) (e : runM r P k ov name vs kvs ph2 = some (v, ph')) :
    TW S n sc loc fx args kws ph v ph' s g := by
  cases hx with
  | str id y t m hx =>
    refine k0 e fun q e => iV e fun v hv e => sp2 e fun q1 q2 => ?_
    obtain ⟨rfl, rfl⟩ := h2.nil q
    subst hx; subst q1; subst q2
    exact tw_plain hs h1 fun a I T rx => strMeth_ok m I rx hv
  | app =>
    have hn : kvs = [] := k0 e fun q j9 => q
    obtain ⟨rfl, rfl⟩ := h2.nil hn
    exact tw_plain hs h1 fun a I T rx => app_ok I (rv.step T) rx e
  | fn f =>
    obtain ⟨K, h⟩ := callK_ok H PO e
    exact tw_fn K hs h1 h2 fun a I T rx ry => h a I (.cons (rv.step T) rx) ry
theorem getM_str (h : getM T ov name ph = some k) (ho : ov.asStr = some x) : k = .str x := oS h (fun y hy h => iT h fun j9 h => sp1 h fun q => q ▸ Option.some.inj (hy.symm.trans ho) ▸ rfl) fun hn j9 => nos (hn.symm.trans ho)
theorem fits_star (h : (methFits o apos pos args && Nat.blt kws.length 10) = true) : args.any isStar = false := by
  unfold methFits at h
  rw [Bool.and_eq_true, Bool.and_eq_true, Bool.not_eq_true'] at h
  exact h.1.2
theorem meth_of (H : Snd S r n) (PO : PrimOk S P n) (MO : MetOk S T) (hf : (methFits o apos pos args && Nat.blt kws.length 10) = true) (e : callMeth r T P sc loc o name args kws ph = some (v, ph')) : TE S (n + 1) sc loc (.Call (.Attribute o name apos) args kws pos) ph v ph' :=
  rV e fun ov ph1 e1 e => iM e fun k hk e => rL e fun vs ph2 e2 e => rK e fun kvs ph3 e3 e =>
    t_meth hf (fun env => ((kw_ok H e3).nm pos env).1) (H.e e1) (getM_ok MO hk) fun I rv hx => runM_ok H PO (fits_star hf) (args_ok H e2) (kw_ok H e3) I rv hx e
theorem min_ok (PO : PrimOk S P n) (e : minP P vs ph = some (v, ph')) {A : Around} (a : AOk A n) {s : Shared} {g : Gh} {xs : List Value} (I : Inv S s.heap s.toks g ph) (rx : VRs S s.heap g vs xs) : wpAny (MS S) A (call (.builtin "min") xs) (Pst S s g ph v ph') NoE s :=
  l12 e (fun x q e => iL e fun ys hy e => oIs e (fun ns hn e => iI e fun i hi e => sp2 e fun q1 q2 => by subst q; subst q1; subst q2; exact min_l hy hn hi a.hand I rx) fun j9 e' => by subst q; exact eOne (motive := fun xs => wpAny (MS S) A (call (.builtin "min") xs) (Pst S s g ph v ph') NoE s) rx fun v rv => eSeq I hy rv fun l us k q1 q2 => PO.minx a e' I q1 q2)
    fun x y q e => iI e fun i hi e => iI e fun j hj e => sp2 e fun q1 q2 => by subst q; subst q1; subst q2; exact min_2 hi hj a.hand I rx
theorem sort_ok (e : sortP vs ph = some (v, ph')) {A : Around} (a : AOk A n) {s : Shared} {g : Gh} {xs : List Value} (I : Inv S s.heap s.toks g ph) (rx : VRs S s.heap g vs xs) : wpAny (MS S) A (call (.builtin "sorted") xs) (Pst S s g ph v ph') NoE s :=
  l1 e fun x q e => by
    subst q
    exact iL e fun ys hy e => sortSeq_ok hy e a.hand I rx
theorem bi_ok (O : TopOk S T) (PO : PrimOk S P n) {b : Bi} {f : Value} (rf : VR S s.heap g (.bi b) f) (hs : args.any isStar = false) (h1 : TA S n sc loc args ph vs ph1) (e : callBi P b vs ph1 = some (v, ph')) : TW S n sc loc (f, []) args [] ph v ph' s g := by
  have q := rf.inv
  cases b
  all_goals (have q : f = _ := q; subst q)
  · exact tw_plain hs h1 fun a I T rx => len_ok O e a.hand I rx
  · exact tw_plain hs h1 fun a I T rx => min_ok PO e a I rx
  · exact tw_plain hs h1 fun a I T rx => sum_ok e a.hand I rx
  · exact tw_plain hs h1 fun a I T rx => sort_ok e a I rx
  · exact tw_type hs h1 fun a I T rx => int_ok e a.hand I rx
  · exact tw_type hs h1 fun a I T rx => range_ok e a.hand I rx
  · exact tw_type hs h1 fun a I T rx => list_ok e a.hand I rx
  · exact nos e
  · exact nos e
set_option tactic.hygienic true in
theorem callV_ok (O : TopOk S T) (H : Snd S r n) (PO : PrimOk S P n) {fv : PV} {f : Value} (rf : VR S s.heap g fv f) (hs : args.any isStar = false) (h1 : TA S n sc loc args ph vs ph1) (e : callV r P fv vs ph1 = some (v, ph')) : TW S n sc loc (f, []) args [] ph v ph' s g := by
  cases fv
  case con w =>
    cases w
    case ref a =>
      have q : f = .ref a := rf.inv
      subst q
      exact tw_fn (H.c e).k hs h1 tk_nil fun a I T rx j9 => (H.c e).ok a I rx
    all_goals exact nos e
  case bi b => exact bi_ok O PO rf hs h1 e
  all_goals exact nos e
theorem name_of (O : TopOk S T) (H : Snd S r n) (PO : PrimOk S P n) (hf : nameFits kws args = true) (e : callName r P sc loc (.Name x p) args ph = some (v, ph')) : TE S (n + 1) sc loc (.Call (.Name x p) args kws pos) ph v ph' := by
  unfold nameFits at hf
  rw [Bool.and_eq_true, Bool.and_eq_true, Bool.not_eq_true', List.isEmpty_iff] at hf
  obtain ⟨⟨rfl, h2⟩, h3⟩ := hf
  exact rV e fun fv ph1 e1 e => rL e fun vs ph2 e2 e => .of rfl fun a I F => wpAny_Call_Name_kw (wpP ((H.e e1).ok a.less I F) fun f s1 g1 I1 T1 r1 m1 => wpAny_mono (callV_ok O H PO r1 h3 (args_ok H e2) e a.less I1 (F.step I T1)) (fun j9 j9 q => q.after T1 I1 m1) fun j9 j9 h => h)
theorem call_of (O : TopOk S T) (H : Snd S r n) (PO : PrimOk S P n) (MO : MetOk S T) {f : Expr} (e : callP r T P sc loc f args kws pos ph = some (v, ph')) : TE S (n + 1) sc loc (.Call f args kws pos) ph v ph' := by
  cases f
  case Attribute => exact iF e fun h e => meth_of H PO MO h e
  case Name => exact iF e fun h e => name_of O H PO h e
  all_goals exact nos e
end
end Mine.Internal
end
section
open PySem PySem.W PyProof.Rows PySem.Calls
namespace Mine.Internal
section
variable {prog : Program} {w : World} {A : Around} {E : Value → Shared → Prop} {s : Shared}
theorem meets_tuplt (a b : Addr) (i j : Int) (t u : Tok) (v x : Value) (k l : Nat) (hne : i ≠ j) :
    Meets (Builtin.«tuple.__lt__» ⟨[.ref a, .ref b], []⟩) (fun j9 R s => s.heap.get? a = some (seqO "tuple" [.int i t, v] k) ∧ s.heap.get? b = some (seqO "tuple" [.int j u, x] l) ∧ R (.ok (.ret (.bool (decide (i < j))))) s) :=
  .of_wp fun prog w A R s h => by
    obtain ⟨hp, g, d, tk, os⟩ := s; obtain ⟨h1, h2, h⟩ := h
    have e1 : (i == j) = false := by simpa using hne
    have hT : ({ heap := hp, gens := g, drawn := d, toks := tk, os := os } : Shared).TypeIs (.ref b) "tuple" := ⟨_, h2, rfl⟩
    have hsub : isSubtype (.type "tuple") (.type "tuple") = pure true := by rw [isSubtype_type]; kernel_rfl
    have rc : ∀ (A : Around) (E : Value → Shared → Prop) (s : Shared) (Q : Value → Shared → Prop), Q (.bool (decide (i < j))) s → wpAny (model prog w) A (richCompare .Lt (.int i t) (.int j u)) Q E s := fun A E s Q h =>
      CmpOf.ints_lt (P := fun n v => ∃ t, v = .int (if n = 0 then i else j) t) (fun n => if n = 0 then i else j) (fun n v h => h) 0 1 _ _ _ _ _ ⟨t, rfl⟩ ⟨u, rfl⟩ h
    have eb : ∀ (A : Around) (E : Value → Shared → Prop) (s : Shared) (Q : Bool → Shared → Prop), Q false s → wpAny (model prog w) A (eqBool (.int i t) (.int j u)) Q E s := fun A E s Q h => wpAny_eqBool_int (e1.symm ▸ h)
    wp_walk using eb _ _ _ _, rc _ _ _ _
    exact ⟨_, rfl, h⟩
theorem tup_lt {a b : Addr} {i j : Int} {t u : Tok} {v x : Value} {k l : Nat} {Q : Value → Shared → Prop} (hu : A.units < cLine) (hne : i ≠ j) (h1 : s.heap.get? a = some (seqO "tuple" [.int i t, v] k)) (h2 : s.heap.get? b = some (seqO "tuple" [.int j u, x] l)) (h : Q (.bool (decide (i < j))) s) :
    wpAny (model prog w) A (richCompare .Lt (.ref a) (.ref b)) Q E s :=
  wpAny_richCompare_same_room ⟨_, h1, rfl⟩ ⟨_, h2, rfl⟩ F.slot_tuple_lt (call_meets F.slot_tuple_lt ⟨_, h1, rfl⟩ F.entry_tuple_lt (F.args_tuple_lt_2 _ _) (meets_tuplt a b i j t u v x k l hne) ⟨h1, h2, nofun, h⟩) hu
end
section
variable {prog : Program} {w : World} {A : Around} {I l S : Addr} {items : Array Value} {val : Nat → Int} {J : Heap → Prop}
noncomputable abbrev bst (val : Nat → Int) (k : Nat) : Nat := argBest (fun i j => decide (val i < val j)) k
theorem min_loop {R : Result → Shared → Prop} (hh : A.handled = none) (hl : l ≠ I) (hS : S ≠ I ∧ S ≠ l) (hJ : ∀ h h', J h → (∀ b o, b ∉ [S, I] → h.get? b = some o → h'.get? b = some o) → J h')
    (hc : ∀ j vi vj (s : Shared) (Q : Value → Shared → Prop) (E : Value → Shared → Prop), j + 1 < items.size → J s.heap → items[j + 1]? = some vi → items[bst val j]? = some vj → Q (.bool (decide (val (j + 1) < val (bst val j)))) s → wpAny (model prog w) A.in1 (richCompare .Lt vi vj) Q E s) :
    ∀ (k j : Nat) (s : Shared) (vb : Value) (c : Nat), items.size - (j + 1) = k → j + 1 ≤ items.size → s.heap.IsListIter I l (j + 1) → s.heap.IsList l items → J s.heap → items[bst val j]? = some vb → s.heap.get? S = some (seqO "list" [vb, vb] c) →
    (∀ v h' tk, items[bst val (items.size - 1)]? = some v → (∀ b o, b ∉ [S, I] → s.heap.get? b = some o → h'.get? b = some o) → R (.ok (.ret v)) { s with heap := h', toks := tk }) → codeAny (model prog w) A (.builtin "min.loop" ⟨[.ref I, .none, .ref S], []⟩) R s := by
  have W := Walks.list (prog := prog) (w := w) (A := A.in1) hh I l hl items
  have hname : (toString "min" ++ toString ".loop" : String) = "min.loop" := by decide
  have nS : ∀ {b : Addr}, b ∉ [S, I] → S ≠ b := fun hb q => hb (by simp [q])
  have nI : ∀ {b : Addr}, b ∉ [S, I] → b ∉ [I] := fun hb q => hb (by simp at q; simp [q])
  intro k
  induction k with
  | zero =>
    intro j s vb c hk hj h1 h2 hJs hv hs hR
    have hin : j + 1 = items.size := by omega
    refine codeAny_builtin F.entry_min_loop ?_
    rw [Around.under_plainId F.plain_min_loop _]
    show wpAny _ A.in1 (seqItems? (.ref S) >>= _) _ _ s
    refine wpAny_bind (wpAny_seqItems hs rfl ?_)
    show wpAny _ A.in1 (tryCatch (pyNext (.ref I)) _ >>= _) _ _ s
    refine wpAny_bind (wpAny_tryCatch (W.done s _ _ (hin ▸ ⟨h1, h2⟩) fun h' tk hm => ?_))
    have hs' := hm S _ (by simp [hS.1]) hs
    show wpAny _ A.in1 (updateSeq S (fun _ => #[]) >>= _) _ _ _
    refine wpAny_bind ?_
    refine wpAny_updateSeq hs' rfl (wpAny_bind (wpAny_letGo (wpAny_pure ?_)))
    exact hR vb _ _ (by rw [← hin]; exact hv) fun b o hb e => (Heap.get?_update_other _ _ (nS hb)).trans (hm b o (nI hb) e)
  | succ k ih =>
    intro j s vb c hk hj h1 h2 hJs hv hs hR
    have hlt : j + 1 < items.size := by omega
    refine codeAny_builtin F.entry_min_loop ?_
    rw [Around.under_plainId F.plain_min_loop _]
    show wpAny _ A.in1 (seqItems? (.ref S) >>= _) _ _ s
    refine wpAny_bind (wpAny_seqItems hs rfl ?_)
    show wpAny _ A.in1 (tryCatch (pyNext (.ref I)) _ >>= _) _ _ s
    refine wpAny_bind (wpAny_tryCatch (W.item (j + 1) s _ _ hlt ⟨h1, h2⟩ fun v h' tk hP hst hm => ?_))
    have hs' := hm S _ (by simp [hS.1]) hs
    have hJ' : J h' := hJ _ _ hJs fun b o hb e => hm b o (nI hb) e
    show wpAny _ A.in1 (tryCatch (holding [v, v] (richCompare .Lt v vb >>= _)) _ >>= _) _ _ _
    refine wpAny_bind (wpAny_tryCatch (wpAny_holding (wpAny_bind (hc j v vb _ _ _ hlt hJ' hP hv ?_))))
    refine wpAny_bind (wpAny_holding (wpAny_truthy_bool ?_))
    refine wpAny_bind (wpAny_letGo (wpAny_pure ?_))
    cases hb : decide (val (j + 1) < val (bst val j)) with
    | true =>
      simp only [if_true]
      refine wpAny_bind ?_
      refine wpAny_updateSeq hs' rfl (wpAny_bind (wpAny_letGo ?_))
      rw [hname]
      have kp : ∀ b o, b ∉ [S, I] → h'.get? b = some o → (h'.update S (Obj.mapSeq fun j9 => #[v, v])).get? b = some o := fun b o hb e => (Heap.get?_update_other _ _ (nS hb)).trans e
      refine wpAny_pure ⟨plainId_quiet F.plain_min_loop _, ih (j + 1) _ v _ (by omega) hlt ?_ ?_ (hJ _ _ hJ' kp) (by simp only [bst, argBest, hb, if_true]; exact hP) (Heap.get?_update_self _ hs' rfl) fun v' h'' tk' hP' hm' => ?_⟩
      · obtain ⟨o, q1, q2⟩ := hst.1
        exact ⟨o, (Heap.get?_update_other _ _ hS.1).trans q1, q2⟩
      · obtain ⟨o, q1, q2⟩ := hst.2
        exact ⟨o, (Heap.get?_update_other _ _ hS.2).trans q1, q2⟩
      · exact hR v' _ _ hP' fun b o hb e => hm' b o hb (kp b o hb (hm b o (nI hb) e))
    | false =>
      simp only [Bool.false_eq_true, if_false]
      refine wpAny_bind (wpAny_letGo ?_)
      rw [hname]
      refine wpAny_pure ⟨plainId_quiet F.plain_min_loop _, ih (j + 1) _ vb c (by omega) hlt hst.1 hst.2 hJ' (by simp only [bst, argBest, hb, Bool.false_eq_true, if_false]; exact hv) hs' fun v' h'' tk' hP' hm' => ?_⟩
      exact hR v' _ _ hP' fun b o hb e => hm' b o hb (hm b o (nI hb) e)
theorem min_list {E : Value → Shared → Prop} {s : Shared} {Q : Value → Shared → Prop} (hh : A.handled = none) (hl : s.heap.IsList l items) (hn : 0 < items.size)
    (hc : ∀ j vi vj (s' : Shared) (Q : Value → Shared → Prop) (E : Value → Shared → Prop), j + 1 < items.size → (∀ b o, s.heap.get? b = some o → s'.heap.get? b = some o) → items[j + 1]? = some vi → items[bst val j]? = some vj → Q (.bool (decide (val (j + 1) < val (bst val j)))) s' → wpAny (model prog w) A.in1 (richCompare .Lt vi vj) Q E s')
    (hQ : ∀ v h' tk, items[bst val (items.size - 1)]? = some v → (∀ b o, s.heap.get? b = some o → h'.get? b = some o) → Q v { s with heap := h', toks := tk }) :
    wpAny (model prog w) A (call (.builtin "min") [.ref l]) Q E s := by
  have hname : (toString "min" ++ toString ".loop" : String) = "min.loop" := by decide
  refine call_function_tree F.kind_min F.plain_min F.entry_min (F.args_min1 _) ?_
  show wpAny _ A.in1 (Builtin.Builtins.bindParams "min" ["key", "default"] 0 ⟨[], []⟩ >>= _) _ _ s
  refine wpAny_bind (wpAny_of_eq (show Builtin.Builtins.bindParams "min" ["key", "default"] 0 ⟨[], []⟩ = pure [none, none] from rfl) ?_)
  refine wpAny_bind (wpAny_pure ?_)
  have hlt : l < s.heap.objs.size := by obtain ⟨_, e, _⟩ := hl; exact Heap.lt_size e
  refine wpAny_bind (wpAny_pyIter_list hl ?_)
  refine wpAny_bind (wpAny_newObj_type ?_)
  rw [hname]
  have sz : (s.heap.push { cls := .type "list_iterator", data := .fields #[.ref l, .int 0 0] }).objs.size = s.heap.objs.size + 1 := Heap.size_push ..
  have hI : s.heap.objs.size ≠ l := fun q => Nat.lt_irrefl _ (q ▸ hlt)
  have hS1 : s.heap.objs.size + 1 ≠ s.heap.objs.size := Nat.succ_ne_self _
  have hS2 : s.heap.objs.size + 1 ≠ l := fun q => Nat.lt_irrefl _ (Nat.lt_of_lt_of_le (q ▸ hlt) (Nat.le_succ _))
  have kp : ∀ b o, s.heap.get? b = some o → ((s.heap.push { cls := .type "list_iterator", data := .fields #[.ref l, .int 0 0] }).push { cls := .type "list", data := .seq #[] }).get? b = some o := fun b o e => Heap.get?_push_of_some _ (Heap.get?_push_of_some _ e)
  have gI : ((s.heap.push { cls := .type "list_iterator", data := .fields #[.ref l, .int 0 0] }).push { cls := .type "list", data := .seq #[] }).IsListIter s.heap.objs.size l 0 := ⟨_, Heap.get?_push_of_some _ (Heap.get?_push_size _ rfl), rfl, rfl⟩
  have gS : ((s.heap.push { cls := .type "list_iterator", data := .fields #[.ref l, .int 0 0] }).push { cls := .type "list", data := .seq #[] }).get? (s.heap.push { cls := .type "list_iterator", data := .fields #[.ref l, .int 0 0] }).objs.size = some (seqO "list" [] 0) := Heap.get?_push_size _ rfl
  have gl : ((s.heap.push { cls := .type "list_iterator", data := .fields #[.ref l, .int 0 0] }).push { cls := .type "list", data := .seq #[] }).IsList l items := by
    obtain ⟨o, q1, q2⟩ := hl
    exact ⟨o, kp _ _ q1, q2⟩
  refine wpAny_pure ⟨plainId_quiet F.plain_min_loop _, ?_⟩
  show codeAny (model prog w) A (.builtin "min.loop" ⟨[.ref s.heap.objs.size, .none, .ref (s.heap.push { cls := .type "list_iterator", data := .fields #[.ref l, .int 0 0] }).objs.size], []⟩) _ { s with heap := (s.heap.push { cls := .type "list_iterator", data := .fields #[.ref l, .int 0 0] }).push { cls := .type "list", data := .seq #[] } }
  rw [sz] at gS ⊢
  generalize (s.heap.push { cls := .type "list_iterator", data := .fields #[.ref l, .int 0 0] }).push { cls := .type "list", data := .seq #[] } = H at *
  have W := Walks.list (prog := prog) (w := w) (A := A.in1) hh s.heap.objs.size l hI.symm items
  have nS : ∀ {b : Addr}, b ∉ [s.heap.objs.size + 1, s.heap.objs.size] → s.heap.objs.size + 1 ≠ b := fun hb q => hb (by simp [q])
  have old : ∀ {b o}, s.heap.get? b = some o → b ∉ [s.heap.objs.size + 1, s.heap.objs.size] := fun e hb => by
    have := Heap.lt_size e
    simp only [List.mem_cons, List.not_mem_nil, or_false] at hb
    rcases hb with rfl | rfl
    · exact Nat.lt_irrefl _ (Nat.lt_of_succ_lt this)
    · exact Nat.lt_irrefl _ this
  refine codeAny_builtin F.entry_min_loop ?_
  rw [Around.under_plainId F.plain_min_loop _]
  show wpAny _ A.in1 (seqItems? (.ref (s.heap.objs.size + 1)) >>= _) _ _ _
  refine wpAny_bind (wpAny_seqItems gS rfl ?_)
  show wpAny _ A.in1 (tryCatch (pyNext (.ref s.heap.objs.size)) _ >>= _) _ _ _
  refine wpAny_bind (wpAny_tryCatch (W.item 0 _ _ _ hn ⟨gI, gl⟩ fun v h' tk hP hst hm => ?_))
  have hs' := hm _ _ (by simp) gS
  show wpAny _ A.in1 (updateSeq (s.heap.objs.size + 1) (fun _ => #[v, v]) >>= _) _ _ _
  refine wpAny_bind ?_
  refine wpAny_updateSeq hs' rfl ?_
  rw [hname]
  have up : ∀ b o, b ∉ [s.heap.objs.size + 1, s.heap.objs.size] → H.get? b = some o → (h'.update (s.heap.objs.size + 1) (Obj.mapSeq fun j9 => #[v, v])).get? b = some o := fun b o hb e => (Heap.get?_update_other _ _ (nS hb)).trans (hm b o (fun q => hb (List.mem_cons_of_mem _ q)) e)
  refine wpAny_pure ⟨plainId_quiet F.plain_min_loop _, min_loop (val := val) (J := fun h => ∀ b o, s.heap.get? b = some o → h.get? b = some o) hh hI.symm ⟨hS1, hS2⟩ (fun h h' a k b o e => k b o (old e) (a b o e)) hc _ 0 _ v _ rfl hn ?_ ?_ (fun b o e => up b o (old e) (kp b o e)) hP (Heap.get?_update_self _ hs' rfl) fun v' h'' tk' hP' hm' => ?_⟩
  · obtain ⟨o, q1, q2⟩ := hst.1
    exact ⟨o, (Heap.get?_update_other _ _ hS1).trans q1, q2⟩
  · obtain ⟨o, q1, q2⟩ := hst.2
    exact ⟨o, (Heap.get?_update_other _ _ hS2).trans q1, q2⟩
  · exact hQ v' _ _ hP' fun b o e => hm' b o (old e) (up b o (old e) (kp b o e))
end
section
variable {S : Stc} {A : Around} {s : Shared} {g : Gh} {ph ph' : List PO}
theorem nodupI_ne : ∀ {ns : List Int}, nodupI ns = true → ∀ {i j : Nat}, i < ns.length → j < ns.length → i ≠ j → ns.getD i 0 ≠ ns.getD j 0
  | [], _, i, j, hi, _, _ => absurd hi (Nat.not_lt_zero _)
  | a :: r, h, i, j, hi, hj, hne => by
    obtain ⟨h1, h2⟩ := Bool.and_eq_true_iff.mp h
    have h1 : ∀ x ∈ r, x ≠ a := fun x m q => by
      have h3 : (r.any fun x => x == a) = true := List.any_eq_true.mpr ⟨x, m, beq_iff_eq.mpr q⟩
      rw [h3] at h1; exact Bool.noConfusion h1
    cases i with
    | zero =>
      cases j with
      | zero => exact absurd rfl hne
      | succ j =>
        rw [List.getD_cons_zero, List.getD_cons_succ, List.getD_eq_getElem?_getD, List.getElem?_eq_getElem (Nat.lt_of_succ_lt_succ hj), Option.getD_some]
        exact fun q => h1 _ (List.getElem_mem _) q.symm
    | succ i =>
      cases j with
      | zero =>
        rw [List.getD_cons_zero, List.getD_cons_succ, List.getD_eq_getElem?_getD, List.getElem?_eq_getElem (Nat.lt_of_succ_lt_succ hi), Option.getD_some]
        exact h1 _ (List.getElem_mem _)
      | succ j =>
        rw [List.getD_cons_succ, List.getD_cons_succ]
        exact nodupI_ne h2 (Nat.lt_of_succ_lt_succ hi) (Nat.lt_of_succ_lt_succ hj) fun q => hne (congrArg (· + 1) q)
theorem mapO_get {α β : Type} {f : α → Option β} : ∀ {xs : List α} {ys : List β}, mapO f xs = some ys → ys.length = xs.length ∧ ∀ (i : Nat) x, xs[i]? = some x → ∃ y, ys[i]? = some y ∧ f x = some y
  | [], ys, e => by rw [← Option.some.inj (show some [] = some ys from e)]; exact ⟨rfl, fun i x h => by rw [List.getElem?_nil] at h; exact nos h⟩
  | x :: xs, ys, e => by
    unfold mapO at e
    cases h1 : f x with
    | none => rw [h1] at e; exact nos e
    | some y =>
      cases h2 : mapO f xs with
      | none => rw [h1, h2] at e; exact nos e
      | some zs =>
        rw [h1, h2] at e
        obtain ⟨q1, q2⟩ := mapO_get h2
        rw [← Option.some.inj e]
        refine ⟨congrArg (· + 1) q1, fun i z h => ?_⟩
        cases i with
        | zero => rw [List.getElem?_cons_zero] at h; exact ⟨y, rfl, Option.some.inj h ▸ h1⟩
        | succ i => rw [List.getElem?_cons_succ] at h; exact q2 i z h
theorem asI_eq' {v : PV} {i : Int} (h : asI v = some i) : v = .int i := by
  cases v
  case int => exact congrArg _ (Option.some.inj h)
  all_goals exact nos h
theorem asTup_eq' {v : PV} {xs : List PV} (h : asTup v = some xs) : v = .tup xs := by
  cases v
  case tup => exact congrArg _ (Option.some.inj h)
  all_goals exact nos h
theorem pairInt_VR {h : Heap} {x : PV} {v : Value} {i : Int} (r : VR S h g x v) (e : pairInt x = some i) : ∃ a t w k, v = .ref a ∧ h.get? a = some (seqO "tuple" [.int i t, w] k) :=
  iL e fun xs hx e => by
    have q := asTup_eq' hx
    subst q
    match xs, e with
    | [p, b], e =>
      exact iS (show pairOf p b = some i from e) fun y hy e => by
        have q := asI_eq' e
        subst q
        exact r.eTup fun a vs k q h1 hf h2 => h2.eCons fun w1 us q1 r1 r2 => r2.eCons fun w2 us q2 r3 r4 => r4.eNil fun q4 => r1.eInt fun t q5 => by subst q4; subst q5; subst q2; subst q1; exact ⟨a, t, w2, k, q.symm, h1⟩
theorem minx_ok {n : Nat} {xs : List PV} {v : PV} {l : Addr} {vs : List Value} {k : Nat} (ao : AOk A n) (e : minPairs xs ph = some (v, ph')) (I : Inv S s.heap s.toks g ph) (h1 : s.heap.get? l = some (seqO "list" vs k)) (h2 : VRs S s.heap g xs vs) : wpAny (MS S) A (call (.builtin "min") [.ref l]) (Pst S s g ph v ph') NoE s := by
  unfold minPairs at e
  cases hm : mapO pairInt xs with
  | none => rw [hm] at e; exact nos e
  | some ns =>
    rw [hm] at e
    refine iT e fun hd e => iV e fun w hw e => sp2 e fun q1 q2 => ?_
    subst q1; subst q2
    obtain ⟨hl, hg⟩ := mapO_get hm
    have hvl : vs.length = ns.length := h2.length.trans hl.symm
    have hn : 0 < ns.length := by
      cases ns with
      | cons => exact Nat.succ_pos _
      | nil =>
        have : xs = [] := List.length_eq_zero_iff.mp hl.symm
        subst this; rw [List.getElem?_nil] at hw; exact nos hw
    have bl : ∀ k, bst (fun i => ns.getD i 0) k ≤ k := fun k => (argBest_lt (fun i => ns.getD i 0) k).1
    have at_ : ∀ (i : Nat) w, vs[i]? = some w → ∃ a t w' k', w = .ref a ∧ s.heap.get? a = some (seqO "tuple" [.int (ns.getD i 0) t, w'] k') := fun i w hw => by
      obtain ⟨x, q1, q2⟩ := h2.get' hw
      obtain ⟨y, q3, q4⟩ := hg i x q1
      have := pairInt_VR q2 q4
      rw [List.getD_eq_getElem?_getD, q3]; exact this
    refine wpAny_up (min_list (items := vs.toArray) (val := fun i => ns.getD i 0) ao.hand ⟨_, h1, rfl, k, rfl⟩ (by rw [List.size_toArray, hvl]; exact hn) (fun j vi vj s' Q E hj kp q1 q2 hQ => ?_) fun w' h' tk hw' kp ht => ?_)
    · rw [List.getElem?_toArray] at q1 q2
      rw [List.size_toArray, hvl] at hj
      obtain ⟨a, t, w1, k1, e1, g1⟩ := at_ _ _ q1
      obtain ⟨b, u, w2, k2, e2, g2⟩ := at_ _ _ q2
      rw [e1, e2]
      exact tup_lt (A := A.in1) (by have := ao.eq; show A.units + 1 < cLine; omega) (nodupI_ne hd hj (Nat.lt_of_le_of_lt (bl j) (Nat.lt_of_succ_lt hj)) (Nat.ne_of_gt (Nat.lt_succ_of_le (bl j)))) (kp _ _ g1) (kp _ _ g2) hQ
    · rw [List.size_toArray, hvl, List.getElem?_toArray] at hw'
      obtain ⟨w2, q1, q2⟩ := h2.get hw
      have : w2 = w' := Option.some.inj (q1.symm.trans hw')
      subst this
      exact Pst.grow I kp ht (q2.mono ((Step.grow (X := []) (ph := ph) kp (Nat.le_trans I.tk ht)).mono fun j9 q => nomatch q))
end
end Mine.Internal
end
section
open PySem PySem.W PyProof.Rows PySem.Calls
namespace Mine.Internal
section
variable {S : Stc} {h h' : Heap} {k k' : Nat} {g : Gh} {ph : List PO} {wr : List Addr}
theorem xchg_mono (hw : ∀ b ∈ wr, b ∈ g.ξ) (kp : ∀ b o, b ∉ wr → h.get? b = some o → h'.get? b = some o) : Mono S h g h' g :=
  ⟨fun b o e f => kp b o (fun q => f.2.1 (hw b q)) e, fun j9 j9 j9 f => f, fun j9 j9 e => e, Nat.le_refl _⟩
theorem Inv.xchg (I : Inv S h k g ph) (hw : ∀ b ∈ wr, b ∈ g.ξ) (al : ∀ b ∈ wr, ∃ o, h'.get? b = some o) (kp : ∀ b o, b ∉ wr → h.get? b = some o → h'.get? b = some o) (hk : k ≤ k') : Inv S h' k' g ph := by
  have M := xchg_mono (S := S) hw kp
  refine ⟨I.tk0, Nat.le_trans I.tk hk, I.keepTop fun b o e j9 n2 j9 => kp b o (fun q => n2 (hw b q)) e, I.keepOld fun b o e j9 n2 => kp b o (fun q => n2 (hw b q)) e, I.len, I.nd, I.lo, fun n po a e1 e2 => ?_, fun a m => ?_⟩
  · exact (I.obj n po a e1 e2).mono M fun o ho => kp a o (fun q => (I.xi a (hw a q)).2.1 (List.mem_of_getElem? e2)) ho
  · obtain ⟨⟨o, ho⟩, r⟩ := I.xi a m
    by_cases q : a ∈ wr
    · exact ⟨al a q, r⟩
    · exact ⟨⟨o, kp a o q ho⟩, r⟩
theorem Step.xchg (I : Inv S h k g ph) (hw : ∀ b ∈ wr, b ∈ g.ξ) (al : ∀ b ∈ wr, ∃ o, h'.get? b = some o) (kp : ∀ b o, b ∉ wr → h.get? b = some o → h'.get? b = some o) {X : List Addr} (hX : ∀ b ∈ wr, b ∈ X) :
    Step S X h g ph h' g ph :=
  ⟨fun b o e j9 j9 n => kp b o (fun q => n (hX b q)) e, ⟨[], by simp⟩, rfl, fun a m n => absurd m n, fun j9 j9 => Iff.rfl, fun b hb ⟨o, ho⟩ => by
    by_cases q : b ∈ wr
    · exact al b q
    · exact ⟨o, kp b o q ho⟩, Nat.le_refl _⟩
end
section
variable {S : Stc} {T : Top} {P : PrimT} {A : Around} {s s₁ : Shared} {g g₁ : Gh} {ph ph' ph₁ ph₂ : List PO} {env : Env} {sc : Scope} {loc loc' : Loc} {X : List Addr} {n : Nat} {r : Ev} {x y : Str} {v u : PV} {val : Value} {vs : List PV} {es : List Expr} {e : Expr} {p : Pos} {c : Addr} {h' : Heap}
theorem Step.up (T : Step S [] s.heap g ph s₁.heap g₁ ph₁) (F : Frm S s.heap g env sc loc X) (I : Inv S s.heap s.toks g ph) (I₁ : Inv S s₁.heap s₁.toks g₁ ph₁) : Step S X s.heap g ph s₁.heap g₁ ph₁ :=
  T.sub (fun j9 q => nomatch q) F.sub I I₁
theorem PstS.after {s'} (T : Step S X s.heap g ph s₁.heap g₁ ph₁) (I₁ : Inv S s₁.heap s₁.toks g₁ ph₁) (m : Same s s₁) (p : PstS S s₁ g₁ ph₁ env sc X loc' ph₂ s') : PstS S s g ph env sc X loc' ph₂ s' :=
  let ⟨g', a, b, c, d⟩ := p; ⟨g', a, T.trans b I₁, m.trans c, d⟩
theorem store_end {tk : Nat} (I : Inv S s.heap s.toks g ph) (F : Frm S s.heap g env sc loc X) (hc : c ∈ X) (kp : ∀ b o, b ≠ c → s.heap.get? b = some o → h'.get? b = some o) (al : ∃ o, h'.get? c = some o) (ht : s.toks ≤ tk) (hF : Mono S s.heap g h' g → Frm S h' g env sc loc' X) :
    PstS S s g ph env sc X loc' ph { s with heap := h', toks := tk } :=
  have hw : ∀ b ∈ [c], b ∈ g.ξ := fun b hb => List.mem_singleton.mp hb ▸ F.sub _ hc
  have kp' : ∀ b o, b ∉ [c] → s.heap.get? b = some o → h'.get? b = some o := fun b o hb => kp b o fun q => hb (q ▸ List.mem_singleton_self _)
  have al' : ∀ b ∈ [c], ∃ o, h'.get? b = some o := fun b hb => List.mem_singleton.mp hb ▸ al
  ⟨g, I.xchg hw al' kp' ht, .xchg I hw al' kp' fun b hb => List.mem_singleton.mp hb ▸ hc, ⟨rfl, id⟩, hF (xchg_mono hw kp')⟩
theorem store_loc (F : Frm S s.heap g env sc loc X) (hx : sc.names.lookup x = some .local) (rv : VR S s.heap g v val) {m : Str → Option Value} (h2 : ∀ y u, look y loc = some u → sc.names.lookup y = some .local → ∃ val, m y = some val ∧ VR S s.heap g u val)
    (hn' : h'.Ns env.locals (fun z => if z = x then some val else m z)) (kp : ∀ b o, b ≠ env.locals → s.heap.get? b = some o → h'.get? b = some o) (M : Mono S s.heap g h' g) : Frm S h' g env sc (setL x v loc) X := by
  refine ⟨F.kind, F.glob, F.blt, F.kd, ⟨_, hn', fun y u e1 e2 => ?_⟩, fun y u k e1 e2 e3 => ?_, fun y e => ?_, F.inj, F.L, F.sub, F.cxi, F.nl, F.dbg⟩
  · rw [look_setL] at e1
    by_cases q : y = x
    · rw [if_pos q] at e1 ⊢; exact ⟨val, rfl, Option.some.inj e1 ▸ rv.mono M⟩
    · rw [if_neg q] at e1 ⊢
      exact let ⟨w, q1, q2⟩ := h2 y u e1 e2; ⟨w, q1, q2.mono M⟩
  · have hyx : y ≠ x := fun q => by
      rw [q, hx] at e2
      rw [← Option.some.inj e2] at e3
      exact e3.elim nofun nofun
    rw [look_setL, if_neg hyx] at e1
    exact let ⟨c, w, q1, ⟨o, ho, hd⟩, q3⟩ := F.cell y u k e1 e2 e3; ⟨c, w, q1, ⟨o, kp c o (F.nl _ _ q1) ho, hd⟩, q3.mono M⟩
  · exact let ⟨c, o, q1, ⟨oc, ho, hd⟩, q3⟩ := F.own y e; ⟨c, o, q1, ⟨oc, kp c oc (F.nl _ _ q1) ho, hd⟩, q3⟩
theorem store_cell (F : Frm S s.heap g env sc loc X) (hx : sc.names.lookup x = some .cell) (rv : VR S s.heap g v val) (q1 : env.cells.lookup x = some c) (q3 : c ∈ X)
    (hc' : h'.IsCell c (some val)) (kp : ∀ b o, b ≠ c → s.heap.get? b = some o → h'.get? b = some o) (M : Mono S s.heap g h' g) : Frm S h' g env sc (setL x v loc) X := by
  obtain ⟨m, h1, h2⟩ := F.ns
  have ne : ∀ {y c'}, y ≠ x → env.cells.lookup y = some c' → c' ≠ c := fun q z w => q (F.inj _ _ _ z (w ▸ q1))
  refine ⟨F.kind, F.glob, F.blt, F.kd, ⟨m, Ns.of_keep h1 fun o ho => kp _ o (Ne.symm (F.nl _ _ q1)) ho, fun y u e1 e2 => ?_⟩, fun y u k e1 e2 e3 => ?_, fun y e => ?_, F.inj, F.L, F.sub, F.cxi, F.nl, F.dbg⟩
  · have hyx : y ≠ x := fun q => by rw [q, hx] at e2; exact nomatch Option.some.inj e2
    rw [look_setL, if_neg hyx] at e1
    exact let ⟨w, q1, q2⟩ := h2 y u e1 e2; ⟨w, q1, q2.mono M⟩
  · rw [look_setL] at e1
    by_cases q : y = x
    · rw [if_pos q] at e1
      exact ⟨c, val, q ▸ q1, hc', Option.some.inj e1 ▸ rv.mono M⟩
    · rw [if_neg q] at e1
      exact let ⟨c', w, z1, ⟨o, ho, hd⟩, z3⟩ := F.cell y u k e1 e2 e3; ⟨c', w, z1, ⟨o, kp c' o (ne q z1) ho, hd⟩, z3.mono M⟩
  · by_cases q : y = x
    · exact ⟨c, _, q ▸ q1, hc', q3⟩
    · exact let ⟨c', o, z1, ⟨oc, ho, hd⟩, z3⟩ := F.own y e; ⟨c', o, z1, ⟨oc, kp c' oc (ne q z1) ho, hd⟩, z3⟩
theorem storable_some (hs : storable sc x = true) : sc.names.lookup x = some .local ∨ sc.names.lookup x = some .cell := by
  unfold storable at hs
  rw [look_eq] at hs
  cases h : sc.names.lookup x with
  | none => rw [h] at hs; exact nomatch hs
  | some k =>
    rw [h] at hs
    cases k
    case «local» => exact .inl rfl
    case cell => exact .inr rfl
    all_goals exact nomatch hs
theorem store_ok (I : Inv S s.heap s.toks g ph) (F : Frm S s.heap g env sc loc X) (hs : storable sc x = true) (rv : VR S s.heap g v val) : wpAny (MS S) A (storeName env x val) (fun j9 s' => PstS S s g ph env sc X (setL x v loc) ph s') NoE s := by
  rcases storable_some hs with hx | hx
  · obtain ⟨m, h1, h2⟩ := F.ns
    have hp : (env.scope.kind == .class || (env.scope.kind == .module && env.locals != env.globals)) = false := by rw [F.kind]; rfl
    exact wpAny_storeName_local (F.kd _ _ hx) h1 (fun h' hn' hs' => store_end I F F.L (fun b o hb e => hs'.extBut b o hb e) (let ⟨o, _, _, ho, _⟩ := hn'; ⟨o, ho⟩) (Nat.le_succ _) (store_loc F hx rv h2 hn' fun b o hb e => hs'.extBut b o hb e)) hp
  · obtain ⟨c, o, q1, q2, q3⟩ := F.own _ hx
    exact wpAny_storeName_cell F.kind (F.kd _ _ hx) q1 q2 fun h' hc' hs' => store_end I F q3 (fun b o hb e => hs'.extBut b o hb e) (let ⟨o, ho, _⟩ := hc'; ⟨o, ho⟩) (Nat.le_refl _) (store_cell F hx rv q1 q3 hc' fun b o hb e => hs'.extBut b o hb e)
structure TN (S : Stc) (sc : Scope) (es : List Expr) (vs : List PV) (loc loc' : Loc) : Prop where
  len : ∀ env, (assignEach es env).length = vs.length
  no : ∀ env, (assignEach es env).findIdx? (·.1) = none
  ok : ∀ {A : Around} {s : Shared} {g : Gh} {env : Env} {X : List Addr} {ph : List PO} {xs : List Value}, Inv S s.heap s.toks g ph → Frm S s.heap g env sc loc X → VRs S s.heap g vs xs → wpAny (MS S) A (assignInOrder ((assignEach es env).map (·.2)) xs) (fun j9 s' => PstS S s g ph env sc X loc' ph s') NoE s
theorem tn_nil : TN S sc [] [] loc loc := ⟨fun j9 => rfl, fun j9 => rfl, fun {A s g env X ph xs} I F r => r.eNil fun q => q ▸ wpAny_assignInOrder_none ⟨g, I, .refl, .refl, F⟩⟩
theorem tn_cons (hs : storable sc x = true) (h : TN S sc es vs (setL x v loc) loc') : TN S sc (.Name x p :: es) (v :: vs) loc loc' :=
  ⟨fun env => congrArg (· + 1) (h.len env), fun env => by
    show ((false, _) :: assignEach es env : List (Bool × (Value → Sem Unit))).findIdx? (·.1) = none
    rw [List.findIdx?_cons, h.no]; rfl,
   fun {A s g env X ph xs} I F r => r.eCons fun a as q ra rs => q ▸ wpAny_assignInOrder_more (wpAny_assign_Name (wpAny_mono (store_ok I F hs ra) (fun j9 s1 q => PstS.casesOn q fun g1 I1 T1 m1 F1 => wpAny_mono (h.ok I1 F1 (rs.mono (T1.mono F.sub))) (fun j9 j9 q => q.after T1 I1 m1) fun j9 j9 h => h) fun j9 j9 h => h))⟩
theorem nameOf_eq (h : nameOf e = some x) : ∃ p, e = .Name x p :=
  pick_inv h (fun j9 j9 j9 j9 h => nos h) (fun a p q h => ⟨p, Option.some.inj h ▸ q⟩) (fun j9 j9 j9 j9 h => nos h) (fun j9 j9 j9 j9 j9 h => nos h) (fun j9 j9 j9 j9 j9 h => nos h) (fun j9 j9 j9 j9 h => nos h)
theorem tupOf_eq (h : tupOf e = some es) : ∃ k p, e = .Tuple es k p :=
  pick_inv h (fun j9 j9 j9 j9 h => nos h) (fun j9 j9 j9 h => nos h) (fun a k p q h => ⟨k, p, Option.some.inj h ▸ q⟩) (fun j9 j9 j9 j9 j9 h => nos h) (fun j9 j9 j9 j9 j9 h => nos h) (fun j9 j9 j9 j9 h => nos h)
theorem asTup_eq (h : asTup v = some vs) : v = .tup vs := by
  cases v
  case tup => exact congrArg _ (Option.some.inj h)
  all_goals exact nos h
theorem bindNames_ok : ∀ {es : List Expr} {vs loc loc'}, bindNames sc es vs loc = some loc' → TN S sc es vs loc loc'
  | [], vs, loc, loc', e => l0 e fun q e => Option.some.inj e ▸ q ▸ tn_nil
  | x :: es, vs, loc, loc', e => iS e fun y hy e => c1 e fun v us q e => iT e fun h e => (nameOf_eq hy).elim fun p z => q ▸ z ▸ tn_cons h (bindNames_ok e)
noncomputable def TB (S : Stc) (sc : Scope) (t : Expr) (v : PV) (loc loc' : Loc) : Prop := ∀ ⦃A : Around⦄ ⦃s : Shared⦄ ⦃g : Gh⦄ ⦃env : Env⦄ ⦃X : List Addr⦄ ⦃ph : List PO⦄ ⦃val : Value⦄, A.handled = none → Inv S s.heap s.toks g ph → Frm S s.heap g env sc loc X → VR S s.heap g v val → wpAny (MS S) A (assign t env val) (fun j9 s' => PstS S s g ph env sc X loc' ph s') NoE s
theorem tb_tup {k} (h : TN S sc es vs loc loc') : TB S sc (.Tuple es k p) (.tup vs) loc loc' := fun A s g env X ph val hA I F rv => rv.eTup fun a us n q h1 j9 h3 => by
  subst q
  refine wpAny_up (wpAny_assign_Tuple (items := us.toArray) hA ⟨_, h1, rfl, n, rfl⟩ (by rw [h.len, List.size_toArray, h3.length]) (h.no _) fun h' hx => ?_)
  have kp : ∀ b o, s.heap.get? b = some o → h'.get? b = some o := fun b o e => hx b o (fun q => nos ((none_size s.heap).symm.trans (q ▸ e))) e
  obtain ⟨g1, I1, T1, _, m1⟩ := Pst.grow (s := s) (t := s.toks) (v := .none) (x := .none) I kp (Nat.le_refl _) .none
  exact wpAny_mono (h.ok (s := { s with heap := h' }) I1 (F.step I T1) (h3.mono (T1.mono fun j9 q => nomatch q))) (fun j9 s' q j9 => q.after (T1.up F I I1) I1 m1) fun j9 j9 h => h
theorem bind_ok (h : bindT sc e v loc = some loc') : TB S sc e v loc loc' :=
  oS h (fun x hx h => iT h fun hs h => (nameOf_eq hx).elim fun p z => sp1 h fun q => q ▸ z ▸ fun A s g env X ph val hA I F rv => wpAny_assign_Name (store_ok I F hs rv)) fun j9 h => iEs h fun es he h => iL h fun vs hv hh => by
    obtain ⟨k, p, rfl⟩ := tupOf_eq he
    rw [asTup_eq hv]
    exact tb_tup (bindNames_ok hh)
end
end Mine.Internal
end
section
open PySem PySem.W PyProof.Rows PySem.Calls
namespace Mine.Internal
structure Turns (S : Stc) (h0 : Heap) (g0 : Gh) (target : Expr) (I : Addr) (fp wr : List Addr) (xs : List PV) (St : Nat → Heap → Prop) : Prop where
  frame : ∀ i h h', St i h → (∀ b ∈ fp, ∀ o, h.get? b = some o → h'.get? b = some o) → St i h'
  live : ∀ i h, St i h → ∀ b ∈ wr, ∃ o, h.get? b = some o
  step : ∀ {A : Around} {i : Nat} {s : Shared} {x : PV} {Q : Value → Shared → Prop}, A.handled = none → xs[i]? = some x → St i s.heap →
    (∀ v h' tk, (∀ k g' ph', Inv S s.heap k g' ph' → (∀ b ∈ wr, b ∈ g'.ξ) → Mono S h0 g0 s.heap g' → VR S h' g' x v) → St (i + 1) h' → (∀ b o, b ∉ wr → s.heap.get? b = some o → h'.get? b = some o) → s.toks ≤ tk → Q v { s with heap := h', toks := tk }) →
    wpAny (MS S) A (pyNext (.ref I)) (fun r s1 => ∃ v, r = some v ∧ wpAny (MS S) A (letOwnedTupleGo target (.ref I) v) (fun j9 s2 => Q v s2) NoE s1) NoE s
  done : ∀ {A : Around} {s : Shared} {Q : Shared → Prop}, A.handled = none → St xs.length s.heap → (∀ h' tk, (∀ b o, b ∉ wr → s.heap.get? b = some o → h'.get? b = some o) → s.toks ≤ tk → Q { s with heap := h', toks := tk }) →
    wpAny (MS S) A (pyNext (.ref I)) (fun r s1 => r = none ∧ Q s1) NoE s
  self : ∀ {A : Around} {i : Nat} {s : Shared} {Q : Value → Shared → Prop}, A.handled = none → St i s.heap → Q (.ref I) s → wpAny (MS S) A (pyIter (.ref I)) Q NoE s
noncomputable def ownNot (c : String) : Prop := ["enumerate", "zip", "dict_itemiterator", "dict_reverseitemiterator", "odict_iterator", "itertools.zip_longest", "itertools.pairwise"].contains c = false
theorem letGo_pure {S : Stc} {A : Around} {target : Expr} {I : Addr} {v : Value} {Q : Unit → Shared → Prop} {s : Shared} {o : Obj} {c : String} (ho : s.heap.get? I = some o) (hc : o.cls = .type c) (hn : ownNot c) (h : Q () s) :
    wpAny (MS S) A (letOwnedTupleGo target (.ref I) v) Q NoE s := by
  unfold ownNot at hn
  unfold letOwnedTupleGo
  cases target <;> first
    | exact wpAny_pure h
    | (cases v <;> first
        | exact wpAny_pure h
        | (refine wpAny_bind (wpAny_load ho ?_)
           rw [hc]
           cases o.data <;> first
             | exact wpAny_pure h
             | (simp only [hn, Bool.false_and, Bool.false_eq_true, if_false]
                exact wpAny_pure h)))
theorem Turns.ofWalks {S : Stc} {h0 : Heap} {g0 : Gh} {target : Expr} {I : Addr} {fp : List Addr} {xs : List PV} {P : Nat → Value → Prop} {St : Nat → Heap → Prop}
    (W : ∀ A : Around, A.handled = none → Walks S.prog S.w A I fp [I] xs.length P St)
    (hv : ∀ i v x, P i v → xs[i]? = some x → ∀ h g, Mono S h0 g0 h g → VR S h g x v)
    (cls : ∀ i h, St i h → ∃ o c, h.get? I = some o ∧ o.cls = .type c ∧ ownNot c) : Turns S h0 g0 target I fp [I] xs St where
  frame := (W { depth := 0, units := 0, handled := none } rfl).frame
  live := fun i h st b hb => by
    rw [List.mem_singleton.mp hb]
    obtain ⟨o, c, q, _⟩ := cls i h st; exact ⟨o, q⟩
  step := fun {A i s x Q} hA hx st hQ => by
    refine wpAny_up ((W A hA).item i s _ _ (List.getElem?_eq_some_iff.mp hx).1 st fun v h' tk hP st' hk ht => ⟨v, rfl, ?_⟩)
    obtain ⟨o, c, q1, q2, q3⟩ := cls _ _ st'
    refine letGo_pure (s := { s with heap := h', toks := tk }) q1 q2 q3 (hQ v h' tk (fun k g' ph' I' hw M => ?_) st' hk ht)
    have M' := xchg_mono (S := S) (g := g') hw hk
    exact (hv i v x hP hx _ _ M).mono M'
  done := fun {A s Q} hA st hQ => wpAny_up ((W A hA).done s _ _ st fun h' tk hk ht => ⟨rfl, hQ h' tk hk ht⟩)
  self := fun {A i s Q} hA st hQ => (W A hA).self i s _ _ st hQ
section
variable {S : Stc} {T : Top} {P : PrimT} {A : Around} {s s₁ : Shared} {g g₁ : Gh} {ph ph' ph₁ ph₂ : List PO} {env : Env} {sc : Scope} {loc loc' : Loc} {X : List Addr} {n : Nat} {r : Ev}
noncomputable def enter (wr : List Addr) (g : Gh) : Gh := ⟨g.ρ, wr ++ g.ξ, g.tk⟩
theorem enter_mono {h h' : Heap} {wr : List Addr} {g : Gh} (kp : ∀ b o, h.get? b = some o → h'.get? b = some o) (fr : ∀ b ∈ wr, h.get? b = none) : Mono S h g h' (enter wr g) :=
  ⟨fun b o e j9 => kp b o e, fun b o e f => ⟨f.1, fun q => (by
    rcases List.mem_append.mp q with q | q
    · rw [fr b q] at e; cases e
    · exact f.2.1 q), f.2.2⟩, fun j9 j9 e => e, Nat.le_refl _⟩
theorem Inv.enter {h h' : Heap} {k k' : Nat} {wr : List Addr} (I : Inv S h k g ph) (kp : ∀ b o, h.get? b = some o → h'.get? b = some o) (fr : ∀ b ∈ wr, h.get? b = none) (al : ∀ b ∈ wr, ∃ o, h'.get? b = some o) (hk : k ≤ k') : Inv S h' k' (enter wr g) ph := by
  have M := enter_mono (S := S) (g := g) kp fr
  refine ⟨I.tk0, Nat.le_trans I.tk hk, I.keepTop fun b o e j9 j9 j9 => kp b o e, I.keepOld fun b o e j9 j9 => kp b o e, I.len, I.nd, I.lo, fun n po a e1 e2 => (I.obj n po a e1 e2).mono M fun o ho => kp a o ho, fun a m => ?_⟩
  rcases List.mem_append.mp m with q | q
  · have f := I.fresh (fr a q)
    exact ⟨al a q, f.1, f.2.2.2⟩
  · obtain ⟨⟨o, ho⟩, r⟩ := I.xi a q
    exact ⟨⟨o, kp a o ho⟩, r⟩
inductive Iter (S : Stc) (s : Shared) (g : Gh) (ph : List PO) (target : Expr) (xs : List PV) (nl : Option Nat) (it : Value) (s' : Shared) : Prop
  | mk (I : Addr) (fp wr : List Addr) (St : Nat → Heap → Prop) (e : it = .ref I) (k : ∀ b o, s.heap.get? b = some o → s'.heap.get? b = some o) (t : s.toks ≤ s'.toks) (m : Same s s') (fr : ∀ b ∈ wr, s.heap.get? b = none) (al : ∀ b ∈ wr, ∃ o, s'.heap.get? b = some o)
    (W : Turns S s'.heap (enter wr g) target I fp wr xs St) (st : St 0 s'.heap) (hf : ∀ b ∈ fp, b ∈ wr ∨ Fz S g b ∧ (∃ o, s.heap.get? b = some o) ∨ ∃ n, nl = some n ∧ g.ρ[n]? = some b)
    (hl : ∀ n, nl = some n → ∃ a vs k, g.ρ[n]? = some a ∧ s.heap.get? a = some (seqO "list" vs k) ∧ VRs S s.heap g xs vs ∧ ∃ ys, ph[n]? = some (.list ys))
theorem iter_push (I : Inv S s.heap s.toks g ph) {o : Obj} {target xs nl} (fr : o.isFreed = false)
    (h : Mono S s.heap g (s.heap.push o) (enter [s.heap.objs.size] g) → (∀ b ob, s.heap.get? b = some ob → (s.heap.push o).get? b = some ob) → (s.heap.push o).get? s.heap.objs.size = some o →
      ∃ fp St, Turns S (s.heap.push o) (enter [s.heap.objs.size] g) target s.heap.objs.size fp [s.heap.objs.size] xs St ∧ St 0 (s.heap.push o) ∧ (∀ b ∈ fp, b = s.heap.objs.size ∨ Fz S g b ∧ (∃ o, s.heap.get? b = some o) ∨ ∃ n, nl = some n ∧ g.ρ[n]? = some b) ∧
        (∀ n, nl = some n → ∃ a vs k, g.ρ[n]? = some a ∧ s.heap.get? a = some (seqO "list" vs k) ∧ VRs S s.heap g xs vs ∧ ∃ ys, ph[n]? = some (.list ys))) :
    Iter S s g ph target xs nl (.ref s.heap.objs.size) { s with heap := s.heap.push o } := by
  have kp : ∀ b ob, s.heap.get? b = some ob → (s.heap.push o).get? b = some ob := fun b ob e => Heap.get?_push_of_some _ e
  have hf : ∀ b ∈ [s.heap.objs.size], s.heap.get? b = none := fun b hb => by rw [List.mem_singleton.mp hb]; exact none_size _
  have hh := Heap.get?_push_size s.heap fr
  obtain ⟨fp, St, q1, q2, q3, q4⟩ := h (enter_mono kp hf) kp hh
  refine ⟨_, fp, _, St, rfl, kp, Nat.le_refl _, ⟨rfl, id⟩, hf, fun b hb => ?_, q1, q2, fun b hb => ?_, q4⟩
  · rw [List.mem_singleton.mp hb]; exact ⟨o, hh⟩
  · rcases q3 b hb with q | q | q
    · exact .inl (by rw [q]; exact List.mem_singleton_self _)
    · exact .inr (.inl q)
    · exact .inr (.inr q)
theorem idx_val {h : Heap} {g : Gh} {xs : List PV} {vs : List Value} (r : VRs S h g xs vs) {i : Nat} {v : Value} {x : PV} (hv : vs[i]? = some v) (hx : xs[i]? = some x) : VR S h g x v := by
  obtain ⟨y, q1, q2⟩ := r.get' hv
  exact Option.some.inj (q1.symm.trans hx) ▸ q2
theorem iter_list (I : Inv S s.heap s.toks g ph) {target xs l vs k nl} (h1 : s.heap.get? l = some (seqO "list" vs k)) (h2 : VRs S s.heap g xs vs) (hf : (nl = none ∧ Fz S g l) ∨ ∃ n, nl = some n ∧ g.ρ[n]? = some l ∧ ph[n]? = some (.list xs)) :
    wpAny (MS S) A (pyIter (.ref l)) (Iter S s g ph target xs nl) NoE s := by
  have hi : s.heap.IsList l vs.toArray := ⟨_, h1, rfl, k, rfl⟩
  refine wpAny_pyIter_list hi (iter_push I rfl fun M kp hh => ?_)
  have hne : l ≠ s.heap.objs.size := fun q => by rw [q, none_size] at h1; cases h1
  have hlen : xs.length = vs.toArray.size := by simp [h2.length]
  refine ⟨[s.heap.objs.size, l], _, .ofWalks (P := fun i v => vs.toArray[i]? = some v) (St := fun i h => h.IsListIter s.heap.objs.size l i ∧ h.IsList l vs.toArray) (fun A hA => hlen ▸ Walks.list hA _ l hne vs.toArray) (fun i v x hP hx h' g' M' => ?_) (fun i h st => ?_), ⟨⟨_, hh, rfl, rfl⟩, hi.at fun o e => kp _ o e⟩, fun b hb => ?_, fun n hn => ?_⟩
  · exact ((idx_val h2 (by simpa using hP) hx).mono M).mono M'
  · obtain ⟨o, q1, q2, _⟩ := st.1
    exact ⟨o, _, q1, q2, rfl⟩
  · rcases List.mem_cons.mp hb with q | q
    · exact .inl q
    · rw [List.mem_singleton.mp q]
      rcases hf with ⟨_, q⟩ | ⟨n, q, q', _⟩
      · exact .inr (.inl ⟨q, _, h1⟩)
      · exact .inr (.inr ⟨n, q, q'⟩)
  · rcases hf with ⟨q, _⟩ | ⟨n', q, q', q2⟩
    · rw [q] at hn; cases hn
    · rw [q] at hn; cases hn; exact ⟨l, vs, k, q', h1, h2, xs, q2⟩
theorem iter_tuple (I : Inv S s.heap s.toks g ph) {target xs l vs k} (h1 : s.heap.get? l = some (seqO "tuple" vs k)) (h2 : VRs S s.heap g xs vs) (hf : Fz S g l) :
    wpAny (MS S) A (pyIter (.ref l)) (Iter S s g ph target xs none) NoE s := by
  have hi : s.heap.IsTuple l vs.toArray := ⟨_, h1, rfl, k, rfl⟩
  refine wpAny_pyIter_tuple hi (iter_push I rfl fun M kp hh => ?_)
  have hne : l ≠ s.heap.objs.size := fun q => by rw [q, none_size] at h1; cases h1
  have hlen : xs.length = vs.toArray.size := by simp [h2.length]
  refine ⟨[s.heap.objs.size, l], _, .ofWalks (P := fun i v => vs.toArray[i]? = some v) (St := fun i h => h.IsTupleIter s.heap.objs.size l i ∧ h.IsTuple l vs.toArray) (fun A hA => hlen ▸ Walks.tuple hA _ l hne vs.toArray) (fun i v x hP hx h' g' M' => ?_) (fun i h st => ?_), ⟨⟨_, hh, rfl, rfl⟩, hi.at fun o e => kp _ o e⟩, fun b hb => ?_, fun n hn => nomatch hn⟩
  · exact ((idx_val h2 (by simpa using hP) hx).mono M).mono M'
  · obtain ⟨o, q1, q2, _⟩ := st.1
    exact ⟨o, _, q1, q2, rfl⟩
  · rcases List.mem_cons.mp hb with q | q
    · exact .inl q
    · rw [List.mem_singleton.mp q]; exact .inr (.inl ⟨hf, _, h1⟩)
theorem iter_str (I : Inv S s.heap s.toks g ph) {target} {x : Str} {t : Tok} :
    wpAny (MS S) A (pyIter (.str x t)) (Iter S s g ph target (x.cps.toList.map fun c => .str ⟨#[c]⟩) none) NoE s := by
  have hlen : (x.cps.toList.map fun c => PV.str ⟨#[c]⟩).length = x.cps.size := by simp
  have val : ∀ i v y, SignAt x i v → (x.cps.toList.map fun c => PV.str ⟨#[c]⟩)[i]? = some y → ∀ h g, VR S h g y v := by
    intro i v y ⟨c, u, e1, e2⟩ e3 h g
    rw [List.getElem?_map, Array.getElem?_toList, e1] at e3
    cases e3; rw [e2]; exact .str _ _
  cases ha : x.cps.all (· < 128)
  · refine wpAny_pyIter_wide ha (iter_push I rfl fun M kp hh => ?_)
    refine ⟨[s.heap.objs.size], _, .ofWalks (P := SignAt x) (St := fun i h => h.IsStrIter s.heap.objs.size "str_iterator" x t i) (fun A hA => hlen ▸ Walks.strWide hA _ x t) (fun i v y hP hx h' g' M' => val i v y hP hx _ _) (fun i h st => ?_), ⟨_, hh, rfl, rfl⟩, fun b hb => .inl (List.mem_singleton.mp hb), fun n hn => nomatch hn⟩
    obtain ⟨o, q1, q2, _⟩ := st
    exact ⟨o, _, q1, q2, rfl⟩
  · refine wpAny_pyIter_ascii ha (iter_push I rfl fun M kp hh => ?_)
    refine ⟨[s.heap.objs.size], _, .ofWalks (P := SignAt x) (St := fun i h => h.IsStrIter s.heap.objs.size "str_ascii_iterator" x t i) (fun A hA => hlen ▸ Walks.strAscii hA _ x t) (fun i v y hP hx h' g' M' => val i v y hP hx _ _) (fun i h st => ?_), ⟨_, hh, rfl, rfl⟩, fun b hb => .inl (List.mem_singleton.mp hb), fun n hn => nomatch hn⟩
    obtain ⟨o, q1, q2, _⟩ := st
    exact ⟨o, _, q1, q2, rfl⟩
theorem iter_rng (I : Inv S s.heap s.toks g ph) {target} {a b : Int} {r : Addr} {t u v} (h1 : IsRange s.heap r a b 1 t u v) (hz : Builtin.Range.small a b 1 = true) {m : Nat} (hm : Builtin.Range.rangeSize a b 1 = m) :
    wpAny (MS S) A (pyIter (.ref r)) (Iter S s g ph target (rngItems a b 1) none) NoE s := by
  refine wpAny_pyIter_range h1 hz (iter_push I rfl fun M kp hh => ?_)
  have hlen : (rngItems a b 1).length = m := by unfold rngItems; rw [List.length_map, List.length_range, hm]; rfl
  refine ⟨[s.heap.objs.size], _, .ofWalks (P := fun i v => ∃ t, v = .int (a + i * 1) t) (St := fun i h => IsRangeIter h s.heap.objs.size (a + (i : Nat) * 1) ((m : Int) - (i : Nat)) 1) (fun A hA => by rw [hlen]; exact Walks.range hA _ a 1 m) (fun i w y hP hx h' g' M' => ?_) (fun i h st => ?_), ?_, fun b hb => .inl (List.mem_singleton.mp hb), fun n hn => nomatch hn⟩
  · obtain ⟨t', rfl⟩ := hP
    have hi : i < m := hlen ▸ (List.getElem?_eq_some_iff.mp hx).1
    unfold rngItems at hx
    rw [List.getElem?_map, hm, Int.toNat_natCast, List.getElem?_range hi] at hx
    exact Option.some.inj hx ▸ .int _ _
  · exact ⟨_, _, st, rfl, rfl⟩
  · show (s.heap.push _).get? _ = _
    rw [hh, hm]; simp
theorem iter_dct (TO : TopOk S T) (I : Inv S s.heap s.toks g ph) {target} {es : List (Str × PV)} {kvs ep} {d : Addr} (h1 : s.heap.DictAt (strKind S.prog S.w) d kvs ep) (hf : Fz S g d) (h0 : S.h₀.get? d = none) (hk : kvs.map (·.1) = es.map (·.1)) :
    wpAny (MS S) A (pyIter (.ref d)) (Iter S s g ph target (es.map fun p => .str p.1) none) NoE s := by
  have hne : (d == sysModules) = false := beq_eq_false_iff_ne.mpr fun q => let ⟨o, ho⟩ := TO.sys; nos (h0.symm.trans (q ▸ ho))
  refine wpAny_pyIter_dict hne h1 (iter_push I rfl fun M kp hh => ?_)
  have hd : d ≠ s.heap.objs.size := fun q => by
    obtain ⟨o, _, ho, _⟩ := h1
    rw [q, none_size] at ho; cases ho
  have hlen : (es.map fun p => PV.str p.1).length = kvs.length := by rw [List.length_map]; exact (by simpa using (congrArg List.length hk).symm)
  refine ⟨[s.heap.objs.size, d], _, .ofWalks (P := fun i v => ∃ k x, kvs[i]? = some (k, x) ∧ (strKind S.prog S.w).is k v = true) (St := fun i h => h.IsKeyIter s.heap.objs.size d i kvs.length ep ∧ h.DictAt (strKind S.prog S.w) d kvs ep) (fun A hA => by rw [hlen]; exact Walks.dictKeys hA _ d hd kvs ep) (fun i v x hP hx h' g' M' => ?_) (fun i h st => ?_), ⟨⟨_, hh, rfl, rfl⟩, DictAt.of_keep h1 fun o e => kp _ o e⟩, fun b hb => ?_, fun n hn => nomatch hn⟩
  · obtain ⟨k, y, q1, q2⟩ := hP
    rw [List.getElem?_map] at hx
    have : (kvs.map (·.1))[i]? = some k := by rw [List.getElem?_map, q1]; rfl
    rw [hk, List.getElem?_map] at this
    cases z : es[i]? with
    | none => rw [z] at this; cases this
    | some p =>
      rw [z] at this hx
      cases hx
      have hp : p.1 = k := by simpa using this
      obtain ⟨t, rfl⟩ := Value.isStrOf_shape q2
      show VR S h' g' (.str p.1) _
      rw [hp]; exact .str _ _
  · obtain ⟨o, q1, q2, _⟩ := st.1
    exact ⟨o, _, q1, q2, rfl⟩
  · rcases List.mem_cons.mp hb with q | q
    · exact .inl q
    · rw [List.mem_singleton.mp q]; exact .inr (.inl ⟨hf, let ⟨o, _, ho, _⟩ := h1; ⟨o, ho⟩⟩)
noncomputable def TI (S : Stc) (v : PV) (ph : List PO) (xs : List PV) (nl : Option Nat) : Prop := ∀ ⦃A : Around⦄ ⦃s : Shared⦄ ⦃g : Gh⦄ ⦃x : Value⦄ ⦃target : Expr⦄, Inv S s.heap s.toks g ph → VR S s.heap g v x → wpAny (MS S) A (pyIter x) (Iter S s g ph target xs nl) NoE s
theorem itemsO_ok {v : PV} {xs nl} (e : itemsO v ph = some (xs, nl)) : TI S v ph xs nl := iN e fun m hm e => iL e fun us hu e => sp2 e fun q1 q2 => by
  subst q1; subst q2
  rw [asObj_eq hm]
  exact fun A s g x target I r => r.eObj fun a q hr => q ▸ (let ⟨vs, k, q1, q2⟩ := I.obj _ _ _ (listAt_eq hu) hr; iter_list I q1 q2 (.inr ⟨m, rfl, hr, listAt_eq hu⟩))
theorem ti_rng {a b c : Int} (h : (smallJ a && smallJ b && c == 1) = true) : TI S (.rng a b c) ph (rngItems a b c) none := fun A s g x target I r => r.eRng fun l t u w q hr j9 => by
  simp only [Bool.and_eq_true, beq_iff_eq] at h
  obtain ⟨⟨h1, h2⟩, rfl⟩ := h
  subst q
  have key : Builtin.Range.rangeSize a b 1 ≤ 4294967296 := by
    have h1 := of_decide_eq_true h1
    have h2 := of_decide_eq_true h2
    unfold Builtin.Range.rangeSize
    rw [if_pos (by decide), Int.ediv_one]
    split <;> omega
  obtain ⟨hs, m, hm⟩ := rng_small h1 h2 (by decide) (by decide) key
  exact iter_rng I hr hs hm
theorem itemsF_ok (O : TopOk S T) {v : PV} {xs} (e : itemsF v = some xs) : TI S v ph xs none :=
  oS e (fun y hy e => sp1 e fun q => q ▸ fun A s g x target I r => eS (motive := fun x => wpAny (MS S) A (pyIter x) (Iter S s g ph target _ none) NoE s) hy r fun t => iter_str I) fun j9 e =>
  oRg e (fun a b c hv e => iT e fun h e => sp1 e fun q => q ▸ asRng_eq hv ▸ ti_rng h) fun e => by
    cases v
    case lst ys => exact Option.some.inj e ▸ fun A s g x target I r => r.eLst fun a vs n q h1 h2 h3 => q ▸ iter_list I h1 h3 (.inl ⟨rfl, h2⟩)
    case tup ys => exact Option.some.inj e ▸ fun A s g x target I r => r.eTup fun a vs n q h1 h2 h3 => q ▸ iter_tuple I h1 h3 h2
    case dct es => exact Option.some.inj e ▸ fun A s g x target I r => r.eDct fun a kvs ep q h1 h2 h3 h4 j9 => q ▸ iter_dct O I h1 h2 h3 h4
    all_goals exact nos e
theorem items_ok (O : TopOk S T) {v : PV} {xs nl} (e : itemsOf v ph = some (xs, nl)) : TI S v ph xs nl := oL e (fun ys hy e => sp2 e fun q1 q2 => q1 ▸ q2 ▸ itemsF_ok O hy) fun j9 e => itemsO_ok e
end
end Mine.Internal
end
section
open PySem PySem.W PyProof.Rows PySem.Calls
namespace Mine.Internal
section
variable {S : Stc} {T : Top} {P : PrimT} {A : Around} {s s₁ : Shared} {g g₁ : Gh} {ph ph' ph₁ ph₂ : List PO} {env : Env} {sc : Scope} {loc loc' : Loc} {X : List Addr} {n : Nat} {r : Ev}
noncomputable def unxi (g₀ g : Gh) : Gh := ⟨g.ρ, g₀.ξ, g.tk⟩
theorem unxi_mono {h h' : Heap} {g₀ : Gh} {wr : List Addr} (hs : ∀ b ∈ g₀.ξ, b ∈ g.ξ) (hw : ∀ b ∈ wr, b ∈ g.ξ) (kp : ∀ b o, b ∉ wr → h.get? b = some o → h'.get? b = some o) : Mono S h g h' (unxi g₀ g) :=
  ⟨fun b o e f => kp b o (fun q => f.2.1 (hw b q)) e, fun b o e f => ⟨f.1, fun q => f.2.1 (hs b q), f.2.2⟩, fun j9 j9 e => e, Nat.le_refl _⟩
theorem Inv.unxi {h h' : Heap} {k k' : Nat} {g₀ : Gh} {wr : List Addr} (I : Inv S h k g ph) (hs : ∀ b ∈ g₀.ξ, b ∈ g.ξ) (hw : ∀ b ∈ wr, b ∈ g.ξ) (hn : ∀ b ∈ g₀.ξ, b ∉ wr) (kp : ∀ b o, b ∉ wr → h.get? b = some o → h'.get? b = some o) (hk : k ≤ k') : Inv S h' k' (unxi g₀ g) ph :=
  ⟨I.tk0, Nat.le_trans I.tk hk, I.keepTop fun b o e j9 n2 j9 => kp b o (fun q => n2 (hw b q)) e, I.keepOld fun b o e j9 n2 => kp b o (fun q => n2 (hw b q)) e, I.len, I.nd, I.lo, fun n po a e1 e2 => (I.obj n po a e1 e2).mono (unxi_mono hs hw kp) fun o ho => kp a o (fun q => (I.xi a (hw a q)).2.1 (List.mem_of_getElem? e2)) ho, fun a m => let ⟨⟨o, ho⟩, r⟩ := I.xi a (hs a m); ⟨⟨o, kp a o (hn a m) ho⟩, r⟩⟩
theorem Inv.setp {h : Heap} {k n : Nat} {a : Addr} {po : PO} (I : Inv S h k g ph) (hn : g.ρ[n]? = some a) (hor : OR S h g po a) : Inv S h k g (ph.set n po) := by
  refine ⟨I.tk0, I.tk, I.top, I.old, by rw [List.length_set]; exact I.len, I.nd, I.lo, fun m po a e1 e2 => ?_, I.xi⟩
  by_cases q : n = m
  · subst q
    rw [List.getElem?_set_self (by rw [← I.len]; exact (List.getElem?_eq_some_iff.mp e2).1)] at e1
    exact Option.some.inj e1 ▸ Option.some.inj (hn.symm.trans e2) ▸ hor
  · rw [List.getElem?_set_ne q] at e1
    exact I.obj m po a e1 e2
theorem Step.exit {h h0 h1 h2 : Heap} {wr Y ξ2 : List Addr} (kp : ∀ b o, h.get? b = some o → h0.get? b = some o) (fr : ∀ b ∈ wr, h.get? b = none) (kp2 : ∀ b o, b ∉ wr → h1.get? b = some o → h2.get? b = some o) (hYw : ∀ b ∈ Y, b ∉ wr) (T : Step S (wr ++ Y) h0 ⟨g.ρ, ξ2, g.tk⟩ ph h1 g₁ ph₁) : Step S Y h g ph h2 (unxi g g₁) ph₁ := by
  have nw : ∀ {b o}, h.get? b = some o → b ∉ wr := fun e q => nos ((fr _ q).symm.trans e)
  refine ⟨fun b o e nm nt nx => kp2 b o (nw e) (T.keep b o (kp b o e) nm nt fun q => (List.mem_append.mp q).elim (nw e) nx), T.pre, rfl, fun b m n0 => ?_, T.lock, fun b m ⟨o, e⟩ => ?_, T.tk⟩
  · cases q : h.get? b with
    | none => rfl
    | some o => exact nos ((T.new b m n0).symm.trans (kp b o q))
  · obtain ⟨o', ho'⟩ := T.xal b (List.mem_append.mpr (.inr m)) ⟨o, kp b o e⟩
    exact ⟨o', kp2 b o' (hYw b m) ho'⟩
theorem Step.relock {h h' : Heap} {g' : Gh} {Y : List Addr} {m : Nat} {xs ys : List PV} (T : Step S Y h g (ph.set m .lock) h' g' ph₁) (e : ph[m]? = some (.list ys)) (l : ph₁[m]? = some .lock) : Step S Y h g ph h' g' (ph₁.set m (.list xs)) :=
  ⟨fun b o e1 nm => T.keep b o e1 fun ⟨j, q1, q2⟩ => nm ⟨j, q1, fun z => by
      by_cases q : m = j
      · subst q; rw [e] at z; exact nomatch Option.some.inj z
      · rw [List.getElem?_set_ne q] at q2; exact q2 z⟩, T.pre, T.xi, T.new, fun j hj => by
    by_cases q : m = j
    · subst q
      rw [e, List.getElem?_set_self (List.getElem?_eq_some_iff.mp l).1]
      exact ⟨fun z => (nomatch Option.some.inj z), fun z => (nomatch Option.some.inj z)⟩
    · rw [List.getElem?_set_ne q, ← T.lock j hj, List.getElem?_set_ne q], T.xal, T.tk⟩
inductive AccAt (S : Stc) (h : Heap) (g : Gh) (D : Addr) (acc : List PV) : Prop
  | mk (vs : List Value) (k : Nat) (e : h.get? D = some (seqO "list" vs k)) (r : VRs S h g acc vs)
set_option genInjectivity false in
structure LC (S : Stc) (env : Env) (sc : Scope) (X : List Addr) where
  target : Expr
  xs : List PV
  Ia : Addr
  fp : List Addr
  wr : List Addr
  Y : List Addr
  D : Option Addr
  St : Nat → Heap → Prop
  hT : Heap
  gT : Gh
  s0 : Shared
  gE : Gh
  phE : List PO
  W : Turns S hT gT target Ia fp wr xs St
  MT : Mono S hT gT s0.heap gE
  sub : ∀ b ∈ wr ++ Y, b ∈ gE.ξ
  XY : ∀ b ∈ X, b ∈ Y
  Yw : ∀ b ∈ Y, b ∉ wr
  cw : ∀ x c, env.cells.lookup x = some c → c ∉ wr
  hfp : ∀ b ∈ fp, b ∈ wr ∨ (Fz S gE b ∧ ∃ o, s0.heap.get? b = some o) ∨ ∃ m : Nat, gE.ρ[m]? = some b ∧ phE[m]? = some .lock
  DY : ∀ D', D = some D' → D' ∈ Y ∧ D' ∉ X
variable {L : LC S env sc X} {i : Nat} {acc acc' : List PV} {x : PV}
inductive Run (L : LC S env sc X) (i : Nat) (loc : Loc) (acc : List PV) (ph : List PO) (s : Shared) : Prop
  | mk (g : Gh) (I : Inv S s.heap s.toks g ph) (T : Step S (L.wr ++ L.Y) L.s0.heap L.gE L.phE s.heap g ph) (m : Same L.s0 s) (F : Frm S s.heap g env sc loc X) (a : ∀ D, L.D = some D → AccAt S s.heap g D acc) (st : L.St i s.heap)
theorem AccAt.step {D : Addr} (a : AccAt S s.heap g D acc) (I : Inv S s.heap s.toks g ph) (T : Step S X s.heap g ph s₁.heap g₁ ph₁) (hX : ∀ a ∈ X, a ∈ g.ξ) (hD : D ∈ g.ξ) (hn : D ∉ X) : AccAt S s₁.heap g₁ D acc := by
  obtain ⟨vs, k, h1, h2⟩ := a
  have x := I.xi D hD
  exact ⟨vs, k, T.keep D _ h1 (fun m => x.2.1 m.mem) (fun t => let ⟨o, ho⟩ := S.tbIn D t; nos (x.2.2.symm.trans ho)) hn, h2.mono (T.mono hX)⟩
theorem LC.inY (L : LC S env sc X) {b : Addr} (h : b ∈ L.Y) (T : Step S (L.wr ++ L.Y) L.s0.heap L.gE L.phE s.heap g ph) : b ∈ g.ξ := T.xi ▸ L.sub b (List.mem_append.mpr (.inr h))
theorem LC.inW (L : LC S env sc X) {b : Addr} (h : b ∈ L.wr) (T : Step S (L.wr ++ L.Y) L.s0.heap L.gE L.phE s.heap g ph) : b ∈ g.ξ := T.xi ▸ L.sub b (List.mem_append.mpr (.inl h))
theorem LC.keep (L : LC S env sc X) (I : Inv S s.heap s.toks g ph) (T : Step S (L.wr ++ L.Y) L.s0.heap L.gE L.phE s.heap g ph) (U : Step S L.Y s.heap g ph s₁.heap g₁ ph₁) : ∀ b ∈ L.fp, ∀ o, s.heap.get? b = some o → s₁.heap.get? b = some o := fun b hb o ho => by
  rcases L.hfp b hb with q | ⟨q, o', ho'⟩ | ⟨m, q1, q2⟩
  · have x := I.xi b (L.inW q T)
    exact U.keep b o ho (fun m => x.2.1 m.mem) (fun t => let ⟨o, ho⟩ := S.tbIn b t; nos (x.2.2.symm.trans ho)) fun z => L.Yw b z q
  · have f2 := (T.mono L.sub).fz b o' ho' q
    exact U.keep b o ho (fun m => f2.1 m.mem) f2.2.2 fun z => f2.2.1 (L.inY z T)
  · have gb : g.ρ[m]? = some b := T.at_ q1
    have lk : ph[m]? = some .lock := (T.lock m (List.getElem?_eq_some_iff.mp q1).1).mp q2
    exact U.keep b o ho (fun ⟨j, j1, j2⟩ => j2 (nodup_idx I.nd j1 gb ▸ lk)) (fun t => I.tbOut t (List.mem_of_getElem? gb)) fun z => (I.xi b (L.inY z T)).2.1 (List.mem_of_getElem? gb)
theorem LC.go (L : LC S env sc X) (I : Inv S s.heap s.toks g ph) (T : Step S (L.wr ++ L.Y) L.s0.heap L.gE L.phE s.heap g ph) (m : Same L.s0 s) (st : L.St i s.heap) (I' : Inv S s₁.heap s₁.toks g₁ ph₁) (U : Step S L.Y s.heap g ph s₁.heap g₁ ph₁) (m' : Same s s₁) (F' : Frm S s₁.heap g₁ env sc loc' X)
    (a' : ∀ D, L.D = some D → AccAt S s₁.heap g₁ D acc') : Run L i loc' acc' ph₁ s₁ :=
  ⟨g₁, I', T.trans (U.sub (fun b hb => List.mem_append.mpr (.inr hb)) (fun b hb => T.xi ▸ L.sub b hb) I I') I, m.trans m', F', a', L.W.frame _ _ _ st (L.keep I T U)⟩
theorem LC.frm (L : LC S env sc X) (I : Inv S s.heap s.toks g ph) (T : Step S (L.wr ++ L.Y) L.s0.heap L.gE L.phE s.heap g ph) (m : Same L.s0 s) (F : Frm S s.heap g env sc loc X) (a : ∀ D, L.D = some D → AccAt S s.heap g D acc) (st : L.St i s.heap) (p : PstS S s g ph env sc X loc' ph₁ s₁) : Run L i loc' acc ph₁ s₁ :=
  PstS.casesOn p fun g' I' U m' F' => L.go I T m st I' (U.sub L.XY (fun b hb => L.inY hb T) I I') m' F' fun D hD => (a D hD).step I U F.sub (L.inY (L.DY D hD).1 T) (L.DY D hD).2
theorem Run.turn {Q : Shared → Prop} (R : Run L i loc acc ph s) (hA : A.handled = none) (hx : L.xs[i]? = some x) (hb : bindT sc L.target x loc = some loc') (k : ∀ s', Run L (i + 1) loc' acc ph s' → Q s') :
    wpAny (MS S) A (pyNext (.ref L.Ia)) (fun r s1 => ∃ v, r = some v ∧ wpAny (MS S) A (letOwnedTupleGo L.target (.ref L.Ia) v) (fun j9 s2 => wpAny (MS S) A (assign L.target env v) (fun j9 s3 => Q s3) NoE s2) NoE s1) NoE s := by
  obtain ⟨g, I, T, m, F, a, st⟩ := R
  have hw : ∀ b ∈ L.wr, b ∈ g.ξ := fun b hb => L.inW hb T
  refine L.W.step hA hx st fun v h' tk hv st' hk ht => ?_
  have hal := L.W.live _ _ st'
  have I2 : Inv S h' tk g ph := I.xchg hw hal hk ht
  have T2 : Step S (L.wr ++ L.Y) s.heap g ph h' g ph := .xchg I hw hal hk fun b hb => List.mem_append.mpr (.inl hb)
  have M2 := xchg_mono (S := S) hw hk
  have F2 : Frm S h' g env sc loc X := F.mono M2 (fun b o q e => hk b o (q.elim (fun q => q ▸ L.Yw _ (L.XY _ F.L)) fun ⟨x, q⟩ => L.cw x b q) e) F.sub F.cxi
  have c := T.mono L.sub
  have rv := hv s.toks g ph I hw ⟨fun b o q f => c.keep _ _ (L.MT.keep _ _ q f) (L.MT.fz _ _ q f), fun b o q f => c.fz _ _ (L.MT.keep _ _ q f) (L.MT.fz _ _ q f), fun n b q => c.at_ _ _ (L.MT.at_ _ _ q), Nat.le_trans L.MT.tk c.tk⟩
  have a2 : ∀ D, L.D = some D → AccAt S h' g D acc := fun D hD => let ⟨vs, k, z1, z2⟩ := a D hD; ⟨vs, k, hk _ _ (L.Yw D (L.DY D hD).1) z1, z2.mono M2⟩
  exact wpAny_mono (bind_ok hb (s := { s with heap := h', toks := tk }) hA I2 F2 rv) (fun j9 s3 p => k s3 (L.frm (s := { s with heap := h', toks := tk }) I2 (T.trans T2 I) (m.trans ⟨rfl, id⟩) F2 a2 st' p)) fun j9 j9 z => z
theorem Run.done {Q : Shared → Prop} (R : Run L L.xs.length loc acc ph s) (hA : A.handled = none) (k : ∀ {g h' tk}, Inv S s.heap s.toks g ph → Step S (L.wr ++ L.Y) L.s0.heap L.gE L.phE s.heap g ph → Same L.s0 s → Frm S s.heap g env sc loc X → (∀ D, L.D = some D → AccAt S s.heap g D acc) → (∀ b o, b ∉ L.wr → s.heap.get? b = some o → h'.get? b = some o) → s.toks ≤ tk → Q { s with heap := h', toks := tk }) :
    wpAny (MS S) A (pyNext (.ref L.Ia)) (fun r s1 => r = none ∧ Q s1) NoE s := by
  obtain ⟨g, I, T, m, F, a, st⟩ := R
  exact L.W.done hA st fun h' tk hk ht => k I T m F a hk ht
noncomputable def LFin (S : Stc) (env : Env) (sc : Scope) (X : List Addr) (s : Shared) (g : Gh) (ph : List PO) (nl : Option Nat) (L : LC S env sc X) : Prop := ∀ ⦃s1 : Shared⦄ ⦃g1 : Gh⦄ ⦃ph1 ph' : List PO⦄ ⦃h' : Heap⦄ ⦃tk : Nat⦄ ⦃loc acc⦄, Inv S s1.heap s1.toks g1 ph1 → Step S (L.wr ++ L.Y) L.s0.heap L.gE L.phE s1.heap g1 ph1 → Same L.s0 s1 → Frm S s1.heap g1 env sc loc X → (∀ D, L.D = some D → AccAt S s1.heap g1 D acc) →
  (∀ b o, b ∉ L.wr → s1.heap.get? b = some o → h'.get? b = some o) → s1.toks ≤ tk → unlockP nl L.xs ph1 = some ph' → ∃ g', Inv S h' tk g' ph' ∧ Step S L.Y s.heap g ph h' g' ph' ∧ Same s { s1 with heap := h', toks := tk } ∧ Frm S h' g' env sc loc X ∧ (∀ D, L.D = some D → AccAt S h' g' D acc) ∧ Mono S s1.heap g1 h' g'
inductive Ready (S : Stc) (env : Env) (sc : Scope) (X : List Addr) (s : Shared) (g : Gh) (ph : List PO) (loc : Loc) (acc : List PV) (target : Expr) (xs : List PV) (nl : Option Nat) (Y : List Addr) (D : Option Addr) (It : Value) (s0 : Shared) : Prop
  | mk (L : LC S env sc X) (e1 : L.target = target) (e2 : L.xs = xs) (e3 : It = .ref L.Ia) (e4 : L.D = D) (e5 : L.Y = Y) (R : Run L 0 loc acc (lockP nl ph) s0) (fin : LFin S env sc X s g ph nl L)
theorem unlock_ok {nl : Option Nat} {xs : List PV} {h h' : Heap} {k k' : Nat} {g' : Gh} {Y : List Addr} (hl : ∀ n, nl = some n → ∃ a vs k, g.ρ[n]? = some a ∧ h.get? a = some (seqO "list" vs k) ∧ VRs S h g xs vs ∧ ∃ ys, ph[n]? = some (.list ys)) (I : Inv S h k g ph) (I2 : Inv S h' k' g' ph₁) (T2 : Step S Y h g (lockP nl ph) h' g' ph₁) (hY : ∀ b ∈ Y, b ∈ g.ξ) (u : unlockP nl xs ph₁ = some ph') : Inv S h' k' g' ph' ∧ Step S Y h g ph h' g' ph' := by
  cases nl with
  | none => exact sp1 u fun q => q ▸ ⟨I2, T2⟩
  | some n =>
    obtain ⟨a, vs, k, q1, q2, q3, ys, q4⟩ := hl n rfl
    have lt : n < ph.length := I.len ▸ (List.getElem?_eq_some_iff.mp q1).1
    have l : ph₁[n]? = some .lock := (T2.lock n (List.getElem?_eq_some_iff.mp q1).1).mp (List.getElem?_set_self lt)
    replace u : (match ph₁[n]? with | some .lock => some (ph₁.set n (.list xs)) | _ => none) = some ph' := u
    rw [l] at u
    refine sp1 u fun q => q ▸ ⟨I2.setp (T2.at_ q1) ⟨vs, k, T2.keep a _ q2 (fun ⟨j, z1, z2⟩ => z2 ?_) (fun t => I.tbOut t (List.mem_of_getElem? q1)) fun z => (I.xi a (hY a z)).2.1 (List.mem_of_getElem? q1), q3.mono (T2.mono hY)⟩, T2.relock q4 l⟩
    rw [nodup_idx I.nd z1 q1]
    exact List.getElem?_set_self lt
theorem ready_ok {target : Expr} {xs : List PV} {nl : Option Nat} {It : Value} {s0 : Shared} {Y : List Addr} {D : Option Addr} (I : Inv S s.heap s.toks g ph) (F : Frm S s.heap g env sc loc X) (it : Iter S s g ph target xs nl It s0) (hXY : ∀ b ∈ X, b ∈ Y) (hY : ∀ b ∈ Y, b ∈ g.ξ) (hD : ∀ D', D = some D' → (D' ∈ Y ∧ D' ∉ X) ∧ AccAt S s.heap g D' acc) :
    Ready S env sc X s g ph loc acc target xs nl Y D It s0 := by
  obtain ⟨Ia, fp, wr, St, rfl, kp, htk, m0, fr, al, W, st0, hfp, hl⟩ := it
  have M0 := enter_mono (S := S) (g := g) kp fr
  have alive : ∀ b, b ∈ g.ξ → b ∉ wr := fun b hb q => let ⟨⟨o, ho⟩, _⟩ := I.xi b hb; nos ((fr b q).symm.trans ho)
  have hsub : ∀ b ∈ wr ++ Y, b ∈ (enter wr g).ξ := fun b hb => List.mem_append.mpr ((List.mem_append.mp hb).imp id (hY b))
  have I0 := I.enter kp fr al htk
  have F0 : Frm S s0.heap (enter wr g) env sc loc X := F.mono M0 (fun b o j9 e => kp b o e) (fun b hb => List.mem_append.mpr (.inr (F.sub b hb))) (fun x c q => List.mem_append.mpr (.inr (F.cxi x c q)))
  have a0 : ∀ D', D = some D' → AccAt S s0.heap (enter wr g) D' acc := fun D' h => let ⟨vs, k, z1, z2⟩ := (hD D' h).2; ⟨vs, k, kp _ _ z1, z2.mono M0⟩
  have hlen : ∀ {n a}, g.ρ[n]? = some a → n < ph.length := fun e => I.len ▸ (List.getElem?_eq_some_iff.mp e).1
  let L : LC S env sc X := ⟨target, xs, Ia, fp, wr, Y, D, St, s0.heap, enter wr g, s0, enter wr g, lockP nl ph, W, ⟨fun j9 j9 e j9 => e, fun j9 j9 j9 f => f, fun j9 j9 e => e, Nat.le_refl _⟩, hsub, hXY, fun b hb => alive b (hY b hb), fun x c q => alive c (F.cxi x c q),
    fun b hb => (hfp b hb).imp id fun q => q.imp (fun ⟨q, o, ho⟩ => ⟨M0.fz b o ho q, o, kp b o ho⟩) fun ⟨n, q1, q2⟩ => ⟨n, q2, by rw [q1]; exact List.getElem?_set_self (hlen q2)⟩, fun D' h => (hD D' h).1⟩
  refine ⟨L, rfl, rfl, rfl, rfl, rfl, ⟨enter wr g, ?_, .refl, .refl, F0, a0, st0⟩, fun s1 g1 ph1 ph' h' tk loc acc I1 T1 m1 F1 a1 kp2 ht u => ?_⟩
  · cases nl with
    | none => exact I0
    | some n => exact (let ⟨a, vs, k, q1, q2, q3, ys, q4⟩ := hl n rfl; I0.setp q1 (I0.alive (List.mem_of_getElem? q1)))
  · have hξ : ∀ b ∈ g.ξ, b ∈ g1.ξ := fun b hb => T1.xi ▸ List.mem_append.mpr (.inr hb)
    have hw : ∀ b ∈ wr, b ∈ g1.ξ := fun b hb => T1.xi ▸ List.mem_append.mpr (.inl hb)
    have M2 : Mono S s1.heap g1 h' (unxi g g1) := unxi_mono hξ hw kp2
    have I2 := I1.unxi (g₀ := g) hξ hw alive kp2 ht
    have T2 : Step S Y s.heap g (lockP nl ph) h' (unxi g g1) ph1 := .exit kp fr kp2 (fun b hb => alive b (hY b hb)) T1
    have F2 : Frm S h' (unxi g g1) env sc loc X := F1.mono M2 (fun b o q e => kp2 b o (q.elim (fun q => q ▸ alive _ (F.sub _ F.L)) fun ⟨x, q⟩ => alive _ (F.cxi x b q)) e) F.sub F.cxi
    have a2 : ∀ D', D = some D' → AccAt S h' (unxi g g1) D' acc := fun D' h => let ⟨vs, k, z1, z2⟩ := a1 D' h; ⟨vs, k, kp2 _ _ (alive _ (hY _ (hD D' h).1.1)) z1, z2.mono M2⟩
    have key := unlock_ok hl I I2 T2 hY u
    exact ⟨unxi g g1, key.1, key.2, m0.trans (m1.trans ⟨rfl, id⟩), F2, a2, M2⟩
end
end Mine.Internal
end
section
open PySem PySem.W PyProof.Rows PySem.Calls
namespace Mine.Internal
section
variable {S : Stc} {T : Top} {P : PrimT} {A : Around} {s s₁ : Shared} {g g₁ : Gh} {ph ph1 ph2 ph' ph₁ ph₂ phL : List PO} {env : Env} {sc : Scope} {loc loc' loc1 : Loc} {X : List Addr} {n : Nat} {r : Ev} {fl : Fl} {st : Stmt} {sts body : List Stmt} {t e : Expr} {b : Bool} {p : Pos}
theorem PstF.after {fl f s'} (T : Step S X s.heap g ph s₁.heap g₁ ph₁) (I₁ : Inv S s₁.heap s₁.toks g₁ ph₁) (m : Same s s₁) (p : PstF S s₁ g₁ ph₁ env sc X fl loc' ph₂ f s') : PstF S s g ph env sc X fl loc' ph₂ f s' :=
  PstF.casesOn p fun g' a b c d e => ⟨g', a, T.trans b I₁, m.trans c, d, e⟩
theorem tx_nil : TX S n sc loc [] ph .next loc ph := fun {A env s g X} a I F => wpAny_execs_nil ⟨g, I, .refl, .refl, F, trivial⟩
theorem fl_next {h : Heap} : ∀ {f : Flow}, FlR S h g .next f → f = .next
  | .next, _ => rfl
theorem fl_brk {h : Heap} : ∀ {f : Flow}, FlR S h g .brk f → f = .brk
  | .brk, _ => rfl
theorem fl_ret {h : Heap} {v : PV} {Q : Flow → Prop} : ∀ {f : Flow}, FlR S h g (.ret v) f → (∀ x, VR S h g v x → Q (.ret x)) → Q f
  | .ret _, r, k => k _ r
theorem fl_ne {h : Heap} {Q : Shared → Prop} {Q' : Flow → Shared → Prop} (hn : fl ≠ .next) : ∀ {f : Flow}, FlR S h g fl f → Q' f s → (match f with | .next => Q s | f => Q' f s)
  | .next, r, q => absurd (match fl, r with | .next, _ => rfl) hn
  | .brk, _, q => q
  | .cont, _, q => q
  | .ret _, _, q => q
theorem tx_next (h1 : TS S n sc loc st ph .next loc1 ph1) (h2 : TX S n sc loc1 sts ph1 fl loc' ph') : TX S n sc loc (st :: sts) ph fl loc' ph' := fun a I F =>
  wpAny_execs_cons (wpAny_mono (h1 a I F) (fun f s1 q => PstF.casesOn q fun g1 I1 T1 m1 F1 r => fl_next r ▸ wpAny_mono (h2 a I1 F1) (fun j9 j9 p => p.after T1 I1 m1) fun j9 j9 h => h) fun j9 j9 h => h)
theorem tx_end (h1 : TS S n sc loc st ph fl loc' ph') (hn : fl ≠ .next) : TX S n sc loc (st :: sts) ph fl loc' ph' := fun {A env s g X} a I F =>
  wpAny_execs_cons (wpAny_mono (h1 a I F) (fun f s1 q => PstF.casesOn q fun g1 I1 T1 m1 F1 r => fl_ne (Q' := PstF S s g ph env sc X fl loc' ph') hn r q) fun j9 j9 h => h)
theorem execs_ok (H : Snd S r n) : ∀ {sts : List Stmt} {loc ph}, execsP r sc sts loc ph = some (fl, loc', ph') → TX S n sc loc sts ph fl loc' ph'
  | [], _, _, e => sp3 e fun q1 q2 q3 => q1 ▸ q2 ▸ q3 ▸ tx_nil
  | st :: sts, _, _, e => iX e (fun loc1 ph1 e1 e => tx_next (H.s e1) (execs_ok H e)) fun hn e => tx_end (H.s e) hn
theorem TX.use (h : TX S n sc loc sts ph fl loc' ph') {A : Around} (a : AOk A n) (I : Inv S s.heap s.toks g ph) (F : Frm S s.heap g env sc loc X) : wpAny (MS S) A (execs sts env) (PstF S s g ph env sc X fl loc' ph') NoE s := h a I F
theorem ts_if {x y : List Stmt} (h : TT S n sc loc t ph b ph1) (h1 : TX S n sc loc (match b with | true => x | false => y) ph1 fl loc' ph') : TS S (n + 1) sc loc (.If t x y p) ph fl loc' ph' := fun a I F =>
  wpAny_If (wpT (h a.less I F) fun s1 g1 I1 T1 m1 => by
    cases b
    · exact wpAny_mono (h1 a.less I1 (F.step I T1)) (fun j9 j9 q => q.after (T1.up F I I1) I1 m1) fun j9 j9 z => z
    · exact wpAny_mono (h1 a.less I1 (F.step I T1)) (fun j9 j9 q => q.after (T1.up F I I1) I1 m1) fun j9 j9 z => z)
theorem if_ok (H : Snd S r n) {x y : List Stmt} (e : sIf r sc loc t x y ph = some (fl, loc', ph')) : TS S (n + 1) sc loc (.If t x y p) ph fl loc' ph' := rB e fun c ph1 e1 e => ts_if (H.t e1) (by cases c <;> exact execs_ok H e)
noncomputable def WNext (I : Nat → Shared → Prop) (R : Flow → Shared → Prop) (k : Nat) : Flow → Shared → Prop
  | .next, s => ∃ m, m < k ∧ I m s
  | .cont, s => ∃ m, m < k ∧ I m s
  | .brk, s => R .next s
  | .ret v, s => R (.ret v) s
theorem while_loop {I : Nat → Shared → Prop} {R : Flow → Shared → Prop} {k : Nat} (turn : ∀ k s, I k s → wpAny (MS S) A (isTrue t env (eval t env)) (fun b s2 => cond b (wpAny (MS S) A (execs body env) (WNext I R k) NoE s2) (R .next s2)) NoE s) (h : I k s) : wpAny (MS S) A (exec (.While t body [] p) env) R NoE s := by
  refine wpAny_While (codeAny_whileLoop I (fun k s h => wpAny_mono (turn k s h) (fun b s2 q => ?_) fun j9 j9 z => z.elim) k h)
  cases b
  · exact wpAny_execs_nil q
  · exact wpAny_mono (show wpAny (MS S) A (execs body env) (WNext I R k) NoE s2 from q) (fun f s3 q => by cases f <;> exact q) fun j9 j9 z => z.elim
theorem for_loop {I : Nat → Shared → Prop} {R : Flow → Shared → Prop} {k : Nat} {target : Expr} {it : Value} (turn : ∀ k s, I k s → wpAny (MS S) A (pyNext it) (fun r s1 => ∃ v, r = some v ∧ wpAny (MS S) A (letOwnedTupleGo target it v) (fun j9 s2 => wpAny (MS S) A (assign target env v) (fun j9 s3 => wpAny (MS S) A (execs body env) (WNext I R k) NoE s3) NoE s2) NoE s1) NoE s ∨
      wpAny (MS S) A (pyNext it) (fun r s1 => r = none ∧ R .next s1) NoE s) (h : I k s) : codeAny (MS S) A (.forLoop target it body [] env) (fun q s' => ∃ f, q = .ok f ∧ R f s') s := by
  refine codeAny_forLoop_any I (fun k s h => ?_) k h
  rcases turn k s h with h | h
  · refine wpAny_mono h (fun r s1 q => ?_) fun j9 j9 z => z.elim
    obtain ⟨v, rfl, h⟩ := q
    exact wpAny_mono h (fun j9 s2 h => wpAny_mono h (fun j9 s3 h => wpAny_mono h (fun f s4 q => by cases f <;> first | exact q | exact ⟨_, rfl, q⟩) fun j9 j9 z => z.elim) fun j9 j9 z => z.elim) fun j9 j9 z => z.elim
  · refine wpAny_mono h (fun r s1 q => ?_) fun j9 j9 z => z.elim
    obtain ⟨rfl, h⟩ := q
    exact wpAny_execs_nil ⟨_, rfl, h⟩
theorem wnext_next {I : Nat → Shared → Prop} {R : Flow → Shared → Prop} {k m : Nat} {f : Flow} {h : Heap} (r : FlR S h g .next f) (hm : m < k) (hi : I m s) : WNext I R k f s := fl_next r ▸ ⟨m, hm, hi⟩
theorem wnext_brk {I : Nat → Shared → Prop} {R : Flow → Shared → Prop} {k : Nat} {f : Flow} {h : Heap} (r : FlR S h g .brk f) (hi : R .next s) : WNext I R k f s := fl_brk r ▸ hi
theorem wnext_ret {I : Nat → Shared → Prop} {R : Flow → Shared → Prop} {k : Nat} {f : Flow} {h : Heap} {v : PV} (r : FlR S h g (.ret v) f) (hi : ∀ x, VR S h g v x → R (.ret x) s) : WNext I R k f s := fl_ret (Q := fun f => WNext I R k f s) r fun x rx => hi x rx
noncomputable def WInv (S : Stc) (r : Ev) (s : Shared) (g : Gh) (ph : List PO) (env : Env) (sc : Scope) (X : List Addr) (t : Expr) (body : List Stmt) (fl : Fl) (loc' : Loc) (ph' : List PO) (k : Nat) (s' : Shared) : Prop :=
  ∃ loc1 ph1, PstS S s g ph env sc X loc1 ph1 s' ∧ whileGo (fun loc ph => r.t sc loc t ph) (fun loc ph => execsP r sc body loc ph) k loc1 ph1 = some (fl, loc', ph')
theorem while_ok (H : Snd S r n) {orelse : List Stmt} (e : sWhile r sc loc t body orelse ph = some (fl, loc', ph')) : TS S (n + 1) sc loc (.While t body orelse p) ph fl loc' ph' := fun {A env s g X} a I F => s0 e fun q e => by
  subst q
  refine while_loop (I := WInv S r s g ph env sc X t body fl loc' ph') (k := 100) (fun k s1 p1 => ?_) ⟨loc, ph, ⟨g, I, .refl, .refl, F⟩, e⟩
  obtain ⟨loc1, ph1, ⟨g1, I1, T1, m1, F1⟩, e1⟩ := p1
  cases k with
  | zero => exact nos e1
  | succ k =>
    refine rW e1 (fun ph2 e2 e1 => wpT (H.t e2 a.less I1 F1) fun s2 g2 I2 T2 m2 => ?_) fun ph2 e2 e1 => wpT (H.t e2 a.less I1 F1) fun s2 g2 I2 T2 m2 => sp3 e1 fun q1 q2 q3 => q1 ▸ q2 ▸ q3 ▸ ⟨g2, I2, T1.trans (T2.up F1 I1 I2) I1, m1.trans m2, F1.step I1 T2, trivial⟩
    have F2 := F1.step I1 T2
    have T2' := T1.trans (T2.up F1 I1 I2) I1
    have m2' := m1.trans m2
    exact iG e1 (fun loc3 ph3 e3 e1 => wpAny_mono (execs_ok H e3 a.less I2 F2) (fun f s3 q => PstF.casesOn q fun g3 I3 T3 m3 F3 hf => wnext_next hf (Nat.lt_succ_self k) ⟨loc3, ph3, ⟨g3, I3, T2'.trans T3 I2, m2'.trans m3, F3⟩, e1⟩) fun j9 j9 z => z)
      (fun hfl e3 => wpAny_mono (execs_ok H e3 a.less I2 F2) (fun f s3 q => PstF.casesOn q fun g3 I3 T3 m3 F3 hf => wnext_brk hf ⟨g3, I3, T2'.trans T3 I2, m2'.trans m3, F3, hfl ▸ trivial⟩) fun j9 j9 z => z)
      fun v hfl e3 => wpAny_mono (execs_ok H e3 a.less I2 F2) (fun f s3 q => PstF.casesOn q fun g3 I3 T3 m3 F3 hf => wnext_ret hf fun x rx => ⟨g3, I3, T2'.trans T3 I2, m2'.trans m3, F3, hfl ▸ rx⟩) fun j9 j9 z => z
noncomputable def FInv (L : LC S env sc X) (bodyP : Loc → List PO → SRes) (fl : Fl) (loc' : Loc) (phL : List PO) (k : Nat) (s : Shared) : Prop :=
  ∃ i loc1 ph1, k + i = L.xs.length ∧ Run L i loc1 [] ph1 s ∧ forGo (bindT sc L.target) bodyP (L.xs.drop i) loc1 ph1 = some (fl, loc', phL)
theorem hm {k l : Nat} (i : Nat) (h : i < l) (q : k + i = l) : k - 1 < k ∧ k - 1 + (i + 1) = l := by
  have p : 0 < k := Nat.pos_of_ne_zero fun z => Nat.lt_irrefl i (by rw [z, Nat.zero_add] at q; exact q ▸ h)
  exact ⟨Nat.sub_lt p Nat.one_pos, by rw [Nat.add_comm i 1, ← Nat.add_assoc, Nat.sub_add_cancel p, q]⟩
theorem forGo_ok (hA : A.handled = none) {bodyP : Loc → List PO → SRes} {target : Expr} {xs : List PV} {nl : Option Nat} {It : Value} {s0 : Shared} (bd : ∀ {loc loc' ph ph' fl s g}, bodyP loc ph = some (fl, loc', ph') → Inv S s.heap s.toks g ph → Frm S s.heap g env sc loc X → wpAny (MS S) A (execs body env) (PstF S s g ph env sc X fl loc' ph') NoE s)
    (Rd : Ready S env sc X s g ph loc [] target xs nl X none It s0) (e : forGo (bindT sc target) bodyP xs loc (lockP nl ph) = some (fl, loc', phL)) (u : unlockP nl xs phL = some ph') :
    codeAny (MS S) A (.forLoop target It body [] env) (fun q s' => ∃ f, q = .ok f ∧ PstF S s g ph env sc X fl loc' ph' f s') s0 := by
  obtain ⟨L, rfl, rfl, rfl, hD, hY, R, fin⟩ := Rd
  have a0 : ∀ {h : Heap} {g : Gh}, ∀ D, L.D = some D → AccAt S h g D [] := fun D h => nos (hD.symm.trans h)
  refine for_loop (I := FInv L bodyP fl loc' phL) (k := L.xs.length) (fun k s1 p1 => ?_) ⟨0, loc, lockP nl ph, rfl, R, e⟩
  obtain ⟨i, loc1, ph1, hk, R1, e1⟩ := p1
  cases hx : L.xs[i]? with
  | none =>
    have hi : i = L.xs.length := Nat.le_antisymm (hk ▸ Nat.le_add_left _ _) (List.getElem?_eq_none_iff.mp hx)
    subst hi
    rw [List.drop_length] at e1
    exact .inr (R1.done hA fun I1 T1 m1 F1 j9 kp ht => sp3 e1 fun q1 q2 q3 => by
      subst q1; subst q2; subst q3
      obtain ⟨g', I', T', m', F', _, M'⟩ := fin I1 T1 m1 F1 a0 kp ht u
      exact ⟨g', I', hY ▸ T', m', F', trivial⟩)
  | some x =>
    obtain ⟨hlt, rfl⟩ := List.getElem?_eq_some_iff.mp hx
    rw [List.drop_eq_getElem_cons hlt] at e1
    refine .inl (iLoc e1 fun loc2 hb e1 => R1.turn hA hx hb fun s3 R3 => ?_)
    obtain ⟨g3, I3, T3, m3, F3, _, st3⟩ := R3
    have fin' : ∀ {f : Flow} {s4 : Shared} {g4 : Gh}, Inv S s4.heap s4.toks g4 phL → Step S X s3.heap g3 ph1 s4.heap g4 phL → Same s3 s4 → Frm S s4.heap g4 env sc loc' X → (∀ {h' g'}, Mono S s4.heap g4 h' g' → FlR S h' g' fl f) → PstF S s g ph env sc X fl loc' ph' f s4 := fun {f s4 g4} I4 T4 m4 F4 hf => by
      obtain ⟨g', I', T', m', F', _, M'⟩ := fin (h' := s4.heap) (tk := s4.toks) I4 (T3.trans (T4.sub (fun b hb => List.mem_append.mpr (.inr (L.XY b hb))) (fun b hb => T3.xi ▸ L.sub b hb) I3 I4) I3) (m3.trans m4) F4 a0 (fun j9 j9 j9 e => e) (Nat.le_refl _) u
      exact ⟨g', I', hY ▸ T', m', F', hf M'⟩
    exact iG e1 (fun loc4 ph4 e4 e1 => wpAny_mono (bd e4 I3 F3) (fun f s4 q => PstF.casesOn q fun g4 I4 T4 m4 F4 hf => wnext_next (m := k - 1) hf (hm i hlt hk).1 ⟨i + 1, loc4, ph4, (hm i hlt hk).2, L.go I3 T3 m3 st3 I4 (T4.sub L.XY (fun b hb => L.inY hb T3) I3 I4) m4 F4 a0, e1⟩) fun j9 j9 z => z)
      (fun hfl e4 => wpAny_mono (bd e4 I3 F3) (fun f s4 q => PstF.casesOn q fun g4 I4 T4 m4 F4 hf => wnext_brk hf (fin' I4 T4 m4 F4 fun j9 => by subst hfl; trivial)) fun j9 j9 z => z)
      fun v hfl e4 => wpAny_mono (bd e4 I3 F3) (fun f s4 q => PstF.casesOn q fun g4 I4 T4 m4 F4 hf => wnext_ret hf fun x rx => fin' I4 T4 m4 F4 fun M => by subst hfl; exact rx.mono M) fun j9 j9 z => z
end
end Mine.Internal
end
section
open PySem PySem.W PyProof.Rows PySem.Calls
namespace Mine.Internal
structure ZD where
  it : Addr
  fp : List Addr
  xs : List PV
  P : Nat → Value → Prop
  St : Nat → Heap → Prop
noncomputable abbrev IsTup (h : Heap) (T : Addr) (vs : List Value) : Prop := h.get? T = some (seqO "tuple" vs 0)
noncomputable abbrev itR (d : ZD) : Value := .ref d.it
noncomputable def ZV (k : Nat) : List ZD → List Value → Prop
  | [], vs => vs = []
  | d :: ds, vs => ∃ v us, vs = v :: us ∧ d.P k v ∧ ZV k ds us
theorem ZV.len {k : Nat} : ∀ {ds : List ZD} {vs}, ZV k ds vs → vs.length = ds.length
  | [], vs, h => by rw [show vs = [] from h]; rfl
  | d :: ds, vs, ⟨v, us, e, _, h⟩ => by rw [e]; exact congrArg (· + 1) h.len
theorem ZV.snoc {k : Nat} {d : ZD} {x : Value} (hx : d.P k x) : ∀ {ds : List ZD} {vs}, ZV k ds vs → ZV k (ds ++ [d]) (vs ++ [x])
  | [], vs, h => by rw [show vs = [] from h]; exact ⟨x, [], rfl, hx, rfl⟩
  | c :: ds, vs, ⟨v, us, e, p, h⟩ => by rw [e]; exact ⟨v, us ++ [x], rfl, p, h.snoc hx⟩
section
variable {S : Stc} {A : Around} {s : Shared}
theorem updateSeq_tup {T : Addr} {us ws : List Value} {a x : Value} {Q : Unit → Shared → Prop} {E : Value → Shared → Prop} (hT : IsTup s.heap T (us ++ a :: ws))
    (h : ∀ h', IsTup h' T (us ++ x :: ws) → Heap.SameBut T s.heap h' → Q () { s with heap := h' }) (hb : (us ++ a :: ws).length ≤ 1000) :
    wpAny (MS S) A (updateSeq T (·.setIfInBounds us.length x)) Q E s := by
  have e : sizeLine = 16777216 := sizeLine_eq
  have q : (us ++ a :: ws).toArray.setIfInBounds us.length x = (us ++ x :: ws).toArray := by simp
  refine wpAny_updateSeq hT rfl (hz := by rw [List.size_toArray]; omega) (_hz' := by rw [Array.size_setIfInBounds, List.size_toArray]; omega) (h _ ?_ (Heap.SameBut.update ..))
  show Heap.get? _ T = _
  rw [Heap.get?_update_self _ hT rfl]
  simp only [Obj.mapSeq, q]
  rw [if_pos (by simp)]
structure ZSt (ds : List ZD) (k : Nat) (z TI TO : Addr) (hp : Heap) (done rem : List ZD) (h : Heap) : Prop where
  zz : IsZip h z TI TO .ellipsis
  to : ∃ vs js, IsTup h TO (vs ++ js) ∧ js.length = rem.length ∧ ZV k done vs
  dn : ∀ d ∈ done, d.St (k + 1) h ∧ k < d.xs.length
  rm : ∀ d ∈ rem, d.St k h
  kp : ∀ c o, c ∉ z :: TO :: ds.map ZD.it → hp.get? c = some o → h.get? c = some o
  sz : h.objs.size = hp.objs.size
structure ZAp (S : Stc) (A : Around) (z TI TO : Addr) (ds : List ZD) : Prop where
  dr : ∀ d ∈ ds, Draws S.prog S.w A d.it d.fp d.xs.length d.P d.St
  fr : ∀ d ∈ ds, ∀ b ∈ z :: TO :: ds.map ZD.it, b ≠ d.it → b ∉ d.fp
  nd : (z :: TI :: TO :: ds.map ZD.it).Nodup
  ln : ds.length ≤ 1000
theorem ZAp.z_ne {z TI TO ds} (a : ZAp S A z TI TO ds) : z ≠ TI ∧ z ≠ TO ∧ (∀ d ∈ ds, z ≠ d.it) ∧ TI ≠ TO ∧ (∀ d ∈ ds, TI ≠ d.it) ∧ (∀ d ∈ ds, TO ≠ d.it) ∧ (ds.map ZD.it).Nodup := by
  have := a.nd
  simp only [List.nodup_cons, List.mem_cons, not_or] at this
  obtain ⟨⟨h1, h2, h3⟩, ⟨h4, h5⟩, h6, h7⟩ := this
  exact ⟨h1, h2, fun d m q => h3 (q ▸ List.mem_map_of_mem m), h4, fun d m q => h5 (q ▸ List.mem_map_of_mem m), fun d m q => h6 (q ▸ List.mem_map_of_mem m), h7⟩
theorem zn_step {ds done rem : List ZD} {d : ZD} {k : Nat} {z TI TO : Addr} {hp h p q : Heap} {x : Value} (a : ZAp S A z TI TO ds) (e : ds = done ++ d :: rem) (Z : ZSt ds k z TI TO hp done (d :: rem) h) (hk : k < d.xs.length)
    (hx : d.P k x) (w1 : d.St (k + 1) p) (ss : Heap.SameBut d.it h p) {vs js : List Value} (hv : ZV k done vs) (hj : js.length = rem.length) (hT : IsTup q TO (vs ++ x :: js)) (sb : Heap.SameBut TO p q) : ZSt ds k z TI TO hp (done ++ [d]) rem q := by
  obtain ⟨n1, n2, n3, n4, n5, n6, n7⟩ := a.z_ne
  have md : d ∈ ds := e ▸ List.mem_append_right _ List.mem_cons_self
  have dif : ∀ c ∈ done ++ rem, d.it ≠ c.it := by
    rw [e, List.map_append, List.map_cons, List.nodup_append] at n7
    intro c m q
    rcases List.mem_append.mp m with m | m
    · exact n7.2.2 _ (List.mem_map_of_mem m) _ List.mem_cons_self q.symm
    · exact (List.nodup_cons.mp n7.2.1).1 (q ▸ List.mem_map_of_mem m)
  have mc : ∀ c ∈ done ++ rem, c ∈ ds := fun c m => by
    rw [e]; rcases List.mem_append.mp m with m | m
    · exact List.mem_append_left _ m
    · exact List.mem_append_right _ (List.mem_cons_of_mem _ m)
  have up : ∀ c o, c ≠ d.it → c ≠ TO → h.get? c = some o → q.get? c = some o := fun c o c1 c2 x => sb.extBut _ _ c2 (ss.extBut _ _ c1 x)
  have fr : ∀ c ∈ done ++ rem, ∀ b ∈ c.fp, ∀ o, h.get? b = some o → q.get? b = some o := fun c m b hb o => up b o (fun q => a.fr c (mc c m) _ (by simp only [List.mem_cons]; exact .inr (.inr (List.mem_map_of_mem md))) (dif c m) (q ▸ hb))
    fun q => a.fr c (mc c m) TO (by simp) (n6 c (mc c m)) (q ▸ hb)
  refine ⟨up _ _ (n3 d md) n2 Z.zz, ⟨vs ++ [x], js, by rw [List.append_assoc]; exact hT, hj, hv.snoc hx⟩, fun c m => ?_, fun c m => (a.dr c (mc c (List.mem_append_right _ m))).frame _ _ _ (Z.rm c (List.mem_cons_of_mem _ m)) (fr c (List.mem_append_right _ m)), fun c o m x => ?_, by rw [sb.1, ss.1, Z.sz]⟩
  · rcases List.mem_append.mp m with m | m
    · exact ⟨(a.dr c (mc c (List.mem_append_left _ m))).frame _ _ _ (Z.dn c m).1 (fr c (List.mem_append_left _ m)), (Z.dn c m).2⟩
    · rw [List.mem_singleton.mp m]
      exact ⟨(a.dr d md).frame _ _ _ w1 fun b hb o => sb.extBut b o (fun q => a.fr d md TO (by simp) (n6 d md) (q ▸ hb)), hk⟩
  · exact up c o (fun q => m (by simp only [List.mem_cons]; exact .inr (.inr (q ▸ List.mem_map_of_mem md)))) (fun q => m (by simp [q])) (Z.kp c o m x)
theorem zn_next {ds : List ZD} {k : Nat} {z TI TO : Addr} {js : List Value} {Q : Fin → Shared → Prop} {E : Value → Shared → Prop} (a : ZAp S A z TI TO ds) (hne : ds ≠ []) (st : ∀ d ∈ ds, d.St k s.heap) (le : ∀ d ∈ ds, k ≤ d.xs.length)
    (hz : IsZip s.heap z TI TO .none) (hTI : IsTup s.heap TI (ds.map itR)) (hTO : IsTup s.heap TO js) (hj : js.length = ds.length)
    (hQ : ∀ vs h' tk, ZV k ds vs → (∀ d ∈ ds, d.St (k + 1) h' ∧ k < d.xs.length) → IsZip h' z TI TO (rawInt s.heap.objs.size) → IsTup h' TO vs → IsTup h' s.heap.objs.size vs →
      (∀ c o, c ∉ z :: TO :: ds.map ZD.it → s.heap.get? c = some o → h'.get? c = some o) → Q (.done (.ret (.ref s.heap.objs.size))) { s with heap := h', toks := tk })
    (hE : ∀ h' tk e, (∃ d ∈ ds, k = d.xs.length) → (∀ c o, c ∉ z :: TO :: ds.map ZD.it → s.heap.get? c = some o → h'.get? c = some o) → (∃ o, h'.get? e = some o ∧ o.cls = .type "StopIteration") → E (.ref e) { s with heap := h', toks := tk }) :
    wpAny (MS S) A (Builtin.«zip.__next__» ⟨[.ref z], []⟩) Q E s := by
  obtain ⟨hp, gg, dd, tk0, os⟩ := s
  obtain ⟨n1, n2, n3, n4, n5, n6, n7⟩ := a.z_ne
  show wpAny _ _ (field (.ref z) 2 >>= _) _ _ _
  refine wpAny_bind (wpAny_field hz rfl (x := .bool false) rfl ?_)
  show wpAny _ _ (field (.ref z) 3 >>= _) _ _ _
  refine wpAny_bind (wpAny_field hz rfl (x := .ref TI) rfl ?_)
  refine wpAny_bind (wpAny_seqItems hTI rfl ?_)
  have hi : (ds.map itR).toArray.isEmpty = false := by
    cases ds with
    | nil => exact absurd rfl hne
    | cons d ds => rfl
  dsimp only
  rw [hi]
  simp only [Bool.false_eq_true, if_false]
  show wpAny _ _ (Builtin.SmallTypes.ownedTupleIsFree (.ref z) >>= _) _ _ _
  refine wpAny_bind ?_
  unfold Builtin.SmallTypes.ownedTupleIsFree
  refine wpAny_bind (wpAny_field hz rfl (x := .none) rfl (wpAny_pure ?_))
  simp only [if_true]
  refine wpAny_bind (wpAny_rule ?_)
  refine wpAny_bind (wpAny_field hz rfl (x := .ref TO) rfl ?_)
  refine wpAny_bind (wpAny_setField_rec hz (by simp) fun h₀ hz₀ hs₀ => ?_)
  replace hz₀ : IsZip h₀ z TI TO .ellipsis := hz₀
  replace hs₀ : Heap.SameBut z hp h₀ := hs₀
  refine wpAny_bind ?_
  refine wpAny_forIn_list _ (fun rest b s' => b.1 = none ∧ ∃ done rem h tk, ds = done ++ rem ∧ rest = (rem.map itR).zipIdx done.length ∧ s' = ⟨h, gg, dd, tk, os⟩ ∧ ZSt ds k z TI TO hp done rem h) _ ?_ ?_ _ _ ⟨rfl, [], ds, h₀, _, rfl, rfl, rfl, hz₀, ⟨[], js, hs₀.extBut _ _ (Ne.symm n2) hTO, hj, rfl⟩, (fun d m => nomatch m), fun d m => (a.dr d m).frame _ _ _ (st d m) fun b hb o e => hs₀.extBut b o (fun q => a.fr d m z (by simp) (n3 d m) (q ▸ hb)) e, fun c o m e => hs₀.extBut c o (fun q => m (by simp [q])) e, hs₀.1⟩
  · rintro x rest b s' ⟨hb, done, rem, h, tk, e, er, rfl, Z⟩
    cases rem with
    | nil => cases er
    | cons d rem =>
      rw [List.map_cons, List.zipIdx_cons] at er
      obtain ⟨rfl, rfl⟩ := List.cons.inj er
      have md : d ∈ ds := e ▸ List.mem_append_right _ List.mem_cons_self
      obtain ⟨vs, js', hT, hjl, hv⟩ := Z.to
      cases js' with
      | nil => cases hjl
      | cons j0 js' =>
        dsimp only
        refine wpAny_bind (wpAny_onRaise ?_)
        show wpAny _ _ (Builtin.SmallTypes.nextOf (.ref d.it) >>= _) _ _ _
        rcases Nat.eq_or_lt_of_le (le d md) with l1 | l1
        · refine wpAny_bind ((a.dr d md).done _ _ _ (l1 ▸ Z.rm d List.mem_cons_self) fun g₁ e1 hx he => ?_)
          replace hx : Heap.ExtBut d.it h g₁ := hx
          obtain ⟨oe, hoe, hce⟩ := he
          have hzg : IsZip g₁ z TI TO .ellipsis := hx _ _ (n3 d md) Z.zz
          have hez : e1 ≠ z := fun q => by subst q; rw [hzg] at hoe; cases hoe; simp at hce
          refine wpAny_setField_rec hzg (by simp) fun g₂ j9 hs₂ => hE g₂ _ e1 ⟨d, md, l1⟩ (fun c o hc x => ?_) ⟨oe, hs₂.extBut _ _ hez hoe, hce⟩
          exact hs₂.extBut _ _ (fun q => hc (by simp [q])) (hx _ _ (fun q => hc (by simp only [List.mem_cons]; exact .inr (.inr (q ▸ List.mem_map_of_mem md)))) (Z.kp c o hc x))
        · refine wpAny_bind ((a.dr d md).item k _ _ _ l1 (Z.rm d List.mem_cons_self) fun x1 p1 tk1 hP1 w1 ss1 => wpAny_pure ?_)
          replace ss1 : Heap.SameBut d.it h p1 := ss1
          have hT1 : IsTup p1 TO _ := ss1.extBut _ _ (n6 d md) hT
          refine wpAny_bind (wpAny_seqItems hT1 rfl ?_)
          have hl : done.length = vs.length := hv.len.symm
          dsimp only
          rw [hl]
          refine wpAny_bind (updateSeq_tup (us := vs) (a := j0) (ws := js') hT1 (fun q1 hT1b sb1 => ?_) ?_)
          · refine wpAny_bind (wpAny_letGo (wpAny_pure ⟨rfl, done ++ [d], rem, q1, _, by rw [e, List.append_assoc]; rfl, by rw [List.length_append, hl]; rfl, rfl, ?_⟩))
            exact zn_step a e Z l1 hP1 w1 ss1 hv (Nat.succ.inj hjl) hT1b sb1
          · have := a.ln
            rw [e] at this
            simp only [List.length_append, List.length_cons] at this hjl ⊢
            rw [← hl]; omega
  · rintro b s' ⟨hb, done, rem, h, tk, e, er, rfl, Z⟩
    have hr : rem = [] := by
      cases rem with
      | nil => rfl
      | cons d rem => cases er
    subst hr
    rw [List.append_nil] at e
    subst e
    obtain ⟨vs, js', hT, hjl, hv⟩ := Z.to
    cases js' with
    | cons j0 js' => cases hjl
    | nil =>
      rw [List.append_nil] at hT
      obtain ⟨b1, b2⟩ := b
      subst hb
      dsimp only
      refine wpAny_bind (wpAny_seqItems hT rfl ?_)
      show wpAny _ _ (newTuple vs >>= _) _ _ _
      refine wpAny_bind (wpAny_newTuple ?_ ?_)
      · show wpAny _ _ (Builtin.SmallTypes.ownedTupleHandOut (.ref z) (.ref h.objs.size) >>= _) _ _ _
        refine wpAny_bind ?_
        unfold Builtin.SmallTypes.ownedTupleHandOut
        have hz6 : IsZip (h.push { cls := .type "tuple", data := .seq vs.toArray }) z TI TO .ellipsis := Heap.get?_push_of_some _ Z.zz
        refine wpAny_bind (wpAny_setField_rec hz6 (by simp) fun h₇ hz₇ hs₇ => ?_)
        replace hz₇ : IsZip h₇ z TI TO (rawInt h.objs.size) := hz₇
        refine wpAny_setField_rec hz₇ (by simp) fun h₈ hz₈ hs₈ => ?_
        replace hz₈ : IsZip h₈ z TI TO (rawInt h.objs.size) := hz₈
        have up : ∀ c o, c ≠ z → h.get? c = some o → h₈.get? c = some o := fun c o c1 e => hs₈.extBut _ _ c1 (hs₇.extBut _ _ c1 (Heap.get?_push_of_some _ e))
        have hzlt : h.objs.size ≠ z := fun q => Nat.lt_irrefl _ (q ▸ Heap.lt_size Z.zz)
        have hT₈ : IsTup h₈ h.objs.size vs := hs₈.extBut _ _ hzlt (hs₇.extBut _ _ hzlt (Heap.get?_push_size _ rfl))
        refine wpAny_pure ?_
        show Q (.done (.ret (.ref h.objs.size))) _
        rw [Z.sz] at hz₈ hT₈ ⊢
        exact hQ vs h₈ _ hv (fun d m => ⟨(a.dr d m).frame _ _ _ (Z.dn d m).1 fun b hb o e => up b o (fun q => a.fr d m z (by simp) (n3 d m) (q ▸ hb)) e, (Z.dn d m).2⟩) hz₈ (up _ _ (Ne.symm n2) hT) hT₈ fun c o hc x => up c o (fun q => hc (by simp [q])) (Z.kp c o hc x)
      · have e1 : sizeLine = 16777216 := sizeLine_eq
        have := a.ln
        rw [hv.len, e1]; omega
end
section
variable {S : Stc}
noncomputable def ZA (i : Nat) : List (List PV) → List PV → Prop
  | [], ps => ps = []
  | l :: ls, ps => ∃ x us, ps = x :: us ∧ l[i]? = some x ∧ ZA i ls us
theorem zipL_get {i : Nat} : ∀ {ls : List (List PV)} {ps : List PV}, (zipL ls)[i]? = some ps → ZA i ls ps
  | [], ps, h => nomatch h
  | [a], ps, h => by
    rw [show zipL [a] = a.map fun x => [x] from rfl, List.getElem?_map] at h
    obtain ⟨x, h1, h2⟩ := Option.map_eq_some_iff.mp h
    exact ⟨x, [], h2.symm, h1, rfl⟩
  | a :: b :: ls, ps, h => by
    rw [show zipL (a :: b :: ls) = List.zipWith List.cons a (zipL (b :: ls)) from rfl, List.getElem?_zipWith_eq_some] at h
    obtain ⟨x, us, h1, h2, h3⟩ := h
    exact ⟨x, us, h3.symm, h1, zipL_get h2⟩
theorem zipL_le : ∀ {ls : List (List PV)}, ∀ l ∈ ls, (zipL ls).length ≤ l.length
  | [a], l, h => by rw [List.mem_singleton.mp h, show zipL [a] = a.map fun x => [x] from rfl, List.length_map]; exact Nat.le_refl _
  | a :: b :: ls, l, h => by
    rw [show zipL (a :: b :: ls) = List.zipWith List.cons a (zipL (b :: ls)) from rfl, List.length_zipWith]
    rcases List.mem_cons.mp h with h | h
    · rw [h]; exact Nat.min_le_left _ _
    · exact Nat.le_trans (Nat.min_le_right _ _) (zipL_le l h)
theorem zipL_some : ∀ {ls : List (List PV)}, ls ≠ [] → ∃ l ∈ ls, (zipL ls).length = l.length
  | [], h => absurd rfl h
  | [a], _ => ⟨a, List.mem_singleton_self _, by rw [show zipL [a] = a.map fun x => [x] from rfl, List.length_map]⟩
  | a :: b :: ls, _ => by
    obtain ⟨l, hl, e⟩ := zipL_some (ls := b :: ls) (by simp)
    rw [show zipL (a :: b :: ls) = List.zipWith List.cons a (zipL (b :: ls)) from rfl, List.length_zipWith, e]
    by_cases q : a.length ≤ l.length
    · exact ⟨a, List.mem_cons_self, Nat.min_eq_left q⟩
    · exact ⟨l, List.mem_cons_of_mem _ hl, Nat.min_eq_right (Nat.le_of_not_le q)⟩
noncomputable def ZVal (S : Stc) (h0 : Heap) (g0 : Gh) (d : ZD) : Prop := ∀ i v x, d.P i v → d.xs[i]? = some x → ∀ h g, Mono S h0 g0 h g → VR S h g x v
theorem zv_vrs {h0 : Heap} {g0 : Gh} {h : Heap} {g : Gh} {k : Nat} (M : Mono S h0 g0 h g) : ∀ {ds : List ZD} {vs ps}, (∀ d ∈ ds, ZVal S h0 g0 d) → ZV k ds vs → ZA k (ds.map ZD.xs) ps → VRs S h g ps vs
  | [], vs, ps, _, h1, h2 => by rw [show vs = [] from h1, show ps = [] from h2]; exact .nil
  | d :: ds, vs, ps, hd, ⟨v, us, e1, hv, h1⟩, ⟨x, qs, e2, hx, h2⟩ => by
    rw [e1, e2]; exact .cons (hd d List.mem_cons_self k v x hv hx _ _ M) (zv_vrs M (fun c m => hd c (List.mem_cons_of_mem _ m)) h1 h2)
theorem zn_turns {h0 : Heap} {g0 : Gh} {elts : List Expr} {tk : Nat} {tp : Pos} {z TI TO : Addr} {ds : List ZD} (a : ∀ A : Around, A.handled = none → ZAp S A z TI TO ds) (hne : ds ≠ []) (V : ∀ d ∈ ds, ZVal S h0 g0 d) :
    Turns S h0 g0 (.Tuple elts tk tp) z (z :: TI :: TO :: ds.flatMap ZD.fp) (z :: TI :: TO :: ds.map ZD.it) (zipAll (ds.map ZD.xs)) (fun i h => IsZip h z TI TO .none ∧ IsTup h TI (ds.map itR) ∧ (∃ js, IsTup h TO js ∧ js.length = ds.length) ∧ ∀ d ∈ ds, d.St i h) := by
  have a0 := a {} rfl
  obtain ⟨n1, n2, n3, n4, n5, n6, n7⟩ := a0.z_ne
  have hsub : ∀ b, b ∉ z :: TI :: TO :: ds.map ZD.it → b ∉ z :: TO :: ds.map ZD.it := fun b h q => h (by
    rcases List.mem_cons.mp q with q | q
    · rw [q]; exact List.mem_cons_self
    · exact List.mem_cons_of_mem _ (List.mem_cons_of_mem _ q))
  have hTIn : TI ∉ z :: TO :: ds.map ZD.it := fun q => by
    rcases List.mem_cons.mp q with q | q
    · exact n1 q.symm
    · rcases List.mem_cons.mp q with q | q
      · exact n4 q
      · obtain ⟨d, m, q⟩ := List.mem_map.mp q; exact n5 d m q.symm
  have ln : (zipAll (ds.map ZD.xs)).length = (zipL (ds.map ZD.xs)).length := List.length_map _
  refine ⟨fun i h h' ⟨hz, hTI, ⟨js, hTO, hj⟩, st⟩ hk => ⟨hk z (by simp) _ hz, hk TI (by simp) _ hTI, ⟨js, hk TO (by simp) _ hTO, hj⟩, fun d m => (a0.dr d m).frame _ _ _ (st d m) fun b hb o e => hk b (by simp only [List.mem_cons, List.mem_flatMap]; exact .inr (.inr (.inr ⟨d, m, hb⟩))) o e⟩, fun i h ⟨hz, hTI, ⟨js, hTO, hj⟩, st⟩ b hb => ?_, fun {A i s x Q} hA hx ⟨hz, hTI, ⟨js, hTO, hj⟩, st⟩ hQ => ?_, fun {A s Q} hA ⟨hz, hTI, ⟨js, hTO, hj⟩, st⟩ hQ => ?_, fun {A i s Q} hA st hQ => wpAny_pyIter_zip st.1 hQ⟩
  · simp only [List.mem_cons] at hb
    rcases hb with rfl | rfl | rfl | hb
    · exact ⟨_, hz⟩
    · exact ⟨_, hTI⟩
    · exact ⟨_, hTO⟩
    · obtain ⟨d, m, rfl⟩ := List.mem_map.mp hb
      exact (a0.dr d m).live _ _ (st d m)
  · have hl := (List.getElem?_eq_some_iff.mp hx).1
    rw [ln] at hl
    have lt : ∀ d ∈ ds, i < d.xs.length := fun d m => Nat.lt_of_lt_of_le hl (zipL_le _ (List.mem_map_of_mem m))
    obtain ⟨ps, hps, rfl⟩ : ∃ ps, (zipL (ds.map ZD.xs))[i]? = some ps ∧ PV.tup ps = x := by
      rw [zipAll, List.getElem?_map] at hx; exact Option.map_eq_some_iff.mp hx
    have hT : s.TypeIs (.ref z) "zip" := ⟨_, hz, rfl⟩
    unfold pyNext
    refine wpAny_up (wpAny_bind (wpAny_attempt (wpAny_callSpecial?_slot (name := Str.ofString "__next__") hT F.slot_zip_next (wpAny_call_entry F.slot_zip_next hT F.entry_zip_next
      (zn_next (A := A.in1) (a _ (show A.in1.handled = none from hA)) hne st (fun d m => Nat.le_of_lt (lt d m)) hz hTI hTO hj (fun vs h' tk' hv st' hz' hTO' hT' hk => ⟨_, rfl, wpAny_pure fun ht => ⟨_, rfl, ?_⟩⟩)
        fun j9 j9 j9 l => absurd l fun ⟨d, m, l⟩ => Nat.ne_of_lt (lt d m) l) (F.args_zip_next_1 _)))))
    have hnz : s.heap.objs.size ≠ z := fun q => Nat.lt_irrefl _ (q ▸ Heap.lt_size hz)
    refine wpAny_letOwnedTupleGo_zip (s := { s with heap := h', toks := tk' }) hz' fun h'' hz'' hs'' => ?_
    replace hs'' : Heap.SameBut z h' h'' := hs''
    have kp : ∀ b o, b ∉ z :: TI :: TO :: ds.map ZD.it → s.heap.get? b = some o → h''.get? b = some o := fun b o hb e => hs''.extBut b o (fun q => hb (by simp [q])) (hk b o (hsub b hb) e)
    refine hQ _ h'' tk' (fun k g' ph' I' hw M => ?_) ⟨hz'', hs''.extBut _ _ (Ne.symm n1) (hk _ _ hTIn hTI), ⟨_, hs''.extBut _ _ (Ne.symm n2) hTO', hv.len⟩, fun d m => (a0.dr d m).frame _ _ _ (st' d m).1 fun b hb o e => hs''.extBut b o (fun q => a0.fr d m z (by simp) (n3 d m) (q ▸ hb)) e⟩ kp ht
    have fr := I'.fresh (none_size s.heap)
    have M' := xchg_mono (S := S) (g := g') hw kp
    exact .tup (k := 0) (hs''.extBut _ _ hnz hT') ⟨fr.1, fr.2.1, fr.2.2.1⟩ ((zv_vrs M V hv (zipL_get hps)).mono M')
  · have hT : s.TypeIs (.ref z) "zip" := ⟨_, hz, rfl⟩
    unfold pyNext
    have hA' : A.in1.handled = none := hA
    obtain ⟨l, hl, el⟩ := zipL_some (ls := ds.map ZD.xs) (fun q => hne (List.map_eq_nil_iff.mp q))
    obtain ⟨d0, m0, rfl⟩ := List.mem_map.mp hl
    refine wpAny_up (wpAny_bind (wpAny_attempt (wpAny_callSpecial?_slot (name := Str.ofString "__next__") hT F.slot_zip_next (wpAny_call_entry F.slot_zip_next hT F.entry_zip_next (zn_next (a _ hA') hne st (fun d m => ln ▸ zipL_le _ (List.mem_map_of_mem m)) hz hTI hTO hj
      (fun j9 j9 j9 j9 l1 => absurd (l1 d0 m0).2 (by rw [ln, el]; exact Nat.lt_irrefl _)) fun h' tk' e j9 hk he => ?_) (F.args_zip_next_1 _)))))
    obtain ⟨o, ho, hc⟩ := he
    refine wpAny_bind (wpAny_isInstance (T := "StopIteration") (b := true) ⟨o, ho, hc⟩ isSubtype_stop ?_)
    exact wpAny_pure fun ht => ⟨rfl, hQ h' tk' (fun b o hb e => hk b o (hsub b hb) e) ht⟩
end
end Mine.Internal
end
section
open PySem PySem.W PyProof.Rows PySem.Calls
namespace Mine.Internal
noncomputable def IterObj (h : Heap) (v : Value) (o : Obj) : Prop :=
  ∀ (prog : Program) (w : World) (A : Around) (E : Value → Shared → Prop) (s : Shared) (Q : Value → Shared → Prop), s.heap = h → Q (.ref h.objs.size) { s with heap := h.push o } → wpAny (model prog w) A (pyIter v) Q E s
section
variable {S : Stc} {h : Heap} {g : Gh}
structure SrcD (S : Stc) (h : Heap) (g : Gh) (xs : List PV) (v : Value) (o : Obj) : Prop where
  fr : o.isFreed = false
  it : ∀ h', (∀ b ob, h.get? b = some ob → h'.get? b = some ob) → IterObj h' v o
  dr : ∀ it, h.get? it = none → ∃ fp P St, (∀ A : Around, A.handled = none → Draws S.prog S.w A it fp xs.length P St) ∧ (∀ (i : Nat) v x, P i v → xs[i]? = some x → ∀ h0 g0, Mono S h g h0 g0 → VR S h0 g0 x v) ∧
    (∀ h', h'.get? it = some o → (∀ b ob, h.get? b = some ob → h'.get? b = some ob) → St 0 h') ∧ (∀ b ∈ fp, b = it ∨ (Fz S g b ∧ ∃ ob, h.get? b = some ob))
theorem srcD_str (x : Str) (t : Tok) : ∃ o, SrcD S h g (x.cps.toList.map fun c => .str ⟨#[c]⟩) (.str x t) o := by
  have hlen : (x.cps.toList.map fun c => PV.str ⟨#[c]⟩).length = x.cps.size := by simp
  have val : ∀ (i : Nat) (v : Value) (y : PV), (∃ c u, x.cps[i]? = some c ∧ v = .str ⟨#[c]⟩ u) → (x.cps.toList.map fun c => PV.str ⟨#[c]⟩)[i]? = some y → ∀ h g, VR S h g y v := by
    intro i v y ⟨c, u, e1, e2⟩ e3 h g
    rw [List.getElem?_map, Array.getElem?_toList, e1] at e3
    rw [e2]; exact Option.some.inj e3 ▸ .str _ _
  cases ha : x.cps.all (· < 128)
  · refine ⟨{ cls := .type "str_iterator", data := .fields #[.str x t, .int 0 0] }, rfl, fun h' j9 prog w A E s Q e q => by subst e; exact wpAny_pyIter_wide ha q, fun it hn => ⟨[it], fun i v => ∃ c u, x.cps[i]? = some c ∧ v = .str ⟨#[c]⟩ u, fun i h => h.IsStrIter it "str_iterator" x t i, fun A hA => by rw [hlen]; exact Draws.strWide hA it x t, fun i v y hP hx h0 g0 j9 => val i v y hP hx _ _, fun h' q j9 => ⟨_, q, rfl, rfl⟩, fun b hb => .inl (List.mem_singleton.mp hb)⟩⟩
  · refine ⟨{ cls := .type "str_ascii_iterator", data := .fields #[.str x t, .int 0 0] }, rfl, fun h' j9 prog w A E s Q e q => by subst e; exact wpAny_pyIter_ascii ha q, fun it hn => ⟨[it], fun i v => ∃ c u, x.cps[i]? = some c ∧ v = .str ⟨#[c]⟩ u, fun i h => h.IsStrIter it "str_ascii_iterator" x t i, fun A hA => by rw [hlen]; exact Draws.strAscii hA it x t, fun i v y hP hx h0 g0 j9 => val i v y hP hx _ _, fun h' q j9 => ⟨_, q, rfl, rfl⟩, fun b hb => .inl (List.mem_singleton.mp hb)⟩⟩
theorem srcD_list {l : Addr} {xs : List PV} {vs : List Value} {k : Nat} (h1 : h.get? l = some (seqO "list" vs k)) (hf : Fz S g l) (h2 : VRs S h g xs vs) : SrcD S h g xs (.ref l) { cls := .type "list_iterator", data := .fields #[.ref l, .int 0 0] } := by
  have il : ∀ h' : Heap, (∀ b ob, h.get? b = some ob → h'.get? b = some ob) → h'.IsList l vs.toArray := fun h' kp => ⟨_, kp _ _ h1, rfl, _, rfl⟩
  have hlen : xs.length = vs.toArray.size := by rw [List.size_toArray, h2.length]
  refine ⟨rfl, fun h' kp prog w A E s Q e q => by subst e; exact wpAny_pyIter_list (il _ kp) q, fun it hn => ⟨[it, l], fun i v => vs.toArray[i]? = some v, fun i h => h.IsListIter it l i ∧ h.IsList l vs.toArray, fun A hA => by rw [hlen]; exact Draws.list hA it l (fun q => by rw [q, hn] at h1; exact nos h1) vs.toArray, fun i v y hP hx h0 g0 M => ?_, fun h' q kp => ⟨⟨_, q, rfl, rfl⟩, il _ kp⟩, fun b hb => ?_⟩⟩
  · obtain ⟨y', e1, r⟩ := h2.get' (i := i) (v := v) (by simpa using hP)
    rw [e1] at hx
    exact Option.some.inj hx ▸ r.mono M
  · rcases List.mem_cons.mp hb with q | q
    · exact .inl q
    · rw [List.mem_singleton.mp q]; exact .inr ⟨hf, _, h1⟩
theorem asLst_eq {w : PV} {xs : List PV} (h : asLst w = some xs) : w = .lst xs := by
  cases w
  case lst => exact congrArg _ (Option.some.inj h)
  all_goals exact nos h
theorem srcD_of {pv : PV} {v : Value} {xs : List PV} (r : VR S h g pv v) (e : frozenItems pv = some xs) : ∃ o, SrcD S h g xs v o :=
  oS e (fun x hx e => sp1 e fun q => q ▸ eS (motive := fun v => ∃ o, SrcD S h g _ v o) hx r fun t => srcD_str x t) fun j9 e => by
    have q := asLst_eq e
    subst q
    exact r.eLst fun a vs k q h1 hf h2 => q ▸ ⟨_, srcD_list h1 hf h2⟩
end
section
noncomputable def SrcDs (S : Stc) (h : Heap) (g : Gh) : List (List PV) → List Value → List Obj → Prop
  | [], vs, os => vs = [] ∧ os = []
  | l :: ls, vs, os => ∃ v us o ps, vs = v :: us ∧ os = o :: ps ∧ SrcD S h g l v o ∧ SrcDs S h g ls us ps
theorem srcDs_of {S : Stc} {h : Heap} {g : Gh} : ∀ {pvs : List PV} {vs : List Value} {ls : List (List PV)}, VRs S h g pvs vs → mapO frozenItems pvs = some ls → ∃ os, SrcDs S h g ls vs os
  | [], vs, ls, r, e => r.eNil fun q => sp1 e fun q' => q' ▸ q ▸ ⟨[], rfl, rfl⟩
  | x :: pvs, vs, ls, r, e => r.eCons fun v us q r1 r2 => by
    unfold mapO at e
    cases hl : frozenItems x with
    | none => rw [hl] at e; exact nos e
    | some l =>
      cases hls : mapO frozenItems pvs with
      | none => rw [hl, hls] at e; exact nos e
      | some ls' =>
        rw [hl, hls] at e
        obtain ⟨o, ho⟩ := srcD_of r1 hl
        obtain ⟨os, hos⟩ := srcDs_of r2 hls
        exact ⟨o :: os, by rw [← Option.some.inj e, ← q]; exact ⟨_, _, _, _, rfl, rfl, ho, hos⟩⟩
noncomputable def pushAll (h : Heap) (os : List Obj) : Heap := os.foldl Heap.push h
theorem pushAll_keep {b : Addr} {ob : Obj} : ∀ {os : List Obj} {h : Heap}, h.get? b = some ob → (pushAll h os).get? b = some ob
  | [], _, e => e
  | o :: os, h, e => pushAll_keep (os := os) (Heap.get?_push_of_some _ e)
theorem pushAll_size : ∀ {os : List Obj} {h : Heap}, (pushAll h os).objs.size = h.objs.size + os.length
  | [], _ => rfl
  | o :: os, h => by
    show (pushAll (h.push o) os).objs.size = _
    rw [pushAll_size, Heap.size_push, List.length_cons]; omega
theorem pushAll_get {o : Obj} : ∀ (os : List Obj) (h : Heap) (i : Nat), (∀ o ∈ os, o.isFreed = false) → os[i]? = some o → (pushAll h os).get? (h.objs.size + i) = some o := by
  intro os
  induction os with
  | nil => intro h i hf e; rw [List.getElem?_nil] at e; exact nos e
  | cons c os ih =>
    intro h i hf e
    show (pushAll (h.push c) os).get? _ = _
    cases i with
    | zero =>
      rw [List.getElem?_cons_zero] at e
      rw [← Option.some.inj e]
      exact pushAll_keep (Heap.get?_push_size _ (hf c List.mem_cons_self))
    | succ i =>
      rw [List.getElem?_cons_succ] at e
      have := ih (h.push c) i (fun o m => hf o (List.mem_cons_of_mem _ m)) e
      rw [Heap.size_push, Nat.add_assoc, Nat.add_comm 1 i] at this
      exact this
theorem SrcDs.free {S : Stc} {h : Heap} {g : Gh} : ∀ {ls : List (List PV)} {vs os}, SrcDs S h g ls vs os → (∀ o ∈ os, o.isFreed = false) ∧ vs.length = ls.length ∧ os.length = ls.length
  | [], vs, os, ⟨e1, e2⟩ => by rw [e1, e2]; exact ⟨fun o m => (List.not_mem_nil m).elim, rfl, rfl⟩
  | l :: ls, vs, os, ⟨v, us, o, ps, e1, e2, h1, h2⟩ => by
    obtain ⟨a, b, c⟩ := h2.free
    rw [e1, e2]
    exact ⟨fun o m => (List.mem_cons.mp m).elim (fun q => q ▸ h1.fr) (a o), congrArg (· + 1) b, congrArg (· + 1) c⟩
theorem zds_of {S : Stc} {h : Heap} {g : Gh} : ∀ {ls : List (List PV)} {vs os} (j : Nat), SrcDs S h g ls vs os → ∃ ds : List ZD, ds.map ZD.xs = ls ∧ ds.map ZD.it = List.range' (h.objs.size + j) ls.length ∧
    (∀ d ∈ ds, (∀ A : Around, A.handled = none → Draws S.prog S.w A d.it d.fp d.xs.length d.P d.St) ∧ ZVal S h g d ∧ ∀ b ∈ d.fp, b = d.it ∨ (Fz S g b ∧ ∃ ob, h.get? b = some ob)) ∧
    ∀ h', (∀ (i : Nat) o, os[i]? = some o → h'.get? (h.objs.size + j + i) = some o) → (∀ b ob, h.get? b = some ob → h'.get? b = some ob) → ∀ d ∈ ds, d.St 0 h'
  | [], vs, os, j, ⟨e1, e2⟩ => ⟨[], rfl, rfl, fun d m => (nomatch m), fun j9 j9 j9 d m => nomatch m⟩
  | l :: ls, vs, os, j, ⟨v, us, o, ps, e1, e2, h1, h2⟩ => by
    obtain ⟨ds, q1, q2, q3, q4⟩ := zds_of (j + 1) h2
    obtain ⟨fp, P, St, r1, r2, r3, r4⟩ := h1.dr (h.objs.size + j) (by
      cases q : h.get? (h.objs.size + j) with
      | none => rfl
      | some o => exact absurd (Heap.lt_size q) (Nat.not_lt.mpr (Nat.le_add_right _ _)))
    refine ⟨⟨h.objs.size + j, fp, l, P, St⟩ :: ds, by rw [List.map_cons, q1], by rw [List.map_cons, q2, List.length_cons, List.range'_succ]; rfl, fun d m => ?_, fun h' a b d m => ?_⟩
    · rcases List.mem_cons.mp m with m | m
      · rw [m]; exact ⟨r1, r2, r4⟩
      · exact q3 d m
    · rcases List.mem_cons.mp m with m | m
      · rw [m]; exact r3 h' (a 0 o (by rw [e2]; rfl)) b
      · exact q4 h' (fun i o ho => by rw [show h.objs.size + (j + 1) + i = h.objs.size + j + (i + 1) by omega]; exact a (i + 1) o (by rw [e2]; exact ho)) b d m
end
section
noncomputable abbrev tupO (vs : List Value) : Obj := seqO "tuple" vs 0
noncomputable abbrev zipO (TI TO : Addr) : Obj := { cls := .type "zip", data := .fields #[.none, .bool false, .bool false, .ref TI, .ref TO] }
noncomputable def itsAt (a n : Nat) : List Value := (List.range' a n).map .ref
noncomputable abbrev zh1 (h : Heap) (os : List Obj) : Heap := (pushAll h os).push (tupO (itsAt h.objs.size os.length))
noncomputable abbrev zh2 (h : Heap) (os : List Obj) : Heap := (zh1 h os).push (tupO ((itsAt h.objs.size os.length).map fun j9 => .none))
noncomputable abbrev zh3 (h : Heap) (os : List Obj) : Heap := (zh2 h os).push (zipO (pushAll h os).objs.size (zh1 h os).objs.size)
noncomputable def IterObjs (h : Heap) : List Value → List Obj → Prop
  | [], os => os = []
  | v :: vs, os => ∃ o ps, os = o :: ps ∧ IterObj h v o ∧ IterObjs (h.push o) vs ps
theorem itsAt_snoc {a n : Nat} : itsAt a n ++ [.ref (a + n)] = itsAt a (n + 1) := by
  unfold itsAt
  rw [← List.range'_append_1, List.map_append]; rfl
theorem pushAll_snoc {h : Heap} {os : List Obj} {o : Obj} : pushAll h (os ++ [o]) = (pushAll h os).push o := by unfold pushAll; rw [List.foldl_append]; rfl
theorem iterAll_ok {prog : Program} {w : World} {A : Around} {E : Value → Shared → Prop} {Q : List Value → Shared → Prop} {s : Shared} {vs : List Value} {os : List Obj} (h : IterObjs s.heap vs os) (hQ : Q (itsAt s.heap.objs.size os.length) { s with heap := pushAll s.heap os }) :
    wpAny (model prog w) A (Builtin.SmallTypes.iterAll vs) Q E s := by
  unfold Builtin.SmallTypes.iterAll
  refine wpAny_bind (wpAny_forIn_list _ (fun rest b s' => ∃ done rem, os = done ++ rem ∧ b = (itsAt s.heap.objs.size done.length).toArray ∧ s' = { s with heap := pushAll s.heap done } ∧ IterObjs (pushAll s.heap done) rest rem) _ ?_ ?_ _ _ ⟨[], os, rfl, rfl, rfl, h⟩)
  · rintro x rest b s' ⟨done, rem, e, rfl, rfl, o, ps, rfl, h1, h2⟩
    refine wpAny_bind (wpAny_holding (h1 prog w A E _ _ rfl (wpAny_pure ⟨done ++ [o], ps, by rw [e, List.append_assoc]; rfl, ?_, by rw [pushAll_snoc], by rw [pushAll_snoc]; exact h2⟩)))
    rw [pushAll_size, List.length_append]
    show _ = (itsAt _ (done.length + 1)).toArray
    rw [← itsAt_snoc]
    simp
  · rintro b s' ⟨done, rem, e, rfl, rfl, h1⟩
    rw [show rem = [] from h1, List.append_nil] at e
    subst e
    exact wpAny_pure hQ
theorem meets_zip (vs : List Value) (os : List Obj) (hn : vs.length ≤ 1000) :
    Meets (Builtin.«zip.__new__» ⟨.type "zip" :: vs, []⟩) (fun j9 R s => IterObjs s.heap vs os ∧ os.length = vs.length ∧ R (.ok (.ret (.ref (zh2 s.heap os).objs.size))) { s with heap := zh3 s.heap os }) :=
  .of_wp fun prog w A R s h => by
    obtain ⟨hp, g, d, tk, os'⟩ := s; obtain ⟨h1, hl, h⟩ := h
    have hsub := sub_zip
    have k1 : ∀ (A : Around) (E : Value → Shared → Prop) (Q : List Value → Shared → Prop), Q (itsAt hp.objs.size os.length) ⟨pushAll hp os, g, d, tk, os'⟩ → wpAny (model prog w) A (Builtin.SmallTypes.iterAll vs) Q E ⟨hp, g, d, tk, os'⟩ := fun A E Q q => iterAll_ok h1 q
    have e1 : sizeLine = 16777216 := sizeLine_eq
    have e2 : (itsAt hp.objs.size os.length).length = os.length := by simp [itsAt]
    wp_walk using k1 _ _ _, wpAny_newTuple (items := itsAt hp.objs.size os.length) (hsz := by omega), wpAny_newTuple (items := (itsAt hp.objs.size os.length).map fun j9 => .none) (hsz := by rw [List.length_map]; omega)
    exact ⟨_, rfl, h⟩
theorem SrcDs.iters {S : Stc} {h : Heap} {g : Gh} : ∀ {ls : List (List PV)} {vs os} {h' : Heap}, SrcDs S h g ls vs os → (∀ b ob, h.get? b = some ob → h'.get? b = some ob) → IterObjs h' vs os
  | [], vs, os, h', ⟨e1, e2⟩, _ => by rw [e1, e2]; rfl
  | l :: ls, vs, os, h', ⟨v, us, o, ps, e1, e2, h1, h2⟩, kp => by
    rw [e1, e2]
    exact ⟨o, ps, rfl, h1.it _ kp, h2.iters fun b ob e => Heap.get?_push_of_some _ (kp b ob e)⟩
theorem typeCall_zip_3 (a b c : Value) : checkTypeCall "zip" ⟨[a, b, c], []⟩ = pure () := by kernel_rfl
theorem newCall_zip_3 (a b c : Value) : checkBuiltinCall "zip.__new__" ⟨[.type "zip", a, b, c], []⟩ = pure () := by kernel_rfl
theorem args_object_init_4 (a b c d : Value) : argsOk "object.__init__" ⟨[a, b, c, d], []⟩ := by
  unfold argsOk; rw [signature?_of (id := "object.__init__") (n := ['_', '_', 't', 'i', 'n', 'i', '_', '_']) (o := ['t', 'c', 'e', 'j', 'b', 'o']) (by kernel_rfl) F.owner_object]; kernel_rfl
theorem zip_fits {vs : List Value} (h : (Nat.beq vs.length 2 || Nat.beq vs.length 3) = true) : checkTypeCall "zip" ⟨vs, []⟩ = pure () ∧ checkBuiltinCall "zip.__new__" ⟨.type "zip" :: vs, []⟩ = pure () ∧ (∀ obj, argsOk "object.__init__" ⟨obj :: vs, []⟩) ∧ vs.length ≤ 3 ∧ vs ≠ [] := by
  have h : vs.length = 2 ∨ vs.length = 3 := (Bool.or_eq_true_iff.mp h).imp Nat.eq_of_beq_eq_true Nat.eq_of_beq_eq_true
  cases vs with
  | nil => exact absurd h (by decide)
  | cons a vs =>
    cases vs with
    | nil => exact absurd h (by simp)
    | cons b vs =>
      cases vs with
      | nil => exact ⟨F.typeCall_zip_2 _ _, F.newCall_zip_2 _ _, fun obj => F.args_object_init_3 obj _ _, Nat.le_succ 2, List.cons_ne_nil _ _⟩
      | cons c vs =>
        cases vs with
        | nil => exact ⟨typeCall_zip_3 _ _ _, newCall_zip_3 _ _ _, fun obj => args_object_init_4 obj _ _ _, Nat.le_refl 3, List.cons_ne_nil _ _⟩
        | cons d vs => exact absurd h (by simp)
end
section
variable {S : Stc} {A : Around} {s : Shared} {g : Gh} {ph : List PO}
theorem call_zip {vs : List Value} {os : List Obj} {Q : Value → Shared → Prop} (hf : (Nat.beq vs.length 2 || Nat.beq vs.length 3) = true) (h1 : IterObjs s.heap vs os) (hl : os.length = vs.length) (h : Q (.ref (zh2 s.heap os).objs.size) { s with heap := zh3 s.heap os }) :
    wpAny (MS S) A (call (.type "zip") vs) Q NoE s := by
  obtain ⟨q1, q2, q3, q4, q5⟩ := zip_fits hf
  exact callType_new F.called_zip (by decide) q1 q2 q3 F.entry_zip_new (meets_zip vs os (by omega)) ⟨h1, hl, ⟨⟨_, Heap.get?_push_size _ rfl, rfl⟩, h⟩⟩
theorem zn_iter (hA : A.handled = none) (I : Inv S s.heap s.toks g ph) {target : Expr} {ls : List (List PV)} {vs : List Value} {os : List Obj} (ht : isTupT target = true) (hf : (Nat.beq ls.length 2 || Nat.beq ls.length 3) = true) (a : SrcDs S s.heap g ls vs os) :
    wpAny (MS S) A (call (.type "zip") vs) (fun x s1 => wpAny (MS S) A (pyIter x) (Iter S s g ph target (zipAll ls) none) NoE s1) NoE s := by
  obtain ⟨elts, tk, tp, rfl⟩ : ∃ elts tk tp, target = .Tuple elts tk tp := by
    cases target <;> first | exact Bool.noConfusion (show false = true from ht) | exact ⟨_, _, _, rfl⟩
  obtain ⟨fr, l1, l2⟩ := a.free
  rw [← l1] at hf
  refine call_zip hf (a.iters fun b ob e => e) (l2.trans l1.symm) ?_
  obtain ⟨-, -, -, h3, hne⟩ := zip_fits hf
  have sz : (pushAll s.heap os).objs.size = s.heap.objs.size + os.length := pushAll_size
  have s1 : (zh1 s.heap os).objs.size = s.heap.objs.size + os.length + 1 := by rw [Heap.size_push, sz]
  have s2 : (zh2 s.heap os).objs.size = s.heap.objs.size + os.length + 2 := by rw [Heap.size_push, s1]
  have g3 : (zh3 s.heap os).get? (zh2 s.heap os).objs.size = some (zipO (pushAll s.heap os).objs.size (zh1 s.heap os).objs.size) := Heap.get?_push_size _ rfl
  have g2 : (zh3 s.heap os).get? (zh1 s.heap os).objs.size = some (tupO ((itsAt s.heap.objs.size os.length).map fun j9 => .none)) := Heap.get?_push_of_some _ (Heap.get?_push_size _ rfl)
  have g1 : (zh3 s.heap os).get? (pushAll s.heap os).objs.size = some (tupO (itsAt s.heap.objs.size os.length)) := Heap.get?_push_of_some _ (Heap.get?_push_of_some _ (Heap.get?_push_size _ rfl))
  have g0 : ∀ (i : Nat) o, os[i]? = some o → (zh3 s.heap os).get? (s.heap.objs.size + 0 + i) = some o := fun i o e => Heap.get?_push_of_some _ (Heap.get?_push_of_some _ (Heap.get?_push_of_some _ (pushAll_get os s.heap i fr e)))
  have kp : ∀ b ob, s.heap.get? b = some ob → (zh3 s.heap os).get? b = some ob := fun b ob e => Heap.get?_push_of_some _ (Heap.get?_push_of_some _ (Heap.get?_push_of_some _ (pushAll_keep e)))
  generalize zh3 s.heap os = H at g0 g1 g2 g3 kp ⊢
  rw [sz, s1, s2] at g3
  rw [s1] at g2
  rw [sz] at g1
  rw [s2]
  refine wpAny_pyIter_zip (s := { s with heap := H }) g3 ?_
  obtain ⟨ds, q1, q2, q3, q4⟩ := zds_of 0 a
  have q4 := q4 H g0 kp
  have hlen : ds.length = os.length := by rw [l2, ← q1, List.length_map]
  have no : ∀ k, s.heap.objs.size ≤ k → s.heap.get? k = none := fun k hk => by
    cases q : s.heap.get? k with
    | none => rfl
    | some o => exact absurd (Heap.lt_size q) (Nat.not_lt.mpr hk)
  have hits : ds.map itR = itsAt s.heap.objs.size os.length := by
    rw [show ds.map itR = (ds.map ZD.it).map .ref by rw [List.map_map]; rfl, q2, l2]; rfl
  have hmem : ∀ d ∈ ds, ∃ i : Nat, i < os.length ∧ d.it = s.heap.objs.size + i := fun d m => by
    have := List.mem_map_of_mem (f := ZD.it) m
    rw [q2, List.mem_range'] at this
    obtain ⟨i, hi, e⟩ := this
    exact ⟨i, l2 ▸ hi, e.trans (by rw [Nat.add_zero, Nat.one_mul])⟩
  have W : ∀ b ∈ (s.heap.objs.size + os.length + 2) :: (s.heap.objs.size + os.length) :: (s.heap.objs.size + os.length + 1) :: ds.map ZD.it, s.heap.objs.size ≤ b := fun b hb => by
    simp only [List.mem_cons] at hb
    rcases hb with rfl | rfl | rfl | hb
    · omega
    · omega
    · omega
    · obtain ⟨d, m, rfl⟩ := List.mem_map.mp hb
      obtain ⟨i, -, e⟩ := hmem d m
      rw [e]; exact Nat.le_add_right _ _
  have frs := fun b hb => no b (W b hb)
  have nd : ((s.heap.objs.size + os.length + 2) :: (s.heap.objs.size + os.length) :: (s.heap.objs.size + os.length + 1) :: ds.map ZD.it).Nodup := by
    simp only [List.nodup_cons, List.mem_cons, not_or]
    refine ⟨⟨by omega, by omega, fun hb => ?_⟩, ⟨by omega, fun hb => ?_⟩, fun hb => ?_, by rw [q2]; exact List.nodup_range'⟩ <;>
    · obtain ⟨d, m, e⟩ := List.mem_map.mp hb
      obtain ⟨i, hi, e'⟩ := hmem d m
      rw [e'] at e
      omega
  have ap : ∀ A : Around, A.handled = none → ZAp S A (s.heap.objs.size + os.length + 2) (s.heap.objs.size + os.length) (s.heap.objs.size + os.length + 1) ds := fun A hA => ⟨fun d m => (q3 d m).1 A hA, fun d m b hb hne hm => by
    rcases (q3 d m).2.2 b hm with q | ⟨_, ob, q⟩
    · exact hne q
    · exact nos ((no b (W b (by
        rcases List.mem_cons.mp hb with hb | hb
        · rw [hb]; exact List.mem_cons_self
        · exact List.mem_cons_of_mem _ (List.mem_cons_of_mem _ hb)))).symm.trans q), nd, by omega⟩
  have T := zn_turns (S := S) (h0 := H) (g0 := enter _ g) (elts := elts) (tk := tk) (tp := tp) ap (fun q => hne (List.length_eq_zero_iff.mp (by rw [l1, ← q1, q]; rfl))) fun d m i v x hP hx h g' M => ((q3 d m).2.1 i v x hP hx _ _ (enter_mono kp frs)).mono M
  rw [q1] at T
  refine ⟨_, _, _, _, rfl, kp, Nat.le_refl _, ⟨rfl, id⟩, frs, fun b hb => ?_, T, ⟨g3, hits ▸ g1, ⟨_, g2, by rw [List.length_map, hlen]; simp [itsAt]⟩, q4⟩, fun b hb => ?_, fun n hn => nomatch hn⟩
  · simp only [List.mem_cons] at hb
    rcases hb with rfl | rfl | rfl | hb
    · exact ⟨_, g3⟩
    · exact ⟨_, g1⟩
    · exact ⟨_, g2⟩
    · obtain ⟨d, m, rfl⟩ := List.mem_map.mp hb
      obtain ⟨A, hA⟩ : ∃ A : Around, A.handled = none := ⟨{}, rfl⟩
      exact ((q3 d m).1 A hA).live _ _ (q4 d m)
  · simp only [List.mem_cons, List.mem_flatMap] at hb ⊢
    rcases hb with hb | hb | hb | ⟨d, m, hb⟩
    · exact .inl (.inl hb)
    · exact .inl (.inr (.inl hb))
    · exact .inl (.inr (.inr (.inl hb)))
    · rcases (q3 d m).2.2 b hb with q | q
      · exact .inl (.inr (.inr (.inr (q ▸ List.mem_map_of_mem m))))
      · exact .inr (.inl q)
end
end Mine.Internal
end
section
open PySem PySem.W PyProof.Rows PySem.Calls
namespace Mine.Internal
section
variable {S : Stc} {T : Top} {P : PrimT} {A : Around} {s s₁ : Shared} {g g₁ : Gh} {ph ph1 ph2 ph' phL : List PO} {env : Env} {sc : Scope} {loc loc' loc1 : Loc} {X : List Addr} {n : Nat} {r : Ev} {fl : Fl} {body : List Stmt} {e f target iter : Expr} {p : Pos} {xs a b : List PV} {nl : Option Nat} {args : List Expr} {u v : PV} {vs : List PV} {ls : List (List PV)}
inductive SrcEnd (S : Stc) (s : Shared) (g : Gh) (ph ph' : List PO) (target : Expr) (xs : List PV) (nl : Option Nat) (it : Value) (s2 : Shared) : Prop
  | mk (s1 : Shared) (g1 : Gh) (I : Inv S s1.heap s1.toks g1 ph') (T : Step S [] s.heap g ph s1.heap g1 ph') (m : Same s s1) (i : Iter S s1 g1 ph' target xs nl it s2)
structure TSrc (S : Stc) (n : Nat) (sc : Scope) (loc : Loc) (target iter : Expr) (ph : List PO) (xs : List PV) (nl : Option Nat) (ph' : List PO) : Prop where
  fold : ∀ env x, foldedSetIterable iter env x = pure x
  ok : ∀ {A : Around} {env : Env} {s : Shared} {g : Gh} {X : List Addr}, AOk A n → Inv S s.heap s.toks g ph → Frm S s.heap g env sc loc X → wpAny (MS S) A (eval iter env) (fun x s1 => wpAny (MS S) A (pyIter x) (fun it s2 => SrcEnd S s g ph ph' target xs nl it s2) NoE s1) NoE s
theorem fold_of (h : odd e = false) (env x) : foldedSetIterable e env x = pure x := by cases e <;> first | rfl | exact nomatch h
theorem src_plain (h1 : TE S n sc loc iter ph v ph1) (h2 : TI S v ph1 xs nl) : TSrc S n sc loc target iter ph xs nl ph1 :=
  ⟨fold_of h1.no, fun a I F => wpP (h1.ok a I F) fun x s1 g1 I1 T1 r1 m1 => wpAny_mono (h2 I1 r1) (fun it s2 h2 => ⟨s1, g1, I1, T1, m1, h2⟩) fun j9 j9 z => z⟩
theorem src_zip {x : Str} (O : TopOk S T) (hn : nameP T sc loc x = some (.bi .zip)) (h1 : TA S n sc loc args ph vs ph') (hu : mapO frozenItems vs = some ls) (hq : (isTupT target && !args.any isStar && (Nat.beq ls.length 2 || Nat.beq ls.length 3)) = true) {pos} : TSrc S n sc loc target (.Call (.Name x p) args [] pos) ph (zipAll ls) none ph' := by
  rw [Bool.and_eq_true, Bool.and_eq_true, Bool.not_eq_true'] at hq
  refine ⟨fun j9 j9 => rfl, fun {A env s g X} ha I F => wpAny_Call_Name_kw (wpP ((t_name O hn (n := n) (p := p)).ok ha I F) fun fv s1 g1 I1 T1 r1 m1 => ?_)⟩
  have q : fv = .type "zip" := r1.inv
  subst q
  refine PySem.callWith_type (stars_no hq.1.2).1 (ea_ok (p' := pos) h1 tk_nil hq.1.2 ha I1 (F.step I T1) fun {xs ys s2 g2} I2 T2 rx _ m2 => ?_)
  obtain ⟨os, b⟩ := srcDs_of rx hu
  exact wpAny_mono (zn_iter ha.hand I2 hq.1.1 hq.2 b) (fun j9 s3 h3 => wpAny_mono h3 (fun it s4 h4 => ⟨s2, g2, I2, T1.trans T2 I1, m1.trans m2, h4⟩) fun j9 j9 z => z) fun j9 j9 z => z
theorem callArgs_eq {f' : Expr} {args' kws} (h : callArgs f' args' kws = some (f, args)) : f = f' ∧ args = args' ∧ kws = [] := by
  cases kws with
  | nil => exact sp2 h fun q1 q2 => ⟨q1, q2.symm, rfl⟩
  | cons => exact nos h
theorem callOf_eq (h : callOf e = some (f, args)) : ∃ p, e = .Call f args [] p :=
  pick_inv h (fun j9 j9 j9 j9 h => nos h) (fun j9 j9 j9 h => nos h) (fun j9 j9 j9 j9 h => nos h) (fun j9 j9 j9 j9 j9 h => nos h) (fun a b d p q h => ⟨p, by obtain ⟨rfl, rfl, rfl⟩ := callArgs_eq h; exact q⟩) (fun j9 j9 j9 j9 h => nos h)
set_option tactic.hygienic true in
theorem isZipV_eq (h : isZipV v = true) : v = .bi .zip := by
  cases v
  case bi b => cases b <;> first | rfl | exact nomatch h
  all_goals exact nomatch h
theorem globK_eq {x : Str} {k : NameKind} (h : globK T x k = some v) : nameK T loc x k = some v := by
  cases k
  case globalImplicit => exact h
  all_goals exact nos h
theorem src_ok (O : TopOk S T) (H : Snd S r n) (e : srcP r T sc loc target iter ph = some (xs, nl, ph')) : TSrc S n sc loc target iter ph xs nl ph' :=
  oEs e (fun args hz e => iCa hz fun f args' hc hz => iS hz fun x hx hz => iK hz fun k hk hz => iV hz fun w hw hz => iT hz fun hq h0 => rL e fun vs ph1 e1 e => iLL e fun ls hu e => iT e fun ht e => sp3 e fun z1 z2 z3 => by
    obtain ⟨p, rfl⟩ := callOf_eq hc
    obtain ⟨px, rfl⟩ := nameOf_eq hx
    have := Option.some.inj h0
    subst this; subst z1; subst z2; subst z3
    have hn : nameP T sc loc x = some (.bi .zip) := by
      unfold nameP
      rw [hk]
      exact globK_eq (isZipV_eq hq ▸ hw)
    exact src_zip O hn (args_ok H e1) hu ht) fun j9 e => rV e fun v ph1 e1 e => iIt e fun ys m e2 e => sp3 e fun z1 z2 z3 => by subst z1; subst z2; subst z3; exact src_plain (H.e e1) (items_ok O e2)
theorem ts_for (hs : TSrc S n sc loc target iter ph xs nl ph1) {bodyP : Loc → List PO → SRes} (bd : ∀ {loc loc' ph ph' fl}, bodyP loc ph = some (fl, loc', ph') → TX S n sc loc body ph fl loc' ph') (e : forGo (bindT sc target) bodyP xs loc (lockP nl ph1) = some (fl, loc', phL)) (u : unlockP nl xs phL = some ph') :
    TS S (n + 1) sc loc (.For target iter body [] p) ph fl loc' ph' := fun {A env s g X} a I F => by
  refine wpAny_For (wpAny_mono (hs.ok a.less I F) (fun x s1 h1 => wpAny_mono h1 (fun it s2 q => SrcEnd.casesOn q fun s3 g3 I3 T3 m3 hit => ?_) fun j9 j9 z => z) fun j9 j9 z => z) (hs.fold env)
  refine codeAny_mono (forGo_ok a.hand (fun e I F => bd e a.less I F) (ready_ok I3 (F.step I T3) hit (fun j9 h => h) (F.step I T3).sub fun j9 h => nos h) e u) fun q s' h => ?_
  obtain ⟨f, rfl, p'⟩ := h
  exact p'.after (T3.up F I I3) I3 m3
theorem for_ok (O : TopOk S T) (H : Snd S r n) {orelse : List Stmt} (e : sFor r T sc loc target iter body orelse ph = some (fl, loc', ph')) : TS S (n + 1) sc loc (.For target iter body orelse p) ph fl loc' ph' :=
  s0 e fun q e => iSrc e fun xs nl ph1 e1 e => iF3 e fun fl1 loc1 phL e2 e => iPo e fun ph3 u e => sp3 e fun z1 z2 z3 => by
    subst q; subst z1; subst z2; subst z3
    exact ts_for (src_ok O H e1) (fun e => execs_ok H e) e2 u
end
end Mine.Internal
end
section
open PySem PySem.W PyProof.Rows PySem.Calls
namespace Mine.Internal
section
variable {S : Stc} {T : Top} {A : Around} {s s₁ : Shared} {g g₁ : Gh} {ph ph1 ph2 ph' phL ph₁ ph₂ : List PO} {env : Env} {sc scope : Scope} {loc loc' loc1 : Loc} {X : List Addr} {n d : Nat} {r : Ev} {e elt target iter : Expr} {ifs : List Expr} {pos : Pos} {xs acc acc' : List PV} {nl : Option Nat} {D : Addr} {b c : Bool} {gens gs : List Comprehension} {it ac : Value}
theorem compTurn_at {elt target iter : Expr} {ifs : List Expr} {gens : List Comprehension} {scope : Scope} {pos : Pos} {d : Nat} {it ac : Value} (hg : gens[d]? = some ⟨target, iter, ifs, 0⟩) :
    compTurn (.ListComp elt gens scope pos) d it ac env = (do
      standAt iter.pos
      match ← pyNext it with
      | none => pure (.done .next)
      | some v =>
        letOwnedTupleGo target it v
        assign target env v
        let mut ok := true
        for c in ifs do
          if ok then ok ← isTrue c env (eval c env)
        if ok then
          match gens[d + 1]? with
          | some g' =>
            let x ← eval g'.iter env
            standAt g'.iter.pos
            let x ← if g'.is_async != 0 then foldedIterable g'.iter x else foldedSetIterable g'.iter env x
            let _ ← runOwn (.compStart (.ListComp elt gens scope pos) (d + 1) (← holding [x] (if g'.is_async != 0 then asyncIter x else pyIter x)) ac env) env
          | none => (do let _ ← call (.builtin "list.append") [ac, ← eval elt env])
        again (.compLoop (.ListComp elt gens scope pos) d it ac env)) := by
  unfold compTurn
  simp only [hg]
  rfl
noncomputable abbrev testsSem (ifs : List Expr) (env : Env) (b : Bool) : Sem Bool := forIn ifs b fun c r => if r = true then do let ok ← isTrue c env (eval c env); pure (ForInStep.yield ok) else pure (ForInStep.yield r)
noncomputable def TTs (S : Stc) (n : Nat) (sc : Scope) (loc : Loc) (ifs : List Expr) (ph : List PO) (c : Bool) (ph' : List PO) : Prop := ∀ ⦃A : Around⦄ ⦃env : Env⦄ ⦃s : Shared⦄ ⦃g : Gh⦄ ⦃X : List Addr⦄, AOk A n → Inv S s.heap s.toks g ph → Frm S s.heap g env sc loc X → wpAny (MS S) A (testsSem ifs env true) (fun ok s' => ok = c ∧ PstU S s g ph ph' s') NoE s
theorem tests_no {Q : Bool → Shared → Prop} (h : Q false s) : wpAny (MS S) A (testsSem ifs env false) Q NoE s := by
  induction ifs with
  | nil => exact wpAny_pure h
  | cons y ifs ih =>
    unfold testsSem
    rw [List.forIn_cons]
    exact wpAny_bind (wpAny_pure ih)
theorem tts_nil : TTs S n sc loc [] ph true ph := fun A env s g X a I F => wpAny_pure ⟨rfl, g, I, .refl, .refl⟩
theorem tts_cons (h1 : TT S n sc loc e ph b ph1) (h2 : b = true → TTs S n sc loc ifs ph1 c ph') (h3 : b = false → c = false ∧ ph' = ph1) : TTs S n sc loc (e :: ifs) ph c ph' := fun A env s g X a I F => by
  unfold testsSem
  rw [List.forIn_cons]
  refine wpAny_bind (wpAny_bind (wpT (h1 a I F) fun s1 g1 I1 T1 m1 => wpAny_pure ?_))
  cases b with
  | true => exact wpAny_mono (h2 rfl a I1 (F.step I T1)) (fun j9 j9 q => ⟨q.1, q.2.after T1 I1 m1⟩) fun j9 j9 z => z
  | false =>
    obtain ⟨q1, q2⟩ := h3 rfl
    subst q1; subst q2
    exact tests_no ⟨rfl, g1, I1, T1, m1⟩
theorem tests_ok (H : Snd S r n) : ∀ {ifs : List Expr} {ph ph' c}, testsP r sc loc ifs ph = some (c, ph') → TTs S n sc loc ifs ph c ph'
  | [], _, _, _, e => sp2 e fun q1 q2 => q1 ▸ q2 ▸ tts_nil
  | x :: ifs, _, _, _, e => rW e (fun ph1 e1 e => tts_cons (H.t e1) (fun j9 => tests_ok H e) nofun) fun ph1 e1 e => sp2 e fun q1 q2 => tts_cons (H.t e1) nofun fun j9 => ⟨q1, q2.symm⟩
noncomputable def Inner (S : Stc) (A : Around) (elt : Expr) (gens : List Comprehension) (scope : Scope) (pos : Pos) (d : Nat) (ac : Value) (env : Env) (Q : Shared → Prop) (s : Shared) : Prop := match gens[d]? with
  | some g' => g'.is_async = 0 ∧ (∀ x, foldedSetIterable g'.iter env x = pure x) ∧ wpAny (MS S) A (eval g'.iter env) (fun x s1 => wpAny (MS S) A (pyIter x) (fun it s2 => codeAny (MS S) A (.compStart (.ListComp elt gens scope pos) d it ac env) (fun q s' => q = .ok .next ∧ Q s') s2) NoE s1) NoE s
  | none => wpAny (MS S) A (eval elt env) (fun x s1 => wpAny (MS S) A (call (.builtin "list.append") [ac, x]) (fun j9 s' => Q s') NoE s1) NoE s
theorem comp_loop {I : Nat → Shared → Prop} {R : Shared → Prop} {k : Nat} (hg : gens[d]? = some ⟨target, iter, ifs, 0⟩)
    (turn : ∀ k s, I k s → wpAny (MS S) A (pyNext it) (fun r s1 => ∃ v, r = some v ∧ wpAny (MS S) A (letOwnedTupleGo target it v) (fun j9 s2 => wpAny (MS S) A (assign target env v) (fun j9 s3 => wpAny (MS S) A (testsSem ifs env true) (fun ok s4 => cond ok (Inner S A elt gens scope pos (d + 1) ac env (fun s5 => ∃ m, m < k ∧ I m s5) s4) (∃ m, m < k ∧ I m s4)) NoE s3) NoE s2) NoE s1) NoE s ∨
      wpAny (MS S) A (pyNext it) (fun r s1 => r = none ∧ R s1) NoE s) (h : I k s) : codeAny (MS S) A (.compLoop (.ListComp elt gens scope pos) d it ac env) (fun q s' => q = .ok .next ∧ R s') s := by
  refine codeAny_loop rfl I (fun k s h => ?_) k h
  show wpAny _ A ((compTurn (.ListComp elt gens scope pos) d it ac env).onRaise (fun x => do noteFrame x env; theTreesLotGoes x)) _ _ s
  refine wpAny_noted ?_
  rw [compTurn_at hg]
  refine wpAny_bind (wpAny_standAt (wpAny_bind ?_))
  rcases turn k s h with h | h
  · refine wpAny_mono h (fun r s1 q => ?_) fun j9 j9 z => z.elim
    obtain ⟨v, rfl, h⟩ := q
    refine wpAny_bind (wpAny_mono h (fun j9 s2 h => wpAny_bind (wpAny_mono h (fun j9 s3 h => wpAny_bind (wpAny_mono h (fun ok s4 h => ?_) fun j9 j9 z => z.elim)) fun j9 j9 z => z.elim)) fun j9 j9 z => z.elim)
    cases ok
    · exact wpAny_pure ⟨rfl, h⟩
    · show wpAny (MS S) A (if true = true then _ else _) _ _ s4
      rw [if_pos rfl]
      replace h : Inner S A elt gens scope pos (d + 1) ac env (fun s5 => ∃ m, m < k ∧ I m s5) s4 := h
      unfold Inner at h
      cases hgn : gens[d + 1]? with
      | none =>
        rw [hgn] at h
        refine wpAny_bind (wpAny_bind (wpAny_mono h (fun x s6 h6 => wpAny_bind (wpAny_mono h6 (fun j9 s7 h7 => wpAny_pure ?_) fun j9 j9 z => z.elim)) fun j9 j9 z => z.elim))
        exact wpAny_pure ⟨rfl, h7⟩
      | some g' =>
        rw [hgn] at h
        obtain ⟨k1, k2, k3⟩ := h
        have hz : (g'.is_async != 0) = false := by rw [k1]; rfl
        simp only [hz, Bool.false_eq_true, if_false]
        refine wpAny_bind (wpAny_mono k3 (fun x s6 h6 => wpAny_bind (wpAny_standAt (wpAny_bind (wpAny_of_eq (k2 x) (wpAny_bind (wpAny_holding (wpAny_mono h6 (fun it s7 h7 => ?_) fun j9 j9 z => z.elim))))))) fun j9 j9 z => z.elim)
        refine wpAny_bind (wpAny_runOwn ?_)
        rw [Around.mark_none]
        exact codeAny_mono h7 fun q s8 h8 => (by obtain ⟨rfl, h8⟩ := h8; exact wpAny_pure ⟨rfl, h8⟩)
  · refine wpAny_mono h (fun r s1 q => ?_) fun j9 j9 z => z.elim
    obtain ⟨rfl, h⟩ := q
    exact wpAny_pure ⟨rfl, h⟩
inductive PstC (S : Stc) (s : Shared) (g : Gh) (ph : List PO) (env : Env) (sc : Scope) (X : List Addr) (D : Addr) (loc' : Loc) (acc' : List PV) (ph' : List PO) (s' : Shared) : Prop
  | mk (g' : Gh) (I : Inv S s'.heap s'.toks g' ph') (T : Step S (D :: X) s.heap g ph s'.heap g' ph') (m : Same s s') (F : Frm S s'.heap g' env sc loc' X) (a : AccAt S s'.heap g' D acc')
theorem PstC.after {s'} (T : Step S (D :: X) s.heap g ph s₁.heap g₁ ph₁) (I₁ : Inv S s₁.heap s₁.toks g₁ ph₁) (m : Same s s₁) (p : PstC S s₁ g₁ ph₁ env sc X D loc' acc' ph₂ s') : PstC S s g ph env sc X D loc' acc' ph₂ s' :=
  let ⟨g', a, b, c, d, e⟩ := p; ⟨g', a, T.trans b I₁, m.trans c, d, e⟩
noncomputable def TIn (S : Stc) (A : Around) (sc : Scope) (X : List Addr) (elt : Expr) (gens : List Comprehension) (scope : Scope) (pos : Pos) (d : Nat) (D : Addr) (env : Env) (inner : Loc → List PV → List PO → CRes) : Prop :=
  ∀ ⦃loc loc' acc acc' ph ph' s g⦄, inner loc acc ph = some (loc', acc', ph') → Inv S s.heap s.toks g ph → Frm S s.heap g env sc loc X → AccAt S s.heap g D acc → D ∈ g.ξ → Inner S A elt gens scope pos d (.ref D) env (PstC S s g ph env sc X D loc' acc' ph') s
noncomputable def CInv (L : LC S env sc X) (testP : Loc → List PO → Res Bool) (inner : Loc → List PV → List PO → CRes) (loc' : Loc) (acc' : List PV) (phL : List PO) (k : Nat) (s : Shared) : Prop :=
  ∃ i loc1 acc1 ph1, k + i = L.xs.length ∧ Run L i loc1 acc1 ph1 s ∧ itemsGo (bindT sc L.target) testP inner (L.xs.drop i) loc1 acc1 ph1 = some (loc', acc', phL)
theorem Inner.mono {Q Q' : Shared → Prop} (h : Inner S A elt gens scope pos d ac env Q s) (k : ∀ s, Q s → Q' s) : Inner S A elt gens scope pos d ac env Q' s := by
  unfold Inner at h ⊢
  cases hg : gens[d]? with
  | none => rw [hg] at h; exact wpAny_mono h (fun x s1 h => wpAny_mono h (fun j9 s2 h => k _ h) fun j9 j9 z => z) fun j9 j9 z => z
  | some g' => rw [hg] at h; exact ⟨h.1, h.2.1, wpAny_mono h.2.2 (fun x s1 h => wpAny_mono h (fun it s2 h => codeAny_mono h fun q s3 h => ⟨h.1, k _ h.2⟩) fun j9 j9 z => z) fun j9 j9 z => z⟩
theorem iIt3 {x : Res Bool} {p : Prop} {β : Type} {r : β} {k : List PO → Option β} {l : List PO → Option β} (e : (match x with | some (true, ph) => k ph | some (false, ph) => l ph | none => none) = some r) (q : ∀ ph, x = some (true, ph) → k ph = some r → p) (q' : ∀ ph, x = some (false, ph) → l ph = some r → p) : p := by
  cases x with
  | none => exact nos e
  | some v =>
    obtain ⟨f, v⟩ := v
    cases f
    · exact q' _ rfl e
    · exact q _ rfl e
theorem items_run (a : AOk A n) (L : LC S env sc X) (hg : gens[d]? = some ⟨L.target, iter, ifs, 0⟩) (hD : L.D = some D) (hY : ∀ b ∈ D :: X, b ∈ L.Y) {testP : Loc → List PO → Res Bool} {inner : Loc → List PV → List PO → CRes}
    (ht : ∀ {loc ph c ph'}, testP loc ph = some (c, ph') → TTs S n sc loc ifs ph c ph') (hin : TIn S A sc X elt gens scope pos (d + 1) D env inner)
    (R : Run L 0 loc acc ph s) (e : itemsGo (bindT sc L.target) testP inner L.xs loc acc ph = some (loc', acc', phL)) {Q : Shared → Prop}
    (fin : ∀ {s1 g h' tk}, Inv S s1.heap s1.toks g phL → Step S (L.wr ++ L.Y) L.s0.heap L.gE L.phE s1.heap g phL → Same L.s0 s1 → Frm S s1.heap g env sc loc' X → (∀ D, L.D = some D → AccAt S s1.heap g D acc') → (∀ b o, b ∉ L.wr → s1.heap.get? b = some o → h'.get? b = some o) → s1.toks ≤ tk → Q { s1 with heap := h', toks := tk }) :
    codeAny (MS S) A (.compLoop (.ListComp elt gens scope pos) d (.ref L.Ia) (.ref D) env) (fun q s' => q = .ok .next ∧ Q s') s := by
  refine comp_loop (I := CInv L testP inner loc' acc' phL) (k := L.xs.length) hg (fun k s1 p1 => ?_) ⟨0, loc, acc, ph, rfl, R, e⟩
  obtain ⟨i, loc1, acc1, ph1, hk, R1, e1⟩ := p1
  cases hx : L.xs[i]? with
  | none =>
    have hi : i = L.xs.length := Nat.le_antisymm (hk ▸ Nat.le_add_left _ _) (List.getElem?_eq_none_iff.mp hx)
    subst hi
    rw [List.drop_length] at e1
    exact .inr (R1.done a.hand fun I1 T1 m1 F1 a1 kp ht => sp3 e1 fun q1 q2 q3 => by
      subst q1; subst q2; subst q3
      exact fin I1 T1 m1 F1 a1 kp ht)
  | some x =>
    obtain ⟨hlt, rfl⟩ := List.getElem?_eq_some_iff.mp hx
    rw [List.drop_eq_getElem_cons hlt] at e1
    refine .inl (iLoc e1 fun loc2 hb e1 => R1.turn a.hand hx hb fun s3 R3 => ?_)
    obtain ⟨g3, I3, T3, m3, F3, a3, st3⟩ := R3
    have nx : ∀ {loc acc ph s}, Run L (i + 1) loc acc ph s → itemsGo (bindT sc L.target) testP inner (L.xs.drop (i + 1)) loc acc ph = some (loc', acc', phL) → ∃ m, m < k ∧ CInv L testP inner loc' acc' phL m s := fun R e => ⟨k - 1, (hm i hlt hk).1, i + 1, _, _, _, (hm i hlt hk).2, R, e⟩
    have st : ∀ {ph2 s4}, PstU S s3 g3 ph1 ph2 s4 → PstS S s3 g3 ph1 env sc X loc2 ph2 s4 := fun p => PstU.casesOn p fun g4 I4 T4 m4 => ⟨g4, I4, T4.up F3 I3 I4, m4, F3.step I3 T4⟩
    refine iIt3 e1 (fun ph2 e2 e1 => wpAny_mono (ht e2 a I3 F3) (fun ok s4 q => ?_) fun j9 j9 z => z) fun ph2 e2 e1 => wpAny_mono (ht e2 a I3 F3) (fun ok s4 q => ?_) fun j9 j9 z => z
    · obtain ⟨rfl, p4⟩ := q
      refine rC e1 fun loc5 acc5 ph5 e5 e1 => ?_
      obtain ⟨g4, I4, T4, m4, F4, a4, st4⟩ := L.frm I3 T3 m3 F3 a3 st3 (st p4)
      exact Inner.mono (hin e5 I4 F4 (a4 D hD) (L.inY (hY D List.mem_cons_self) T4)) fun s5 p5 => PstC.casesOn p5 fun g5 I5 T5 m5 F5 a5 => nx (L.go I4 T4 m4 st4 I5 (T5.sub hY (fun b hb => L.inY hb T4) I4 I5) m5 F5 fun D' h => Option.some.inj (hD.symm.trans h) ▸ a5) e1
    · obtain ⟨rfl, p4⟩ := q
      exact nx (L.frm I3 T3 m3 F3 a3 st3 (st p4)) e1
end
end Mine.Internal
end
section
open PySem PySem.W PyProof.Rows PySem.Calls
namespace Mine.Internal
section
variable {S : Stc} {T : Top} {A : Around} {s s₁ s0 : Shared} {g g₁ : Gh} {ph ph1 ph2 ph' phL ph₁ ph₂ : List PO} {env : Env} {sc scope : Scope} {loc loc' loc1 : Loc} {X : List Addr} {n d : Nat} {r : Ev} {e elt target iter : Expr} {ifs : List Expr} {pos : Pos} {xs acc acc' : List PV} {nl : Option Nat} {D : Addr} {b c : Bool} {gens gs : List Comprehension} {it ac : Value} {inner : Loc → List PV → List PO → CRes} {v : PV}
theorem compStart_ok (a : AOk A n) {hT : Heap} {gT : Gh} {Ia : Addr} {fp wr : List Addr} {St : Nat → Heap → Prop} {R : Result → Shared → Prop} (hg : gens[d]? = some ⟨target, iter, ifs, 0⟩)
    (W : Turns S hT gT target Ia fp wr xs St) (st0 : St 0 s0.heap) (fin : codeAny (MS S) A (.compLoop (.ListComp elt gens scope pos) d (.ref Ia) (.ref D) env) R s0) : codeAny (MS S) A (.compStart (.ListComp elt gens scope pos) d (.ref Ia) (.ref D) env) R s0 := by
  refine codeAny_of_tree ?_
  show wpAny _ _ ((compStart (.ListComp elt gens scope pos) d (.ref Ia) (.ref D) env).onRaise (fun x => do noteFrame x env; standAt theWindowsPlace)) _ _ s0
  refine wpAny_notedAt ?_
  have hcl : (clausesOf (.ListComp elt gens scope pos))[d]? = some ⟨target, iter, ifs, 0⟩ := hg
  unfold compStart
  rw [hcl]
  show wpAny _ _ (ask >>= _) _ _ s0
  refine wpAny_bind (wpAny_askSetting (wpAny_ite ?_))
  split
  · first
      | exact wpAny_bind (wpAny_pure (wpAny_pure (And.intro rfl fin)))
      | exact wpAny_pure (And.intro rfl fin)
  · refine wpAny_bind (wpAny_rule ?_)
    show wpAny _ _ (standAt iter.pos >>= _) _ _ s0
    exact wpAny_bind (wpAny_standAt (wpAny_bind (wpAny_mono (W.self a.hand st0 (Q := fun it s' => it = .ref Ia ∧ s' = s0) ⟨rfl, rfl⟩) (fun it' s' h' => by obtain ⟨rfl, rfl⟩ := h'; exact wpAny_pure (And.intro rfl fin)) fun j9 j9 x => x.elim)))
theorem clause_ok (a : AOk A n) {It : Value} (hg : gens[d]? = some ⟨target, iter, ifs, 0⟩) {testP : Loc → List PO → Res Bool} (ht : ∀ {loc ph c ph'}, testP loc ph = some (c, ph') → TTs S n sc loc ifs ph c ph') (hin : TIn S A sc X elt gens scope pos (d + 1) D env inner)
    (Rd : Ready S env sc X s g ph loc acc target xs nl (D :: X) (some D) It s0) (e : itemsGo (bindT sc target) testP inner xs loc acc (lockP nl ph) = some (loc', acc', phL)) (u : unlockP nl xs phL = some ph') :
    codeAny (MS S) A (.compStart (.ListComp elt gens scope pos) d It (.ref D) env) (fun q s' => q = .ok .next ∧ PstC S s g ph env sc X D loc' acc' ph' s') s0 := by
  obtain ⟨L, rfl, rfl, rfl, hD, hY, R, fin⟩ := Rd
  refine compStart_ok a hg L.W (by cases R; assumption) (items_run a L hg hD (fun b hb => hY ▸ hb) ht hin R e fun I1 T1 m1 F1 a1 kp htk => ?_)
  obtain ⟨g', I', T', m', F', a', _⟩ := fin I1 T1 m1 F1 a1 kp htk u
  exact ⟨g', I', hY ▸ T', m', F', a' D hD⟩
theorem in_nil (a : AOk A n) (hg : gens[d]? = none) (hDc : D ≠ env.locals ∧ ∀ x c, env.cells.lookup x = some c → c ≠ D) (h1 : TE S n sc loc elt ph v ph1) (hl : Nat.ble acc.length 1000 = true) (I : Inv S s.heap s.toks g ph) (F : Frm S s.heap g env sc loc X) (Ac : AccAt S s.heap g D acc) (hD : D ∈ g.ξ) :
    Inner S A elt gens scope pos d (.ref D) env (PstC S s g ph env sc X D loc (acc ++ [v]) ph1) s := by
  unfold Inner
  rw [hg]
  refine wpP (h1.ok a I F) fun x s1 g1 I1 T1 r1 m1 => ?_
  have hD1 : D ∈ g1.ξ := T1.xi ▸ hD
  have F1 := F.step I T1
  obtain ⟨vs, k, h1, h2⟩ := Ac.step I T1 nofun hD nofun
  refine append_seq h1 (fun h' k' hk' hs => ?_) (h2.length ▸ Nat.le_of_ble_eq_true hl)
  have hw : ∀ b ∈ [D], b ∈ g1.ξ := fun b hb => List.mem_singleton.mp hb ▸ hD1
  have al : ∀ b ∈ [D], ∃ o, h'.get? b = some o := fun b hb => List.mem_singleton.mp hb ▸ ⟨_, hk'⟩
  have kp : ∀ b o, b ∉ [D] → s1.heap.get? b = some o → h'.get? b = some o := fun b o hb e => hs b o (fun q => hb (q ▸ List.mem_singleton_self _)) e
  have M := xchg_mono (S := S) hw kp
  have hs0 : ∀ b ∈ D :: X, b ∈ g.ξ := fun b hb => (List.mem_cons.mp hb).elim (fun q => q ▸ hD) (F.sub b)
  exact ⟨g1, I1.xchg hw al kp (Nat.le_refl _), (T1.sub nofun hs0 I I1).trans (.xchg I1 hw al kp fun b hb => List.mem_singleton.mp hb ▸ List.mem_cons_self) I1, m1.trans ⟨rfl, id⟩,
    F1.mono M (fun b o q e => kp b o (fun z => q.elim (fun q => hDc.1 ((List.mem_singleton.mp z).symm.trans q)) fun ⟨x, q⟩ => hDc.2 x b q (List.mem_singleton.mp z)) e) F1.sub F1.cxi, ⟨_, _, hk', (h2.append (.cons r1 .nil)).mono M⟩⟩
theorem in_cons (a : AOk A n) (hg : gens[d]? = some ⟨target, iter, ifs, 0⟩) (hDX : D ∉ X) (hs : TSrc S n sc loc target iter ph xs nl ph1) (ht : ∀ {loc ph c ph'}, testsP r sc loc ifs ph = some (c, ph') → TTs S n sc loc ifs ph c ph') (hin : TIn S A sc X elt gens scope pos (d + 1) D env inner)
    (e : clauseGo sc r target ifs inner xs nl loc acc ph1 = some (loc', acc', ph')) (I : Inv S s.heap s.toks g ph) (F : Frm S s.heap g env sc loc X) (Ac : AccAt S s.heap g D acc) (hD : D ∈ g.ξ) :
    Inner S A elt gens scope pos d (.ref D) env (PstC S s g ph env sc X D loc' acc' ph') s := by
  unfold Inner
  rw [hg]
  refine ⟨rfl, hs.fold env, wpAny_mono (hs.ok a I F) (fun x s1 h1 => wpAny_mono h1 (fun it s2 q => SrcEnd.casesOn q fun s3 g3 I3 T3 m3 hit => ?_) fun j9 j9 z => z) fun j9 j9 z => z⟩
  have hs0 : ∀ b ∈ D :: X, b ∈ g.ξ := fun b hb => (List.mem_cons.mp hb).elim (fun q => q ▸ hD) (F.sub b)
  refine rC e fun loc1 acc1 phL e1 e => iPo e fun ph2 u e => sp3 e fun z1 z2 z3 => ?_
  subst z1; subst z2; subst z3
  refine codeAny_mono (clause_ok a hg (fun e => ht e) hin (ready_ok I3 (F.step I T3) hit (fun b hb => List.mem_cons_of_mem _ hb) (fun b hb => T3.xi ▸ hs0 b hb) fun D' h => Option.some.inj h ▸ ⟨⟨List.mem_cons_self, hDX⟩, Ac.step I T3 nofun hD nofun⟩) e1 u) fun q s' h => ⟨h.1, ?_⟩
  exact h.2.after (T3.sub nofun hs0 I I3) I3 m3
theorem compGo_ok (O : TopOk S T) (H : Snd S r n) (a : AOk A n) (hDX : D ∉ X) (hDc : D ≠ env.locals ∧ ∀ x c, env.cells.lookup x = some c → c ≠ D) : ∀ {gs : List Comprehension} {d : Nat}, gens.drop d = gs → TIn S A sc X elt gens scope pos d D env (compGo r T sc elt gs)
  | [], d, hd, loc, loc', acc, acc', ph, ph', s, g, e, I, F, Ac, hD => iT e fun hl e => rV e fun v ph1 e1 e => sp3 e fun z1 z2 z3 => by
    subst z1; subst z2; subst z3
    exact in_nil a (List.getElem?_eq_none (List.drop_eq_nil_iff.mp hd)) hDc (H.e e1) hl I F Ac hD
  | g0 :: gs, d, hd, loc, loc', acc, acc', ph, ph', s, g, e, I, F, Ac, hD => iTn e fun has e => iSrc e fun xs nl ph1 e1 e' => by
    obtain ⟨target, iter, ifs, as⟩ := g0
    have has : as = 0 := bne_eq_false_iff_eq.mp has
    subst has
    have hg : gens[d]? = some ⟨target, iter, ifs, 0⟩ := by have : (gens.drop d)[0]? = _ := congrArg (·[0]?) hd; rwa [List.getElem?_drop] at this
    exact in_cons a hg hDX (src_ok O H e1) (fun e => tests_ok H e) (compGo_ok O H a hDX hDc (by rw [← List.tail_drop, hd, List.tail_cons])) e' I F Ac hD
end
end Mine.Internal
end
section
open PySem PySem.W PyProof.Rows PySem.Calls
namespace Mine.Internal
theorem lookup_mem {α : Type} {l : List (Str × α)} {x : Str} {v : α} (h : l.lookup x = some v) : (x, v) ∈ l :=
  let ⟨_, _, e, _⟩ := List.lookup_eq_some_iff.mp h; e ▸ List.mem_append.mpr (.inr List.mem_cons_self)
theorem cellsFrom_acc : ∀ (names : List (Str × NameKind)) (n : Nat) (acc : List (Str × Addr)), cellsFrom n names acc = cellsFrom n names [] ++ acc
  | [], n, acc => rfl
  | (x, k) :: r, n, acc => by
    unfold cellsFrom
    split
    · rw [cellsFrom_acc r (n + 1) ((x, n) :: acc), cellsFrom_acc r (n + 1) [(x, n)], List.append_assoc]; rfl
    · exact cellsFrom_acc r n acc
set_option tactic.hygienic true in
theorem cellsFrom_mem {x : Str} {c : Addr} : ∀ {names : List (Str × NameKind)} {n : Nat} {acc : List (Str × Addr)}, (x, c) ∈ cellsFrom n names acc → (x, NameKind.cell) ∈ names ∨ (x, c) ∈ acc
  | [], n, acc, h => .inr h
  | (y, k) :: r, n, acc, h => by
    unfold cellsFrom at h
    split at h
    · rename_i hk
      refine (cellsFrom_mem h).elim (fun q => .inl (List.mem_cons_of_mem _ q)) fun q => (List.mem_cons.mp q).elim (fun q => sp2 (congrArg some q) fun q1 q2 => .inl (q1 ▸ beq_iff_eq.mp hk ▸ List.mem_cons_self)) .inr
    · exact (cellsFrom_mem h).imp (List.mem_cons_of_mem _) id
set_option tactic.hygienic true in
theorem cellsFrom_has {x : Str} : ∀ {names : List (Str × NameKind)} {n : Nat} {acc : List (Str × Addr)}, ((x, NameKind.cell) ∈ names ∨ ∃ c, acc.lookup x = some c) → ∃ c, (cellsFrom n names acc).lookup x = some c
  | [], n, acc, h => h.elim nofun id
  | (y, k) :: r, n, acc, h => by
    have up : (∃ c, acc.lookup x = some c) → ∃ c, ((y, n) :: acc).lookup x = some c := fun ⟨c, hc⟩ => by
      rw [List.lookup_cons]
      cases x == y
      · exact ⟨c, hc⟩
      · exact ⟨n, rfl⟩
    unfold cellsFrom
    split
    · exact cellsFrom_has (h.elim (fun q => (List.mem_cons.mp q).elim (fun q => .inr ⟨n, by rw [(Prod.mk.inj q).1, List.lookup_cons_self]⟩) .inl) fun q => .inr (up q))
    · rename_i hk
      exact cellsFrom_has (h.imp (fun q => (List.mem_cons.mp q).elim (fun q => absurd (beq_iff_eq.mpr (Prod.mk.inj q).2.symm) hk) id) id)
theorem namesOk_nodup {x : Str} {k : NameKind} : ∀ {names : List (Str × NameKind)}, namesOk names = true → (x, k) ∈ names → names.lookup x = some k ∧ x ≠ nDebug ∧ x ≠ nClassdict
  | [], _, h => nomatch h
  | (y, j) :: r, ok, h => by
    unfold namesOk at ok
    cases q0 : nEq y nDebug || nEq y nClassdict || (look y r).isSome with
    | true => rw [q0] at ok; exact nomatch ok
    | false =>
      rw [q0] at ok
      obtain ⟨q, q3⟩ := Bool.or_eq_false_iff.mp q0
      obtain ⟨q1, q2⟩ := Bool.or_eq_false_iff.mp q
      rcases List.mem_cons.mp h with h | h
      · obtain ⟨rfl, rfl⟩ := Prod.mk.inj h
        exact ⟨List.lookup_cons_self, fun z => (nomatch q1.symm.trans (nEq_iff.mpr z)), fun z => (nomatch q2.symm.trans (nEq_iff.mpr z))⟩
      · obtain ⟨a, b⟩ := namesOk_nodup ok h
        refine ⟨?_, b⟩
        rw [List.lookup_cons]
        cases z : x == y with
        | false => exact a
        | true => rw [← beq_iff_eq.mp z, look_eq, a] at q3; exact nomatch q3
theorem captured_look {sc : Scope} {loc : Loc} {x : Str} {v : PV} (h : look x (captured sc loc) = some v) : (x, NameKind.free) ∈ sc.names ∧ look x loc = some v := by
  unfold captured at h
  rw [look_eq] at h
  obtain ⟨⟨y, k⟩, h1, h2⟩ := List.mem_filterMap.mp (lookup_mem h)
  cases k
  case free =>
    cases q : look y loc with
    | none => replace h2 : (look y loc).map _ = _ := h2; rw [q] at h2; exact nos h2
    | some u => replace h2 : (look y loc).map _ = _ := h2; rw [q] at h2; exact sp2 h2 fun q1 q2 => q1 ▸ q2 ▸ ⟨h1, q⟩
  all_goals exact nos h2
theorem isVar_eq {o : Option NameKind} (h : isVar o = true) : ∃ k, o = some k ∧ (k = .cell ∨ k = .free) := by
  cases o with
  | none => exact nomatch h
  | some k =>
    cases k
    case cell => exact ⟨_, rfl, .inl rfl⟩
    case free => exact ⟨_, rfl, .inr rfl⟩
    all_goals exact nomatch h
section
variable {S : Stc} {T : Top} {A : Around} {s s₁ s2 : Shared} {g g₁ g' : Gh} {ph ph1 ph' phL : List PO} {env : Env} {sc csc : Scope} {loc loc' : Loc} {X Y : List Addr} {n : Nat} {r : Ev} {C D : Addr} {acc acc' xs : List PV} {nl : Option Nat} {h h2 H5 : Heap} {cl cs : List (Str × Addr)} {elt target iter : Expr} {ifs : List Expr} {gs : List Comprehension} {pos : Pos} {x : Str} {v : PV}
theorem cap_cell (F : Frm S h g env sc loc X) (cap : capOk sc loc csc.names = true) (hx : (x, NameKind.free) ∈ csc.names) : ∃ c, env.cells.lookup x = some c ∧ ∀ v, look x loc = some v → ∃ val, h.IsCell c (some val) ∧ VR S h g v val := by
  have q : (isVar (look x sc.names) && (look x loc).isSome) = true := List.all_eq_true.mp cap _ hx
  rw [Bool.and_eq_true] at q
  obtain ⟨k, hk, hk'⟩ := isVar_eq q.1
  obtain ⟨v, hv⟩ := Option.isSome_iff_exists.mp q.2
  obtain ⟨c, val, z1, z2, z3⟩ := F.cell x v k hv (look_eq ▸ hk) hk'
  exact ⟨c, z1, fun v' hv' => Option.some.inj (hv.symm.trans hv') ▸ ⟨val, z2, z3⟩⟩
structure Clos (env : Env) (csc : Scope) (cl : List (Str × Addr)) : Prop where
  eq : closureFor csc env = pure cl
  E : ∀ x c, cl.lookup x = some c → env.cells.lookup x = some c
  fr : ∀ x, (x, NameKind.free) ∈ csc.names → ∃ c, cl.lookup x = some c
theorem clos_go : ∀ (names : List (Str × NameKind)) (cs : List (Str × Addr)), (∀ y, (y, NameKind.free) ∈ names → ∃ c, env.cells.lookup y = some c) → (∀ x c, cs.lookup x = some c → env.cells.lookup x = some c) →
    ∃ cl, (forIn names cs fun x cs => (match x with | (name, kind) => if kind == NameKind.free then do let c ← cellOf env name; pure (ForInStep.yield ((name, c) :: cs)) else pure (ForInStep.yield cs) : Sem (ForInStep (List (Str × Addr))))) = pure cl ∧ (∀ x c, cl.lookup x = some c → env.cells.lookup x = some c) ∧ ∀ x, ((x, NameKind.free) ∈ names ∨ ∃ c, cs.lookup x = some c) → ∃ c, cl.lookup x = some c
  | [], cs, _, h2 => ⟨cs, rfl, h2, fun x h => h.elim nofun id⟩
  | (y, k) :: r, cs, h1, h2 => by
    rw [List.forIn_cons]
    have h1' := fun z hz => h1 z (List.mem_cons_of_mem _ hz)
    by_cases hk : k = .free
    · subst hk
      obtain ⟨c, hc⟩ := h1 y List.mem_cons_self
      have e : cellOf env y = pure c := by unfold cellOf; rw [hc]
      have L : ∀ z, ((y, c) :: cs).lookup z = if z = y then some c else cs.lookup z := fun z => by
        rw [List.lookup_cons]
        cases q : z == y with
        | true => rw [if_pos (beq_iff_eq.mp q)]
        | false => rw [if_neg (beq_eq_false_iff_ne.mp q)]
      obtain ⟨cl, e1, e2, e3⟩ := clos_go r ((y, c) :: cs) h1' fun x c' q => by
        rw [L] at q
        by_cases z : x = y
        · rw [if_pos z] at q; rw [z, hc]; exact q
        · rw [if_neg z] at q; exact h2 x c' q
      refine ⟨cl, ?_, e2, fun x hx => e3 x ?_⟩
      · show (cellOf env y >>= fun c => _) >>= _ = _
        rw [e]
        exact e1
      · rw [L]
        by_cases z : x = y
        · rw [if_pos z]; exact .inr ⟨_, rfl⟩
        · rw [if_neg z]; exact hx.imp (fun q => (List.mem_cons.mp q).elim (fun q => absurd (Prod.mk.inj q).1 z) id) id
    · obtain ⟨cl, e1, e2, e3⟩ := clos_go r cs h1' h2
      refine ⟨cl, ?_, e2, fun x hx => e3 x (hx.imp (fun q => (List.mem_cons.mp q).elim (fun q => absurd (Prod.mk.inj q).2.symm hk) id) id)⟩
      show ((if (k == NameKind.free) = true then _ else _ : Sem (ForInStep (List (Str × Addr)))) >>= _) = _
      rw [if_neg fun q => hk (beq_iff_eq.mp q)]
      exact e1
theorem clos_ok (F : Frm S h g env sc loc X) (cap : capOk sc loc csc.names = true) : ∃ cl, Clos env csc cl := by
  obtain ⟨cl, e1, e2, e3⟩ := clos_go (env := env) csc.names [] (fun y hy => let ⟨c, hc, _⟩ := cap_cell F cap hy; ⟨c, hc⟩) fun j9 j9 q => nomatch q
  exact ⟨cl, congrArg (fun m : Sem (List (Str × Addr)) => m >>= fun cs => pure cs) e1, e2, fun x hx => e3 x (.inl hx)⟩
theorem comp_env {scope : Scope} {gl : Addr} {qual : Str} {Q : Env → Shared → Prop}
    (h : Q { scope, locals := s.heap.objs.size, globals := gl, cells := cellsFrom (s.heap.objs.size + 1) scope.names cl, qual, func := none, code := env.code, frame := env.frame, builtins := env.builtins } { s with heap := pushCells (s.heap.push { cls := .type "dict", data := .dict #[] }) scope.names }) :
    wpAny (MS S) A (newFunctionEnv scope gl cl [] qual none .none (some env)) Q NoE s := by
  simp only [newFunctionEnv, Option.isSome_some, if_true]
  refine wpAny_bind (wpAny_alloc ?_)
  refine wpAny_bind (wpAny_layCells _ (fun name kind cells => by cases hkc : kind == NameKind.cell <;> simp [hkc]) _ _ _ _ ?_)
  rw [show ({ s with heap := s.heap.push { cls := .type "dict", data := .dict #[] } } : Shared).heap.objs.size = s.heap.objs.size + 1 from Heap.size_push ..]
  exact wpAny_bind (wpAny_pure (wpAny_pure h))
noncomputable def relK (env : Env) (x : Str) (k : NameKind) : NameKind := if (k == NameKind.free && env.scope.kind == .function && env.kindOf x == some .cell) then .cell else k
theorem relabel_look {k : NameKind} : ∀ {names : List (Str × NameKind)}, names.lookup x = some k → (names.map fun (n, k) => if (k == NameKind.free && env.scope.kind == .function && env.kindOf n == some .cell) then (n, NameKind.cell) else (n, k)).lookup x = some (relK env x k)
  | (y, j) :: r, h => by
    rw [List.lookup_cons] at h
    rw [List.map_cons]
    have : (if (j == NameKind.free && env.scope.kind == .function && env.kindOf y == some .cell) = true then (y, NameKind.cell) else (y, j)) = (y, relK env y j) := by unfold relK; split <;> rfl
    show List.lookup x ((if (j == NameKind.free && env.scope.kind == .function && env.kindOf y == some .cell) = true then (y, NameKind.cell) else (y, j)) :: _) = _
    rw [this, List.lookup_cons]
    cases z : x == y with
    | true => rw [z] at h; exact sp1 h fun h => h ▸ beq_iff_eq.mp z ▸ rfl
    | false => rw [z] at h; exact relabel_look h
noncomputable def cenvOf (csc : Scope) (env : Env) (C : Addr) (cl : List (Str × Addr)) : Env :=
  { scope := relabel csc env, locals := C, globals := env.globals, cells := cellsFrom (C + 1) csc.names cl, qual := env.qual, func := none, code := env.code, frame := env.frame, builtins := env.builtins }
structure FLaid (h3 H5 : Heap) (C : Addr) (cs : List (Str × Addr)) : Prop where
  kp : ∀ b o, h3.get? b = some o → H5.get? b = some o
  ns : H5.Ns C fun j9 => none
  cell : ∀ x c, (x, c) ∈ cs → H5.IsCell c none
  ap : cs.Pairwise fun x y => x.2 ≠ y.2
  new : ∀ b ∈ cs.map (·.2) ++ [C], h3.get? b = none ∧ ∃ o, H5.get? b = some o
  CC : ∀ x c, (x, c) ∈ cs → c ≠ C
theorem lay_ok {h3 : Heap} (T : String) (names : List (Str × NameKind)) : FLaid h3 (pushCells (h3.push { cls := .type T, data := .dict #[] }) names) h3.objs.size (cellsFrom (h3.objs.size + 1) names []) := by
  have k4 : ∀ b o, (h3.push { cls := .type T, data := .dict #[] }).get? b = some o → (pushCells (h3.push { cls := .type T, data := .dict #[] }) names).get? b = some o := pushCells_keeps _ _
  have okc := cellsFrom_ok names (h3.push { cls := .type T, data := .dict #[] }) (h3.objs.size + 1) [] ⟨fun j9 j9 hm => (nomatch hm), List.Pairwise.nil⟩ (by rw [Heap.size_push]; exact Nat.le_refl _)
  rw [Heap.size_push] at okc
  have ns := (Heap.Ns.new h3 (.type T)).keeps k4
  refine ⟨fun b o e => k4 b o (Heap.get?_push_of_some _ e), ns, fun x c q => (okc.empty x c q).1, okc.apart, fun b hb => ?_, fun x c q z => Nat.lt_irrefl _ (z ▸ (okc.empty x c q).2)⟩
  rcases List.mem_append.mp hb with q | q
  · obtain ⟨p, hp, rfl⟩ := List.mem_map.mp q
    obtain ⟨⟨o, ho, _⟩, z⟩ := okc.empty p.1 p.2 hp
    exact ⟨none_ge (Nat.le_of_lt z), o, ho⟩
  · obtain ⟨o, es, ep, ho, _⟩ := ns
    exact List.mem_singleton.mp q ▸ ⟨none_ge (Nat.le_refl _), o, ho⟩
structure Laid (h2 H5 : Heap) (D C : Addr) (cs : List (Str × Addr)) : Prop where
  kp : ∀ b o, h2.get? b = some o → H5.get? b = some o
  dO : H5.get? D = some (seqO "list" [] 0)
  ns : H5.Ns C fun j9 => none
  cell : ∀ x c, (x, c) ∈ cs → H5.IsCell c none
  ap : cs.Pairwise fun x y => x.2 ≠ y.2
  new : ∀ b ∈ D :: (cs.map (·.2) ++ [C]), h2.get? b = none ∧ ∃ o, H5.get? b = some o
  DX : D ∉ cs.map (·.2) ++ [C]
  CC : ∀ x c, (x, c) ∈ cs → c ≠ C
theorem laid_of {h3 : Heap} (k : ∀ b o, h2.get? b = some o → h3.get? b = some o) (n : h2.get? D = none) (d : h3.get? D = some (seqO "list" [] 0)) (L : FLaid h3 H5 C cs) : Laid h2 H5 D C cs :=
  ⟨fun b o e => L.kp b o (k b o e), L.kp _ _ d, L.ns, L.cell, L.ap, fun b hb => (List.mem_cons.mp hb).elim (fun q => q ▸ ⟨n, _, L.kp _ _ d⟩) fun q => ⟨by
    cases z : h2.get? b with
    | none => rfl
    | some o => exact nos ((L.new b q).1.symm.trans (k b o z)), (L.new b q).2⟩, fun q => nos ((L.new D q).1.symm.trans d), L.CC⟩
theorem laid_ok (names : List (Str × NameKind)) : Laid h2 (pushCells ((h2.push { cls := .type "list", dict := none, data := .seq ([] : List Value).toArray }).push { cls := .type "dict", data := .dict #[] }) names) h2.objs.size (h2.push { cls := .type "list", dict := none, data := .seq ([] : List Value).toArray }).objs.size (cellsFrom ((h2.push { cls := .type "list", dict := none, data := .seq ([] : List Value).toArray }).objs.size + 1) names []) :=
  laid_of (fun b o e => Heap.get?_push_of_some _ e) (none_ge (Nat.le_refl _)) (Heap.get?_push_size _ rfl) (lay_ok "dict" names)
theorem cenv_look (cc : Clos env csc cl) {c : Addr} (q : (cenvOf csc env C cl).cells.lookup x = some c) : (x, c) ∈ cellsFrom (C + 1) csc.names [] ∨ env.cells.lookup x = some c := by
  replace q : (cellsFrom (C + 1) csc.names cl).lookup x = some c := q
  rw [cellsFrom_acc, List.lookup_append] at q
  cases z : (cellsFrom (C + 1) csc.names []).lookup x with
  | some c' => rw [z] at q; exact .inl (lookup_mem (z.trans q))
  | none => rw [z] at q; exact .inr (cc.E x c q)
theorem comp_frm (F : Frm S h g env sc loc X) (nm : namesOk csc.names = true) (hk : csc.kind = .function) (cap : capOk sc loc csc.names = true) (cc : Clos env csc cl) (La : Laid h2 H5 D C (cellsFrom (C + 1) csc.names [])) (kp : ∀ b o, h.get? b = some o → h2.get? b = some o)
    (M : Mono S h g H5 g') (hξ : ∀ b ∈ (cellsFrom (C + 1) csc.names []).map (·.2) ++ [C], b ∈ g'.ξ) (hgξ : ∀ b ∈ g.ξ, b ∈ g'.ξ) (al : ∀ b ∈ g.ξ, ∃ o, h.get? b = some o) :
    Frm S H5 g' (cenvOf csc env C cl) csc (captured csc loc) ((cellsFrom (C + 1) csc.names []).map (·.2) ++ [C]) := by
  have out : ∀ {x c}, env.cells.lookup x = some c → ∃ o, h2.get? c = some o := fun q => let ⟨o, ho⟩ := al _ (F.cxi _ _ q); ⟨o, kp _ _ ho⟩
  have inn : ∀ {x c}, (x, c) ∈ cellsFrom (C + 1) csc.names [] → c ∈ (cellsFrom (C + 1) csc.names []).map (·.2) ++ [C] := fun q => List.mem_append.mpr (.inl (List.mem_map.mpr ⟨_, q, rfl⟩))
  have inC : C ∈ (cellsFrom (C + 1) csc.names []).map (·.2) ++ [C] := List.mem_append.mpr (.inr List.mem_cons_self)
  have sep : ∀ {x y c}, (x, c) ∈ cellsFrom (C + 1) csc.names [] → env.cells.lookup y = some c → False := fun q w => let ⟨o, ho⟩ := out w; nos ((La.new _ (List.mem_cons_of_mem _ (inn q))).1.symm.trans ho)
  refine ⟨hk, F.glob, F.blt, fun x k q => ?_, ⟨_, La.ns, fun x v q1 q2 => nomatch q2.symm.trans (namesOk_nodup nm (captured_look q1).1).1⟩, fun x v k q1 q2 q3 => ?_, fun x q => ?_, fun x y c q1 q2 => ?_, inC, hξ, fun x c q => ?_, fun x c q => ?_, fun x k q => (namesOk_nodup nm (lookup_mem q)).2⟩
  · have this : (cenvOf csc env C cl).kindOf x = _ := relabel_look (env := env) q
    rw [this]
    unfold relK
    cases k
    case free =>
      show some (if _ then _ else _) = _ ∨ _
      split
      · exact .inr rfl
      · exact .inl rfl
    case globalExplicit => trivial
    all_goals rfl
  · obtain ⟨z, z2⟩ := captured_look q1
    obtain ⟨c, hc, hv⟩ := cap_cell F cap z
    obtain ⟨val, ⟨o, ho, hd⟩, y3⟩ := hv v z2
    refine ⟨c, val, ?_, ⟨o, La.kp _ _ (kp _ _ ho), hd⟩, y3.mono M⟩
    show (cellsFrom (C + 1) csc.names cl).lookup x = some c
    rw [cellsFrom_acc, List.lookup_append]
    cases w : (cellsFrom (C + 1) csc.names []).lookup x with
    | none =>
      obtain ⟨c', hc'⟩ := cc.fr x z
      exact hc'.trans ((cc.E x c' hc').symm.trans hc)
    | some c' => exact ((cellsFrom_mem (lookup_mem w)).elim (fun q => nomatch (namesOk_nodup nm q).1.symm.trans (namesOk_nodup nm z).1) nofun)
  · obtain ⟨c, hc⟩ := cellsFrom_has (n := C + 1) (acc := []) (.inl (lookup_mem q))
    refine ⟨c, none, ?_, La.cell x c (lookup_mem hc), inn (lookup_mem hc)⟩
    show (cellsFrom (C + 1) csc.names cl).lookup x = some c
    rw [cellsFrom_acc, List.lookup_append, hc]; rfl
  · rcases cenv_look cc q1 with z1 | z1 <;> rcases cenv_look cc q2 with z2 | z2
    · exact name_of_addr La.ap z1 z2
    · exact (sep z1 z2).elim
    · exact (sep z2 z1).elim
    · exact F.inj x y c z1 z2
  · exact (cenv_look cc q).elim (fun z => hξ c (inn z)) fun z => hgξ c (F.cxi x c z)
  · refine (cenv_look cc q).elim (La.CC x c) fun z w => ?_
    obtain ⟨o, ho⟩ := out z
    exact nos ((La.new C (List.mem_cons_of_mem _ inC)).1.symm.trans ((show c = C from w) ▸ ho))
end
end Mine.Internal
end
section
open PySem PySem.W PyProof.Rows PySem.Calls
namespace Mine.Internal
section
variable {S : Stc} {T : Top} {A : Around} {s s₁ s1 s2 s' s'' : Shared} {g g₁ g1 g2 gC g' : Gh} {ph ph1 ph' phE phL : List PO} {env : Env} {sc csc : Scope} {loc loc' : Loc} {X Y : List Addr} {n : Nat} {r : Ev} {C D : Addr} {acc acc' xs : List PV} {nl : Option Nat} {h h2 H5 h'' : Heap} {cl cs : List (Str × Addr)} {elt target iter : Expr} {ifs : List Expr} {gs : List Comprehension} {pos : Pos} {x : Str} {v : PV} {It : Value} {RR : Value → Addr → Result → Shared → Prop} {p : Pos}
theorem Mono.trans {h h1 h2 : Heap} (M : Mono S h g h1 g1) (M' : Mono S h1 g1 h2 g2) : Mono S h g h2 g2 :=
  ⟨fun a o e f => M'.keep a o (M.keep a o e f) (M.fz a o e f), fun a o e f => M'.fz a o (M.keep a o e f) (M.fz a o e f), fun n a e => M'.at_ n a (M.at_ n a e), Nat.le_trans M.tk M'.tk⟩
inductive CompEnd (S : Stc) (s1 : Shared) (g1 : Gh) (phE : List PO) (D C : Addr) (acc : List PV) (phL : List PO) (s' : Shared) : Prop
  | mk (gC : Gh) (I : Inv S s'.heap s'.toks gC phL) (T : Step S [C] s1.heap (enter [C] g1) phE s'.heap gC phL) (r : VR S s'.heap gC (.lst acc) (.ref D)) (nC : s1.heap.get? C = none) (ns : ∃ m, s'.heap.Ns C m) (m : Same s1 s')
theorem comp_core (O : TopOk S T) (H : Snd S r n) (a : AOk A n) (nm : namesOk csc.names = true) (hk : csc.kind = .function) (cap : capOk sc loc csc.names = true) (cc : Clos env csc cl) (I : Inv S s.heap s.toks g ph) (F : Frm S s.heap g env sc loc X) (it : Iter S s g ph target xs nl It s2)
    (La : Laid s2.heap H5 D C (cellsFrom (C + 1) csc.names [])) (e : itemsGo (bindT csc target) (fun loc ph => testsP r csc loc ifs ph) (compGo r T csc elt gs) xs (captured csc loc) [] (lockP nl ph) = some (loc', acc', phL)) (hRR : ∀ ⦃s'⦄, CompEnd S s g (lockP nl ph) D C acc' phL s' → RR (.ref D) C (.ok .next) s') :
    codeAny (MS S) A (.compStart (.ListComp elt (⟨target, iter, ifs, 0⟩ :: gs) csc pos) 0 It (.ref D) (cenvOf csc env C cl)) (RR (.ref D) C) { s2 with heap := H5 } := by
  obtain ⟨Ia, fp, wr, St, rfl, kp, htk, m0, fr, al, W, st0, hfp, hl⟩ := it
  generalize hX : (cellsFrom (C + 1) csc.names []).map (·.2) = cs'
  have new : ∀ b ∈ D :: (cs' ++ [C]), s2.heap.get? b = none := fun b hb => (La.new b (hX ▸ hb)).1
  have sdead : ∀ b ∈ D :: (cs' ++ [C]), s.heap.get? b = none := fun b hb => by
    cases q : s.heap.get? b with
    | none => rfl
    | some o => exact nos ((new b hb).symm.trans (kp b o q))
  have M0 := enter_mono (S := S) (g := g) kp fr
  have MT := enter_mono (S := S) (g := enter wr g) La.kp new
  have I0 := (I.enter kp fr al htk).enter La.kp new (fun b hb => (La.new b (hX ▸ hb)).2) (Nat.le_refl _)
  have hlen : ∀ {n a}, g.ρ[n]? = some a → n < ph.length := fun e => I.len ▸ (List.getElem?_eq_some_iff.mp e).1
  have Yw : ∀ b ∈ D :: (cs' ++ [C]), b ∉ wr := fun b hb z => let ⟨o, ho⟩ := al b z; nos ((new b hb).symm.trans ho)
  have DX : D ∉ cs' ++ [C] := hX ▸ La.DX
  have st5 : St 0 H5 := W.frame _ _ _ st0 fun b j9 o e => La.kp b o e
  have hCX : C ∈ cs' ++ [C] := List.mem_append.mpr (.inr List.mem_cons_self)
  have F5 : Frm S H5 (enter (D :: (cs' ++ [C])) (enter wr g)) (cenvOf csc env C cl) csc (captured csc loc) (cs' ++ [C]) := hX ▸ comp_frm F nm hk cap cc La kp (M0.trans (hX ▸ MT)) (fun b hb => List.mem_append.mpr (.inl (List.mem_cons_of_mem _ hb))) (fun b hb => List.mem_append.mpr (.inr (List.mem_append.mpr (.inr hb)))) fun b hb => (I.xi b hb).1
  have hDc : ∀ x c, (cenvOf csc env C cl).cells.lookup x = some c → c ≠ D ∧ c ∉ wr := fun x c q => (cenv_look cc q).elim (fun z =>
      have hc : c ∈ cs' ++ [C] := List.mem_append.mpr (.inl (hX ▸ List.mem_map.mpr ⟨_, z, rfl⟩))
      ⟨fun w => DX (w ▸ hc), Yw c (List.mem_cons_of_mem _ hc)⟩) fun z =>
    let ⟨⟨o, ho⟩, _⟩ := I.xi c (F.cxi x c z)
    ⟨fun w => nos ((sdead D List.mem_cons_self).symm.trans (w ▸ ho)), fun w => nos ((fr c w).symm.trans ho)⟩
  let L : LC S (cenvOf csc env C cl) csc (cs' ++ [C]) := ⟨target, xs, Ia, fp, wr, D :: (cs' ++ [C]), some D, St, s2.heap, enter wr g, { s2 with heap := H5 }, enter (D :: (cs' ++ [C])) (enter wr g), lockP nl ph, W, MT, fun b hb => (List.mem_append.mp hb).elim (fun q => List.mem_append.mpr (.inr (List.mem_append.mpr (.inl q)))) fun q => List.mem_append.mpr (.inl q), fun b hb => List.mem_cons_of_mem _ hb, Yw, fun x c q => (hDc x c q).2,
    fun b hb => (hfp b hb).imp id fun q => q.imp (fun ⟨q, o, ho⟩ => ⟨MT.fz b o (kp b o ho) (M0.fz b o ho q), o, La.kp b o (kp b o ho)⟩) fun ⟨n, q1, q2⟩ => ⟨n, q2, by rw [q1]; exact List.getElem?_set_self (hlen q2)⟩, fun D' h => Option.some.inj h ▸ ⟨List.mem_cons_self, DX⟩⟩
  have I5 : Inv S H5 s2.toks (enter (D :: (cs' ++ [C])) (enter wr g)) (lockP nl ph) := by
    cases nl with
    | none => exact I0
    | some n => exact (let ⟨a, vs, k, q1, q2, q3, ys, q4⟩ := hl n rfl; I0.setp q1 (I0.alive (List.mem_of_getElem? q1)))
  have R : Run L 0 (captured csc loc) [] (lockP nl ph) { s2 with heap := H5 } := ⟨_, I5, .refl, .refl, F5, fun D' h => Option.some.inj h ▸ ⟨[], 0, La.dO, .nil⟩, st5⟩
  refine compStart_ok a rfl W st5 (codeAny_mono (items_run a L rfl rfl (fun b hb => hb) (fun e => tests_ok H e) (compGo_ok O H a DX ⟨fun z => DX (z ▸ hCX), fun x c q => (hDc x c q).1⟩ rfl) R e (Q := fun s' => CompEnd S s g (lockP nl ph) D C acc' phL s') fun {s1 g1 h' tk} I1 T1 m1 F1 a1 kp2 htk2 => ?_) fun q s' hq => hq.1 ▸ hRR hq.2)
  have hCE : C ∈ g1.ξ := L.inY (List.mem_cons_of_mem _ hCX) T1
  have hs : ∀ b ∈ (enter [C] g).ξ, b ∈ g1.ξ := fun b hb => (List.mem_cons.mp hb).elim (fun q => q.symm ▸ hCE) fun q => T1.xi ▸ List.mem_append.mpr (.inr (List.mem_append.mpr (.inr q)))
  have hw : ∀ b ∈ wr, b ∈ g1.ξ := fun b hb => L.inW hb T1
  have hCY : C ∈ D :: (cs' ++ [C]) := List.mem_cons_of_mem _ hCX
  have hn : ∀ b ∈ (enter [C] g).ξ, b ∉ wr := fun b hb => (List.mem_cons.mp hb).elim (fun q => q ▸ Yw C hCY) fun q z => let ⟨⟨o, ho⟩, _⟩ := I.xi b q; nos ((fr b z).symm.trans ho)
  have MC : Mono S s1.heap g1 h' (unxi (enter [C] g) g1) := unxi_mono hs hw kp2
  obtain ⟨vs, k, z1, z2⟩ := a1 D rfl
  have hD := I1.xi D (L.inY List.mem_cons_self T1)
  have eL : L.wr ++ L.Y = (wr ++ D :: cs') ++ [C] := (List.append_assoc wr (D :: cs') [C]).symm
  rw [eL] at T1
  refine ⟨_, I1.unxi (g₀ := enter [C] g) hs hw hn kp2 htk2, Step.exit (g := enter [C] g) (fun b o e => La.kp b o (kp b o e)) (fun b hb => ?_) (fun b o q => kp2 b o fun z => q (List.mem_append.mpr (.inl z))) (fun b hb q => ?_) T1,
    .lst (kp2 D _ (Yw D List.mem_cons_self) z1) ⟨hD.2.1, fun q => ?_, fun t => let ⟨o, ho⟩ := S.tbIn D t; nos (hD.2.2.symm.trans ho)⟩ (z2.mono MC), sdead C hCY, F1.ns.elim fun m q => ⟨m, Ns.of_keep q.1 (kp2 C · (Yw C hCY))⟩, m0.trans (m1.trans ⟨rfl, id⟩)⟩
  · exact (List.mem_append.mp hb).elim (fr b) fun q => sdead b ((List.mem_cons.mp q).elim (fun q => q ▸ List.mem_cons_self) fun q => List.mem_cons_of_mem _ (List.mem_append.mpr (.inl q)))
  · rw [List.mem_singleton.mp hb] at q
    refine (List.mem_append.mp q).elim (Yw C hCY) fun q => (List.mem_cons.mp q).elim (fun q => DX (q ▸ hCX)) fun q => ?_
    obtain ⟨⟨y, c⟩, w1, w2⟩ := List.mem_map.mp (hX ▸ q)
    exact La.CC y c w1 w2
  · exact (List.mem_cons.mp q).elim (fun q => DX (q ▸ hCX)) fun q => let ⟨⟨o, ho⟩, _⟩ := I.xi D q; nos ((sdead D List.mem_cons_self).symm.trans ho)
theorem comp_run (O : TopOk S T) (H : Snd S r n) (a : AOk A n) (nm : namesOk csc.names = true) (hk : csc.kind = .function) (cap : capOk sc loc csc.names = true) (cc : Clos env csc cl) (I : Inv S s.heap s.toks g ph) (F : Frm S s.heap g env sc loc X) (it : Iter S s g ph target xs nl It s2)
    (e : itemsGo (bindT csc target) (fun loc ph => testsP r csc loc ifs ph) (compGo r T csc elt gs) xs (captured csc loc) [] (lockP nl ph) = some (loc', acc', phL)) (hRR : ∀ ⦃D C s'⦄, CompEnd S s g (lockP nl ph) D C acc' phL s' → RR (.ref D) C (.ok .next) s') :
    wpAny (MS S) A (PySem.newList []) (fun acc s₃ => wpAny (MS S) A (newFunctionEnv csc env.globals cl [] env.qual none .none (some env)) (fun cenv s₄ =>
      codeAny (MS S) A (.compStart (.ListComp elt (⟨target, iter, ifs, 0⟩ :: gs) csc pos) 0 It acc { cenv with scope := relabel csc env }) (RR acc cenv.locals) s₄) NoE s₃) NoE s2 :=
  wpAny_newObj_type (comp_env (comp_core (s2 := s2) O H a nm hk cap cc I F it (laid_ok (h2 := s2.heap) csc.names) e fun s' h => hRR h))
theorem CompEnd.drop (I1 : Inv S s1.heap s1.toks g1 ph) (IC : Inv S s'.heap s'.toks gC phL) (T : Step S [C] s1.heap (enter [C] g1) (lockP nl ph) s'.heap gC phL) (nC : s1.heap.get? C = none) (T2 : Step S Y s'.heap gC phL s''.heap g2 phL) (I2 : Inv S s''.heap s''.toks g2 phL) (hY : ∀ b ∈ Y, b ∈ g1.ξ)
    (hl : ∀ n, nl = some n → ∃ a vs k, g1.ρ[n]? = some a ∧ s1.heap.get? a = some (seqO "list" vs k) ∧ VRs S s1.heap g1 xs vs ∧ ∃ ys, ph[n]? = some (.list ys)) (u : unlockP nl xs phL = some ph') (hs : Heap.SameBut C s''.heap h'') :
    (Inv S h'' s''.toks (unxi g1 g2) ph' ∧ Step S Y s1.heap g1 ph h'' (unxi g1 g2) ph') ∧ Mono S s''.heap g2 h'' (unxi g1 g2) := by
  have hn : ∀ b ∈ g1.ξ, b ∉ [C] := fun b hb z => let ⟨⟨o, ho⟩, _⟩ := I1.xi b hb; nos (nC.symm.trans (List.mem_singleton.mp z ▸ ho))
  have kp : ∀ b o, b ∉ [C] → s''.heap.get? b = some o → h''.get? b = some o := fun b o hb => hs.extBut b o fun z => hb (List.mem_singleton.mpr z)
  have x2 : g2.ξ = C :: g1.ξ := T2.xi.trans T.xi
  have h1 : ∀ b ∈ g1.ξ, b ∈ g2.ξ := fun b hb => x2 ▸ List.mem_cons_of_mem _ hb
  have hw : ∀ b ∈ [C], b ∈ g2.ξ := fun b hb => x2 ▸ List.mem_singleton.mp hb ▸ List.mem_cons_self
  have U : Step S ([C] ++ Y) s1.heap (enter [C] g1) (lockP nl ph) s'.heap gC phL := ⟨fun b o e m t x => T.keep b o e m t fun q => x (List.mem_append.mpr (.inl q)), T.pre, T.xi, T.new, T.lock, fun b hb j9 => (IC.xi b (T.xi ▸ (List.mem_append.mp hb).elim (fun q => List.mem_append.mpr (.inl q)) fun q => List.mem_cons_of_mem _ (hY b q))).1, T.tk⟩
  refine ⟨unlock_ok hl I1 (I2.unxi (g₀ := g1) h1 hw hn kp (Nat.le_refl _)) (Step.exit (wr := [C]) (fun j9 j9 e => e) (fun b hb => List.mem_singleton.mp hb ▸ nC) kp (fun b hb => hn b (hY b hb)) (U.trans (T2.sub (fun b hb => List.mem_append.mpr (.inr hb)) (fun b hb => T.xi ▸ (List.mem_append.mp hb).elim (fun q => List.mem_append.mpr (.inl q)) fun q => List.mem_cons_of_mem _ (hY b q)) IC I2) IC)) hY u, unxi_mono h1 hw kp⟩
theorem comp_pst (c : CompEnd S s1 g1 (lockP nl ph) D C acc phL s') (I1 : Inv S s1.heap s1.toks g1 ph)
    (hl : ∀ n, nl = some n → ∃ a vs k, g1.ρ[n]? = some a ∧ s1.heap.get? a = some (seqO "list" vs k) ∧ VRs S s1.heap g1 xs vs ∧ ∃ ys, ph[n]? = some (.list ys)) (u : unlockP nl xs phL = some ph') : ∃ m, s'.heap.Ns C m ∧ ∀ h'', Heap.SameBut C s'.heap h'' → Pst S s1 g1 ph (.lst acc) ph' (.ref D) { s' with heap := h'' } :=
  let ⟨gC, IC, T, rD, nC, ⟨k, hk⟩, m⟩ := c
  ⟨k, hk, fun h'' hs => let ⟨⟨a, b⟩, M⟩ := CompEnd.drop I1 IC T nC (.refl (X := [])) IC nofun hl u hs; ⟨_, a, b, rD.mono M, m.trans ⟨rfl, id⟩⟩⟩
theorem comp_store (c : CompEnd S s1 g1 (lockP nl ph) D C acc phL s') (I1 : Inv S s1.heap s1.toks g1 ph) (F : Frm S s1.heap g1 env sc loc X) (hst : storable sc x = true)
    (hl : ∀ n, nl = some n → ∃ a vs k, g1.ρ[n]? = some a ∧ s1.heap.get? a = some (seqO "list" vs k) ∧ VRs S s1.heap g1 xs vs ∧ ∃ ys, ph[n]? = some (.list ys)) (u : unlockP nl xs phL = some ph') :
    wpAny (MS S) A (assign (.Name x p) env (.ref D)) (fun j9 s'' => ∃ m, s''.heap.Ns C m ∧ ∀ h', Heap.SameBut C s''.heap h' → PstS S s1 g1 ph env sc X (setL x (.lst acc) loc) ph' { s'' with heap := h' }) NoE s' := by
  obtain ⟨gC, IC, T, rD, nC, ⟨k, hk⟩, m⟩ := c
  have hC : ∀ b ∈ [C], s1.heap.get? b = none := fun b hb => List.mem_singleton.mp hb ▸ nC
  have nC' : ∀ b ∈ g1.ξ, b ≠ C := fun b hb z => let ⟨⟨o, ho⟩, _⟩ := I1.xi b hb; nos (nC.symm.trans (z ▸ ho))
  have hξ : ∀ b ∈ g1.ξ, b ∈ gC.ξ := fun b hb => T.xi ▸ List.mem_cons_of_mem _ hb
  have fx : ∀ b, b = env.locals ∨ (∃ x, env.cells.lookup x = some b) → b ∈ g1.ξ := fun b q => q.elim (fun q => q ▸ F.sub _ F.L) fun ⟨x, q⟩ => F.cxi x b q
  have FC : Frm S s'.heap gC env sc loc X := F.mono ((enter_mono (fun j9 j9 e => e) hC).trans (T.mono fun b hb => List.mem_append.mpr (.inl hb)))
    (fun b o q e => T.keep b o e (fun m => (I1.xi b (fx b q)).2.1 m.mem) (fun t => let ⟨o, ho⟩ := S.tbIn b t; nos ((I1.xi b (fx b q)).2.2.symm.trans ho)) fun z => nC' b (fx b q) (List.mem_singleton.mp z)) (fun b hb => hξ b (F.sub b hb)) fun y c q => hξ c (F.cxi y c q)
  refine wpAny_assign_Name (wpAny_mono (store_ok IC FC hst rD) (fun j9 s'' q => PstS.casesOn q fun g2 I2 T2 m2 F2 => ?_) fun j9 j9 z => z)
  have xC := IC.xi C (T.xi ▸ List.mem_cons_self)
  refine ⟨k, Ns.of_keep hk fun o ho => T2.keep C o ho (fun q => xC.2.1 q.mem) (fun t => let ⟨o, ho⟩ := S.tbIn C t; nos (xC.2.2.symm.trans ho)) fun q => nC' C (F.sub C q) rfl, fun h'' hs => ?_⟩
  obtain ⟨⟨a, b⟩, M⟩ := CompEnd.drop I1 IC T nC T2 I2 F.sub hl u hs
  exact ⟨_, a, b, m.trans (m2.trans ⟨rfl, id⟩), F2.mono M (fun b o q e => hs.extBut b o (nC' b (fx b q)) e) F.sub F.cxi⟩
theorem nb {b : Bool} (h : (!b) = false) : b = true := by cases b <;> first | rfl | exact nomatch h
theorem scOk_eq (h : scOk csc = true) : namesOk csc.names = true ∧ csc.kind = .function := by
  have h := Bool.and_eq_true_iff.mp h
  refine ⟨h.1, ?_⟩
  replace h := h.2
  generalize csc.kind = k at h ⊢
  cases k <;> first | rfl | exact nomatch h
theorem lc_gen (O : TopOk S T) (H : Snd S r n) (hsc : scOk csc = true) (cap : capOk sc loc csc.names = true) (hs : TSrc S n sc loc target iter ph xs nl ph1)
    (e : itemsGo (bindT csc target) (fun loc ph => testsP r csc loc ifs ph) (compGo r T csc elt gs) xs (captured csc loc) [] (lockP nl ph1) = some (loc', acc, phL)) {use : Option (Value → Sem Unit)} {pos2 : Pos} {Q : Value → Shared → Prop} (a : AOk A n) (I : Inv S s.heap s.toks g ph) (F : Frm S s.heap g env sc loc X)
    (hQ : ∀ {s3 g3 D C s'}, Inv S s3.heap s3.toks g3 ph1 → Step S [] s.heap g ph s3.heap g3 ph1 → Same s s3 → CompEnd S s3 g3 (lockP nl ph1) D C acc phL s' → (∀ n, nl = some n → ∃ a vs k, g3.ρ[n]? = some a ∧ s3.heap.get? a = some (seqO "list" vs k) ∧ VRs S s3.heap g3 xs vs ∧ ∃ ys, ph1[n]? = some (.list ys)) → compPost (MS S) A NoE use Q (.ref D) C (.ok .next) s') :
    wpAny (MS S) A (comprehension (.ListComp elt (⟨target, iter, ifs, 0⟩ :: gs) csc pos) csc env pos2 (PySem.newList []) false (eval iter env) use) Q NoE s := by
  obtain ⟨nm, hk⟩ := scOk_eq hsc
  obtain ⟨cl, cc⟩ := clos_ok F cap
  refine wpAny_comprehension_free rfl (hs.fold env) cc.eq hk (fun x hx hl => hl ▸ (namesOk_nodup nm hx).1) (wpAny_mono (hs.ok a I F) (fun x s1 h1 => wpAny_mono h1 (fun it s2 q => SrcEnd.casesOn q fun s3 g3 I3 T3 m3 hit => ?_) fun j9 j9 z => z) fun j9 j9 z => z)
  have hl := hit
  obtain ⟨_, _, _, _, _, _, _, _, _, _, _, _, _, hl⟩ := hl
  exact comp_run O H a nm hk cap cc I3 (F.step I T3) hit e fun D C s' c => hQ I3 T3 m3 c hl
theorem t_lc (O : TopOk S T) (H : Snd S r n) (hsc : scOk csc = true) (cap : capOk sc loc csc.names = true) (hs : TSrc S n sc loc target iter ph xs nl ph1)
    (e : itemsGo (bindT csc target) (fun loc ph => testsP r csc loc ifs ph) (compGo r T csc elt gs) xs (captured csc loc) [] (lockP nl ph1) = some (loc', acc, phL)) (u : unlockP nl xs phL = some ph') :
    TE S (n + 1) sc loc (.ListComp elt (⟨target, iter, ifs, 0⟩ :: gs) csc pos) ph (.lst acc) ph' :=
  ⟨rfl, fun {A env s g X} a I F => by
    rw [eval_ListComp]
    exact lc_gen O H hsc cap hs e (use := none) a.less I F fun I3 T3 m3 c hl => let ⟨m, hm, h⟩ := comp_pst c I3 hl u; ⟨m, hm, fun h'' q => (h h'' q).after T3 I3 m3⟩,
  fun _ {A env s g X x p} hst a I F => by
    show wpAny (MS S) A (comprehension _ csc env _ (PySem.newList []) false (eval iter env) (some (assign (.Name x p) env)) >>= fun j9 => pure ()) _ _ s
    refine wpAny_bind (wpAny_mono (Q := fun j9 s' => PstS S s g ph env sc X (setL x (.lst acc) loc) ph' s') (lc_gen O H hsc cap hs e a.less I F fun I3 T3 m3 c hl => ?_) (fun j9 s' q => wpAny_pure q) fun j9 j9 z => z)
    exact wpAny_mono (comp_store c I3 (F.step I T3) hst hl u) (fun _ s'' ⟨m, hm, h⟩ => ⟨m, hm, fun h' q => (h h' q).after (T3.up F I I3) I3 m3⟩) fun j9 j9 z => z⟩
theorem lc_of (O : TopOk S T) (H : Snd S r n) (e : listComp r T sc loc elt gs csc ph = some (v, ph')) : TE S (n + 1) sc loc (.ListComp elt gs csc pos) ph v ph' :=
  cG e fun g0 gs' q e => iTn e fun hq e => iSrc e fun xs nl ph1 e1 e => rC e fun loc1 acc ph2 e2 e => rC e2 fun loc3 acc3 phL e3 e4 => iPo e4 fun ph4 u e4 => sp3 e4 fun w1 w2 w3 => sp2 e fun z1 z2 => by
    subst q; subst w2; subst w3; subst z1; subst z2
    obtain ⟨target, iter, ifs, as⟩ := g0
    obtain ⟨h1, h3⟩ := Bool.or_eq_false_iff.mp hq
    obtain ⟨h1, h2⟩ := Bool.or_eq_false_iff.mp h1
    have h1 : as = 0 := bne_eq_false_iff_eq.mp h1
    subst h1
    exact t_lc O H (nb h2) (nb h3) (src_ok O H e1) e3 u
end
end Mine.Internal
end
section
open PySem PySem.W PyProof.Rows PySem.Calls
namespace Mine.Internal
section
variable {S : Stc} {T : Top} {P : PrimT} {A : Around} {s s₁ s' : Shared} {g g₁ : Gh} {ph ph1 ph2 ph3 ph' ph₁ ph₂ : List PO} {env : Env} {sc csc : Scope} {loc loc' : Loc} {X : List Addr} {n m : Nat} {r : Ev} {fl : Fl} {e t u o i v : Expr} {p q : Pos} {w w1 w2 w3 wa wb : PV} {x y : Str} {op : Operator} {val va vb : Value} {h h' : Heap} {xs ys : List PV} {es : List (Str × PV)} {po po' : PO} {a : Addr} {tk : Nat}
theorem tf {p : Prop} (h : true = false) : p := nomatch h
theorem PstS.flow (p : PstS S s g ph env sc X loc' ph' s') : PstF S s g ph env sc X .next loc' ph' .next s' :=
  let ⟨g', a, b, c, d⟩ := p; ⟨g', a, b, c, d, trivial⟩
theorem swaps_no (h : isComp v = false) (t : Option Expr) (l : Nat) : swapsWith v t l env = pure false := by
  cases v <;> first | rfl | exact tf h | (unfold swapsWith; rfl)
theorem inter_no (F : Frm S s.heap g env sc loc X) : interactive env = false := by
  unfold interactive
  rw [F.kind]; rfl
theorem ts_expr (hc : isComp v = false) (h : TE S n sc loc v ph w ph1) : TS S (n + 1) sc loc (.Expr v p) ph .next loc ph1 := fun {A env s g X} a I F =>
  wpAny_Expr_any (wpP (h.ok a.less I F) fun x s1 g1 I1 T1 r1 m1 => ⟨g1, I1, T1.up F I I1, m1, F.step I T1, trivial⟩) (inter_no F) (swaps_no hc _ _)
theorem ts_ret (h : TE S n sc loc v ph w ph1) : TS S (n + 1) sc loc (.Return (some v) p) ph (.ret w) loc ph1 := fun {A env s g X} a I F =>
  wpAny_Return_some (wpP (h.ok a.less I F) fun x s1 g1 I1 T1 r1 m1 => ⟨g1, I1, T1.up F I I1, m1, F.step I T1, r1⟩)
theorem ts_retn : TS S n sc loc (.Return none p) ph (.ret .none) loc ph := fun {A env s g X} a I F => wpAny_Return_none ⟨g, I, .refl, .refl, F, .none⟩
theorem ts_brk : TS S n sc loc (.Break p) ph .brk loc ph := fun {A env s g X} a I F => wpAny_Break ⟨g, I, .refl, .refl, F, trivial⟩
theorem comp_eq (hc : isComp v = true) (h : odd v = false) : ∃ a b c d, v = .ListComp a b c d := by
  cases v
  case ListComp => exact ⟨_, _, _, _, rfl⟩
  all_goals first | exact tf hc.symm | exact tf h
theorem ts_name (hs : storable sc x = true) (h : TE S n sc loc v ph w ph1) : TS S (n + 1) sc loc (.Assign [.Name x q] v p) ph .next (setL x w loc) ph1 := fun {A env s g X} a I F => by
  have plain : swapsWith v (some (.Name x q)) p.line env = pure false → wpAny (MS S) A (exec (.Assign [.Name x q] v p) env) (PstF S s g ph env sc X .next (setL x w loc) ph1) NoE s := fun hb =>
    wpAny_Assign_Name (wpP (h.ok a.less I F) fun val s1 g1 I1 T1 r1 m1 => wpAny_mono (store_ok I1 (F.step I T1) hs r1) (fun j9 s' p' => (p'.after (T1.up F I I1) I1 m1).flow) fun j9 j9 z => z) hb
  cases hc : isComp v with
  | false => exact plain (swaps_no hc _ _)
  | true =>
    obtain ⟨v1, v2, v3, v4, rfl⟩ := comp_eq hc h.no
    obtain ⟨b, hb⟩ : ∃ b : Bool, swapsWith (.ListComp v1 v2 v3 v4) (some (.Name x q)) p.line env = pure b := ⟨_, rfl⟩
    cases b with
    | false => exact plain hb
    | true =>
      rw [exec_Assign_Name_used _ _ _ _ hb]
      exact wpAny_bind (wpAny_standAt (wpAny_bind (wpAny_mono (h.use hc hs a.less I F) (fun j9 s' p' => wpAny_pure p'.flow) fun j9 j9 z => z)))
theorem ts_two (hq : (storable sc x && storable sc y && !isComp v) = true) {p1 p2 : Pos} (h : TE S n sc loc v ph w ph1) : TS S (n + 1) sc loc (.Assign [.Name x p1, .Name y p2] v p) ph .next (setL y w (setL x w loc)) ph1 := fun {A env s g X} a I F => by
  obtain ⟨hq, _⟩ := Bool.and_eq_true_iff.mp hq
  obtain ⟨q1, q2⟩ := Bool.and_eq_true_iff.mp hq
  refine wpAny_Assign_two (wpP (h.ok a.less I F) fun val s1 g1 I1 T1 r1 m1 => ?_)
  have F1 := F.step I T1
  refine wpAny_assign_Name (wpAny_mono (store_ok I1 F1 q1 r1) (fun j9 s2 q => PstS.casesOn q fun g2 I2 T2 m2 F2 => ?_) fun j9 j9 z => z)
  exact wpAny_assign_Name (wpAny_mono (store_ok I2 F2 q2 (r1.mono (T2.mono F1.sub))) (fun j9 s3 p3 => ((p3.after T2 I2 m2).after (T1.up F I I1) I1 m1).flow) fun j9 j9 z => z)
theorem Frm.congr (F : Frm S h g env sc loc X) (e : ∀ x, look x loc' = look x loc) : Frm S h g env sc loc' X :=
  ⟨F.kind, F.glob, F.blt, F.kd, F.ns.elim fun m z => ⟨m, z.1, fun x v e1 e2 => z.2 x v (e x ▸ e1) e2⟩, fun x v k e1 e2 e3 => F.cell x v k (e x ▸ e1) e2 e3, F.own, F.inj, F.L, F.sub, F.cxi, F.nl, F.dbg⟩
theorem look_swap {v u : PV} (hxy : x ≠ y) (z : Str) : look z (setL y u (setL x v loc)) = look z (setL x v (setL y u loc)) := by
  rw [look_setL, look_setL, look_setL, look_setL]
  by_cases h1 : z = y
  · rw [if_pos h1, if_neg (fun q => hxy (q.symm.trans h1)), if_pos h1]
  · rw [if_neg h1, if_neg h1]
theorem if0 {c : Bool} {t : Sem (Option (List Str))} {Q : Option (List Str) → Shared → Prop} (h0 : Q none s) (k : c = false → wpAny (MS S) A t Q NoE s) : wpAny (MS S) A (if c = true then pure none else t) Q NoE s := by
  cases c with
  | true => exact wpAny_pure h0
  | false => exact k rfl
set_option tactic.hygienic true in
theorem swapped_ok {ts : List Expr} {k} {Q : Option (List Str) → Shared → Prop} (hc : constAlone v = false) (h0 : Q none s) (h1 : ∀ names, (ts.filterMap fun
    | .Name id pos => if env.kindOf id == some .local && pos.line == (ts.head?.map (·.pos.line)).getD 0 then some id else none
    | _ => none) = names → names.length = ts.length → Q (some names) s) : wpAny (MS S) A (swappedStores [.Tuple ts k p] v env) Q NoE s := by
  cases v
  case Tuple vs kk pp =>
    unfold swappedStores
    dsimp only
    refine if0 h0 fun j9 => if0 h0 fun j9 => if0 h0 fun hn => if0 h0 fun j9 => ?_
    replace hc : vs.all (constantsAlone 8) = false := hc
    rw [hc]
    exact wpAny_pure (h1 _ rfl (bne_eq_false_iff_eq.mp (Bool.or_eq_false_iff.mp hn).1))
  all_goals exact wpAny_pure h0
end
end Mine.Internal
end
section
open PySem PySem.W PyProof.Rows PySem.Calls
namespace Mine.Internal
section
variable {S : Stc} {T : Top} {P : PrimT} {A : Around} {s s₁ s' : Shared} {g g₁ : Gh} {ph ph1 ph2 ph3 ph' ph₁ ph₂ : List PO} {env : Env} {sc csc : Scope} {loc loc' : Loc} {X : List Addr} {n m : Nat} {r : Ev} {fl : Fl} {e t u o i v : Expr} {p p1 p2 q : Pos} {w w1 w2 w3 wa wb : PV} {x y : Str} {op : Operator} {val va vb xo xy : Value} {h h' : Heap} {xs ys : List PV} {es : List (Str × PV)} {po po' : PO} {a l b : Addr} {tk : Nat} {ws us : List Value} {k j : Nat}
theorem ite_or {α : Type} (c : Prop) [Decidable c] {a : α} : (if c then some a else none) = some a ∨ (if c then some a else none) = none := by
  split
  · exact .inl rfl
  · exact .inr rfl
theorem pair_names {f : Expr → Option Str} (hl : ([t, u].filterMap f).length = 2) (hx : f t = some x ∨ f t = none) (hy : f u = some y ∨ f u = none) : [t, u].filterMap f = [x, y] := by
  rw [List.filterMap_cons, List.filterMap_cons, List.filterMap_nil] at hl ⊢
  rcases hx with q | q <;> rw [q] at hl ⊢ <;> rcases hy with q | q <;> rw [q] at hl ⊢ <;> first | rfl | exact absurd hl nofun
theorem swap_stores {val : Value} (hxy : x ≠ y) (q4 : storable sc x = true) (q5 : storable sc y = true) (a : A.handled = none) (I : Inv S s.heap s.toks g ph) (F : Frm S s.heap g env sc loc X) (rv : VR S s.heap g (.tup [wa, wb]) val) (st : List (Value → Sem Unit)) :
    wpAny (MS S) A (assignStores env val (some [x, y]) st) (PstF S s g ph env sc X .next (setL y wb (setL x wa loc)) ph) NoE s :=
  rv.eTup fun ta ws tk q h1 j9 h3 => q ▸ eTwo (motive := fun ws => s.heap.get? ta = some (seqO "tuple" ws tk) → wpAny (MS S) A (assignStores env (.ref ta) (some [x, y]) st) (PstF S s g ph env sc X .next (setL y wb (setL x wa loc)) ph) NoE s) h3 (fun xa xb ra rb h1 => by
    unfold assignStores
    refine wpAny_bind (wpAny_rule (wpAny_bind (wpAny_up (wpAny_unpackItems_tuple (items := #[xa, xb]) a ⟨_, h1, rfl, tk, rfl⟩ fun h' hx j9 => ?_))))
    obtain ⟨g2, I2, T2, _, m2⟩ := Pst.grow (s := s) (t := s.toks) (v := .none) (x := .none) I (fun b o e => hx b o (fun q => nos ((none_size s.heap).symm.trans (q ▸ e))) e) (Nat.le_refl _) .none
    have F2 := F.step I T2
    refine wpAny_bind (wpAny_assignInOrder_more (wpAny_bindName (wpAny_mono (store_ok (s := { s with heap := h' }) I2 F2 q5 (rb.mono (T2.mono nofun))) (fun j9 s3 q => PstS.casesOn q fun g3 I3 T3 m3 F3 => ?_) fun j9 j9 z => z)))
    refine wpAny_assignInOrder_more (wpAny_bindName (wpAny_mono (store_ok I3 F3 q4 ((ra.mono (T2.mono nofun)).mono (T3.mono F2.sub))) (fun j9 s4 q => PstS.casesOn q fun g4 I4 T4 m4 F4 => ?_) fun j9 j9 z => z))
    exact wpAny_assignInOrder_none (wpAny_pure ⟨g4, I4, (T2.up F I I2).trans (T3.trans T4 I3) I2, m2.trans (m3.trans m4), F4.congr fun z => look_swap hxy z, trivial⟩)) h1
theorem ts_pair {k} (hc : isComp v = false) (hk : constAlone v = false) (hxy : x ≠ y) (q4 : storable sc x = true) (q5 : storable sc y = true) (h : TE S n sc loc v ph (.tup [wa, wb]) ph1) :
    TS S (n + 1) sc loc (.Assign [.Tuple [.Name x p1, .Name y p2] k q] v p) ph .next (setL y wb (setL x wa loc)) ph1 := fun {A env s g X} a I F => by
  rw [exec_Assign_arm]
  refine wpAny_bind (wpAny_standAt ?_)
  rw [show swapsWithSole [.Tuple [.Name x p1, .Name y p2] k q] v p.line env = pure false from (by unfold swapsWithSole; exact swaps_no hc _ _)]
  refine wpAny_bind (wpAny_pure ?_)
  rw [if_neg Bool.false_ne_true]
  refine wpAny_bind (wpP (h.ok a.less I F) fun val s1 g1 I1 T1 r1 m1 => ?_)
  have F1 := F.step I T1
  have fin : ∀ {f s'}, PstF S s1 g1 ph1 env sc X .next (setL y wb (setL x wa loc)) ph1 f s' → PstF S s g ph env sc X .next (setL y wb (setL x wa loc)) ph1 f s' := fun q => q.after (T1.up F I I1) I1 m1
  refine wpAny_bind (swapped_ok hk ?_ fun names hn hl => ?_)
  · unfold assignStores
    exact wpAny_bind (wpAny_mono (tb_tup (k := k) (tn_cons q4 (tn_cons q5 tn_nil)) a.hand I1 F1 r1) (fun j9 s2 p2 => wpAny_pure (fin p2.flow)) fun j9 j9 z => z)
  · subst hn
    rw [pair_names (x := x) (y := y) hl (ite_or _) (ite_or _)]
    exact wpAny_mono (swap_stores hxy q4 q5 a.hand I1 F1 r1 _) (fun j9 j9 q => fin q) fun j9 j9 z => z
theorem put_end (I : Inv S s.heap s.toks g ph) (hn : g.ρ[m]? = some a) (hl : ph[m]? = some po) (hpo : po ≠ .lock) (hpo' : po' ≠ .lock) (hs : ∀ b o, b ≠ a → s.heap.get? b = some o → h'.get? b = some o) (hk : s.toks ≤ tk)
    (hor : Mono S s.heap g h' g → OR S h' g po' a) : PstU S s g ph (ph.set m po') { s with heap := h', toks := tk } :=
  ⟨{ g with tk := g.tk }, I.put hn hl hs (Nat.le_refl _) (Nat.le_trans I.tk hk) (hor (put_mono (m := g.tk) I hn hs (Nat.le_refl _))), .put I hn hl hpo hpo' hs (Nat.le_refl _) nofun, ⟨rfl, id⟩⟩
theorem setItem_seq {i : Int} {t : Tok} {v : Value} {Q : Unit → Shared → Prop} (hl : s.heap.get? l = some (seqO "list" ws k)) (h0 : 0 ≤ i) (hn : i < ws.length) (hsz : ws.length ≤ 1000)
    (hQ : ∀ h' k', h'.get? l = some (seqO "list" (ws.set i.toNat v) k') → (∀ (c : Addr) (o : Obj), c ≠ l → s.heap.get? c = some o → h'.get? c = some o) → Q () { s with heap := h' }) :
    wpAny (MS S) A (setItem (.ref l) (.int i t) v) Q NoE s := by
  have hi : s.heap.IsList l ws.toArray := ⟨_, hl, rfl, k, rfl⟩
  unfold setItem
  try with_reducible refine wpAny_holding ?_
  first | refine wpAny_bind (wpAny_pure ?_) | skip
  refine wpAny_bind (wpAny_sequenceKey hi.typeIs (by decide) ?_)
  refine wpAny_bind (wpAny_callSpecial?_slot (name := Str.ofString "__setitem__") hi.typeIs slot_list_setitem
    (wpAny_call_entry slot_list_setitem hi.typeIs entry_list_setitem ?_ (args_list_setitem _ _ _)))
  show wpAny _ _ (Builtin.List.listSubscript? (.int i t) >>= _) _ _ s
  refine wpAny_bind (wpAny_listSubscript_int (fitsIndex_of h0 (Int.lt_of_lt_of_le hn (by omega))) ?_)
  obtain ⟨j, rfl⟩ := Int.eq_ofNat_of_zero_le h0
  have hj : j < ws.toArray.size := by rw [List.size_toArray]; exact Int.ofNat_lt.mp hn
  show wpAny _ _ ((seqItemAt l j >>= fun r => pure (r.map (j, ·))) >>= _) _ _ s
  refine wpAny_bind (wpAny_bind (wpAny_seqItemAt hl rfl (wpAny_pure ?_)))
  rw [show ws.toArray[j]? = some ws.toArray[j] from Array.getElem?_eq_getElem hj]
  show wpAny _ _ (setSeqItemAt l j v >>= _) _ _ s
  have fin : Q () { s with heap := s.heap.update l (Obj.mapSeq (·.setIfInBounds j v)) } := by
    refine hQ _ (if (ws.toArray.setIfInBounds j v).size == ws.toArray.size then k else k + 1) ?_ fun c o hc e => Heap.get?_update_of_ne _ (Ne.symm hc) e
    have := get?_update_seq (c := "list") (xs := ws.toArray) (n := k) hl (·.setIfInBounds j v)
    rw [this]
    simp [seqO, seqObj]
  refine wpAny_bind (wpAny_setSeqItemAt hl rfl ?_)
  first
    | exact wpAny_bind (wpAny_pure (wpAny_pure ⟨.none, rfl, wpAny_pure fin⟩))
    | exact wpAny_pure ⟨.none, rfl, wpAny_pure fin⟩
theorem VRs.set {w : PV} {v : Value} (r : VR S h g w v) : ∀ {xs : List PV} {vs : List Value} {i : Nat}, VRs S h g xs vs → VRs S h g (xs.set i w) (vs.set i v)
  | [], _, _, rs => rs.eNil fun q => q ▸ .nil
  | _ :: _, _, 0, rs => rs.eCons fun j9 j9 q a b => q ▸ .cons r b
  | _ :: _, _, _ + 1, rs => rs.eCons fun j9 j9 q a b => q ▸ .cons a (VRs.set r b)
theorem stored_any {kx : Str} : ∀ {es : List (Str × PV)} {kvs : List (Str × Value)}, kvs.map (·.1) = es.map (·.1) → kvs.any (fun kv => kv.1 = kx) = es.any (fun p => sEq p.1 kx)
  | [], kvs, h => by rw [List.map_eq_nil_iff.mp h]; rfl
  | p :: es, kvs, h => by
    obtain ⟨q, kvs, rfl, h1, h2⟩ := List.map_eq_cons_iff.mp h
    rw [List.any_cons, List.any_cons, stored_any h2, sEq_eq, show q.1 = p.1 from h1]
    rfl
theorem stored_map {kx : Str} {v : PV} {x : Value} (r : VR S h g v x) : ∀ {es : List (Str × PV)} {kvs : List (Str × Value)}, kvs.map (·.1) = es.map (·.1) → VRs S h g (es.map (·.2)) (kvs.map (·.2)) →
    (kvs.map (fun kv => if kv.1 = kx then (kv.1, x) else kv)).map (·.1) = (es.map fun p => match sEq p.1 kx with | true => (p.1, v) | false => p).map (·.1) ∧
    VRs S h g ((es.map fun p => match sEq p.1 kx with | true => (p.1, v) | false => p).map (·.2)) ((kvs.map (fun kv => if kv.1 = kx then (kv.1, x) else kv)).map (·.2))
  | [], kvs, hk, _ => by rw [List.map_eq_nil_iff.mp hk]; exact ⟨rfl, .nil⟩
  | p :: es, kvs, hk, hv => by
    obtain ⟨q, kvs, rfl, h1, h2⟩ := List.map_eq_cons_iff.mp hk
    refine hv.eCons fun u us e r1 r2 => ?_
    obtain ⟨e1, e2⟩ := List.cons.inj e
    subst e1; subst e2
    obtain ⟨i1, i2⟩ := stored_map r h2 r2
    rw [List.map_cons, List.map_cons, List.map_cons, List.map_cons, List.map_cons, List.map_cons]
    cases z : sEq p.1 kx with
    | true =>
      rw [if_pos (h1.trans (sEq_iff.mp z))]
      exact ⟨by rw [i1]; exact congrArg (· :: _) h1, .cons r i2⟩
    | false =>
      rw [if_neg fun y => nomatch z.symm.trans (sEq_iff.mpr (h1.symm.trans y))]
      exact ⟨by rw [i1]; exact congrArg (· :: _) h1, .cons r1 i2⟩
theorem stored_ok {kx : Str} {v : PV} {x : Value} {kvs : List (Str × Value)} (hk : kvs.map (·.1) = es.map (·.1)) (hv : VRs S h g (es.map (·.2)) (kvs.map (·.2))) (r : VR S h g v x) :
    (stored kvs kx x).map (·.1) = (storedP kx v es).map (·.1) ∧ VRs S h g ((storedP kx v es).map (·.2)) ((stored kvs kx x).map (·.2)) := by
  unfold stored storedP
  rw [stored_any hk]
  cases w : es.any (fun p => sEq p.1 kx) with
  | true => rw [if_pos rfl]; exact stored_map r hk hv
  | false =>
    rw [if_neg Bool.false_ne_true, List.map_append, List.map_append, List.map_append, List.map_append]
    exact ⟨by rw [hk]; rfl, hv.append (.cons r .nil)⟩
end
end Mine.Internal
end
section
open PySem PySem.W PyProof.Rows PySem.Calls
namespace Mine.Internal
section
variable {S : Stc} {T : Top} {P : PrimT} {A : Around} {s s₁ s' : Shared} {g g₁ : Gh} {ph ph1 ph2 ph3 ph' ph₁ ph₂ : List PO} {env : Env} {sc csc : Scope} {loc loc' : Loc} {X : List Addr} {n m : Nat} {r : Ev} {fl : Fl} {e t u o i v : Expr} {p p1 p2 q : Pos} {w w1 w2 w3 wa wb : PV} {x y : Str} {op : Operator} {val va vb xo xy : Value} {h h' : Heap} {xs ys : List PV} {es : List (Str × PV)} {po po' : PO} {a l b : Addr} {tk : Nat} {ws us : List Value} {k j : Nat}
noncomputable def TSt (S : Stc) (o i v : PV) (ph ph' : List PO) : Prop := ∀ ⦃A : Around⦄ ⦃s : Shared⦄ ⦃g : Gh⦄ ⦃xo xi xv : Value⦄, Inv S s.heap s.toks g ph → VR S s.heap g o xo → VR S s.heap g i xi → VR S s.heap g v xv → wpAny (MS S) A (setItem xo xi xv) (fun j9 s' => PstU S s g ph ph' s') NoE s
theorem dictAt_eq (e : dictAt ph n = some es) : ph[n]? = some (.dict es) := by
  unfold dictAt at e
  generalize ph[n]? = o at e ⊢
  cases o with
  | none => exact nos e
  | some po => cases po <;> first | exact congrArg (fun x => some (PO.dict x)) (Option.some.inj e) | exact nos e
theorem st_list {i : Int} (hm : ph[m]? = some (.list xs)) (hi : asI w1 = some i) (hq : (decide (0 ≤ i) && decide (i < xs.length) && Nat.ble xs.length 1000) = true) : TSt S (.obj m) w1 w ph (ph.set m (.list (xs.set i.toNat w))) := fun A s g xo xi xv I ro ri rv => by
  obtain ⟨q, q3⟩ := Bool.and_eq_true_iff.mp hq
  obtain ⟨q1, q2⟩ := Bool.and_eq_true_iff.mp q
  refine ro.eObj fun a e hr => eI hi ri fun t => ?_
  subst e
  obtain ⟨vs, kk, z1, z2⟩ := I.obj _ _ _ hm hr
  have hl := z2.length
  exact setItem_seq z1 (of_decide_eq_true q1) (hl ▸ of_decide_eq_true q2) (hl ▸ Nat.le_of_ble_eq_true q3) fun h' k' hh hs => put_end I hr hm nofun nofun hs (Nat.le_refl _) fun M => ⟨_, k', hh, .set (rv.mono M) (z2.mono M)⟩
theorem st_dict (hm : ph[m]? = some (.dict es)) (hi : w1.asStr = some x) (hq : Nat.ble es.length 1000 = true) : TSt S (.obj m) w1 w ph (ph.set m (.dict (storedP x w es))) := fun A s g xo xi xv I ro ri rv => by
  refine ro.eObj fun a e hr => eS hi ri fun t => ?_
  subst e
  obtain ⟨kvs, ep, z1, z2, z3⟩ := I.obj _ _ _ hm hr
  have hlen : kvs.length = es.length := by have := congrArg List.length z2; rwa [List.length_map, List.length_map] at this
  refine wpAny_setItem_pairs (knd := strKind S.prog S.w) (k := x) (by show Value.isStrOf x (.str x t) = true; simp [Value.isStrOf]) z1.dictOf (fun h' hd hs => ?_) (by have hq := Nat.le_of_ble_eq_true hq; rw [sizeLine_eq]; omega)
  obtain ⟨ep', hd'⟩ := hd.dictAt
  obtain ⟨w1, w2⟩ := stored_ok (kx := x) z2 z3 rv
  exact put_end I hr hm nofun nofun (fun b ob hb e => hs.extBut b ob hb e) (Nat.le_succ _) fun M => ⟨_, ep', hd', w1, w2.mono M⟩
theorem store_of (e : storeP w1 w2 w ph = some ph') : TSt S w1 w2 w ph ph' :=
  iN e fun n hn e => oL e (fun xs hx e => iI e fun i hi e => iT e fun hq e => sp1 e fun q => q ▸ asObj_eq hn ▸ st_list (listAt_eq hx) hi hq) fun j9 e => iE e fun es hd e => iS e fun x hi e => iT e fun hq e => sp1 e fun q => q ▸ asObj_eq hn ▸ st_dict (dictAt_eq hd) hi hq
theorem ts_item (hc : isComp v = false) (h1 : TE S n sc loc v ph w ph1) (h2 : TE S n sc loc o ph1 w1 ph2) (h3 : TE S n sc loc i ph2 w2 ph3) (h4 : TSt S w1 w2 w ph3 ph') : TS S (n + 1) sc loc (.Assign [.Subscript o i q] v p) ph .next loc ph' := fun {A env s g X} a I F =>
  wpAny_Assign_Subscript (wpP (h1.ok a.less I F) fun xv s1 g1 I1 T1 r1 m1 => wpP (h2.ok a.less I1 (F.step I T1)) fun xo s2 g2 I2 T2 r2 m2 => wpP (h3.ok a.less I2 ((F.step I T1).step I1 T2)) fun xi s3 g3 I3 T3 r3 m3 =>
    wpAny_mono (h4 I3 (r2.step T3) r3 ((r1.step T2).step T3)) (fun j9 s4 q => PstU.casesOn q fun g4 I4 T4 m4 =>
      have TT := ((T1.trans T2 I1).trans T3 I2).trans T4 I3
      ⟨g4, I4, TT.up F I I4, ((m1.trans m2).trans m3).trans m4, F.step I TT, trivial⟩) fun j9 j9 z => z) (swaps_no hc _ _)
noncomputable def TAg (S : Stc) (op : Operator) (o v : PV) (ph : List PO) (w : PV) (ph' : List PO) : Prop := ∀ ⦃A : Around⦄ ⦃s : Shared⦄ ⦃g : Gh⦄ ⦃xo xv : Value⦄, Inv S s.heap s.toks g ph → VR S s.heap g o xo → VR S s.heap g v xv → wpAny (MS S) A (inplaceOp op xo xv) (Pst S s g ph w ph') NoE s
theorem seq_iadd : seqSlot? (.type "list") (dunderI "add") = pure (some (.builtin "list.__iadd__")) := PySem.seqSlot_of F.slot_list_iadd.lookup (by decide +kernel)
theorem iadd_list {Q : Value → Shared → Prop} (h1 : s.heap.get? l = some (seqO "list" ws k)) (h2 : s.heap.get? b = some (seqO "list" us j)) (hsz : ws.length + us.length ≤ 1000)
    (hQ : ∀ h' k', h'.get? l = some (seqO "list" (ws ++ us) k') → (∀ (c : Addr) (o : Obj), c ≠ l → s.heap.get? c = some o → h'.get? c = some o) → Q (.ref l) { s with heap := h' }) :
    wpAny (MS S) A (inplaceOp .Add (.ref l) (.ref b)) Q NoE s := by
  have ha : s.TypeIs (.ref l) "list" := ⟨_, h1, rfl⟩
  have hb : s.TypeIs (.ref b) "list" := ⟨_, h2, rfl⟩
  unfold inplaceOp
  refine wpAny_holding ?_
  have hfi : fillsInplaceSlot (.type "list") "add" (Operator.Add == .Add) = pure false := by
    unfold fillsInplaceSlot
    show (typeLookup (.type "list") (dunderI "add") >>= fun fi => pure (fi.isSome && !isSeqSlot fi)) = pure false
    rw [F.slot_list_iadd.lookup]
    show (pure (true && !isSeqSlot (some (.builtin "list.__iadd__"))) : Sem Bool) = pure false
    rw [show isSeqSlot (some (.builtin "list.__iadd__")) = true from by decide +kernel]
    rfl
  refine wpAny_bind (wpAny_typeOf ha (wpAny_bind (wpAny_of_eq hfi ?_)))
  show wpAny _ A (if false = true then _ else _) Q _ s
  rw [if_neg Bool.false_ne_true]
  refine wpAny_bind (wpAny_binaryOp1_none (nm := "add") ha hb noFill_list_add ?_)
  refine wpAny_bind (wpAny_of_eq seq_iadd ?_)
  refine wpAny_bind (wpAny_rule ?_)
  have e24 : sizeLine = 16777216 := sizeLine_eq
  refine call_meets F.slot_list_iadd ha F.entry_list_iadd (F.args_list_iadd_2 _ _) (AutoSeq1.list___iadd___list_list_0 l ws.toArray k b us.toArray j ?_ ?_ ?_) ⟨h1, h2, ?_⟩
  · simp [Builtin.List.listTooLong]; omega
  · simp; omega
  · simp; omega
  · refine hQ _ (if (ws.toArray ++ us.toArray).size == ws.toArray.size then k else k + 1) ?_ fun c o hc e => Heap.get?_update_of_ne _ (Ne.symm hc) e
    have := get?_update_seq (c := "list") (xs := ws.toArray) (n := k) h1 (fun x => x ++ us.toArray)
    rw [this]
    simp [seqO, seqObj]
theorem isAdd_eq (h : isAdd op = true) : op = .Add := by cases op <;> first | rfl | exact tf h.symm
theorem ag_list (hm : ph[m]? = some (.list xs)) (hq : Nat.ble (xs.length + ys.length) 1000 = true) : TAg S .Add (.obj m) (.lst ys) ph (.obj m) (ph.set m (.list (xs ++ ys))) := fun A s g xo xv I ro rv => by
  refine ro.eObj fun a e hr => rv.eLst fun b us j e' h2 j9 h3 => ?_
  subst e; subst e'
  obtain ⟨vs, k, z1, z2⟩ := I.obj _ _ _ hm hr
  refine iadd_list z1 h2 (by rw [z2.length, h3.length]; exact Nat.le_of_ble_eq_true hq) fun h' k' hh hs => ?_
  obtain ⟨g', I', T', m'⟩ := put_end (tk := s.toks) (po' := .list (xs ++ ys)) I hr hm nofun nofun hs (Nat.le_refl _) fun M => ⟨_, k', hh, (z2.append h3).mono M⟩
  exact ⟨g', I', T', .obj (T'.at_ hr), m'⟩
theorem ag_int {i j k : Int} (h1 : asI w1 = some i) (h2 : asI w2 = some j) (h : augI op i j = some k) : TAg S op w1 w2 ph (.int k) ph := fun A s g xo xv I ro rv => eI h1 ro fun t => eI h2 rv fun u => by
  cases op
  case Add => exact sp1 h fun q => q ▸ PyProof.Rows.iadd_int (Pst.here I (Nat.le_succ _) (.int _ _))
  case Sub => exact sp1 h fun q => q ▸ PyProof.Rows.isub_int (Pst.here I (Nat.le_succ _) (.int _ _))
  all_goals exact nos h
theorem aug_of (e : augP op w1 w2 ph = some (w, ph')) : TAg S op w1 w2 ph w ph' :=
  oN e (fun n hn e => iL e fun xs hx e => iL e fun ys hy e => iT e fun hq e => sp2 e fun z1 z2 => by
    obtain ⟨q1, q2⟩ := Bool.and_eq_true_iff.mp hq
    subst z1; subst z2
    rw [isAdd_eq q1, asObj_eq hn, asLst_eq hy]
    exact ag_list (listAt_eq hx) q2) fun j9 e => oI e (fun i hi e => iI e fun j hj e => iI e fun k hk e => sp2 e fun z1 z2 => z1 ▸ z2 ▸ ag_int hi hj hk) fun j9 e => nos e
theorem ts_aug (O : TopOk S T) (hn : nameP T sc loc x = some w1) (hs : storable sc x = true) (h1 : TE S n sc loc v ph w2 ph1) (h2 : TAg S op w1 w2 ph1 w ph') : TS S (n + 1) sc loc (.AugAssign (.Name x q) op v p) ph .next (setL x w loc) ph' := fun {A env s g X} a I F =>
  wpAny_AugAssign_Name (name_load O I F hn fun vo ro => wpP (h1.ok a.less I F) fun xv s1 g1 I1 T1 r1 m1 => wpP (h2 I1 (ro.step T1) r1) fun z s2 g2 I2 T2 r2 m2 =>
    wpAny_mono (store_ok I2 ((F.step I T1).step I1 T2) hs r2) (fun j9 s3 p3 => (p3.after ((T1.trans T2 I1).up F I I2) I2 (m1.trans m2)).flow) fun j9 j9 z => z)
end
end Mine.Internal
end
section
open PySem PySem.W PyProof.Rows PySem.Calls
namespace Mine.Internal
section
variable {S : Stc} {A : Around} {s : Shared} {g : Gh} {ph : List PO}
theorem meets_whole (l sl b : Addr) (us ws : List Value) (k j : Nat) (hu : us.length ≤ 1000) (hw : ws.length ≤ 1000) (hne : l ≠ b) :
    Meets (Builtin.«list.__setitem__» ⟨[.ref l, .ref sl, .ref b], []⟩) (fun j9 R s => s.heap.get? l = some (seqO "list" us k) ∧ s.heap.get? b = some (seqO "list" ws j) ∧ s.heap.get? sl = some { cls := .type "slice", data := .fields #[.none, .none, .none] } ∧
      ∀ h' n, h'.get? l = some (seqO "list" ws n) → (∀ c o, c ≠ l → s.heap.get? c = some o → h'.get? c = some o) → R (.ok (.ret .none)) { s with heap := h' }) :=
  .of_wp fun prog w A R s h => by
    obtain ⟨hp, g, d, tk, os⟩ := s; obtain ⟨h1, h2, h3, h⟩ := h
    have e1 : sizeLine = 16777216 := sizeLine_eq
    have hT3 : ({ heap := hp, gens := g, drawn := d, toks := tk, os := os } : Shared).TypeIs (.ref sl) "slice" := ⟨_, h3, rfl⟩
    have hno := slice_no_index
    have hsz : us.toArray.size ≤ sizeLine := by rw [List.size_toArray]; omega
    have hw2 : ws.toArray.size ≤ sizeLine := by rw [List.size_toArray]; omega
    wp_walk
    rw [if_neg (show ¬ Builtin.List.listSameRef (.ref l) (.ref b) = true from fun q => hne (eq_of_beq q))]
    wp_walk
    rw [if_neg (by simp only [Builtin.List.listTooLong, List.size_toArray, e1, decide_eq_true_eq]; omega)]
    simp only [gt_iff_lt, Int.reduceLT, if_true, Int.toNat_zero, List.size_toArray]
    have hmax : (max 0 (us.length : Int)).toNat = us.length := by omega
    rw [hmax]
    have hs : us.toArray.size = us.length := List.size_toArray
    have hf : ∀ xs : Array Value, xs.size = us.length → xs.extract 0 0 ++ ws.toArray ++ xs.extract us.length = ws.toArray := by
      intro xs hx
      rw [← hx]; simp
    refine wpAny_bind (wpAny_updateSeq (f := fun xs => xs.extract 0 0 ++ ws.toArray ++ xs.extract us.length) h1 rfl (hz := hsz) (_hz' := ?_) ?_)
    · refine wpAny_bind (wpAny_letGo (wpAny_pure ⟨.none, rfl, h _ (if ws.length = us.length then k else k + 1) ?_ fun c o hc e => (Heap.get?_update_other _ _ hc.symm).trans e⟩))
      rw [Heap.get?_update_self _ h1 rfl]
      simp [Obj.mapSeq, hf _ hs]
    · rw [hf _ hs]; omega
end
section
variable {S : Stc} {A : Around} {s : Shared} {g : Gh} {ph : List PO}
theorem set_whole {l sl b : Addr} {us ws : List Value} {k j : Nat} {Q : Unit → Shared → Prop} (hu : us.length ≤ 1000) (hw : ws.length ≤ 1000) (hne : l ≠ b) (h1 : s.heap.get? l = some (seqO "list" us k)) (h2 : s.heap.get? b = some (seqO "list" ws j))
    (h3 : s.heap.get? sl = some { cls := .type "slice", data := .fields #[.none, .none, .none] })
    (h : ∀ h' n, h'.get? l = some (seqO "list" ws n) → (∀ c o, c ≠ l → s.heap.get? c = some o → h'.get? c = some o) → Q () { s with heap := h' }) : wpAny (MS S) A (setItem (.ref l) (.ref sl) (.ref b)) Q NoE s := by
  have hT : s.TypeIs (.ref l) "list" := ⟨_, h1, rfl⟩
  unfold setItem
  refine wpAny_holding (wpAny_bind (wpAny_sequenceKey hT (by decide) ?_))
  refine wpAny_bind (wpAny_callSpecial?_slot (name := Str.ofString "__setitem__") hT slot_list_setitem
    (call_meets slot_list_setitem hT entry_list_setitem (args_list_setitem _ _ _) (meets_whole l sl b us ws k j hu hw hne) ⟨h1, h2, h3, fun h' n q1 q2 => wpAny_pure (h h' n q1 q2)⟩))
variable {T : Top} {P : PrimT} {n m : Nat} {r : Ev} {sc : Scope} {loc loc' : Loc} {fl : Fl} {ph1 ph2 ph' : List PO} {v o i e : Expr} {ts : List Expr} {p q q' : Pos} {w : PV} {xs ys : List PV}
theorem ts_whole (h1 : TE S n sc loc v ph (.lst ys) ph1) (h2 : TE S n sc loc o ph1 (.obj m) ph2) (hm : ph2[m]? = some (.list xs)) (hx : xs.length ≤ 1000) (hy : ys.length ≤ 1000) : TS S (n + 1) sc loc (.Assign [.Subscript o (.Slice none none none q) q'] v p) ph .next loc (ph2.set m (.list ys)) := fun {A env s g X} a I F =>
  wpAny_Assign_Subscript (wpP (h1.ok a.less I F) fun xv s1 g1 I1 T1 r1 m1 => wpP (h2.ok a.less I1 (F.step I T1)) fun xo s2 g2 I2 T2 r2 m2 => wpAny_Slice (wpAny_evalPart_none (wpAny_evalPart_none (wpAny_evalPart_none (by
    refine (r1.step T2).eLst fun b ws j qb hb fb rb => ?_
    refine r2.eObj fun l ql hl => ?_
    subst qb; subst ql
    obtain ⟨us, k, hlu, ru⟩ := I2.obj _ _ _ hm hl
    have kp : ∀ (b : Addr) (ob : Obj), s2.heap.get? b = some ob → (s2.heap.push { cls := .type "slice", data := .fields #[.none, .none, .none] }).get? b = some ob := fun b ob e => Heap.get?_push_of_some _ e
    have I3 := I2.grow kp (Nat.le_refl _) I2.tk
    have T3 : Step S [] s2.heap g2 ph2 _ g2 ph2 := Step.grow kp (Nat.le_refl _)
    have rb3 := rb.mono (T3.mono fun j9 q => nomatch q)
    have hne : l ≠ b := fun q => fb.1 (q ▸ List.mem_of_getElem? hl)
    refine set_whole (us := us) (ws := ws) (by rw [ru.length]; exact hx) (by rw [rb.length]; exact hy) hne (kp _ _ hlu) (kp _ _ hb) (Heap.get?_push_size _ rfl) fun h' n' q1 q2 => ?_
    have hs : ∀ (c : Addr) (ob : Obj), c ≠ l → (s2.heap.push { cls := .type "slice", data := .fields #[.none, .none, .none] }).get? c = some ob → h'.get? c = some ob := q2
    have I4 : Inv S h' s2.toks _ (ph2.set m (.list ys)) := I3.put hl hm hs (Nat.le_refl _) I2.tk ⟨ws, n', q1, rb3.mono (put_mono I3 hl hs (Nat.le_refl _))⟩
    have T4 : Step S [] _ g2 ph2 h' g2 (ph2.set m (.list ys)) := Step.put I3 hl hm (fun q => nomatch q) (fun q => nomatch q) hs (Nat.le_refl _) fun j9 q => nomatch q
    have TT := ((T1.trans T2 I1).trans T3 I2).trans T4 I3
    exact ⟨g2, I4, TT.up F I I4, (m1.trans m2).trans .of, F.step I TT, trivial⟩))))) (by unfold swapsWith; cases v <;> rfl)
theorem whole_of (H : Snd S r n) {lo hi st : Option Expr} {b : Bool} (hb : (lo.isNone && hi.isNone && st.isNone) = b) (e : sWhole r sc loc o b v ph = some (fl, loc', ph')) : TS S (n + 1) sc loc (.Assign [.Subscript o (.Slice lo hi st q) q'] v p) ph fl loc' ph' := by
  subst hb
  exact iT e fun hn e => rV e fun y ph1 e1 e => iL e fun ys hy e => rV e fun ov ph2 e2 e => iN e fun m hm e => iL e fun xs hx e => iT e fun hq e => sp3 e fun q1 q2 q3 => by
    subst q1; subst q2; subst q3
    obtain ⟨hn, h3⟩ := Bool.and_eq_true_iff.mp hn
    obtain ⟨h1, h2⟩ := Bool.and_eq_true_iff.mp hn
    rw [Option.isNone_iff_eq_none] at h1 h2 h3
    obtain ⟨hl, hr⟩ := Bool.and_eq_true_iff.mp hq
    rw [h1, h2, h3]
    exact ts_whole (asLst_eq hy ▸ H.e e1) (asObj_eq hm ▸ H.e e2) (listAt_eq hx) (Nat.le_of_ble_eq_true hl) (Nat.le_of_ble_eq_true hr)
theorem ts_del {f : Addr} {k : Nat} {iv : PV} (OO : ObjOk S T P) (hf : look nDelitem T.met = some f) (h1 : TE S n sc loc o ph (.hdr k) ph1) (h2 : TE S n sc loc i ph1 iv ph2) (hc : ∀ {A : Around} {s : Shared} {g : Gh} {xs : List Value}, AOk A n → Inv S s.heap s.toks g ph2 → VRs S s.heap g [.hdr k, iv] xs → wpAny (MS S) A (call (.ref f) xs) (Pst S s g ph2 w ph') NoE s) :
    TS S (n + 1) sc loc (.Delete [.Subscript o i q] p) ph .next loc ph' := fun {A env s g X} a I F => by
  refine wpAny_Delete ?_
  show wpAny (MS S) A (do (do let ov ← eval o env; let iv ← holding [ov] (eval i env); standAt q; holding [ov, iv] (delItem ov iv); release [ov, iv] []); pure ()) _ NoE s
  refine wpAny_bind (wpAny_bind (wpP (h1.ok a.less I F) fun xo s1 g1 I1 T1 r1 m1 => ?_))
  refine wpAny_bind (wpAny_holding (wpP (h2.ok a.less I1 (F.step I T1)) fun xi s2 g2 I2 T2 r2 m2 => ?_))
  refine wpAny_bind (wpAny_standAt (wpAny_bind (wpAny_holding (wpAny_mono (OO.del a.hand hf I2 (r1.step T2) (hc a.less I2 (.cons (r1.step T2) (.cons r2 .nil)))) (fun j9 s4 q => PstU.casesOn q fun g4 I4 T4 m4 => ?_) fun j9 j9 z => z))))
  refine wpAny_release (wpAny_pure ?_)
  have TT := (T1.trans T2 I1).trans T4 I2
  exact ⟨g4, I4, TT.up F I I4, (m1.trans m2).trans m4, F.step I TT, trivial⟩
theorem subOf_eq (h : subOf e = some (o, i)) : ∃ q, e = .Subscript o i q :=
  pick_inv h (fun j9 j9 j9 j9 h => nos h) (fun j9 j9 j9 h => nos h) (fun j9 j9 j9 j9 h => nos h) (fun j9 j9 j9 j9 j9 h => nos h) (fun j9 j9 j9 j9 j9 h => nos h) fun a b x q h => ⟨x, sp2 h fun q1 q2 => q1 ▸ q2 ▸ q⟩
theorem asHdr_eq (h : asHdr w = some n) : w = .hdr n := by
  cases w
  case hdr => exact congrArg _ (Option.some.inj h)
  all_goals exact nos h
theorem del_of (H : Snd S r n) (OO : ObjOk S T P) (e : sDel r T sc loc ts ph = some (fl, loc', ph')) : TS S (n + 1) sc loc (.Delete ts p) ph fl loc' ph' := by
  cases ts with
  | nil => exact nos e
  | cons t ts =>
    cases ts with
    | cons => exact nos e
    | nil =>
      exact iX2 e fun o i hs e => rV e fun ov ph1 e1 e => iN e fun k hk e => rV e fun iv ph2 e2 e => iA e fun f hf e => rV e fun w ph3 e3 e => sp3 e fun q1 q2 q3 => by
        subst q1; subst q2; subst q3
        obtain ⟨q, rfl⟩ := subOf_eq hs
        have hk := asHdr_eq hk
        subst hk
        exact ts_del OO hf (H.e e1) (H.e e2) fun a I r => (H.c e3).ok a I r
end
end Mine.Internal
end
section
open PySem PySem.W PyProof.Rows PySem.Calls
namespace Mine.Internal
section
variable {S : Stc} {T : Top} {P : PrimT} {A : Around} {s s₁ s' : Shared} {g g₁ : Gh} {ph ph1 ph2 ph3 ph' ph₁ ph₂ : List PO} {env : Env} {sc csc : Scope} {loc loc' : Loc} {X : List Addr} {n m : Nat} {r : Ev} {fl : Fl} {e t u o i v : Expr} {p p1 p2 q : Pos} {w w1 w2 w3 wa wb : PV} {x y name : Str} {op : Operator} {c : Bool} {xs ys : List PV} {es : List Expr} {ts : List Expr}
theorem expr_of (H : Snd S r n) (e : sExpr r sc loc v ph = some (fl, loc', ph')) : TS S (n + 1) sc loc (.Expr v p) ph fl loc' ph' :=
  iTn e fun hc e => rV e fun w ph1 e1 e => sp3 e fun q1 q2 q3 => by subst q1; subst q2; subst q3; exact ts_expr hc (H.e e1)
theorem ret_of (H : Snd S r n) : ∀ {v : Option Expr}, sRet r sc loc v ph = some (fl, loc', ph') → TS S (n + 1) sc loc (.Return v p) ph fl loc' ph'
  | none, e => sp3 e fun q1 q2 q3 => by subst q1; subst q2; subst q3; exact ts_retn
  | some _, e => rV e fun w ph1 e1 e => sp3 e fun q1 q2 q3 => by subst q1; subst q2; subst q3; exact ts_ret (H.e e1)
theorem name_as (H : Snd S r n) (e : sName r sc loc x v ph = some (fl, loc', ph')) : TS S (n + 1) sc loc (.Assign [.Name x q] v p) ph fl loc' ph' :=
  rV e fun w ph1 e1 e => iT e fun hs e => sp3 e fun q1 q2 q3 => by subst q1; subst q2; subst q3; exact ts_name hs (H.e e1)
theorem two_as (H : Snd S r n) (e : sTwo r sc loc t u v ph = some (fl, loc', ph')) : TS S (n + 1) sc loc (.Assign [t, u] v p) ph fl loc' ph' :=
  iS e fun x hx e => iS e fun y hy e => rV e fun w ph1 e1 e => iT e fun hs e => sp3 e fun q1 q2 q3 => (nameOf_eq hx).elim fun j9 z1 => (nameOf_eq hy).elim fun j9 z2 => by subst q1; subst q2; subst q3; subst z1; subst z2; exact ts_two hs (H.e e1)
theorem tup_as (H : Snd S r n) {k} (e : sTup r sc loc es v ph = some (fl, loc', ph')) : TS S (n + 1) sc loc (.Assign [.Tuple es k q] v p) ph fl loc' ph' :=
  e2 e fun a b z e => iS e fun x hx e => iS e fun y hy e => iTn e fun hq e => rV e fun w ph1 e1 e => iL e fun ws hw e => l2 e fun wa wb z' e => sp3 e fun q1 q2 q3 => by
    obtain ⟨p1, rfl⟩ := nameOf_eq hx
    obtain ⟨p2, rfl⟩ := nameOf_eq hy
    subst z; subst z'; subst q1; subst q2; subst q3
    obtain ⟨hq, hs⟩ := Bool.or_eq_false_iff.mp hq
    obtain ⟨hq, hn⟩ := Bool.or_eq_false_iff.mp hq
    obtain ⟨hc, hk⟩ := Bool.or_eq_false_iff.mp hq
    obtain ⟨q4, q5⟩ := Bool.and_eq_true_iff.mp (nb hs)
    exact ts_pair hc hk (fun z => tf ((nEq_iff.mpr z).symm.trans hn)) q4 q5 (asTup_eq hw ▸ H.e e1)
theorem item_as (H : Snd S r n) (e : sSub r P sc loc o i v ph = some (fl, loc', ph')) : TS S (n + 1) sc loc (.Assign [.Subscript o i q] v p) ph fl loc' ph' :=
  oSl e (fun lo hi st hz e => (sliceOf_eq hz).elim fun q z => z ▸ whole_of H rfl e) fun e => iTn e fun hc e => rV e fun w ph1 e1 e => rV e fun w1 ph2 e2 e => rV e fun w2 ph3 e3 e => iPo e fun ph4 e4 e => sp3 e fun q1 q2 q3 => by subst q1; subst q2; subst q3; exact ts_item hc (H.e e1) (H.e e2) (H.e e3) (store_of e4)
theorem one_as (H : Snd S r n) (e : sOne r P sc loc v ph t = some (fl, loc', ph')) : TS S (n + 1) sc loc (.Assign [t] v p) ph fl loc' ph' := by
  cases t
  case Name => exact name_as H e
  case Tuple => exact tup_as H e
  case Subscript => exact item_as (P := P) H e
  all_goals exact nos e
theorem aug_as (O : TopOk S T) (H : Snd S r n) (e : sAug r T sc loc t op v ph = some (fl, loc', ph')) : TS S (n + 1) sc loc (.AugAssign t op v p) ph fl loc' ph' :=
  iS e fun x hx e => iV e fun w1 h1 e => rV e fun w2 ph1 e1 e => iT e fun hs e => rV e fun w ph2 e2 e => sp3 e fun q1 q2 q3 => (nameOf_eq hx).elim fun j9 z => by subst q1; subst q2; subst q3; subst z; exact ts_aug O h1 hs (H.e e1) (aug_of e2)
theorem assign_as (H : Snd S r n) (e : sAssign r P sc loc ts v ph = some (fl, loc', ph')) : TS S (n + 1) sc loc (.Assign ts v p) ph fl loc' ph' := by
  cases ts with
  | nil => exact nos e
  | cons t ts =>
    cases ts with
    | nil => exact one_as H e
    | cons u ts =>
      cases ts with
      | nil => exact two_as H e
      | cons => exact nos e
theorem stmt_step (O : TopOk S T) (H : Snd S r n) (OO : ObjOk S T P) {st : Stmt} (e : stmtStep r T P sc loc st ph = some (fl, loc', ph')) : TS S (n + 1) sc loc st ph fl loc' ph' := by
  cases st
  case Expr => exact expr_of H e
  case Break => exact sp3 e fun q1 q2 q3 => by subst q1; subst q2; subst q3; exact ts_brk
  case Return => exact ret_of H e
  case Assign => exact assign_as H e
  case AugAssign => exact aug_as O H e
  case If => exact if_ok H e
  case For => exact for_ok O H e
  case While => exact while_ok H e
  case Delete => exact del_of H OO e
  all_goals exact nos e
theorem nHeaders_eq : nHeaders = ("_headers" : Str) := by decide +kernel
theorem attr_of (H : Snd S r n) (OO : ObjOk S T P) (e : eAttr r sc loc o name ph = some (w, ph')) : TE S (n + 1) sc loc (.Attribute o name p) ph w ph' :=
  iF e fun hb e => rV e fun w1 ph1 e1 e => iN e fun k hk e => iT e fun hn e => sp2 e fun q1 q2 => .of rfl fun {A env s g X} a I F => by
    subst q1; subst q2
    have z := nEq_iff.mp hn
    subst z
    rw [arm_eval_Attribute, base_of hb]
    refine wpAny_bind (wpP ((H.e e1).ok a.less I F) fun x s1 g1 I1 T1 r1 m1 => ?_)
    refine wpAny_bind (wpAny_standAt (wpAny_bind (wpAny_holding (wpAny_mono (OO.attr a.hand I1 (asHdr_eq hk ▸ r1)) (fun y s2 p2 => ?_) fun j9 j9 z => z))))
    exact wpAny_bind (wpAny_letTemporaryGo (wpAny_pure (p2.after T1 I1 m1)))
theorem expr_step (O : TopOk S T) (H : Snd S r n) (PO : PrimOk S P n) (MO : MetOk S T) (OO : ObjOk S T P) (h : exprStep r T P sc loc e ph = some (w, ph')) : TE S (n + 1) sc loc e ph w ph' := by
  cases e
  case Constant => exact const_ok h
  case Name => exact name_ok O h
  case BinOp => exact bin_of H h
  case UnaryOp => exact not_ok H h
  case Compare => exact cmp_of H h
  case BoolOp => exact bool_of H h
  case IfExp => exact if_of H h
  case List => exact list_of H h
  case Tuple => exact tup_of H h
  case Dict => exact dict_of h
  case Subscript => exact sub_ok H h
  case ListComp => exact lc_of O H h
  case Attribute => exact attr_of H OO h
  case Call => exact call_of O H PO MO h
  all_goals exact nos h
theorem tof_of {k : Res PV} (he : ∀ env, isTrue e env (eval e env) = (do let v ← eval e env; standAt e.pos; holding [v] (truthy v))) (h : ∀ {w ph1}, k = some (w, ph1) → TE S n sc loc e ph w ph1) (q : tOf k = some (c, ph')) : TT S n sc loc e ph c ph' :=
  rV q fun w ph1 e1 q => iBo q fun b hb q => sp2 q fun q1 q2 => q1 ▸ q2 ▸ tt_of he (h e1) (truth_ok hb)
theorem test_step (O : TopOk S T) (H : Snd S r n) (PO : PrimOk S P n) (MO : MetOk S T) (h : testStep r T P sc loc e ph = some (c, ph')) : TT S (n + 1) sc loc e ph c ph' := by
  cases e
  case UnaryOp => exact tnot_ok H h
  case BoolOp => exact tbool_of H h
  case Compare => exact tcmp_of H h
  case Call => exact tof_of (fun j9 => rfl) (call_of O H PO MO) h
  case Name => exact tof_of (fun j9 => rfl) (name_ok O) h
  case Subscript => exact tof_of (fun j9 => rfl) (sub_ok H) h
  all_goals exact nos h
end
end Mine.Internal
end
section
open PySem PySem.W PyProof.Rows PySem.Calls
namespace Mine.Internal
section
variable {S : Stc} {h : Heap} {g g' gF : Gh} {k tk : Nat} {ph : List PO} {v v' : PV} {x : Value} {xs ys : List PV} {vs : List Value} {a : Addr} {j : Nat}
set_option genInjectivity false in
structure Cut (S : Stc) (g' gF : Gh) (k : Nat) : Prop where
  at_ : ∀ (n : Nat) (a : Addr), n < k → g'.ρ[n]? = some a → gF.ρ[n]? = some a
  fz : ∀ a, Fz S g' a → Fz S gF a
  tk : g'.tk ≤ gF.tk
theorem belowD_L : ∀ {es : List (Str × PV)}, belowD k es = belowL k (es.map (·.2))
  | [] => rfl
  | (x, v) :: r => by
    show (match v.lt k with | true => belowD k r | false => false) = match v.lt k with | true => belowL k (r.map (·.2)) | false => false
    rw [belowD_L]
theorem below_cons (l : belowL k (v :: xs) = true) : v.lt k = true ∧ belowL k xs = true := by
  replace l : (match v.lt k with | true => belowL k xs | false => false) = true := l
  generalize v.lt k = b at l ⊢
  cases b with
  | true => exact ⟨rfl, l⟩
  | false => exact nomatch l
theorem VR.cut (C : Cut S g' gF k) (r : VR S h g' v x) : v.lt k = true → VR S h gF v x :=
  VR.rec (motive_1 := fun v x j9 => v.lt k = true → VR S h gF v x) (motive_2 := fun vs xs j9 => belowL k vs = true → VRs S h gF vs xs) (fun j9 => .none) (fun b j9 => .bool b) (fun i t j9 => .int i t) (fun x t j9 => .str x t) (fun a b j9 => .strg a (Nat.lt_of_lt_of_le b C.tk)) (fun v j9 => .con v) (fun b j9 => .bi b)
    (fun e l => .obj (C.at_ _ _ (Nat.le_of_ble_eq_true l) e)) (fun e f j9 ih l => .tup e (C.fz _ f) (ih l)) (fun e f j9 ih l => .lst e (C.fz _ f) (ih l)) (fun e f z q j9 ih l => .dct e (C.fz _ f) z q (ih (belowD_L ▸ l))) (fun e f j9 => .rng e (C.fz _ f))
    (fun e a b n q u c f f' l => .hdr (C.at_ _ _ (Nat.le_of_ble_eq_true l) e) a b n q u c (C.fz _ f) (C.fz _ f')) (fun j9 => .nil) (fun j9 j9 a b l => .cons (a (below_cons l).1) (b (below_cons l).2)) r
theorem VRs.cut (C : Cut S g' gF k) : ∀ {xs vs}, VRs S h g' xs vs → belowL k xs = true → VRs S h gF xs vs
  | [], _, r, _ => r.eNil fun q => q ▸ .nil
  | _ :: _, _, r, l => r.eCons fun j9 j9 q a b => q ▸ .cons (a.cut C (below_cons l).1) (b.cut C (below_cons l).2)
theorem OR.cut (C : Cut S g' gF k) {po : PO} (o : OR S h g' po a) (l : po.lt k = true) : OR S h gF po a := by
  cases po with
  | list xs => exact o.elim fun vs o => o.elim fun k' o => ⟨vs, k', o.1, o.2.cut C l⟩
  | dict es => exact o.elim fun vs o => o.elim fun k' o => ⟨vs, k', o.1, o.2.1, o.2.2.cut C (belowD_L ▸ l)⟩
  | acc xs =>
    obtain ⟨vs, k', dx, od, m, h1, h2, h3, h4, h5, h6, h7, h8⟩ := o
    exact ⟨vs, k', dx, od, m, h1, h2, h3, h4, h5, h6, C.fz _ h7, h8.cut C l⟩
  | lock => exact o
theorem fz_new (I : Inv S h tk g' ph) (hρ : gF.ρ = g'.ρ.take k) (hξ : ∀ b ∈ gF.ξ, b ∈ g'.ξ) (hj : g'.ρ[j]? = some a) (hk : k ≤ j) : Fz S gF a := by
  refine ⟨fun m => ?_, fun m => (I.xi a (hξ a m)).2.1 (List.mem_of_getElem? hj), fun t => I.tbOut t (List.mem_of_getElem? hj)⟩
  rw [hρ] at m
  obtain ⟨i, hi, e⟩ := List.mem_take_iff_getElem.mp m
  exact Nat.lt_irrefl _ (Nat.lt_of_lt_of_le (nodup_idx I.nd (List.getElem?_eq_some_iff.mpr ⟨Nat.lt_of_lt_of_le hi (Nat.min_le_right _ _), e⟩) hj ▸ Nat.lt_of_lt_of_le hi (Nat.min_le_left _ _)) hk)
theorem obj_ge (h : (PV.obj j).lt k = false) : k ≤ j := Nat.le_of_not_lt fun q => tf ((Nat.ble_eq_true_of_le q).symm.trans h)
theorem mapO_cons {f : PV → Option PV} {y : PV} {p : Prop} (e : mapO f (y :: xs) = some ys) (q : ∀ z zs, f y = some z → mapO f xs = some zs → z :: zs = ys → p) : p := by
  unfold mapO at e
  cases h : f y with
  | none => rw [h] at e; exact nos e
  | some z =>
    rw [h] at e
    cases h' : mapO f xs with
    | none => rw [h'] at e; exact nos e
    | some zs => rw [h'] at e; exact q z zs h h' (Option.some.inj e)
theorem many_ok {f : PV → Option PV} (hf : ∀ {v v' x}, f v = some v' → VR S h g' v x → VR S h gF v' x) : ∀ {xs ys vs}, mapO f xs = some ys → VRs S h g' xs vs → VRs S h gF ys vs
  | [], _, _, e, r => sp1 e fun q => q ▸ r.eNil fun q => q ▸ .nil
  | _ :: _, _, _, e, r => mapO_cons e fun y zs hy hz q => q ▸ r.eCons fun j9 j9 q a b => q ▸ .cons (hf hy a) (many_ok hf hz b)
theorem cut_obj (I : Inv S h tk g' ph) (C : Cut S g' gF k) (hρ : gF.ρ = g'.ρ.take k) (hξ : ∀ b ∈ gF.ξ, b ∈ g'.ξ) (hx : ph[j]? = some (.list xs)) (r : VR S h g' (.obj j) x) (hk : k ≤ j) (m : ∀ {vs}, VRs S h g' xs vs → VRs S h gF ys vs) : VR S h gF (.lst ys) x :=
  r.eObj fun a q hr => q ▸ (I.obj _ _ _ hx hr).elim fun vs o => o.elim fun kk o => .lst o.1 (fz_new I hρ hξ hr hk) (m o.2)
theorem frz_ok (I : Inv S h tk g' ph) (C : Cut S g' gF k) (hρ : gF.ρ = g'.ρ.take k) (hξ : ∀ b ∈ gF.ξ, b ∈ g'.ξ) : ∀ (n : Nat) {v v' : PV} {x : Value}, frz k ph n v = some v' → VR S h g' v x → VR S h gF v' x
  | 0, _, _, _, e, _ => nos e
  | n + 1, v, v', x, e, r => iB e (fun hl e => sp1 e fun q => q ▸ r.cut C hl) fun hl e => oN e (fun j hj e => iL e fun xs hx e => iL e fun ys hy e => sp1 e fun q => by
      subst q
      rw [asObj_eq hj] at r hl
      exact cut_obj I C hρ hξ (listAt_eq hx) r (obj_ge hl) (many_ok (frz_ok I C hρ hξ n) hy)) fun j9 e => iL e fun xs hx e => iL e fun ys hy e => sp1 e fun q => by
      subst q
      rw [asLst_eq hx] at r
      exact r.eLst fun a vs kk q h1 h2 h3 => q ▸ .lst h1 (C.fz _ h2) (many_ok (frz_ok I C hρ hξ n) hy h3)
theorem cut_inv (I : Inv S h tk g' ph) (C : Cut S g' gF k) (hρ : gF.ρ = g'.ρ.take k) (hξ : ∀ b ∈ gF.ξ, b ∈ g'.ξ) (ht : gF.tk = g'.tk) (hall : (ph.take k).all (PO.lt k) = true) : Inv S h tk gF (ph.take k) := by
  have sub : ∀ {a}, a ∈ gF.ρ → a ∈ g'.ρ := fun m => List.mem_of_mem_take (hρ ▸ m)
  refine ⟨ht ▸ I.tk0, ht ▸ I.tk, I.top, I.old, by rw [hρ, List.length_take, List.length_take, I.len], hρ ▸ I.nd.sublist (List.take_sublist _ _), fun a m => I.lo a (sub m), fun n po a e1 e2 => ?_, fun a m => let ⟨q1, q2, q3⟩ := I.xi a (hξ a m); ⟨q1, fun z => q2 (sub z), q3⟩⟩
  have hp := List.all_eq_true.mp hall po (List.mem_of_getElem? e1)
  rw [List.getElem?_take] at e1
  by_cases q : n < k
  · rw [if_pos q] at e1
    rw [hρ, List.getElem?_take, if_pos q] at e2
    exact (I.obj n po a e1 e2).cut C hp
  · rw [if_neg q] at e1; exact nos e1
theorem finish_ok {old : List PO} (I : Inv S h tk g' ph) (C : Cut S g' gF k) (hρ : gF.ρ = g'.ρ.take k) (hξ : ∀ b ∈ gF.ξ, b ∈ g'.ξ) (ht : gF.tk = g'.tk) (r : VR S h g' v x) (e : finish k v ph = some (v', old)) :
    Inv S h tk gF old ∧ VR S h gF v' x ∧ old = ph.take k := by
  refine iT e fun hall e => ?_
  have inv := cut_inv I C hρ hξ ht hall
  have fin : ∀ {v1 : PV}, VR S h gF v1 x → v' = v1 → ph.take k = old → Inv S h tk gF old ∧ VR S h gF v' x ∧ old = ph.take k := fun r q1 q2 => q2 ▸ ⟨inv, q1.symm ▸ r, rfl⟩
  refine oN e (fun j hj e => ?_) fun j9 e => iB e (fun hl e => sp2 e (fin (r.cut C hl))) fun j9 e => iV e fun w hw e => sp2 e (fin (frz_ok I C hρ hξ 8 hw r))
  rw [asObj_eq hj] at r
  refine iB e (fun hb e => sp2 e (fin (r.cut C hb))) fun hb e => oL e (fun xs hx e => iT e fun hl e => sp2 e (fin (cut_obj I C hρ hξ (listAt_eq hx) r (obj_ge hb) fun r => r.cut C hl))) fun j9 e => iE e fun es hd e => iT e fun hl e => sp2 e (fin ?_)
  exact r.eObj fun a q hr => q ▸ (I.obj _ _ _ (dictAt_eq hd) hr).elim fun kvs o => o.elim fun ep o => .dct o.1 (fz_new I hρ hξ hr (obj_ge hb)) (I.lo _ (List.mem_of_getElem? hr)) o.2.1 (o.2.2.cut C (belowD_L ▸ hl))
end
end Mine.Internal
end
section
open PySem PySem.W PyProof.Rows PySem.Calls
namespace Mine.Internal
section
variable {S : Stc} {T : Top} {P : PrimT} {A : Around} {s s₀ s₁ s2 s' : Shared} {g g₀ g₁ g2 g' : Gh} {ph ph₀ ph1 ph' ph₁ ph₂ : List PO} {env : Env} {sc : Scope} {loc loc' loc1 : Loc} {X : List Addr} {n : Nat} {r : Ev} {fl : Fl} {w v : PV} {x y : Str} {f : Addr} {d : FnD} {o : Obj} {fd : FuncData} {h' H5 : Heap} {C a : Addr} {vs : List PV} {xs : List Value} {args : Args}
theorem binds_ok (f : Str × Value → PUnit → Sem (ForInStep PUnit)) (hf : ∀ n v u, f (n, v) u = (do storeName env n v; pure (.yield ⟨⟩))) : ∀ (ps : Loc) {binds : List (Str × Value)} {loc : Loc} {s : Shared} {g : Gh}, binds.map (·.1) = ps.map (·.1) → (∀ p ∈ ps, storable sc p.1 = true) → Inv S s.heap s.toks g ph → Frm S s.heap g env sc loc X → VRs S s.heap g (ps.map (·.2)) (binds.map (·.2)) →
    wpAny (MS S) A (forIn binds ⟨⟩ f) (fun j9 s' => PstS S s g ph env sc X (ps.foldl (fun l p => setL p.1 p.2 l) loc) ph s') NoE s
  | [], bs, loc, s, g, h, _, I, F, _ => by rw [List.map_eq_nil_iff.mp h]; exact wpAny_pure ⟨g, I, .refl, .refl, F⟩
  | p :: ps, bs, loc, s, g, h, hst, I, F, rv => by
    obtain ⟨b, bs, rfl, h1, h2⟩ := List.map_eq_cons_iff.mp h
    refine rv.eCons fun u us e r1 r2 => ?_
    obtain ⟨e1, e2⟩ := List.cons.inj e
    subst e1; subst e2
    rw [List.forIn_cons, show f b ⟨⟩ = _ from hf b.1 b.2 ⟨⟩, show b.1 = p.1 from h1]
    refine wpAny_bind (wpAny_bind (wpAny_mono (store_ok I F (hst _ List.mem_cons_self) r1) (fun j9 s1 q => PstS.casesOn q fun g1 I1 T1 m1 F1 => wpAny_pure ?_) fun j9 j9 z => z))
    exact wpAny_mono (binds_ok f hf ps h2 (fun p hp => hst p (List.mem_cons_of_mem _ hp)) I1 F1 (r2.mono (T1.mono F.sub))) (fun j9 s2 p2 => p2.after T1 I1 m1) fun j9 j9 z => z
theorem look_fold : ∀ (ps : Loc) {loc : Loc}, (ps.map (·.1)).Nodup → look x (ps.foldl (fun l p => setL p.1 p.2 l) loc) = (look x ps).or (look x loc)
  | [], loc, _ => rfl
  | (y, v) :: ps, loc, nd => by
    obtain ⟨n1, n2⟩ := List.nodup_cons.mp nd
    rw [List.foldl_cons, look_fold ps n2, look_setL]
    show _ = (match nEq x y with | true => some v | false => look x ps).or (look x loc)
    cases h : nEq x y with
    | true =>
      have hx := nEq_iff.mp h
      subst hx
      have hn : look x ps = none := by
        rw [look_eq]
        cases q : ps.lookup x with
        | none => rfl
        | some u => exact absurd (List.mem_map.mpr ⟨_, lookup_mem q, rfl⟩) n1
      rw [hn, if_pos rfl]; rfl
    | false => rw [if_neg fun z => tf ((nEq_iff.mpr z).symm.trans h)]
noncomputable def fenvOf (fd : FuncData) (C a : Addr) : Env := newEnv fd.scope C fd.globals (cellsFrom (C + 1) fd.scope.names []) (fd.qualname ++ ".<locals>.") (some a) fd.code none fd.builtins
theorem fun_frm (FA : FnAt S f d o fd) (La : FLaid h' H5 C (cellsFrom (C + 1) fd.scope.names [])) (hξ : ∀ b ∈ (cellsFrom (C + 1) fd.scope.names []).map (·.2) ++ [C], b ∈ g'.ξ) : Frm S H5 g' (fenvOf fd C a) d.scope [] ((cellsFrom (C + 1) fd.scope.names []).map (·.2) ++ [C]) := by
  have inn : ∀ {x c}, (x, c) ∈ cellsFrom (C + 1) fd.scope.names [] → c ∈ (cellsFrom (C + 1) fd.scope.names []).map (·.2) ++ [C] := fun q => List.mem_append.mpr (.inl (List.mem_map.mpr ⟨_, q, rfl⟩))
  have sc := FA.sc
  rw [← FA.hsc] at sc ⊢
  refine ⟨sc.2.1, FA.hg, FA.hbl, fun x k q => ?_, ⟨_, La.ns, fun x v q1 q2 => nos q1⟩, fun x v k q1 q2 q3 => nos q1, fun x q => ?_, fun x y c q1 q2 => name_of_addr La.ap (lookup_mem q1) (lookup_mem q2), List.mem_append.mpr (.inr List.mem_cons_self), hξ, fun x c q => hξ c (inn (lookup_mem q)), fun x c q => La.CC x c (lookup_mem q), fun x k q => (namesOk_nodup sc.1 (lookup_mem q)).2⟩
  · have this : (fenvOf fd C a).kindOf x = some k := q
    rw [this]
    cases k
    case free => exact .inl rfl
    case globalExplicit => trivial
    all_goals rfl
  · obtain ⟨c, hc⟩ := cellsFrom_has (n := C + 1) (acc := []) (.inl (lookup_mem q))
    exact ⟨c, none, hc, La.cell x c (lookup_mem hc), inn (lookup_mem hc)⟩
theorem call_fin (I : Inv S s.heap s.toks g ph) {X' : List Addr} (k : ∀ b o, s.heap.get? b = some o → H5.get? b = some o) (fr : ∀ b ∈ X', s.heap.get? b = none) (I2 : Inv S s2.heap s2.toks g2 ph1) (TT : Step S X' H5 (enter X' g) ph s2.heap g2 ph1) (m : Same s s2) {x : Value} (rw' : VR S s2.heap g2 w x) (ef : finish ph.length w ph1 = some (v, ph')) :
    Pst S s g ph v ph' x s2 := by
  obtain ⟨more, hm⟩ := TT.pre
  replace hm : g2.ρ = g.ρ ++ more := hm
  have hξ : ∀ b ∈ g.ξ, b ∈ g2.ξ := fun b hb => TT.xi ▸ List.mem_append.mpr (.inr hb)
  have C : Cut S g2 ⟨g.ρ, g.ξ, g2.tk⟩ ph.length := ⟨fun j b hj q => by
    rw [hm, List.getElem?_append_left (I.len ▸ hj)] at q; exact q, fun b fz => ⟨fun q => fz.1 (hm ▸ List.mem_append.mpr (.inl q)), fun q => fz.2.1 (hξ b q), fz.2.2⟩, Nat.le_refl _⟩
  have hρ : (⟨g.ρ, g.ξ, g2.tk⟩ : Gh).ρ = g2.ρ.take ph.length := by rw [hm, ← I.len]; exact List.take_left.symm
  obtain ⟨IF, rF, hold⟩ := finish_ok I2 C hρ hξ rfl rw' ef
  refine ⟨⟨g.ρ, g.ξ, g2.tk⟩, IF, ⟨fun b o eb nm nt j9 => TT.keep b o (k b o eb) nm nt fun q => nos ((fr b q).symm.trans eb), ⟨[], (List.append_nil _).symm⟩, rfl, fun b q nq => absurd q nq, fun j hj => ?_, nofun, TT.tk⟩, rF, m⟩
  rw [hold, List.getElem?_take, if_pos (I.len ▸ hj)]
  exact TT.lock j hj
theorem fl_back {f : Flow} {Q : Value → Prop} (hf : FlR S s.heap g fl f) (h : retOf fl = some w) (k : ∀ x, VR S s.heap g w x → Q x) : (f = .next ∧ Q .none) ∨ ∃ x, f = .ret x ∧ Q x := by
  cases fl with
  | next => cases f <;> first | exact False.elim hf | exact .inl ⟨rfl, k _ (Option.some.inj h ▸ .none)⟩
  | brk => exact nos h
  | ret u => cases f <;> first | exact False.elim hf | exact .inr ⟨_, rfl, k _ (Option.some.inj h ▸ hf)⟩
theorem call_gen (TO : TopOk S T) (a : AOk A (n + 1)) (I₀ : Inv S s₀.heap s₀.toks g₀ ph₀) (FA : FnAt S f d o fd)
    (hbind : ∀ A', wpAny (MS S) A' (bindArgs fd args) (fun binds s1 => ∃ g1, Inv S s1.heap s1.toks g1 ph ∧ Step S [] s₀.heap g₀ ph₀ s1.heap g1 ph ∧ Same s₀ s1 ∧ binds.map (·.1) = loc.map (·.1) ∧ VRs S s1.heap g1 (loc.map (·.2)) (binds.map (·.2))) NoE s₀)
    (hnames : (loc.map (·.1)).Nodup ∧ ∀ p ∈ loc, storable d.scope p.1 = true)
    (hx : TX S n d.scope loc d.body ph fl loc1 ph1) (hfl : retOf fl = some w) (ef : finish ph.length w ph1 = some (v, ph')) :
    codeAny (MS S) A (.call (.ref f) args) (fun r s' => ∃ x, r = .ok (.ret x) ∧ Pst S s₀ g₀ ph₀ v ph' x s') s₀ := by
  obtain ⟨c, oc, cvs, ctk, hcode, hc0, hct, hcd, hq⟩ := FA.code
  refine codeAny_call_function a.room (I₀.top _ _ FA.h0 FA.ht) FA.hdata (FA.hsc ▸ FA.sc.2.2.1) (FA.hsc ▸ FA.sc.2.2.2) FA.hbody ⟨c, oc, cvs, ctk, hcode, I₀.top _ _ hc0 hct, hcd, hq⟩ ?_
  rw [FA.hclo]
  refine wpAny_mono (hbind _) (fun binds s ⟨g, I, T₀, m₀, B2, B3⟩ => ?_) fun j9 j9 z => z.elim
  simp only [newFunctionEnv, Option.isSome_none, Bool.false_eq_true, if_false]
  refine wpAny_bind (wpAny_alloc ?_)
  refine wpAny_bind (wpAny_layCells _ (fun name kind cells => by cases hkc : kind == NameKind.cell <;> simp [hkc]) _ _ _ _ ?_)
  rw [show ({ s with heap := s.heap.push { cls := .type "frame", data := .dict #[] } } : Shared).heap.objs.size = s.heap.objs.size + 1 from Heap.size_push ..]
  have La := lay_ok (h3 := s.heap) "frame" fd.scope.names
  revert La
  generalize pushCells (s.heap.push { cls := .type "frame", data := .dict #[] }) fd.scope.names = H5
  generalize s.heap.objs.size = C
  intro La
  have F5 := fun_frm (g' := enter ((cellsFrom (C + 1) fd.scope.names []).map (·.2) ++ [C]) g) (a := f) FA La fun b hb => List.mem_append.mpr (.inl hb)
  have fr := fun b hb => (La.new b hb).1
  have al := fun b hb => (La.new b hb).2
  revert F5 fr al
  generalize (cellsFrom (C + 1) fd.scope.names []).map (·.2) ++ [C] = X'
  intro F5 fr al
  have I5 : Inv S H5 s.toks (enter X' g) ph := I.enter La.kp fr al (Nat.le_refl _)
  show wpAny (MS S) A.in1 (do forIn binds PUnit.unit (fun x r => do storeName (fenvOf fd C f) x.1 x.2; pure (ForInStep.yield PUnit.unit)); pure (fenvOf fd C f)) _ _ _
  refine wpAny_bind (wpAny_mono (binds_ok (s := { s with heap := H5 }) _ (fun j9 j9 j9 => rfl) loc B2 hnames.2 I5 F5 (B3.mono (enter_mono La.kp fr))) (fun j9 s1 q => PstS.casesOn q fun g1 I1 T1 m1 F1 => wpAny_pure ⟨?_, codeAny_func ?_⟩) fun j9 j9 z => z.elim)
  · exact Heap.NoLimit.at TO.lim fun o e => I1.top _ _ e TO.ntl
  have F1' : Frm S s1.heap g1 (fenvOf fd C f) d.scope loc X' := F1.congr fun x => by rw [look_fold loc hnames.1]; show look x loc = (look x loc).or none; rw [Option.or_none]
  refine wpAny_mono (hx a.deeper I1 F1') (fun fw s2 q => PstF.casesOn q fun g2 I2 T2 m2 F2 hf => ?_) fun j9 j9 z => z.elim
  have fin := fl_back hf hfl fun x rx => (call_fin I La.kp fr I2 (T1.trans T2 I1) (Same.trans (s := s) (s₁ := { s with heap := H5 }) ⟨rfl, id⟩ (m1.trans m2)) rx ef).after T₀ I m₀
  rcases fin with ⟨rfl, p⟩ | ⟨x, rfl, p⟩
  · exact ⟨_, rfl, p⟩
  · exact ⟨_, rfl, p⟩
theorem bind_names (nd : d.params.Nodup) (par : ∀ x ∈ d.params, d.scope.names.lookup x = some .local ∨ d.scope.names.lookup x = some .cell) (hb : bindArgsP d vs = some loc) : (loc.map (·.1)).Nodup ∧ ∀ p ∈ loc, storable d.scope p.1 = true :=
  iIf hb fun c hb => sp1 hb fun q => by
    have e : loc.map (·.1) = d.params := by
      rw [q]
      refine List.map_fst_zip ?_
      rw [List.length_append, List.length_drop]
      omega
    refine ⟨e ▸ nd, fun p hp => ?_⟩
    unfold storable
    rw [look_eq]
    exact (par p.1 (e ▸ List.mem_map.mpr ⟨p, hp, rfl⟩)).elim (fun q => by rw [q]) fun q => by rw [q]
theorem call_sem (TO : TopOk S T) (FO : FnOk S f d) (hb : bindArgsP d vs = some loc) (hx : TX S n d.scope loc d.body ph fl loc1 ph1) (hfl : retOf fl = some w) (ef : finish ph.length w ph1 = some (v, ph')) (a : AOk A (n + 1)) (I : Inv S s.heap s.toks g ph) (rv : VRs S s.heap g vs xs) :
    wpAny (MS S) A (call (.ref f) xs) (Pst S s g ph v ph') NoE s := by
  obtain ⟨o, fd, FA, hbinds⟩ := FO.fd
  obtain ⟨binds, B1, B2, B3⟩ := hbinds s g vs xs loc (fun a o e t => I.top a o e t) hb rv
  refine wpAny_call (codeAny_mono (call_gen TO a I FA (args := ⟨xs, []⟩) (loc := loc) (fun A' => B1 _ _ _ _ ⟨g, I, .refl, .refl, B2, B3⟩) (bind_names FO.pnd FO.par hb) hx hfl ef) fun r s' hr => ?_)
  obtain ⟨x, rfl, p⟩ := hr
  exact p
theorem call_def (TO : TopOk S T) (H : Snd S r n) (hd : lookN f T.fn = some d) (e : callFn r d vs ph = some (v, ph')) : TC S (n + 1) f vs ph v ph' :=
  ⟨TO.kp f d hd, fun a I rv => iLoc e fun loc hb e => iF3 e fun fl l1 ph1 e1 e => iV e fun w hw e => call_sem TO (TO.fn f d hd) hb (execs_ok H e1) hw e a I rv⟩
theorem ev_ok (TO : TopOk S T) (PO : ∀ n, PrimOk S P n) (MO : MetOk S T) (OO : ObjOk S T P) : ∀ n, Snd S (ev T P n) n
  | 0 => ⟨fun h => nos h, fun h => nos h, fun h => nos h, fun h => nos h, rfl⟩
  | n + 1 =>
    have H := ev_ok TO PO MO OO n
    ⟨fun h => expr_step TO H (PO n) MO OO h, fun h => test_step TO H (PO n) MO h, fun h => stmt_step TO H OO h, fun {a vs ph v ph'} h => oFn (show callStep (ev T P n) T P a vs ph = some (v, ph') from h) (fun d hd e => call_def TO H hd e) fun j9 e => iT e fun hl e =>
      ⟨(PO n).k e, fun ha I rv => (PO (n + 1)).f (ys := []) (Nat.le_succ_of_le (H.lv ▸ Nat.le_of_ble_eq_true hl)) ha e I rv .nil⟩, rfl⟩
end
end Mine.Internal
end
section
open PySem PySem.W PyProof.Rows
namespace Mine.Internal.Pl
noncomputable def PhOk (ph : List PO) : Prop := ph.all (PO.lt ph.length) = true
theorem phOk_nil : PhOk [] := rfl
mutual
theorem PV.lt_mono {k k' : Nat} (h : k ≤ k') : ∀ v : PV, v.lt k = true → v.lt k' = true
  | .none, _ => rfl
  | .bool _, _ => rfl
  | .int _, _ => rfl
  | .str _, _ => rfl
  | .strg _, _ => rfl
  | .rng .., _ => rfl
  | .con _, _ => rfl
  | .bi _, _ => rfl
  | .obj n, e => by
    simp only [PV.lt, Nat.blt_eq] at e ⊢; omega
  | .hdr n, e => by
    simp only [PV.lt, Nat.blt_eq] at e ⊢; omega
  | .tup xs, e => by
    simp only [PV.lt] at e ⊢; exact belowL_mono h xs e
  | .lst xs, e => by
    simp only [PV.lt] at e ⊢; exact belowL_mono h xs e
  | .dct es, e => by
    simp only [PV.lt] at e ⊢; exact belowD_mono h es e
theorem belowL_mono {k k' : Nat} (h : k ≤ k') : ∀ v : List PV, belowL k v = true → belowL k' v = true
  | [], _ => rfl
  | x :: xs, e => by
    simp only [belowL] at e ⊢
    split at e
    · rename_i q; rw [PV.lt_mono h x q]; exact belowL_mono h xs e
    · cases e
theorem belowD_mono {k k' : Nat} (h : k ≤ k') : ∀ v : List (Str × PV), belowD k v = true → belowD k' v = true
  | [], _ => rfl
  | (s, x) :: xs, e => by
    simp only [belowD] at e ⊢
    split at e
    · rename_i q; rw [PV.lt_mono h x q]; exact belowD_mono h xs e
    · cases e
end
theorem PO.lt_mono {k k' : Nat} (h : k ≤ k') : ∀ v : PO, v.lt k = true → v.lt k' = true
  | .list xs, e => belowL_mono h xs e
  | .dict es, e => belowD_mono h es e
  | .acc xs, e => belowL_mono h xs e
  | .lock, _ => rfl
theorem belowL_app {k : Nat} : ∀ {a b : List PV}, belowL k (a ++ b) = (belowL k a && belowL k b)
  | [], b => by simp [belowL]
  | x :: a, b => by
    simp only [List.cons_append, belowL]
    cases x.lt k
    · rfl
    · exact belowL_app
theorem belowL_ints {k : Nat} : ∀ {l : List Int}, belowL k (l.map .int) = true
  | [] => rfl
  | x :: l => by
    show (match true with | true => belowL k (l.map .int) | false => false) = true
    exact belowL_ints
theorem belowL_strs {k : Nat} : ∀ {l : List Str}, belowL k (l.map .str) = true
  | [] => rfl
  | x :: l => by
    show (match true with | true => belowL k (l.map .str) | false => false) = true
    exact belowL_strs
theorem belowL_all {k : Nat} : ∀ {l : List PV}, (∀ v ∈ l, v.lt k = true) → belowL k l = true
  | [], _ => rfl
  | x :: l, h => by
    have q := h x (by simp)
    simp only [belowL, q]
    exact belowL_all fun v m => h v (by simp [m])
theorem phOk_app {ph : List PO} {x : PO} (h : PhOk ph) (hx : x.lt ph.length = true) : PhOk (ph ++ [x]) := by
  unfold PhOk at *
  rw [List.all_append, List.length_append]
  simp only [List.length_singleton, List.all_cons, List.all_nil, Bool.and_true, Bool.and_eq_true]
  refine ⟨?_, PO.lt_mono (by omega) x hx⟩
  rw [List.all_eq_true] at h ⊢
  exact fun y m => PO.lt_mono (by omega) y (h y m)
theorem phOk_set {ph : List PO} {i : Nat} {x : PO} (h : PhOk ph) (hx : x.lt ph.length = true) : PhOk (ph.set i x) := by
  unfold PhOk at *
  rw [List.length_set, List.all_eq_true]
  rw [List.all_eq_true] at h
  intro y m
  rcases List.mem_or_eq_of_mem_set m with m | rfl
  · exact h y m
  · exact hx
theorem fin_ok {ph ex : List PO} {v : PV} (h : PhOk ph) (hv : v.lt ph.length = true) (no : ∀ j, v ≠ .obj j) : finish ph.length v (ph ++ ex) = some (v, ph) := by
  unfold finish
  simp only [List.take_left']
  rw [show ph.all (PO.lt ph.length) = true from h]
  have ho : asObj v = none := by cases v <;> first | rfl | exact absurd rfl (no _)
  dsimp only
  rw [ho]
  show (match v.lt ph.length with | true => some (v, ph) | false => _) = _
  rw [hv]
theorem fin_same {ph : List PO} {v : PV} (h : PhOk ph) (hv : v.lt ph.length = true) (no : ∀ j, v ≠ .obj j) : finish ph.length v ph = some (v, ph) := by
  have := fin_ok (ex := []) h hv no
  simpa using this
theorem fin_int {ph : List PO} {i : Int} (h : PhOk ph) : finish ph.length (.int i) ph = some (.int i, ph) := fin_same h rfl (fun j9 e => nomatch e)
theorem fin_bool {ph : List PO} {i : Bool} (h : PhOk ph) : finish ph.length (.bool i) ph = some (.bool i, ph) := fin_same h rfl (fun j9 e => nomatch e)
theorem fin_str {ph : List PO} {i : Str} (h : PhOk ph) : finish ph.length (.str i) ph = some (.str i, ph) := fin_same h rfl (fun j9 e => nomatch e)
end Mine.Internal.Pl
end
section
open PySem PySem.W PyProof.Rows
namespace Mine.Internal.Pl
noncomputable def addHdrP (W : Str → Bool) (vs : List PV) (ph : List PO) : Res PV := match vs with
  | [o, x, y] => match asHdr o with
    | some n => match x.asStr with
      | some a => match y.asStr with
        | some b => match W a && W b with
          | true => match listAt ph n with
            | some xs => match Nat.ble xs.length 1000 with
              | true => some (.none, ph.set n (.list (xs ++ [.tup [.str a, .str b]])))
              | false => none
            | none => none
          | false => none
        | none => none
      | none => none
    | none => none
  | _ => none
noncomputable def accAt (ph : List PO) (n : Nat) : Option (List PV) := match ph[n]? with
  | some (.acc xs) => some xs
  | _ => none
noncomputable def isB : PV → Bool
  | .bool _ => true
  | _ => false
noncomputable def convP (W : Str → Bool) (vs : List PV) (kvs : List (Str × PV)) (ph : List PO) : Res PV := match vs with
  | [o, v] => match asHdr o with
    | some _ => match kvs with
      | [kv] => match nEq kv.1 ⟨#[110, 97, 109, 101]⟩ && isB kv.2 with
        | true => match v.asStr with
          | some a => match W a with
            | true => some (v, ph)
            | false => none
          | none => none
        | false => none
      | _ => none
    | none => none
  | _ => none
noncomputable def pushP (vs : List PV) (ph : List PO) : Res PV := match vs with
  | [o, x, y] => match asObj o with
    | some n => match accAt ph n with
      | some xs => match Nat.ble xs.length 1000 with
        | true => some (.none, ph.set n (.acc (xs ++ [.tup [x, y]])))
        | false => none
      | none => none
    | none => none
  | _ => none
noncomputable def popP (vs : List PV) (ph : List PO) : Res PV := match vs with
  | [o] => match asObj o with
    | some n => match accAt ph n with
      | some xs => match Nat.ble xs.length 1001 with
        | true => match xs.getLast? with
          | some v => some (v, ph.set n (.acc xs.dropLast))
          | none => some (.tup [.strg ⟨#[]⟩, .strg ⟨#[]⟩], ph)
        | false => none
      | none => none
    | none => none
  | _ => none
end Mine.Internal.Pl
end
section
open PySem PySem.W PyProof.Rows
namespace Mine.Internal.Pl
section
variable {α : Type} {T : Top} {P : PrimT} {n : Nat} {sc : Scope} {loc loc' loc1 : Loc} {ph ph' ph1 ph2 ph3 : List PO} {r : Ev}
theorem ts_nil : testsP r sc loc [] ph = some (true, ph) := rfl
theorem ts_one {e b} (h : r.t sc loc e ph = some (b, ph1)) : testsP r sc loc [e] ph = some (b, ph1) := by
  unfold testsP; rw [h]; cases b <;> rfl
theorem e_km {o apos args kws pos v vs f kv kvs o'} {name : Str} (hlv : P.lv ≤ n + 1) (hr : nEq name nReplace = false) (hf : (methFits o apos pos args && Nat.blt kws.length 10) = true) (h1 : (ev T P (n + 1)).e sc loc o ph = some (v, ph1)) (hg : getM T v name ph1 = some (.fn f)) (ha : argsP (ev T P (n + 1)) sc loc args ph1 = some (vs, ph2)) (hk : kwP (ev T P (n + 1)) sc loc kws ph2 = some (kv :: kvs, ph3)) (hc : P.f f (v :: vs) (kv :: kvs) ph3 = o') :
    (ev T P (n + 2)).e sc loc (.Call (.Attribute o name apos) args kws pos) ph = o' := by
  refine e_mk hr hf h1 hg ha hk ?_
  unfold runM; dsimp only
  unfold callK; dsimp only
  rw [ev_lv, Nat.ble_eq.mpr hlv]; exact hc
theorem e_kmeth {o apos args kws pos v vs f kv kvs o'} {name : Str} (hr : nEq name nReplace = false) (hf : (methFits o apos pos args && Nat.blt kws.length 10) = true) (h1 : (ev T P (n + 20)).e sc loc o ph = some (v, ph1)) (hg : getM T v name ph1 = some (.fn f)) (ha : argsP (ev T P (n + 20)) sc loc args ph1 = some (vs, ph2)) (hk : kwP (ev T P (n + 20)) sc loc kws ph2 = some (kv :: kvs, ph3)) (hc : P.f f (v :: vs) (kv :: kvs) ph3 = o') (hlv : P.lv ≤ 20 := by decide) :
    (ev T P (n + 21)).e sc loc (.Call (.Attribute o name apos) args kws pos) ph = o' := e_km (by omega) hr hf h1 hg ha hk hc
theorem s_forL {t it body p xs k fl} (hs : srcP (ev T P n) T sc loc t it ph = some (xs, some k, ph1)) (h : forGo (bindT sc t) (fun loc ph => execsP (ev T P n) sc body loc ph) xs loc (ph1.set k .lock) = some (fl, loc', ph2)) (hu : unlockP (some k) xs ph2 = some ph3) : (ev T P (n + 1)).s sc loc (.For t it body [] p) ph = some (fl, loc', ph3) := by
  show sFor _ T sc loc t it body [] ph = _
  unfold sFor; dsimp only; rw [hs]; dsimp only
  rw [show lockP (some k) ph1 = ph1.set k .lock from rfl, h]
  dsimp only; rw [hu]
theorem unlock_lock {k : Nat} {xs : List PV} (h : ph[k]? = some (.list xs)) : unlockP (some k) xs (lockP (some k) ph) = some ph := by
  unfold unlockP lockP; dsimp only
  obtain ⟨hk, e⟩ := List.getElem?_eq_some_iff.mp h
  rw [List.getElem?_set_self hk]; dsimp only
  rw [List.set_set, ← e, List.set_getElem_self]
theorem items_obj {k : Nat} {xs : List PV} (h : ph[k]? = some (.list xs)) : itemsOf (.obj k) ph = some (xs, some k) := by
  show (match listAt ph k with | some xs => some (xs, some k) | none => none) = _
  unfold listAt; rw [h]
theorem e_hdrs {o name pos k} (h0 : notSuper o = true) (h1 : (ev T P n).e sc loc o ph = some (.hdr k, ph1)) (h2 : nEq name nHeaders = true) : (ev T P (n + 1)).e sc loc (.Attribute o name pos) ph = some (.obj k, ph1) := by
  show eAttr _ sc loc o name ph = _
  unfold eAttr; rw [h0]; dsimp only; rw [h1]; dsimp only [asHdr]; rw [h2]
end
end Mine.Internal.Pl
end
section
open PySem PySem.W PyProof.Rows
namespace Mine.Internal.Pl
set_option maxRecDepth 100000
set_option maxHeartbeats 0
variable {P : PrimT} {n : Nat} {ph : List PO}
noncomputable def lowC (c : Nat) : Nat := match Nat.ble 65 c && Nat.ble c 90 with
  | true => c + 32
  | false => c
noncomputable def subC (x y : Nat) : Int := match Nat.beq x y with
  | true => 0
  | false => match Nat.beq (lowC x) (lowC y) with
    | true => 1
    | false => 2
noncomputable abbrev ch (x : Nat) : PV := .str ⟨#[x]⟩
set_option tactic.hygienic true in
noncomputable def parts (s : Stmt) : List Expr × List Stmt × List Stmt := by
  cases s
  case Return v p => exact (v.toList, [], [])
  case Expr e p => exact ([e], [], [])
  case AugAssign t o e p => exact ([e], [], [])
  case Assign t e p => exact ([e], [], [])
  case While t b c p => exact ([t], b, [])
  case If t b c p => exact ([t], b, c)
  case For t e b c p => exact ([t, e], b, [])
  all_goals exact ([], [], [])
noncomputable def wP (s : Stmt) (k : Nat) : Expr := (parts s).1.getD k (.Constant .none 0 ⟨0, 0, 0, 0⟩)
noncomputable abbrev wT (s : Stmt) : Expr := wP s 0
noncomputable def wB (s : Stmt) : List Stmt := (parts s).2.1
noncomputable abbrev wF := wT
noncomputable abbrev wV := wT
set_option tactic.hygienic true in
noncomputable def view (e : Expr) : List Expr × Scope := by
  cases e
  case Compare a o bs p => exact (a :: bs, fn0.scope)
  case BoolOp o es p => exact (es, fn0.scope)
  case IfExp t a b p => exact ([t, a, b], fn0.scope)
  case Subscript o i p => exact ([o, i], fn0.scope)
  case BinOp a o b p => exact ([a, b], fn0.scope)
  case Call f args k p => exact (f :: args, fn0.scope)
  case List es p => exact (es, fn0.scope)
  case ListComp e gs s p => exact (e :: gs.flatMap fun g => g.iter :: g.ifs, s)
  all_goals exact ([], fn0.scope)
noncomputable def subs (e : Expr) : List Expr := (view e).1
noncomputable def sub (e : Expr) (k : Nat) : Expr := (subs e).getD k e
noncomputable def scOf (e : Expr) : Scope := (view e).2
theorem sEq1 {x y : Nat} : sEq ⟨#[x]⟩ ⟨#[y]⟩ = Nat.beq x y := by
  show (match Nat.beq x y with | true => true | false => false) = _
  cases Nat.beq x y <;> rfl
theorem lowAll : (List.range 128).all (fun x => sEq (Txt.lower ⟨#[x]⟩) ⟨#[lowC x]⟩) = true := by decide +kernel
theorem low1 {x : Nat} (h : x < 128) : Txt.lower ⟨#[x]⟩ = ⟨#[lowC x]⟩ := by
  have := List.all_eq_true.mp lowAll x (List.mem_range.mpr h)
  exact sEq_iff.mp this
noncomputable abbrev kA : Str := ⟨#[97]⟩
noncomputable abbrev kB : Str := ⟨#[98]⟩
noncomputable abbrev kM : Str := ⟨#[109, 97, 120, 95, 99, 111, 115, 116]⟩
noncomputable abbrev kPre : Str := ⟨#[112, 114, 101]⟩
noncomputable abbrev kPost : Str := ⟨#[112, 111, 115, 116]⟩
noncomputable abbrev kRow : Str := ⟨#[114, 111, 119]⟩
noncomputable abbrev kRes : Str := ⟨#[114, 101, 115, 117, 108, 116]⟩
noncomputable abbrev kBi : Str := ⟨#[98, 105, 110, 100, 101, 120]⟩
noncomputable abbrev kBc : Str := ⟨#[98, 99, 104, 97, 114]⟩
noncomputable abbrev kDist : Str := ⟨#[100, 105, 115, 116, 97, 110, 99, 101]⟩
noncomputable abbrev kMin : Str := ⟨#[109, 105, 110, 105, 109, 117, 109]⟩
noncomputable abbrev kI : Str := ⟨#[105, 110, 100, 101, 120]⟩
noncomputable abbrev kSub : Str := ⟨#[115, 117, 98, 115, 116, 105, 116, 117, 116, 101]⟩
noncomputable abbrev kIns : Str := ⟨#[105, 110, 115, 101, 114, 116, 95, 100, 101, 108, 101, 116, 101]⟩
theorem lowerOk1 {x : Nat} (h : x < 128) : lowerOk ⟨#[x]⟩ = true := by
  show (((Nat.blt x 128 && true)) && true) = true
  rw [Nat.blt_eq.mpr h]; rfl
theorem caseP_low {x : Nat} (h : x < 128) : caseP Txt.lower ⟨#[x]⟩ [] = some (.strg ⟨#[lowC x]⟩) := by
  unfold caseP; dsimp only; rw [lowerOk1 h, low1 h]
theorem t_low {x y : Nat} {r : Bool} (hx : x < 128) (hy : y < 128) (hr : Nat.beq (lowC x) (lowC y) = r) : (ev tT P (n + 11)).t dSub.scope [(⟨#[99, 104, 95, 97]⟩, ch x), (⟨#[99, 104, 95, 98]⟩, ch y)] (wT (stN dSub.body 1)) ph = some (r, ph) := by
  have e1 : (ev tT P (n + 10)).e dSub.scope [(⟨#[99, 104, 95, 97]⟩, ch x), (⟨#[99, 104, 95, 98]⟩, ch y)] (sub (wT (stN dSub.body 1)) 0) ph = some (.strg ⟨#[lowC x]⟩, ph) := by
    show (match caseP Txt.lower ⟨#[x]⟩ [] with | some v => some (v, ph) | none => none) = _
    rw [caseP_low hx]
  have e2 : (ev tT P (n + 10)).e dSub.scope [(⟨#[99, 104, 95, 97]⟩, ch x), (⟨#[99, 104, 95, 98]⟩, ch y)] (sub (wT (stN dSub.body 1)) 1) ph = some (.strg ⟨#[lowC y]⟩, ph) := by
    show (match caseP Txt.lower ⟨#[y]⟩ [] with | some v => some (v, ph) | none => none) = _
    rw [caseP_low hy]
  refine t_cmp e1 e2 ?_
  show some (sEq ⟨#[lowC x]⟩ ⟨#[lowC y]⟩) = _
  rw [sEq1, hr]
theorem sub_ok {x y : Nat} (hx : x < 128) (hy : y < 128) (hp : PhOk ph) : (ev tT P (n + 13)).c 129 [ch x, ch y] ph = some (.int (subC x y), ph) := by
  refine c_ret (d := dSub) rfl rfl (v := .int (subC x y)) (ph' := ph) (loc' := [(⟨#[99, 104, 95, 97]⟩, ch x), (⟨#[99, 104, 95, 98]⟩, ch y)]) ?_ (fin_int hp)
  unfold subC
  cases h : Nat.beq x y with
  | true =>
    refine x_ret (s_if (c := sEq ⟨#[x]⟩ ⟨#[y]⟩) rfl (fun j9 => ?_) (fun q => ?_))
    · exact x_one rfl
    · rw [sEq1, h] at q; cases q
  | false =>
    refine x_cons (s_if (c := sEq ⟨#[x]⟩ ⟨#[y]⟩) rfl (fun q => ?_) (fun j9 => rfl)) ?_
    · rw [sEq1, h] at q; cases q
    cases h2 : Nat.beq (lowC x) (lowC y) with
    | true => exact x_ret (s_if (c := true) (t_low hx hy h2) (fun j9 => x_one rfl) (fun q => nomatch q))
    | false => exact x_cons (s_if (c := false) (t_low hx hy h2) (fun q => nomatch q) (fun j9 => rfl)) (x_one rfl)
noncomputable def cpl : List Nat → List Nat → Nat
  | [], _ => 0
  | _ :: _, [] => 0
  | x :: as, y :: bs => match Nat.beq x y with
    | true => cpl as bs + 1
    | false => 0
noncomputable abbrev W1 : Stmt := stN dLev.body 2
theorem loop1 {va vb : PV} {as bs : List Nat} {m : Int} (va' : IsS va as) (vb' : IsS vb bs) (ha : as.length ≤ 80) (hb : bs.length ≤ 80) : ∀ (f k : Nat), k ≤ as.length → k ≤ bs.length → as.length - k < f →
    whileGo (fun loc ph => (ev tT P (n + 20)).t dLev.scope loc (wT W1) ph) (fun loc ph => execsP (ev tT P (n + 20)) dLev.scope (wB W1) loc ph) f [(kA, va), (kB, vb), (kM, .int m), (kPre, .int k)] ph =
      some (.next, [(kA, va), (kB, vb), (kM, .int m), (kPre, .int ((k + cpl (as.drop k) (bs.drop k) : Nat) : Int))], ph)
  | 0, k, _, _, h => by omega
  | f + 1, k, h1, h2, h3 => by
    have p1 : (ev tT P (n + 19)).t dLev.scope [(kA, va), (kB, vb), (kM, .int m), (kPre, .int k)] (sub (wT W1) 0) ph = some (!(as.drop k).isEmpty, ph) :=
      t_sub (e_slice rfl rfl rfl rfl rfl (va'.from (by omega) h1)) (truth_st (by simp; omega))
    have p2 : (ev tT P (n + 19)).t dLev.scope [(kA, va), (kB, vb), (kM, .int m), (kPre, .int k)] (sub (wT W1) 1) ph = some (!(bs.drop k).isEmpty, ph) :=
      t_sub (e_slice rfl rfl rfl rfl rfl (vb'.from (by omega) h2)) (truth_st (by simp; omega))
    cases qa : as.drop k with
    | nil =>
      rw [qa] at p1
      exact w_stop (t_bool (and_no p1))
    | cons x as' =>
      rw [qa] at p1
      cases qb : bs.drop k with
      | nil =>
        rw [qb] at p2
        exact w_stop (t_bool (and_go p1 (and_no p2)))
      | cons y bs' =>
        rw [qb] at p2
        have ia : as[k]? = some x := by
          have := congrArg (·[0]?) qa
          simpa using this
        have ib : bs[k]? = some y := by
          have := congrArg (·[0]?) qb
          simpa using this
        have p3 : (ev tT P (n + 19)).t dLev.scope [(kA, va), (kB, vb), (kM, .int m), (kPre, .int k)] (sub (wT W1) 2) ph = some (Nat.beq x y, ph) :=
          t_cmp (e_item rfl rfl rfl (va'.nat ia (by omega))) (e_item rfl rfl rfl (vb'.nat ib (by omega))) (by show some (sEq ⟨#[x]⟩ ⟨#[y]⟩) = _; rw [sEq1])
        have la : k < as.length := (List.getElem?_eq_some_iff.mp ia).1
        have lb : k < bs.length := (List.getElem?_eq_some_iff.mp ib).1
        unfold cpl
        cases q : Nat.beq x y with
        | false =>
          rw [q] at p3
          exact w_stop (t_bool (and_go p1 (and_go p2 (and_no p3))))
        | true =>
          rw [q] at p3
          refine w_go (t_bool (and_go p1 (and_go p2 (and_go p3 rfl)))) (loc1 := [(kA, va), (kB, vb), (kM, .int m), (kPre, .int ((k + 1 : Nat) : Int))]) (ph2 := ph) rfl ?_
          rw [loop1 va' vb' ha hb f (k + 1) (by omega) (by omega) (by omega)]
          have da : as' = as.drop (k + 1) := by rw [← List.drop_drop, qa]; rfl
          have db : bs' = bs.drop (k + 1) := by rw [← List.drop_drop, qb]; rfl
          rw [da, db, show k + 1 + cpl (as.drop (k + 1)) (bs.drop (k + 1)) = k + (cpl (as.drop (k + 1)) (bs.drop (k + 1)) + 1) by omega]
noncomputable abbrev W2 : Stmt := stN dLev.body 6
theorem take_rev_empty {l : List Nat} {k : Nat} : (l.take (l.length - k)).isEmpty = (l.reverse.drop k).isEmpty := by
  rw [Bool.eq_iff_iff, List.isEmpty_iff, List.isEmpty_iff, ← List.length_eq_zero_iff, ← List.length_eq_zero_iff]
  simp
noncomputable abbrev FP (a b : List Nat) (m p : Int) (q : Int) : Loc := [(kA, .str (st a)), (kB, .str (st b)), (kM, .int m), (kPre, .int p), (kPost, .int q)]
noncomputable def poV : Nat → PV
  | 0 => .none
  | k + 1 => .int (-((k + 1 : Nat) : Int))
theorem post_hi {a b : List Nat} {m p : Int} {k : Nat} {e : Expr} (he : (ev tT P (n + 17)).e dLev.scope (FP a b m p (-(k : Int))) e ph = boolP (ev tT P (n + 16)) dLev.scope (FP a b m p (-(k : Int))) .Or
    [.Name kPost ⟨0, 0, 0, 0⟩, .Constant .none 0 ⟨0, 0, 0, 0⟩] ph) : optP (ev tT P (n + 17)) dLev.scope (FP a b m p (-(k : Int))) (some e) ph = some (poV k, ph) := by
  show (ev tT P (n + 17)).e dLev.scope (FP a b m p (-(k : Int))) e ph = _
  rw [he]
  cases k with
  | zero => rfl
  | succ k => rfl
theorem post_slice {l : List Nat} {k : Nat} {ph : List PO} (h : l.length ≤ 80) (hk : k ≤ l.length) : ∃ hv, partP (poV k) = some hv ∧ sliceP (.str (st l)) none hv ph = some (.str (st (l.take (l.length - k)))) := by
  cases k with
  | zero => exact ⟨none, rfl, by rw [slice_all (by omega)]; simp⟩
  | succ k => exact ⟨some (-((k + 1 : Nat) : Int)), rfl, slice_upto (by omega) (by omega) hk⟩
theorem loop2 {as bs : List Nat} {m p : Int} (ha : as.length ≤ 80) (hb : bs.length ≤ 80) : ∀ (f k : Nat), k ≤ as.length → k ≤ bs.length → as.length - k < f →
    whileGo (fun loc ph => (ev tT P (n + 20)).t dLev.scope loc (wT W2) ph) (fun loc ph => execsP (ev tT P (n + 20)) dLev.scope (wB W2) loc ph) f (FP as bs m p (-(k : Int))) ph =
      some (.next, FP as bs m p (-((k + cpl (as.reverse.drop k) (bs.reverse.drop k) : Nat) : Int)), ph)
  | 0, k, _, _, h => by omega
  | f + 1, k, h1, h2, h3 => by
    obtain ⟨v1, v2, v3⟩ := post_slice (ph := ph) ha h1
    obtain ⟨u1, u2, u3⟩ := post_slice (ph := ph) hb h2
    have p1 : (ev tT P (n + 19)).t dLev.scope (FP as bs m p (-(k : Int))) (sub (wT W2) 0) ph = some (!(as.reverse.drop k).isEmpty, ph) := by
      rw [← take_rev_empty]
      exact t_sub (e_slice rfl rfl (post_hi rfl) rfl v2 v3) (truth_st (by simp; omega))
    have p2 : (ev tT P (n + 19)).t dLev.scope (FP as bs m p (-(k : Int))) (sub (wT W2) 1) ph = some (!(bs.reverse.drop k).isEmpty, ph) := by
      rw [← take_rev_empty]
      exact t_sub (e_slice rfl rfl (post_hi rfl) rfl u2 u3) (truth_st (by simp; omega))
    cases qa : as.reverse.drop k with
    | nil =>
      rw [qa] at p1
      exact w_stop (t_bool (and_no p1))
    | cons x as' =>
      rw [qa] at p1
      cases qb : bs.reverse.drop k with
      | nil =>
        rw [qb] at p2
        exact w_stop (t_bool (and_go p1 (and_no p2)))
      | cons y bs' =>
        rw [qb] at p2
        have ia : as.reverse[k]? = some x := by
          have := congrArg (·[0]?) qa
          simpa using this
        have ib : bs.reverse[k]? = some y := by
          have := congrArg (·[0]?) qb
          simpa using this
        have la : k < as.length := by have := (List.getElem?_eq_some_iff.mp ia).1; simpa using this
        have lb : k < bs.length := by have := (List.getElem?_eq_some_iff.mp ib).1; simpa using this
        have ia' : as[as.length - (k + 1)]? = some x := by rw [List.getElem?_reverse la] at ia; rw [← ia]; congr 1; omega
        have ib' : bs[bs.length - (k + 1)]? = some y := by rw [List.getElem?_reverse lb] at ib; rw [← ib]; congr 1; omega
        have ja := item_neg (ph := ph) ia' (by omega) (by omega) la
        have jb := item_neg (ph := ph) ib' (by omega) (by omega) lb
        rw [show -((k + 1 : Nat) : Int) = -(k : Int) - 1 by omega] at ja jb
        have p3 : (ev tT P (n + 19)).t dLev.scope (FP as bs m p (-(k : Int))) (sub (wT W2) 2) ph = some (Nat.beq x y, ph) :=
          t_cmp (e_item rfl rfl rfl ja) (e_item rfl rfl rfl jb) (by show some (sEq ⟨#[x]⟩ ⟨#[y]⟩) = _; rw [sEq1])
        unfold cpl
        cases q : Nat.beq x y with
        | false =>
          rw [q] at p3
          exact w_stop (t_bool (and_go p1 (and_go p2 (and_no p3))))
        | true =>
          rw [q] at p3
          refine w_go (t_bool (and_go p1 (and_go p2 (and_go p3 rfl)))) (loc1 := FP as bs m p (-(k : Int) - 1)) (ph2 := ph) rfl ?_
          rw [show -(k : Int) - 1 = -((k + 1 : Nat) : Int) by omega]
          rw [loop2 ha hb f (k + 1) (by omega) (by omega) (by omega)]
          have da : as' = as.reverse.drop (k + 1) := by rw [← List.drop_drop, qa]; rfl
          have db : bs' = bs.reverse.drop (k + 1) := by rw [← List.drop_drop, qb]; rfl
          rw [da, db, show k + 1 + cpl (as.reverse.drop (k + 1)) (bs.reverse.drop (k + 1)) = k + (cpl (as.reverse.drop (k + 1)) (bs.reverse.drop (k + 1)) + 1) by omega]
noncomputable def mn2 (a b : Int) : Int := if b < a then b else a
noncomputable def rowStep (y : Nat) : List Nat → List Int → Int → Int → Int → List Int × Int × Int
  | x :: as, w :: ws, d, r, mn =>
    let r' := mn2 (mn2 r w + 2) (d + subC y x)
    match rowStep y as ws w r' (if r' < mn then r' else mn) with
    | (row, r2, m2) => (r' :: row, r2, m2)
  | _, _, d, r, mn => ([], r, mn)
noncomputable def outerL (a : List Nat) (m : Int) : List Nat → Int → List Int → Int → Int
  | [], _, _, res => res
  | y :: bs, k, row, _ => match rowStep y a row (k * 2) (k * 2) 9223372036854775807 with
    | (row', r, mn) => if mn > m then m + 1 else outerL a m bs (k + 1) row' r
noncomputable abbrev WO : Stmt := stN dLev.body 15
noncomputable abbrev WI : Stmt := stN (wB WO) 3
noncomputable abbrev G (a b : List Nat) (m p q : Int) (N : Nat) (res bi : Int) (y : Nat) (d mn : Int) (tl : Loc) : Loc :=
  [(kA, .str (st a)), (kB, .str (st b)), (kM, .int m), (kPre, .int p), (kPost, .int q), (kRow, .obj N), (kRes, .int res), (kBi, .int bi), (kBc, ch y), (kDist, .int d), (kMin, .int mn)] ++ tl
noncomputable def Tl (tl : Loc) : Prop := tl = [] ∨ ∃ i s t, tl = [(kI, i), (kSub, s), (kIns, t)]
theorem at_done {done ws : List Int} {w : Int} {k : Nat} (h : done.length = k) (hk : k < 1000) : atP ((done ++ w :: ws).map PV.int) (k : Int) = some (.int w) := by
  unfold atP
  rw [if_pos (by omega)]
  subst h
  simp
theorem item_row {ph0 : List PO} {done ws : List Int} {w : Int} {k : Nat} (h : done.length = k) (hk : k < 1000) : itemP (.obj ph0.length) (.int (k : Int)) (ph0 ++ [PO.list ((done ++ w :: ws).map .int)]) = some (.int w) := by
  show (match smallI k with | false => none | true => match seqOf (ph0 ++ [PO.list ((done ++ w :: ws).map .int)]) (.obj ph0.length) with | some xs => atP xs (k : Int) | none => none) = _
  rw [show smallI (k : Int) = true from by unfold smallI; simp; omega]
  have : seqOf (ph0 ++ [PO.list ((done ++ w :: ws).map .int)]) (.obj ph0.length) = some ((done ++ w :: ws).map .int) := by
    unfold seqOf; dsimp only; simp
  rw [this]
  exact at_done h hk
theorem store_row {ph0 : List PO} {done ws : List Int} {w v : Int} {k : Nat} (h : done.length = k) (hk : (done ++ w :: ws).length ≤ 1000) : storeP (.obj ph0.length) (.int (k : Int)) (.int v) (ph0 ++ [PO.list ((done ++ w :: ws).map .int)]) = some (ph0 ++ [PO.list ((done ++ v :: ws).map .int)]) := by
  show (match listAt (ph0 ++ [PO.list ((done ++ w :: ws).map .int)]) ph0.length with | some xs => storeL ph0.length xs (.int (k : Int)) (.int v) (ph0 ++ [PO.list ((done ++ w :: ws).map .int)]) | none => _) = _
  rw [show listAt (ph0 ++ [PO.list ((done ++ w :: ws).map .int)]) ph0.length = some ((done ++ w :: ws).map .int) by unfold listAt; simp]
  show (match decide (0 ≤ (k : Int)) && decide ((k : Int) < ((done ++ w :: ws).map PV.int).length) && Nat.ble ((done ++ w :: ws).map PV.int).length 1000 with | true => _ | false => _) = _
  rw [show (decide (0 ≤ (k : Int)) && decide ((k : Int) < ((done ++ w :: ws).map PV.int).length) && Nat.ble ((done ++ w :: ws).map PV.int).length 1000) = true by
    rw [List.length_map, Nat.ble_eq.mpr hk, decide_eq_true (Int.natCast_nonneg k), decide_eq_true (by rw [List.length_append, List.length_cons]; omega)]; rfl]
  subst h
  simp
theorem body_inner {a b : List Nat} {m p q : Int} {res bi d mn w : Int} {y x k : Nat} {tl : Loc} {ph0 : List PO} {done ws : List Int} (hp : PhOk ph0) (hy : y < 128) (hx : x < 128) (hk : a[k]? = some x) (hd : done.length = k) (hl : (done ++ w :: ws).length ≤ 80)
    (htl : tl = [(kI, .int (k : Int))] ∨ ∃ s t, tl = [(kI, .int (k : Int)), (kSub, s), (kIns, t)]) :
    execsP (ev tT P (n + 16)) dLev.scope (wB WI) (G a b m p q ph0.length res bi y d mn tl) (ph0 ++ [PO.list ((done ++ w :: ws).map .int)]) =
      some (.next, G a b m p q ph0.length (mn2 (mn2 res w + 2) (d + subC y x)) bi y w (if mn2 (mn2 res w + 2) (d + subC y x) < mn then mn2 (mn2 res w + 2) (d + subC y x) else mn) [(kI, .int (k : Int)), (kSub, .int (d + subC y x)), (kIns, .int (mn2 res w + 2))],
        ph0 ++ [.list ((done ++ mn2 (mn2 res w + 2) (d + subC y x) :: ws).map .int)]) := by
  have hk80 : k < 80 := by simp at hl; omega
  have hp1 : PhOk (ph0 ++ [PO.list ((done ++ w :: ws).map .int)]) := phOk_app hp belowL_ints
  rcases htl with rfl | ⟨s, t, rfl⟩ <;>
  · refine x_cons (s_name (e_bin (by rfl) (e_call (by rfl) (by rfl) (a_cons (by rfl) (a_cons (e_item (by rfl) (by rfl) (by rfl) (item_nat hk (by omega))) a_nil)) (sub_ok hy hx hp1)) (by rfl)) (by rfl)) ?_
    refine x_cons (s_name (e_item (by rfl) (by rfl) (by rfl) (item_row hd (by omega))) (by rfl)) ?_
    refine x_cons (s_name (y := .int (mn2 res w + 2)) (ph1 := ph0 ++ [PO.list ((done ++ w :: ws).map .int)]) (by rfl) (by rfl)) ?_
    refine x_cons (s_name (y := .int (mn2 (mn2 res w + 2) (d + subC y x))) (ph1 := ph0 ++ [PO.list ((done ++ w :: ws).map .int)]) (by rfl) (by rfl)) ?_
    refine x_cons (s_item (by rfl) (by rfl) (by rfl) (by rfl) (by rfl) (store_row hd (by omega))) ?_
    refine x_one (s_if (c := decide (mn2 (mn2 res w + 2) (d + subC y x) < mn)) (by rfl) (fun c => ?_) (fun c => ?_))
    · rw [if_pos (of_decide_eq_true c)]; rfl
    · rw [if_neg (of_decide_eq_false c)]; rfl
noncomputable def Tl3 (tl : Loc) : Prop := ∃ i s t, tl = [(kI, i), (kSub, s), (kIns, t)]
theorem inner {a b : List Nat} {m p q bi : Int} {y : Nat} {ph0 : List PO} (hp : PhOk ph0) (hy : y < 128) (hA : ∀ x ∈ a, x < 128) (hal : a.length ≤ 80) : ∀ (as' : List Nat) (ws done : List Int) (k : Nat) (tl : Loc) (d res mn : Int),
    a.drop k = as' → ws.length = as'.length → done.length = k → (tl = [] ∨ Tl3 tl) → ∃ tl' d', (tl' = [] ∨ Tl3 tl') ∧ forGo (bindT dLev.scope (wF WI)) (fun loc ph => execsP (ev tT P (n + 16)) dLev.scope (wB WI) loc ph) (idx k as'.length) (G a b m p q ph0.length res bi y d mn tl) (ph0 ++ [PO.list ((done ++ ws).map .int)]) =
      some (.next, G a b m p q ph0.length (rowStep y as' ws d res mn).2.1 bi y d' (rowStep y as' ws d res mn).2.2 tl', ph0 ++ [PO.list ((done ++ (rowStep y as' ws d res mn).1).map .int)])
  | [], ws, done, k, tl, d, res, mn, h1, h2, h3, h4 => by
    cases ws with
    | cons w ws => simp at h2
    | nil => exact ⟨tl, d, h4, rfl⟩
  | x :: as', [], done, k, tl, d, res, mn, h1, h2, h3, h4 => by simp at h2
  | x :: as', w :: ws, done, k, tl, d, res, mn, h1, h2, h3, h4 => by
    have hk : a[k]? = some x := by
      have := congrArg (·[0]?) h1
      simpa using this
    have hx : x < 128 := hA x (List.mem_of_getElem? hk)
    have hkl : k < a.length := (List.getElem?_eq_some_iff.mp hk).1
    have hlen : (a.drop k).length = a.length - k := List.length_drop
    rw [h1] at hlen
    simp at hlen h2
    obtain ⟨tl', d', q1, q2⟩ := inner hp hy hA hal as' ws (done ++ [mn2 (mn2 res w + 2) (d + subC y x)]) (k + 1) [(kI, .int (k : Int)), (kSub, .int (d + subC y x)), (kIns, .int (mn2 res w + 2))] w (mn2 (mn2 res w + 2) (d + subC y x))
      (if mn2 (mn2 res w + 2) (d + subC y x) < mn then mn2 (mn2 res w + 2) (d + subC y x) else mn) (by rw [← List.drop_drop, h1]; rfl) h2 (by simp [h3]) (.inr ⟨_, _, _, rfl⟩)
    refine ⟨tl', d', q1, ?_⟩
    rw [show idx k (x :: as').length = .int (k : Int) :: idx (k + 1) as'.length from by simp [idx, List.range'_succ]]
    refine f_cons (loc1 := G a b m p q ph0.length res bi y d mn (match tl with | [] => [(kI, .int (k : Int))] | [_, s, t] => [(kI, .int (k : Int)), s, t] | _ => [])) ?_ (body_inner (x := x) hp hy hx hk h3 (by simp; omega) ?_) ?_
    · rcases h4 with rfl | ⟨i, s, t, rfl⟩ <;> rfl
    · rcases h4 with rfl | ⟨i, s, t, rfl⟩
      · exact .inl rfl
      · exact .inr ⟨s, t, rfl⟩
    · rw [show done ++ mn2 (mn2 res w + 2) (d + subC y x) :: ws = done ++ [mn2 (mn2 res w + 2) (d + subC y x)] ++ ws by simp]
      rw [q2]
      simp [rowStep]
end Mine.Internal.Pl
end
section
open PySem PySem.W PyProof.Rows
namespace Mine.Internal.Pl
set_option maxRecDepth 100000
set_option maxHeartbeats 400000
variable {P : PrimT} {n : Nat} {ph : List PO}
noncomputable abbrev H0 (a b : List Nat) (m p q : Int) (N : Nat) (res : Int) : Loc :=
  [(kA, .str (st a)), (kB, .str (st b)), (kM, .int m), (kPre, .int p), (kPost, .int q), (kRow, .obj N), (kRes, .int res)]
noncomputable def Out (a b : List Nat) (m p q : Int) (N : Nat) (res : Int) (loc : Loc) : Prop :=
  loc = H0 a b m p q N res ∨ ∃ bi y d mn tl, (tl = [] ∨ Tl3 tl) ∧ loc = G a b m p q N res bi y d mn tl
theorem rowStep_len {y : Nat} : ∀ {as : List Nat} {ws : List Int} {d r mn : Int}, ws.length = as.length → (rowStep y as ws d r mn).1.length = as.length
  | [], [], _, _, _, _ => rfl
  | [], _ :: _, _, _, _, h => by simp at h
  | _ :: _, [], _, _, _, h => by simp at h
  | x :: as, w :: ws, d, r, mn, h => by
    simp only [rowStep, List.length_cons]
    rw [rowStep_len (by simpa using h)]
theorem outer {a b : List Nat} {m p q : Int} {ph0 : List PO} (hp : PhOk ph0) (hA : ∀ x ∈ a, x < 128) (hB : ∀ x ∈ b, x < 128) (hal : a.length ≤ 80) (hbl : b.length ≤ 80) : ∀ (bs' : List Nat) (row : List Int) (k : Nat) (res : Int) (loc : Loc),
    b.drop k = bs' → row.length = a.length → Out a b m p q ph0.length res loc → ∃ fl loc' ex, forGo (bindT dLev.scope (wF WO)) (fun loc ph => execsP (ev tT P (n + 17)) dLev.scope (wB WO) loc ph) (idx k bs'.length) loc (ph0 ++ [PO.list (row.map .int)]) = some (fl, loc', ph0 ++ ex) ∧
      ((fl = .next ∧ Out a b m p q ph0.length (outerL a m bs' k row res) loc') ∨ fl = .ret (.int (outerL a m bs' k row res)))
  | [], row, k, res, loc, h1, h2, h3 => ⟨.next, loc, [PO.list (row.map .int)], rfl, .inl ⟨rfl, h3⟩⟩
  | y :: bs', row, k, res, loc, h1, h2, h3 => by
    have hk : b[k]? = some y := by
      have := congrArg (·[0]?) h1
      simpa using this
    have hy : y < 128 := hB y (List.mem_of_getElem? hk)
    have hkl : k < b.length := (List.getElem?_eq_some_iff.mp hk).1
    have key : ∃ tl loc1, (tl = [] ∨ Tl3 tl) ∧ bindT dLev.scope (wF WO) (.int (k : Int)) loc = some loc1 ∧ ∀ o, execsP (ev tT P (n + 17)) dLev.scope ((wB WO).drop 3) (G a b m p q ph0.length ((k : Int) * 2) k y ((k : Int) * 2) 9223372036854775807 tl) (ph0 ++ [PO.list (row.map .int)]) = o →
        execsP (ev tT P (n + 17)) dLev.scope (wB WO) loc1 (ph0 ++ [PO.list (row.map .int)]) = o := by
      rcases h3 with rfl | ⟨bi, y', d, mn, tl, ht, rfl⟩
      · refine ⟨[], _, .inl rfl, rfl, fun o h => ?_⟩
        refine x_cons (s_name (e_item (by rfl) (by rfl) (by rfl) (item_nat hk (by omega))) (by rfl)) ?_
        refine x_cons (s_two (e_bin (by rfl) (by rfl) (mul2 (by omega))) (by rfl)) ?_
        exact x_cons (s_name (by rfl) (by rfl)) h
      · rcases ht with rfl | ⟨i, s, t, rfl⟩
        · refine ⟨[], _, .inl rfl, rfl, fun o h => ?_⟩
          refine x_cons (s_name (e_item (by rfl) (by rfl) (by rfl) (item_nat hk (by omega))) (by rfl)) ?_
          refine x_cons (s_two (e_bin (by rfl) (by rfl) (mul2 (by omega))) (by rfl)) ?_
          exact x_cons (s_name (by rfl) (by rfl)) h
        · refine ⟨[(kI, i), (kSub, s), (kIns, t)], _, .inr ⟨_, _, _, rfl⟩, rfl, fun o h => ?_⟩
          refine x_cons (s_name (e_item (by rfl) (by rfl) (by rfl) (item_nat hk (by omega))) (by rfl)) ?_
          refine x_cons (s_two (e_bin (by rfl) (by rfl) (mul2 (by omega))) (by rfl)) ?_
          exact x_cons (s_name (by rfl) (by rfl)) h
    obtain ⟨tl, loc1, ht, hb, key⟩ := key
    obtain ⟨tl', d', q1, q2⟩ := inner (P := P) (n := n) (a := a) (b := b) (m := m) (p := p) (q := q) (bi := (k : Int)) (y := y) hp hy hA hal a row [] 0 tl ((k : Int) * 2) ((k : Int) * 2) 9223372036854775807 rfl h2 rfl ht
    simp only [List.nil_append] at q2
    have hinn : (ev tT P (n + 17)).s dLev.scope (G a b m p q ph0.length ((k : Int) * 2) k y ((k : Int) * 2) 9223372036854775807 tl) WI (ph0 ++ [PO.list (row.map .int)]) = some (.next, G a b m p q ph0.length (rowStep y a row ((k : Int) * 2) ((k : Int) * 2) 9223372036854775807).2.1 k y d' (rowStep y a row ((k : Int) * 2) ((k : Int) * 2) 9223372036854775807).2.2 tl', ph0 ++ [PO.list ((rowStep y a row ((k : Int) * 2) ((k : Int) * 2) 9223372036854775807).1.map .int)]) :=
      s_for (src_plain (by rfl) (e_bi (by rfl) (by rfl) (a_cons (e_bi (by rfl) (by rfl) (a_cons (by rfl) a_nil) (len_st (by omega))) a_nil) (by rfl)) (items_rng (by omega))) q2
    rw [show idx k (y :: bs').length = .int (k : Int) :: idx (k + 1) bs'.length from by simp [idx, List.range'_succ]]
    unfold outerL
    generalize hR : rowStep y a row ((k : Int) * 2) ((k : Int) * 2) 9223372036854775807 = R at hinn ⊢
    obtain ⟨row', r, mn⟩ := R
    dsimp only at hinn ⊢
    have hrl : row'.length = a.length := by
      have := rowStep_len (y := y) (as := a) (ws := row) (d := (k : Int) * 2) (r := (k : Int) * 2) (mn := 9223372036854775807) h2
      rw [hR] at this; exact this
    by_cases hm : mn > m
    · rw [if_pos hm]
      refine ⟨.ret (.int (m + 1)), G a b m p q ph0.length r k y d' mn tl', [PO.list (row'.map .int)], f_ret hb (key _ ?_), .inr rfl⟩
      refine x_cons (by exact hinn) ?_
      refine x_ret (s_if (c := decide (mn > m)) (by rfl) (fun j9 => ?_) (fun c => absurd hm (of_decide_eq_false c)))
      exact x_one (s_ret (by rfl))
    · rw [if_neg hm]
      obtain ⟨fl, loc', ex, w1, w2⟩ := outer hp hA hB hal hbl bs' row' (k + 1) r (G a b m p q ph0.length r k y d' mn tl') (by rw [← List.drop_drop, h1]; rfl) hrl (.inr ⟨_, _, _, _, _, q1, rfl⟩)
      refine ⟨fl, loc', ex, ?_, ?_⟩
      · refine f_cons hb (key _ ?_) w1
        refine x_cons (by exact hinn) ?_
        exact x_one (s_if (c := decide (mn > m)) (by rfl) (fun c => absurd (of_decide_eq_true c) hm) (fun j9 => rfl))
      · have : ((k + 1 : Nat) : Int) = (k : Int) + 1 := rfl
        rw [this] at w2; exact w2
noncomputable def rowsL (a b : List Nat) (m : Int) : Int :=
  if ((b.length : Int) - a.length) * 2 > m then m + 1 else outerL a m b 0 ((List.range a.length).map fun i : Nat => 2 + (i : Int) * 2) 0
noncomputable def coreL (a b : List Nat) (m : Int) : Int := match a.isEmpty || b.isEmpty with
  | true => 2 * ((a.length : Int) + b.length)
  | false => match Nat.blt b.length a.length with
    | true => rowsL b a m
    | false => rowsL a b m
noncomputable def stripL (a b : List Nat) (m : Int) : Int :=
  coreL (a.take (a.length - cpl a.reverse b.reverse)) (b.take (b.length - cpl a.reverse b.reverse)) m
noncomputable def levL (a b : List Nat) (m : Int) : Int := match natsEq a b with
  | true => 0
  | false => stripL (a.drop (cpl a b)) (b.drop (cpl a b)) m
theorem cpl_le : ∀ {a b : List Nat}, cpl a b ≤ a.length ∧ cpl a b ≤ b.length
  | [], _ => by simp [cpl]
  | _ :: _, [] => by simp [cpl]
  | x :: a, y :: b => by
    unfold cpl
    have := cpl_le (a := a) (b := b)
    cases Nat.beq x y <;> simp <;> omega
theorem row_items {k : Nat} : rngItems 2 (2 * ((k : Int) + 1)) 2 = ((List.range k).map fun i : Nat => 2 + (i : Int) * 2).map PV.int := by
  unfold rngItems
  have : (Builtin.Range.rangeSize 2 (2 * ((k : Int) + 1)) 2).toNat = k := by
    unfold Builtin.Range.rangeSize
    simp
    omega
  rw [this, List.map_map]
  rfl
theorem list_row {P : PrimT} {k : Nat} (h : k ≤ 80) : callBi P .list [.rng 2 (2 * ((k : Int) + 1)) 2] ph = some (.obj ph.length, ph ++ [PO.list (((List.range k).map fun i : Nat => 2 + (i : Int) * 2).map PV.int)]) := by
  show (match smallJ 2 && smallJ (2 * ((k : Int) + 1)) && smallJ 2 && decide ((0 : Int) < 2) && decide (Builtin.Range.rangeSize 2 (2 * ((k : Int) + 1)) 2 ≤ 1000) with | true => newList (rngItems 2 (2 * ((k : Int) + 1)) 2) ph | false => none) = _
  have h1 : smallJ (2 * ((k : Int) + 1)) = true := by unfold smallJ; simp; omega
  have h2 : Builtin.Range.rangeSize 2 (2 * ((k : Int) + 1)) 2 ≤ 1000 := by
    unfold Builtin.Range.rangeSize
    simp
    omega
  rw [h1, decide_eq_true h2, row_items]
  rfl
theorem rows_ok {a b : List Nat} {m p q : Int} (hp : PhOk ph) (hA : ∀ x ∈ a, x < 128) (hB : ∀ x ∈ b, x < 128) (hal : a.length ≤ 80) (hbl : b.length ≤ 80) :
    ∃ loc' ex, execsP (ev tT P (n + 21)) dLev.scope (dLev.body.drop 12) (FP a b m p q) ph = some (.ret (.int (rowsL a b m)), loc', ph ++ ex) := by
  have la : callBi P .len [.str (st a)] ph = some (.int a.length, ph) := len_st (by omega)
  have lb : callBi P .len [.str (st b)] ph = some (.int b.length, ph) := len_st (by omega)
  unfold rowsL
  have t12 : (ev tT P (n + 20)).t dLev.scope (FP a b m p q) (wT (stN dLev.body 12)) ph = some (decide (((b.length : Int) - a.length) * 2 > m), ph) :=
    t_cmp (e_bin (e_bin (e_bi (by rfl) (by rfl) (a_cons (by rfl) a_nil) lb) (e_bi (by rfl) (by rfl) (a_cons (by rfl) a_nil) la) (by rfl)) (by rfl) (mul2 (by omega))) (by rfl) (by rfl)
  by_cases h : ((b.length : Int) - a.length) * 2 > m
  · rw [if_pos h]
    refine ⟨FP a b m p q, [], ?_⟩
    rw [List.append_nil]
    refine x_ret (s_if t12 (fun j9 => ?_) (fun c => absurd h (of_decide_eq_false c)))
    exact x_one (s_ret (by rfl))
  · rw [if_neg h]
    obtain ⟨fl, loc', ex, w1, w2⟩ := outer (P := P) (n := n + 3) (m := m) (p := p) (q := q) hp hA hB hal hbl b ((List.range a.length).map fun i : Nat => 2 + (i : Int) * 2) 0 0 (H0 a b m p q ph.length 0) rfl (by simp) (.inl rfl)
    have s15 : (ev tT P (n + 21)).s dLev.scope (H0 a b m p q ph.length 0) (stN dLev.body 15) (ph ++ [PO.list (((List.range a.length).map fun i : Nat => 2 + (i : Int) * 2).map PV.int)]) = some (fl, loc', ph ++ ex) :=
      s_for (src_plain (by rfl) (e_bi (by rfl) (by rfl) (a_cons (e_bi (by rfl) (by rfl) (a_cons (by rfl) a_nil) (len_st (by omega))) a_nil) (by rfl)) (items_rng (by omega))) w1
    refine ⟨loc', ex, ?_⟩
    refine x_cons (s_if t12 (fun c => absurd (of_decide_eq_true c) h) (fun j9 => rfl)) ?_
    refine x_cons (s_name (e_bi (by rfl) (by rfl) (a_cons (e_bi (by rfl) (by rfl) (a_cons (by rfl) (a_cons (e_bin (by rfl) (e_bin (e_bi (by rfl) (by rfl) (a_cons (by rfl) a_nil) la) (by rfl) (by rfl)) (mul2' (k := (a.length : Int) + 1) (by omega))) (a_cons (by rfl) a_nil))) (by rfl)) a_nil) (list_row hal)) (by rfl)) ?_
    refine x_cons (s_name (by rfl) (by rfl)) ?_
    rcases w2 with ⟨rfl, w2⟩ | rfl
    · refine x_cons (by exact s15) ?_
      rcases w2 with rfl | ⟨bi, y, d, mn, tl, ht, rfl⟩
      · exact x_one (s_ret (by rfl))
      · exact x_one (s_ret (by rfl))
    · exact x_ret (by exact s15)
end Mine.Internal.Pl
end
section
open PySem PySem.W PyProof.Rows
namespace Mine.Internal.Pl
set_option maxRecDepth 100000
set_option maxHeartbeats 2000000
variable {P : PrimT} {n : Nat} {ph : List PO}
theorem t_name {sc : Scope} {loc : Loc} {x p v b} {T : Top} (h : nameP T sc loc x = some v) (h2 : truthP v = some b) : (ev T P (n + 1)).t sc loc (.Name x p) ph = some (b, ph) := by
  show tOf (eName T sc loc x ph) = _
  unfold eName; rw [h]; dsimp only; unfold tOf; dsimp only; rw [h2]
theorem s_swap {sc : Scope} {loc : Loc} {T : Top} {x y p1 p2 p3 v q a b} {cc : Nat} {ph1 : List PO} (h : (ev T P n).e sc loc v ph = some (.tup [a, b], ph1)) (hs : (isComp v || constAlone v || nEq x y || !(storable sc x && storable sc y)) = false) :
    (ev T P (n + 1)).s sc loc (.Assign [.Tuple [.Name x p1, .Name y p2] cc p3] v q) ph = some (.next, setL y b (setL x a loc), ph1) := by
  show sTup _ sc loc [.Name x p1, .Name y p2] v ph = _
  show sPair (ev T P n) sc loc x y v ph = _
  unfold sPair; rw [hs]; dsimp only; rw [h]; rfl
theorem core_ok {a b : List Nat} {m p q : Int} (hp : PhOk ph) (hA : ∀ x ∈ a, x < 128) (hB : ∀ x ∈ b, x < 128) (hal : a.length ≤ 40) (hbl : b.length ≤ 40) :
    ∃ loc' ex, execsP (ev tT P (n + 21)) dLev.scope (dLev.body.drop 9) (FP a b m p q) ph = some (.ret (.int (coreL a b m)), loc', ph ++ ex) := by
  have la : callBi P .len [.str (st a)] ph = some (.int a.length, ph) := len_st (by omega)
  have lb : callBi P .len [.str (st b)] ph = some (.int b.length, ph) := len_st (by omega)
  have ta : truthP (.str (st a)) = some (!a.isEmpty) := truth_st (by omega)
  have tb : truthP (.str (st b)) = some (!b.isEmpty) := truth_st (by omega)
  have t9 : (ev tT P (n + 20)).t dLev.scope (FP a b m p q) (wT (stN dLev.body 9)) ph = some (a.isEmpty || b.isEmpty, ph) := by
    cases ha : a.isEmpty with
    | true =>
      rw [ha] at ta
      exact t_bool (or_yes (t_not (t_name (by rfl) ta)))
    | false =>
      rw [ha] at ta
      cases hb : b.isEmpty with
      | true =>
        rw [hb] at tb
        exact t_bool (or_go (t_not (t_name (by rfl) ta)) (or_yes (t_not (t_name (by rfl) tb))))
      | false =>
        rw [hb] at tb
        exact t_bool (or_go (t_not (t_name (by rfl) ta)) (or_go (t_not (t_name (by rfl) tb)) (by rfl)))
  have t10 : (ev tT P (n + 20)).t dLev.scope (FP a b m p q) (wT (stN dLev.body 10)) ph = some (false, ph) := by
    have e1 : (ev tT P (n + 19)).t dLev.scope (FP a b m p q) (sub (wT (stN dLev.body 10)) 0) ph = some (decide ((a.length : Int) > 40), ph) :=
      t_cmp (e_bi (by rfl) (by rfl) (a_cons (by rfl) a_nil) la) (by rfl) (by rfl)
    have e2 : (ev tT P (n + 19)).t dLev.scope (FP a b m p q) (sub (wT (stN dLev.body 10)) 1) ph = some (decide ((b.length : Int) > 40), ph) :=
      t_cmp (e_bi (by rfl) (by rfl) (a_cons (by rfl) a_nil) lb) (by rfl) (by rfl)
    rw [decide_eq_false (by omega)] at e1 e2
    exact t_bool (or_go e1 (or_go e2 (by rfl)))
  have t11 : (ev tT P (n + 20)).t dLev.scope (FP a b m p q) (wT (stN dLev.body 11)) ph = some (decide ((b.length : Int) < a.length), ph) :=
    t_cmp (e_bi (by rfl) (by rfl) (a_cons (by rfl) a_nil) lb) (e_bi (by rfl) (by rfl) (a_cons (by rfl) a_nil) la) (by rfl)
  unfold coreL
  cases hc : a.isEmpty || b.isEmpty with
  | true =>
    rw [hc] at t9
    refine ⟨FP a b m p q, [], ?_⟩
    rw [List.append_nil]
    refine x_ret (s_if t9 (fun j9 => ?_) (fun c => nomatch c))
    exact x_one (s_ret (e_bin (by rfl) (e_bin (e_bi (by rfl) (by rfl) (a_cons (by rfl) a_nil) la) (e_bi (by rfl) (by rfl) (a_cons (by rfl) a_nil) lb) (by rfl)) (mul2' (by omega))))
  | false =>
    rw [hc] at t9
    dsimp only
    cases hs : Nat.blt b.length a.length with
    | true =>
      have : b.length < a.length := Nat.blt_eq.mp hs
      rw [decide_eq_true (by omega)] at t11
      obtain ⟨loc', ex, w⟩ := rows_ok (P := P) (n := n) (m := m) (p := p) (q := q) hp hB hA (by omega : b.length ≤ 80) (by omega)
      refine ⟨loc', ex, ?_⟩
      refine x_cons (s_if t9 (fun c => nomatch c) (fun j9 => rfl)) ?_
      refine x_cons (s_if t10 (fun c => nomatch c) (fun j9 => rfl)) ?_
      exact x_cons (s_if t11 (fun j9 => x_one (s_swap (by rfl) (by rfl))) (fun c => nomatch c)) w
    | false =>
      have : ¬ b.length < a.length := fun h => by rw [Nat.blt_eq.mpr h] at hs; cases hs
      rw [decide_eq_false (by omega)] at t11
      obtain ⟨loc', ex, w⟩ := rows_ok (P := P) (n := n) (m := m) (p := p) (q := q) hp hA hB (by omega : a.length ≤ 80) (by omega)
      refine ⟨loc', ex, ?_⟩
      refine x_cons (s_if t9 (fun c => nomatch c) (fun j9 => rfl)) ?_
      refine x_cons (s_if t10 (fun c => nomatch c) (fun j9 => rfl)) ?_
      exact x_cons (s_if t11 (fun c => nomatch c) (fun j9 => rfl)) w
theorem lev_ok {va vb : PV} {a b : List Nat} {m : Int} (va' : IsS va a) (vb' : IsS vb b) (hp : PhOk ph) (hA : ∀ x ∈ a, x < 128) (hB : ∀ x ∈ b, x < 128) (hal : a.length ≤ 40) (hbl : b.length ≤ 40) :
    (ev tT P (n + 22)).c 136 [va, vb, .int m] ph = some (.int (levL a b m), ph) := by
  have t0 : (ev tT P (n + 20)).t dLev.scope [(kA, va), (kB, vb), (kM, .int m)] (wT (stN dLev.body 0)) ph = some (natsEq a b, ph) :=
    t_cmp (by rfl) (by rfl) (va'.eq vb')
  unfold levL
  cases h0 : natsEq a b with
  | true =>
    rw [h0] at t0
    exact c_ret (d := dLev) rfl rfl (x_ret (s_if t0 (fun j9 => x_one (s_ret (by rfl))) (fun c => nomatch c))) (fin_int hp)
  | false =>
    rw [h0] at t0
    have c1 := cpl_le (a := a) (b := b)
    have l1 := loop1 (P := P) (n := n) (ph := ph) (m := m) va' vb' (by omega) (by omega) 100 0 (by omega) (by omega) (by omega)
    simp only [List.drop_zero, Nat.zero_add] at l1
    have c2 := cpl_le (a := (a.drop (cpl a b)).reverse) (b := (b.drop (cpl a b)).reverse)
    simp only [List.length_reverse] at c2
    have l2 := loop2 (P := P) (n := n) (ph := ph) (m := m) (p := (cpl a b : Int)) (as := a.drop (cpl a b)) (bs := b.drop (cpl a b)) (by simp; omega) (by simp; omega) 100 0 (by omega) (by omega) (by simp; omega)
    simp only [List.drop_zero, Nat.zero_add] at l2
    obtain ⟨v1, v2, v3⟩ := post_slice (ph := ph) (l := a.drop (cpl a b)) (by simp; omega) c2.1
    obtain ⟨u1, u2, u3⟩ := post_slice (ph := ph) (l := b.drop (cpl a b)) (by simp; omega) c2.2
    obtain ⟨loc', ex, w⟩ := core_ok (P := P) (n := n) (ph := ph) (m := m) (p := (cpl a b : Int)) (q := -((cpl (a.drop (cpl a b)).reverse (b.drop (cpl a b)).reverse : Nat) : Int))
      (a := (a.drop (cpl a b)).take ((a.drop (cpl a b)).length - cpl (a.drop (cpl a b)).reverse (b.drop (cpl a b)).reverse)) (b := (b.drop (cpl a b)).take ((b.drop (cpl a b)).length - cpl (a.drop (cpl a b)).reverse (b.drop (cpl a b)).reverse)) hp
      (fun x m => hA x (List.drop_subset _ _ (List.take_subset _ _ m))) (fun x m => hB x (List.drop_subset _ _ (List.take_subset _ _ m))) (by simp; omega) (by simp; omega)
    refine c_ret (d := dLev) rfl rfl (v := .int (stripL (a.drop (cpl a b)) (b.drop (cpl a b)) m)) (ph' := ph ++ ex) (loc' := loc') ?_ (fin_ok hp rfl (fun j9 e => nomatch e))
    refine x_cons (s_if t0 (fun c => nomatch c) (fun j9 => rfl)) ?_
    refine x_cons (s_name (by rfl) (by rfl)) ?_
    refine x_cons (s_while (by exact l1)) ?_
    refine x_cons (s_name (e_slice (by rfl) (by rfl) (by rfl) (by rfl) (by rfl) (va'.from (by omega) c1.1)) (by rfl)) ?_
    refine x_cons (s_name (e_slice (by rfl) (by rfl) (by rfl) (by rfl) (by rfl) (vb'.from (by omega) c1.2)) (by rfl)) ?_
    refine x_cons (s_name (by rfl) (by rfl)) ?_
    refine x_cons (s_while (by exact l2)) ?_
    refine x_cons (s_name (e_slice (by rfl) (by rfl) (post_hi (n := n + 2) (by rfl)) (by rfl) v2 v3) (by rfl)) ?_
    refine x_cons (s_name (e_slice (by rfl) (by rfl) (post_hi (n := n + 2) (a := (a.drop (cpl a b)).take ((a.drop (cpl a b)).length - cpl (a.drop (cpl a b)).reverse (b.drop (cpl a b)).reverse)) (b := b.drop (cpl a b)) (by rfl)) (by rfl) u2 u3) (by rfl)) ?_
    exact w
end Mine.Internal.Pl
end
section
open PySem PySem.W PyProof.Rows
namespace Mine.Internal.Pl
set_option maxRecDepth 100000
set_option maxHeartbeats 2000000
variable {P : PrimT} {n : Nat} {ph : List PO}
noncomputable def WL : List (List Nat) := [[], [97], [65], [98], [66],
  [97, 97], [97, 65], [97, 98], [97, 66], [65, 97], [65, 65], [65, 98], [65, 66], [98, 97], [98, 65], [98, 98], [98, 66], [66, 97], [66, 65], [66, 98], [66, 66]]
noncomputable abbrev nNumber : Str := ⟨#[110, 117, 109, 98, 101, 114]⟩
noncomputable abbrev nCode : Str := ⟨#[99, 111, 100, 101]⟩
noncomputable def wordV (k : Nat) : PV := match Nat.blt k 5 with
  | true => .strg (st (WL.getD k []))
  | false => .str (st (WL.getD k []))
set_option maxHeartbeats 0 in
theorem word_k (x : Int) : ∀ k : Nat, k < 21 → execsP (ev tT P (n + 20)) dWord.scope (dWord.body.drop 1) [(nNumber, .int x), (nCode, .int k)] ph = some (.ret (wordV k), [(nNumber, .int x), (nCode, .int k)], ph)
  | 0, _ => rfl | 1, _ => rfl | 2, _ => rfl | 3, _ => rfl | 4, _ => rfl | 5, _ => rfl | 6, _ => rfl | 7, _ => rfl | 8, _ => rfl | 9, _ => rfl | 10, _ => rfl
  | 11, _ => rfl | 12, _ => rfl | 13, _ => rfl | 14, _ => rfl | 15, _ => rfl | 16, _ => rfl | 17, _ => rfl | 18, _ => rfl | 19, _ => rfl | 20, _ => rfl
  | k + 21, h => absurd h (by omega)
theorem word_ok (hp : PhOk ph) (x : Int) : (ev tT P (n + 21)).c 293 [.int x] ph = some (wordV (x.fmod 21).toNat, ph) := by
  have h0 : 0 ≤ x.fmod 21 := Int.fmod_nonneg_of_pos x (by decide)
  have h1 : x.fmod 21 < 21 := Int.fmod_lt_of_pos x (by decide)
  have hk := word_k (P := P) (n := n) (ph := ph) x (x.fmod 21).toNat (by omega)
  rw [Int.toNat_of_nonneg h0] at hk
  refine c_ret (d := dWord) rfl rfl (x_cons (s_name (e_bin (by rfl) (by rfl) (by rfl)) (by rfl)) hk) (fin_same hp ?_ ?_)
  · unfold wordV; split <;> rfl
  · intro j e; unfold wordV at e; split at e <;> cases e
theorem wordV_is (k : Nat) : IsS (wordV k) (WL.getD k []) := by
  unfold wordV; split
  · exact .strg
  · exact .str
noncomputable abbrev nSign : Str := ⟨#[115, 105, 103, 110]⟩
noncomputable abbrev nMet : Str := ⟨#[109, 101, 116]⟩
noncomputable abbrev nOne : Str := ⟨#[111, 110, 101]⟩
noncomputable abbrev nOther : Str := ⟨#[111, 116, 104, 101, 114]⟩
noncomputable abbrev nSmall : Str := ⟨#[115, 109, 97, 108, 108]⟩
noncomputable abbrev nGreat : Str := ⟨#[103, 114, 101, 97, 116]⟩
noncomputable abbrev nOver : Str := ⟨#[111, 118, 101, 114]⟩
theorem low1' {x : Nat} (h : x < 128) : Txt.lower (st [x]) = st [lowC x] := low1 h
theorem turn_ok {u v : PV} {x y : Nat} (hu : IsS u [x]) (hv : IsS v [y]) (hx : x < 128) (hy : y < 128) (hp : PhOk ph) : (ev tT P (n + 13)).c 300 [u, v] ph = some (.int (subC x y), ph) := by
  have e1 : (ev tT P (n + 10)).e dTurn.scope [(nSign, u), (nMet, v)] (sub (wT (stN dTurn.body 0)) 0) ph = some (.strg (st [lowC x]), ph) := by
    rw [← low1' hx]
    exact e_lower (by rfl) (by rfl) (by rfl) (by rfl) (by rfl) hu (by rfl) (by rfl) (lowerOk1 hx)
  have e2 : (ev tT P (n + 10)).e dTurn.scope [(nSign, u), (nMet, v)] (sub (wT (stN dTurn.body 0)) 1) ph = some (.strg (st [lowC y]), ph) := by
    rw [← low1' hy]
    exact e_lower (by rfl) (by rfl) (by rfl) (by rfl) (by rfl) hv (by rfl) (by rfl) (lowerOk1 hy)
  have t0 : (ev tT P (n + 11)).t dTurn.scope [(nSign, u), (nMet, v)] (wT (stN dTurn.body 0)) ph = some (!natsEq [lowC x] [lowC y], ph) :=
    t_cmp e1 e2 (IsS.ne .strg .strg)
  have t1 : ∀ k, (ev tT P (k + 2)).t dTurn.scope [(nSign, u), (nMet, v)] (sub (wV (stN dTurn.body 1)) 0) ph = some (natsEq [x] [y], ph) := fun k =>
    t_cmp (by rfl) (by rfl) (hu.eq hv)
  have q1 : natsEq [lowC x] [lowC y] = Nat.beq (lowC x) (lowC y) := sEq1
  have q2 : natsEq [x] [y] = Nat.beq x y := sEq1
  rw [q1] at t0
  rw [q2] at t1
  unfold subC
  cases h : Nat.beq x y with
  | true =>
    have : x = y := Nat.eq_of_beq_eq_true h
    subst this
    rw [Nat.beq_refl] at t0
    rw [h] at t1
    refine c_ret (d := dTurn) rfl rfl (x_cons (s_if t0 (fun c => nomatch c) (fun j9 => rfl)) (x_one (s_ret ?_))) (fin_int hp)
    exact e_if (t1 _) (fun j9 => by rfl) (fun c => nomatch c)
  | false =>
    rw [h] at t1
    cases h2 : Nat.beq (lowC x) (lowC y) with
    | true =>
      rw [h2] at t0
      refine c_ret (d := dTurn) rfl rfl (x_cons (s_if t0 (fun c => nomatch c) (fun j9 => rfl)) (x_one (s_ret ?_))) (fin_int hp)
      exact e_if (t1 _) (fun c => nomatch c) (fun j9 => by rfl)
    | false =>
      rw [h2] at t0
      exact c_ret (d := dTurn) rfl rfl (x_ret (s_if t0 (fun j9 => x_one (s_ret (by rfl))) (fun c => nomatch c))) (fin_int hp)
noncomputable def zipC (a b : List Nat) : List Int := (a.zip b).map fun p => subC p.1 p.2
noncomputable def minL : List Int → Int
  | [] => 0
  | x :: xs => xs.foldl (fun m y => if y < m then y else m) x
noncomputable def costS (s g : List Nat) : Int := match Nat.beq s.length g.length with
  | true => (zipC s g).sum
  | false => match s with
    | [] => 2 * ((g.length : Int) - s.length)
    | x :: _ => 2 * ((g.length : Int) - s.length) + minL (g.map fun y => subC x y)
noncomputable def costL (a b : List Nat) : Int := match Nat.blt a.length b.length with
  | true => costS a b
  | false => costS b a
theorem frozen_is {v : PV} {l : List Nat} (h : IsS v l) : frozenItems v = some (l.map ch) := by
  rcases h with rfl | rfl
  · show some ((st l).cps.toList.map fun c => PV.str ⟨#[c]⟩) = _; rfl
  · show some ((st l).cps.toList.map fun c => PV.str ⟨#[c]⟩) = _; rfl
theorem subC_rng {x y : Nat} : 0 ≤ subC x y ∧ subC x y ≤ 2 := by
  unfold subC; split
  · decide
  · split <;> decide
theorem allInt_map : ∀ {l : List Int}, allInt (l.map .int) = some l
  | [] => rfl
  | x :: l => by simp [allInt, allInt_map]
theorem sum_ok {P : PrimT} {l : List Int} (h : l.length ≤ 64) (h2 : ∀ x ∈ l, x.natAbs < 1000) : callBi P .sum [.lst (l.map .int)] ph = some (.int l.sum, ph) := by
  show (match seqOf ph (.lst (l.map .int)) with | some xs => (match allInt xs with | some ns => (match Nat.ble ns.length 64 && ns.all smallJ with | true => some (PV.int ns.sum, ph) | false => none) | none => none) | none => none) = _
  dsimp only [seqOf]
  rw [allInt_map]
  dsimp only
  have : (Nat.ble l.length 64 && l.all smallJ) = true := by
    rw [Nat.ble_eq.mpr h, List.all_eq_true.mpr fun x m => by have := h2 x m; unfold smallJ; simp; omega]; rfl
  rw [this]
theorem min_ok {P : PrimT} {x : Int} {l : List Int} : callBi P .min [.lst ((x :: l).map .int)] ph = some (.int (minL (x :: l)), ph) := by
  show (match seqOf ph (.lst ((x :: l).map .int)) with | some xs => minSeq P xs ph | none => none) = _
  dsimp only [seqOf]
  unfold minSeq
  rw [allInt_map]
  rfl
theorem len_is {P : PrimT} {v : PV} {l : List Nat} (h : IsS v l) (hl : l.length ≤ 1000) : callBi P .len [v] ph = some (.int l.length, ph) := by
  rcases h with rfl | rfl
  · exact len_st hl
  · exact len_st (P := P) (ph := ph) hl
end Mine.Internal.Pl
end
section
open PySem PySem.W PyProof.Rows
namespace Mine.Internal.Pl
set_option maxRecDepth 100000
set_option maxHeartbeats 2000000
variable {P : PrimT} {n : Nat} {ph : List PO}
theorem filt_true {α : Type} (l : List α) : (l.filter fun j9 => true) = l := by simp
noncomputable abbrev swapB := wV
noncomputable abbrev pairV (p : Nat × Nat) : PV := .tup [ch p.1, ch p.2]
theorem zip_map {a b : List Nat} : zipAll [a.map ch, b.map ch] = (a.zip b).map pairV := by
  show (List.zipWith List.cons (a.map ch) ((b.map ch).map fun x => [x])).map PV.tup = _
  rw [List.map_map, List.zipWith_map, List.map_zipWith, List.zip, List.map_zipWith]; rfl
noncomputable abbrev FC (u v s g : PV) : Loc := [(nOne, u), (nOther, v), (nSmall, s), (nGreat, g)]
theorem cost_s {u v vs vg : PV} {s g : List Nat} (hs : IsS vs s) (hg : IsS vg g) (hp : PhOk ph) (hA : ∀ x ∈ s, x < 128) (hB : ∀ x ∈ g, x < 128) (hl : s.length ≤ g.length) (hl2 : g.length ≤ 2) :
    ∃ loc', execsP (ev tT P (n + 19)) dCost.scope (dCost.body.drop 1) (FC u v vs vg) ph = some (.ret (.int (costS s g)), loc', ph) := by
  have la : callBi P .len [vs] ph = some (.int s.length, ph) := len_is hs (by omega)
  have lb : callBi P .len [vg] ph = some (.int g.length, ph) := len_is hg (by omega)
  have t1 : (ev tT P (n + 18)).t dCost.scope (FC u v vs vg) (wT (stN dCost.body 1)) ph = some (((s.length : Int) == g.length), ph) :=
    t_cmp (e_bi (by rfl) (by rfl) (a_cons (by rfl) a_nil) la) (e_bi (by rfl) (by rfl) (a_cons (by rfl) a_nil) lb) (by rfl)
  have hb : ((s.length : Int) == g.length) = Nat.beq s.length g.length := by
    cases q : Nat.beq s.length g.length with
    | true => have := Nat.eq_of_beq_eq_true q; simp [this]
    | false => have := Nat.ne_of_beq_eq_false q; simp; omega
  rw [hb] at t1
  unfold costS
  cases q : Nat.beq s.length g.length with
  | true =>
    rw [q] at t1
    have hlen : (s.zip g).length ≤ 2 := by simp; omega
    have hsm := sum_ok (P := P) (ph := ph) (l := zipC s g) (by unfold zipC; simp at hlen ⊢; omega) (by
      intro x m
      obtain ⟨p, _, rfl⟩ := List.mem_map.mp m
      have := subC_rng (x := p.1) (y := p.2); omega)
    refine ⟨FC u v vs vg, x_ret (s_if t1 (fun j9 => x_one (s_ret ?_)) (fun c => nomatch c))⟩
    refine e_bi (by rfl) (by rfl) (a_cons (v := .lst ((zipC s g).map .int)) (ph1 := ph) ?_ a_nil) hsm
    have hl2 : ((zipC s g).map PV.int) = (((s.zip g).map pairV).filter fun j9 => true).map (fun x => match x with | .tup [.str a, .str b] => .int (subC (a.cps.toList.headD 0) (b.cps.toList.headD 0)) | _ => .none) := by
      rw [filt_true, List.map_map, zipC, List.map_map]
      rfl
    rw [hl2, ← zip_map]
    refine lc_filter (by rfl) (src_zip (by rfl) (a_cons (by rfl) (a_cons (by rfl) a_nil)) (by unfold mapO; rw [frozen_is hs]; dsimp only; unfold mapO; rw [frozen_is hg]; rfl) (by rfl)) (by rfl) (by rw [zip_map]; simp; omega)
      (fun loc => loc = [] ∨ ∃ a b, loc = [(nSign, a), (nMet, b)]) (fun j9 => true) _ (.inl rfl) ?_
    rw [zip_map]
    intro x hx loc hF
    obtain ⟨p, hp', rfl⟩ := List.mem_map.mp hx
    have m1 := List.of_mem_zip hp'
    refine ⟨[(nSign, ch p.1), (nMet, ch p.2)], ?_, .inr ⟨_, _, rfl⟩, by rfl, fun j9 => ?_⟩
    · rcases hF with rfl | ⟨a, b, rfl⟩ <;> rfl
    · exact e_call (by rfl) (by rfl) (a_cons (by rfl) (a_cons (by rfl) a_nil)) (turn_ok (u := ch p.1) (v := ch p.2) .str .str (hA _ m1.1) (hB _ m1.2) hp)
  | false =>
    rw [q] at t1
    have hne := Nat.ne_of_beq_eq_false q
    have e2 : (ev tT P (n + 18)).e dCost.scope (FC u v vs vg) (swapB (stN dCost.body 2)) ph = some (.int (2 * ((g.length : Int) - s.length)), ph) :=
      e_bin (by rfl) (e_bin (e_bi (by rfl) (by rfl) (a_cons (by rfl) a_nil) lb) (e_bi (by rfl) (by rfl) (a_cons (by rfl) a_nil) la) (by rfl)) (mul2' (by omega))
    have t3 : ∀ k, (ev tT P (k + 2)).t dCost.scope (FC u v vs vg ++ [(nOver, .int (2 * ((g.length : Int) - s.length)))]) (sub (wV (stN dCost.body 3)) 0) ph = some (natsEq s [], ph) := fun k =>
      t_cmp (by rfl) (by rfl) (hs.eq .strg)
    cases s with
    | nil =>
      refine ⟨FC u v vs vg ++ [(nOver, .int (2 * ((g.length : Int) - ([] : List Nat).length)))], x_cons (s_if t1 (fun c => nomatch c) (fun j9 => rfl)) (x_cons (s_name e2 (by rfl)) (x_one (s_ret ?_)))⟩
      exact e_if (t3 _) (fun j9 => by rfl) (fun c => nomatch c)
    | cons x s' =>
      cases s' with
      | cons y s'' => simp at hl hne; omega
      | nil =>
        have hx : x < 128 := hA x (by simp)
        cases g with
        | nil => simp at hl
        | cons y g' =>
          refine ⟨FC u v vs vg ++ [(nOver, .int (2 * (((y :: g').length : Int) - ([x] : List Nat).length)))], x_cons (s_if t1 (fun c => nomatch c) (fun j9 => rfl)) (x_cons (s_name e2 (by rfl)) (x_one (s_ret ?_)))⟩
          refine e_if (t3 _) (fun c => nomatch c) (fun j9 => ?_)
          have hm := min_ok (P := P) (ph := ph) (x := subC x y) (l := g'.map fun z => subC x z)
          refine e_bin (y := .int (minL ((y :: g').map fun z => subC x z))) (by rfl) (e_bi (by rfl) (by rfl) (a_cons (v := .lst (((y :: g').map fun z => subC x z).map .int)) (ph1 := ph) ?_ a_nil) hm) (by rfl)
          have hl3 : (((y :: g').map fun z => subC x z).map PV.int) = (((y :: g').map ch).filter fun j9 => true).map (fun w => match w with | .str b => .int (subC x (b.cps.toList.headD 0)) | _ => .none) := by
            rw [filt_true, List.map_map, List.map_map]
            rfl
          rw [hl3]
          have hsrc : itemsOf vg ph = some ((y :: g').map ch, none) := by rcases hg with rfl | rfl <;> rfl
          refine lc_filter (by rfl) (src_plain (by rfl) (by rfl) hsrc) (by rfl) (by simp at hl2 ⊢; omega)
            (fun loc => loc = [(nSmall, vs)] ∨ ∃ a, loc = [(nSmall, vs), (nMet, a)]) (fun j9 => true) _ (.inl rfl) ?_
          intro w hw loc hF
          obtain ⟨z, hz, rfl⟩ := List.mem_map.mp hw
          refine ⟨[(nSmall, vs), (nMet, ch z)], ?_, .inr ⟨_, rfl⟩, by rfl, fun j9 => ?_⟩
          · rcases hF with rfl | ⟨a, rfl⟩ <;> rfl
          · exact e_call (by rfl) (by rfl) (a_cons (by rfl) (a_cons (by rfl) a_nil)) (turn_ok (u := vs) (v := ch z) hs .str hx (hB _ hz) hp)
theorem cost_ok {u v : PV} {a b : List Nat} (hu : IsS u a) (hv : IsS v b) (hp : PhOk ph) (hA : ∀ x ∈ a, x < 128) (hB : ∀ x ∈ b, x < 128) (h1 : a.length ≤ 2) (h2 : b.length ≤ 2) : (ev tT P (n + 20)).c 305 [u, v] ph = some (.int (costL a b), ph) := by
  have la : callBi P .len [u] ph = some (.int a.length, ph) := len_is hu (by omega)
  have lb : callBi P .len [v] ph = some (.int b.length, ph) := len_is hv (by omega)
  have t0 : (ev tT P (n + 17)).t dCost.scope [(nOne, u), (nOther, v)] (sub (swapB (stN dCost.body 0)) 0) ph = some (decide ((a.length : Int) < b.length), ph) :=
    t_cmp (e_bi (by rfl) (by rfl) (a_cons (by rfl) a_nil) la) (e_bi (by rfl) (by rfl) (a_cons (by rfl) a_nil) lb) (by rfl)
  unfold costL
  cases q : Nat.blt a.length b.length with
  | true =>
    have := Nat.blt_eq.mp q
    rw [decide_eq_true (by omega)] at t0
    obtain ⟨loc', w⟩ := cost_s (P := P) (n := n) (u := u) (v := v) hu hv hp hA hB (by omega) h2
    exact c_ret (d := dCost) rfl rfl (x_cons (s_swap (by exact e_if t0 (fun j9 => by rfl) (fun c => nomatch c)) (by rfl)) w) (fin_int hp)
  | false =>
    have : ¬ a.length < b.length := fun h => by rw [Nat.blt_eq.mpr h] at q; cases q
    rw [decide_eq_false (by omega)] at t0
    obtain ⟨loc', w⟩ := cost_s (P := P) (n := n) (u := u) (v := v) hv hu hp hB hA (by omega) h1
    exact c_ret (d := dCost) rfl rfl (x_cons (s_swap (by exact e_if t0 (fun c => nomatch c) (fun j9 => by rfl)) (by rfl)) w) (fin_int hp)
theorem WL_small : WL.all (fun l => Nat.ble l.length 2 && l.all (fun x => Nat.blt x 128)) = true := by decide +kernel
theorem lev_cost4 : WL.all (fun a => WL.all fun b => levL a b 4 == costL a b) = true := by decide +kernel
end Mine.Internal.Pl
end
section
open PySem PySem.W PyProof.Rows
namespace Mine.Internal.Pl
set_option maxRecDepth 100000
set_option maxHeartbeats 2000000
variable {n : Nat} {ph : List PO}
noncomputable abbrev nLetter : Str := ⟨#[108, 101, 116, 116, 101, 114]⟩
noncomputable abbrev nSelf : Str := ⟨#[115, 101, 108, 102]⟩
noncomputable abbrev nName : Str := ⟨#[110, 97, 109, 101]⟩
noncomputable abbrev nKv : Str := ⟨#[107, 118]⟩
noncomputable abbrev nK : Str := ⟨#[107]⟩
noncomputable abbrev nV : Str := ⟨#[118]⟩
noncomputable abbrev nDefault : Str := ⟨#[100, 101, 102, 97, 117, 108, 116]⟩
noncomputable abbrev nTable : Str := ⟨#[116, 97, 98, 108, 101]⟩
noncomputable def okL : List (List Nat) := [[], [97], [65], [98], [66], [97, 97], [97, 65], [97, 98], [97, 66], [65, 97], [65, 65], [65, 98], [65, 66], [98, 97], [98, 65], [98, 98], [98, 66], [66, 97], [66, 65], [66, 98], [66, 66], [99], [100], [101], [102], [67], [68], [69], [70]]
noncomputable def okS (a : Str) : Bool := okL.any fun l => natsEq a.cps.toList l
noncomputable def pF0 (a : Addr) (vs : List PV) (ph : List PO) : Res PV := match Nat.beq a 118 with
  | true => newAcc vs ph
  | false => match Nat.beq a 282 with
    | true => newHdr vs ph
    | false => match Nat.beq a 279 with
      | true => addHdrP okS vs ph
      | false => match Nat.beq a 62 with
        | true => pushP vs ph
        | false => match Nat.beq a 78 with
          | true => popP vs ph
          | false => none
noncomputable def pF (a : Addr) (vs : List PV) (kvs : List (Str × PV)) (ph : List PO) : Res PV := match kvs with
  | [] => pF0 a vs ph
  | kv :: kvs => match Nat.beq a 181 with
    | true => convP okS vs (kv :: kvs) ph
    | false => none
noncomputable def P2 : PrimT := ⟨pF, minPairs, 20⟩
noncomputable abbrev E (n : Nat) : Ev := ev tT P2 n
noncomputable def sg (i : Nat) (g : Bool) : List Nat := [if g then 65 + i else 97 + i]
theorem sg_fact : ∀ i < 6, ∀ g : Bool, Txt.lower (st (sg i g)) = st (sg i false) ∧ Txt.upper (st (sg i g)) = st (sg i true) ∧ lowerOk (st (sg i g)) = true ∧ okS (st (sg i g)) = true := by
  have h : (List.range 6).all (fun i => [true, false].all fun g => sEq (Txt.lower (st (sg i g))) (st (sg i false)) && sEq (Txt.upper (st (sg i g))) (st (sg i true)) && lowerOk (st (sg i g)) && okS (st (sg i g))) = true := by decide +kernel
  intro i hi g
  have := List.all_eq_true.mp (List.all_eq_true.mp h i (List.mem_range.mpr hi)) g (by cases g <;> simp)
  simp only [Bool.and_eq_true] at this
  exact ⟨sEq_iff.mp this.1.1.1, sEq_iff.mp this.1.1.2, this.1.2, this.2⟩
structure Hd where
  i : Nat
  g : Bool
  w : List Nat
noncomputable def hdrV (x : Hd) : PV := .tup [.str (st (sg x.i x.g)), .str (st x.w)]
noncomputable abbrev sgV (x : Hd) : PV := .str (st (sg x.i x.g))
noncomputable abbrev wdV (x : Hd) : PV := .str (st x.w)
theorem pF_conv {k : Nat} {v : PV} {l : List Nat} {b : Bool} (hv : IsS v l) (h : okS (st l) = true) : pF 181 [.hdr k, v] [(nName, .bool b)] ph = some (v, ph) := by
  show (match v.asStr with | some a => (match okS a with | true => some (v, ph) | false => none) | none => none) = _
  rw [hv.asStr]; dsimp only; rw [h]
theorem beq97 {i j : Nat} : natsEq [97 + i] [97 + j] = (i == j) := by
  show (match Nat.beq (97 + i) (97 + j) with | true => true | false => false) = _
  cases q : Nat.beq (97 + i) (97 + j) with
  | true => have := Nat.eq_of_beq_eq_true q; simp; omega
  | false => have := Nat.ne_of_beq_eq_false q; simp; omega
theorem lt_strs {k : Nat} {l : List Hd} : PV.lt k (.lst (l.map sgV)) = true := by
  show belowL k (l.map sgV) = true
  refine belowL_all fun v m => ?_
  obtain ⟨x, _, rfl⟩ := List.mem_map.mp m
  rfl
theorem get_go {d0 : PV} {i : Nat} (hi : i < 6) : ∀ (xs : List Hd) (loc : Loc), (∀ x ∈ xs, x.i < 6) → (loc = [(nSelf, .hdr 0), (nName, .strg (st (sg i false))), (nDefault, d0)] ∨ ∃ a b, loc = [(nSelf, .hdr 0), (nName, .strg (st (sg i false))), (nDefault, d0), (nK, a), (nV, b)]) →
    ∃ fl loc', forGo (bindT dGet.scope (wF (stN dGet.body 1))) (fun loc ph => execsP (E (n + 37)) dGet.scope (wB (stN dGet.body 1)) loc ph) (xs.map hdrV) loc ph = some (fl, loc', ph) ∧
      (match xs.find? (fun x => x.i == i) with | some x => fl = .ret (wdV x) | none => fl = .next ∧ (loc' = [(nSelf, .hdr 0), (nName, .strg (st (sg i false))), (nDefault, d0)] ∨ ∃ a b, loc' = [(nSelf, .hdr 0), (nName, .strg (st (sg i false))), (nDefault, d0), (nK, a), (nV, b)]))
  | [], loc, _, hl => ⟨.next, loc, rfl, rfl, hl⟩
  | x :: xs, loc, hx, hl => by
    let loc1 : Loc := [(nSelf, .hdr 0), (nName, .strg (st (sg i false))), (nDefault, d0), (nK, sgV x), (nV, wdV x)]
    have hb : bindT dGet.scope (wF (stN dGet.body 1)) (hdrV x) loc = some loc1 := by
      rcases hl with rfl | ⟨a, b, rfl⟩ <;> rfl
    obtain ⟨fl, loc', w1, w2⟩ := get_go (d0 := d0) hi xs loc1 (fun y m => hx y (by simp [m])) (.inr ⟨_, _, rfl⟩)
    have hx5 := hx x (by simp)
    obtain ⟨a1, a2, a3, a4⟩ := sg_fact x.i hx5 x.g
    have e1 : (E (n + 35)).e dGet.scope loc1 (sub (wT (stN (wB (stN dGet.body 1)) 0)) 0) ph = some (.strg (st (sg x.i false)), ph) := by
      rw [← a1]
      exact e_lower (l := sg x.i x.g) (by rfl) (by rfl) (by rfl) (by rfl) (by rfl) .str (by rfl) (by rfl) a3
    have t1 : (E (n + 36)).t dGet.scope loc1 (wT (stN (wB (stN dGet.body 1)) 0)) ph = some ((x.i == i), ph) := by
      have : natsEq (sg x.i false) (sg i false) = (x.i == i) := beq97
      rw [← this]
      exact t_cmp e1 (by rfl) (IsS.eq .strg .strg)
    cases q : x.i == i with
    | true =>
      rw [q] at t1
      refine ⟨.ret (wdV x), loc1, f_ret hb (x_one (s_if t1 (fun j9 => x_one (s_ret (by rfl))) (fun c => nomatch c))), ?_⟩
      rw [List.find?_cons, q]
    | false =>
      rw [q] at t1
      refine ⟨fl, loc', f_cons hb (x_one (s_if t1 (fun c => nomatch c) (fun j9 => rfl))) w1, ?_⟩
      rw [List.find?_cons, q]; exact w2
theorem get_ok (hp : PhOk ph) {tbl : List Hd} (ht : ph[0]? = some (.list (tbl.map hdrV))) (hl : tbl.length ≤ 1000) (hT : ∀ x ∈ tbl, x.i < 6) {v : PV} {i : Nat} {g : Bool} {x : Hd} (hi : i < 6) (hv : IsS v (sg i g)) (hx : tbl.find? (fun x => x.i == i) = some x) :
    (E (n + 40)).c 229 [.hdr 0, v] ph = some (wdV x, ph) := by
  obtain ⟨a1, a2, a3, a4⟩ := sg_fact i hi g
  have h4 := (sg_fact i hi false).2.2.2
  have e0 : (E (n + 38)).e dGet.scope [(nSelf, .hdr 0), (nName, v), (nDefault, .none)] (swapB (stN dGet.body 0)) ph = some (.strg (st (sg i false)), ph) := by
    refine e_kmeth (P := P2) (by rfl) (by rfl) (by rfl) (by rfl) (a_cons (v := .strg (st (sg i false))) (ph1 := ph) ?_ a_nil) (by rfl) (by exact pF_conv (k := 0) (b := true) .strg h4)
    rw [← a1]
    exact e_lower (l := sg i g) (by rfl) (by rfl) (by rfl) (by rfl) (by rfl) hv (by rfl) (by rfl) a3
  obtain ⟨fl, loc', w1, w2⟩ := get_go (n := n + 1) (ph := ph.set 0 .lock) (d0 := .none) hi tbl [(nSelf, .hdr 0), (nName, .strg (st (sg i false))), (nDefault, .none)] hT (.inl rfl)
  have s1 : (E (n + 39)).s dGet.scope [(nSelf, .hdr 0), (nName, .strg (st (sg i false))), (nDefault, .none)] (stN dGet.body 1) ph = some (fl, loc', ph) :=
    s_forL (src_plain (by rfl) (e_hdrs (by rfl) (by rfl) (by rfl)) (items_obj ht)) w1 (unlock_lock ht)
  rw [hx] at w2; dsimp only at w2; subst w2
  exact c_ret (d := dGet) rfl rfl (x_cons (s_name e0 (by rfl)) (x_ret (by exact s1))) (fin_str hp)
theorem keys_ok (hp : PhOk ph) {tbl : List Hd} (ht : ph[0]? = some (.list (tbl.map hdrV))) (hl : tbl.length ≤ 1000) : (E (n + 40)).c 234 [.hdr 0] ph = some (.lst (tbl.map sgV), ph) := by
  refine c_ret (d := dKeys) (ph' := ph) (loc' := [(nSelf, .hdr 0)]) (v := .lst (tbl.map sgV)) rfl rfl (x_one (s_ret ?_)) (fin_same hp lt_strs (fun j9 e => nomatch e))
  rw [show tbl.map sgV = (tbl.filter fun j9 => true).map sgV by rw [filt_true]]
  refine lc_filterA hdrV (by rfl) (src_plain (by rfl) (e_hdrs (by rfl) (by rfl) (by rfl)) (items_obj ht)) (unlock_lock ht) hl (fun loc => loc = [] ∨ ∃ a b, loc = [(nK, a), (nV, b)]) (fun x => true) sgV (.inl rfl) ?_
  intro x hx loc hF
  refine ⟨[(nK, sgV x), (nV, wdV x)], ?_, .inr ⟨_, _, rfl⟩, by rfl, fun j9 => by rfl⟩
  rcases hF with rfl | ⟨a, b, rfl⟩ <;> rfl
theorem below_hdrs {k : Nat} (l : List Hd) : belowL k (l.map hdrV) = true := belowL_all fun v m => by
  obtain ⟨x, _, rfl⟩ := List.mem_map.mp m
  rfl
noncomputable def dlE : Expr := wV (stN dDel.body 1)
noncomputable def dlTest : Expr := sub dlE 2
noncomputable def dlSc : Scope := scOf dlE
theorem del_test {x : Hd} {i : Nat} (hx : x.i < 6) (hi : i < 6) : (E (n + 37)).t dlSc [(nName, .strg (st (sg i false))), (nKv, hdrV x)] dlTest ph = some (!(x.i == i), ph) := by
  obtain ⟨a1, a2, a3, a4⟩ := sg_fact x.i hx x.g
  have e1 : (E (n + 36)).e dlSc [(nName, .strg (st (sg i false))), (nKv, hdrV x)] (sub dlTest 0) ph = some (.strg (st (sg x.i false)), ph) := by
    rw [← a1]
    exact e_lower (l := sg x.i x.g) (by rfl) (by rfl) (by rfl) (by rfl) (e_item (by rfl) (by rfl) (by rfl) (by rfl)) .str (by rfl) (by rfl) a3
  have : natsEq (sg x.i false) (sg i false) = (x.i == i) := beq97
  rw [← this]
  exact t_cmp e1 (by rfl) (by
    have := congrArg notO (IsS.eq (ph := ph) (IsS.strg (l := sg x.i false)) (IsS.strg (l := sg i false)))
    exact this)
theorem del_ok (hp : PhOk ph) {tbl : List Hd} (ht : ph[0]? = some (.list (tbl.map hdrV))) (hl : tbl.length ≤ 1000) (hT : ∀ x ∈ tbl, x.i < 6) {v : PV} {i : Nat} {g : Bool} (hi : i < 6) (hv : IsS v (sg i g)) :
    (E (n + 41)).c 200 [.hdr 0, v] ph = some (.none, ph.set 0 (.list ((tbl.filter fun x => !(x.i == i)).map hdrV))) := by
  obtain ⟨a1, a2, a3, a4⟩ := sg_fact i hi g
  have h4 := (sg_fact i hi false).2.2.2
  have e0 : (E (n + 39)).e dDel.scope [(nSelf, .hdr 0), (nName, v)] (swapB (stN dDel.body 0)) ph = some (.strg (st (sg i false)), ph) := by
    refine e_kmeth (P := P2) (by rfl) (by rfl) (by rfl) (by rfl) (a_cons (v := .strg (st (sg i false))) (ph1 := ph) ?_ a_nil) (by rfl) (by exact pF_conv (k := 0) (b := true) .strg h4)
    rw [← a1]
    exact e_lower (l := sg i g) (by rfl) (by rfl) (by rfl) (by rfl) (by rfl) hv (by rfl) (by rfl) a3
  have e1 : (E (n + 39)).e dDel.scope [(nSelf, .hdr 0), (nName, .strg (st (sg i false)))] dlE ph = some (.lst ((tbl.filter fun x => !(x.i == i)).map hdrV), ph) := by
    refine lc_filterA hdrV (by rfl) (src_plain (by rfl) (e_hdrs (by rfl) (by rfl) (by rfl)) (items_obj ht)) (unlock_lock ht) hl (fun loc => loc = [(nName, .strg (st (sg i false)))] ∨ ∃ a, loc = [(nName, .strg (st (sg i false))), (nKv, a)]) (fun x => !(x.i == i)) hdrV (.inl rfl) ?_
    intro x hx loc hF
    refine ⟨[(nName, .strg (st (sg i false))), (nKv, hdrV x)], ?_, .inr ⟨_, rfl⟩, ts_one (del_test (hT x hx) hi), fun j9 => by rfl⟩
    rcases hF with rfl | ⟨a, rfl⟩ <;> rfl
  have hlen := List.length_filter_le (fun x : Hd => !(x.i == i)) tbl
  refine c_next (d := dDel) (loc' := [(nSelf, .hdr 0), (nName, .strg (st (sg i false)))]) rfl rfl (x_cons (s_name e0 (by rfl)) (x_one (s_whole (m := 0) (xs := tbl.map hdrV) e1 (e_hdrs (by rfl) (by rfl) (by rfl)) (by unfold listAt; rw [ht]) (by simp; omega)))) ?_
  have hp' : PhOk (ph.set 0 (.list ((tbl.filter fun x => !(x.i == i)).map hdrV))) := phOk_set hp (below_hdrs _)
  have := fin_same (v := .none) hp' rfl (fun j9 e => nomatch e)
  rw [List.length_set] at this
  exact this
end Mine.Internal.Pl
end
section
open PySem PySem.W PyProof.Rows
namespace Mine.Internal.Pl
set_option maxRecDepth 100000
set_option maxHeartbeats 2000000
variable {n : Nat} {ph : List PO}
theorem e_tup {T : Top} {P : PrimT} {sc : Scope} {loc : Loc} {ph1 : List PO} {es k p vs} (hm : manyE es = false) (h : argsP (ev T P n) sc loc es ph = some (vs, ph1)) : (ev T P (n + 1)).e sc loc (.Tuple es k p) ph = some (.tup vs, ph1) := by
  show eTup _ sc loc es ph = _
  unfold eTup; rw [hm]; dsimp only; rw [h]
noncomputable abbrev wl (k : Nat) : List Nat := WL.getD k []
theorem wl_mem {k : Nat} (h : k < 21) : wl k ∈ WL := by
  have : ∀ k < 21, wl k ∈ WL := by decide
  exact this k h
theorem wl_small {k : Nat} (h : k < 21) : (wl k).length ≤ 2 ∧ ∀ x ∈ wl k, x < 128 := by
  have := List.all_eq_true.mp WL_small _ (wl_mem h)
  rw [Bool.and_eq_true, Nat.ble_eq, List.all_eq_true] at this
  exact ⟨this.1, fun x m => Nat.blt_eq.mp (this.2 x m)⟩
noncomputable abbrev L4 (i j : Nat) : Int := levL (wl i) (wl j) 4
theorem lev_w {u v : PV} {i j : Nat} {m : Int} (hu : IsS u (wl i)) (hv : IsS v (wl j)) (hi : i < 21) (hj : j < 21) (hp : PhOk ph) : (E (n + 22)).c 136 [u, v, .int m] ph = some (.int (levL (wl i) (wl j) m), ph) := by
  have a := wl_small hi
  have b := wl_small hj
  exact lev_ok hu hv hp a.2 b.2 (by omega) (by omega)
theorem cost_w {i j : Nat} (hi : i < 21) (hj : j < 21) (hp : PhOk ph) : (E (n + 20)).c 305 [wordV i, wordV j] ph = some (.int (L4 i j), ph) := by
  have a := wl_small hi
  have b := wl_small hj
  have := List.all_eq_true.mp (List.all_eq_true.mp lev_cost4 _ (wl_mem hi)) _ (wl_mem hj)
  rw [L4, eq_of_beq this]
  exact cost_ok (wordV_is i) (wordV_is j) hp a.2 b.2 a.1 b.1
noncomputable def PRS : List (Nat × Nat) := [(0, 1), (0, 2), (1, 2), (0, 3), (1, 3), (2, 3), (0, 4), (1, 4), (2, 4), (3, 4), (0, 5), (1, 5), (2, 5), (3, 5), (4, 5)]
theorem PRS_lt : ∀ p ∈ PRS, p.1 < 6 ∧ p.2 < 6 ∧ p.1 ≠ p.2 := by decide
noncomputable abbrev kyS (p : Nat × Nat) : Str := st [97 + p.1, 97 + p.2]
noncomputable def entE (r : Nat → Nat → Int) (ps : List (Nat × Nat)) : List (Str × PV) := ps.map fun p => (kyS p, .int (r p.1 p.2))
noncomputable def tri (j : Nat) : Nat := j * (j - 1) / 2
noncomputable def rkOf (c : Nat → Nat → Int) (i j : Nat) : Int := 15 * c i j + (tri j + i : Nat)
theorem tri_at : ∀ j < 6, ∀ i < j, PRS[tri j + i]? = some (i, j) ∧ tri j + i < 15 := by decide
theorem tri_new : (List.range 15).all (fun m => (PRS.take m).all fun p => match PRS[m]? with | some q => !sEq (kyS p) (kyS q) | none => false) = true := by decide +kernel
theorem stored_new {r : Nat → Nat → Int} {m : Nat} {q : Nat × Nat} (hm : m < 15) (hq : PRS[m]? = some q) : storedP (kyS q) (.int (r q.1 q.2)) (entE r (PRS.take m)) = entE r (PRS.take (m + 1)) := by
  have h := List.all_eq_true.mp tri_new m (List.mem_range.mpr hm)
  rw [hq] at h
  have : (entE r (PRS.take m)).any (fun p => sEq p.1 (kyS q)) = false := by
    rw [Bool.eq_false_iff]
    intro h'
    obtain ⟨x, m', e⟩ := List.any_eq_true.mp h'
    obtain ⟨p, mp, rfl⟩ := List.mem_map.mp m'
    have := List.all_eq_true.mp h p mp
    dsimp only at this e
    rw [e] at this; cases this
  unfold storedP
  rw [this]
  show entE r (PRS.take m) ++ [(kyS q, .int (r q.1 q.2))] = _
  rw [List.take_add_one, hq]
  unfold entE
  rw [List.map_append]; rfl
noncomputable abbrev nRanks : Str := ⟨#[114, 97, 110, 107, 115]⟩
noncomputable abbrev nLate : Str := ⟨#[108, 97, 116, 101]⟩
noncomputable abbrev nSoon : Str := ⟨#[115, 111, 111, 110]⟩
noncomputable abbrev nFirst : Str := ⟨#[102, 105, 114, 115, 116]⟩
noncomputable abbrev nSecond : Str := ⟨#[115, 101, 99, 111, 110, 100]⟩
noncomputable abbrev nFar : Str := ⟨#[102, 97, 114]⟩
noncomputable abbrev WR1 : Stmt := stN dRanks.body 1
noncomputable abbrev WR2 : Stmt := stN (wB WR1) 0
noncomputable abbrev FR (j : Nat) (tl : Loc) : Loc := [(nTable, .hdr 0), (nRanks, .obj 1), (nLate, .int (j : Int))] ++ tl
noncomputable abbrev TlR (i : Nat) (a b d : PV) : Loc := [(nSoon, .int (i : Int)), (nFirst, a), (nSecond, b), (nFar, d)]
structure TblOk (tbl : List Hd) (k : Nat → Nat) : Prop where
  lt : ∀ x ∈ tbl, x.i < 6
  ln : tbl.length ≤ 1000
  fd : ∀ i < 6, ∃ x, tbl.find? (fun x => x.i == i) = some x ∧ x.w = wl (k i) ∧ k i < 21
noncomputable abbrev cW (k : Nat → Nat) (i j : Nat) : Int := L4 (k i) (k j)
theorem below_ent {m : Nat} {r : Nat → Nat → Int} : ∀ (ps : List (Nat × Nat)), belowD m (entE r ps) = true
  | [] => rfl
  | p :: ps => below_ent ps
theorem phOk_R {tbl : List Hd} {r : Nat → Nat → Int} {ps : List (Nat × Nat)} : PhOk [PO.list (tbl.map hdrV), PO.dict (entE r ps)] := by
  unfold PhOk
  show (belowL _ (tbl.map hdrV) && (belowD _ (entE r ps) && true)) = true
  rw [below_hdrs, below_ent]; rfl
theorem ab6 {k : Nat} (h : k < 6) : ([97, 98, 99, 100, 101, 102] : List Nat)[k]? = some (97 + k) := by
  have : ∀ k < 6, ([97, 98, 99, 100, 101, 102] : List Nat)[k]? = some (97 + k) := by decide
  exact this k h
theorem ranks_body {tbl : List Hd} {k : Nat → Nat} (h : TblOk tbl k) {i j : Nat} {tl : Loc} (hj : j < 6) (hi : i < j) (ht : tl = [(nSoon, .int (i : Int))] ∨ ∃ a b d, tl = TlR i a b d) :
    execsP (E (n + 50)) dRanks.scope (wB WR2) (FR j tl) [PO.list (tbl.map hdrV), PO.dict (entE (rkOf (cW k)) (PRS.take (tri j + i)))] = some (.next, FR j (TlR i (.str (st [97 + i])) (.str (st [97 + j])) (.int (cW k i j))), [PO.list (tbl.map hdrV), PO.dict (entE (rkOf (cW k)) (PRS.take (tri j + i + 1)))]) := by
  obtain ⟨q1, q2⟩ := tri_at j hj i hi
  have hs := stored_new (r := rkOf (cW k)) q2 q1
  have hp : PhOk [PO.list (tbl.map hdrV), PO.dict (entE (rkOf (cW k)) (PRS.take (tri j + i)))] := phOk_R
  have hl : (entE (rkOf (cW k)) (PRS.take (tri j + i))).length = tri j + i := by
    unfold entE; rw [List.length_map, List.length_take]
    have : PRS.length = 15 := rfl
    omega
  generalize entE (rkOf (cW k)) (PRS.take (tri j + i)) = es at hs hp hl ⊢
  obtain ⟨x, fx, wx, kx⟩ := h.fd i (by omega)
  obtain ⟨y, fy, wy, ky⟩ := h.fd j hj
  obtain ⟨a1, a2, a3, a4⟩ := sg_fact i (by omega) false
  have hst : storeP (.obj 1) (.str (st [97 + i, 97 + j])) (.int (rkOf (cW k) i j)) [PO.list (tbl.map hdrV), PO.dict es] = some [PO.list (tbl.map hdrV), PO.dict (storedP (st [97 + i, 97 + j]) (.int (rkOf (cW k) i j)) es)] := by
    show (match Nat.ble es.length 1000 with | true => _ | false => _) = _
    rw [Nat.ble_eq.mpr (by omega)]; rfl
  rw [show storedP (st [97 + i, 97 + j]) (.int (rkOf (cW k) i j)) es = _ from hs] at hst
  have g1 : ∀ {v : PV}, IsS v (sg i true) → (E (n + 47)).c 229 [.hdr 0, v] [PO.list (tbl.map hdrV), PO.dict es] = some (wdV x, [PO.list (tbl.map hdrV), PO.dict es]) := fun hv => get_ok (n := n + 7) hp rfl h.ln h.lt (by omega) hv fx
  have g2 : ∀ {v : PV}, IsS v (sg j false) → (E (n + 47)).c 229 [.hdr 0, v] [PO.list (tbl.map hdrV), PO.dict es] = some (wdV y, [PO.list (tbl.map hdrV), PO.dict es]) := fun hv => get_ok (n := n + 7) hp rfl h.ln h.lt hj hv fy
  have lv : (E (n + 48)).c 136 [wdV x, wdV y, .int 4] [PO.list (tbl.map hdrV), PO.dict es] = some (.int (cW k i j), [PO.list (tbl.map hdrV), PO.dict es]) := lev_w (n := n + 26) (wx ▸ .str) (wy ▸ .str) kx ky hp
  have le : callBi P2 .len [.obj 1] [PO.list (tbl.map hdrV), PO.dict es] = some (.int es.length, [PO.list (tbl.map hdrV), PO.dict es]) := by
    show lenN es.length _ = _
    unfold lenN
    rw [Nat.ble_eq.mpr (by omega)]
  have ad : binP .Add (.int (15 * cW k i j)) (.int (es.length : Int)) [PO.list (tbl.map hdrV), PO.dict es] = some (.int (rkOf (cW k) i j)) := by rw [hl]; rfl
  rcases ht with rfl | ⟨a, b, d, rfl⟩ <;>
  · refine x_cons (s_swap (e_tup (by rfl) (a_cons (e_item (by rfl) (by rfl) (by rfl) (IsS.strg.nat (ab6 (by omega : i < 6)) (by omega))) (a_cons (e_item (by rfl) (by rfl) (by rfl) (IsS.strg.nat (ab6 hj) (by omega))) a_nil))) (by rfl)) ?_
    refine x_cons (s_name (e_call (f := 136) (by rfl) (by rfl) (a_cons (e_meth (f := 229) (by rfl) (by rfl) (by rfl) (by rfl) (a_cons (e_upper (l := sg i false) (by rfl) (by rfl) (by rfl) (by rfl) (by rfl) (by rfl) .str (by rfl) (by rfl) a3) a_nil) (by rw [a2]; exact g1 .strg)) (a_cons (e_meth (f := 229) (by rfl) (by rfl) (by rfl) (by rfl) (a_cons (by rfl) a_nil) (by exact g2 (v := .str (st [97 + j])) .str)) (a_cons (by rfl) a_nil))) (by exact lv)) (by rfl)) ?_
    exact x_one (s_item (by rfl) (by rfl) (e_bin (e_bin (by rfl) (by rfl) (by rfl)) (e_bi (by rfl) (by rfl) (a_cons (by rfl) a_nil) (by exact le)) (by exact ad)) (by rfl) (e_bin (by rfl) (by rfl) (by rfl)) (by exact hst))
theorem ranks_in {tbl : List Hd} {k : Nat → Nat} (h : TblOk tbl k) {j : Nat} (hj : j < 6) : ∀ (m i : Nat) (tl : Loc), i + m = j → (tl = [] ∨ ∃ i a b d, tl = TlR i a b d) →
    ∃ tl', forGo (bindT dRanks.scope (wF WR2)) (fun loc ph => execsP (E (n + 50)) dRanks.scope (wB WR2) loc ph) (idx i m) (FR j tl) [PO.list (tbl.map hdrV), PO.dict (entE (rkOf (cW k)) (PRS.take (tri j + i)))] = some (.next, FR j tl', [PO.list (tbl.map hdrV), PO.dict (entE (rkOf (cW k)) (PRS.take (tri j + j)))]) ∧ (tl' = [] ∨ ∃ i a b d, tl' = TlR i a b d)
  | 0, i, tl, hi, ht => ⟨tl, by rw [show i = j by omega]; rfl, ht⟩
  | m + 1, i, tl, hi, ht => by
    obtain ⟨tl1, hb, ht1⟩ : ∃ tl1, bindT dRanks.scope (wF WR2) (.int (i : Int)) (FR j tl) = some (FR j tl1) ∧ (tl1 = [(nSoon, .int (i : Int))] ∨ ∃ a b d, tl1 = TlR i a b d) := by
      rcases ht with rfl | ⟨i', a, b, d, rfl⟩
      · exact ⟨_, rfl, .inl rfl⟩
      · exact ⟨_, rfl, .inr ⟨_, _, _, rfl⟩⟩
    obtain ⟨tl', w1, w2⟩ := ranks_in h hj m (i + 1) (TlR i (.str (st [97 + i])) (.str (st [97 + j])) (.int (cW k i j))) (by omega) (.inr ⟨_, _, _, _, rfl⟩)
    exact ⟨tl', f_cons hb (ranks_body h hj (by omega) ht1) w1, w2⟩
theorem ranks_out {tbl : List Hd} {k : Nat → Nat} (h : TblOk tbl k) : ∀ (m j : Nat) (loc : Loc), j + m = 6 → (loc = [(nTable, .hdr 0), (nRanks, .obj 1)] ∨ ∃ j tl, loc = FR j tl ∧ (tl = [] ∨ ∃ i a b d, tl = TlR i a b d)) →
    ∃ loc', forGo (bindT dRanks.scope (wF WR1)) (fun loc ph => execsP (E (n + 51)) dRanks.scope (wB WR1) loc ph) (idx j m) loc [PO.list (tbl.map hdrV), PO.dict (entE (rkOf (cW k)) (PRS.take (tri j)))] = some (.next, loc', [PO.list (tbl.map hdrV), PO.dict (entE (rkOf (cW k)) PRS)]) ∧ nameP tT dRanks.scope loc' nRanks = some (.obj 1)
  | 0, j, loc, hj, hl => ⟨loc, by rw [show j = 6 by omega]; rfl, by rcases hl with rfl | ⟨j, tl, rfl, _⟩ <;> rfl⟩
  | m + 1, j, loc, hj, hl => by
    obtain ⟨tl, hb, ht⟩ : ∃ tl, bindT dRanks.scope (wF WR1) (.int (j : Int)) loc = some (FR j tl) ∧ (tl = [] ∨ ∃ i a b d, tl = TlR i a b d) := by
      rcases hl with rfl | ⟨j', tl, rfl, ht⟩
      · exact ⟨[], rfl, .inl rfl⟩
      · exact ⟨tl, rfl, ht⟩
    obtain ⟨tl', w1, w2⟩ := ranks_in (n := n) h (by omega : j < 6) j 0 tl (by omega) ht
    have e : tri (j + 1) = tri j + j := by
      have : ∀ j < 6, tri (j + 1) = tri j + j := by decide
      exact this j (by omega)
    obtain ⟨loc', w3, w4⟩ := ranks_out h m (j + 1) (FR j tl') (by omega) (.inr ⟨_, _, rfl, w2⟩)
    rw [e] at w3
    exact ⟨loc', f_cons hb (x_one (s_for (src_plain (by rfl) (by rfl) (items_rng (k := j) (by omega))) (by exact w1))) w3, w4⟩
theorem ranks_ok {tbl : List Hd} {k : Nat → Nat} (h : TblOk tbl k) : (E (n + 55)).c 312 [.hdr 0] [PO.list (tbl.map hdrV)] = some (.dct (entE (rkOf (cW k)) PRS), [PO.list (tbl.map hdrV)]) := by
  obtain ⟨loc', w1, w2⟩ := ranks_out (n := n + 2) h 6 0 [(nTable, .hdr 0), (nRanks, .obj 1)] rfl (.inl rfl)
  refine c_ret (d := dRanks) (v := .obj 1) (ph' := [PO.list (tbl.map hdrV), PO.dict (entE (rkOf (cW k)) PRS)]) (loc' := loc') rfl rfl (x_cons (s_name (by rfl) (by rfl)) (x_cons (s_for (src_plain (by rfl) (by rfl) (items_rng (k := 6) (by omega))) (by exact w1)) (x_one (s_ret ?_)))) ?_
  · show eName tT dRanks.scope loc' nRanks _ = _
    unfold eName; rw [w2]
  · show (match ([PO.list (tbl.map hdrV)]).all (PO.lt 1) with | true => finishO 1 1 [PO.list (tbl.map hdrV)] _ | false => none) = _
    rw [show ([PO.list (tbl.map hdrV)]).all (PO.lt 1) = true by show (belowL _ (tbl.map hdrV) && true) = true; rw [below_hdrs]; rfl]
    show (match belowD 1 (entE (rkOf (cW k)) PRS) with | true => some (PV.dct (entE (rkOf (cW k)) PRS), [PO.list (tbl.map hdrV)]) | false => none) = _
    rw [below_ent]
end Mine.Internal.Pl
end
section
open PySem PySem.W PyProof.Rows
namespace Mine.Internal.Pl
set_option maxRecDepth 100000
set_option maxHeartbeats 2000000
variable {n : Nat} {ph : List PO}
theorem e_strm {T : Top} {P : PrimT} {sc : Scope} {loc : Loc} {ph1 ph2 : List PO} {o apos args pos v l vs w} {name : Str} (hr : nEq name nReplace = false) (hs : isStrName name = true) (hf : (methFits o apos pos args && Nat.blt 0 10) = true) (h1 : (ev T P (n + 1)).e sc loc o ph = some (v, ph1)) (hv : IsS v l)
    (ha : argsP (ev T P (n + 1)) sc loc args ph1 = some (vs, ph2)) (hm : strMeth (st l) name vs ph2 = some w) : (ev T P (n + 2)).e sc loc (.Call (.Attribute o name apos) args [] pos) ph = some (w, ph2) := by
  refine e_mk hr hf h1 (getM_s hv hs) ha rfl ?_
  show metStr (st l) name vs [] ph2 = _
  unfold metStr; dsimp only; rw [hm]
theorem join_st : ∀ {ls : List (List Nat)}, Txt.join (st []) (ls.map st) = st ls.flatten := by
  intro ls
  have h : Txt.join (st []) (ls.map st) = Str.join (st []) (ls.map st) := eq_of_beq (join_plain_closes _ _)
  rw [h]
  induction ls with
  | nil => rfl
  | cons a ls ih =>
    cases ls with
    | nil => simp [Str.join]
    | cons b ls =>
      have e : Str.join (st []) ((a :: b :: ls).map st) = st a ++ st [] ++ Str.join (st []) ((b :: ls).map st) := rfl
      rw [e, ih (eq_of_beq (join_plain_closes _ _))]
      show (⟨(a.toArray ++ #[]) ++ (b :: ls).flatten.toArray⟩ : Str) = _
      simp [st]
theorem allStr_st : ∀ {ls : List (List Nat)}, allStr (ls.map fun l => .str (st l)) = some (ls.map st)
  | [] => rfl
  | l :: ls => by
    simp only [List.map_cons, allStr]
    rw [allStr_st]
    rfl
theorem join_meth {ls : List (List Nat)} (h : (ls.map (·.length)).sum ≤ 1000) : strMeth (st []) nJoin [.lst (ls.map fun l => .str (st l))] ph = some (.str (st ls.flatten)) := by
  show joinP (st []) [.lst (ls.map fun l => .str (st l))] ph = _
  unfold joinP; dsimp only [seqOf]
  rw [allStr_st]; dsimp only
  have : Nat.ble (((ls.map st).map (·.length)).sum + (ls.map st).length * (st []).length) 16777216 = true := by
    rw [Nat.ble_eq, List.map_map]
    have e : ((fun x : Str => x.length) ∘ st) = fun l : List Nat => l.length := by funext l; simp [Str.length]
    rw [e]
    have : (st ([] : List Nat)).length = 0 := rfl
    rw [this]; omega
  rw [this]; dsimp only
  rw [join_st]
theorem e_app {T : Top} {P : PrimT} {sc : Scope} {loc : Loc} {ph1 ph2 : List PO} {o apos a pos k v xs ys} {name : Str} (hr : nEq name nReplace = false) (hn : nEq name nAppend = true) (hf : (methFits o apos pos [a] && Nat.blt 0 10) = true) (h1 : (ev T P (n + 1)).e sc loc o ph = some (.obj k, ph1)) (hg : ph1[k]? = some (.list xs)) (ha : (ev T P (n + 1)).e sc loc a ph1 = some (v, ph2)) (h2 : ph2[k]? = some (.list ys)) (hl : ys.length ≤ 1000) :
    (ev T P (n + 2)).e sc loc (.Call (.Attribute o name apos) [a] [] pos) ph = some (.none, ph2.set k (.list (ys ++ [v]))) := by
  refine e_mk (k := .app) hr hf h1 ?_ (a_cons ha a_nil) rfl ?_
  · show getO T (.obj k) name ph1 = _
    unfold getO; dsimp only; rw [hg]; dsimp only; rw [hn]
  · show (match listAt ph2 k with | some xs => (match Nat.ble xs.length 1000 with | true => some (PV.none, ph2.set k (.list (xs ++ [v]))) | false => none) | none => none) = _
    unfold listAt; rw [h2]; dsimp only; rw [Nat.ble_eq.mpr hl]
noncomputable abbrev nStart : Str := ⟨#[115, 116, 97, 114, 116]⟩
noncomputable abbrev nPile : Str := ⟨#[112, 105, 108, 101]⟩
noncomputable abbrev nPairs : Str := ⟨#[112, 97, 105, 114, 115]⟩
noncomputable abbrev nTurn : Str := ⟨#[116, 117, 114, 110]⟩
noncomputable abbrev nLeft : Str := ⟨#[108, 101, 102, 116]⟩
noncomputable abbrev nTop : Str := ⟨#[116, 111, 112]⟩
noncomputable abbrev nBelow : Str := ⟨#[98, 101, 108, 111, 119]⟩
noncomputable abbrev nNear : Str := ⟨#[110, 101, 97, 114]⟩
noncomputable abbrev prV (p : Nat × Nat) : PV := .str (kyS p)
noncomputable abbrev QH (tbl : List Hd) (xs : List PV) (qs : List (Nat × Nat)) (j : Nat) : List PO := [PO.list (tbl.map hdrV), PO.acc xs, PO.list (qs.map prV)] ++ List.replicate j (PO.list [])
noncomputable abbrev pcV (u : PV) : PV := .tup [.strg (st []), u]
noncomputable def PQ : List PV → List Nat → Prop
  | [], [] => True
  | x :: xs, i :: is => (i < 6 ∧ ∃ u g, x = pcV u ∧ IsS u (sg i g)) ∧ PQ xs is
  | _, _ => False
theorem PQ.len : ∀ {xs : List PV} {ys : List Nat}, PQ xs ys → xs.length = ys.length
  | [], [], _ => rfl
  | _ :: _, _ :: _, h => by simp [h.2.len]
  | [], _ :: _, h => h.elim
  | _ :: _, [], h => h.elim
theorem PQ.below : ∀ {xs : List PV} {ys : List Nat}, PQ xs ys → ∀ v ∈ xs, ∀ k, v.lt k = true
  | [], [], _, v, m, k => by cases m
  | x :: xs, y :: ys, h, v, m, k => by
    rcases List.mem_cons.mp m with rfl | m
    · obtain ⟨u, g, rfl, hu⟩ := h.1.2
      rcases hu with rfl | rfl <;> rfl
    · exact h.2.below v m k
  | [], _ :: _, h, _, _, _ => h.elim
  | _ :: _, [], h, _, _, _ => h.elim
theorem below_prs {k : Nat} (qs : List (Nat × Nat)) : belowL k (qs.map prV) = true := belowL_all fun v m => by
  obtain ⟨x, _, rfl⟩ := List.mem_map.mp m
  rfl
theorem phOk_Q {tbl : List Hd} {xs : List PV} {l : List Nat} {qs : List (Nat × Nat)} {j : Nat} (hr : PQ xs.reverse l) : PhOk (QH tbl xs qs j) := by
  unfold PhOk
  rw [List.all_append]
  have h1 : List.all [PO.list (tbl.map hdrV), PO.acc xs, PO.list (qs.map prV)] (PO.lt (QH tbl xs qs j).length) = true := by
    show (belowL _ (tbl.map hdrV) && (belowL _ xs && (belowL _ (qs.map prV) && true))) = true
    rw [below_hdrs, below_prs, belowL_all fun v m => hr.below v (List.mem_reverse.mpr m) _]; rfl
  rw [h1, List.all_eq_true.mpr fun x m => by rw [(List.mem_replicate.mp m).2]; rfl]; rfl
section
variable {tbl : List Hd} {xs : List PV} {qs : List (Nat × Nat)} {j : Nat}
theorem qh_snoc : QH tbl xs qs j ++ [PO.list []] = QH tbl xs qs (j + 1) := by
  show _ ++ _ ++ _ = _ ++ _
  rw [List.append_assoc, ← List.replicate_succ']
theorem new_q {T : Top} {P : PrimT} {sc : Scope} {loc : Loc} {p : Pos} : (ev T P (n + 1)).e sc loc (.List [] p) (QH tbl xs qs j) = some (.obj (QH tbl xs qs j).length, QH tbl xs qs (j + 1)) := by
  show newList [] (QH tbl xs qs j) = _
  unfold newList
  rw [qh_snoc]
theorem qh_at : (QH tbl xs qs (j + 1))[(QH tbl xs qs j).length]? = some (PO.list []) := by
  rw [← qh_snoc]; simp
theorem push_q {a b : PV} (hl : xs.length ≤ 1000) : (E (n + 21)).c 62 [.obj 1, a, b] (QH tbl xs qs j) = some (.none, QH tbl (xs ++ [PV.tup [a, b]]) qs j) := by
  rw [c_prim (by rfl)]
  show (match Nat.ble xs.length 1000 with | true => some (PV.none, (QH tbl xs qs j).set 1 (.acc (xs ++ [PV.tup [a, b]]))) | false => none) = _
  rw [Nat.ble_eq.mpr hl]; rfl
theorem pop_some {v : PV} {ys : List PV} (h : xs.reverse = v :: ys) (hl : xs.length ≤ 1001) : (E (n + 21)).c 78 [.obj 1] (QH tbl xs qs j) = some (v, QH tbl ys.reverse qs j) := by
  have : xs = ys.reverse ++ [v] := by rw [← List.reverse_reverse xs, h]; simp
  subst this
  rw [c_prim (by rfl)]
  show (match Nat.ble (ys.reverse ++ [v]).length 1001 with | true => (match (ys.reverse ++ [v]).getLast? with | some w => some (w, (QH tbl (ys.reverse ++ [v]) qs j).set 1 (.acc (ys.reverse ++ [v]).dropLast)) | none => _) | false => none) = _
  rw [Nat.ble_eq.mpr hl]
  simp [QH]
theorem pop_none : (E (n + 21)).c 78 [.obj 1] (QH tbl [] qs j) = some (.tup [.strg ⟨#[]⟩, .strg ⟨#[]⟩], QH tbl [] qs j) := by
  rw [c_prim (by rfl)]; rfl
end
noncomputable def hdI (l : List Nat) : List Nat := match l with
  | [] => []
  | i :: _ => [97 + i]
theorem low_nil : Txt.lower (st []) = st [] ∧ lowerOk (st []) = true := by
  have h : (sEq (Txt.lower (st [])) (st []) && lowerOk (st [])) = true := by decide +kernel
  rw [Bool.and_eq_true] at h
  exact ⟨sEq_iff.mp h.1, h.2⟩
theorem pop_q {tbl : List Hd} {xs : List PV} {qs : List (Nat × Nat)} {j : Nat} {l : List Nat} (hr : PQ xs.reverse l) (hl : xs.length ≤ 1000) :
    ∃ a u ys w, (∀ m, (E (m + 21)).c 78 [.obj 1] (QH tbl xs qs j) = some (.tup [a, u], QH tbl ys qs j)) ∧ PQ ys.reverse l.tail ∧ ys.length ≤ xs.length ∧ IsS u w ∧ Txt.lower (st w) = st (hdI l) ∧ lowerOk (st w) = true ∧ (w = [] ↔ l = []) ∧ (∀ i r, l = i :: r → i < 6 ∧ a = .strg (st []) ∧ ∃ g, w = sg i g ∧ xs = ys ++ [pcV u]) ∧ (l = [] → xs = ys) := by
  cases l with
  | nil =>
    have : xs = [] := by
      have := hr.len
      simpa using this
    subst this
    exact ⟨_, _, [], [], fun m => pop_none, by simp [PQ], Nat.le_refl _, .strg, low_nil.1, low_nil.2, by simp, (fun i r e => nomatch e), fun _ => rfl⟩
  | cons i r =>
    cases hx : xs.reverse with
    | nil => rw [hx] at hr; exact hr.elim
    | cons x ys =>
      rw [hx] at hr
      obtain ⟨⟨hi, u, g, rfl, hu⟩, hr⟩ := hr
      obtain ⟨a1, a2, a3, a4⟩ := sg_fact i hi g
      have ex : xs = ys.reverse ++ [pcV u] := by rw [← List.reverse_reverse xs, hx]; simp
      refine ⟨.strg (st []), u, ys.reverse, sg i g, fun m => pop_some hx (by omega), by rw [List.reverse_reverse]; exact hr, ?_, hu, a1, a3, ⟨(fun e => nomatch e), (fun e => nomatch e)⟩, ?_, (fun e => nomatch e)⟩
      · rw [ex]; simp
      · intro i' r' e
        obtain ⟨rfl, rfl⟩ := List.cons.inj e
        exact ⟨hi, rfl, g, rfl, ex⟩
end Mine.Internal.Pl
end
section
open PySem PySem.W PyProof.Rows
namespace Mine.Internal.Pl
set_option maxRecDepth 100000
set_option maxHeartbeats 2000000
variable {n : Nat} {ph : List PO}
noncomputable def ord2 (a b : Nat) : Nat × Nat := (min a b, max a b)
noncomputable def rr (r : Nat → Nat → Int) (a b : Nat) : Int := r (min a b) (max a b)
theorem sort_two : (List.range 6).all (fun a => (List.range 6).all fun b => match sortedStrs [st [97 + a], st [97 + b]] with | [x, y] => sEq x (st [97 + min a b]) && sEq y (st [97 + max a b]) | _ => false) = true := by decide +kernel
theorem sort2 {a b : Nat} (ha : a < 6) (hb : b < 6) : sortedStrs [st [97 + a], st [97 + b]] = [st [97 + min a b], st [97 + max a b]] := by
  have h := List.all_eq_true.mp (List.all_eq_true.mp sort_two a (List.mem_range.mpr ha)) b (List.mem_range.mpr hb)
  generalize sortedStrs [st [97 + a], st [97 + b]] = l at h ⊢
  match l, h with
  | [x, y], h =>
    rw [Bool.and_eq_true, sEq_iff, sEq_iff] at h
    rw [h.1, h.2]
theorem ord_all : (List.range 6).all (fun a => (List.range 6).all fun b => a == b || PRS.contains (ord2 a b)) = true := by decide +kernel
theorem ord_mem (a : Nat) (ha : a < 6) (b : Nat) (hb : b < 6) (hne : a ≠ b) : ord2 a b ∈ PRS := by
  have h := List.all_eq_true.mp (List.all_eq_true.mp ord_all a (List.mem_range.mpr ha)) b (List.mem_range.mpr hb)
  rw [Bool.or_eq_true] at h
  exact h.elim (fun h => absurd (eq_of_beq h) hne) fun h => List.contains_iff_mem.mp h
theorem sort_join {P : PrimT} {u v : PV} {a b : Nat} (hu : IsS u [97 + a]) (hv : IsS v [97 + b]) (ha : a < 6) (hb : b < 6) : callBi P .sorted [.lst [u, v]] ph = some (.lst ((([[97 + min a b], [97 + max a b]] : List (List Nat)).map fun l => .str (st l))), ph) := by
  show sortSeq [u, v] ph = _
  unfold sortSeq
  have e : allStr [u, v] = some [st [97 + a], st [97 + b]] := by
    rcases hu with rfl | rfl <;> rcases hv with rfl | rfl <;> rfl
  rw [e]; dsimp only
  rw [sort2 ha hb]; rfl
theorem ky_join {a b : Nat} : strMeth (st []) nJoin [.lst ((([[97 + min a b], [97 + max a b]] : List (List Nat)).map fun l => .str (st l)))] ph = some (prV (ord2 a b)) := join_meth (by show 2 ≤ 1000; decide)
theorem look_ent {r : Nat → Nat → Int} : ∀ p ∈ PRS, look (kyS p) (entE r PRS) = some (.int (r p.1 p.2)) := by
  have h : ∀ p ∈ PRS, PRS.find? (fun q => nEq (kyS p) (kyS q)) = some p := by decide +kernel
  intro p hp
  have h1 := h p hp
  have : ∀ ps : List (Nat × Nat), look (kyS p) (entE r ps) = (ps.find? fun q => nEq (kyS p) (kyS q)).map fun q => PV.int (r q.1 q.2) := by
    intro ps
    induction ps with
    | nil => rfl
    | cons q ps ih =>
      rw [List.find?_cons]
      show (match nEq (kyS p) (kyS q) with | true => some (PV.int (r q.1 q.2)) | false => look (kyS p) (entE r ps)) = _
      cases nEq (kyS p) (kyS q) with
      | true => rfl
      | false => exact ih
  rw [this, h1]; rfl
noncomputable abbrev RV (r : Nat → Nat → Int) : PV := .dct (entE r PRS)
theorem item_ent {r : Nat → Nat → Int} {a b : Nat} (ha : a < 6) (hb : b < 6) (hne : a ≠ b) : itemP (RV r) (prV (ord2 a b)) ph = some (.int (rr r a b)) := look_ent (r := r) _ (ord_mem a ha b hb hne)
noncomputable abbrev WP : Stmt := stN dPaired.body 2
noncomputable abbrev pB : List Stmt := wB WP
noncomputable abbrev FQ (r : Nat → Nat → Int) (sv : PV) (t : Nat) (tl : Loc) : Loc := [(nTable, .hdr 0), (nRanks, RV r), (nStart, sv), (nPile, .obj 1), (nPairs, .obj 2), (nTurn, .int (t : Int))] ++ tl
noncomputable abbrev lowV (x : Hd) : PV := .strg (st (sg x.i false))
noncomputable abbrev lfV (tbl : List Hd) : PV := .lst (tbl.map lowV)
section
variable {r : Nat → Nat → Int} {sv : PV} {t : Nat} {tl : Loc} {tbl : List Hd} {xs : List PV} {qs : List (Nat × Nat)} {j : Nat} {l : List Nat}
theorem p0 (hT : ∀ x ∈ tbl, x.i < 6) (hl : tbl.length ≤ 1000) (hr : PQ xs.reverse l) : (E (n + 50)).e dPaired.scope (FQ r sv t tl) (swapB (stN pB 0)) (QH tbl xs qs j) = some (lfV tbl, QH tbl xs qs j) := by
  rw [show lfV tbl = .lst ((tbl.filter fun j9 => true).map lowV) by rw [filt_true]]
  refine lc_filterA sgV (by rfl) (src_plain (by rfl) (e_meth (f := 234) (by rfl) (by rfl) (by rfl) (by rfl) a_nil (by exact keys_ok (n := n + 8) (phOk_Q hr) rfl hl)) (by rfl)) (by rfl) hl (fun loc => loc = [] ∨ ∃ a, loc = [(nName, a)]) (fun j9 => true) lowV (.inl rfl) ?_
  intro x hx loc hF
  obtain ⟨a1, a2, a3, a4⟩ := sg_fact x.i (hT x hx) x.g
  refine ⟨[(nName, sgV x)], ?_, .inr ⟨_, rfl⟩, by rfl, fun j9 => ?_⟩
  · rcases hF with rfl | ⟨a, rfl⟩ <;> rfl
  · show (E (n + 49)).e _ _ _ _ = some (PV.strg (st (sg x.i false)), _)
    rw [← a1]
    exact e_lower (l := sg x.i x.g) (by rfl) (by rfl) (by rfl) (by rfl) (by rfl) .str (by rfl) (by rfl) a3
theorem eq_nil {xs : List PV} {ds : List PyData} {k : Nat} (h : dataOf ph 8 (.lst xs) = some (.list ds)) (hs : SeqAt.shaped (.list ds) = true) (hk : ph[k]? = some (PO.list [])) : eqP (.lst xs) (.obj k) ph = some ds.isEmpty := by
  show eqSeq (.lst xs) (.obj k) ph = _
  unfold eqSeq
  have e1 : seqOf ph (.obj k) = some [] := by unfold seqOf; dsimp only; rw [hk]
  have e2 : dataOf ph 8 (.obj k) = some (.list []) := by
    show (match ph[k]? with | some (.list xs) => (mapO (dataOf ph 7) xs).map PyData.list | _ => none) = _
    rw [hk]; rfl
  rw [e1, h, e2]; dsimp only [seqOf]
  rw [hs]
  cases ds <;> rfl
theorem data_strg {k : Nat} {a : List Str} : dataOf ph (k + 2) (.lst (a.map .strg)) = some (.list (a.map PyData.str)) := by
  show (mapO (dataOf ph (k + 1)) (a.map .strg)).map PyData.list = _
  have : ∀ a : List Str, mapO (dataOf ph (k + 1)) (a.map .strg) = some (a.map PyData.str) := by
    intro a
    induction a with
    | nil => rfl
    | cons x a ih => rw [List.map_cons, mapO, show dataOf ph (k + 1) (.strg x) = some (.str x) from rfl]; dsimp only; rw [ih]; rfl
  rw [this]; rfl
theorem shaped_strs {a : List Str} (h : ∀ x ∈ a, PyData.canLay0 (.str x) = true) : SeqAt.shaped (.list (a.map PyData.str)) = true := by
  have h1 : PyData.canLayAll0 (a.map PyData.str) = true := by
    induction a with
    | nil => rfl
    | cons x a ih => show (PyData.canLay0 (.str x) && PyData.canLayAll0 (a.map PyData.str)) = true; rw [ih fun y m => h y (by simp [m]), h x (by simp)]; rfl
  have h2 : ∀ a : List Str, PyData.depthAll (a.map PyData.str) = 0 := by
    intro a
    induction a with
    | nil => rfl
    | cons x a ih => show max 0 (PyData.depthAll (a.map PyData.str)) = 0; rw [ih]; rfl
  show (PyData.canLayAll0 (a.map PyData.str) && decide (PyData.depthAll (a.map PyData.str) + 1 ≤ 64)) = true
  rw [h1, h2]; rfl
theorem sg_lay : (List.range 6).all (fun i => PyData.canLay0 (.str (st (sg i false)))) = true := by decide +kernel
theorem p1 (hT : ∀ x ∈ tbl, x.i < 6) : (E (n + 50)).t dPaired.scope (FQ r sv t ((nLeft, lfV tbl) :: tl)) (wT (stN pB 1)) (QH tbl xs qs j) = some (tbl.isEmpty, QH tbl xs qs (j + 1)) := by
  refine t_cmp (x := lfV tbl) (ph1 := QH tbl xs qs j) (by rfl) (by exact new_q) ?_
  have e : tbl.map lowV = (tbl.map fun x => st (sg x.i false)).map PV.strg := by rw [List.map_map]; rfl
  have := eq_nil (ph := QH tbl xs qs (j + 1)) (xs := tbl.map lowV) (ds := (tbl.map fun x => st (sg x.i false)).map PyData.str) (k := (QH tbl xs qs j).length) (by rw [e]; exact data_strg) (shaped_strs fun s m => by
    obtain ⟨x, mx, rfl⟩ := List.mem_map.mp m
    exact List.all_eq_true.mp sg_lay _ (List.mem_range.mpr (hT x mx))) qh_at
  refine Eq.trans (show _ = eqP (lfV tbl) _ _ from rfl) (this.trans ?_)
  cases tbl <;> rfl
end
end Mine.Internal.Pl
end
section
open PySem PySem.W PyProof.Rows
namespace Mine.Internal.Pl
set_option maxRecDepth 100000
set_option maxHeartbeats 2000000
variable {n : Nat} {ph : List PO}
section
variable {r : Nat → Nat → Int} {sv lv tv bv : PV} {t : Nat} {tl : Loc} {tbl : List Hd} {xs : List PV} {qs : List (Nat × Nat)} {j : Nat} {l : List Nat}
theorem p2 {a u : PV} {ys : List PV} {w : List Nat} (hp : ∀ m, (E (m + 21)).c 78 [.obj 1] (QH tbl xs qs j) = some (.tup [a, u], QH tbl ys qs j)) (hu : IsS u w) (h1 : Txt.lower (st w) = st (hdI l)) (h2 : lowerOk (st w) = true) :
    (E (n + 50)).e dPaired.scope (FQ r sv t ((nLeft, lv) :: tl)) (swapB (stN pB 2)) (QH tbl xs qs j) = some (.strg (st (hdI l)), QH tbl ys qs j) := by
  rw [← h1]
  exact e_lower (l := w) (by rfl) (by rfl) (by rfl) (by rfl) (e_item (by rfl) (e_meth (f := 78) (by rfl) (by rfl) (by rfl) (by rfl) a_nil (by exact hp (n + 26))) (by rfl) (by rfl)) hu (by rfl) (by rfl) h2
theorem p3 {x : Hd} {tb : List Hd} {r2 : Loc} : (E (n + 51)).s dPaired.scope (FQ r sv t ((nLeft, lfV (x :: tb)) :: (nTop, .strg (st (hdI l))) :: r2)) (stN pB 3) ph = some (.next, FQ r sv t ((nLeft, lfV (x :: tb)) :: (nTop, .strg (st [97 + l.headD x.i])) :: r2), ph) := by
  have ht : (E (n + 50)).t dPaired.scope (FQ r sv t ((nLeft, lfV (x :: tb)) :: (nTop, .strg (st (hdI l))) :: r2)) (wT (stN pB 3)) ph = some (natsEq (hdI l) [], ph) := t_cmp (by rfl) (by rfl) (IsS.eq .strg .strg)
  cases l with
  | nil => exact s_if ht (fun j9 => x_one (s_name (e_item (by rfl) (by rfl) (by rfl) (by rfl)) (by rfl))) (fun c => nomatch c)
  | cons i l => exact s_if ht (fun c => nomatch c) (fun j9 => rfl)
theorem p4 {a u : PV} {ys : List PV} (hp : ∀ m, (E (m + 21)).c 78 [.obj 1] (QH tbl xs qs j) = some (.tup [a, u], QH tbl ys qs j)) :
    (E (n + 50)).e dPaired.scope (FQ r sv t ((nLeft, lv) :: (nTop, tv) :: tl)) (swapB (stN pB 4)) (QH tbl xs qs j) = some (u, QH tbl ys qs j) :=
  e_item (by rfl) (e_meth (f := 78) (by rfl) (by rfl) (by rfl) (by rfl) a_nil (by exact hp (n + 27))) (by rfl) (by rfl)
noncomputable abbrev oths (tbl : List Hd) (a : Nat) : List Hd := tbl.filter fun x => !(x.i == a)
noncomputable abbrev dis (r : Nat → Nat → Int) (tbl : List Hd) (a : Nat) : List Int := (oths tbl a).map fun x => rr r a x.i
noncomputable abbrev tpV (r : Nat → Nat → Int) (a : Nat) (x : Hd) : PV := .tup [.int (rr r a x.i), lowV x]
theorem min_prs {a : Nat} {y : Hd} {os : List Hd} (hd : nodupI (os.map fun x => rr r a x.i) = true) (hy : os[leastAt (os.map fun x => rr r a x.i)]? = some y) : callBi P2 .min [.lst (os.map (tpV r a))] ph = some (tpV r a y, ph) := by
  show minSeq P2 (os.map (tpV r a)) ph = _
  unfold minSeq
  have h1 : allInt (os.map (tpV r a)) = none := by
    cases os with
    | nil => rw [List.getElem?_nil] at hy; cases hy
    | cons x os => rfl
  have h2 : mapO pairInt (os.map (tpV r a)) = some (os.map fun x => rr r a x.i) := by
    clear hd hy h1
    induction os with
    | nil => rfl
    | cons x os ih =>
      rw [List.map_cons, mapO, show pairInt (tpV r a x) = some (rr r a x.i) from rfl]; dsimp only; rw [ih]; rfl
  rw [h1]; dsimp only
  show minPairs (os.map (tpV r a)) ph = _
  unfold minPairs
  rw [h2]; dsimp only; rw [hd]; dsimp only
  rw [List.getElem?_map, hy]; rfl
noncomputable def lc5 : Expr := sub (sub (swapB (stN pB 5)) 0) 1
noncomputable def sc5 : Scope := scOf lc5
theorem p5_elt {a : Nat} {x : Hd} (ha : a < 6) (hx : x.i < 6) (hne : x.i ≠ a) (hv : tv = .strg (st [97 + a])) : (E (n + 47)).e sc5 [(nRanks, RV r), (nTop, tv), (nName, lowV x)] (sub lc5 0) ph = some (tpV r a x, ph) := by
  subst hv
  exact e_tup (by rfl) (a_cons (e_item (by rfl) (by rfl) (e_strm (l := []) (by rfl) (by rfl) (by rfl) (by rfl) .strg (a_cons (e_bi (by rfl) (by rfl) (a_cons (by rfl) a_nil) (by exact sort_join (u := .strg (st [97 + a])) (v := lowV x) .strg .strg ha hx)) a_nil) (by exact ky_join)) (by exact item_ent ha hx (Ne.symm hne))) (a_cons (by rfl) a_nil))
theorem p5 {a : Nat} {y : Hd} {r3 : Loc} (hT : ∀ x ∈ tbl, x.i < 6) (hl : tbl.length ≤ 1000) (ha : a < 6) (hd : nodupI (dis r tbl a) = true) (hy : (oths tbl a)[leastAt (dis r tbl a)]? = some y) :
    (E (n + 50)).e dPaired.scope (FQ r sv t ((nLeft, lfV tbl) :: (nTop, .strg (st [97 + a])) :: (nBelow, bv) :: r3)) (swapB (stN pB 5)) ph = some (lowV y, ph) := by
  refine e_item (ov := tpV r a y) (iv := .int 1) (ph1 := ph) (ph2 := ph) (by rfl) (e_bi (by rfl) (by rfl) (a_cons (v := .lst ((oths tbl a).map (tpV r a))) (ph1 := ph) ?_ a_nil) (by exact min_prs hd hy)) (by rfl) (by rfl)
  refine lc_filterA lowV (by rfl) (src_plain (by rfl) (by rfl) (by rfl)) (by rfl) hl (fun loc => loc = [(nRanks, RV r), (nTop, .strg (st [97 + a]))] ∨ ∃ z, loc = [(nRanks, RV r), (nTop, .strg (st [97 + a])), (nName, z)]) (fun x => !(x.i == a)) (tpV r a) (.inl rfl) ?_
  intro x hx loc hF
  refine ⟨[(nRanks, RV r), (nTop, .strg (st [97 + a])), (nName, lowV x)], ?_, .inr ⟨_, rfl⟩, ts_one ?_, fun hne => ?_⟩
  · rcases hF with rfl | ⟨z, rfl⟩ <;> rfl
  · have e : natsEq (sg x.i false) [97 + a] = (x.i == a) := beq97
    rw [← e]
    exact t_cmp (by rfl) (by rfl) (IsS.ne .strg .strg)
  · exact p5_elt ha (hT x hx) (by simpa using hne) rfl
end
end Mine.Internal.Pl
end
section
open PySem PySem.W PyProof.Rows
namespace Mine.Internal.Pl
set_option maxRecDepth 100000
set_option maxHeartbeats 2000000
variable {n : Nat} {ph : List PO}
noncomputable def topI (tbl : List Hd) (l : List Nat) : Nat := l.headD ((tbl.map Hd.i).headD 0)
noncomputable def without (tbl : List Hd) (a : Nat) : List Hd := tbl.filter fun x => !(x.i == a)
noncomputable def turnQ (r : Nat → Nat → Int) (y : Hd) (s : List Hd × List Nat × List (Nat × Nat)) : List Hd × List Nat × List (Nat × Nat) :=
  match natsEq [97 + y.i] (hdI s.2.1.tail) with
  | true => (without (without s.1 (topI s.1 s.2.1)) y.i, s.2.1.tail.tail, s.2.2 ++ [ord2 (topI s.1 s.2.1) y.i])
  | false => (s.1, y.i :: topI s.1 s.2.1 :: s.2.1.tail, s.2.2)
noncomputable abbrev F4 (tbl : List Hd) (a : Nat) (bv : PV) (y : Hd) : Loc := [(nLeft, lfV tbl), (nTop, .strg (st [97 + a])), (nBelow, bv), (nNear, lowV y)]
noncomputable def sE (s : Stmt) : List Stmt := (parts s).2.2
section
variable {r : Nat → Nat → Int} {sv lv tv bv : PV} {t : Nat} {tl : Loc} {tbl tb0 : List Hd} {xs : List PV} {qs : List (Nat × Nat)} {j : Nat} {l : List Nat}
theorem t6 {a : Nat} {y : Hd} {w l2 : List Nat} (hb : IsS bv w) (h1 : Txt.lower (st w) = st (hdI l2)) (h2 : lowerOk (st w) = true) : (E (n + 50)).t dPaired.scope (FQ r sv t (F4 tb0 a bv y)) (wT (stN pB 6)) ph = some (natsEq [97 + y.i] (hdI l2), ph) := by
  refine t_cmp (x := lowV y) (y := .strg (st (hdI l2))) (by rfl) ?_ (IsS.eq .strg .strg)
  rw [← h1]
  exact e_lower (l := w) (by rfl) (by rfl) (by rfl) (by rfl) (by rfl) hb (by rfl) (by rfl) h2
theorem qh_qs {p : Nat × Nat} : (QH tbl xs qs j).set 2 (.list (qs.map prV ++ [prV p])) = QH tbl xs (qs ++ [p]) j := by
  show _ = [PO.list (tbl.map hdrV), PO.acc xs, PO.list ((qs ++ [p]).map prV)] ++ _
  rw [List.map_append]; rfl
theorem mates {a : Nat} {y : Hd} {g : Bool} (ha : a < 6) (hy : y.i < 6) (hb : IsS bv (sg y.i g)) (hT : ∀ x ∈ tbl, x.i < 6) (hl : tbl.length ≤ 900) (hq : qs.length ≤ 900) (hr : PQ xs.reverse l) :
    execsP (E (n + 50)) dPaired.scope (wB (stN pB 6)) (FQ r sv t (F4 tb0 a bv y)) (QH tbl xs qs j) = some (.next, FQ r sv t (F4 tb0 a bv y), QH (without (without tbl a) y.i) xs (qs ++ [ord2 a y.i]) j) := by
  have hT1 : ∀ x ∈ without tbl a, x.i < 6 := fun x m => hT x (List.mem_filter.mp m).1
  have hl1 : (without tbl a).length ≤ 900 := Nat.le_trans (List.length_filter_le _ _) hl
  have d1 := del_ok (n := n + 8) (ph := QH tbl xs (qs ++ [ord2 a y.i]) j) (phOk_Q hr) (tbl := tbl) rfl (by omega) hT ha (.strg (l := sg a false))
  have d2 := del_ok (n := n + 8) (ph := QH (without tbl a) xs (qs ++ [ord2 a y.i]) j) (phOk_Q hr) (tbl := without tbl a) rfl (by omega) hT1 hy hb
  refine x_cons (s_expr (e_app (k := 2) (xs := qs.map prV) (ys := qs.map prV) (v := prV (ord2 a y.i)) (by rfl) (by rfl) (by rfl) (by rfl) (by rfl) (e_strm (l := []) (by rfl) (by rfl) (by rfl) (by rfl) .strg (a_cons (e_bi (by rfl) (by rfl) (a_cons (by rfl) a_nil) (by exact sort_join (u := .strg (st [97 + a])) (v := lowV y) .strg .strg ha hy)) a_nil) (by exact ky_join)) (by rfl) (by rw [List.length_map]; omega)) (by rfl)) ?_
  rw [qh_qs]
  refine x_cons (s_del (k := 0) (f := 200) (by rfl) (by rfl) (by rfl) (by exact d1)) ?_
  exact x_one (s_del (k := 0) (f := 200) (by rfl) (by rfl) (by rfl) (by exact d2))
theorem grow {a : Nat} {y : Hd} {w : List Nat} {c : Bool} (ha : a < 6) (hb : IsS bv w) (hc : natsEq w [] = c) (hx : xs.length ≤ 900) :
    execsP (E (n + 50)) dPaired.scope (sE (stN pB 6)) (FQ r sv t (F4 tb0 a bv y)) (QH tbl xs qs j) = some (.next, FQ r sv t (F4 tb0 a bv y), QH tbl ((if c then xs else xs ++ [pcV bv]) ++ [pcV (.strg (st (sg a true)))] ++ [pcV (lowV y)]) qs j) := by
  obtain ⟨a1, a2, a3, a4⟩ := sg_fact a ha false
  have ht : (E (n + 49)).t dPaired.scope (FQ r sv t (F4 tb0 a bv y)) (wT (stN (sE (stN pB 6)) 0)) (QH tbl xs qs j) = some (!c, QH tbl xs qs j) := by
    rw [← hc]
    exact t_cmp (by rfl) (by rfl) (IsS.ne hb .strg)
  have s0 : (E (n + 50)).s dPaired.scope (FQ r sv t (F4 tb0 a bv y)) (stN (sE (stN pB 6)) 0) (QH tbl xs qs j) = some (.next, FQ r sv t (F4 tb0 a bv y), QH tbl (if c then xs else xs ++ [pcV bv]) qs j) := by
    cases c with
    | true => exact s_if ht (fun c => nomatch c) (fun j9 => rfl)
    | false => exact s_if ht (fun j9 => x_one (s_expr (e_meth (f := 62) (by rfl) (by rfl) (by rfl) (by rfl) (a_cons (by rfl) (a_cons (by rfl) a_nil)) (by exact push_q (n := n + 26) (by omega))) (by rfl))) (fun c => nomatch c)
  have hx1 : (if c then xs else xs ++ [pcV bv]).length ≤ 901 := by cases c <;> simp <;> omega
  generalize (if c then xs else xs ++ [pcV bv]) = xs1 at s0 hx1 ⊢
  refine x_cons s0 (x_cons (s_expr (e_meth (f := 62) (by rfl) (by rfl) (by rfl) (by rfl) (a_cons (by rfl) (a_cons (e_upper (l := sg a false) (by rfl) (by rfl) (by rfl) (by rfl) (by rfl) (by rfl) .strg (by rfl) (by rfl) a3) a_nil)) (by rw [a2]; exact push_q (n := n + 27) (by omega))) (by rfl)) ?_)
  exact x_one (s_expr (e_meth (f := 62) (by rfl) (by rfl) (by rfl) (by rfl) (a_cons (by rfl) (a_cons (by rfl) a_nil)) (by exact push_q (n := n + 27) (by simp; omega))) (by rfl))
theorem hd_eq {b : Nat} : ∀ {l : List Nat}, natsEq [97 + b] (hdI l) = true → ∃ q, l = b :: q
  | [], h => by cases h
  | i :: q, h => by
    have : [97 + b] = [97 + i] := natsEq_iff.mp h
    exact ⟨q, by rw [show b = i by simpa using this]⟩
noncomputable def TurnG (n : Nat) (r : Nat → Nat → Int) (sv : PV) (t : Nat) (tl : Loc) (x0 : Hd) (tb : List Hd) (xs : List PV) (qs : List (Nat × Nat)) (j : Nat) (y : Hd) (l : List Nat) : Prop :=
  ∃ xs' tl', execsP (E (n + 52)) dPaired.scope pB (FQ r sv t tl) (QH (x0 :: tb) xs qs j) = some (.next, FQ r sv t tl', QH (turnQ r y (x0 :: tb, l, qs)).1 xs' (turnQ r y (x0 :: tb, l, qs)).2.2 (j + 1)) ∧ PQ xs'.reverse (turnQ r y (x0 :: tb, l, qs)).2.1 ∧ xs'.length ≤ xs.length + 3 ∧ (∃ a b c d, tl' = [(nLeft, a), (nTop, b), (nBelow, c), (nNear, d)])
theorem turn_ok' {x0 : Hd} {tb : List Hd} {y : Hd} (hT : ∀ x ∈ x0 :: tb, x.i < 6) (hl : (x0 :: tb).length ≤ 900) (hq : qs.length ≤ 900) (hx : xs.length ≤ 800) (hr : PQ xs.reverse l) (hy : (oths (x0 :: tb) (topI (x0 :: tb) l))[leastAt (dis r (x0 :: tb) (topI (x0 :: tb) l))]? = some y) (hd : nodupI (dis r (x0 :: tb) (topI (x0 :: tb) l)) = true)
    (ht : tl = [] ∨ ∃ a b c d, tl = [(nLeft, a), (nTop, b), (nBelow, c), (nNear, d)]) :
    TurnG n r sv t tl x0 tb xs qs j y l := by
  have hyi : y.i < 6 := hT y (List.mem_filter.mp (List.mem_of_getElem? hy)).1
  obtain ⟨a1, u1, ys1, w1, k1, k2, k3, k4, k5, k6, k7, k8, k9⟩ := pop_q (tbl := x0 :: tb) (qs := qs) (j := j + 1) hr (by omega)
  obtain ⟨a2, u2, ys2, w2, m1, m2, m3, m4, m5, m6, m7, m8, m9⟩ := pop_q (tbl := x0 :: tb) (qs := qs) (j := j + 1) k2 (by omega)
  have htop : topI (x0 :: tb) l < 6 := by
    unfold topI
    cases l with
    | nil => exact hT x0 (by simp)
    | cons i q => exact (k8 i q rfl).1
  have et : l.headD x0.i = topI (x0 :: tb) l := rfl
  have hs : ∃ r1, setL nLeft (lfV (x0 :: tb)) (FQ r sv t tl) = FQ r sv t ((nLeft, lfV (x0 :: tb)) :: r1) ∧ (r1 = [] ∨ ∃ b c d, r1 = [(nTop, b), (nBelow, c), (nNear, d)]) := by
    rcases ht with rfl | ⟨a, b, c, d, rfl⟩
    · exact ⟨[], rfl, .inl rfl⟩
    · exact ⟨_, rfl, .inr ⟨_, _, _, rfl⟩⟩
  obtain ⟨r1, e1, h1⟩ := hs
  have hs : ∃ r2, setL nTop (.strg (st (hdI l))) (FQ r sv t ((nLeft, lfV (x0 :: tb)) :: r1)) = FQ r sv t ((nLeft, lfV (x0 :: tb)) :: (nTop, .strg (st (hdI l))) :: r2) ∧ (r2 = [] ∨ ∃ c d, r2 = [(nBelow, c), (nNear, d)]) := by
    rcases h1 with rfl | ⟨b, c, d, rfl⟩
    · exact ⟨[], rfl, .inl rfl⟩
    · exact ⟨_, rfl, .inr ⟨_, _, rfl⟩⟩
  obtain ⟨r2, e2, h2⟩ := hs
  have hs : ∃ r3, setL nBelow u2 (FQ r sv t ((nLeft, lfV (x0 :: tb)) :: (nTop, .strg (st [97 + topI (x0 :: tb) l])) :: r2)) = FQ r sv t ((nLeft, lfV (x0 :: tb)) :: (nTop, .strg (st [97 + topI (x0 :: tb) l])) :: (nBelow, u2) :: r3) ∧ (r3 = [] ∨ ∃ d, r3 = [(nNear, d)]) := by
    rcases h2 with rfl | ⟨c, d, rfl⟩
    · exact ⟨[], rfl, .inl rfl⟩
    · exact ⟨_, rfl, .inr ⟨_, rfl⟩⟩
  obtain ⟨r3, e3, h3⟩ := hs
  have e4 : setL nNear (lowV y) (FQ r sv t ((nLeft, lfV (x0 :: tb)) :: (nTop, .strg (st [97 + topI (x0 :: tb) l])) :: (nBelow, u2) :: r3)) = FQ r sv t (F4 (x0 :: tb) (topI (x0 :: tb) l) u2 y) := by
    rcases h3 with rfl | ⟨d, rfl⟩ <;> rfl
  have x0' : (E (n + 52)).s dPaired.scope (FQ r sv t tl) (stN pB 0) (QH (x0 :: tb) xs qs j) = some (.next, FQ r sv t ((nLeft, lfV (x0 :: tb)) :: r1), QH (x0 :: tb) xs qs j) := e1 ▸ s_name (by exact p0 (n := n + 1) hT (by omega) hr) (by rfl)
  have x1' : (E (n + 52)).s dPaired.scope (FQ r sv t ((nLeft, lfV (x0 :: tb)) :: r1)) (stN pB 1) (QH (x0 :: tb) xs qs j) = some (.next, FQ r sv t ((nLeft, lfV (x0 :: tb)) :: r1), QH (x0 :: tb) xs qs (j + 1)) := s_if (c := false) (by exact p1 (n := n + 1) hT) (fun c => nomatch c) (fun j9 => rfl)
  have x2' : (E (n + 52)).s dPaired.scope (FQ r sv t ((nLeft, lfV (x0 :: tb)) :: r1)) (stN pB 2) (QH (x0 :: tb) xs qs (j + 1)) = some (.next, FQ r sv t ((nLeft, lfV (x0 :: tb)) :: (nTop, .strg (st (hdI l))) :: r2), QH (x0 :: tb) ys1 qs (j + 1)) := e2 ▸ s_name (by exact p2 (n := n + 1) k1 k4 k5 k6) (by rfl)
  have x3' : (E (n + 52)).s dPaired.scope (FQ r sv t ((nLeft, lfV (x0 :: tb)) :: (nTop, .strg (st (hdI l))) :: r2)) (stN pB 3) (QH (x0 :: tb) ys1 qs (j + 1)) = some (.next, FQ r sv t ((nLeft, lfV (x0 :: tb)) :: (nTop, .strg (st [97 + topI (x0 :: tb) l])) :: r2), QH (x0 :: tb) ys1 qs (j + 1)) := p3 (n := n + 1)
  have x4' : (E (n + 52)).s dPaired.scope (FQ r sv t ((nLeft, lfV (x0 :: tb)) :: (nTop, .strg (st [97 + topI (x0 :: tb) l])) :: r2)) (stN pB 4) (QH (x0 :: tb) ys1 qs (j + 1)) = some (.next, FQ r sv t ((nLeft, lfV (x0 :: tb)) :: (nTop, .strg (st [97 + topI (x0 :: tb) l])) :: (nBelow, u2) :: r3), QH (x0 :: tb) ys2 qs (j + 1)) := e3 ▸ s_name (by exact p4 (n := n + 1) m1) (by rfl)
  have x5' : (E (n + 52)).s dPaired.scope (FQ r sv t ((nLeft, lfV (x0 :: tb)) :: (nTop, .strg (st [97 + topI (x0 :: tb) l])) :: (nBelow, u2) :: r3)) (stN pB 5) (QH (x0 :: tb) ys2 qs (j + 1)) = some (.next, FQ r sv t (F4 (x0 :: tb) (topI (x0 :: tb) l) u2 y), QH (x0 :: tb) ys2 qs (j + 1)) := e4 ▸ s_name (by exact p5 (n := n + 1) hT (by omega) htop hd hy) (by rfl)
  have go : ∀ {o : SRes}, (E (n + 52)).s dPaired.scope (FQ r sv t (F4 (x0 :: tb) (topI (x0 :: tb) l) u2 y)) (stN pB 6) (QH (x0 :: tb) ys2 qs (j + 1)) = o → (∃ a b c, o = some (a, b, c)) → execsP (E (n + 52)) dPaired.scope pB (FQ r sv t tl) (QH (x0 :: tb) xs qs j) = o := by
    rintro o h ⟨a, b, c, rfl⟩
    exact x_cons x0' (x_cons x1' (x_cons x2' (x_cons x3' (x_cons x4' (x_cons x5' (x_one h))))))
  have t6' := t6 (n := n + 1) (r := r) (sv := sv) (t := t) (tb0 := x0 :: tb) (a := topI (x0 :: tb) l) (y := y) (ph := QH (x0 :: tb) ys2 qs (j + 1)) m4 m5 m6
  cases hc : natsEq [97 + y.i] (hdI l.tail) with
  | true =>
    rw [hc] at t6'
    obtain ⟨q, eq⟩ := hd_eq hc
    obtain ⟨-, -, g, ew, ex⟩ := m8 _ _ eq
    unfold TurnG turnQ; dsimp only; rw [hc]; dsimp only
    refine ⟨ys2, _, go (s_if t6' (fun j9 => by exact mates (n := n + 1) htop hyi (ew ▸ m4) hT hl hq m2) (fun c => nomatch c)) ⟨_, _, _, rfl⟩, m2, by omega, ⟨_, _, _, _, rfl⟩⟩
  | false =>
    rw [hc] at t6'
    unfold TurnG turnQ; dsimp only; rw [hc]; dsimp only
    refine ⟨_, _, go (s_if t6' (fun c => nomatch c) (fun j9 => by exact grow (n := n + 1) htop m4 rfl (by omega))) ⟨_, _, _, rfl⟩, ?_, ?_, ⟨_, _, _, _, rfl⟩⟩
    · have e : (if natsEq w2 [] = true then ys2 else ys2 ++ [pcV u2]) = ys1 := by
        cases hlt : l.tail with
        | nil =>
          rw [m7.mpr hlt, m9 hlt]; rfl
        | cons b q =>
          obtain ⟨-, -, g, ew, ex⟩ := m8 _ _ hlt
          rw [ew, ex]; rfl
      rw [e]
      simp only [List.reverse_append, List.reverse_cons, List.reverse_nil, List.nil_append, List.singleton_append, List.append_assoc]
      exact ⟨⟨hyi, _, false, rfl, .strg⟩, ⟨htop, _, true, rfl, .strg⟩, k2⟩
    · have : (if natsEq w2 [] = true then ys2 else ys2 ++ [pcV u2]).length ≤ ys2.length + 1 := by split <;> simp
      simp only [List.length_append, List.length_singleton]; omega
end
end Mine.Internal.Pl
end
section
open PySem PySem.W PyProof.Rows
namespace Mine.Internal.Pl
set_option maxRecDepth 100000
set_option maxHeartbeats 2000000
variable {n : Nat} {ph : List PO}
noncomputable abbrev S3 := List Hd × List Nat × List (Nat × Nat)
noncomputable def yOf (r : Nat → Nat → Int) (s : S3) : Option Hd := (oths s.1 (topI s.1 s.2.1))[leastAt (dis r s.1 (topI s.1 s.2.1))]?
noncomputable def stepQ (r : Nat → Nat → Int) (s : S3) : S3 := match yOf r s with
  | some y => turnQ r y s
  | none => s
noncomputable def runQ (r : Nat → Nat → Int) : Nat → S3 → S3
  | 0, s => s
  | m + 1, s => match s.1 with
    | [] => s
    | _ :: _ => runQ r m (stepQ r s)
structure JOk (r : Nat → Nat → Int) (J : S3 → Prop) : Prop where
  bd : ∀ s, J s → (∀ x ∈ s.1, x.i < 6) ∧ s.1.length ≤ 6 ∧ s.2.2.length ≤ 6
  go : ∀ s, J s → s.1 ≠ [] → (∃ y, yOf r s = some y) ∧ nodupI (dis r s.1 (topI s.1 s.2.1)) = true ∧ J (stepQ r s)
section
variable {r : Nat → Nat → Int} {sv : PV} {J : S3 → Prop}
noncomputable abbrev FQ0 (r : Nat → Nat → Int) (sv : PV) : Loc := [(nTable, .hdr 0), (nRanks, RV r), (nStart, sv), (nPile, .obj 1), (nPairs, .obj 2)]
noncomputable def Tl4 (tl : Loc) : Prop := tl = [] ∨ ∃ a b c d, tl = [(nLeft, a), (nTop, b), (nBelow, c), (nNear, d)]
theorem paired_go (hJ : JOk r J) : ∀ (m t : Nat) (s : S3) (xs : List PV) (j : Nat) (loc : Loc), J s → PQ xs.reverse s.2.1 → xs.length + 3 * m ≤ 100 → (loc = FQ0 r sv ∨ ∃ t tl, loc = FQ r sv t tl ∧ Tl4 tl) →
    ∃ xs' j' loc', forGo (bindT dPaired.scope (wF WP)) (fun loc ph => execsP (E (n + 52)) dPaired.scope pB loc ph) (idx t m) loc (QH s.1 xs s.2.2 j) = some (.next, loc', QH (runQ r m s).1 xs' (runQ r m s).2.2 j') ∧ nameP tT dPaired.scope loc' nPairs = some (.obj 2) ∧ J (runQ r m s) ∧ PQ xs'.reverse (runQ r m s).2.1
  | 0, t, s, xs, j, loc, hs, hr, hx, hl => ⟨xs, j, loc, rfl, by rcases hl with rfl | ⟨t, tl, rfl, _⟩ <;> rfl, hs, hr⟩
  | m + 1, t, s, xs, j, loc, hs, hr, hx, hl => by
    obtain ⟨tl, hb, ht⟩ : ∃ tl, bindT dPaired.scope (wF WP) (.int (t : Int)) loc = some (FQ r sv t tl) ∧ Tl4 tl := by
      rcases hl with rfl | ⟨t', tl, rfl, ht⟩
      · exact ⟨[], rfl, .inl rfl⟩
      · exact ⟨tl, rfl, ht⟩
    obtain ⟨b1, b2, b3⟩ := hJ.bd s hs
    obtain ⟨tbl, l, qs⟩ := s
    cases tbl with
    | nil =>
      have e1 : ∃ r1, setL nLeft (lfV []) (FQ r sv t tl) = FQ r sv t ((nLeft, lfV []) :: r1) := by
        rcases ht with rfl | ⟨a, b, c, d, rfl⟩
        · exact ⟨[], rfl⟩
        · exact ⟨_, rfl⟩
      obtain ⟨r1, e1⟩ := e1
      have x0 : (E (n + 52)).s dPaired.scope (FQ r sv t tl) (stN pB 0) (QH [] xs qs j) = some (.next, FQ r sv t ((nLeft, lfV []) :: r1), QH [] xs qs j) := e1 ▸ s_name (by exact p0 (n := n + 1) (tbl := []) b1 (Nat.zero_le _) hr) (by rfl)
      have x1 : (E (n + 52)).s dPaired.scope (FQ r sv t ((nLeft, lfV []) :: r1)) (stN pB 1) (QH [] xs qs j) = some (.brk, FQ r sv t ((nLeft, lfV []) :: r1), QH [] xs qs (j + 1)) := s_if (c := true) (by exact p1 (n := n + 1) (tbl := []) b1) (fun j9 => rfl) (fun c => nomatch c)
      exact ⟨xs, j + 1, _, f_brk hb (x_cons x0 (x_brk x1)), rfl, hs, hr⟩
    | cons x0 tb =>
      obtain ⟨⟨y, hy⟩, hd, hs'⟩ := hJ.go _ hs (List.cons_ne_nil _ _)
      obtain ⟨xs', tl', w1, w2, w3, w4⟩ := turn_ok' (n := n) (r := r) (sv := sv) (t := t) (tl := tl) (j := j) b1 (Nat.le_trans b2 (by decide)) (Nat.le_trans b3 (by decide)) (by omega) hr hy hd ht
      have es : stepQ r (x0 :: tb, l, qs) = turnQ r y (x0 :: tb, l, qs) := by unfold stepQ; rw [hy]
      rw [es] at hs'
      obtain ⟨xs'', j', loc', v1, v2, v3, v4⟩ := paired_go hJ m (t + 1) (turnQ r y (x0 :: tb, l, qs)) xs' (j + 1) (FQ r sv t tl') hs' w2 (by omega) (.inr ⟨t, tl', rfl, .inr w4⟩)
      have er : runQ r (m + 1) (x0 :: tb, l, qs) = runQ r m (turnQ r y (x0 :: tb, l, qs)) := by rw [← es]; rfl
      rw [er]
      exact ⟨xs'', j', loc', f_cons hb w1 v1, v2, v3, v4⟩
theorem allStr_ky {qs : List (Nat × Nat)} : allStr (qs.map prV) = some (qs.map kyS) := by
  have := allStr_st (ls := qs.map fun p => [97 + p.1, 97 + p.2])
  rw [List.map_map, List.map_map] at this
  exact this
theorem sort_prs {P : PrimT} {qs : List (Nat × Nat)} (h : qs.length < 64) (hk : ph[2]? = some (.list (qs.map prV))) : callBi P .sorted [.obj 2] ph = some (.lst ((sortedStrs (qs.map kyS)).map .str), ph) := by
  show (match seqOf ph (.obj 2) with | some xs => sortSeq xs ph | none => none) = _
  have : seqOf ph (.obj 2) = some (qs.map prV) := by unfold seqOf; dsimp only; rw [hk]
  rw [this]; dsimp only
  unfold sortSeq
  rw [Nat.blt_eq.mpr (by rw [List.length_map]; exact h)]; dsimp only
  rw [allStr_ky]
theorem paired_ok (hJ : JOk r J) {tbl : List Hd} {s0 : Nat} (hs0 : s0 < 6) (hs : IsS sv (sg s0 false)) (hT : ∀ x ∈ tbl, x.i < 6) (hl : tbl.length ≤ 6) (h0 : J (tbl, [s0], [])) :
    (E (n + 56)).c 317 [.hdr 0, RV r, sv] [PO.list (tbl.map hdrV)] = some (.lst ((sortedStrs ((runQ r 8 (tbl, [s0], [])).2.2.map kyS)).map .str), [PO.list ((runQ r 8 (tbl, [s0], [])).1.map hdrV)]) := by
  have x0 : (E (n + 55)).s dPaired.scope [(nTable, .hdr 0), (nRanks, RV r), (nStart, sv)] (stN dPaired.body 0) [PO.list (tbl.map hdrV)] = some (.next, FQ0 r sv, QH tbl [] [] 0) :=
    s_swap (e_tup (by rfl) (a_cons (by rfl) (a_cons (by rfl) a_nil))) (by rfl)
  have x1 : (E (n + 55)).s dPaired.scope (FQ0 r sv) (stN dPaired.body 1) (QH tbl [] [] 0) = some (.next, FQ0 r sv, QH tbl [pcV sv] [] 0) :=
    s_expr (e_meth (f := 62) (by rfl) (by rfl) (by rfl) (by rfl) (a_cons (by rfl) (a_cons (by rfl) a_nil)) (by exact push_q (n := n + 32) (by decide))) (by rfl)
  obtain ⟨xs', j', loc', w1, w2, w3, w4⟩ := paired_go (n := n + 2) (sv := sv) hJ 8 0 (tbl, [s0], []) [pcV sv] 0 (FQ0 r sv) h0 ⟨⟨hs0, sv, false, rfl, hs⟩, trivial⟩ (by show 1 + 3 * 8 ≤ 100; decide) (.inl rfl)
  have x2 : (E (n + 55)).s dPaired.scope (FQ0 r sv) WP (QH tbl [pcV sv] [] 0) = some (.next, loc', QH (runQ r 8 (tbl, [s0], [])).1 xs' (runQ r 8 (tbl, [s0], [])).2.2 j') :=
    s_for (src_plain (by rfl) (by rfl) (items_rng (k := 8) (by omega))) (by exact w1)
  obtain ⟨b1, b2, b3⟩ := hJ.bd _ w3
  refine c_ret (d := dPaired) rfl rfl (x_cons x0 (x_cons x1 (x_cons x2 (x_one (s_ret (e_bi (by rfl) (by rfl) (a_cons (v := .obj 2) (ph1 := QH (runQ r 8 (tbl, [s0], [])).1 xs' (runQ r 8 (tbl, [s0], [])).2.2 j') ?_ a_nil) (sort_prs (by omega) rfl))))))) ?_
  · show eName tT dPaired.scope loc' nPairs _ = _
    unfold eName; rw [w2]
  · refine fin_ok (ph := [PO.list ((runQ r 8 (tbl, [s0], [])).1.map hdrV)]) ?_ ?_ (fun j9 e => nomatch e)
    · unfold PhOk
      show (belowL _ _ && true) = true
      rw [below_hdrs]; rfl
    · show belowL _ _ = true
      exact belowL_all fun v m => by
        obtain ⟨x, _, rfl⟩ := List.mem_map.mp m
        rfl
end
end Mine.Internal.Pl
end
section
open PySem PySem.W PyProof.Rows
namespace Mine.Internal.Pl
set_option maxRecDepth 100000
set_option maxHeartbeats 2000000
variable {n : Nat} {ph : List PO}
theorem s_aug {T : Top} {P : PrimT} {sc : Scope} {loc : Loc} {ph1 ph2 : List PO} {x p op v q old y z} (h0 : nameP T sc loc x = some old) (h1 : (ev T P n).e sc loc v ph = some (y, ph1)) (h2 : storable sc x = true) (h3 : augP op old y ph1 = some (z, ph2)) :
    (ev T P (n + 1)).s sc loc (.AugAssign (.Name x p) op v q) ph = some (.next, setL x z loc, ph2) := by
  show sAug _ T sc loc (.Name x p) op v ph = _
  unfold sAug; dsimp only [nameOf_N]; rw [h0]; dsimp only; rw [h1]; dsimp only; rw [h2]; dsimp only; rw [h3]
theorem items_rng1 {k : Nat} (h : k ≤ 1000) : itemsOf (.rng 1 (k : Int) 1) ph = some (idx 1 (k - 1), none) := by
  have r : rngItems 1 (k : Int) 1 = idx 1 (k - 1) := by
    unfold rngItems idx
    have : (Builtin.Range.rangeSize 1 (k : Int) 1).toNat = k - 1 := by
      unfold Builtin.Range.rangeSize
      simp
      omega
    rw [this, List.range_eq_range', ← List.map_add_range' (a := 1) (s := 0), List.map_map]
    refine List.map_congr_left fun i j9 => ?_
    show PV.int _ = PV.int _
    congr 1; simp
  have e : itemsF (.rng 1 (k : Int) 1) = some (idx 1 (k - 1)) := by
    show (match smallJ 1 && smallJ (k : Int) && (1 : Int) == 1 with | true => some (rngItems 1 (k : Int) 1) | false => none) = _
    rw [show smallJ (k : Int) = true from by unfold smallJ; simp; omega, r]
    rfl
  unfold itemsOf; rw [e]
theorem slice_mid {u : PV} {l : List Nat} {i k : Nat} (hu : IsS u l) (h : l.length ≤ 1000) (hi : i ≤ k) (hk : k ≤ l.length) : sliceP u (some (i : Int)) (some (k : Int)) ph = some (.str (st ((l.drop i).take (k - i)))) := by
  have e : sliceP (.str (st l)) (some (i : Int)) (some (k : Int)) ph = some (.str (st ((l.drop i).take (k - i)))) := by
    show (match Nat.ble l.length 1000 with | true => some (PV.str (Txt.slice (st l) (some (i : Int)) (some (k : Int)))) | false => none) = _
    rw [Nat.ble_eq.mpr h]
    dsimp only
    rw [show Txt.slice (st l) (some (i : Int)) (some (k : Int)) = _ from StrLaws.sliceText_plain (x := st l) (i := i) (j := k) ⟨by omega, by omega, by simpa using hk⟩]
    simp only [List.toList_toArray, Int.toNat_natCast]
    rw [show ((k : Int) - (i : Int)).toNat = k - i by omega]
  rcases hu with rfl | rfl
  · exact e
  · exact e
noncomputable abbrev wyV (w : List (List Nat)) : PV := .lst (w.map fun l => .str (st l))
noncomputable def rest (l : List Nat) (p : Nat) : List Nat := (l.drop 1).take (p - 1) ++ l.drop (p + 1)
noncomputable def wayL : Nat → List Nat → List (List (List Nat))
  | 0, _ => [[]]
  | k + 1, l => match l with
    | [] => [[]]
    | c :: _ => (List.range' 1 (l.length - 1)).flatMap fun p => (wayL k (rest l p)).map fun w => [c, l.getD p 0] :: w
theorem rest_len {l : List Nat} {p : Nat} (h1 : 1 ≤ p) (h2 : p < l.length) : (rest l p).length + 2 = l.length := by
  unfold rest
  rw [List.length_append, List.length_take, List.length_drop, List.length_drop, Nat.min_eq_left (Nat.sub_le_sub_right (Nat.le_of_lt h2) 1)]
  omega
theorem flat_le {α β : Type} {f : α → List β} {b : Nat} : ∀ {xs : List α}, (∀ x ∈ xs, (f x).length ≤ b) → (xs.flatMap f).length ≤ xs.length * b
  | [], _ => by simp
  | x :: xs, h => by
    rw [List.flatMap_cons, List.length_append, List.length_cons, Nat.succ_mul]
    have h1 := h x (by simp)
    have h2 := flat_le (f := f) (xs := xs) fun y m => h y (by simp [m])
    omega
noncomputable def capW : Nat → Nat
  | 0 => 1
  | k + 1 => (2 * k + 1) * capW k
theorem capW_pos : ∀ k, 1 ≤ capW k
  | 0 => Nat.le_refl _
  | k + 1 => Nat.mul_pos (by omega) (capW_pos k)
theorem wayL_len : ∀ {k : Nat} {l : List Nat}, l.length ≤ 2 * k → (wayL k l).length ≤ capW k
  | 0, l, _ => Nat.le_refl _
  | k + 1, [], _ => capW_pos (k + 1)
  | k + 1, c :: l, h => by
    refine Nat.le_trans (flat_le (b := capW k) fun p m => ?_) ?_
    · rw [List.length_map]
      have := List.mem_range'_1.mp m
      have e := rest_len (l := c :: l) (p := p) this.1 (by simp at this ⊢; omega)
      exact wayL_len (by omega)
    · rw [List.length_range']
      exact Nat.mul_le_mul_right _ (by simp at h ⊢; omega)
theorem below_ways {k : Nat} (ws : List (List (List Nat))) : belowL k (ws.map wyV) = true := belowL_all fun v m => by
  obtain ⟨x, _, rfl⟩ := List.mem_map.mp m
  show belowL k _ = true
  exact belowL_all fun v m => by
    obtain ⟨y, _, rfl⟩ := List.mem_map.mp m
    rfl
theorem fin_new {xs : List PV} (hp : PhOk ph) (hx : ∀ k, belowL k xs = true) : finish ph.length (.obj ph.length) (ph ++ [PO.list xs]) = some (.lst xs, ph) := by
  unfold finish
  simp only [List.take_left']
  rw [show ph.all (PO.lt ph.length) = true from hp]
  show finishO ph.length ph.length ph (ph ++ [PO.list xs]) = _
  unfold finishO
  rw [show Nat.blt ph.length ph.length = false by rw [Bool.eq_false_iff]; intro h; exact Nat.lt_irrefl _ (Nat.blt_eq.mp h)]
  dsimp only
  rw [show listAt (ph ++ [PO.list xs]) ph.length = some xs by unfold listAt; simp]
  dsimp only
  rw [hx]
theorem fin_nest (hp : PhOk ph) : finish ph.length (.lst [.obj ph.length]) (ph ++ [PO.list []]) = some (.lst [.lst []], ph) := by
  unfold finish
  simp only [List.take_left']
  rw [show ph.all (PO.lt ph.length) = true from hp]
  have hb : Nat.blt ph.length ph.length = false := by rw [Bool.eq_false_iff]; intro h; exact Nat.lt_irrefl _ (Nat.blt_eq.mp h)
  have h1 : PV.lt ph.length (.lst [.obj ph.length]) = false := by
    show (match Nat.blt ph.length ph.length with | true => true | false => false) = false
    rw [hb]
  have h2 : PV.lt ph.length (.obj ph.length) = false := hb
  have h3 : listAt (ph ++ [PO.list []]) ph.length = some [] := by unfold listAt; simp
  show finishV ph.length (.lst [.obj ph.length]) ph (ph ++ [PO.list []]) = _
  unfold finishV
  rw [h1]; dsimp only
  unfold frz
  rw [h1]; dsimp only [asObj, asLst]
  unfold mapO
  unfold frz
  rw [h2]; dsimp only [asObj]
  rw [h3]; rfl
end Mine.Internal.Pl
end
section
open PySem PySem.W PyProof.Rows
namespace Mine.Internal.Pl
set_option maxRecDepth 100000
set_option maxHeartbeats 2000000
variable {n : Nat} {ph : List PO}
noncomputable abbrev nLetters : Str := ⟨#[108, 101, 116, 116, 101, 114, 115]⟩
noncomputable abbrev nWays : Str := ⟨#[119, 97, 121, 115]⟩
noncomputable abbrev nPlace : Str := ⟨#[112, 108, 97, 99, 101]⟩
noncomputable abbrev nRest : Str := ⟨#[114, 101, 115, 116]⟩
noncomputable abbrev nWay : Str := ⟨#[119, 97, 121]⟩
noncomputable abbrev WW : Stmt := stN dWays.body 2
theorem wayL_in : ∀ {k : Nat} {l : List Nat}, ∀ w ∈ wayL k l, w.length ≤ k
  | 0, l, w, h => by rw [List.mem_singleton.mp h]; exact Nat.le_refl _
  | k + 1, [], w, h => by rw [List.mem_singleton.mp h]; exact Nat.zero_le _
  | k + 1, c :: l, w, h => by
    obtain ⟨p, _, h⟩ := List.mem_flatMap.mp h
    obtain ⟨w', hw, rfl⟩ := List.mem_map.mp h
    exact Nat.succ_le_succ (wayL_in w' hw)
theorem add_st {a b : List Nat} (h : a.length + b.length ≤ 1000) : binP .Add (.str (st a)) (.str (st b)) ph = some (.str (st (a ++ b))) := by
  show (match Nat.ble (a.length + b.length) 1000 with | true => some (PV.str ⟨(a ++ b).toArray⟩) | false => none) = _
  rw [Nat.ble_eq.mpr h]
theorem e_list1 {T : Top} {P : PrimT} {sc : Scope} {loc : Loc} {ph1 : List PO} {e p v} (h : (ev T P n).e sc loc e ph = some (v, ph1)) (hs : isStar e = false) : (ev T P (n + 1)).e sc loc (.List [e] p) ph = some (.lst [v], ph1) := by
  show (match manyE [e] with | true => none | false => match argsP (ev T P n) sc loc [e] ph with | some (vs, ph) => some (PV.lst vs, ph) | none => none) = _
  have : manyE [e] = false := by
    show ((isStar e || false) || false) = false
    rw [hs]; rfl
  rw [this]; dsimp only
  rw [a_cons h a_nil]
noncomputable abbrev wayV (c x : Nat) (w : List (List Nat)) : PV := wyV ([c, x] :: w)
section
variable {u : PV} {l : List Nat} {c p k : Nat} {tl : Loc}
theorem rest_e (hu : IsS u l) (hl : l.length ≤ 40) (h1 : 1 ≤ p) (h2 : p < l.length) : (E (n + 14)).e dWays.scope ([(nLetters, u), (nWays, .obj k), (nPlace, .int (p : Int))] ++ tl) (swapB (stN (wB WW) 0)) ph = some (.str (st (rest l p)), ph) :=
  e_bin (e_slice (by rfl) (by rfl) (by rfl) (by rfl) (by rfl) (by exact slice_mid (i := 1) hu (by omega) h1 (by omega))) (e_slice (by rfl) (by rfl) (by rfl) (by rfl) (by rfl) (by exact hu.from (k := p + 1) (by omega) (by omega))) (by exact add_st (by simp; omega))
noncomputable def lcW : Expr := wV (stN (wB WW) 1)
noncomputable def scW : Scope := scOf lcW
theorem ways_elt {x : Nat} {w : List (List Nat)} (hu : IsS u l) (hc : l[0]? = some c) (hx : l[p]? = some x) (hp : p < 1000) (hw : w.length ≤ 900) : (E (n + 12)).e scW [(nLetters, u), (nPlace, .int (p : Int)), (nWay, wyV w)] (sub lcW 0) ph = some (wayV c x w, ph) := by
  refine e_bin (x := .lst [.str (st [c, x])]) (ph1 := ph) (e_list1 (e_bin (e_item (by rfl) (by rfl) (by rfl) (hu.nat (k := 0) hc (by omega))) (e_item (by rfl) (by rfl) (by rfl) (hu.nat hx hp)) (by rfl)) (by rfl)) (by rfl) ?_
  show (match Nat.ble (1 + (w.map fun l => PV.str (st l)).length) 1000 with | true => some (PV.lst ([PV.str (st [c, x])] ++ w.map fun l => PV.str (st l))) | false => none) = _
  rw [Nat.ble_eq.mpr (by rw [List.length_map]; omega)]; rfl
noncomputable def WaysAt (N k : Nat) : Prop := ∀ (u : PV) (l : List Nat) (ph : List PO), IsS u l → l.length ≤ 2 * k → PhOk ph → (E N).c 322 [u] ph = some (.lst ((wayL k l).map wyV), ph)
noncomputable abbrev acW (k : Nat) (l : List Nat) (c m : Nat) : List (List (List Nat)) := (List.range' 1 m).flatMap fun p => (wayL k (rest l p)).map fun w => [c, l.getD p 0] :: w
theorem ways_turn {k0 m : Nat} {ph0 : List PO} (hk : k0 = ph0.length) (W : WaysAt (n + 13) k) (hk3 : k ≤ 5) (hcap : capW (k + 1) ≤ 900) (hu : IsS u l) (hc : l[0]? = some c) (hl : l.length ≤ 2 * (k + 1)) (h1 : m + 1 < l.length) (hp : PhOk ph0) (ht : tl = [] ∨ ∃ a, tl = [(nRest, a)]) :
    execsP (E (n + 16)) dWays.scope (wB WW) ([(nLetters, u), (nWays, .obj k0), (nPlace, .int ((m + 1 : Nat) : Int))] ++ tl) (ph0 ++ [PO.list ((acW k l c m).map wyV)]) = some (.next, [(nLetters, u), (nWays, .obj k0), (nPlace, .int ((m + 1 : Nat) : Int)), (nRest, .str (st (rest l (m + 1))))], ph0 ++ [PO.list ((acW k l c (m + 1)).map wyV)]) := by
  have hr := rest_len (l := l) (p := m + 1) (by omega) h1
  have hwl := wayL_len (k := k) (l := rest l (m + 1)) (by omega)
  have hx : l[m + 1]? = some (l.getD (m + 1) 0) := by rw [List.getD_eq_getElem?_getD, List.getElem?_eq_getElem h1]; rfl
  have hacc : (acW k l c m).length ≤ m * capW k := by
    have := flat_le (f := fun p => (wayL k (rest l p)).map fun w => [c, l.getD p 0] :: w) (b := capW k) (xs := List.range' 1 m) fun p hp' => by
      rw [List.length_map]
      have h3 := List.mem_range'_1.mp hp'
      have h4 := rest_len (l := l) (p := p) h3.1 (by omega)
      exact wayL_len (by omega)
    rw [List.length_range'] at this; exact this
  have hcap2 : (m + 1) * capW k ≤ 900 := Nat.le_trans (Nat.mul_le_mul_right _ (by omega)) hcap
  have hpo : PhOk (ph0 ++ [PO.list ((acW k l c m).map wyV)]) := by
    unfold PhOk at *
    rw [List.all_append, List.all_eq_true.mpr fun x hx => ?_]
    · show (belowL _ _ && true) = true
      rw [below_ways]; rfl
    · exact PO.lt_mono (by simp) x (List.all_eq_true.mp hp x hx)
  have s0 : ∀ {tl : Loc}, (tl = [] ∨ ∃ a, tl = [(nRest, a)]) → (E (n + 16)).s dWays.scope ([(nLetters, u), (nWays, .obj k0), (nPlace, .int ((m + 1 : Nat) : Int))] ++ tl) (stN (wB WW) 0) (ph0 ++ [PO.list ((acW k l c m).map wyV)]) = some (.next, [(nLetters, u), (nWays, .obj k0), (nPlace, .int ((m + 1 : Nat) : Int)), (nRest, .str (st (rest l (m + 1))))], ph0 ++ [PO.list ((acW k l c m).map wyV)]) := by
    rintro tl (rfl | ⟨a, rfl⟩)
    · exact s_name (by exact rest_e (n := n + 1) (tl := []) hu (by omega) (by omega) h1) (by rfl)
    · exact s_name (by exact rest_e (n := n + 1) (tl := [(nRest, a)]) hu (by omega) (by omega) h1) (by rfl)
  refine x_cons (s0 ht) (x_one (s_aug (ph1 := ph0 ++ [PO.list ((acW k l c m).map wyV)]) (old := .obj k0) (y := .lst (((wayL k (rest l (m + 1))).map fun w => [c, l.getD (m + 1) 0] :: w).map wyV)) (z := .obj k0) (by rfl) ?_ (by rfl) ?_))
  · rw [List.map_map, show (wayL k (rest l (m + 1))).map (wyV ∘ fun w => [c, l.getD (m + 1) 0] :: w) = ((wayL k (rest l (m + 1))).filter fun j9 => true).map (wayV c (l.getD (m + 1) 0)) by rw [filt_true]; rfl]
    refine lc_filterA wyV (by rfl) (src_plain (by rfl) (e_call (f := 322) (by rfl) (by rfl) (a_cons (by rfl) a_nil) (by exact W (.str (st (rest l (m + 1)))) (rest l (m + 1)) _ .str (by omega) hpo)) (by rfl)) (by rfl) (by have := capW_pos k; have : capW k ≤ (m + 1) * capW k := Nat.le_mul_of_pos_left _ (by omega); omega) (fun loc => loc = [(nLetters, u), (nPlace, .int ((m + 1 : Nat) : Int))] ∨ ∃ a, loc = [(nLetters, u), (nPlace, .int ((m + 1 : Nat) : Int)), (nWay, a)]) (fun j9 => true) (wayV c (l.getD (m + 1) 0)) (.inl rfl) ?_
    intro w hw loc hF
    refine ⟨[(nLetters, u), (nPlace, .int ((m + 1 : Nat) : Int)), (nWay, wyV w)], ?_, .inr ⟨_, rfl⟩, by rfl, fun j9 => by exact ways_elt (n := n + 2) hu hc hx (by omega) (by have := wayL_in w hw; omega)⟩
    rcases hF with rfl | ⟨a, rfl⟩ <;> rfl
  · unfold augP; dsimp only [asObj]
    unfold augL
    have e : listAt (ph0 ++ [PO.list ((acW k l c m).map wyV)]) k0 = some ((acW k l c m).map wyV) := by unfold listAt; rw [hk]; simp
    rw [e]; dsimp only [asLst]
    have e2 : (isAdd .Add && Nat.ble (((acW k l c m).map wyV).length + (((wayL k (rest l (m + 1))).map fun w => [c, l.getD (m + 1) 0] :: w).map wyV).length) 1000) = true := by
      rw [Bool.and_eq_true, Nat.ble_eq]
      refine ⟨rfl, ?_⟩
      rw [List.length_map, List.length_map, List.length_map]
      rw [Nat.succ_mul] at hcap2
      omega
    rw [e2]; dsimp only
    have e3 : acW k l c (m + 1) = acW k l c m ++ (wayL k (rest l (m + 1))).map fun w => [c, l.getD (m + 1) 0] :: w := by
      show (List.range' 1 (m + 1)).flatMap _ = _
      rw [List.range'_1_concat, List.flatMap_append, Nat.add_comm 1 m, List.flatMap_cons, List.flatMap_nil, List.append_nil]
    rw [e3, List.map_append, hk]; simp
theorem ways_go {k0 : Nat} {ph0 : List PO} (hk : k0 = ph0.length) (W : WaysAt (n + 13) k) (hk3 : k ≤ 5) (hcap : capW (k + 1) ≤ 900) (hu : IsS u l) (hc : l[0]? = some c) (hl : l.length ≤ 2 * (k + 1)) (hp : PhOk ph0) : ∀ (q m : Nat) (loc : Loc), m + q + 1 = l.length → (loc = [(nLetters, u), (nWays, .obj k0)] ∨ ∃ p a, loc = [(nLetters, u), (nWays, .obj k0), (nPlace, p), (nRest, a)]) →
    ∃ loc', forGo (bindT dWays.scope (wF WW)) (fun loc ph => execsP (E (n + 16)) dWays.scope (wB WW) loc ph) (idx (1 + m) q) loc (ph0 ++ [PO.list ((acW k l c m).map wyV)]) = some (.next, loc', ph0 ++ [PO.list ((acW k l c (l.length - 1)).map wyV)]) ∧ nameP tT dWays.scope loc' nWays = some (.obj k0)
  | 0, m, loc, hm, hl' => ⟨loc, by rw [show l.length - 1 = m by omega]; rfl, by rcases hl' with rfl | ⟨p, a, rfl⟩ <;> rfl⟩
  | q + 1, m, loc, hm, hl' => by
    obtain ⟨tl, hb, ht⟩ : ∃ tl, bindT dWays.scope (wF WW) (.int ((1 + m : Nat) : Int)) loc = some ([(nLetters, u), (nWays, .obj k0), (nPlace, .int ((m + 1 : Nat) : Int))] ++ tl) ∧ (tl = [] ∨ ∃ a, tl = [(nRest, a)]) := by
      rw [Nat.add_comm 1 m]
      rcases hl' with rfl | ⟨p, a, rfl⟩
      · exact ⟨[], rfl, .inl rfl⟩
      · exact ⟨[(nRest, a)], rfl, .inr ⟨a, rfl⟩⟩
    have h1 := ways_turn (n := n) (tl := tl) hk W hk3 hcap hu hc hl (m := m) (by omega) hp ht
    obtain ⟨loc', w1, w2⟩ := ways_go hk W hk3 hcap hu hc hl hp q (m + 1) _ (by omega) (.inr ⟨_, _, rfl⟩)
    exact ⟨loc', f_cons hb h1 w1, w2⟩
theorem ways_step {k : Nat} (W : WaysAt (n + 13) k) (hk3 : k ≤ 5) (hcap : capW (k + 1) ≤ 900) : WaysAt (n + 18) (k + 1) := by
  intro u l ph hu hl hp
  have ht : (E (n + 16)).t dWays.scope [(nLetters, u)] (wT (stN dWays.body 0)) ph = some (natsEq l [], ph) := t_cmp (by rfl) (by rfl) (IsS.eq hu .strg)
  cases l with
  | nil =>
    refine c_ret (d := dWays) (v := .lst [.obj ph.length]) (ph' := ph ++ [PO.list []]) (loc' := [(nLetters, u)]) rfl rfl (x_ret (s_if ht (fun j9 => x_one (s_ret (e_list1 (by rfl) (by rfl)))) (fun c => nomatch c))) (fin_nest hp)
  | cons c l =>
    have hr : callBi P2 .len [u] (ph ++ [PO.list []]) = some (.int ((c :: l).length : Nat), ph ++ [PO.list []]) := len_is hu (by omega)
    obtain ⟨loc', w1, w2⟩ := ways_go (n := n) (ph0 := ph) (k0 := ph.length) (c := c) rfl W hk3 hcap hu rfl hl hp l.length 0 [(nLetters, u), (nWays, .obj ph.length)] (by simp) (.inl rfl)
    refine c_ret (d := dWays) (v := .obj ph.length) (ph' := ph ++ [PO.list ((acW k (c :: l) c l.length).map wyV)]) (loc' := loc') rfl rfl (x_cons (s_if ht (fun c => nomatch c) (fun j9 => rfl)) (x_cons (s_name (by rfl) (by rfl)) (x_cons (s_for (src_plain (by rfl) (e_bi (by rfl) (by rfl) (a_cons (by rfl) (a_cons (e_bi (by rfl) (by rfl) (a_cons (by rfl) a_nil) (by exact hr)) a_nil)) (by rfl)) (items_rng1 (by omega))) (by exact w1)) (x_one (s_ret ?_))))) ?_
    · show eName tT dWays.scope loc' nWays _ = _
      unfold eName; rw [w2]; rfl
    · exact fin_new hp fun k => below_ways _
theorem ways_zero : WaysAt (n + 18) 0 := by
  intro u l ph hu hl hp
  have : l = [] := List.length_eq_zero_iff.mp (by omega)
  subst this
  have ht : (E (n + 16)).t dWays.scope [(nLetters, u)] (wT (stN dWays.body 0)) ph = some (natsEq [] [], ph) := t_cmp (by rfl) (by rfl) (IsS.eq hu .strg)
  exact c_ret (d := dWays) (v := .lst [.obj ph.length]) (ph' := ph ++ [PO.list []]) (loc' := [(nLetters, u)]) rfl rfl (x_ret (s_if ht (fun j9 => x_one (s_ret (e_list1 (by rfl) (by rfl)))) (fun c => nomatch c))) (fin_nest hp)
end
noncomputable abbrev abc6 : List Nat := [97, 98, 99, 100, 101, 102]
theorem ways_ok (hp : PhOk ph) : (E (n + 33)).c 322 [.strg (st abc6)] ph = some (.lst ((wayL 3 abc6).map wyV), ph) :=
  ways_step (n := n + 15) (ways_step (n := n + 10) (ways_step (n := n + 5) (ways_zero (n := n)) (by decide) (by decide)) (by decide) (by decide)) (by decide) (by decide) _ _ _ .strg (by decide) hp
end Mine.Internal.Pl
end
section
open PySem PySem.W PyProof.Rows
namespace Mine.Internal.Pl
set_option maxRecDepth 100000
set_option maxHeartbeats 2000000
variable {n : Nat} {ph : List PO}
theorem strIn_one {l : List Nat} {c : Nat} : strIn (st l) (st [c]) = l.contains c := by
  have h : strIn (st l) (st [c]) = decide (c ∈ l) := StrLaws.found_one (st l) c
  rw [h, Bool.eq_iff_iff]
  simp
theorem inPair {p : Nat × Nat} {i : Nat} : strIn (st [97 + p.1, 97 + p.2]) (st [97 + i]) = (p.1 == i || p.2 == i) := by
  rw [strIn_one, Bool.eq_iff_iff]
  simp only [List.contains_cons, List.contains_nil, Bool.or_false, Bool.or_eq_true, beq_iff_eq, Nat.add_left_cancel_iff]
  exact ⟨Or.imp Eq.symm Eq.symm, Or.imp Eq.symm Eq.symm⟩
noncomputable def tch (p q : Nat × Nat) : Bool := (q.1 == p.1 || q.2 == p.1) || (q.1 == p.2 || q.2 == p.2)
noncomputable def heldL (r : Nat → Nat → Int) (w : List (Nat × Nat)) (p : Nat × Nat) : List Int := (w.filter (tch p)).map fun q => r q.1 q.2
noncomputable def lessB (r : Nat → Nat → Int) (w : List (Nat × Nat)) (p : Nat × Nat) : Bool := decide (r p.1 p.2 < minL (heldL r w p))
noncomputable def steadyB (r : Nat → Nat → Int) (w : List (Nat × Nat)) : Bool := PRS.all fun p => !lessB r w p
noncomputable abbrev wpV (w : List (Nat × Nat)) : PV := .lst (w.map prV)
noncomputable abbrev nPair : Str := ⟨#[112, 97, 105, 114]⟩
noncomputable abbrev nHeld : Str := ⟨#[104, 101, 108, 100]⟩
noncomputable abbrev nMates : Str := ⟨#[109, 97, 116, 101, 115]⟩
noncomputable abbrev WS : Stmt := stN dSteady.body 0
noncomputable abbrev sB : List Stmt := wB WS
section
variable {r : Nat → Nat → Int} {w : List (Nat × Nat)} {p : Nat × Nat} {tl : Loc}
noncomputable def lcH : Expr := wV (stN sB 0)
noncomputable def scH : Scope := scOf lcH
noncomputable abbrev FS (r : Nat → Nat → Int) (w : List (Nat × Nat)) (p : Nat × Nat) (tl : Loc) : Loc := [(nWay, wpV w), (nRanks, RV r), (nPair, prV p)] ++ tl
theorem item_pr (hp : p ∈ PRS) : itemP (RV r) (prV p) ph = some (.int (r p.1 p.2)) := look_ent (r := r) p hp
theorem in_pr {q : Nat × Nat} {i : Nat} {u : PV} (hu : IsS u [97 + i]) : cmpP .In u (prV q) ph = some (q.1 == i || q.2 == i) := by
  rw [← inPair]
  rcases hu with rfl | rfl <;> rfl
theorem held_test {q : Nat × Nat} {rest : Loc} : testsP (E (n + 45)) scH [(nPair, prV p), (nRanks, RV r), (nMates, prV q)] [sub lcH 2] ph = some (tch p q, ph) := by
  refine ts_one (t_bool ?_)
  have h1 : (E (n + 44)).t scH [(nPair, prV p), (nRanks, RV r), (nMates, prV q)] (sub (sub lcH 2) 0) ph = some ((q.1 == p.1 || q.2 == p.1), ph) :=
    t_cmp (e_item (by rfl) (by rfl) (by rfl) (IsS.str.nat (k := 0) (by rfl) (by omega))) (by rfl) (in_pr .str)
  have h2 : (E (n + 44)).t scH [(nPair, prV p), (nRanks, RV r), (nMates, prV q)] (sub (sub lcH 2) 1) ph = some ((q.1 == p.2 || q.2 == p.2), ph) :=
    t_cmp (e_item (by rfl) (by rfl) (by rfl) (IsS.str.nat (k := 1) (by rfl) (by omega))) (by rfl) (in_pr .str)
  unfold tch
  cases c1 : (q.1 == p.1 || q.2 == p.1) with
  | true => rw [c1] at h1; exact or_yes h1
  | false =>
    rw [c1] at h1
    refine or_go h1 ?_
    cases c2 : (q.1 == p.2 || q.2 == p.2) with
    | true => rw [c2] at h2; exact or_yes h2
    | false => rw [c2] at h2; exact or_go h2 rfl
theorem held_e (hw : ∀ q ∈ w, q ∈ PRS) (hl : w.length ≤ 900) : (E (n + 46)).e dSteady.scope (FS r w p tl) lcH ph = some (.lst ((heldL r w p).map .int), ph) := by
  rw [show (heldL r w p).map PV.int = (w.filter (tch p)).map fun q => PV.int (r q.1 q.2) by unfold heldL; rw [List.map_map]; rfl]
  refine lc_filterA prV (by rfl) (src_plain (by rfl) (by rfl) (by rfl)) (by rfl) (by omega) (fun loc => loc = [(nPair, prV p), (nRanks, RV r)] ∨ ∃ a, loc = [(nPair, prV p), (nRanks, RV r), (nMates, a)]) (tch p) (fun q => PV.int (r q.1 q.2)) (.inl rfl) ?_
  intro q hq loc hF
  refine ⟨[(nPair, prV p), (nRanks, RV r), (nMates, prV q)], ?_, .inr ⟨_, rfl⟩, by exact held_test (n := n) (rest := []), fun j9 => e_item (by rfl) (by rfl) (by rfl) (item_pr (hw q hq))⟩
  rcases hF with rfl | ⟨a, rfl⟩ <;> rfl
theorem steady_turn (hw : ∀ q ∈ w, q ∈ PRS) (hl : w.length ≤ 900) (hp : p ∈ PRS) (hne : heldL r w p ≠ []) (ht : tl = [] ∨ ∃ a, tl = [(nHeld, a)]) :
    execsP (E (n + 48)) dSteady.scope sB (FS r w p tl) ph = some (match lessB r w p with | true => .ret (.bool false) | false => .next, FS r w p [(nHeld, .lst ((heldL r w p).map .int))], ph) := by
  have s0 : (E (n + 48)).s dSteady.scope (FS r w p tl) (stN sB 0) ph = some (.next, FS r w p [(nHeld, .lst ((heldL r w p).map .int))], ph) := by
    rcases ht with rfl | ⟨a, rfl⟩
    · exact s_name (by exact held_e (n := n + 1) (tl := []) hw hl) (by rfl)
    · exact s_name (by exact held_e (n := n + 1) (tl := [(nHeld, a)]) hw hl) (by rfl)
  have hm : callBi P2 .min [.lst ((heldL r w p).map .int)] ph = some (.int (minL (heldL r w p)), ph) := by
    cases h : heldL r w p with
    | nil => exact absurd h hne
    | cons x l => exact min_ok
  have t1 : (E (n + 47)).t dSteady.scope (FS r w p [(nHeld, .lst ((heldL r w p).map .int))]) (wT (stN sB 1)) ph = some (lessB r w p, ph) :=
    t_cmp (e_item (by rfl) (by rfl) (by rfl) (item_pr hp)) (e_bi (by rfl) (by rfl) (a_cons (by rfl) a_nil) (by exact hm)) (by rfl)
  refine x_cons s0 (x_one (s_if t1 (fun c => ?_) (fun c => ?_)))
  · rw [c]; rfl
  · rw [c]; rfl
theorem steady_go (hw : ∀ q ∈ w, q ∈ PRS) (hl : w.length ≤ 900) : ∀ (ps : List (Nat × Nat)) (loc : Loc), (∀ p ∈ ps, p ∈ PRS ∧ heldL r w p ≠ []) → (loc = [(nWay, wpV w), (nRanks, RV r)] ∨ ∃ p a, loc = FS r w p [(nHeld, a)]) →
    ∃ loc', forGo (bindT dSteady.scope (wF WS)) (fun loc ph => execsP (E (n + 48)) dSteady.scope sB loc ph) (ps.map prV) loc ph = some (match ps.all fun p => !lessB r w p with | true => .next | false => .ret (.bool false), loc', ph)
  | [], loc, _, _ => ⟨loc, rfl⟩
  | p :: ps, loc, h, hl' => by
    obtain ⟨hp, hne⟩ := h p (by simp)
    obtain ⟨tl, hb, ht⟩ : ∃ tl, bindT dSteady.scope (wF WS) (prV p) loc = some (FS r w p tl) ∧ (tl = [] ∨ ∃ a, tl = [(nHeld, a)]) := by
      rcases hl' with rfl | ⟨p', a, rfl⟩
      · exact ⟨[], rfl, .inl rfl⟩
      · exact ⟨[(nHeld, a)], rfl, .inr ⟨a, rfl⟩⟩
    have h1 := steady_turn (n := n) (ph := ph) (r := r) (tl := tl) hw hl hp hne ht
    rw [List.all_cons]
    cases c : lessB r w p with
    | true =>
      rw [c] at h1
      exact ⟨_, f_ret hb h1⟩
    | false =>
      rw [c] at h1
      obtain ⟨loc', w1⟩ := steady_go hw hl ps (FS r w p [(nHeld, .lst ((heldL r w p).map .int))]) (fun q m => h q (by simp [m])) (.inr ⟨_, _, rfl⟩)
      exact ⟨loc', f_cons hb h1 w1⟩
theorem steady_ok (hp : PhOk ph) (hw : ∀ q ∈ w, q ∈ PRS) (hl : w.length ≤ 900) (hne : ∀ p ∈ PRS, heldL r w p ≠ []) : (E (n + 50)).c 327 [wpV w, RV r] ph = some (.bool (steadyB r w), ph) := by
  obtain ⟨loc', w1⟩ := steady_go (n := n) (ph := ph) (r := r) hw hl PRS [(nWay, wpV w), (nRanks, RV r)] (fun p m => ⟨m, hne p m⟩) (.inl rfl)
  unfold steadyB
  have s0 : ∀ {o}, forGo (bindT dSteady.scope (wF WS)) (fun loc ph => execsP (E (n + 48)) dSteady.scope sB loc ph) (PRS.map prV) [(nWay, wpV w), (nRanks, RV r)] ph = o → (E (n + 49)).s dSteady.scope [(nWay, wpV w), (nRanks, RV r)] WS ph = o := fun h => s_for (src_plain (by rfl) (by rfl) (by rfl)) (by exact h)
  cases c : PRS.all fun p => !lessB r w p with
  | true =>
    rw [c] at w1
    exact c_ret (d := dSteady) rfl rfl (x_cons (s0 w1) (x_one (s_ret (by rfl)))) (fin_bool hp)
  | false =>
    rw [c] at w1
    exact c_ret (d := dSteady) rfl rfl (x_ret (s0 w1)) (fin_bool hp)
end
end Mine.Internal.Pl
end
section
open PySem PySem.W PyProof.Rows
namespace Mine.Internal.Pl
set_option maxRecDepth 100000
set_option maxHeartbeats 2000000
variable {n : Nat} {ph : List PO}
theorem range_pick {α : Type} (xs : List α) : ∀ m, m ≤ xs.length → (List.range m).filterMap (xs[·]?) = xs.take m
  | 0, _ => by simp
  | m + 1, h => by
    rw [List.range_succ, List.filterMap_append, range_pick xs m (by omega), List.take_add_one]
    simp
    have : xs[m]? = some xs[m] := List.getElem?_eq_getElem (by omega)
    simp [this]
theorem pick_upto {α : Type} (xs : List α) (k : Nat) : slicePickP xs none (some (k : Int)) = xs.take k := by
  unfold slicePickP
  rw [kms_bounds]
  have e1 : kms_lo none xs.length = 0 := rfl
  have e2 : kms_hi (some (k : Int)) xs.length = min k xs.length := by
    unfold kms_hi; dsimp only; rw [if_neg (by omega)]; simp
  rw [e1, e2]
  have e3 : sliceRange ((0 : Nat) : Int) ((min k xs.length : Nat) : Int) 1 = List.range (min k xs.length) := by
    unfold sliceRange
    have hc : ((if (1 : Int) > 0 then (if ((0 : Nat) : Int) < ((min k xs.length : Nat) : Int) then (((min k xs.length : Nat) : Int) - ((0 : Nat) : Int) + 1 - 1) / 1 else 0) else (if ((0 : Nat) : Int) > ((min k xs.length : Nat) : Int) then (((0 : Nat) : Int) - ((min k xs.length : Nat) : Int) - 1 - 1) / (-1) else 0)) : Int).toNat = min k xs.length := by
      rw [if_pos (by decide)]
      split <;> omega
    show (List.range (_ : Int).toNat).map (fun k : Nat => (((0 : Nat) : Int) + 1 * (k : Int)).toNat) = _
    rw [hc]
    have : (fun k : Nat => (((0 : Nat) : Int) + 1 * (k : Int)).toNat) = id := by funext k; simp
    rw [this, List.map_id]
  show (sliceRange ((0 : Nat) : Int) ((min k xs.length : Nat) : Int) 1).filterMap (xs[·]?) = _
  rw [e3, range_pick xs _ (by omega)]
  rw [List.take_eq_take_iff]; omega
theorem slice_lst {xs : List PV} {k : Nat} (h : xs.length ≤ 1000) : sliceP (.lst xs) none (some (k : Int)) ph = some (.lst (xs.take k)) := by
  show (if xs.length ≤ 1000 then some (PV.lst (slicePickP xs none (some (k : Int)))) else none) = _
  rw [if_pos h, pick_upto]
noncomputable def numL (ns : List Int) : List Int := ((ns.take 6).map (fun x : Int => x.fmod (10 ^ 6)) ++ [7, 1, 23, 20, 40, 21]).take 6
theorem numL_len (ns : List Int) : (numL ns).length = 6 := by
  unfold numL; simp
theorem numL_small (ns : List Int) : ∀ x ∈ numL ns, x.natAbs < 1073741824 := by
  intro x hx
  rcases List.mem_append.mp (List.mem_of_mem_take hx) with h | h
  · obtain ⟨y, _, rfl⟩ := List.mem_map.mp h
    have h0 := Int.fmod_nonneg_of_pos y (b := 10 ^ 6) (by decide)
    have h1 := Int.fmod_lt_of_pos y (b := 10 ^ 6) (by decide)
    omega
  · have : ∀ x ∈ [7, 1, 23, 20, 40, 21], Int.natAbs x < 1073741824 := by decide
    exact this x h
noncomputable abbrev nScript : Str := ⟨#[115, 99, 114, 105, 112, 116]⟩
noncomputable abbrev nNumbers : Str := ⟨#[110, 117, 109, 98, 101, 114, 115]⟩
noncomputable abbrev nWords : Str := ⟨#[119, 111, 114, 100, 115]⟩
noncomputable abbrev nWord : Str := ⟨#[119, 111, 114, 100]⟩
noncomputable abbrev nCosts : Str := ⟨#[99, 111, 115, 116, 115]⟩
noncomputable abbrev nSteady : Str := ⟨#[115, 116, 101, 97, 100, 121]⟩
noncomputable abbrev nCell : Str := ⟨#[99, 101, 108, 108]⟩
noncomputable abbrev nuI (ns : List Int) (j : Nat) : Int := (numL ns).getD j 0
noncomputable def kOf (ns : List Int) (j : Nat) : Nat := ((nuI ns j).fmod 21).toNat
theorem kOf_lt (ns : List Int) (j : Nat) : kOf ns j < 21 := by
  unfold kOf
  have h0 : 0 ≤ (nuI ns j).fmod 21 := Int.fmod_nonneg_of_pos _ (by decide)
  have h1 : (nuI ns j).fmod 21 < 21 := Int.fmod_lt_of_pos _ (by decide)
  omega
theorem six {l : List Int} (h : l.length = 6) : l = [l.getD 0 0, l.getD 1 0, l.getD 2 0, l.getD 3 0, l.getD 4 0, l.getD 5 0] := by
  match l, h with
  | [a, b, c, d, e, f], _ => rfl
theorem s0 {ns : List Int} (h : ns.length ≤ 63) : (E (n + 60)).s dLaw.scope [(nScript, .lst (ns.map .int))] (stN dLaw.body 0) [] = some (.next, [(nScript, .lst (ns.map .int)), (nNumbers, .lst ((numL ns).map .int))], []) := by
  have hlc : ∀ k, (E (k + 10)).e dLaw.scope [(nScript, .lst (ns.map .int))] (sub (sub (swapB (stN dLaw.body 0)) 0) 0) [] = some (.lst (((ns.take 6).filter fun j9 => true).map fun x : Int => PV.int (x.fmod (10 ^ 6))), []) := by
    intro k
    refine lc_filterA PV.int (by rfl) (src_plain (by rfl) (e_slice (by rfl) (by rfl) (by rfl) (by rfl) (by rfl) (slice_lst (k := 6) (by simp; omega))) (by rw [← List.map_take]; rfl)) (by rfl) (by simp; omega) (fun loc => loc = [] ∨ ∃ a, loc = [(nCell, a)]) (fun j9 => true) (fun x : Int => PV.int (x.fmod (10 ^ 6))) (.inl rfl) ?_
    intro x hx loc hF
    refine ⟨[(nCell, .int x)], ?_, .inr ⟨_, rfl⟩, by rfl, fun j9 => by rfl⟩
    rcases hF with rfl | ⟨a, rfl⟩ <;> rfl
  have hA : binP .Add (.lst (((ns.take 6).filter fun j9 => true).map fun x : Int => PV.int (x.fmod (10 ^ 6)))) (.lst ([7, 1, 23, 20, 40, 21].map PV.int)) [] = some (.lst ((ns.take 6).map (fun x : Int => PV.int (x.fmod (10 ^ 6))) ++ [7, 1, 23, 20, 40, 21].map PV.int)) := by
    rw [filt_true]
    show (match Nat.ble (((ns.take 6).map fun x : Int => PV.int (x.fmod (10 ^ 6))).length + 6) 1000 with | true => some (PV.lst ((ns.take 6).map (fun x : Int => PV.int (x.fmod (10 ^ 6))) ++ [7, 1, 23, 20, 40, 21].map PV.int)) | false => none) = _
    rw [Nat.ble_eq.mpr (by simp; omega)]
  refine s_name (y := .lst ((numL ns).map .int)) (ph1 := []) (e_slice (e_bin (hlc _) (by rfl) hA) (by rfl) (by rfl) (by rfl) (by rfl) ?_) (by rfl)
  refine (slice_lst (k := 6) (by simp; omega)).trans ?_
  have e : (numL ns).map PV.int = ((ns.take 6).map (fun x : Int => PV.int (x.fmod (10 ^ 6))) ++ [7, 1, 23, 20, 40, 21].map PV.int).take 6 := by
    unfold numL
    rw [List.map_take (f := PV.int), List.map_append, List.map_map]; rfl
  rw [e]
noncomputable abbrev wsL (ns : List Int) : List PV := [wordV (kOf ns 0), wordV (kOf ns 1), wordV (kOf ns 2), wordV (kOf ns 3), wordV (kOf ns 4), wordV (kOf ns 5)]
noncomputable abbrev nuV (ns : List Int) : PV := .lst ((numL ns).map .int)
noncomputable abbrev FA (ns : List Int) : Loc := [(nScript, .lst (ns.map .int)), (nNumbers, nuV ns)]
noncomputable abbrev FB (ns : List Int) : Loc := FA ns ++ [(nWords, .lst (wsL ns))]
theorem s1 {ns : List Int} : (E (n + 60)).s dLaw.scope (FA ns) (stN dLaw.body 1) [] = some (.next, FB ns, []) := by
  have e : PV.lst (wsL ns) = .lst (((numL ns).filter fun j9 => true).map fun x => wordV (x.fmod 21).toNat) := by
    rw [filt_true]
    conv => rhs; rw [six (numL_len ns)]
    rfl
  refine s_name (y := .lst (wsL ns)) (ph1 := []) ?_ (by rfl)
  rw [e]
  refine lc_filterA PV.int (by rfl) (src_plain (by rfl) (by rfl) (by rfl)) (by rfl) (by rw [numL_len]; omega) (fun loc => loc = [] ∨ ∃ a, loc = [(nNumber, a)]) (fun j9 => true) _ (.inl rfl) ?_
  intro x hx loc hF
  refine ⟨[(nNumber, .int x)], ?_, .inr ⟨_, rfl⟩, by rfl, fun j9 => e_call (by rfl) (by rfl) (a_cons (by rfl) a_nil) (word_ok phOk_nil x)⟩
  rcases hF with rfl | ⟨a, rfl⟩ <;> rfl
theorem s2 {ns : List Int} : (E (n + 60)).s dLaw.scope (FB ns) (stN dLaw.body 2) [] = some (.next, FB ns ++ [(nTable, .hdr 0)], [PO.list []]) :=
  s_name (e_call (f := 282) (by rfl) (by rfl) a_nil (by rw [c_prim (by rfl)]; rfl)) (by rfl)
noncomputable def grI (ns : List Int) (i : Nat) : Bool := ((nuI ns i).fdiv 21).fmod 2 == 1
noncomputable def hdI' (ns : List Int) (i : Nat) : Hd := ⟨i, grI ns i, wl (kOf ns i)⟩
noncomputable abbrev WT : Stmt := stN dLaw.body 3
noncomputable abbrev FT (ns : List Int) (tl : Loc) : Loc := FB ns ++ [(nTable, .hdr 0)] ++ tl
noncomputable abbrev zpV (ns : List Int) (i : Nat) : PV := .tup [.str (st [97 + i]), .int (nuI ns i), wordV (kOf ns i)]
theorem zip_src {ns : List Int} {m : Nat} : srcP (E (m + 10)) tT dLaw.scope (FT ns []) (wF WT) (wP WT 1) ph = some ((List.range' 0 6).map (zpV ns), none, ph) := by
  refine (src_zip (ls := [abc6.map ch, (numL ns).map .int, wsL ns]) (by rfl) (a_cons (by rfl) (a_cons (by rfl) (a_cons (by rfl) a_nil))) (by rfl) (by rfl)).trans ?_
  have : (numL ns).map PV.int = [nuI ns 0, nuI ns 1, nuI ns 2, nuI ns 3, nuI ns 4, nuI ns 5].map PV.int := congrArg _ (six (numL_len ns))
  rw [this]; rfl
theorem wl_ok : (List.range 21).all (fun k => okS (st (wl k)) && match wordV k with | .str s => sEq s (st (wl k)) | .strg s => sEq s (st (wl k)) | _ => false) = true := by decide +kernel
theorem wd_ok {k : Nat} (h : k < 21) : okS (st (wl k)) = true ∧ (wordV k).asStr = some (st (wl k)) := by
  have := List.all_eq_true.mp wl_ok k (List.mem_range.mpr h)
  rw [Bool.and_eq_true] at this
  exact ⟨this.1, (wordV_is k).asStr⟩
noncomputable abbrev tlT (ns : List Int) (i : Nat) : Loc := [(nLetter, .str (st [97 + i])), (nNumber, .int (nuI ns i)), (nWord, wordV (kOf ns i))]
theorem add_q {tbl : List Hd} {u v : PV} {i k : Nat} {g : Bool} (hu : IsS u (sg i g)) (hv : v = wordV k) (hi : i < 6) (hk : k < 21) (hl : tbl.length ≤ 900) : (E (n + 21)).c 279 [.hdr 0, u, v] [PO.list (tbl.map hdrV)] = some (.none, [PO.list ((tbl ++ [Hd.mk i g (wl k)]).map hdrV)]) := by
  subst hv
  rw [c_prim (by rfl)]
  obtain ⟨w1, w2⟩ := wd_ok hk
  show addHdrP okS [.hdr 0, u, wordV k] [PO.list (tbl.map hdrV)] = _
  unfold addHdrP; dsimp only [asHdr]
  rw [hu.asStr]; dsimp only; rw [w2]; dsimp only; rw [(sg_fact i hi g).2.2.2, w1]
  show (match Nat.ble (tbl.map hdrV).length 1000 with | true => _ | false => _) = _
  rw [Nat.ble_eq.mpr (by simp; omega)]
  show some (PV.none, [PO.list (tbl.map hdrV ++ [PV.tup [.str (st (sg i g)), .str (st (wl k))]])]) = _
  rw [List.map_append]; rfl
theorem tab_turn {ns : List Int} {i : Nat} {tbl : List Hd} (hi : i < 6) (hl : tbl.length ≤ 900) :
    execsP (E (n + 59)) dLaw.scope (wB WT) (FT ns (tlT ns i)) [PO.list (tbl.map hdrV)] = some (.next, FT ns (tlT ns i), [PO.list ((tbl ++ [hdI' ns i]).map hdrV)]) := by
  obtain ⟨a1, a2, a3, a4⟩ := sg_fact i hi false
  have ht : (E (n + 56)).t dLaw.scope (FT ns (tlT ns i)) (sub (sub (wT (stN (wB WT) 0)) 1) 0) [PO.list (tbl.map hdrV)] = some (grI ns i, [PO.list (tbl.map hdrV)]) :=
    t_cmp (e_bin (e_bin (by rfl) (by rfl) (by rfl)) (by rfl) (by rfl)) (by rfl) (by rfl)
  have hx : ∃ u, IsS u (sg i (grI ns i)) ∧ (E (n + 57)).e dLaw.scope (FT ns (tlT ns i)) (sub (wT (stN (wB WT) 0)) 1) [PO.list (tbl.map hdrV)] = some (u, [PO.list (tbl.map hdrV)]) := by
    cases hg : grI ns i with
    | true =>
      rw [hg] at ht
      refine ⟨.strg (st (sg i true)), .strg, e_if ht (fun j9 => ?_) (fun c => nomatch c)⟩
      rw [← a2]
      exact e_upper (l := sg i false) (by rfl) (by rfl) (by rfl) (by rfl) (by rfl) (by rfl) .str (by rfl) (by rfl) a3
    | false =>
      rw [hg] at ht
      exact ⟨.str (st (sg i false)), .str, e_if ht (fun c => nomatch c) (fun j9 => by rfl)⟩
  obtain ⟨u, hu, he⟩ := hx
  exact x_one (s_expr (e_meth (f := 279) (by rfl) (by rfl) (by rfl) (by rfl) (a_cons (by exact he) (a_cons (by rfl) a_nil)) (by exact add_q (n := n + 36) hu rfl hi (kOf_lt ns i) hl)) (by rfl))
theorem tab_go {ns : List Int} : ∀ (m i : Nat) (tbl : List Hd) (loc : Loc), i + m = 6 → tbl.length = i → (loc = FT ns [] ∨ ∃ j, loc = FT ns (tlT ns j)) →
    ∃ loc', forGo (bindT dLaw.scope (wF WT)) (fun loc ph => execsP (E (n + 59)) dLaw.scope (wB WT) loc ph) ((List.range' i m).map (zpV ns)) loc [PO.list (tbl.map hdrV)] = some (.next, loc', [PO.list ((tbl ++ (List.range' i m).map (hdI' ns)).map hdrV)]) ∧ (loc' = FT ns [] ∨ ∃ j, loc' = FT ns (tlT ns j))
  | 0, i, tbl, loc, hi, hl, hloc => ⟨loc, by simp [forGo], hloc⟩
  | m + 1, i, tbl, loc, hi, hl, hloc => by
    have hb : bindT dLaw.scope (wF WT) (zpV ns i) loc = some (FT ns (tlT ns i)) := by
      rcases hloc with rfl | ⟨j, rfl⟩ <;> rfl
    obtain ⟨loc', w1, w2⟩ := tab_go m (i + 1) (tbl ++ [hdI' ns i]) (FT ns (tlT ns i)) (by omega) (by simp [hl]) (.inr ⟨i, rfl⟩)
    refine ⟨loc', ?_, w2⟩
    rw [List.range'_succ, List.map_cons, List.map_cons]
    refine f_cons hb (tab_turn (by omega) (by omega)) ?_
    rw [w1]; simp
end Mine.Internal.Pl
end
section
open PySem PySem.W PyProof.Rows
namespace Mine.Internal.Pl
set_option maxRecDepth 100000
set_option maxHeartbeats 2000000
variable {n : Nat} {ph : List PO}
noncomputable abbrev tabL (ns : List Int) : List Hd := (List.range' 0 6).map (hdI' ns)
theorem tab_ok (ns : List Int) : TblOk (tabL ns) (kOf ns) := by
  refine ⟨fun x hx => ?_, by rw [List.length_map, List.length_range']; decide, fun i hi => ⟨hdI' ns i, ?_, rfl, kOf_lt ns i⟩⟩
  · obtain ⟨i, hi, rfl⟩ := List.mem_map.mp hx
    have := List.mem_range'_1.mp hi
    show i < 6; omega
  · rcases i with _ | _ | _ | _ | _ | _ | i
    all_goals first | rfl | omega
noncomputable abbrev rK (ns : List Int) : Nat → Nat → Int := rkOf (cW (kOf ns))
noncomputable abbrev PT (ns : List Int) : List PO := [PO.list ((tabL ns).map hdrV)]
noncomputable def TlT (ns : List Int) (tl : Loc) : Prop := tl = [] ∨ ∃ j, tl = tlT ns j
theorem s3 {ns : List Int} : ∃ tl, TlT ns tl ∧ (E (n + 60)).s dLaw.scope (FT ns []) WT [PO.list []] = some (.next, FT ns tl, PT ns) := by
  obtain ⟨loc', w1, w2⟩ := tab_go (n := n) (ns := ns) 6 0 [] (FT ns []) rfl rfl (.inl rfl)
  rcases w2 with rfl | ⟨j, rfl⟩
  · exact ⟨[], .inl rfl, s_for (zip_src (m := n + 49)) (by exact w1)⟩
  · exact ⟨tlT ns j, .inr ⟨j, rfl⟩, s_for (zip_src (m := n + 49)) (by exact w1)⟩
section
variable {ns : List Int} {tl : Loc}
theorem phOk_T : PhOk (PT ns) := by
  unfold PhOk
  show (belowL _ _ && true) = true
  rw [below_hdrs]; rfl
theorem s4 (ht : TlT ns tl) : (E (n + 60)).s dLaw.scope (FT ns tl) (stN dLaw.body 4) (PT ns) = some (.next, FT ns (tl ++ [(nRanks, RV (rK ns))]), PT ns) := by
  rcases ht with rfl | ⟨j, rfl⟩
  · exact s_name (e_call (f := 312) (by rfl) (by rfl) (a_cons (by rfl) a_nil) (by exact ranks_ok (n := n + 3) (tab_ok ns))) (by rfl)
  · exact s_name (e_call (f := 312) (by rfl) (by rfl) (a_cons (by rfl) a_nil) (by exact ranks_ok (n := n + 3) (tab_ok ns))) (by rfl)
noncomputable abbrev FU (ns : List Int) (tl : Loc) : Loc := FT ns (tl ++ [(nRanks, RV (rK ns))])
end
section
variable {α : Type} {T : Top} {P : PrimT} {sc : Scope} {loc loc' loc1 : Loc} {ph ph' ph1 : List PO} {r : Ev}
theorem lc_flat {elt tgt it gs csc pos} {xs : List α} (g : α → PV) (hok : (!scOk csc || !capOk sc loc csc.names) = false) (hs : srcP (ev T P n) T sc loc tgt it ph = some (xs.map g, none, ph1)) (F : Loc → Prop) (f : α → List PV) (hlen : (xs.flatMap f).length ≤ 1000) (h0 : F (captured csc loc))
    (h : ∀ x ∈ xs, ∀ loc, F loc → ∃ loc1, bindT csc tgt (g x) loc = some loc1 ∧ ∀ acc : List PV, acc.length + (f x).length ≤ 1000 → ∃ loc2, F loc2 ∧ compGo (ev T P n) T csc elt gs loc1 acc ph1 = some (loc2, acc ++ f x, ph1)) :
    (ev T P (n + 1)).e sc loc (.ListComp elt (⟨tgt, it, [], 0⟩ :: gs) csc pos) ph = some (.lst (xs.flatMap f), ph1) :=
  lc_gen g hok hs rfl F f hlen h0 fun x hx loc hF => let ⟨loc1, a1, a2⟩ := h x hx loc hF; ⟨loc1, a1, .inl ⟨rfl, a2⟩⟩
theorem flat_one {α β : Type} (f : α → β) : ∀ xs : List α, xs.flatMap (fun x => [f x]) = xs.map f
  | [] => rfl
  | x :: xs => congrArg (f x :: ·) (flat_one f xs)
theorem comp_in {elt tgt it csc} {ys : List α} (g : α → PV) (hs : srcP (ev T P n) T csc loc tgt it ph = some (ys.map g, none, ph)) (F : Loc → Prop) (f : α → PV) (acc : List PV) (hlen : acc.length + ys.length ≤ 1000) (h0 : F loc)
    (h : ∀ x ∈ ys, ∀ loc, F loc → ∃ loc', bindT csc tgt (g x) loc = some loc' ∧ F loc' ∧ (ev T P n).e csc loc' elt ph = some (f x, ph)) :
    ∃ loc', F loc' ∧ compGo (ev T P n) T csc elt [⟨tgt, it, [], 0⟩] loc acc ph = some (loc', acc ++ ys.map f, ph) := by
  obtain ⟨l2, b1, b2⟩ := items_gen (bind := bindT csc tgt) (test := fun loc ph => testsP (ev T P n) csc loc [] ph) (inner := compGo (ev T P n) T csc elt []) (ph := ph) F g (fun x => [f x]) ys loc acc (by rw [flat_one, List.length_map]; exact hlen) h0 fun x hx loc hF =>
    let ⟨loc', a1, a2, a3⟩ := h x hx loc hF; ⟨loc', a1, .inl ⟨rfl, fun acc hl => ⟨loc', a2, comp_one a3 hl⟩⟩⟩
  refine ⟨l2, b1, ?_⟩
  rw [flat_one] at b2
  show (match ((0 : Int) != 0) with | true => none | false => (match srcP (ev T P n) T csc loc tgt it ph with
    | some (xs, n', ph) => clauseGo csc (ev T P n) tgt [] (compGo (ev T P n) T csc elt []) xs n' loc acc ph
    | none => none)) = _
  rw [show ((0 : Int) != 0) = false from rfl, hs]
  dsimp only
  unfold clauseGo
  rw [show lockP none ph = ph from rfl, b2]
  rfl
end
noncomputable def gens2 : List Comprehension := match swapB (stN dLaw.body 5) with
  | .ListComp _ gs _ _ => gs
  | _ => []
noncomputable def elt3 : Expr := sub (swapB (stN dLaw.body 5)) 0
noncomputable def sc3 : Scope := scOf (swapB (stN dLaw.body 5))
section
variable {ns : List Int} {tl : Loc}
theorem cost_elt {i j : Nat} (hi : i < 6) (hj : j < 6) (hp : PhOk ph) : (E (n + 50)).e sc3 [(nWords, .lst (wsL ns)), (nLate, .int (j : Int)), (nSoon, .int (i : Int))] elt3 ph = some (.int (cW (kOf ns) i j), ph) := by
  have at_ : ∀ k : Nat, k < 6 → itemP (.lst (wsL ns)) (.int (k : Int)) ph = some (wordV (kOf ns k)) := by
    intro k hk
    rcases k with _ | _ | _ | _ | _ | _ | k
    all_goals first | rfl | omega
  exact e_call (f := 305) (by rfl) (by rfl) (a_cons (e_item (by rfl) (by rfl) (by rfl) (at_ i hi)) (a_cons (e_item (by rfl) (by rfl) (by rfl) (at_ j hj)) a_nil)) (by exact cost_w (n := n + 29) (kOf_lt ns i) (kOf_lt ns j) hp)
noncomputable abbrev costsV (ns : List Int) : PV := .lst (PRS.map fun p => .int (cW (kOf ns) p.1 p.2))
noncomputable abbrev nB (ns : List Int) : Str × PV := (nWords, .lst (wsL ns))
noncomputable def Fs3 (ns : List Int) (loc : Loc) : Prop := loc = [nB ns] ∨ (∃ a, loc = [nB ns, (nLate, a)]) ∨ ∃ a b, loc = [nB ns, (nLate, a), (nSoon, b)]
theorem costs_e : (E (n + 59)).e dLaw.scope (FU ns tl) (swapB (stN dLaw.body 5)) (PT ns) = some (costsV ns, PT ns) := by
  have e : costsV ns = .lst ((List.range' 0 6).flatMap fun j => (List.range' 0 j).map fun i => .int (cW (kOf ns) i j)) := by rfl
  rw [e]
  refine lc_flat (fun i : Nat => PV.int (i : Int)) (by rfl) (src_plain (by rfl) (by rfl) (items_rng (k := 6) (by omega))) (Fs3 ns) _ (Nat.le_trans (Nat.le_of_eq (show _ = 15 from rfl)) (by omega)) (.inl rfl) ?_
  intro j hj loc hF
  have hj5 : j < 6 := by have := List.mem_range'_1.mp hj; omega
  obtain ⟨loc1, b1, b2⟩ : ∃ loc1, bindT sc3 (match gens2 with | g :: _ => g.target | _ => elt3) (.int (j : Int)) loc = some loc1 ∧ (loc1 = [nB ns, (nLate, .int (j : Int))] ∨ ∃ b, loc1 = [nB ns, (nLate, .int (j : Int)), (nSoon, b)]) := by
    rcases hF with rfl | ⟨a, rfl⟩ | ⟨a, b, rfl⟩
    · exact ⟨_, rfl, .inl rfl⟩
    · exact ⟨_, rfl, .inl rfl⟩
    · exact ⟨_, rfl, .inr ⟨_, rfl⟩⟩
  refine ⟨loc1, b1, fun acc hacc => ?_⟩
  obtain ⟨loc2, c1, c2⟩ := comp_in (T := tT) (P := P2) (n := n + 58) (csc := sc3) (elt := elt3) (ph := PT ns) (loc := loc1) (tgt := match gens2 with | _ :: g :: _ => g.target | _ => elt3) (it := match gens2 with | _ :: g :: _ => g.iter | _ => elt3) (ys := List.range' 0 j) (fun i : Nat => PV.int (i : Int)) (by
      refine src_plain (v := .rng 0 (j : Int) 1) (by rfl) ?_ (items_rng (k := j) (by omega))
      rcases b2 with rfl | ⟨b, rfl⟩ <;> rfl) (fun loc => loc = [nB ns, (nLate, .int (j : Int))] ∨ ∃ b, loc = [nB ns, (nLate, .int (j : Int)), (nSoon, b)]) (fun i => .int (cW (kOf ns) i j)) acc (by simpa using hacc) b2 (by
      intro i hi loc hF
      have hi5 : i < 6 := by have := List.mem_range'_1.mp hi; omega
      refine ⟨[nB ns, (nLate, .int (j : Int)), (nSoon, .int (i : Int))], ?_, .inr ⟨_, rfl⟩, by exact cost_elt (n := n + 8) hi5 hj5 phOk_T⟩
      rcases hF with rfl | ⟨b, rfl⟩ <;> rfl)
  refine ⟨loc2, ?_, c2⟩
  rcases c1 with rfl | ⟨b, rfl⟩
  · exact .inr (.inl ⟨_, rfl⟩)
  · exact .inr (.inr ⟨_, _, rfl⟩)
noncomputable abbrev FV (ns : List Int) (tl : Loc) : Loc := FT ns (tl ++ [(nRanks, RV (rK ns)), (nCosts, costsV ns)])
theorem s5 (ht : TlT ns tl) : (E (n + 60)).s dLaw.scope (FU ns tl) (stN dLaw.body 5) (PT ns) = some (.next, FV ns tl, PT ns) := by
  have h := costs_e (n := n) (ns := ns) (tl := tl)
  rcases ht with rfl | ⟨j, rfl⟩
  · exact s_name (by exact h) (by rfl)
  · exact s_name (by exact h) (by rfl)
theorem data_ints {k : Nat} {a : List Int} : dataOf ph (k + 2) (.lst (a.map .int)) = some (.list (a.map PyData.int)) := by
  show (mapO (dataOf ph (k + 1)) (a.map .int)).map PyData.list = _
  have : ∀ a : List Int, mapO (dataOf ph (k + 1)) (a.map .int) = some (a.map PyData.int) := by
    intro a
    induction a with
    | nil => rfl
    | cons x a ih => rw [List.map_cons, mapO, show dataOf ph (k + 1) (.int x) = some (.int x) from rfl]; dsimp only; rw [ih]; rfl
  rw [this]; rfl
end
end Mine.Internal.Pl
end
section
open PySem PySem.W PyProof.Rows
namespace Mine.Internal.Pl
set_option maxRecDepth 100000
set_option maxHeartbeats 2000000
variable {n : Nat} {ph : List PO}
theorem shaped_ints {a : List Int} : SeqAt.shaped (.list (a.map PyData.int)) = true := by
  have h1 : PyData.canLayAll0 (a.map PyData.int) = true := by
    induction a with
    | nil => rfl
    | cons x a ih => show (true && PyData.canLayAll0 (a.map PyData.int)) = true; rw [ih]; rfl
  show (PyData.canLayAll0 (a.map PyData.int) && decide (PyData.depthAll (a.map PyData.int) + 1 ≤ 64)) = true
  rw [h1, ke_depthAll]; rfl
theorem eq_ints {a b : List Int} : eqP (.lst (a.map .int)) (.lst (b.map .int)) ph = some (decide (a = b)) := by
  show eqSeq (.lst (a.map .int)) (.lst (b.map .int)) ph = _
  unfold eqSeq; dsimp only [seqOf]
  rw [data_ints, data_ints]; dsimp only
  rw [shaped_ints, shaped_ints]
  show some (PyData.eqvAll (a.map PyData.int) (b.map PyData.int)) = _
  rw [ked_eqvAll]
theorem t_call {T : Top} {P : PrimT} {sc : Scope} {loc : Loc} {ph1 : List PO} {f a k p v b} (h : (ev T P (n + 1)).e sc loc (.Call f a k p) ph = some (v, ph1)) (hb : truthP v = some b) : (ev T P (n + 1)).t sc loc (.Call f a k p) ph = some (b, ph1) := by
  show tOf (callP (ev T P n) T P sc loc f a k p ph) = _
  rw [show callP (ev T P n) T P sc loc f a k p ph = some (v, ph1) from h]
  show (match truthP v with | some b => some (b, ph1) | none => none) = _
  rw [hb]
noncomputable def WAYS : List (List (Nat × Nat)) := [[(0, 1), (2, 3), (4, 5)], [(0, 1), (2, 4), (3, 5)], [(0, 1), (2, 5), (3, 4)], [(0, 2), (1, 3), (4, 5)], [(0, 2), (1, 4), (3, 5)], [(0, 2), (1, 5), (3, 4)], [(0, 3), (1, 2), (4, 5)], [(0, 3), (1, 4), (2, 5)], [(0, 3), (1, 5), (2, 4)], [(0, 4), (1, 2), (3, 5)], [(0, 4), (1, 3), (2, 5)], [(0, 4), (1, 5), (2, 3)], [(0, 5), (1, 2), (3, 4)], [(0, 5), (1, 3), (2, 4)], [(0, 5), (1, 4), (2, 3)]]
theorem ways_eq : wayL 3 abc6 = WAYS.map fun w => w.map fun p => [97 + p.1, 97 + p.2] := by decide +kernel
theorem WAYS_ok : WAYS.all (fun w => w.all (fun p => PRS.contains p) && Nat.ble w.length 3 && PRS.all fun p => !(w.filter (tch p)).isEmpty) = true := by decide +kernel
theorem ways_mem {w : List (Nat × Nat)} (h : w ∈ WAYS) : (∀ q ∈ w, q ∈ PRS) ∧ w.length ≤ 3 ∧ ∀ r, ∀ p ∈ PRS, heldL r w p ≠ [] := by
  have := List.all_eq_true.mp WAYS_ok w h
  rw [Bool.and_eq_true, Bool.and_eq_true, List.all_eq_true, List.all_eq_true, Nat.ble_eq] at this
  obtain ⟨⟨h1, h2⟩, h3⟩ := this
  refine ⟨fun q m => List.contains_iff_mem.mp (h1 q m), h2, fun r p m e => ?_⟩
  have h4 := h3 p m
  unfold heldL at e
  rw [List.map_eq_nil_iff.mp e] at h4
  cases h4
theorem way_lay : WAYS.all (fun w => SeqAt.shaped (.list [.list ((w.map kyS).map PyData.str)]) && PyData.eqv (.list [.list ((w.map kyS).map PyData.str)]) (.list [.list ((w.map kyS).map PyData.str)])) = true := by decide +kernel
theorem data_strs {k : Nat} {a : List Str} : dataOf ph (k + 2) (.lst (a.map .str)) = some (.list (a.map PyData.str)) := by
  show (mapO (dataOf ph (k + 1)) (a.map .str)).map PyData.list = _
  have : ∀ a : List Str, mapO (dataOf ph (k + 1)) (a.map .str) = some (a.map PyData.str) := by
    intro a
    induction a with
    | nil => rfl
    | cons x a ih => rw [List.map_cons, mapO, show dataOf ph (k + 1) (.str x) = some (.str x) from rfl]; dsimp only; rw [ih]; rfl
  rw [this]; rfl
theorem eq_way {w : List (Nat × Nat)} (h : w ∈ WAYS) : eqP (.lst [.lst ((w.map kyS).map .str)]) (.lst [.lst ((w.map kyS).map .str)]) ph = some true := by
  have hw := List.all_eq_true.mp way_lay w h
  rw [Bool.and_eq_true] at hw
  show eqSeq (.lst [.lst ((w.map kyS).map .str)]) (.lst [.lst ((w.map kyS).map .str)]) ph = _
  unfold eqSeq; dsimp only [seqOf]
  have d : dataOf ph 8 (.lst [.lst ((w.map kyS).map .str)]) = some (.list [.list ((w.map kyS).map PyData.str)]) := by
    show (mapO (dataOf ph 7) [.lst ((w.map kyS).map .str)]).map PyData.list = _
    rw [mapO, data_strs (k := 5)]; rfl
  rw [d]; dsimp only
  rw [hw.1]
  show some (PyData.eqv _ _) = _
  rw [hw.2]
section
variable {ns : List Int} {tl : Loc}
theorem s6 (ht : TlT ns tl) : (E (n + 60)).s dLaw.scope (FV ns tl) (stN dLaw.body 6) (PT ns) = some (.next, FV ns tl, PT ns) := by
  have e : costsV ns = .lst ((PRS.filter fun j9 => true).map fun p => .int (cW (kOf ns) p.1 p.2)) := by rfl
  refine s_if (c := false) (t_cmp (x := costsV ns) (y := costsV ns) (ph1 := PT ns) ?_ ?_ ?_) (fun c => nomatch c) (fun j9 => rfl)
  · rw [e]
    have hcap : ∀ csc, (scOf (sub (wT (stN dLaw.body 6)) 0)) = csc → captured csc (FV ns tl) = [(nRanks, RV (rK ns))] ∧ (!scOk csc || !capOk dLaw.scope (FV ns tl) csc.names) = false := by
      rintro csc rfl
      rcases ht with rfl | ⟨j, rfl⟩ <;> exact ⟨rfl, rfl⟩
    obtain ⟨h1, h2⟩ := hcap _ rfl
    have hsrc : (E (n + 57)).e dLaw.scope (FV ns tl) (sub (sub (wT (stN dLaw.body 6)) 0) 1) (PT ns) = some (RV (rK ns), PT ns) := by
      rcases ht with rfl | ⟨j, rfl⟩ <;> rfl
    refine lc_filterA prV h2 (src_plain (by rfl) hsrc (by rfl)) (by rfl) (by decide) (fun loc => loc = [(nRanks, RV (rK ns))] ∨ ∃ a, loc = [(nRanks, RV (rK ns)), (nPair, a)]) (fun j9 => true) _ (.inl h1) ?_
    intro p hp loc hF
    refine ⟨[(nRanks, RV (rK ns)), (nPair, prV p)], ?_, .inr ⟨_, rfl⟩, by rfl, fun j9 => e_bin (e_item (by rfl) (by rfl) (by rfl) (item_pr hp)) (by rfl) ?_⟩
    · rcases hF with rfl | ⟨a, rfl⟩ <;> rfl
    · have hd : (rkOf (cW (kOf ns)) p.1 p.2).fdiv 15 = cW (kOf ns) p.1 p.2 := by
        have : ∀ p ∈ PRS, tri p.2 + p.1 < 15 := by decide
        have := this p hp
        unfold rkOf
        rw [Int.fdiv_eq_ediv_of_nonneg _ (by decide)]
        omega
      show some (PV.int ((rkOf (cW (kOf ns)) p.1 p.2).fdiv 15)) = _
      rw [hd]
  · rcases ht with rfl | ⟨j, rfl⟩ <;> rfl
  · have := eq_ints (ph := PT ns) (a := PRS.map fun p => cW (kOf ns) p.1 p.2) (b := PRS.map fun p => cW (kOf ns) p.1 p.2)
    rw [decide_eq_true rfl] at this
    show notO (eqP (costsV ns) (costsV ns) (PT ns)) = _
    rw [show eqP (costsV ns) (costsV ns) (PT ns) = some true from this]; rfl
noncomputable abbrev stdV (ns : List Int) : PV := .lst ((WAYS.filter (steadyB (rK ns))).map wpV)
noncomputable abbrev FX (ns : List Int) (tl : Loc) : Loc := FT ns (tl ++ [(nRanks, RV (rK ns)), (nCosts, costsV ns), (nSteady, stdV ns)])
theorem s7 (ht : TlT ns tl) : (E (n + 60)).s dLaw.scope (FV ns tl) (stN dLaw.body 7) (PT ns) = some (.next, FX ns tl, PT ns) := by
  have hcap : ∀ csc, (scOf (swapB (stN dLaw.body 7))) = csc → captured csc (FV ns tl) = [(nRanks, RV (rK ns))] ∧ (!scOk csc || !capOk dLaw.scope (FV ns tl) csc.names) = false := by
    rintro csc rfl
    rcases ht with rfl | ⟨j, rfl⟩ <;> exact ⟨rfl, rfl⟩
  obtain ⟨h1, h2⟩ := hcap _ rfl
  have hw : (wayL 3 abc6).map wyV = WAYS.map wpV := by
    rw [ways_eq, List.map_map]
    refine List.map_congr_left fun w j9 => ?_
    show PV.lst ((w.map fun p => [97 + p.1, 97 + p.2]).map fun l => .str (st l)) = _
    rw [List.map_map]; rfl
  have hsrc : (E (n + 58)).e dLaw.scope (FV ns tl) (sub (swapB (stN dLaw.body 7)) 1) (PT ns) = some (.lst (WAYS.map wpV), PT ns) := by
    rw [← hw]
    exact e_call (f := 322) (by rfl) (by rfl) (a_cons (by rfl) a_nil) (by exact ways_ok (n := n + 24) phOk_T)
  have hst : (E (n + 59)).e dLaw.scope (FV ns tl) (swapB (stN dLaw.body 7)) (PT ns) = some (stdV ns, PT ns) := by
    refine lc_filterA wpV h2 (src_plain (by rfl) hsrc (by rfl)) (by rfl) (by decide) (fun loc => loc = [(nRanks, RV (rK ns))] ∨ ∃ a, loc = [(nRanks, RV (rK ns)), (nWay, a)]) (steadyB (rK ns)) wpV (.inl h1) ?_
    intro w hw loc hF
    obtain ⟨w1, w2, w3⟩ := ways_mem hw
    refine ⟨[(nRanks, RV (rK ns)), (nWay, wpV w)], ?_, .inr ⟨_, rfl⟩, ts_one (t_call (e_call (f := 327) (by rfl) (by rfl) (a_cons (by rfl) (a_cons (by rfl) a_nil)) (by exact steady_ok (n := n + 7) phOk_T w1 (by omega) (w3 _))) (by rfl)), fun j9 => by rfl⟩
    rcases hF with rfl | ⟨a, rfl⟩ <;> rfl
  rcases ht with rfl | ⟨j, rfl⟩
  · exact s_name (by exact hst) (by rfl)
  · exact s_name (by exact hst) (by rfl)
noncomputable def begI (ns : List Int) : Nat := ((numL ns).sum.fmod 6).toNat
theorem begI_lt (ns : List Int) : begI ns < 6 := by
  unfold begI
  have h0 : 0 ≤ (numL ns).sum.fmod 6 := Int.fmod_nonneg_of_pos _ (by decide)
  have h1 : (numL ns).sum.fmod 6 < 6 := Int.fmod_lt_of_pos _ (by decide)
  omega
theorem sum_nums : callBi P2 .sum [nuV ns] ph = some (.int (numL ns).sum, ph) := by
  show (match allInt ((numL ns).map .int) with | some ns => (match Nat.ble ns.length 64 && ns.all smallJ with | true => some (PV.int ns.sum, ph) | false => none) | none => none) = _
  rw [allInt_map]; dsimp only
  have : (Nat.ble (numL ns).length 64 && (numL ns).all smallJ) = true := by
    rw [Bool.and_eq_true, Nat.ble_eq, numL_len, List.all_eq_true]
    exact ⟨by decide, fun x m => by unfold smallJ; exact decide_eq_true (numL_small ns x m)⟩
  rw [this]
structure LawOk (ns : List Int) : Prop where
  go : ∃ J, JOk (rK ns) J ∧ J (tabL ns, [begI ns], [])
  un : ∃ w ∈ WAYS, WAYS.filter (steadyB (rK ns)) = [w] ∧ sortedStrs ((runQ (rK ns) 8 (tabL ns, [begI ns], [])).2.2.map kyS) = w.map kyS
noncomputable def args8 : List Expr := (subs (sub (sub (wV (stN dLaw.body 8)) 1) 0)).tail
theorem beg_int : (numL ns).sum.fmod 6 = ((begI ns : Nat) : Int) := by
  unfold begI
  have h0 : 0 ≤ (numL ns).sum.fmod 6 := Int.fmod_nonneg_of_pos _ (by decide)
  omega
theorem args_e (ht : TlT ns tl) : argsP (E (n + 57)) dLaw.scope (FX ns tl) args8 (PT ns) = some ([.hdr 0, RV (rK ns), .str (st [97 + begI ns])], PT ns) := by
  have hi : itemP (.strg (st abc6)) (.int ((numL ns).sum.fmod 6)) (PT ns) = some (.str (st [97 + begI ns])) := by
    rw [beg_int]; exact IsS.strg.nat (ab6 (begI_lt ns)) (by have := begI_lt ns; omega)
  rcases ht with rfl | ⟨j, rfl⟩
  · exact a_cons (by rfl) (a_cons (by rfl) (a_cons (e_item (by rfl) (by rfl) (e_bin (e_bi (by rfl) (by rfl) (a_cons (by rfl) a_nil) (by exact sum_nums)) (by rfl) (by rfl)) hi) a_nil))
  · exact a_cons (by rfl) (a_cons (by rfl) (a_cons (e_item (by rfl) (by rfl) (e_bin (e_bi (by rfl) (by rfl) (a_cons (by rfl) a_nil) (by exact sum_nums)) (by rfl) (by rfl)) hi) a_nil))
theorem law_ok (h : ns.length ≤ 63) (L : LawOk ns) : (E (n + 62)).c 332 [.lst (ns.map .int)] [] = some (.bool true, []) := by
  obtain ⟨tl, ht, x3⟩ := s3 (n := n + 1) (ns := ns)
  obtain ⟨J, hJ, h0⟩ := L.go
  obtain ⟨w, hw, hf, hs⟩ := L.un
  have hp := paired_ok (n := n + 1) (sv := .str (st [97 + begI ns])) hJ (begI_lt ns) .str (tab_ok ns).lt (by rw [List.length_map, List.length_range']; exact Nat.le_refl _) h0
  rw [hs] at hp
  have e1 : (E (n + 59)).e dLaw.scope (FX ns tl) (sub (wV (stN dLaw.body 8)) 0) (PT ns) = some (stdV ns, PT ns) := by
    rcases ht with rfl | ⟨j, rfl⟩ <;> rfl
  have x8 : (E (n + 60)).e dLaw.scope (FX ns tl) (wV (stN dLaw.body 8)) (PT ns) = some (.bool true, [PO.list ((runQ (rK ns) 8 (tabL ns, [begI ns], [])).1.map hdrV)]) := by
    refine e_cmp e1 (e_list1 (e_call (f := 317) (by rfl) (by rfl) (by exact args_e (n := n) ht) (by exact hp)) (by rfl)) ?_
    have e3 : stdV ns = .lst [.lst ((w.map kyS).map .str)] := by
      unfold stdV
      rw [hf, List.map_map]; rfl
    rw [e3]
    exact eq_way hw
  exact c_ret (d := dLaw) (loc' := FX ns tl) (ph' := [PO.list ((runQ (rK ns) 8 (tabL ns, [begI ns], [])).1.map hdrV)]) rfl rfl (x_cons (s0 (n := n + 1) h) (x_cons (s1 (n := n + 1)) (x_cons (s2 (n := n + 1)) (x_cons x3 (x_cons (s4 (n := n + 1) ht) (x_cons (s5 (n := n + 1) ht) (x_cons (s6 (n := n + 1) ht) (x_cons (s7 (n := n + 1) ht) (x_one (s_ret x8)))))))))) (by rfl)
end
end Mine.Internal.Pl
end
section
open PySem PySem.W PyProof.Rows
namespace Mine.Internal.Pl
set_option maxRecDepth 100000
variable {r : Nat → Nat → Int}
theorem rr_comm {a b : Nat} : rr r a b = rr r b a := by unfold rr; rw [Nat.min_comm, Nat.max_comm]
theorem ord_comm {a b : Nat} : ord2 a b = ord2 b a := by unfold ord2; rw [Nat.min_comm, Nat.max_comm]
noncomputable def Inj (r : Nat → Nat → Int) : Prop := ∀ a < 6, ∀ b < 6, ∀ c < 6, a ≠ b → a ≠ c → rr r a b = rr r a c → b = c
theorem tri_inj : (List.range 6).all (fun a => (List.range 6).all fun b => (List.range 6).all fun c => a == b || a == c || b == c || !(tri (max a b) + min a b == tri (max a c) + min a c)) = true := by decide +kernel
theorem tri_lt : (List.range 6).all (fun a => (List.range 6).all fun b => a == b || decide (tri (max a b) + min a b < 15)) = true := by decide +kernel
theorem two15 {a b : Int} {x y : Nat} (hx : x < 15) (hy : y < 15) (h : 15 * a + (x : Nat) = 15 * b + (y : Nat)) : x = y := by omega
theorem inj_of (c : Nat → Nat → Int) : Inj (rkOf c) := by
  intro a ha b hb d hd h1 h2 e
  have k1 := List.all_eq_true.mp (List.all_eq_true.mp tri_lt a (List.mem_range.mpr ha)) b (List.mem_range.mpr hb)
  have k2 := List.all_eq_true.mp (List.all_eq_true.mp tri_lt a (List.mem_range.mpr ha)) d (List.mem_range.mpr hd)
  have k3 := List.all_eq_true.mp (List.all_eq_true.mp (List.all_eq_true.mp tri_inj a (List.mem_range.mpr ha)) b (List.mem_range.mpr hb)) d (List.mem_range.mpr hd)
  simp only [Bool.or_eq_true, beq_iff_eq, decide_eq_true_eq, Bool.not_eq_true', beq_eq_false_iff_ne] at k1 k2 k3
  have k1 := k1.resolve_left h1
  have k2 := k2.resolve_left h2
  by_cases hbd : b = d
  · exact hbd
  · exfalso
    have k3 : tri (max a b) + min a b ≠ tri (max a d) + min a d := by
      rcases k3 with ((h | h) | h) | h
      · exact absurd h h1
      · exact absurd h h2
      · exact absurd h hbd
      · exact h
    exact k3 (two15 k1 k2 e)
noncomputable abbrev lf (s : S3) : List Nat := s.1.map Hd.i
noncomputable def Chn (r : Nat → Nat → Int) (left : List Nat) : List Nat → Prop
  | [] => True
  | x :: l => match l with
    | [] => True
    | y :: _ => (∀ z ∈ left, z ≠ y → z ≠ x → rr r y x < rr r y z) ∧ Chn r left l
theorem Chn.tail {left l : List Nat} {x : Nat} (h : Chn r left (x :: l)) : Chn r left l := by
  cases l with
  | nil => trivial
  | cons y l => exact h.2
theorem Chn.mono {left left' : List Nat} (hs : ∀ z ∈ left', z ∈ left) : ∀ {l : List Nat}, Chn r left l → Chn r left' l
  | [], _ => trivial
  | [_], _ => trivial
  | x :: y :: l, h => ⟨fun z m => h.1 z (hs z m), Chn.mono hs (l := y :: l) h.2⟩
theorem Chn.grow {left : List Nat} : ∀ {l : List Nat} {u v : Nat}, Chn r left (u :: v :: l) → (u :: v :: l).Nodup → (∀ x ∈ u :: v :: l, x ∈ left) → ∀ z ∈ l, ∀ t ∈ left, t ∉ v :: l → rr r v u < rr r z t
  | [], u, v, _, _, _, z, hz, _, _, _ => by cases hz
  | w :: l, u, v, h, nd, hs, z, hz, t, ht, hn => by
    have hvw : v ≠ w := fun q => by
      have := (List.nodup_cons.mp (List.nodup_cons.mp nd).2).1
      exact this (q ▸ List.mem_cons_self)
    have huw : u ≠ w := fun q => (List.nodup_cons.mp nd).1 (q ▸ List.mem_cons_of_mem _ List.mem_cons_self)
    have h1 : rr r v u < rr r v w := h.1 w (hs w (by simp)) hvw.symm huw.symm
    rw [rr_comm (a := v) (b := w)] at h1
    have hnt : t ∉ w :: l := fun q => hn (List.mem_cons_of_mem _ q)
    rcases List.mem_cons.mp hz with rfl | hz
    · have h2 : rr r z v < rr r z t := h.2.1 t ht (fun q => hnt (q ▸ List.mem_cons_self)) (fun q => hn (q ▸ List.mem_cons_self))
      omega
    · have h2 := Chn.grow (l := l) h.2 (List.nodup_cons.mp nd).2 (fun x m => hs x (List.mem_cons_of_mem _ m)) z hz t ht hnt
      omega
structure CI (r : Nat → Nat → Int) (s : S3) : Prop where
  nd : (lf s).Nodup
  lt : ∀ x ∈ lf s, x < 6
  sn : s.2.1.Nodup
  ss : ∀ x ∈ s.2.1, x ∈ lf s
  ch : Chn r (lf s) s.2.1
  sz : (lf s).length + 2 * s.2.2.length = 6
  qp : ∀ q ∈ s.2.2, q ∈ PRS ∧ q.1 ∉ lf s ∧ q.2 ∉ lf s
  cv : ∀ x < 6, x ∉ lf s → ∃ q ∈ s.2.2, x = q.1 ∨ x = q.2
  un : ∀ w ∈ WAYS, steadyB r w = true → ∀ q ∈ s.2.2, q ∈ w
  st : ∀ p ∈ PRS, (p.1 ∉ lf s ∨ p.2 ∉ lf s) → ∃ q ∈ s.2.2, tch p q = true ∧ r q.1 q.2 ≤ r p.1 p.2
theorem nodupI_of : ∀ {l : List Int}, l.Nodup → nodupI l = true
  | [], _ => rfl
  | a :: l, h => by
    obtain ⟨h1, h2⟩ := List.nodup_cons.mp h
    show (!l.any (· == a) && nodupI l) = true
    rw [nodupI_of h2, Bool.and_true, Bool.not_eq_true', List.any_eq_false]
    intro x hx q
    exact h1 (eq_of_beq q ▸ hx)
theorem top_mem {s : S3} (I : CI r s) (hne : s.1 ≠ []) : topI s.1 s.2.1 ∈ lf s := by
  unfold topI
  cases h : s.2.1 with
  | cons x l => exact I.ss x (by rw [h]; simp)
  | nil =>
    show ((s.1.map Hd.i).headD 0) ∈ _
    cases h' : s.1 with
    | nil => exact absurd h' hne
    | cons y l => unfold lf; rw [h']; simp
theorem near_ok {s : S3} (hj : Inj r) (I : CI r s) (hne : s.1 ≠ []) : ∃ y, yOf r s = some y ∧ nodupI (dis r s.1 (topI s.1 s.2.1)) = true ∧ y.i ∈ lf s ∧ y.i ≠ topI s.1 s.2.1 ∧ ∀ z ∈ lf s, z ≠ topI s.1 s.2.1 → z ≠ y.i → rr r (topI s.1 s.2.1) y.i < rr r (topI s.1 s.2.1) z := by
  have ht := top_mem I hne
  generalize ha : topI s.1 s.2.1 = a at ht
  have ha6 := I.lt a ht
  unfold yOf
  rw [ha]
  have ho : ∀ x ∈ oths s.1 a, x ∈ s.1 ∧ x.i ≠ a := fun x m => by
    obtain ⟨m1, m2⟩ := List.mem_filter.mp m
    exact ⟨m1, by simpa using m2⟩
  have hlf : ∀ x ∈ oths s.1 a, x.i ∈ lf s := fun x m => List.mem_map_of_mem (ho x m).1
  have hlen : 2 ≤ (lf s).length := by
    have h1 : 0 < (lf s).length := List.length_pos_of_mem ht
    have := I.sz
    omega
  have hex : ∃ x ∈ lf s, x ≠ a := by
    have h1 := List.length_erase_of_mem ht
    obtain ⟨x, hx⟩ := List.exists_mem_of_length_pos (l := (lf s).erase a) (by omega)
    exact ⟨x, List.mem_of_mem_erase hx, fun q => by rw [q] at hx; exact (List.Nodup.mem_erase_iff I.nd).mp hx |>.1 rfl⟩
  obtain ⟨x, hx, hxa⟩ := hex
  obtain ⟨xh, hxh, rfl⟩ := List.mem_map.mp hx
  have hin : ∀ z ∈ lf s, z ≠ a → ∃ h ∈ oths s.1 a, h.i = z := fun z m hz => by
    obtain ⟨h, mh, rfl⟩ := List.mem_map.mp m
    exact ⟨h, List.mem_filter.mpr ⟨mh, by simpa using hz⟩, rfl⟩
  obtain ⟨h0, mh0, _⟩ := hin _ hx hxa
  have hnd : ((oths s.1 a).map Hd.i).Nodup := List.Sublist.nodup (List.Sublist.map _ List.filter_sublist) I.nd
  have hd : (dis r s.1 a).Nodup := by
    unfold dis
    rw [List.Nodup, List.pairwise_map] at hnd ⊢
    refine List.Pairwise.imp_of_mem (fun {x y} mx my hne q => ?_) hnd
    exact hne (hj a ha6 x.i (I.lt _ (hlf x mx)) y.i (I.lt _ (hlf y my)) (Ne.symm (ho x mx).2) (Ne.symm (ho y my).2) q)
  have hl0 : 0 < (oths s.1 a).length := List.length_pos_of_mem mh0
  have hdl : (dis r s.1 a).length = (oths s.1 a).length := List.length_map _
  obtain ⟨b1, b2⟩ := argBest_lt (fun i => (dis r s.1 a).getD i 0) ((dis r s.1 a).length - 1)
  have hlt : leastAt (dis r s.1 a) < (oths s.1 a).length := by
    show argBest (fun i j => decide ((dis r s.1 a).getD i 0 < (dis r s.1 a).getD j 0)) ((dis r s.1 a).length - 1) < _
    omega
  have gd : ∀ (i : Nat) (h : i < (oths s.1 a).length), (dis r s.1 a).getD i 0 = rr r a ((oths s.1 a)[i]).i := fun i h => by
    rw [List.getD_eq_getElem?_getD, List.getElem?_map, List.getElem?_eq_getElem h]; rfl
  refine ⟨(oths s.1 a)[leastAt (dis r s.1 a)], List.getElem?_eq_getElem hlt, nodupI_of hd, hlf _ (List.getElem_mem hlt), (ho _ (List.getElem_mem hlt)).2, fun z mz hza hzy => ?_⟩
  obtain ⟨h, mh, rfl⟩ := hin z mz hza
  obtain ⟨i, hi, rfl⟩ := List.getElem_of_mem mh
  have h1 := b2 i (by omega)
  have h2 : rr r a ((oths s.1 a)[leastAt (dis r s.1 a)]).i ≤ rr r a ((oths s.1 a)[i]).i := by
    rw [← gd _ hlt, ← gd _ hi]; exact h1
  have h3 : rr r a ((oths s.1 a)[leastAt (dis r s.1 a)]).i ≠ rr r a ((oths s.1 a)[i]).i := fun q =>
    hzy (hj a ha6 _ (I.lt _ (hlf _ (List.getElem_mem hlt))) _ (I.lt _ mz) (Ne.symm (ho _ (List.getElem_mem hlt)).2) (Ne.symm hza) q).symm
  omega
end Mine.Internal.Pl
end
section
open PySem PySem.W PyProof.Rows
namespace Mine.Internal.Pl
set_option maxRecDepth 100000
variable {r : Nat → Nat → Int}
theorem wo_map {tbl : List Hd} {a : Nat} : (without tbl a).map Hd.i = (tbl.map Hd.i).filter fun x => !(x == a) := by
  unfold without
  rw [List.filter_map]; rfl
theorem wo_mem {l : List Nat} {a z : Nat} : z ∈ l.filter (fun x => !(x == a)) ↔ z ∈ l ∧ z ≠ a := by
  rw [List.mem_filter]; simp
theorem wo_len : ∀ {l : List Nat} {a : Nat}, l.Nodup → a ∈ l → (l.filter fun x => !(x == a)).length + 1 = l.length
  | x :: l, a, nd, m => by
    obtain ⟨h1, h2⟩ := List.nodup_cons.mp nd
    rw [List.filter_cons]
    by_cases q : x = a
    · rw [q] at h1
      have : l.filter (fun x => !(x == a)) = l := List.filter_eq_self.mpr fun y my => by
        simp only [Bool.not_eq_true', beq_eq_false_iff_ne]
        exact fun e => h1 (e ▸ my)
      rw [this]; simp [q]
    · have m' : a ∈ l := (List.mem_cons.mp m).resolve_left (Ne.symm q)
      have := wo_len h2 m'
      simp only [Bool.not_eq_true', beq_eq_false_iff_ne.mpr q, if_true, List.length_cons]
      omega
theorem ord_has {a b x : Nat} : x = (ord2 a b).1 ∨ x = (ord2 a b).2 ↔ x = a ∨ x = b := by
  unfold ord2
  dsimp only
  rcases Nat.le_total a b with h | h
  · rw [Nat.min_eq_left h, Nat.max_eq_right h]
  · rw [Nat.min_eq_right h, Nat.max_eq_left h]; exact Or.comm
theorem PRS_ord : ∀ p ∈ PRS, p = ord2 p.1 p.2 ∧ p.1 < 6 ∧ p.2 < 6 ∧ p.1 ≠ p.2 := by
  have h : PRS.all (fun p => p == ord2 p.1 p.2 && Nat.blt p.1 6 && Nat.blt p.2 6 && !(p.1 == p.2)) = true := by decide +kernel
  intro p hp
  have := List.all_eq_true.mp h p hp
  simp only [Bool.and_eq_true, beq_iff_eq, Nat.blt_eq, Bool.not_eq_true', beq_eq_false_iff_ne] at this
  exact ⟨this.1.1.1, this.1.1.2, this.1.2, this.2⟩
theorem tch_iff {p q : Nat × Nat} : tch p q = true ↔ (q.1 = p.1 ∨ q.2 = p.1) ∨ (q.1 = p.2 ∨ q.2 = p.2) := by
  unfold tch; simp only [Bool.or_eq_true, beq_iff_eq]
theorem from_name {q : Nat × Nat} (hq : q ∈ PRS) {a : Nat} (h : q.1 = a ∨ q.2 = a) : ∃ z, z < 6 ∧ z ≠ a ∧ q = ord2 a z ∧ r q.1 q.2 = rr r a z := by
  obtain ⟨h1, h2, h3, h4⟩ := PRS_ord q hq
  have e : ∀ a b, ord2 a b = q → r q.1 q.2 = rr r a b := fun a b h => by rw [← h]; rfl
  rcases h with rfl | rfl
  · exact ⟨q.2, h3, h4.symm, h1, e _ _ h1.symm⟩
  · exact ⟨q.1, h2, h4, by rw [ord_comm]; exact h1, e _ _ (by rw [ord_comm]; exact h1.symm)⟩
theorem minL_mem : ∀ {l : List Int}, l ≠ [] → minL l ∈ l ∧ ∀ x ∈ l, minL l ≤ x
  | [], h => absurd rfl h
  | x :: l, _ => by
    show l.foldl (fun m y => if y < m then y else m) x ∈ x :: l ∧ ∀ y ∈ x :: l, l.foldl (fun m y => if y < m then y else m) x ≤ y
    induction l generalizing x with
    | nil => exact ⟨List.mem_cons_self, fun y m => by rw [List.mem_singleton.mp m]; exact Int.le_refl _⟩
    | cons z l ih =>
      rw [List.foldl_cons]
      by_cases q : z < x
      · rw [if_pos q]
        obtain ⟨h1, h2⟩ := ih z (List.cons_ne_nil _ _)
        refine ⟨List.mem_cons_of_mem _ h1, fun y m => ?_⟩
        rcases List.mem_cons.mp m with rfl | m
        · exact Int.le_trans (h2 z List.mem_cons_self) (by omega)
        · exact h2 y m
      · rw [if_neg q]
        obtain ⟨h1, h2⟩ := ih x (List.cons_ne_nil _ _)
        refine ⟨?_, fun y m => ?_⟩
        · rcases List.mem_cons.mp h1 with h | h
          · rw [h]; exact List.mem_cons_self
          · exact List.mem_cons_of_mem _ (List.mem_cons_of_mem _ h)
        · rcases List.mem_cons.mp m with rfl | m
          · exact h2 y List.mem_cons_self
          · rcases List.mem_cons.mp m with rfl | m
            · exact Int.le_trans (h2 x List.mem_cons_self) (by omega)
            · exact h2 y (List.mem_cons_of_mem _ m)
theorem WAYS_dis : WAYS.all (fun w => w.all fun p => w.all fun q => !tch p q || p == q) = true := by decide +kernel
theorem ways_dis {w : List (Nat × Nat)} (h : w ∈ WAYS) {p q : Nat × Nat} (hp : p ∈ w) (hq : q ∈ w) (ht : tch p q = true) : p = q := by
  have := List.all_eq_true.mp (List.all_eq_true.mp (List.all_eq_true.mp WAYS_dis w h) p hp) q hq
  rw [ht] at this
  simpa using this
theorem mates_in {s : S3} (I : CI r s) {a b : Nat} (ha : a ∈ lf s) (hb : b ∈ lf s) (hne : a ≠ b) (h1 : ∀ z ∈ lf s, z ≠ a → z ≠ b → rr r a b < rr r a z) (h2 : ∀ z ∈ lf s, z ≠ b → z ≠ a → rr r b a < rr r b z) {w : List (Nat × Nat)} (hw : w ∈ WAYS) (hs : steadyB r w = true) : ord2 a b ∈ w := by
  obtain ⟨w1, w2, w3⟩ := ways_mem hw
  have hp : ord2 a b ∈ PRS := ord_mem a (I.lt a ha) b (I.lt b hb) hne
  apply Classical.byContradiction
  intro hn
  have hl := List.all_eq_true.mp hs _ hp
  unfold lessB at hl
  have hl : minL (heldL r w (ord2 a b)) ≤ r (ord2 a b).1 (ord2 a b).2 := by
    simp only [Bool.not_eq_true', decide_eq_false_iff_not] at hl
    omega
  obtain ⟨m1, _⟩ := minL_mem (w3 r _ hp)
  obtain ⟨q, mq, eq⟩ := List.mem_map.mp m1
  obtain ⟨mq, tq⟩ := List.mem_filter.mp mq
  rw [← eq] at hl
  have hl : r q.1 q.2 ≤ rr r a b := hl
  have key : ∀ c d, c ∈ lf s → d ≠ c → ord2 c d = ord2 a b → (q.1 = c ∨ q.2 = c) → (∀ z ∈ lf s, z ≠ c → z ≠ d → rr r a b < rr r c z) → False := by
    intro c d hc hdc e hq hz
    obtain ⟨z, z6, zc, ez, er⟩ := from_name (r := r) (w1 q mq) hq
    have zd : z ≠ d := fun h => hn (by rw [← e, ← h, ← ez]; exact mq)
    by_cases hzl : z ∈ lf s
    · have := hz z hzl zc zd
      omega
    · obtain ⟨q', mq', hz'⟩ := I.cv z z6 hzl
      have e2 : q = q' := ways_dis hw mq (I.un w hw hs q' mq') (tch_iff.mpr (by
        have h5 : z = q.1 ∨ z = q.2 := by rw [ez]; exact ord_has.mpr (.inr rfl)
        rcases h5 with h5 | h5
        · exact .inl (hz'.imp (fun h => h.symm.trans h5) fun h => h.symm.trans h5)
        · exact .inr (hz'.imp (fun h => h.symm.trans h5) fun h => h.symm.trans h5)))
      have := I.qp q' mq'
      rw [← e2] at this
      rcases hq with h | h
      · exact this.2.1 (h ▸ hc)
      · exact this.2.2 (h ▸ hc)
  have hab : q.1 = a ∨ q.2 = a ∨ q.1 = b ∨ q.2 = b := by
    have := tch_iff.mp tq
    have e1 := ord_has (a := a) (b := b) (x := q.1)
    have e2 := ord_has (a := a) (b := b) (x := q.2)
    rcases this with (h | h) | (h | h)
    · rcases e1.mp (.inl h) with h | h <;> simp [h]
    · rcases e2.mp (.inl h) with h | h <;> simp [h]
    · rcases e1.mp (.inr h) with h | h <;> simp [h]
    · rcases e2.mp (.inr h) with h | h <;> simp [h]
  rcases hab with h | h | h | h
  · exact key a b ha hne.symm rfl (.inl h) h1
  · exact key a b ha hne.symm rfl (.inr h) h1
  · exact key b a hb hne ord_comm (.inl h) fun z m k1 k2 => by rw [rr_comm]; exact h2 z m k1 k2
  · exact key b a hb hne ord_comm (.inr h) fun z m k1 k2 => by rw [rr_comm]; exact h2 z m k1 k2
end Mine.Internal.Pl
end
section
open PySem PySem.W PyProof.Rows
namespace Mine.Internal.Pl
set_option maxRecDepth 100000
variable {r : Nat → Nat → Int}
noncomputable def mu (s : S3) : Nat := match s.1 with
  | [] => 0
  | _ :: _ => s.1.length / 2 + (s.1.length - max 1 s.2.1.length)
theorem mu_ne {s : S3} (h : s.1 ≠ []) : mu s = s.1.length / 2 + (s.1.length - max 1 s.2.1.length) := by
  unfold mu
  cases q : s.1 with
  | nil => exact absurd q h
  | cons x l => rfl
theorem mu_le (s : S3) : mu s ≤ s.1.length / 2 + (s.1.length - max 1 s.2.1.length) := by
  unfold mu
  cases q : s.1 with
  | nil => exact Nat.zero_le _
  | cons x l => exact Nat.le_refl _
theorem sub_le {l u : List Nat} (hn : l.Nodup) (hs : ∀ x ∈ l, x ∈ u) : l.length ≤ u.length := by
  induction l generalizing u with
  | nil => exact Nat.zero_le _
  | cons x l ih =>
    obtain ⟨h1, h2⟩ := List.nodup_cons.mp hn
    have hx := hs x (by simp)
    have := ih (u := u.erase x) h2 fun y hy => (List.mem_erase_of_ne (by rintro rfl; exact h1 hy)).mpr (hs y (by simp [hy]))
    rw [List.length_erase_of_mem hx] at this
    have hp : 0 < u.length := List.length_pos_of_mem hx
    simp only [List.length_cons]; omega
theorem ar1 {a t u q : Nat} (k : a + 2 = t) (h : u = t) (s : u + 2 * q = 6) : a + 2 * (q + 1) = 6 := by omega
theorem ar2 {m W t k : Nat} (h3 : m ≤ W / 2 + (W - max 1 k)) (h : W + 2 = t) : m < t / 2 + (t - max 1 (k + 1 + 1)) := by
  subst h
  rw [Nat.add_div_right W (by decide), show max 1 (k + 1 + 1) = k + 1 + 1 from Nat.max_eq_right (Nat.succ_le_succ (Nat.zero_le _)), show W + 2 - (k + 1 + 1) = W - k from Nat.add_sub_add_right W 2 k]
  exact Nat.lt_of_le_of_lt (Nat.le_trans h3 (Nat.add_le_add_left (Nat.sub_le_sub_left (Nat.le_max_right 1 k) W) _)) (Nat.add_lt_add_right (Nat.lt_succ_self _) _)
theorem ar3 {t k m : Nat} (h4 : k + 1 + 1 ≤ t) (h5 : m = k + 1) : t / 2 + (t - max 1 (k + 1 + 1)) < t / 2 + (t - m) := by
  subst h5
  rw [show max 1 (k + 1 + 1) = k + 1 + 1 from Nat.max_eq_right (Nat.succ_le_succ (Nat.zero_le _))]
  exact Nat.add_lt_add_left (Nat.sub_lt_sub_left (show k + 1 < t from h4) (Nat.lt_succ_self _)) _
theorem step_ok {s : S3} (hj : Inj r) (I : CI r s) (hne : s.1 ≠ []) : CI r (stepQ r s) ∧ mu (stepQ r s) < mu s := by
  obtain ⟨y, hy, _, yl, ya, yn⟩ := near_ok hj I hne
  have ht := top_mem I hne
  have es : stepQ r s = turnQ r y s := by unfold stepQ; rw [hy]
  rw [es]
  clear es hy
  obtain ⟨tbl, l, qs⟩ := s
  generalize ha : topI tbl l = a at ht ya yn
  dsimp only at *
  have hlen : (lf (tbl, l, qs)).length = tbl.length := List.length_map _
  have sz := I.sz
  unfold turnQ; dsimp only
  rw [ha]
  have hll : l = a :: l.tail ∨ l = [] := by
    cases l with
    | nil => exact .inr rfl
    | cons x l => exact .inl (by rw [← ha]; rfl)
  cases hc : natsEq [97 + y.i] (hdI l.tail) with
  | true =>
    obtain ⟨q, eq⟩ := hd_eq hc
    have el : l = a :: y.i :: q := by
      rcases hll with h | h
      · rw [eq] at h; exact h
      · rw [h] at eq; cases eq
    clear hll hc eq ha
    subst el
    dsimp only [List.tail_cons]
    have hab : a ≠ y.i := Ne.symm ya
    obtain ⟨n1, n2⟩ := List.nodup_cons.mp I.sn
    obtain ⟨n3, n4⟩ := List.nodup_cons.mp n2
    have e1 : lf (without (without tbl a) y.i, q, qs ++ [ord2 a y.i]) = ((tbl.map Hd.i).filter fun x => !(x == a)).filter fun x => !(x == y.i) := by
      show (without (without tbl a) y.i).map Hd.i = _
      rw [wo_map, wo_map]
    have hm : ∀ z, z ∈ lf (without (without tbl a) y.i, q, qs ++ [ord2 a y.i]) ↔ z ∈ tbl.map Hd.i ∧ z ≠ a ∧ z ≠ y.i := fun z => by
      rw [e1, wo_mem, wo_mem, and_assoc]
    have k1 : ((tbl.map Hd.i).filter fun x => !(x == a)).length + 1 = (tbl.map Hd.i).length := wo_len I.nd ht
    have k2 : (((tbl.map Hd.i).filter fun x => !(x == a)).filter fun x => !(x == y.i)).length + 1 = ((tbl.map Hd.i).filter fun x => !(x == a)).length := wo_len (List.Pairwise.filter _ I.nd) (wo_mem.mpr ⟨yl, ya⟩)
    rw [List.length_map] at k1
    have kl : (lf (without (without tbl a) y.i, q, qs ++ [ord2 a y.i])).length + 2 = tbl.length := by
      rw [e1]
      exact (congrArg (· + 1) k2).trans k1
    have cb := I.ch.1
    have hp : ord2 a y.i ∈ PRS := ord_mem a (I.lt a ht) y.i (I.lt _ yl) hab
    have hn1 : ∀ x, x = (ord2 a y.i).1 ∨ x = (ord2 a y.i).2 → x ∉ lf (without (without tbl a) y.i, q, qs ++ [ord2 a y.i]) := fun x hx m => by
      have := (hm x).mp m
      rcases ord_has.mp hx with h | h
      · exact this.2.1 h
      · exact this.2.2 h
    refine ⟨⟨by rw [e1]; exact List.Pairwise.filter _ (List.Pairwise.filter _ I.nd), fun x m => I.lt x ((hm x).mp m).1, n4, fun x m => (hm x).mpr ⟨I.ss x (by simp [m]), fun h => n1 (h ▸ List.mem_cons_of_mem _ m), fun h => n3 (h ▸ m)⟩, Chn.mono (fun z m => ((hm z).mp m).1) I.ch.tail.tail, ?_, fun p m => ?_, fun x x6 m => ?_, fun w hw hs p m => ?_, fun p mp hpn => ?_⟩, ?_⟩
    · show _ + 2 * (qs ++ [ord2 a y.i]).length = 6
      rw [List.length_append, List.length_singleton]
      exact ar1 kl hlen sz
    · rcases List.mem_append.mp m with m | m
      · obtain ⟨z1, z2, z3⟩ := I.qp p m
        exact ⟨z1, fun h => z2 ((hm _).mp h).1, fun h => z3 ((hm _).mp h).1⟩
      · rw [List.mem_singleton.mp m]
        exact ⟨hp, hn1 _ (.inl rfl), hn1 _ (.inr rfl)⟩
    · by_cases hx : x ∈ tbl.map Hd.i
      · refine ⟨ord2 a y.i, by simp, ord_has.mpr ?_⟩
        by_cases h1 : x = a
        · exact .inl h1
        · exact .inr (Classical.byContradiction fun h2 => m ((hm x).mpr ⟨hx, h1, h2⟩))
      · obtain ⟨p, mp, hp⟩ := I.cv x x6 hx
        exact ⟨p, List.mem_append_left _ mp, hp⟩
    · rcases List.mem_append.mp m with m | m
      · exact I.un w hw hs p m
      · rw [List.mem_singleton.mp m]
        exact mates_in I ht yl hab yn cb hw hs
    · by_cases h0 : p.1 ∉ lf (tbl, a :: y.i :: q, qs) ∨ p.2 ∉ lf (tbl, a :: y.i :: q, qs)
      · obtain ⟨q', m1, m2, m3⟩ := I.st p mp h0
        exact ⟨q', List.mem_append_left _ m1, m2, m3⟩
      · have h1 : p.1 ∈ tbl.map Hd.i := Classical.byContradiction fun h => h0 (.inl h)
        have h2 : p.2 ∈ tbl.map Hd.i := Classical.byContradiction fun h => h0 (.inr h)
        have key : ∀ c, (c = a ∨ c = y.i) → (p.1 = c ∨ p.2 = c) → tch p (ord2 a y.i) = true ∧ r (ord2 a y.i).1 (ord2 a y.i).2 ≤ r p.1 p.2 := by
          intro c hc hpc
          obtain ⟨z, z6, zc, ez, er⟩ := from_name (r := r) mp hpc
          have hz : z ∈ tbl.map Hd.i := by
            have := (ord_has (a := c) (b := z) (x := z)).mpr (.inr rfl)
            rw [← ez] at this
            rcases this with h | h <;> rw [h] <;> assumption
          refine ⟨?_, ?_⟩
          · have h5 := (ord_has (a := a) (b := y.i) (x := c)).mpr hc
            rw [tch_iff]
            rcases hpc with h | h
            · left; rw [h]; exact h5.imp Eq.symm Eq.symm
            · right; rw [h]; exact h5.imp Eq.symm Eq.symm
          · show rr r a y.i ≤ _
            rw [er]
            rcases hc with rfl | rfl
            · by_cases hzy : z = y.i
              · rw [hzy]; exact Int.le_refl _
              · exact Int.le_of_lt (yn z hz zc hzy)
            · by_cases hza : z = a
              · rw [hza, rr_comm]; exact Int.le_refl _
              · rw [rr_comm]; exact Int.le_of_lt (cb z hz zc hza)
        have hout : ∃ c, (c = a ∨ c = y.i) ∧ (p.1 = c ∨ p.2 = c) := by
          rcases hpn with h | h
          · refine ⟨p.1, Classical.byContradiction fun hh => h ((hm _).mpr ⟨h1, fun e => hh (.inl e), fun e => hh (.inr e)⟩), .inl rfl⟩
          · refine ⟨p.2, Classical.byContradiction fun hh => h ((hm _).mpr ⟨h2, fun e => hh (.inl e), fun e => hh (.inr e)⟩), .inr rfl⟩
        obtain ⟨c, c1, c2⟩ := hout
        exact ⟨ord2 a y.i, by simp, (key c c1 c2).1, (key c c1 c2).2⟩
    · have hl2 : (without (without tbl a) y.i).length + 2 = tbl.length := by
        rw [← kl]; show _ = (List.map _ _).length + 2; rw [List.length_map]
      have h3 := mu_le (without (without tbl a) y.i, q, qs ++ [ord2 a y.i])
      rw [mu_ne (s := (tbl, a :: y.i :: q, qs)) hne]
      exact ar2 h3 hl2
  | false =>
    dsimp only
    have hb : ∀ b q, l.tail = b :: q → b ≠ y.i := fun b q e h => by
      rw [e, h] at hc
      have : natsEq [97 + y.i] [97 + y.i] = true := natsEq_iff.mpr rfl
      rw [show hdI (y.i :: q) = [97 + y.i] from rfl, this] at hc
      cases hc
    have hnew : y.i ∉ l.tail := by
      intro m
      cases hlt : l.tail with
      | nil => rw [hlt] at m; cases m
      | cons b q =>
        rw [hlt] at m
        have hby := hb b q hlt
        have mq : y.i ∈ q := (List.mem_cons.mp m).resolve_left (Ne.symm hby)
        have el : l = a :: b :: q := by
          rcases hll with h | h
          · rw [hlt] at h; exact h
          · rw [h] at hlt; cases hlt
        subst el
        have nd := I.sn
        have ab : b ≠ a := fun e => (List.nodup_cons.mp nd).1 (e ▸ List.mem_cons_self)
        have h1 := Chn.grow (r := r) I.ch nd I.ss y.i mq a ht (List.nodup_cons.mp nd).1
        have h2 := yn b (I.ss b (by simp)) ab hby
        rw [rr_comm (a := b), rr_comm (a := y.i)] at h1
        omega
    have hal : a ∉ l.tail := by
      rcases hll with h | h
      · intro m
        have := I.sn
        dsimp only at this
        rw [h] at this
        exact (List.nodup_cons.mp this).1 m
      · rw [h]; simp
    have hts : ∀ x ∈ l.tail, x ∈ lf (tbl, l, qs) := fun x m => I.ss x (List.mem_of_mem_tail m)
    have htn : l.tail.Nodup := List.Sublist.nodup (List.tail_sublist l) I.sn
    have hnd : (y.i :: a :: l.tail).Nodup := List.nodup_cons.mpr ⟨fun m => (List.mem_cons.mp m).elim ya hnew, List.nodup_cons.mpr ⟨hal, htn⟩⟩
    have hss : ∀ x ∈ y.i :: a :: l.tail, x ∈ lf (tbl, l, qs) := fun x m => by
      rcases List.mem_cons.mp m with rfl | m
      · exact yl
      · rcases List.mem_cons.mp m with rfl | m
        · exact ht
        · exact hts x m
    have hch : Chn r (lf (tbl, l, qs)) (y.i :: a :: l.tail) := by
      refine ⟨fun z m h1 h2 => yn z m h1 h2, ?_⟩
      rcases hll with h | h
      · have := I.ch
        dsimp only at this
        rw [h] at this
        exact this
      · rw [h]; trivial
    refine ⟨⟨I.nd, I.lt, hnd, hss, hch, I.sz, I.qp, I.cv, I.un, I.st⟩, ?_⟩
    rw [mu_ne (s := (tbl, y.i :: a :: l.tail, qs)) hne, mu_ne (s := (tbl, l, qs)) hne]
    dsimp only
    have h4 : (y.i :: a :: l.tail).length ≤ (tbl.map Hd.i).length := sub_le hnd hss
    rw [List.length_map] at h4
    have h5 : max 1 l.length = l.tail.length + 1 := by
      rcases hll with h | h
      · rw [h]; simp
      · rw [h]; simp
    exact ar3 h4 h5
end Mine.Internal.Pl
end
section
open PySem PySem.W PyProof.Rows
namespace Mine.Internal.Pl
set_option maxRecDepth 100000
variable {r : Nat → Nat → Int}
theorem run_ok (hj : Inj r) : ∀ (m : Nat) (s : S3), CI r s → mu s ≤ m → (runQ r m s).1 = [] ∧ CI r (runQ r m s)
  | 0, s, I, h => by
    refine ⟨?_, I⟩
    apply Classical.byContradiction
    intro hne
    have h1 : s.1 ≠ [] := hne
    have := mu_ne h1
    have hl : 0 < s.1.length := List.length_pos_iff.mpr h1
    have sz := I.sz
    rw [show (lf s).length = s.1.length from List.length_map _] at sz
    omega
  | m + 1, s, I, h => by
    unfold runQ
    cases q : s.1 with
    | nil => exact ⟨q, I⟩
    | cons x l =>
      have hne : s.1 ≠ [] := by rw [q]; exact List.cons_ne_nil _ _
      obtain ⟨I', h'⟩ := step_ok hj I hne
      exact run_ok hj m (stepQ r s) I' (by omega)
theorem jok (hj : Inj r) : JOk r (CI r) := by
  refine ⟨fun s I => ⟨fun x m => I.lt _ (List.mem_map_of_mem m), ?_, ?_⟩, fun s I hne => ?_⟩
  · have sz := I.sz
    rw [show (lf s).length = s.1.length from List.length_map _] at sz
    omega
  · have sz := I.sz
    omega
  · obtain ⟨y, h1, h2, _⟩ := near_ok hj I hne
    exact ⟨⟨y, h1⟩, h2, (step_ok hj I hne).1⟩
theorem lf_tab {ns : List Int} {l : List Nat} {qs : List (Nat × Nat)} : lf (tabL ns, l, qs) = [0, 1, 2, 3, 4, 5] := rfl
theorem ci_init {ns : List Int} {b : Nat} (hb : b < 6) : CI r (tabL ns, [b], []) := by
  have hin : ∀ x, x < 6 → x ∈ [0, 1, 2, 3, 4, 5] := by decide
  refine ⟨by rw [lf_tab]; decide, fun x m => ?_, List.nodup_cons.mpr ⟨List.not_mem_nil, List.nodup_nil⟩, fun x m => ?_, trivial, by rw [lf_tab]; rfl, (fun q m => nomatch m), fun x hx m => ?_, (fun w _ _ q m => nomatch m), fun p hp h => ?_⟩
  · rw [lf_tab] at m
    have : ∀ x ∈ [0, 1, 2, 3, 4, 5], x < 6 := by decide
    exact this x m
  · rw [lf_tab, List.mem_singleton.mp m]; exact hin b hb
  · exact absurd (lf_tab ▸ hin x hx) m
  · obtain ⟨_, h1, h2, _⟩ := PRS_ord p hp
    exact (h.elim (fun h => h (lf_tab ▸ hin _ h1)) fun h => h (lf_tab ▸ hin _ h2)).elim
noncomputable def lsEq : List Str → List Str → Bool
  | [], [] => true
  | a :: as, b :: bs => sEq a b && lsEq as bs
  | _, _ => false
theorem lsEq_eq : ∀ {a b : List Str}, lsEq a b = true → a = b
  | [], [], _ => rfl
  | a :: as, b :: bs, h => by
    obtain ⟨h1, h2⟩ := Bool.and_eq_true_iff.mp h
    rw [sEq_iff.mp h1, lsEq_eq h2]
  | [], _ :: _, h => by cases h
  | _ :: _, [], h => by cases h
noncomputable def covB (l : List (Nat × Nat)) : Bool := (List.range 6).all fun x => l.any fun t => t.1 == x || t.2 == x
noncomputable def allIn (l w : List (Nat × Nat)) : Bool := l.all fun t => w.contains t
noncomputable def finB (l : List (Nat × Nat)) : Bool := WAYS.any fun w => lsEq (sortedStrs (l.map kyS)) (w.map kyS) && (allIn l w && (allIn w l && WAYS.all fun w' => !allIn l w' || w' == w))
theorem fin_all : PRS.all (fun p => PRS.all fun q => PRS.all fun s => !covB [p, q, s] || finB [p, q, s]) = true := by decide +kernel
theorem filter_one {α : Type} {p : α → Bool} {w : α} : ∀ {l : List α}, l.Nodup → w ∈ l → (∀ x ∈ l, p x = true ↔ x = w) → l.filter p = [w]
  | [], _, h, _ => by cases h
  | x :: l, nd, h, hp => by
    obtain ⟨n1, n2⟩ := List.nodup_cons.mp nd
    rw [List.filter_cons]
    by_cases q : x = w
    · rw [if_pos ((hp x (by simp)).mpr q)]
      have : l.filter p = [] := List.filter_eq_nil_iff.mpr fun y my hy => n1 (by rw [q, ← (hp y (by simp [my])).mp hy]; exact my)
      rw [this, q]
    · rw [if_neg fun hx => q ((hp x (by simp)).mp hx)]
      exact filter_one n2 ((List.mem_cons.mp h).resolve_left (Ne.symm q)) fun y my => hp y (by simp [my])
theorem WAYS_nd : WAYS.Nodup := by decide +kernel
theorem law_facts (ns : List Int) : LawOk ns := by
  have hj : Inj (rK ns) := inj_of _
  have I0 : CI (rK ns) (tabL ns, [begI ns], []) := ci_init (begI_lt ns)
  refine ⟨⟨CI (rK ns), jok hj, I0⟩, ?_⟩
  have hmu : mu (tabL ns, [begI ns], []) ≤ 8 := by show 6 / 2 + (6 - max 1 1) ≤ 8; decide
  obtain ⟨he, I⟩ := run_ok hj 8 _ I0 hmu
  generalize runQ (rK ns) 8 (tabL ns, [begI ns], []) = s at he I
  obtain ⟨tbl, l, qs⟩ := s
  dsimp only at he
  subst he
  have sz : 0 + 2 * qs.length = 6 := I.sz
  have hn : ∀ x, x ∉ lf (([], l, qs) : S3) := fun x m => nomatch m
  dsimp only
  have hall : ∀ q ∈ qs, q ∈ PRS := fun q m => (I.qp q m).1
  have hcv : covB qs = true := List.all_eq_true.mpr fun x hx => by
    obtain ⟨q, m, h⟩ := I.cv x (List.mem_range.mp hx) (hn x)
    refine List.any_eq_true.mpr ⟨q, m, ?_⟩
    rw [Bool.or_eq_true, beq_iff_eq, beq_iff_eq]
    exact h.imp Eq.symm Eq.symm
  have hfin : finB qs = true := by
    have h3 : qs.length = 3 := by omega
    match qs, h3, hall, hcv with
    | [p, q, t], _, hall, hcv =>
      have := List.all_eq_true.mp (List.all_eq_true.mp (List.all_eq_true.mp fin_all p (hall p (by simp))) q (hall q (by simp))) t (hall t (by simp))
      rw [hcv] at this
      exact this
  obtain ⟨w, hw, h⟩ := List.any_eq_true.mp hfin
  obtain ⟨h1, h⟩ := Bool.and_eq_true_iff.mp h
  obtain ⟨h2, h⟩ := Bool.and_eq_true_iff.mp h
  obtain ⟨h3, h4⟩ := Bool.and_eq_true_iff.mp h
  have a2 : ∀ q ∈ qs, q ∈ w := fun q m => List.contains_iff_mem.mp (List.all_eq_true.mp h2 q m)
  refine ⟨w, hw, filter_one WAYS_nd hw fun w' hw' => ⟨fun hs => ?_, fun e => ?_⟩, lsEq_eq h1⟩
  · have h5 := List.all_eq_true.mp h4 w' hw'
    have h6 : allIn qs w' = true := List.all_eq_true.mpr fun q m => List.contains_iff_mem.mpr (I.un w' hw' hs q m)
    rw [h6] at h5
    exact eq_of_beq h5
  · rw [e]
    refine List.all_eq_true.mpr fun p hp => ?_
    obtain ⟨q, m1, m2, m3⟩ := I.st p hp (.inl (hn _))
    have hm : rK ns q.1 q.2 ∈ heldL (rK ns) w p := List.mem_map.mpr ⟨q, List.mem_filter.mpr ⟨a2 q m1, m2⟩, rfl⟩
    have := (minL_mem (List.ne_nil_of_mem hm)).2 _ hm
    unfold lessB
    rw [Bool.not_eq_true', decide_eq_false_iff_not]
    omega
theorem law_all {ns : List Int} {n : Nat} (h : ns.length ≤ 63) : (E (n + 62)).c 332 [.lst (ns.map .int)] [] = some (.bool true, []) := law_ok h (law_facts ns)
end Mine.Internal.Pl
end
section
open PySem PySem.W PyProof.Rows PySem.Calls
namespace Mine.Internal
noncomputable def fnOf (K : Frag) (a : Addr) : Option FuncData := match K.lookup a with
  | some o => match o.data with
    | .func fd => some fd
    | _ => none
  | none => none
noncomputable def isStrV (q : Str) : Option Value → Bool
  | some (.str x _) => sEq x q
  | _ => false
noncomputable def codeOk (K : Frag) (fd : FuncData) : Bool := match fd.code with
  | .ref c => match K.lookup c with
    | some oc => match oc.data with
      | .fields vs => isStrV fd.qualname vs[1]?
      | _ => false
    | none => false
  | _ => false
noncomputable def viewOf (K : Frag) (a : Addr) : Option (Scope × FuncBody × List (Str × Addr) × Addr × Addr × Bool) := (fnOf K a).map fun fd => (fd.scope, fd.body, fd.closure, fd.globals, fd.builtins, codeOk K fd)
noncomputable def viewD (d : FnD) : Option (Scope × FuncBody × List (Str × Addr) × Addr × Addr × Bool) := some (d.scope, .stmts d.body, [], mainGlobals, builtinsNs, true)
noncomputable def BindP (K : Frag) (fd : FuncData) (d : FnD) : Prop := ∀ xs : List Value, xs.length ≤ d.params.length → d.params.length ≤ xs.length + d.dflt.length → ∃ dv : List Value, dv.length = d.params.length - xs.length ∧
  (∀ S, peek K S (bindArgs fd ⟨xs, []⟩) = some (d.params.zip (xs ++ dv))) ∧ ∀ (T : Stc) (h : Heap) (g : Gh), VRs T h g (d.dflt.drop (d.dflt.length - (d.params.length - xs.length))) dv
noncomputable abbrev ScP (d : FnD) : Prop := namesOk d.scope.names = true ∧ d.scope.kind = .function ∧ d.scope.isCoroutine = false ∧ d.scope.isGenerator = false
structure FnIn (K : Frag) (a : Addr) (d : FnD) : Prop where
  view : viewOf K a = viewD d
  bind : BindP K ((fnOf K a).getD default) d
  sc : ScP d
  par : ∀ x ∈ d.params, d.scope.names.lookup x = some .local ∨ d.scope.names.lookup x = some .cell
  pnd : d.params.Nodup
theorem fnOf_eq {K : Frag} {a : Addr} {fd : FuncData} (h : fnOf K a = some fd) : ∃ o, K.lookup a = some o ∧ o.data = .func fd := by
  unfold fnOf at h
  generalize K.lookup a = x at h ⊢
  cases x with
  | none => exact nos h
  | some o =>
    refine ⟨o, rfl, ?_⟩
    replace h : (match o.data with | .func fd => some fd | _ => none) = some fd := h
    generalize o.data = dt at h ⊢
    cases dt
    case func => exact congrArg _ (Option.some.inj h)
    all_goals exact nos h
set_option tactic.hygienic true in
theorem codeOk_eq {K : Frag} {fd : FuncData} (h : codeOk K fd = true) : ∃ c oc vs t, fd.code = .ref c ∧ K.lookup c = some oc ∧ oc.data = .fields vs ∧ vs[1]? = some (.str fd.qualname t) := by
  unfold codeOk at h
  generalize fd.code = v at h ⊢
  cases v
  case ref c =>
    replace h : (match K.lookup c with | some oc => (match oc.data with | .fields vs => isStrV fd.qualname vs[1]? | _ => false) | none => false) = true := h
    cases h1 : K.lookup c with
    | none => rw [h1] at h; exact tf h.symm
    | some oc =>
      rw [h1] at h
      replace h : (match oc.data with | .fields vs => isStrV fd.qualname vs[1]? | _ => false) = true := h
      cases h2 : oc.data
      case fields vs =>
        rw [h2] at h
        replace h : isStrV fd.qualname vs[1]? = true := h
        cases h3 : vs[1]? with
        | none => rw [h3] at h; exact tf h.symm
        | some x =>
          rw [h3] at h
          cases x
          case str x t => exact ⟨c, oc, vs, t, rfl, h1, h2, sEq_iff.mp h ▸ h3⟩
          all_goals exact tf h.symm
      all_goals rw [h2] at h; exact tf h.symm
  all_goals exact tf h.symm
section
variable {K : Frag} {fd : FuncData} {d : FnD}
theorem bp_of (hd : d.dflt = []) (h : ∀ xs : List Value, xs.length = d.params.length → ∀ S, peek K S (bindArgs fd ⟨xs, []⟩) = some (d.params.zip xs)) : BindP K fd d := fun xs h1 h2 => by
  rw [hd] at h2 ⊢
  have e := Nat.le_antisymm h1 h2
  exact ⟨[], by rw [e, Nat.sub_self]; rfl, fun S => by rw [List.append_nil]; exact h xs e S, fun T h g => by rw [List.drop_nil]; exact .nil⟩
theorem bp1 (hp : d.params.length = 1) (hd : d.dflt = []) (h : ∀ x S, peek K S (bindArgs fd ⟨[x], []⟩) = some (d.params.zip [x])) : BindP K fd d := bp_of hd fun xs e S => by
  obtain ⟨x, rfl⟩ := List.length_eq_one_iff.mp (e.trans hp)
  exact h x S
theorem len_cons {xs : List Value} {n : Nat} (h : xs.length = n + 1) : ∃ x ys, xs = x :: ys ∧ ys.length = n := by
  cases xs with
  | nil => exact nomatch h
  | cons x ys => exact ⟨x, ys, rfl, Nat.succ.inj h⟩
theorem bp2 (hp : d.params.length = 2) (hd : d.dflt = []) (h : ∀ x y S, peek K S (bindArgs fd ⟨[x, y], []⟩) = some (d.params.zip [x, y])) : BindP K fd d := bp_of hd fun xs e S => by
  obtain ⟨x, ys, rfl, e1⟩ := len_cons (e.trans hp)
  obtain ⟨y, rfl⟩ := List.length_eq_one_iff.mp e1
  exact h x y S
theorem bp3 (hp : d.params.length = 3) (hd : d.dflt = []) (h : ∀ x y z S, peek K S (bindArgs fd ⟨[x, y, z], []⟩) = some (d.params.zip [x, y, z])) : BindP K fd d := bp_of hd fun xs e S => by
  obtain ⟨x, ys, rfl, e1⟩ := len_cons (e.trans hp)
  obtain ⟨y, zs, rfl, e2⟩ := len_cons e1
  obtain ⟨z, rfl⟩ := List.length_eq_one_iff.mp e2
  exact h x y z S
end
section
variable {S : Stc} {K : Frag} {T : Top}
theorem frag_top (X : K.In S.h₀) (nt : ∀ a, ¬ S.tb a) {h : Heap} (k : ∀ a o, S.h₀.get? a = some o → ¬ S.tb a → h.get? a = some o) : K.In h := fun a o e => k a o (X a o e) (nt a)
theorem zip_names {l : List Str} {m : List PV} {m' : List Value} (h : m.length = l.length) (h' : m'.length = l.length) : (l.zip m').map (·.1) = (l.zip m).map (·.1) ∧ (l.zip m).map (·.2) = m ∧ (l.zip m').map (·.2) = m' := by
  refine ⟨?_, ?_, ?_⟩
  · rw [List.map_fst_zip (by omega), List.map_fst_zip (by omega)]
  · rw [List.map_snd_zip (by omega)]
  · rw [List.map_snd_zip (by omega)]
theorem len_fit {p x d : Nat} (h1 : x ≤ p) (h2 : p ≤ x + d) : d - (d - (p - x)) = p - x ∧ x + (p - x) = p := ⟨Nat.sub_sub_self (Nat.sub_le_of_le_add (Nat.add_comm x d ▸ h2)), Nat.add_sub_of_le h1⟩
theorem fnat_of (X : K.In S.h₀) (nt : ∀ a, ¬ S.tb a) {a : Addr} {d : FnD} (V : viewOf K a = viewD d) (sc : ScP d) : ∃ o, FnAt S a d o ((fnOf K a).getD default) ∧ keepIn K (.ref a) = true := by
  obtain ⟨fd, h1, h2⟩ := Option.map_eq_some_iff.mp V
  obtain ⟨o, h3, h4⟩ := fnOf_eq h1
  obtain ⟨c, oc, cvs, t, c1, c2, c3, c4⟩ := codeOk_eq (congrArg (·.2.2.2.2.2) h2)
  rw [h1]
  refine ⟨o, ⟨X _ _ h3, nt _, h4, congrArg (·.1) h2, congrArg (·.2.1) h2, congrArg (·.2.2.1) h2, congrArg (·.2.2.2.1) h2, congrArg (·.2.2.2.2.1) h2, ⟨c, oc, cvs, t, c1, X _ _ c2, nt _, c3, c4⟩, sc⟩, ?_⟩
  obtain ⟨oc, od, dt, os⟩ := o
  have h4 : dt = .func fd := h4
  subst h4
  unfold keepIn
  dsimp only
  rw [h3]
theorem fnok_of (X : K.In S.h₀) (nt : ∀ a, ¬ S.tb a) {a : Addr} {d : FnD} (F : FnIn K a d) : FnOk S a d := by
  obtain ⟨o, FA, _⟩ := fnat_of X nt F.view F.sc
  refine ⟨⟨o, _, FA, fun s g ps xs loc hk hb hv => iIf hb fun hlen hb => sp1 hb fun q => ?_⟩, F.par, F.pnd⟩
  subst q
  have hl : xs.length = ps.length := hv.length
  obtain ⟨f1, f2⟩ := len_fit hlen.1 hlen.2
  obtain ⟨dv, d1, d2, d3⟩ := F.bind xs (hl ▸ hlen.1) (hl ▸ hlen.2)
  have z := zip_names (l := d.params) (m := ps ++ d.dflt.drop (d.dflt.length - (d.params.length - ps.length))) (m' := xs ++ dv) (by rw [List.length_append, List.length_drop, f1, f2]) (by rw [List.length_append, d1, hl, f2])
  refine ⟨d.params.zip (xs ++ dv), kp_binds (frag_top X nt hk) d2, z.1, ?_⟩
  rw [z.2.1, z.2.2]
  have := d3 S s.heap g
  rw [hl] at this
  exact hv.append this
inductive PVc : PV → Value → Prop
  | int (i t) : PVc (.int i) (.int i t)
  | str (x t) : PVc (.str x) (.str x t)
  | con (v) : PVc (.con v) v
  | bi (b) : PVc (.bi b) b.val
theorem PVc.vr {v x h g} (q : PVc v x) : VR S h g v x := PVc.casesOn q (fun i t => .int i t) (fun x t => .str x t) (fun v => .con v) fun b => .bi b
noncomputable def GlobIn (K : Frag) (x : Str) (v : PV) : Prop := ∃ val, PVc v val ∧ (nsIn K mainGlobals x = some (some val) ∨ (nsIn K mainGlobals x = some none ∧ nsIn K builtinsNs x = some (some val)))
theorem ns_some {h : Heap} {a : Addr} {m : Str → Option Value} {n : Str} {r : Option Value} (X : K.In h) (G : h.Ns a m) (e : nsIn K a n = some r) : m n = r := by
  obtain ⟨o, es, ep, ho, hd, hnr, hf⟩ := G
  unfold nsIn at e
  cases q : K.lookup a with
  | none => rw [q] at e; exact nos e
  | some o' =>
    have e1 := Option.some.inj ((X _ _ q).symm.trans ho)
    subst e1
    rw [q] at e
    obtain ⟨c, di, dt, sl⟩ := o'
    have hd : dt = .dict es ep := hd
    subst hd
    rw [← hf]
    unfold nsFind findBy
    rw [← Array.find?_toList]
    replace e : (match es.toList.find? (·.key.isStr n) with | some e => some (some e.val) | none => if es.toList.any (·.refKey) then none else some none) = some r := e
    generalize es.toList.find? (·.key.isStr n) = f at e ⊢
    cases f with
    | some en => exact Option.some.inj e
    | none =>
      by_cases w : es.toList.any (·.refKey) = true
      · exact nos ((if_pos w).symm.trans e)
      · exact Option.some.inj ((if_neg w).symm.trans e)
theorem topok_of (X : K.In S.h₀) (nt : ∀ a, ¬ S.tb a) {mg mb} (hg : S.h₀.Ns mainGlobals mg) (hb : S.h₀.Ns builtinsNs mb) (hl : S.h₀.NoLimit) (sys : ∃ o, K.lookup sysModules = some o) (gl : ∀ x v, look x T.glob = some v → GlobIn K x v)
    (fn : ∀ a d, lookN a T.fn = some d → FnIn K a d) : TopOk S T := by
  refine ⟨hl, nt _, ?_, ⟨mg, mb, hg, hb, nt _, nt _, fun x v e => ?_⟩, fun a d e => fnok_of X nt (fn a d e), fun a d e h hk => ?_⟩
  · obtain ⟨o, ho⟩ := sys; exact ⟨o, X _ _ ho⟩
  · obtain ⟨val, h1, h2⟩ := gl x v e
    refine ⟨val, ?_, fun h g => h1.vr⟩
    rcases h2 with h2 | ⟨h2, h3⟩
    · exact .inl (ns_some X hg h2)
    · exact .inr ⟨ns_some X hg h2, ns_some X hb h3⟩
  · exact keeps_K (fnat_of X nt (fn a d e).view (fn a d e).sc).choose_spec.2 h (frag_top X nt hk)
theorem keeps_of (X : K.In S.h₀) (nt : ∀ a, ¬ S.tb a) {a : Addr} (h : keepIn K (.ref a) = true) : Keeps S a := fun hp hk => keeps_K h hp (frag_top X nt hk)
theorem lookN_mem {α : Type} {a : Nat} {d : α} : ∀ {l : List (Nat × α)}, lookN a l = some d → (a, d) ∈ l
  | (k, v) :: r, h => by
    replace h : (match Nat.beq a k with | true => some v | false => lookN a r) = some d := h
    cases q : Nat.beq a k with
    | true => rw [q] at h; exact Nat.eq_of_beq_eq_true q ▸ Option.some.inj h ▸ List.mem_cons_self
    | false => rw [q] at h; exact List.mem_cons_of_mem _ (lookN_mem h)
theorem look_mem {α : Type} {x : Str} {v : α} {l : List (Str × α)} (h : look x l = some v) : (x, v) ∈ l := lookup_mem (look_eq ▸ h)
end
end Mine.Internal
end
section
open PySem PySem.W PyProof.Rows PySem.Calls
namespace Mine.Internal
section
variable {S : Stc} {K : Frag} {T : Top} {P : PrimT} {A : Around} {s : Shared} {g : Gh} {ph ph' : List PO}
set_option tactic.hygienic true in
theorem lookIn_ns {h : Heap} {dx : Addr} {od : Obj} {m : Str → Option Value} {name : Str} (ho : h.get? dx = some od) (N : h.Ns dx m) : lookIn name od = some (m name) := by
  obtain ⟨o, es, ep, h1, h2, h3, h4⟩ := N
  rw [ho] at h1
  cases h1
  unfold lookIn
  rw [h2]; dsimp only
  rw [← h4]
  unfold nsFind findBy
  rw [← Array.find?_toList]
  split
  · rename_i e he; rw [he]; rfl
  · rename_i he
    have : es.toList.any (·.refKey) = false := by
      rw [List.any_eq_false]
      intro e hm
      obtain ⟨n, t, hk⟩ := h3 e (by simpa using hm)
      unfold DictEntry.refKey
      rw [hk]; simp
    rw [this, he]; rfl
theorem shadow_of {od : Obj} {name : Str} (h : lookIn name od = some none) : shadowIn (some od) name = some false := by
  show (lookIn name od).map _ = _
  rw [h]; rfl
theorem method_fnA {prog : Program} {w : World} {A : Around} {E : Value → Shared → Prop} {s : Shared} {K : Frag} {x C : Addr} {ox : Obj} {od : Option Obj} {name : Str} {pl : Sem Bool} {Q : Value × List Value → Shared → Prop} {f : Addr} {ga : String}
    (X : K.In s.heap) (I : InstAt s.heap x ox C od) (hga : findIn K (.ref C) "__getattribute__" = some (some (.builtin ga))) (hcan : Manifest.canonical ga = "object.__getattribute__") (hk : findIn K (.ref C) "__getattr__" = some none)
    (hf : findIn K (.ref C) name = some (some (.ref f))) (ht : typeIn K (.ref f) = some (.type "function")) (hs : shadowIn od name = some false) (h : Q (.ref f, [.ref x]) s) :
    wpAny (model prog w) A (getMethod (.ref x) name pl) Q E s := by
  unfold getMethod specialOf
  refine wpAny_bind (wpAny_bind (I.type.here ((looks_findIn X hga).here ?_)))
  dsimp only
  rw [hcan, if_neg (by decide)]
  refine wpAny_bind (wpAny_bind (I.type.here ((looks_findIn X hk).here ?_)))
  refine wpAny_bind (wpAny_bind (I.type.here ((looks_findIn X hf).here (wpAny_bind ((looks_typeIn X ht).here ?_)))))
  rw [if_neg (by decide +kernel)]
  refine wpAny_bind (wpAny_loadPart I.at_ ?_)
  have hd := I.dict
  cases e : ox.dict with
  | none => exact wpAny_bind (wpAny_rule (wpAny_pure h))
  | some dx =>
    cases od with
    | none => rw [e] at hd; exact hd.elim
    | some o =>
      rw [e] at hd
      obtain ⟨r, a, b⟩ := Option.map_eq_some_iff.mp hs
      refine wpAny_bind (wpAny_bind (wpAny_loadPart hd ?_))
      rw [nsLook_of a]
      refine wpAny_pure ?_
      rw [b]
      exact wpAny_bind (wpAny_rule (wpAny_pure h))
theorem acc_inst {p : Prop} {n : Nat} {xs : List PV} {a : Addr} (I : Inv S s.heap s.toks g ph) (hp : ph[n]? = some (.acc xs)) (hr : g.ρ[n]? = some a) (k : ∀ od ox, InstAt s.heap a ox S.cA (some od) → (∀ x, x ≠ ("_initial_size" : Str) → lookIn x od = some none) → p) : p := by
  obtain ⟨vs, j, dx, od, m, q1, q2, q3, q4, q5, _⟩ := I.obj _ _ _ hp hr
  exact k od _ ⟨q1, rfl, rfl, q2⟩ fun x hx => by rw [lookIn_ns q2 q4, q5 _ hx]
noncomputable def MetIn (K : Frag) (C : Addr) (own : Str) (name : Str) (f : Addr) : Prop := (∃ ga, findIn K (.ref C) "__getattribute__" = some (some (.builtin ga)) ∧ Manifest.canonical ga = "object.__getattribute__" ∧ findIn K (.ref C) "__getattr__" = some none) ∧ findIn K (.ref C) name = some (some (.ref f)) ∧ isFn K (.ref f) = true ∧ name ≠ own
theorem metok_of (X : K.In S.h₀) (nt : ∀ a, ¬ S.tb a) (h1 : ∀ name f, look name T.met = some f → MetIn K S.cH "_headers" name f) (h2 : ∀ name f, look name T.amet = some f → MetIn K S.cA "_initial_size" name f) : MetOk S T := by
  refine ⟨fun {name f A s g ph n x pl} e I r => ?_, fun {name f A s g ph n x xs pl} e I hp r => ?_⟩
  · obtain ⟨⟨ga, b1, b2, b3⟩, a2, a3, a4⟩ := h1 _ _ e
    exact r.eHdr fun y l dx od m q e1 e2 e3 e4 e5 e6 e7 f => q ▸ method_fnA (frag_top X nt I.top) (od := some od) ⟨e2, rfl, rfl, e3⟩ b1 b2 b3 a2 (beq_iff_eq.mp a3) (shadow_of (by rw [lookIn_ns e3 e4, e6 _ a4])) ⟨rfl, g, I, .refl, .refl⟩
  · obtain ⟨⟨ga, b1, b2, b3⟩, a2, a3, a4⟩ := h2 _ _ e
    exact r.eObj fun y q e1 => acc_inst I hp e1 fun od c h1 h2 => q ▸ method_fnA (frag_top X nt I.top) h1 b1 b2 b3 a2 (beq_iff_eq.mp a3) (shadow_of (h2 _ a4)) ⟨rfl, g, I, .refl, .refl⟩
theorem delItem_K {prog : Program} {w : World} {A : Around} {E : Value → Shared → Prop} {s : Shared} {K : Frag} {x C f : Addr} {ox : Obj} {od : Option Obj} {v : Value} {Q : Unit → Shared → Prop} (X : K.In s.heap) (I : InstAt s.heap x ox C od) (hq : noSeq K C = true) (hs : findIn K (.ref C) nDelitem = some (some (.ref f))) (hf : isFn K (.ref f) = true)
    (h : wpAny (model prog w) A (call (.ref f) [.ref x, v]) (fun j9 => Q ()) E s) : wpAny (model prog w) A (delItem (.ref x) v) Q E s := by
  unfold delItem sequenceKey
  refine wpAny_holding (wpAny_bind (wpAny_bind (I.type.here ?_)))
  refine wpAny_bind ((anyM_none X hq).here ?_)
  rw [if_pos (show (!false) = true from rfl)]
  rw [names_ok.2.2.2.2.1] at hs
  exact wpAny_pure (wpAny_bind (special_fn X I hs (beq_iff_eq.mp hf) (wpAny_mono h (fun j9 j9 z => wpAny_pure z) fun j9 j9 z => z)))
theorem objok_of (X : K.In S.h₀) (nt : ∀ a, ¬ S.tb a) (hg : plainGet K S.cH "_headers" = true) (hh : hasDictIn K S.cH = true) {attr : Option Value} (ha : findIn K (.ref S.cH) "_headers" = some attr) (hn : noGet K attr = true)
    (hq : noSeq K S.cH = true) (hd : ∀ f, look nDelitem T.met = some f → findIn K (.ref S.cH) nDelitem = some (some (.ref f)) ∧ isFn K (.ref f) = true) : ObjOk S T P := by
  refine ⟨fun {A s g ph n x} hA I r => ?_, fun {A f s g ph n x y v ph'} hA e I r h => r.eHdr fun z l dx od m q e1 e2 e3 e4 e5 e6 e7 f' => ?_⟩
  rotate_left
  · subst q
    obtain ⟨d1, d2⟩ := hd f e
    exact delItem_K (frag_top X nt I.top) (od := some od) ⟨e2, rfl, rfl, e3⟩ hq d1 d2 (wpAny_mono h (fun j9 j9 p => p.unit) fun j9 j9 z => z)
  have XX : K.In s.heap := frag_top X nt fun a o z1 z2 => I.top a o z1 z2
  have hnm : nHeaders = ("_headers" : Str) := by decide +kernel
  rw [hnm]
  refine r.eHdr fun y l dx od m q e1 e2 e3 e4 e5 e6 e7 f => q ▸ ?_
  have hl := lookIn_ns (name := "_headers") e3 e4
  rw [e5] at hl
  exact get_value XX (od := some od) ⟨e2, rfl, rfl, e3⟩ (plainGet_of hg).1 (findObj_own hh ha hn hl) rfl (Pst.here I (Nat.le_succ _) (.obj e1))
end
end Mine.Internal
end
section
open PySem PySem.W PyProof.Rows PySem.Calls
namespace Mine.Internal
section
variable {prog : Program} {w : World} {A : Around} {E : Value → Shared → Prop} {s : Shared} {K : Frag} {x C : Addr} {ox : Obj} {od : Option Obj} {name : Str} {pl : Sem Bool} {Q : Value × List Value → Shared → Prop}
theorem method_desc {id ga : String} (X : K.In s.heap) (I : InstAt s.heap x ox C od) (hga : findIn K (.ref C) "__getattribute__" = some (some (.builtin ga))) (hcan : Manifest.canonical ga = "object.__getattribute__") (hk : findIn K (.ref C) "__getattr__" = some none)
    (hf : findIn K (.ref C) name = some (some (.builtin id))) (ht : typeIn K (.builtin id) = some (.type "method_descriptor")) (hs : shadowIn od name = some false) (h : Q (.builtin id, [.ref x]) s) :
    wpAny (model prog w) A (getMethod (.ref x) name pl) Q E s := by
  unfold getMethod specialOf
  refine wpAny_bind (wpAny_bind (I.type.here ((looks_findIn X hga).here ?_)))
  dsimp only
  rw [hcan, if_neg (by decide)]
  refine wpAny_bind (wpAny_bind (I.type.here ((looks_findIn X hk).here ?_)))
  refine wpAny_bind (wpAny_bind (I.type.here ((looks_findIn X hf).here (wpAny_bind ((looks_typeIn X ht).here ?_)))))
  rw [if_neg (by decide +kernel)]
  refine wpAny_bind (wpAny_loadPart I.at_ ?_)
  have hd := I.dict
  cases e : ox.dict with
  | none => exact wpAny_bind (wpAny_rule (wpAny_pure h))
  | some dx =>
    cases od with
    | none => rw [e] at hd; exact hd.elim
    | some o =>
      rw [e] at hd
      obtain ⟨r, a, b⟩ := Option.map_eq_some_iff.mp hs
      refine wpAny_bind (wpAny_bind (wpAny_loadPart hd ?_))
      rw [nsLook_of a]
      refine wpAny_pure ?_
      rw [b]
      exact wpAny_bind (wpAny_rule (wpAny_pure h))
end
section
variable {M : Model} {A : Around} {E : Value → Shared → Prop} {s : Shared}
theorem check_meth {id owner n : String} {self : Value} {rest : List Value} {kw : List (Str × Value)} {Q : Unit → Shared → Prop} (hk : builtinKind id = some .method) (hs : splitId id = some (owner, n)) (hi : Looks M s.heap (isInstance self (.type owner)) true) (ha : argsOk id ⟨self :: rest, kw⟩) (q : Q () s) :
    wpAny M A (checkBuiltinCall id ⟨self :: rest, kw⟩) Q E s := by
  simp only [checkBuiltinCall, hk, hs]
  refine wpAny_bind (hi.here ?_)
  simp only [Bool.not_true, Bool.false_eq_true, if_false]
  cases hsig : Manifest.signature? id with
  | none => exact wpAny_pure q
  | some sig =>
    simp only [argsOk, hsig] at ha
    have h2 : Bind.checkArgs id sig ⟨self :: rest, kw⟩ = pure () := ha
    first
      | (rw [h2]; exact wpAny_pure q)
      | (simp only [h2]; exact wpAny_pure q)
theorem kind_append : builtinKind "list.append" = some .method := by decide +kernel
theorem kind_pop : builtinKind "list.pop" = some .method := by decide +kernel
theorem kind_llen : builtinKind "list.__len__" = some .slot := by decide +kernel
theorem split_append : splitId "list.append" = some ("list", "append") := by decide +kernel
theorem split_pop : splitId "list.pop" = some ("list", "pop") := by decide +kernel
theorem plain_append : plainId "list.append" = true := by decide +kernel
theorem inst_list {h : Heap} {M : Model} {K : Frag} {x C : Addr} {ox : Obj} {od : Option Obj} (X : K.In h) (I : InstAt h x ox C od) (hs : subIn K (.ref C) (.type "list") = some true) : Looks M h (isInstance (.ref x) (.type "list")) true := (I.type).andThen (looks_subIn X hs)
end
section
variable {S : Stc} {K : Frag} {T : Top} {A : Around} {s : Shared} {g : Gh} {ph ph' : List PO}
theorem upd_acc {h : Heap} {a : Addr} {c : Value} {d : Option Addr} {xs : Array Value} {n : Nat} (ho : h.get? a = some { cls := c, dict := d, data := .seq xs n }) (f : Array Value → Array Value) :
    (h.update a (Obj.mapSeq f)).get? a = some { cls := c, dict := d, data := .seq (f xs) (if (f xs).size == xs.size then n else n + 1) } := by
  have h1 := ((Heap.get?_eq_some h a _).mp ho).1
  have h2 := ((Heap.get?_eq_some h a _).mp ho).2
  exact (Heap.get?_eq_some _ _ _).mpr ⟨by rw [Heap.objs_update_self, h1]; rfl, h2⟩
theorem acc_upd {n : Nat} {a : Addr} {us us' : List PV} {v : PV} {x : Value} {f : Array Value → Array Value} (I : Inv S s.heap s.toks g ph) (hn : ph[n]? = some (.acc us)) (hr : g.ρ[n]? = some a) (rx : VR S s.heap g v x) (hf : ∀ vs, VRs S s.heap g us vs → ∃ vs', f vs.toArray = vs'.toArray ∧ VRs S s.heap g us' vs') :
    Pst S s g ph v (ph.set n (.acc us')) x { s with heap := s.heap.update a (Obj.mapSeq f) } := by
  obtain ⟨vs, k, dx, od, m, q1, q2, q3, q4, q5, q6, q7, q8⟩ := I.obj _ _ _ hn hr
  obtain ⟨vs', e, r⟩ := hf vs q8
  have hdx : dx ≠ a := fun e => q7.1 (e ▸ List.mem_of_getElem? hr)
  have hs : ∀ (b : Addr) (o : Obj), b ≠ a → s.heap.get? b = some o → (s.heap.update a (Obj.mapSeq f)).get? b = some o := fun b o hb e => Heap.get?_update_of_ne _ (Ne.symm hb) e
  have M := put_mono (m := g.tk) I hr hs (Nat.le_refl _)
  exact ⟨{ g with tk := g.tk }, I.put hr hn hs (Nat.le_refl _) I.tk ⟨vs', _, dx, od, m, (e ▸ upd_acc q1 f), hs _ _ hdx q2, q3, Ns.of_keep q4 fun o ho => hs _ _ hdx ho, q5, q6, q7, r.mono M⟩, Step.put I hr hn nofun nofun hs (Nat.le_refl _) nofun, rx.mono M, .of⟩
theorem acc_append {n : Nat} {a : Addr} {xs : List PV} {v : PV} {x : Value} (X : K.In s.heap) (hsub : subIn K (.ref S.cA) (.type "list") = some true) (I : Inv S s.heap s.toks g ph) (hn : ph[n]? = some (.acc xs)) (hr : g.ρ[n]? = some a) (rx : VR S s.heap g v x) (hl : xs.length ≤ 1000) :
    wpAny (MS S) A (call (.builtin "list.append") [.ref a, x]) (Pst S s g ph .none (ph.set n (.acc (xs ++ [v])))) NoE s := by
  obtain ⟨vs, k, dx, od, m, q1, q2, q3, q4, q5, q6, q7, q8⟩ := I.obj _ _ _ hn hr
  have hlen := q8.length
  refine wpAny_call (codeAny_call_builtin plain_append entry_list_append (check_meth kind_append split_append (inst_list X (od := some od) ⟨q1, rfl, rfl, q2⟩ hsub) (args_list_append _ _) ?_))
  show wpAny _ _ (updateSeq a (·.push x) >>= fun j9 => ret .none) _ _ s
  refine wpAny_bind ?_
  refine wpAny_updateSeq q1 rfl (wpAny_pure ?_) (by rw [sizeLine_eq]; simp; omega) (by rw [sizeLine_eq]; simp; omega)
  exact acc_upd I hn hr .none fun vs r => ⟨vs ++ [x], by simp, r.append (.cons rx .nil)⟩
end
end Mine.Internal
end
section
open PySem PySem.W PyProof.Rows PySem.Calls
namespace Mine.Internal
section
variable {S : Stc} {s : Shared} {g : Gh} {ph ph' ph1 : List PO}
theorem Pst.cut {w v x s'} (I : Inv S s.heap s.toks g ph) (p : Pst S s g ph w ph1 x s') (ef : finish ph.length w ph1 = some (v, ph')) : Pst S s g ph v ph' x s' :=
  Pst.casesOn p fun g2 I2 T r m => call_fin (X' := []) I (fun j9 j9 e => e) nofun I2 T m r ef
end
end Mine.Internal
end
section
open PySem PySem.W PyProof.Rows PySem.Calls
namespace Mine.Internal
section
variable {S : Stc} {K : Frag} {T : Top} {A : Around} {s : Shared} {g : Gh} {ph ph' : List PO} {h : Heap} {k n : Nat} {v b c : PV} {x : Value} {sc : Scope} {loc : Loc}
theorem blt_at {l : List Addr} {n : Nat} {a : Addr} (e : l[n]? = some a) : Nat.blt n l.length = true := Nat.ble_eq_true_of_le (List.getElem?_eq_some_iff.mp e).1
theorem cons_below {xs : List PV} (h1 : v.lt k = true) (h2 : belowL k xs = true) : belowL k (v :: xs) = true := by
  show (match v.lt k with | true => belowL k xs | false => false) = true
  rw [h1]; exact h2
theorem VR.lt (r : VR S h g v x) : v.lt g.ρ.length = true :=
  VR.rec (motive_1 := fun v x j9 => v.lt g.ρ.length = true) (motive_2 := fun vs xs j9 => belowL g.ρ.length vs = true) rfl (fun j9 => rfl) (fun j9 j9 => rfl) (fun j9 j9 => rfl) (fun j9 j9 => rfl) (fun j9 => rfl) (fun j9 => rfl) (fun e => blt_at e) (fun j9 j9 j9 ih => ih) (fun j9 j9 j9 ih => ih) (fun j9 j9 j9 j9 j9 ih => belowD_L.trans ih) (fun j9 j9 => rfl) (fun e j9 j9 j9 j9 j9 j9 j9 j9 => blt_at e) rfl (fun j9 j9 a b => cons_below a b) r
theorem VRs.lt : ∀ {xs : List PV} {vs : List Value}, VRs S h g xs vs → belowL g.ρ.length xs = true
  | [], _, _ => rfl
  | _ :: _, _, r => r.eCons fun j9 j9 j9 a b => cons_below a.lt b.lt
theorem OR.lt {po : PO} {a : Addr} (o : OR S h g po a) : po.lt g.ρ.length = true := by
  cases po with
  | list xs => exact o.elim fun j9 o => o.elim fun j9 o => o.2.lt
  | dict es => exact o.elim fun j9 o => o.elim fun j9 o => belowD_L.trans o.2.2.lt
  | acc xs => obtain ⟨_, _, _, _, _, _, _, _, _, _, _, _, r⟩ := o; exact r.lt
  | lock => rfl
theorem Inv.ltAll (I : Inv S h k g ph) : ph.all (PO.lt ph.length) = true := List.all_eq_true.mpr fun po hm => by
  obtain ⟨n, hn⟩ := List.mem_iff_getElem?.mp hm
  exact I.len ▸ (I.obj n po _ hn (List.getElem?_eq_getElem (I.len ▸ (List.getElem?_eq_some_iff.mp hn).1))).lt
theorem finish_pre {p ex : List PO} (hl : p.length = k) (h : p.all (PO.lt k) = true) (hv : v.lt k = true) (no : asObj v = none) : finish k v (p ++ ex) = some (v, p) := by
  unfold finish
  rw [List.take_left' hl, h]; dsimp only; rw [no]
  unfold finishV; dsimp only; rw [hv]
theorem finish_here {ph1 : List PO} (hl : ph1.length = k) (h : ph1.all (PO.lt k) = true) (hv : v.lt k = true) (no : asObj v = none) : finish k v ph1 = some (v, ph1) :=
  (congrArg (finish k v) (List.append_nil ph1).symm).trans (finish_pre hl h hv no)
theorem belowL_app : ∀ {a b : List PV}, belowL k a = true → belowL k b = true → belowL k (a ++ b) = true
  | [], _, _, h => h
  | _ :: _, _, h1, h2 => cons_below (below_cons h1).1 (belowL_app (below_cons h1).2 h2)
theorem all_set {i : Nat} {po : PO} (h : ph.all (PO.lt k) = true) (hp : po.lt k = true) : (ph.set i po).all (PO.lt k) = true := List.all_eq_true.mpr fun x m =>
  (List.mem_or_eq_of_mem_set m).elim (List.all_eq_true.mp h x) fun q => q ▸ hp
noncomputable def P0 : PrimT := ⟨fun j9 j9 j9 j9 => none, fun j9 j9 => none, 0⟩
theorem p0_ok (n : Nat) : PrimOk S P0 n := ⟨fun j9 j9 e => nos e, fun e => nos e, fun j9 e => nos e⟩
structure Base (S : Stc) (K : Frag) (T : Top) : Prop where
  X : K.In S.h₀
  nt : ∀ a, ¬ S.tb a
  TO : TopOk S T
  MO : MetOk S T
  OO : ObjOk S T P0
theorem Base.H (B : Base S K T) (n : Nat) : Snd S (ev T P0 n) n := ev_ok B.TO p0_ok B.MO B.OO n
theorem Base.kin (B : Base S K T) (I : Inv S s.heap s.toks g ph) : K.In s.heap := frag_top B.X B.nt I.top
structure AccIn (S : Stc) (K : Frag) : Prop where
  ga : ∃ ga, findIn K (.ref S.cA) "__getattribute__" = some (some (.builtin ga)) ∧ Manifest.canonical ga = "object.__getattribute__"
  gt : findIn K (.ref S.cA) "__getattr__" = some none
  sub : subIn K (.ref S.cA) (.type "list") = some true
  app : findIn K (.ref S.cA) nAppend = some (some (.builtin "list.append"))
theorem type_append : typeIn K (.builtin "list.append") = some (.type "method_descriptor") := by
  show pureOf (fastBuiltinType "list.append") = _
  decide +kernel
theorem nAppend_ne : nAppend ≠ ("_initial_size" : Str) := by decide +kernel
theorem tg_acc (B : Base S K T) (C : AccIn S K) {i : Nat} {us : List PV} (hp : ph[i]? = some (.acc us)) : TG S (.obj i) nAppend ph .app := fun A s g x pl I r => r.eObj fun a q hr => q ▸ acc_inst I hp hr fun od ox IA hl => by
  obtain ⟨ga, ga1, ga2⟩ := C.ga
  exact method_desc (B.kin I) IA ga1 ga2 C.gt C.app type_append (shadow_of (hl _ nAppend_ne)) ⟨.app, g, I, .refl, .refl⟩
theorem push_ok (B : Base S K T) (C : AccIn S K) {f : Addr} {d : FnD} {o : Expr} {p2 p6 p7 : Pos} {arg : Expr} {n i : Nat} {us : List PV} {vs : List Value} (FO : FnOk S f d) (hbody : d.body = [.Expr (.Call (.Attribute o nAppend p2) [arg] [] p6) p7]) (hfit : (methFits o p2 p6 [arg] && Nat.blt 0 10) = true)
    (hb : bindArgsP d [.obj i, b, c] = some loc) (he : (ev T P0 n).e d.scope loc o ph = some (.obj i, ph)) (ha : (ev T P0 n).e d.scope loc arg ph = some (.tup [b, c], ph)) (a : AOk A (n + 3)) (I : Inv S s.heap s.toks g ph) (rv : VRs S s.heap g [.obj i, b, c] vs) (hph : ph[i]? = some (.acc us)) (hl : us.length ≤ 1000) :
    wpAny (MS S) A (call (.ref f) vs) (Pst S s g ph .none (ph.set i (.acc (us ++ [.tup [b, c]])))) NoE s := by
  have h2 : belowL ph.length [.obj i, b, c] = true := I.len ▸ rv.lt
  have hin := List.mem_of_getElem? hph
  have hnew : belowL ph.length (us ++ [.tup [b, c]]) = true := belowL_app (List.all_eq_true.mp I.ltAll _ hin) (cons_below (below_cons h2).2 rfl)
  refine call_sem B.TO FO hb (w := .none) (fl := .next) (loc1 := loc) (hbody ▸ tx_next (ts_expr (w := .none) rfl (t_meth (v := .none) hfit (fun j9 => rfl) ((B.H n).e he) (tg_acc B C hph) fun I r hx => ?_)) tx_nil) rfl (finish_here (List.length_set ..) (all_set I.ltAll hnew) rfl rfl) a I rv
  have hs := fits_star (kws := []) hfit
  cases hx
  exact tw_plain hs (ta_cons ((B.H n).e ha) ta_nil) fun a I T rx => eOne rx fun z rz => (r.step T).eObj fun y q hr => q ▸ acc_append (B.kin I) C.sub I hph hr rz hl
end
end Mine.Internal
end
section
open PySem PySem.W PyProof.Rows PySem.Calls
namespace Mine.Internal
section
variable {S : Stc} {K : Frag} {T : Top} {A : Around} {s : Shared} {g : Gh} {ph ph' : List PO} {env : Env} {sc : Scope} {loc loc' loc2 : Loc} {X : List Addr} {n : Nat} {v : PV} {y : Str} {x : Value}
theorem re_entry : entryFor table "re.Pattern.search" = some Builtin.«re.Pattern.search» := entryFor_of_tree (by kernel_rfl)
theorem re_plain : plainId "re.Pattern.search" = true := by decide +kernel
structure PatIn (S : Stc) (K : Frag) (ra : Addr) (name : Str) (W : Str → Prop) : Prop where
  get : ∀ (Sx : Setting) (pl : Sem Bool), peek K Sx (getMethod (.ref ra) name pl) = some (.builtin "re.Pattern.search", [.ref ra])
  chk : ∀ (Sx : Setting) (x : Str) (t : Tok), peek K Sx (checkBuiltinCall "re.Pattern.search" ⟨[.ref ra, .str x t], []⟩) = some ()
  run : ∀ (Sx : Setting) (x : Str) (t : Tok), W x → peek K Sx (Builtin.«re.Pattern.search» ⟨[.ref ra, .str x t], []⟩) = some (.done (.ret .none))
theorem search_ok {ra : Addr} {name : Str} {W : Str → Prop} (XX : K.In s.heap) (P : PatIn S K ra name W) {x : Str} {t : Tok} (hW : W x) {Q : Value → Shared → Prop} (h : Q .none s) : wpAny (MS S) A (call (.builtin "re.Pattern.search") [.ref ra, .str x t]) Q NoE s := by
  refine wpAny_call (codeAny_call_builtin re_plain re_entry ((Looks.of_peek (M := MS S) XX (P.chk _ x t)).here ?_))
  exact (Looks.of_peek (M := MS S) XX (P.run _ x t hW)).here (by first | exact ⟨rfl, h⟩ | exact h)
theorem tt_typestr {k1 k3 : Str} {p1 p2 p3 p4 : Pos} {ev1 : Expr} (h1 : TE S n sc loc (.Name k1 p1) ph (.con (.type "type")) ph) (h2 : TE S n sc loc ev1 ph v ph) (h3 : TE S (n + 1) sc loc (.Name k3 p3) ph (.bi .str) ph) (hv : v.asStr = some y) (hs : [ev1].any isStar = false) :
    TT S (n + 2) sc loc (.Compare (.Call (.Name k1 p1) [ev1] [] p2) [.Is] [.Name k3 p3] p4) ph true ph :=
  tt_cmp (.of rfl fun {A env s g X} a I F => wpAny_Call_Name_kw (wpP (h1.ok a.less I F) fun f s1 g1 I1 T1 r1 m1 => wpAny_mono (Q := Pst S s1 g1 ph (.con (.type "str")) ph) (r1.eCon fun q => q ▸ tw_type (first := []) hs (ta_cons h2 ta_nil) (fun a I T rx => eOne rx fun z rz => eS hv rz fun t => call_type_of (Tx := "str") rfl (by decide) (Pst.same I (.con _))) a.less I1 (F.step I T1)) (fun j9 j9 q => q.after T1 I1 m1) fun j9 j9 z => z))
    h3 fun {A s g va vb} hA I ra rb => ra.eCon fun q => rb.eBi fun q' => q ▸ q' ▸ wpAny_is_self (a := .type "str") rfl (Pst.same I (.bool _))
theorem tt_search (B : Base S K T) {ra : Addr} {name : Str} {W : Str → Prop} (P : PatIn S K ra name W) {o2 e2 : Expr} {p5 p6 : Pos} (hf : methFits o2 p5 p6 [e2] = true) (hs : [e2].any isStar = false) (h1 : TE S n sc loc o2 ph (.con (.ref ra)) ph) (h2 : TE S n sc loc e2 ph v ph) (hv : v.asStr = some y) (hW : W y) :
    TT S n sc loc (.Call (.Attribute o2 name p5) [e2] [] p6) ph false ph :=
  tt_of (v := .none) (fun j9 => rfl) (.of rfl fun {A env s g X} a I F => meth_eval hf (by decide) rfl (wpP (h1.ok a I F) fun ov s1 g1 I1 T1 r1 m1 pl => r1.eCon fun q => q ▸ (Looks.of_peek (M := MS S) (B.kin I1) (P.get _ pl)).here
    (wpAny_mono (tw_plain (first := [.ref ra]) hs (ta_cons h2 ta_nil) (fun a I T rx => eOne rx fun z rz => eS hv rz fun t => search_ok (B.kin I) P hW (Pst.same I .none)) a I1 (F.step I T1)) (fun j9 j9 q => q.after T1 I1 m1) fun j9 j9 z => z))) (truth_ok rfl)
theorem ret_ne : Fl.ret v ≠ .next := nofun
theorem asStr_lt (h : v.asStr = some y) (k : Nat) : v.lt k = true ∧ asObj v = none := by
  cases v <;> first | exact ⟨rfl, rfl⟩ | exact nos h
theorem conv_ok (B : Base S K T) {f : Addr} {d : FnD} {o : Obj} {fd : FuncData} (FA : FnAt S f d o fd) {W : Str → Prop} {k1 k2 k3 n1 n2 n3 kw : Str} {p1 p2 p3 p4 p5 p6 p7 p8 : Pos} {e1 e2 o2 : Expr} {st1 st3 : Stmt} {rb ob rest : List Stmt} {u : PV} {b : Bool} {m : Nat} {ra : Addr} {xs : List Value} {z : Value}
    (hbody : d.body = .If (.Compare (.Call (.Name k1 p1) [e1] [] p2) [.Is] [.Name k3 p3] p4) [st1, .If (.Call (.Attribute o2 k2 p5) [e2] [] p6) rb [] p7, st3] ob p8 :: rest)
    (hpk : ∀ (x y z : Value) (Sx : Setting), peek K Sx (bindArgs fd ⟨[x, y], [(kw, z)]⟩) = some [(n1, x), (n2, y), (n3, z)])
    (hnames : [n1, n2, n3].Nodup ∧ ∀ x ∈ [n1, n2, n3], storable d.scope x = true) (hf : methFits o2 p5 p6 [e2] = true) (hst : [e1].any isStar = false) (hst2 : [e2].any isStar = false)
    (h1 : (ev T P0 (m + 3)).e d.scope [(n1, u), (n2, v), (n3, .bool b)] (.Name k1 p1) ph = some (.con (.type "type"), ph)) (h2 : (ev T P0 (m + 3)).e d.scope [(n1, u), (n2, v), (n3, .bool b)] e1 ph = some (v, ph)) (h3 : (ev T P0 (m + 4)).e d.scope [(n1, u), (n2, v), (n3, .bool b)] (.Name k3 p3) ph = some (.bi .str, ph))
    (P : PatIn S K ra k2 W) (h4 : (ev T P0 (m + 5)).s d.scope [(n1, u), (n2, v), (n3, .bool b)] st1 ph = some (.next, loc2, ph)) (h5 : (ev T P0 (m + 4)).e d.scope loc2 o2 ph = some (.con (.ref ra), ph)) (h6 : (ev T P0 (m + 4)).e d.scope loc2 e2 ph = some (v, ph)) (h7 : (ev T P0 (m + 5)).s d.scope loc2 st3 ph = some (.ret v, loc2, ph))
    (a : AOk A (m + 7)) (I : Inv S s.heap s.toks g ph) (rv : VRs S s.heap g [u, v] xs) (rz : VR S s.heap g (.bool b) z) (hv : v.asStr = some y) (hW : W y) :
    wpAny (MS S) A (call (.ref f) xs [(kw, z)]) (Pst S s g ph v ph) NoE s := by
  have t1 : TT S (m + 5) d.scope [(n1, u), (n2, v), (n3, .bool b)] (.Compare (.Call (.Name k1 p1) [e1] [] p2) [.Is] [.Name k3 p3] p4) ph true ph := tt_typestr ((B.H _).e h1) ((B.H _).e h2) ((B.H _).e h3) hv hst
  have t2 : TT S (m + 4) d.scope loc2 (.Call (.Attribute o2 k2 p5) [e2] [] p6) ph false ph := tt_search B P hf hst2 ((B.H _).e h5) ((B.H _).e h6) hv hW
  have x1 : TX S (m + 5) d.scope [(n1, u), (n2, v), (n3, .bool b)] [st1, .If (.Call (.Attribute o2 k2 p5) [e2] [] p6) rb [] p7, st3] ph (.ret v) loc2 ph :=
    tx_next ((B.H _).s h4) (tx_next (ts_if t2 tx_nil) (tx_end ((B.H _).s h7) ret_ne))
  have tx : TX S (m + 6) d.scope [(n1, u), (n2, v), (n3, .bool b)] (.If (.Compare (.Call (.Name k1 p1) [e1] [] p2) [.Is] [.Name k3 p3] p4) [st1, .If (.Call (.Attribute o2 k2 p5) [e2] [] p6) rb [] p7, st3] ob p8 :: rest) ph (.ret v) loc2 ph := tx_end (ts_if t1 x1) ret_ne
  obtain ⟨l1, l2⟩ := asStr_lt hv ph.length
  refine rv.eCons fun x1 us q r1 rs => eOne (motive := fun us => x1 :: us = xs → _) rs (fun x2 r2 q => ?_) q
  subst q
  refine wpAny_call (codeAny_mono (call_gen B.TO a I FA (args := ⟨[x1, x2], [(kw, z)]⟩) (loc := [(n1, u), (n2, v), (n3, .bool b)]) (fun A' => kp_binds (B.kin I) (fun Sx => hpk x1 x2 z Sx) _ _ _ _ ⟨g, I, .refl, .refl, rfl, .cons r1 (.cons r2 (.cons rz .nil))⟩) ⟨hnames.1, fun p hp => ?_⟩ (hbody ▸ tx) rfl (finish_here rfl I.ltAll l1 l2)) fun r s' hr => ?_)
  · exact hnames.2 p.1 (List.mem_map.mpr ⟨p, hp, rfl⟩)
  · obtain ⟨x, rfl, p⟩ := hr
    exact p
end
end Mine.Internal
end
section
open PySem PySem.W PyProof.Rows PySem.Calls
namespace Mine.Internal
set_option tactic.hygienic true in
theorem wp_peekA {α : Type} {K : Frag} {M : Model} {A : Around} {E : Value → Shared → Prop} {Q : α → Shared → Prop} {s : Shared} {o : Obj} (X : K.In s.heap) :
    ∀ (t : Sem α) (g : Addr → Sem α), peekA K ⟨M.prog, M.w.params⟩ t = some (o, g) → wpAny M A (g s.heap.objs.size) Q E { s with heap := s.heap.push o } → wpAny M A t Q E s := by
  intro t
  induction t with
  | rule _ k ih => intro g e q Γ p hΓ; exact ih () g e q Γ p hΓ
  | point _ k ih => intro g e q Γ p hΓ; exact ih () g e q Γ p hΓ
  | ask k ih => intro g e q Γ p hΓ; exact ih _ g e q Γ p hΓ
  | load a _ k ih =>
    intro g e q Γ p hΓ
    simp only [peekA] at e
    split at e
    · rename_i ob ho; exact ⟨ob, X _ _ ho, ih ob g e q Γ p hΓ⟩
    · cases e
  | alloc ob k _ =>
    intro g e q
    have e : some (ob, k) = some (o, g) := e
    obtain ⟨e1, e2⟩ := Prod.mk.inj (Option.some.inj e)
    subst e1
    subst e2
    show wpAny M A (alloc ob >>= k) Q E s
    exact wpAny_bind (wpAny_alloc q)
  | _ => intro g e; cases e
section
variable {S : Stc} {K : Frag} {T : Top} {P : PrimT} {A : Around} {s : Shared} {g : Gh} {ph ph' : List PO}
theorem bind_kw (B : Base S K T) (I : Inv S s.heap s.toks g ph) {fd : FuncData} {args : Args} {n1 n2 n3 n4 : Str} {x y z : Value} {u v w : PV}
    (hpk : ∀ Sx : Setting, peekA K Sx (bindArgs fd args) = some ({ cls := .type "dict", data := .dict #[] }, fun D => pure [(n1, x), (n2, y), (n3, z), (n4, .ref D)])) (r1 : VR S s.heap g u x) (r2 : VR S s.heap g v y) (r3 : VR S s.heap g w z) (A' : Around) :
    wpAny (MS S) A' (bindArgs fd args) (fun binds s1 => ∃ g1, Inv S s1.heap s1.toks g1 (ph ++ [.dict []]) ∧ Step S [] s.heap g ph s1.heap g1 (ph ++ [.dict []]) ∧ Same s s1 ∧ binds.map (·.1) = ([(n1, u), (n2, v), (n3, w), (n4, .obj ph.length)] : Loc).map (·.1) ∧
      VRs S s1.heap g1 (([(n1, u), (n2, v), (n3, w), (n4, .obj ph.length)] : Loc).map (·.2)) (binds.map (·.2))) NoE s := by
  refine wp_peekA (B.kin I) _ _ (hpk _) (wpAny_pure ?_)
  have e0 := none_size s.heap
  have kp : ∀ (b : Addr) (o : Obj), s.heap.get? b = some o → (s.heap.push { cls := .type "dict", data := .dict #[] }).get? b = some o := fun b o e => Heap.get?_push_of_some _ e
  have M := new_mono (m := g.tk) I e0 kp (Nat.le_refl _)
  refine ⟨⟨g.ρ ++ [s.heap.objs.size], g.ξ, g.tk⟩, I.new e0 kp (Nat.le_refl _) I.tk ?_, .more I e0 kp (Nat.le_refl _), .of, rfl, .cons (r1.mono M) (.cons (r2.mono M) (.cons (r3.mono M) (.cons (.obj (by rw [← I.len]; simp)) .nil)))⟩
  obtain ⟨ep, h⟩ := (Heap.DictOf.new (knd := strKind S.prog S.w) s.heap).dictAt
  exact ⟨[], ep, h, rfl, .nil⟩
theorem for_none (B : Base S K T) {sc : Scope} {loc : Loc} {n : Nat} {xk xv nm : Str} {pk pv pt pos apos cpos pn : Pos} {x1 : Nat} {body : List Stmt} {i : Nat}
    (hk : sc.names.lookup xk = some .local) (hv : sc.names.lookup xv = some .local) (hn : nameP T sc loc nm = some (.obj i)) (hi : ph[i]? = some (.dict [])) (hline : (apos.endLine == cpos.line) = true) :
    TS S n sc loc (.For (.Tuple [.Name xk pk, .Name xv pv] x1 pt) (.Call (.Attribute (.Name nm pn) "items" apos) [] [] cpos) body [] pos) ph .next loc ph := fun {A env s g X} a I F => by
  obtain ⟨m, q1, q2⟩ := F.ns
  have hr := List.getElem?_eq_getElem (I.len ▸ (List.getElem?_eq_some_iff.mp hi).1 : i < g.ρ.length)
  generalize g.ρ[i]'(I.len ▸ (List.getElem?_eq_some_iff.mp hi).1) = d at hr
  obtain ⟨kvs, ep, d1, d2, d3⟩ := I.obj _ _ _ hi hr
  have hkv : kvs = [] := List.map_eq_nil_iff.mp d2
  subst hkv
  have hm := List.mem_of_getElem? hr
  have hdL : d ≠ env.locals := fun q => (I.xi _ (F.sub _ F.L)).2.1 (q ▸ hm)
  have hdS : (d == sysModules) = false := beq_eq_false_iff_ne.mpr fun q => let ⟨o, ho⟩ := B.TO.sys; nos ((I.lo _ hm).symm.trans (q ▸ ho))
  refine wpAny_up (wpAny_For_items_locals (knd := strKind S.prog S.w) (d := d) (kvs := []) (ep := ep) (m := m) a.hand (F.kd _ _ hk) (F.kd _ _ hv) (by rw [F.kind]; rfl) hdL hdS d1 q1 (by rfl) hline ?_ (fun j9 m' => m' = m) rfl ?_ ?_ (by intro _; rfl))
  · intro Q' hQ'
    exact wpAny_Name (name_load (A := A) B.TO I F hn (Q := fun x s' => Q' x s') fun val q => q.eObj fun b e e' => e ▸ Option.some.inj (hr.symm.trans e') ▸ hQ') (name_dbg F hn)
  · intro i k v key m₁ s₁ h
    exact nos h
  · rintro h' tk m' n1 rfl kp htk
    have hw : ∀ b ∈ [env.locals], b ∈ g.ξ := fun b hb => List.mem_singleton.mp hb ▸ F.sub _ F.L
    have al : ∀ b ∈ [env.locals], ∃ o, h'.get? b = some o := fun b hb => let ⟨o, es, ep, ho, _⟩ := n1; List.mem_singleton.mp hb ▸ ⟨o, ho⟩
    have kp' : ∀ b o, b ∉ [env.locals] → s.heap.get? b = some o → h'.get? b = some o := fun b o hb e => kp b o (fun q => hb (q ▸ List.mem_singleton_self _)) e
    have M := xchg_mono (S := S) (g := g) hw kp'
    have kc : ∀ {x c}, env.cells.lookup x = some c → c ∉ [env.locals] := fun q z => F.nl _ _ q (List.mem_singleton.mp z)
    exact ⟨g, I.xchg hw al kp' htk, .xchg I hw al kp' (fun b hb => List.mem_singleton.mp hb ▸ F.L), .of, ⟨F.kind, F.glob, F.blt, F.kd, ⟨m', n1, fun x v e1 e2 => let ⟨val, w1, w2⟩ := q2 x v e1 e2; ⟨val, w1, w2.mono M⟩⟩,
      fun x v k e1 e2 e3 => let ⟨c, val, w1, ⟨o, ho, hd⟩, w3⟩ := F.cell x v k e1 e2 e3; ⟨c, val, w1, ⟨o, kp' _ _ (kc w1) ho, hd⟩, w3.mono M⟩, fun x e => let ⟨c, v, w1, ⟨o, ho, hd⟩, w3⟩ := F.own x e; ⟨c, v, w1, ⟨o, kp' _ _ (kc w1) ho, hd⟩, w3⟩, F.inj, F.L, F.sub, F.cxi, F.nl, F.dbg⟩, trivial⟩
theorem Pst.retell {v x s'} {i : Nat} {xs ys : List PV} (p : Pst S s g ph v ph' x s') (hi : ph'[i]? = some (.list xs)) (w : ∀ (h : Heap) (g' : Gh) vs, VRs S h g' xs vs → VRs S h g' ys vs) : Pst S s g ph v (ph'.set i (.list ys)) x s' := by
  obtain ⟨g', I, TT, r, m⟩ := p
  have hlt := (List.getElem?_eq_some_iff.mp hi).1
  have hr := List.getElem?_eq_getElem (I.len.symm ▸ hlt : i < g'.ρ.length)
  obtain ⟨vs, k, z1, z2⟩ := I.obj _ _ _ hi hr
  refine ⟨g', I.setp hr ⟨vs, k, z1, w _ _ _ z2⟩, ⟨TT.keep, TT.pre, TT.xi, TT.new, fun n hn => (TT.lock n hn).trans ?_, TT.xal, TT.tk⟩, r, m⟩
  by_cases q : i = n
  · subst q
    rw [List.getElem?_set_self hlt, hi]
    exact ⟨fun z => (nomatch Option.some.inj z), fun z => (nomatch Option.some.inj z)⟩
  · rw [List.getElem?_set_ne q]
theorem strg_str {h : Heap} {g' : Gh} {va : PV} {a : Str} (ha : va.asStr = some a) {x : Value} (r : VR S h g' va x) : VR S h g' (.str a) x := eS ha r fun t => .str _ _
theorem tup_weak {h : Heap} {g' : Gh} {va vb : PV} {a : Str} (ha : va.asStr = some a) : ∀ {xs : List PV} {vs : List Value}, VRs S h g' (xs ++ [.tup [va, vb]]) vs → VRs S h g' (xs ++ [.tup [.str a, vb]]) vs
  | [], _, r => eOne r fun x r => r.eTup fun b ws k q e1 e2 e3 => e3.eCons fun y ys q' r1 r2 => q ▸ .cons (.tup e1 e2 (q' ▸ .cons (strg_str ha r1) r2)) .nil
  | _ :: _, _, r => r.eCons fun j9 j9 q a b => q ▸ .cons a (tup_weak ha b)
theorem add_ok (B : Base S K T) (H : ∀ n, Snd S (ev T P n) n) {f : Addr} {d : FnD} {o : Obj} {fd : FuncData} (FA : FnAt S f d o fd) {n1 n2 n3 n4 xk xv : Str} {st0 st1 st3 : Stmt} {pk pv pt pos apos cpos pn : Pos} {x1 : Nat} {fb : List Stmt} {loc1 loc2 : Loc} {m i : Nat} {va vb : PV} {a b : Str} {xs : List PV} {us : List Value}
    (hbody : d.body = [st0, st1, .For (.Tuple [.Name xk pk, .Name xv pv] x1 pt) (.Call (.Attribute (.Name n4 pn) "items" apos) [] [] cpos) fb [] pos, st3])
    (hpk : ∀ (x y z : Value) (Sx : Setting), peekA K Sx (bindArgs fd ⟨[x, y, z], []⟩) = some ({ cls := .type "dict", data := .dict #[] }, fun D => pure [(n1, x), (n2, y), (n3, z), (n4, .ref D)]))
    (hnames : [n1, n2, n3, n4].Nodup ∧ ∀ x ∈ [n1, n2, n3, n4], storable d.scope x = true) (hk : d.scope.names.lookup xk = some .local) (hv : d.scope.names.lookup xv = some .local) (hline : (apos.endLine == cpos.line) = true)
    (h0 : (ev T P m).s d.scope [(n1, .hdr i), (n2, va), (n3, vb), (n4, .obj ph.length)] st0 (ph ++ [.dict []]) = some (.next, loc1, ph ++ [.dict []] ++ [.list []])) (h1 : (ev T P m).s d.scope loc1 st1 (ph ++ [.dict []] ++ [.list []]) = some (.next, loc2, ph ++ [.dict []] ++ [.list [vb]])) (h2 : nameP T d.scope loc2 n4 = some (.obj ph.length))
    (h3 : (ev T P m).s d.scope loc2 st3 (ph ++ [.dict []] ++ [.list [vb]]) = some (.next, loc2, ph.set i (.list (xs ++ [.tup [va, .str b]])) ++ [.dict []] ++ [.list [vb]]))
    (ao : AOk A (m + 1)) (I : Inv S s.heap s.toks g ph) (rv : VRs S s.heap g [.hdr i, va, vb] us) (ha : va.asStr = some a) (hi : ph[i]? = some (.list xs)) :
    wpAny (MS S) A (call (.ref f) us) (Pst S s g ph .none (ph.set i (.list (xs ++ [.tup [.str a, .str b]])))) NoE s := by
  have hall := I.ltAll
  have hil := (List.getElem?_eq_some_iff.mp hi).1
  have hnew : PO.lt ph.length (.list (xs ++ [.tup [va, .str b]])) = true := belowL_app (List.all_eq_true.mp hall (.list xs) (List.mem_of_getElem? hi)) (cons_below (cons_below (asStr_lt ha _).1 rfl) rfl)
  have hall2 := all_set (i := i) hall hnew
  have hd0 : (ph ++ [PO.dict []] ++ [PO.list [vb]])[ph.length]? = some (.dict []) := by rw [List.append_assoc, List.getElem?_append_right (Nat.le_refl _), Nat.sub_self]; rfl
  have fin1 : finish (ph ++ [PO.dict []]).length .none (ph.set i (.list (xs ++ [.tup [va, .str b]])) ++ [.dict []] ++ [.list [vb]]) = some (.none, ph.set i (.list (xs ++ [.tup [va, .str b]])) ++ [.dict []]) := by
    refine finish_pre (by rw [List.length_append, List.length_set, List.length_append]) ?_ rfl rfl
    rw [List.all_append, List.length_append]
    exact Bool.and_eq_true_iff.mpr ⟨List.all_eq_true.mpr fun po hm => Pl.PO.lt_mono (Nat.le_succ _) po (List.all_eq_true.mp hall2 po hm), rfl⟩
  have fin2 : finish ph.length .none (ph.set i (.list (xs ++ [.tup [va, .str b]])) ++ [.dict []]) = some (.none, ph.set i (.list (xs ++ [.tup [va, .str b]]))) := finish_pre (List.length_set ..) hall2 rfl rfl
  have tx : TX S m d.scope [(n1, .hdr i), (n2, va), (n3, vb), (n4, .obj ph.length)] [st0, st1, .For (.Tuple [.Name xk pk, .Name xv pv] x1 pt) (.Call (.Attribute (.Name n4 pn) "items" apos) [] [] cpos) fb [] pos, st3] (ph ++ [.dict []]) .next loc2 (ph.set i (.list (xs ++ [.tup [va, .str b]])) ++ [.dict []] ++ [.list [vb]]) :=
    tx_next ((H m).s h0) (tx_next ((H m).s h1) (tx_next (for_none B hk hv h2 hd0 hline) (tx_next ((H m).s h3) tx_nil)))
  refine rv.eCons fun u1 us1 q r1 rs => eTwo (motive := fun l => u1 :: l = us → _) rs (fun u2 u3 r2 r3 q => ?_) q
  subst q
  refine wpAny_call (codeAny_mono (call_gen B.TO ao I FA (args := ⟨[u1, u2, u3], []⟩) (loc := [(n1, .hdr i), (n2, va), (n3, vb), (n4, .obj ph.length)]) (w := .none) (bind_kw B I (hpk u1 u2 u3) r1 r2 r3) ⟨hnames.1, fun p hp => hnames.2 p.1 (List.mem_map.mpr ⟨p, hp, rfl⟩)⟩ (hbody ▸ tx) rfl fin1) fun r s' hr => ?_)
  obtain ⟨x, rfl, p⟩ := hr
  have p3 := (Pst.cut I p fin2).retell (List.getElem?_set_self hil) (ys := xs ++ [.tup [.str a, .str b]]) fun h g' vs r => tup_weak ha r
  rw [List.set_set] at p3
  exact p3
end
end Mine.Internal
end
section
open PySem PySem.W PyProof.Rows PySem.Calls
namespace Mine.Internal
section
variable {β : Type} {p : Prop} {r : β}
theorem kv1 {vs : List (Str × PV)} {k : Str × PV → Option β} (e : (match vs with | [v] => k v | _ => none) = some r) (q : ∀ v, vs = [v] → k v = some r → p) : p := by
  cases vs with
  | nil => exact nos e
  | cons v vs =>
    cases vs with
    | nil => exact q _ rfl e
    | cons u vs => exact nos e
theorem t3 {vs : List PV} {k : PV → PV → PV → Option β} (e : (match vs with | [a, b, c] => k a b c | _ => none) = some r) (q : ∀ a b c, vs = [a, b, c] → k a b c = some r → p) : p := by
  cases vs with
  | nil => exact nos e
  | cons a vs =>
    cases vs with
    | nil => exact nos e
    | cons b vs =>
      cases vs with
      | nil => exact nos e
      | cons c vs =>
        cases vs with
        | nil => exact q _ _ _ rfl e
        | cons d vs => exact nos e
end
section
variable {S : Stc} {K : Frag} {T : Top} {A : Around} {s : Shared} {g : Gh} {ph ph' : List PO} {n : Nat} {v : PV} {vs : List PV} {xs : List Value} {xs' : List PV}
noncomputable def Pc (W : Str → Bool) (conv : Nat) : PrimT := ⟨fun a vs kvs ph => match Nat.beq a conv with
  | true => Pl.convP W vs kvs ph
  | false => none, fun j9 j9 => none, 8⟩
noncomputable abbrev kwName : Str := ⟨#[110, 97, 109, 101]⟩
noncomputable def ConvSound (S : Stc) (conv : Addr) (W : Str → Prop) : Prop := ∀ ⦃A : Around⦄ ⦃n : Nat⦄ ⦃s : Shared⦄ ⦃g : Gh⦄ ⦃ph : List PO⦄ ⦃u v : PV⦄ ⦃b : Bool⦄ ⦃xs : List Value⦄ ⦃z : Value⦄ ⦃y : Str⦄, 8 ≤ n → AOk A n → Inv S s.heap s.toks g ph → VRs S s.heap g [u, v] xs → VR S s.heap g (.bool b) z → v.asStr = some y → W y →
  wpAny (MS S) A (call (.ref conv) xs [(kwName, z)]) (Pst S s g ph v ph) NoE s
set_option tactic.hygienic true in
theorem isB_eq {w : PV} (h : Pl.isB w = true) : ∃ b, w = .bool b := by
  cases w
  case bool b => exact ⟨b, rfl⟩
  all_goals exact tf h.symm
theorem conv_of {W : Str → Bool} {conv : Addr} (CS : ConvSound S conv fun y => W y = true) {kvs : List (Str × PV)} {ys : List Value} (hn : 8 ≤ n) (ha : AOk A n) (e : Pl.convP W vs kvs ph = some (v, ph')) (I : Inv S s.heap s.toks g ph) (rv : VRs S s.heap g vs xs) (rk : VRs S s.heap g (kvs.map (·.2)) ys) :
    wpAny (MS S) A (call (.ref conv) xs ((kvs.map (·.1)).zip ys)) (Pst S s g ph v ph') NoE s :=
  l2 e fun o w q e => iN e fun k hk e => kv1 e fun kv q' e => iT e fun hq e => iS e fun y hy e => iT e fun hw e => sp2 e fun z1 z2 => by
    subst q; subst q'; subst z1; subst z2
    obtain ⟨h1, h2⟩ := Bool.and_eq_true_iff.mp hq
    obtain ⟨b, hb⟩ := isB_eq h2
    obtain ⟨nm, w2⟩ := kv
    have e1 : nm = kwName := nEq_iff.mp h1
    have e2 : w2 = .bool b := hb
    subst e1; subst e2
    exact eOne (motive := fun ys => wpAny (MS S) A (call (.ref conv) xs ([kwName].zip ys)) (Pst S s g ph v ph) NoE s) rk fun z rz => CS hn ha I rv rz hy hw
theorem pc_ok {W : Str → Bool} {conv : Addr} (CS : ConvSound S conv fun y => W y = true) (hk : Keeps S conv) (n : Nat) : PrimOk S (Pc W conv) n :=
  ⟨fun hn ha e I rv rk => iT e fun q e => Nat.eq_of_beq_eq_true q ▸ conv_of CS hn ha e I rv rk, fun e => iT e fun q j9 => (Nat.eq_of_beq_eq_true q).symm ▸ hk, fun j9 e => nos e⟩
theorem Base.HC (B : Base S K T) {W : Str → Bool} {conv : Addr} (CS : ConvSound S conv fun y => W y = true) (hk : Keeps S conv) (n : Nat) : Snd S (ev T (Pc W conv) n) n :=
  ev_ok B.TO (pc_ok CS hk) B.MO ⟨B.OO.attr, B.OO.del⟩ n
end
end Mine.Internal
end
section
open PySem PySem.W PyProof.Rows PySem.Calls
namespace Mine.Internal
set_option maxRecDepth 100000
set_option maxHeartbeats 0
open Mine.Internal.Pl
section
variable (P : Params)
theorem f129 : FnIn (K2.K P) 129 dSub := ⟨by kernel_rfl, bp2 rfl rfl fun x y S => by kernel_rfl, by decide +kernel, by decide +kernel, by decide +kernel⟩
theorem f136 : FnIn (K2.K P) 136 dLev := ⟨by kernel_rfl, bp3 rfl rfl fun x y z S => by kernel_rfl, by decide +kernel, by decide +kernel, by decide +kernel⟩
theorem f293 : FnIn (K2.K P) 293 dWord := ⟨by kernel_rfl, bp1 rfl rfl fun x S => by kernel_rfl, by decide +kernel, by decide +kernel, by decide +kernel⟩
theorem f300 : FnIn (K2.K P) 300 dTurn := ⟨by kernel_rfl, bp2 rfl rfl fun x y S => by kernel_rfl, by decide +kernel, by decide +kernel, by decide +kernel⟩
theorem f305 : FnIn (K2.K P) 305 dCost := ⟨by kernel_rfl, bp2 rfl rfl fun x y S => by kernel_rfl, by decide +kernel, by decide +kernel, by decide +kernel⟩
theorem f312 : FnIn (K2.K P) 312 dRanks := ⟨by kernel_rfl, bp1 rfl rfl fun x S => by kernel_rfl, by decide +kernel, by decide +kernel, by decide +kernel⟩
theorem f317 : FnIn (K2.K P) 317 dPaired := ⟨by kernel_rfl, bp3 rfl rfl fun x y z S => by kernel_rfl, by decide +kernel, by decide +kernel, by decide +kernel⟩
theorem f322 : FnIn (K2.K P) 322 dWays := ⟨by kernel_rfl, bp1 rfl rfl fun x S => by kernel_rfl, by decide +kernel, by decide +kernel, by decide +kernel⟩
theorem f327 : FnIn (K2.K P) 327 dSteady := ⟨by kernel_rfl, bp2 rfl rfl fun x y S => by kernel_rfl, by decide +kernel, by decide +kernel, by decide +kernel⟩
theorem f332 : FnIn (K2.K P) 332 dLaw := ⟨by kernel_rfl, bp1 rfl rfl fun x S => by kernel_rfl, by decide +kernel, by decide +kernel, by decide +kernel⟩
theorem f229 : FnIn (K2.K P) 229 dGet := ⟨by kernel_rfl, fun xs h1 h2 => by
  obtain ⟨x, ys, rfl, e1⟩ := len_cons (xs := xs) (n := xs.length - 1) (Nat.sub_add_cancel (Nat.le_of_succ_le (Nat.le_of_succ_le_succ h2))).symm
  cases ys with
  | nil => exact absurd (show 3 ≤ 2 from h2) (by decide)
  | cons y ys =>
    cases ys with
    | nil => exact ⟨[.none], rfl, fun S => by kernel_rfl, fun T h g => .cons .none .nil⟩
    | cons z ys =>
      cases ys with
      | nil => exact ⟨[], rfl, fun S => by kernel_rfl, fun T h g => .nil⟩
      | cons w ys => exact absurd (show ys.length + 4 ≤ 3 from h1) (by omega), by decide +kernel, by decide +kernel, by decide +kernel⟩
theorem f234 : FnIn (K2.K P) 234 dKeys := ⟨by kernel_rfl, bp1 rfl rfl fun x S => by kernel_rfl, by decide +kernel, by decide +kernel, by decide +kernel⟩
theorem f200 : FnIn (K2.K P) 200 dDel := ⟨by kernel_rfl, bp2 rfl rfl fun x y S => by kernel_rfl, by decide +kernel, by decide +kernel, by decide +kernel⟩
theorem fn_list : ∀ p ∈ tT.fn, FnIn (K2.K P) p.1 p.2 := List.forall_mem_cons.mpr ⟨f129 P, List.forall_mem_cons.mpr ⟨f136 P, List.forall_mem_cons.mpr ⟨f293 P, List.forall_mem_cons.mpr ⟨f300 P, List.forall_mem_cons.mpr ⟨f305 P, List.forall_mem_cons.mpr ⟨f312 P, List.forall_mem_cons.mpr ⟨f317 P, List.forall_mem_cons.mpr ⟨f322 P, List.forall_mem_cons.mpr ⟨f327 P, List.forall_mem_cons.mpr ⟨f332 P, List.forall_mem_cons.mpr ⟨f229 P, List.forall_mem_cons.mpr ⟨f234 P, List.forall_mem_cons.mpr ⟨f200 P, (List.forall_mem_nil _)⟩⟩⟩⟩⟩⟩⟩⟩⟩⟩⟩⟩⟩
theorem fn_all : ∀ a d, lookN a tT.fn = some d → FnIn (K2.K P) a d := fun a d h => fn_list P (a, d) (lookN_mem h)
theorem gl_list : ∀ p ∈ tT.glob, GlobIn (K2.K P) p.1 p.2 := List.forall_mem_cons.mpr ⟨⟨_, .int _ _, .inl rfl⟩, List.forall_mem_cons.mpr ⟨⟨_, .int _ _, .inl rfl⟩, List.forall_mem_cons.mpr ⟨⟨_, .int _ _, .inl rfl⟩, List.forall_mem_cons.mpr ⟨⟨.ref 129, .con _, .inl (by kernel_rfl)⟩, List.forall_mem_cons.mpr ⟨⟨.ref 136, .con _, .inl (by kernel_rfl)⟩, List.forall_mem_cons.mpr ⟨⟨.ref 293, .con _, .inl (by kernel_rfl)⟩, List.forall_mem_cons.mpr ⟨⟨.ref 300, .con _, .inl (by kernel_rfl)⟩, List.forall_mem_cons.mpr ⟨⟨.ref 305, .con _, .inl (by kernel_rfl)⟩, List.forall_mem_cons.mpr ⟨⟨.ref 312, .con _, .inl (by kernel_rfl)⟩, List.forall_mem_cons.mpr ⟨⟨.ref 317, .con _, .inl (by kernel_rfl)⟩, List.forall_mem_cons.mpr ⟨⟨.ref 322, .con _, .inl (by kernel_rfl)⟩, List.forall_mem_cons.mpr ⟨⟨.ref 327, .con _, .inl (by kernel_rfl)⟩, List.forall_mem_cons.mpr ⟨⟨_, .bi .len, .inr ⟨by kernel_rfl, by kernel_rfl⟩⟩, List.forall_mem_cons.mpr ⟨⟨_, .bi .zip, .inr ⟨by kernel_rfl, by kernel_rfl⟩⟩, List.forall_mem_cons.mpr ⟨⟨_, .bi .min, .inr ⟨by kernel_rfl, by kernel_rfl⟩⟩, List.forall_mem_cons.mpr ⟨⟨_, .bi .sum, .inr ⟨by kernel_rfl, by kernel_rfl⟩⟩, List.forall_mem_cons.mpr ⟨⟨_, .bi .range, .inr ⟨by kernel_rfl, by kernel_rfl⟩⟩, List.forall_mem_cons.mpr ⟨⟨_, .bi .sorted, .inr ⟨by kernel_rfl, by kernel_rfl⟩⟩, List.forall_mem_cons.mpr ⟨⟨_, .bi .list, .inr ⟨by kernel_rfl, by kernel_rfl⟩⟩, List.forall_mem_cons.mpr ⟨⟨_, .bi .int, .inr ⟨by kernel_rfl, by kernel_rfl⟩⟩, List.forall_mem_cons.mpr ⟨⟨.ref 282, .con _, .inl (by kernel_rfl)⟩, List.forall_mem_cons.mpr ⟨⟨.ref 118, .con _, .inl (by kernel_rfl)⟩, List.forall_mem_cons.mpr ⟨⟨.type "type", .con _, .inr ⟨by kernel_rfl, by kernel_rfl⟩⟩, List.forall_mem_cons.mpr ⟨⟨_, .bi .str, .inr ⟨by kernel_rfl, by kernel_rfl⟩⟩, List.forall_mem_cons.mpr ⟨⟨.ref 146, .con _, .inl (by kernel_rfl)⟩, List.forall_mem_cons.mpr ⟨⟨.ref 151, .con _, .inl (by kernel_rfl)⟩, (List.forall_mem_nil _)⟩⟩⟩⟩⟩⟩⟩⟩⟩⟩⟩⟩⟩⟩⟩⟩⟩⟩⟩⟩⟩⟩⟩⟩⟩⟩
theorem gl_all : ∀ x v, look x tT.glob = some v → GlobIn (K2.K P) x v := fun x v h => gl_list P (x, v) (look_mem h)
theorem met_list : ∀ p ∈ tT.met, MetIn (K2.K P) 282 "_headers" p.1 p.2 := List.forall_mem_cons.mpr ⟨⟨⟨"object.__getattribute__", by kernel_rfl, by decide +kernel, by kernel_rfl⟩, by kernel_rfl, by kernel_rfl, by decide +kernel⟩, List.forall_mem_cons.mpr ⟨⟨⟨"object.__getattribute__", by kernel_rfl, by decide +kernel, by kernel_rfl⟩, by kernel_rfl, by kernel_rfl, by decide +kernel⟩, List.forall_mem_cons.mpr ⟨⟨⟨"object.__getattribute__", by kernel_rfl, by decide +kernel, by kernel_rfl⟩, by kernel_rfl, by kernel_rfl, by decide +kernel⟩, List.forall_mem_cons.mpr ⟨⟨⟨"object.__getattribute__", by kernel_rfl, by decide +kernel, by kernel_rfl⟩, by kernel_rfl, by kernel_rfl, by decide +kernel⟩, List.forall_mem_cons.mpr ⟨⟨⟨"object.__getattribute__", by kernel_rfl, by decide +kernel, by kernel_rfl⟩, by kernel_rfl, by kernel_rfl, by decide +kernel⟩, (List.forall_mem_nil _)⟩⟩⟩⟩⟩
theorem amet_list : ∀ p ∈ tT.amet, MetIn (K2.K P) 118 "_initial_size" p.1 p.2 := List.forall_mem_cons.mpr ⟨⟨⟨"list.__getattribute__", by kernel_rfl, by decide +kernel, by kernel_rfl⟩, by kernel_rfl, by kernel_rfl, by decide +kernel⟩, List.forall_mem_cons.mpr ⟨⟨⟨"list.__getattribute__", by kernel_rfl, by decide +kernel, by kernel_rfl⟩, by kernel_rfl, by kernel_rfl, by decide +kernel⟩, (List.forall_mem_nil _)⟩⟩
theorem met_all : (∀ name f, look name tT.met = some f → MetIn (K2.K P) 282 "_headers" name f) ∧ ∀ name f, look name tT.amet = some f → MetIn (K2.K P) 118 "_initial_size" name f := ⟨fun x v h => met_list P (x, v) (look_mem h), fun x v h => amet_list P (x, v) (look_mem h)⟩
end
end Mine.Internal
end
section
open PySem PySem.W PyProof.Rows PySem.Calls
namespace Mine.Internal
set_option maxRecDepth 100000
set_option maxHeartbeats 4000000
open Mine.Internal.Pl
noncomputable abbrev dConv : FnD := clD B 16 1 []
noncomputable abbrev dAdd : FnD := clD B 16 16 []
noncomputable abbrev dPush : FnD := clD B 4 1 []
section
variable {S : Stc} (P : Params)
theorem okS_mem {x : Str} (h : okS x = true) : ∃ l ∈ okL, x = ⟨l.toArray⟩ :=
  let ⟨l, hl, e⟩ := List.any_eq_true.mp h
  ⟨l, hl, sEq_iff.mp (show sEq x ⟨l.toArray⟩ = true from e)⟩
noncomputable abbrev nSearch : Str := ⟨#[115, 101, 97, 114, 99, 104]⟩
theorem pat_run {ra : Addr} (h : ∀ Sx t, (okL.map fun l => peek (K2.K P) Sx (Builtin.«re.Pattern.search» ⟨[.ref ra, .str ⟨l.toArray⟩ t], []⟩)) = okL.map fun j9 => some (.done (.ret .none))) (Sx : Setting) (x : Str) (t : Tok) (hx : okS x = true) : peek (K2.K P) Sx (Builtin.«re.Pattern.search» ⟨[.ref ra, .str x t], []⟩) = some (.done (.ret .none)) :=
  let ⟨l, hl, e⟩ := okS_mem hx
  e ▸ List.map_inj_left.mp (h Sx t) l hl
theorem pat146 : PatIn S (K2.K P) 146 nSearch fun y => okS y = true :=
  ⟨fun Sx pl => by kernel_rfl, fun Sx x t => by kernel_rfl, pat_run P fun Sx t => by kernel_rfl⟩
theorem pat151 : PatIn S (K2.K P) 151 nSearch fun y => okS y = true :=
  ⟨fun Sx pl => by kernel_rfl, fun Sx x t => by kernel_rfl, pat_run P fun Sx t => by kernel_rfl⟩
theorem conv2 (Bs : Base S (K2.K P) tT) : ConvSound S 181 fun y => okS y = true := fun A n s g ph u v b xs z y hn a I rv rz hv hW => by
  obtain ⟨o, FA, _⟩ := fnat_of (a := 181) (d := dConv) Bs.X Bs.nt (by kernel_rfl) (by decide +kernel)
  obtain ⟨m, rfl⟩ : ∃ m, n = m + 7 := ⟨n - 7, by omega⟩
  cases b
  · exact conv_ok Bs FA (n1 := ⟨#[115, 101, 108, 102]⟩) (n2 := ⟨#[118, 97, 108, 117, 101]⟩) (n3 := ⟨#[110, 97, 109, 101]⟩) (ra := 151) rfl (fun x y z Sx => by kernel_rfl) (by decide +kernel) (by rfl) (by rfl) (by rfl) rfl rfl rfl (pat151 P) rfl rfl rfl rfl a I rv rz hv hW
  · exact conv_ok Bs FA (n1 := ⟨#[115, 101, 108, 102]⟩) (n2 := ⟨#[118, 97, 108, 117, 101]⟩) (n3 := ⟨#[110, 97, 109, 101]⟩) (ra := 146) rfl (fun x y z Sx => by kernel_rfl) (by decide +kernel) (by rfl) (by rfl) (by rfl) rfl rfl rfl (pat146 P) rfl rfl rfl rfl a I rv rz hv hW
end
end Mine.Internal
end
section
open PySem PySem.W PyProof.Rows PySem.Calls
namespace Mine.Internal
set_option maxRecDepth 100000
set_option maxHeartbeats 4000000
open Mine.Internal.Pl
section
variable {S : Stc} (P : Params)
noncomputable abbrev nParts : Str := ⟨#[112, 97, 114, 116, 115]⟩
noncomputable abbrev m_name : Str := ⟨#[95, 110, 97, 109, 101]⟩
noncomputable abbrev m_value : Str := ⟨#[95, 118, 97, 108, 117, 101]⟩
noncomputable abbrev m_params : Str := ⟨#[95, 112, 97, 114, 97, 109, 115]⟩
noncomputable abbrev L0 (i : Nat) (va vb : PV) (ph : List PO) : Loc := [(nSelf, .hdr i), (m_name, va), (m_value, vb), (m_params, .obj ph.length)]
noncomputable abbrev L1 (i : Nat) (va vb : PV) (ph : List PO) : Loc := L0 i va vb ph ++ [(nParts, .obj (ph ++ [PO.dict []]).length)]
theorem pc_conv {i : Nat} {v : PV} {a : Str} {b : Bool} {q : List PO} (h : v.asStr = some a) (w : okS a = true) : (Pc okS 181).f 181 [.hdr i, v] [(kwName, .bool b)] q = some (v, q) := by
  show (match v.asStr with | some a => (match okS a with | true => some (v, q) | false => none) | none => none) = _
  rw [h]; dsimp only; rw [w]
section
variable {k i : Nat} {va vb : PV} {a b : Str} {ph : List PO} {xs : List PV}
theorem add_s1 (hb : vb.asStr = some b) (wb : okS b = true) : (ev tT (Pc okS 181) (k + 18)).s dAdd.scope (L1 i va vb ph) (stN dAdd.body 1) (ph ++ [.dict []] ++ [.list []]) = some (.next, L1 i va vb ph, ph ++ [.dict []] ++ [.list [vb]]) := by
  have hg : (ph ++ [PO.dict []] ++ [PO.list []])[(ph ++ [PO.dict []]).length]? = some (PO.list []) := List.getElem?_concat_length
  have ea : (ev tT (Pc okS 181) (k + 16)).e dAdd.scope (L1 i va vb ph) (wT (stN (wB (stN dAdd.body 1)) 1)) (ph ++ [PO.dict []] ++ [PO.list []]) = some (.none, ph ++ [PO.dict []] ++ [PO.list [vb]]) := by
    have hset : (ph ++ [PO.dict []] ++ [PO.list []]).set (ph ++ [PO.dict []]).length (.list ([] ++ [vb])) = ph ++ [PO.dict []] ++ [PO.list [vb]] := by rw [List.set_append_right _ _ (Nat.le_refl _), Nat.sub_self]; rfl
    rw [← hset]
    exact e_app (k := (ph ++ [PO.dict []]).length) (ph1 := ph ++ [PO.dict []] ++ [PO.list []]) (ph2 := ph ++ [PO.dict []] ++ [PO.list []]) (xs := []) (ys := []) (v := vb) (by rfl) (by rfl) (by rfl) (by rfl) hg (by rfl) hg (by decide)
  refine s_if (c := true) (Pl.t_cmp (x := vb) (y := .none) (ph1 := ph ++ [PO.dict []] ++ [PO.list []]) (by rfl) (by rfl) ?_) (fun j9 => ?_) (fun c => nomatch c)
  · cases vb <;> first | rfl | exact nos hb
  · exact x_cons (s_name (y := vb) (ph1 := ph ++ [PO.dict []] ++ [PO.list []]) (e_km (n := k + 14) (f := 181) (v := .hdr i) (vs := [vb]) (kv := (kwName, .bool false)) (kvs := []) (by show 8 ≤ k + 15; omega) (by rfl) (by rfl) (by rfl) (by rfl) (a_cons (by rfl) a_nil) (by rfl) (pc_conv hb wb)) (by rfl)) (x_one (s_expr (by exact ea) (by rfl)))
theorem add_s3 (ha : va.asStr = some a) (hb : vb.asStr = some b) (wa : okS a = true) (wb : okS b = true) (hi : ph[i]? = some (.list xs)) (hl : xs.length ≤ 1000) :
    (ev tT (Pc okS 181) (k + 18)).s dAdd.scope (L1 i va vb ph) (stN dAdd.body 3) (ph ++ [.dict []] ++ [.list [vb]]) = some (.next, L1 i va vb ph, ph.set i (.list (xs ++ [.tup [va, .str b]])) ++ [.dict []] ++ [.list [vb]]) := by
  have hil : i < ph.length := (List.getElem?_eq_some_iff.mp hi).1
  have hi2 : (ph ++ [PO.dict []] ++ [PO.list [vb]])[i]? = some (PO.list xs) := by
    rw [List.append_assoc, List.getElem?_append_left hil]; exact hi
  have hjoin : strMeth (st [59, 32]) nJoin [.obj (ph ++ [PO.dict []]).length] (ph ++ [PO.dict []] ++ [PO.list [vb]]) = some (.str b) := by
    have e1 : seqOf (ph ++ [PO.dict []] ++ [PO.list [vb]]) (.obj (ph ++ [PO.dict []]).length) = some [vb] := by
      unfold seqOf; dsimp only; rw [List.getElem?_concat_length]
    have e2 : allStr [vb] = some [b] := by unfold allStr; rw [hb]; rfl
    show joinP (st [59, 32]) [.obj (ph ++ [PO.dict []]).length] (ph ++ [PO.dict []] ++ [PO.list [vb]]) = _
    unfold joinP; dsimp only
    rw [e1]; dsimp only; rw [e2]; dsimp only
    obtain ⟨c, hc, rfl⟩ := okS_mem wb
    exact (List.map_inj_left (f := fun l : List Nat => match Nat.ble (([(⟨l.toArray⟩ : Str)].map (·.length)).sum + [(⟨l.toArray⟩ : Str)].length * (st [59, 32]).length) 16777216 with
      | true => some (PV.str (Txt.join (st [59, 32]) [⟨l.toArray⟩]))
      | false => none) (g := fun l => some (PV.str ⟨l.toArray⟩))).mp (by rfl) c hc
  have hset : (ph ++ [PO.dict []] ++ [PO.list [vb]]).set i (.list (xs ++ [.tup [va, .str b]])) = ph.set i (.list (xs ++ [.tup [va, .str b]])) ++ [PO.dict []] ++ [PO.list [vb]] := by
    rw [List.append_assoc, List.set_append_left _ _ hil, List.append_assoc]
  have ea : (ev tT (Pc okS 181) (k + 17)).e dAdd.scope (L1 i va vb ph) (wT (stN dAdd.body 3)) (ph ++ [PO.dict []] ++ [PO.list [vb]]) = some (.none, ph.set i (.list (xs ++ [.tup [va, .str b]])) ++ [PO.dict []] ++ [PO.list [vb]]) := by
    rw [← hset]
    refine e_app (n := k + 15) (k := i) (ph1 := ph ++ [PO.dict []] ++ [PO.list [vb]]) (ph2 := ph ++ [PO.dict []] ++ [PO.list [vb]]) (xs := xs) (ys := xs) (v := .tup [va, .str b]) (by rfl) (by rfl) (by rfl) (e_hdrs (by rfl) (by rfl) (by rfl)) hi2 (e_tup (by rfl) (a_cons (v := va) (ph1 := ph ++ [PO.dict []] ++ [PO.list [vb]]) ?_ (a_cons (v := .str b) (ph1 := ph ++ [PO.dict []] ++ [PO.list [vb]]) ?_ a_nil))) hi2 hl
    · exact e_km (n := k + 13) (f := 181) (v := .hdr i) (vs := [va]) (kv := (kwName, .bool true)) (kvs := []) (by show 8 ≤ k + 14; omega) (by rfl) (by rfl) (by rfl) (by rfl) (a_cons (by rfl) a_nil) (by rfl) (pc_conv ha wa)
    · exact e_strm (l := [59, 32]) (by rfl) (by rfl) (by rfl) (by rfl) .strg (a_cons (by rfl) a_nil) hjoin
  exact s_expr (by exact ea) (by rfl)
end
section
variable {A : Around} {s : Shared} {g : Gh} {ph ph' : List PO} {vs : List PV} {v : PV} {us : List Value} {n : Nat}
theorem add2 (Bs : Base S (K2.K P) tT) (hn : 20 ≤ n) (ao : AOk A n) (e : addHdrP okS vs ph = some (v, ph')) (I : Inv S s.heap s.toks g ph) (rv : VRs S s.heap g vs us) : wpAny (MS S) A (call (.ref 279) us) (Pst S s g ph v ph') NoE s :=
  t3 e fun o x y q e => iN e fun i hi e => iS e fun a ha e => iS e fun b hb e => iT e fun hw e => iL e fun xs hx e => iT e fun hl e => sp2 e fun z1 z2 => by
    subst q; subst z1; subst z2
    obtain ⟨w1, w2⟩ := Bool.and_eq_true_iff.mp hw
    obtain ⟨o, FA, _⟩ := fnat_of (a := 279) (d := dAdd) Bs.X Bs.nt (by kernel_rfl) (by decide +kernel)
    obtain ⟨m, rfl⟩ : ∃ m, n = m + 19 := ⟨n - 19, by omega⟩
    rw [asHdr_eq hi] at rv
    have hi := listAt_eq hx
    exact add_ok (P := Pc okS 181) (n1 := nSelf) (n2 := m_name) (n3 := m_value) (n4 := m_params) Bs (Bs.HC (conv2 P Bs) (keeps_of Bs.X Bs.nt (by kernel_rfl))) FA rfl (fun x y z Sx => by kernel_rfl) (by decide +kernel) (by decide +kernel) (by decide +kernel) (by rfl) (m := m + 18) (loc1 := L1 i x y ph) (loc2 := L1 i x y ph) (by rfl) (add_s1 hb w2) (by rfl) (add_s3 ha hb w1 w2 hi (Nat.le_of_ble_eq_true hl)) ao I rv ha hi
theorem fpush : FnIn (K2.K P) 62 dPush := ⟨by kernel_rfl, bp3 rfl rfl fun x y z S => by kernel_rfl, by decide +kernel, by decide +kernel, by decide +kernel⟩
theorem acc2 (hA : S.cA = 118) : AccIn S (K2.K P) := by
  refine ⟨⟨"list.__getattribute__", ?_, by decide +kernel⟩, ?_, ?_, ?_⟩ <;> (rw [hA]; kernel_rfl)
theorem accAt_eq {n : Nat} {xs : List PV} (e : accAt ph n = some xs) : ph[n]? = some (.acc xs) := by
  unfold accAt at e
  generalize ph[n]? = o at e ⊢
  cases o with
  | none => exact nos e
  | some po => cases po <;> first | exact congrArg (fun x => some (PO.acc x)) (Option.some.inj e) | exact nos e
theorem push2 (Bs : Base S (K2.K P) tT) (hA : S.cA = 118) (hn : 20 ≤ n) (ao : AOk A n) (e : pushP vs ph = some (v, ph')) (I : Inv S s.heap s.toks g ph) (rv : VRs S s.heap g vs us) : wpAny (MS S) A (call (.ref 62) us) (Pst S s g ph v ph') NoE s :=
  t3 e fun o x y q e => iN e fun i hi e => iL e fun xs hx e => iT e fun hl e => sp2 e fun z1 z2 => by
    subst q; subst z1; subst z2
    obtain ⟨m, rfl⟩ : ∃ m, n = m + 10 := ⟨n - 10, by omega⟩
    rw [asObj_eq hi] at rv
    exact push_ok (d := dPush) (n := m + 7) Bs (acc2 P hA) (fnok_of Bs.X Bs.nt (fpush P)) rfl (by rfl) rfl rfl rfl ao I rv (accAt_eq hx) (Nat.le_of_ble_eq_true hl)
end
end
end Mine.Internal
end
section
open PySem PySem.W PyProof.Rows PySem.Calls
namespace Mine.Internal
section
variable {prog : Program} {w : World} {A : Around} {E : Value → Shared → Prop} {s : Shared} {K : Frag} {x C : Addr} {ox : Obj} {od : Option Obj}
theorem slot_md_get : Slot "method_descriptor" "__get__" "method_descriptor.__get__" := .of (owner := "method_descriptor") (n := "__get__") (by rw [typeLookup_type, builtinLookup_eq_fast]; kernel_rfl) (by decide +kernel) (by decide +kernel) (by decide +kernel)
    (by first | exact .inl (by decide +kernel) | exact .inr (by decide +kernel)) (by rw [isSubtype_type]; kernel_rfl)
theorem entry_md_get : entryFor table "method_descriptor.__get__" = some Builtin.«method_descriptor.__get__» := entryFor_of_tree (by kernel_rfl)
theorem args_md_get (a b c : Value) : argsOk "method_descriptor.__get__" ⟨[a, b, c], []⟩ := by unfold argsOk; kernel_rfl
theorem slot_wd_get : Slot "wrapper_descriptor" "__get__" "wrapper_descriptor.__get__" := .of (owner := "wrapper_descriptor") (n := "__get__") (by rw [typeLookup_type, builtinLookup_eq_fast]; kernel_rfl) (by decide +kernel) (by decide +kernel) (by decide +kernel)
    (by first | exact .inl (by decide +kernel) | exact .inr (by decide +kernel)) (by rw [isSubtype_type]; kernel_rfl)
theorem entry_wd_get : entryFor table "wrapper_descriptor.__get__" = some Builtin.«wrapper_descriptor.__get__» := entryFor_of_tree (by kernel_rfl)
theorem args_wd_get (a b c : Value) : argsOk "wrapper_descriptor.__get__" ⟨[a, b, c], []⟩ := by unfold argsOk; kernel_rfl
theorem told_pop : Manifest.toldItsClass.contains "list.pop" = false := by decide +kernel
theorem pop_get (hi : Looks (model prog w) s.heap (isInstance (.ref x) (.type "list")) true) {Q : Fin → Shared → Prop} (hq : Q (.done (.ret (.ref s.heap.objs.size))) { s with heap := s.heap.push { cls := .type "builtin_function_or_method", data := .fields #[.builtin "list.pop", .ref x] } }) :
    wpAny (model prog w) A (Builtin.«method_descriptor.__get__» ⟨[.builtin "list.pop", .ref x, .ref C], []⟩) Q E s := by
  unfold Builtin.«method_descriptor.__get__»
  refine wpAny_bind (wpAny_pure ?_)
  have e1 : (Value.ref x == Value.none) = false := rfl
  have e2 : (Value.ref C == Value.none) = false := rfl
  simp only [e1, e2, told_pop, Bool.false_eq_true, if_false]
  refine wpAny_bind (wpAny_bind (wpAny_pure (wpAny_bind (Looks.here (r := true) (Eq.mpr (by kernel_rfl) hi) ?_))))
  show wpAny _ _ (pure ()) _ _ _
  exact wpAny_pure (wpAny_bind (wpAny_newObj_type (wpAny_pure hq) (by size_fits)))
theorem len_get (hi : Looks (model prog w) s.heap (isInstance (.ref x) (.type "list")) true) {Q : Fin → Shared → Prop} (hq : Q (.done (.ret (.ref s.heap.objs.size))) { s with heap := s.heap.push { cls := .type "method-wrapper", data := .fields #[.builtin "list.__len__", .ref x] } }) :
    wpAny (model prog w) A (Builtin.«wrapper_descriptor.__get__» ⟨[.builtin "list.__len__", .ref x, .ref C], []⟩) Q E s := by
  unfold Builtin.«wrapper_descriptor.__get__»
  refine wpAny_bind (wpAny_pure ?_)
  have e1 : (Value.ref x == Value.none) = false := rfl
  have e2 : (Value.ref C == Value.none) = false := rfl
  simp only [e1, e2, Bool.false_eq_true, if_false]
  refine wpAny_bind (wpAny_bind (wpAny_pure (wpAny_bind (Looks.here (r := true) (Eq.mpr (by kernel_rfl) hi) ?_))))
  show wpAny _ _ (pure ()) _ _ _
  exact wpAny_pure (wpAny_bind (wpAny_newObj_type (wpAny_pure hq) (by size_fits)))
theorem init_get (hi : Looks (model prog w) s.heap (isInstance (.ref x) (.type "list")) true) {Q : Fin → Shared → Prop} (hq : Q (.done (.ret (.ref s.heap.objs.size))) { s with heap := s.heap.push { cls := .type "method-wrapper", data := .fields #[.builtin "list.__init__", .ref x] } }) :
    wpAny (model prog w) A (Builtin.«wrapper_descriptor.__get__» ⟨[.builtin "list.__init__", .ref x, .ref C], []⟩) Q E s := by
  unfold Builtin.«wrapper_descriptor.__get__»
  refine wpAny_bind (wpAny_pure ?_)
  have e1 : (Value.ref x == Value.none) = false := rfl
  have e2 : (Value.ref C == Value.none) = false := rfl
  simp only [e1, e2, Bool.false_eq_true, if_false]
  refine wpAny_bind (wpAny_bind (wpAny_pure (wpAny_bind (Looks.here (r := true) (Eq.mpr (by kernel_rfl) hi) ?_))))
  show wpAny _ _ (pure ()) _ _ _
  exact wpAny_pure (wpAny_bind (wpAny_newObj_type (wpAny_pure hq) (by size_fits)))
end
section
variable {prog : Program} {w : World} {M : Model} {A : Around} {E : Value → Shared → Prop} {h : Heap} {g : Array GenState} {d : Drawn} {t : Nat} {os : OsState}
theorem super_ga {so D x C : Addr} {l₀ l : List Value} {K : Frag} {name : Str} {tk : Tok} {Q : Fin → Shared → Prop} {id dk gk bk : String} {G : Builtin}
    (hso : h.get? so = some { cls := .type "super", dict := none, data := .fields #[.ref D, .ref x, .ref C], slots := #[] }) (hno : Looks (model prog w) h (opaqueClassAbove (.ref C)) none)
    (hC : Looks (model prog w) h (mroOf (.ref C)) l₀) (hl : (l₀.dropWhile (· != .ref D)).drop 1 = l) (X : K.In h)
    (hf : alongIn K name l = some (some (.builtin id))) (hT : typeIn K (.builtin id) = some (.type dk)) (hxC : x ≠ C) (hn : (name == ("__class__" : Str)) = false)
    (sl : Slot dk "__get__" gk) (en : entryFor table gk = some G) (ag : ∀ a b c, argsOk gk ⟨[a, b, c], []⟩) (hT2 : ∀ s : Shared, s.TypeIs (.builtin id) dk)
    (hG : ∀ {A : Around} {E : Value → Shared → Prop} {Q : Fin → Shared → Prop}, Q (.done (.ret (.ref h.objs.size))) ⟨h.push { cls := .type bk, data := .fields #[.builtin id, .ref x] }, g, d, t, os⟩ → wpAny (model prog w) A (G ⟨[.builtin id, .ref x, .ref C], []⟩) Q E ⟨h, g, d, t, os⟩)
    (hq : Q (.done (.ret (.ref h.objs.size))) ⟨h.push { cls := .type bk, data := .fields #[.builtin id, .ref x] }, g, d, t, os⟩) :
    wpAny (model prog w) A (Builtin.«super.__getattribute__» ⟨[.ref so, .str name tk], []⟩) Q E ⟨h, g, d, t, os⟩ := by
  have hlk := sl.lookup
  have hne : (Value.ref x == Value.ref C) = false := by simp [hxC]
  have hdt : ({ cls := .type "super", dict := none, data := .fields #[.ref D, .ref x, .ref C], slots := #[] } : Obj).data = .fields #[.ref D, .ref x, .ref C] := rfl
  have f0 : (#[.ref D, .ref x, .ref C] : Array Value)[0]? = some (.ref D) := rfl
  have f1 : (#[.ref D, .ref x, .ref C] : Array Value)[1]? = some (.ref x) := rfl
  have f2 : (#[.ref D, .ref x, .ref C] : Array Value)[2]? = some (.ref C) := rfl
  unfold Builtin.«super.__getattribute__»
  repeat (first
    | (with_reducible refine wpAny_field hso hdt f0 ?_) | (with_reducible refine wpAny_field hso hdt f1 ?_) | (with_reducible refine wpAny_field hso hdt f2 ?_)
    | (with_reducible refine ks_wpAny_notOpaque hno ?_)
    | (with_reducible refine Looks.at hC ?_; rw [hl])
    | (refine ks_forIn_along X (fun j9 j9 => rfl) rfl ?_ hf)
    | (with_reducible refine Looks.at (looks_typeIn X hT) ?_)
    | (with_reducible refine wpAny_call_entry sl (hT2 _) en (hG ?_) (ag _ _ _))
    | (with_reducible refine ⟨_, rfl, ?_⟩)
    | (simp only [hn, hne, Bool.or_false, Bool.false_eq_true, if_false])
    | wp_step
    | dsimp only)
  all_goals exact hq
theorem getMethod_super {so D x C : Addr} {l₀ l : List Value} {K : Frag} {name : Str} {pl : Sem Bool} {Q : Value × List Value → Shared → Prop} {id dk gk bk : String} {G : Builtin}
    (hso : h.get? so = some { cls := .type "super", dict := none, data := .fields #[.ref D, .ref x, .ref C], slots := #[] }) (hno : Looks (model prog w) h (opaqueClassAbove (.ref C)) none)
    (hC : Looks (model prog w) h (mroOf (.ref C)) l₀) (hl : (l₀.dropWhile (· != .ref D)).drop 1 = l) (X : K.In h)
    (hf : alongIn K name l = some (some (.builtin id))) (hT : typeIn K (.builtin id) = some (.type dk)) (hxC : x ≠ C) (hn : (name == ("__class__" : Str)) = false)
    (sl : Slot dk "__get__" gk) (en : entryFor table gk = some G) (ag : ∀ a b c, argsOk gk ⟨[a, b, c], []⟩) (hT2 : ∀ s : Shared, s.TypeIs (.builtin id) dk)
    (hG : ∀ {A : Around} {E : Value → Shared → Prop} {Q : Fin → Shared → Prop} {t : Nat}, Q (.done (.ret (.ref h.objs.size))) ⟨h.push { cls := .type bk, data := .fields #[.builtin id, .ref x] }, g, d, t, os⟩ → wpAny (model prog w) A (G ⟨[.builtin id, .ref x, .ref C], []⟩) Q E ⟨h, g, d, t, os⟩)
    (hq : Q (.ref h.objs.size, []) ⟨h.push { cls := .type bk, data := .fields #[.builtin id, .ref x] }, g, d, t + 1, os⟩) :
    wpAny (model prog w) A (getMethod (.ref so) name pl) Q E ⟨h, g, d, t, os⟩ := by
  have hlk := F.ks_slot_super_ga.lookup
  have hcan := F.ks_canon_super_ga
  have hT' : ∀ t', (⟨h, g, d, t', os⟩ : Shared).TypeIs (.ref so) "super" := fun j9 => ⟨_, hso, rfl⟩
  unfold getMethod
  refine wpAny_bind (wpAny_specialOf (hT' _) hlk ?_)
  show wpAny _ _ (if (Manifest.canonical "super.__getattribute__" != "object.__getattribute__") = true then _ else _) _ _ _
  rw [if_pos hcan]
  unfold getAttr getAttrBy
  refine wpAny_bind (wpAny_bind (wpAny_mkText (wpAny_holding (wpAny_bind (wpAny_typeOf (hT' _) (wpAny_bind (wpAny_of_eq hlk ?_)))))))
  show wpAny _ _ (getAttrByItsOwn (.ref so) (.str name t) (.type "super") (.builtin "super.__getattribute__") true false) _ _ _
  unfold getAttrByItsOwn hookBefore callGetattribute boundAndCalled
  refine wpAny_bind (wpAny_of_eq (show (if onTheHeap (.type "super") then typeLookup (.type "super") "__getattr__" else pure none) = pure none from rfl) ?_)
  refine wpAny_bind (wpAny_attempt (wpAny_holding ?_))
  show wpAny _ _ (bindSpecial (.builtin "super.__getattribute__") (.ref so) >>= _) _ _ _
  refine wpAny_bind (wpAny_of_eq (F.ks_slot_super_ga.bind _) ?_)
  refine wpAny_mono (Q := fun v s' => v = .ref h.objs.size ∧ s' = ⟨h.push { cls := .type bk, data := .fields #[.builtin id, .ref x] }, g, d, t + 1, os⟩) (E := fun j9 j9 => False)
    (wpAny_call_entry F.ks_slot_super_ga (hT' _) F.ks_entry_super_ga (super_ga hso hno hC hl X hf hT hxC hn sl en ag hT2 hG ⟨_, rfl, rfl, rfl⟩) (F.ks_gaArgs_super _ _)) (fun v s' hv => ?_) fun j9 j9 z => z.elim
  obtain ⟨rfl, rfl⟩ := hv
  exact wpAny_pure (wpAny_pure hq)
theorem call_bnd {s : Shared} {b x : Addr} {id bk : String} {Bi : Builtin} {Q : Value → Shared → Prop} (hb : s.heap.get? b = some { cls := .type bk, dict := none, data := .fields #[.builtin id, .ref x], slots := #[] })
    (m1 : (Value.type bk == Value.type "method") = false) (m2 : (Value.type bk == Value.type "builtin_function_or_method" || Value.type bk == Value.type "method-wrapper") = true) (pl : plainId id = true) (en : entryFor table id = some Bi)
    (hc : ∀ A, wpAny (model prog w) A (checkBoundCall id ⟨[.ref x], []⟩) (fun j9 s' => s' = s) NoE s) (h : ∀ A, A.handled = A.handled → wpAny (model prog w) A (Bi ⟨[.ref x], []⟩) (fun fin s' => ∃ v, fin = .done (.ret v) ∧ Q v s') NoE s) :
    wpAny (model prog w) A (call (.ref b) []) Q E s := by
  refine wpAny_call (codeAny_of_tree ?_)
  show wpAny _ A.in1 (callAny (.ref b) ⟨[], []⟩) _ _ _
  unfold callAny
  refine wpAny_bind (wpAny_load hb ?_)
  dsimp only
  rw [show (Value.type bk == Value.type "method" || Value.type bk == Value.type "builtin_function_or_method" || Value.type bk == Value.type "method-wrapper") = true by rw [m1, Bool.false_or]; exact m2]
  simp only [if_true, bne, m1, Bool.not_false]
  refine wpAny_bind (wpAny_mono (hc _) (fun j9 s' q => ?_) fun j9 j9 z => z.elim)
  subst q
  refine wpAny_pure ⟨plainId_quiet pl _, codeAny_builtin en ?_⟩
  rw [Around.under_plainId pl _]
  refine wpAny_mono (h _ rfl) (fun fin s' q => ?_) fun j9 j9 z => z.elim
  obtain ⟨v, rfl, q⟩ := q
  exact q
end
end Mine.Internal
end
section
open PySem PySem.W PyProof.Rows PySem.Calls
namespace Mine.Internal
structure SupF (K : Frag) (f : Addr) (fd : FuncData) (cc cl D : Addr) (file : Str) : Prop where
  fn : fnOf K f = some fd
  kind : fd.scope.kind = .function ∧ fd.scope.isCoroutine = false ∧ fd.scope.isGenerator = false
  names : fd.scope.names.lookup ("super" : Str) = some .globalImplicit ∧ fd.scope.names.lookup ("__class__" : Str) = some .free ∧ fd.scope.names.lookup ("self" : Str) = some .local
  nocell : ∀ x ∈ fd.scope.names, x.2 ≠ .cell
  self : (fd.params.posonlyargs ++ fd.params.args).head?.map (·.arg) = some ("self" : Str)
  code : fd.code = .ref cc ∧ codeOk K fd = true
  ccf : ∃ oc vs t, K.lookup cc = some oc ∧ oc.data = .fields vs ∧ vs[2]? = some (.str file t)
  clo : fd.closure.lookup ("__class__" : Str) = some cl
  cell : ∃ oc, K.lookup cl = some oc ∧ oc.data = .cell (some (.ref D))
  gl : fd.globals = mainGlobals ∧ fd.builtins = builtinsNs
  sup : nsIn K mainGlobals ("super" : Str) = some none ∧ nsIn K builtinsNs ("super" : Str) = some (some (.type "super"))
  cls : ∃ oD cd, K.lookup D = some oD ∧ oD.data = .cls cd
  sub : subIn K (.ref D) (.ref D) = some true
  opq : ∀ Sx, peek K Sx (opaqueClassAbove (.ref D)) = some none
  mro : ∀ Sx, peek K Sx (mroOf (.ref D)) = some [.ref D, .type "list", .type "object"]
section
variable {S : Stc} {K : Frag} {T : Top} {A : Around} {s : Shared} {g : Gh} {ph ph' : List PO} {f cc cl D x C : Addr} {fd : FuncData} {file : Str}
theorem sup_base (X : K.In s.heap) (F : SupF K f fd cc cl D file) {mg mb} (h1 : s.heap.Ns mainGlobals mg) (h2 : s.heap.Ns builtinsNs mb) {L : Addr} {m} (hL : s.heap.Ns L m) (hm : m ("self" : Str) = some (.ref x)) {ox : Obj} (hx : s.heap.get? x = some ox) (hxc : ox.cls = .ref D) (hnc : ∀ c, ox.data ≠ .cls c)
    (hfile : ((S.prog.main.file : Str) == file) = true) (htop : (S.prog.main.scope.names.lookup ("super" : Str)).isSome = false) {body : List Stmt} {p0 p1 : Pos} {attr : Str} {whole : Sem Value} {Q : Value → Shared → Prop} (hat : (attr == ("__class__" : Str)) = false)
    (hq : ∀ h', h'.get? s.heap.objs.size = some { cls := .type "super", dict := none, data := .fields #[.ref D, .ref x, .ref D], slots := #[] } → (∀ y o, s.heap.get? y = some o → h'.get? y = some o) → Q (.ref s.heap.objs.size) { s with heap := h' }) :
    PySem.wpAt (MS S) A (.func body (callEnv fd L f)) (attributeBase (.Call (.Name ("super" : Str) p0) [] [] p1) attr (callEnv fd L f) whole) Q NoE s := by
  obtain ⟨of, f1, f2⟩ := fnOf_eq F.fn
  obtain ⟨oc, vs, t, c1, c2, c3⟩ := F.ccf
  obtain ⟨ar, a1, a2⟩ := Option.map_eq_some_iff.mp F.self
  obtain ⟨oe, e1, e2⟩ := F.cell
  obtain ⟨oD, cd, d1, d2⟩ := F.cls
  refine ks_wpAt_super_base (env := callEnv fd L f) (f := f) (cc := cc) F.names.1 F.names.2.1 hat rfl (X _ _ f1) f2 a1 F.code.1 (X _ _ c1) c2 c3 hfile htop ?_
  have n1 : s.heap.Ns (callEnv fd L f).globals mg := by show s.heap.Ns fd.globals mg; rw [F.gl.1]; exact h1
  have n2 : s.heap.Ns (callEnv fd L f).builtins mb := by show s.heap.Ns fd.builtins mb; rw [F.gl.2]; exact h2
  refine ks_loadName_global F.kind.1 F.names.1 (loadGlobal_builtin n1 (ns_some X h1 F.sup.1) n2 (ns_some X h2 F.sup.2) ⟨rfl, ?_⟩)
  refine wpAny_loadName_free F.kind.1 F.names.2.1 F.clo ⟨oe, X _ _ e1, e2⟩ ?_ (by decide +kernel)
  rw [a2]
  refine wpAny_loadName_local F.kind.1 F.names.2.2 hL hm ?_
  obtain ⟨hp, gg, dd, tk, os⟩ := s
  refine ks_wpAny_isType_cls (X _ _ d1) d2 ⟨rfl, ?_⟩
  exact ks_wpAny_call_super (X _ _ d1) d2 hx hxc hnc (looks_subIn X F.sub) hq
theorem keeper_bnd {b : Addr} {bk : String} {vs : Array Value} {M : Model} {h : Heap} (hb : h.get? b = some { cls := .type bk, dict := none, data := .fields vs, slots := #[] }) (m1 : (Value.type bk == Value.type "method") = false) (m2 : (Value.type bk == Value.type "builtin_function_or_method" || Value.type bk == Value.type "method-wrapper") = true) : Looks M h (keeperOf (.ref b)) .machine := fun A Q E s k q => by
  unfold keeperOf
  refine wpAny_bind (wpAny_load (k _ _ hb) ?_)
  simp only [bne, m1, m2, Bool.not_false, if_true]
  exact wpAny_pure q
theorem sup_call (X : K.In s.heap) (F : SupF K f fd cc cl D file) {mg mb} (h1 : s.heap.Ns mainGlobals mg) (h2 : s.heap.Ns builtinsNs mb) {L : Addr} {m} (hL : s.heap.Ns L m) (hm : m ("self" : Str) = some (.ref x)) {ox : Obj} (hx : s.heap.get? x = some ox) (hxc : ox.cls = .ref D) (hnc : ∀ c, ox.data ≠ .cls c) (hxD : x ≠ D)
    (hfile : ((S.prog.main.file : Str) == file) = true) (htop : (S.prog.main.scope.names.lookup ("super" : Str)).isSome = false) {body : List Stmt} {p0 p1 apos pos : Pos} {name : Str} {Q : Value → Shared → Prop} (hat : (name == ("__class__" : Str)) = false) {plS : Sem Bool}
    (he : eval (.Call (.Attribute (.Call (.Name ("super" : Str) p0) [] [] p1) name apos) [] [] pos) (callEnv fd L f) = (do
      let ov ← attributeBase (.Call (.Name ("super" : Str) p0) [] [] p1) name (callEnv fd L f) (eval (.Call (.Name ("super" : Str) p0) [] [] p1) (callEnv fd L f))
      standAt apos.atName
      let (fn, first) ← holding [ov] (getMethod ov name plS)
      callWith pos fn first (backTo pos (starEach [] (callEnv fd L f))) []))
    {id dk gk bk : String} {G Bi : Builtin} (hf : alongIn K name [.type "list", .type "object"] = some (some (.builtin id))) (hT : typeIn K (.builtin id) = some (.type dk)) (sl : Slot dk "__get__" gk) (en : entryFor table gk = some G) (ag : ∀ a b c, argsOk gk ⟨[a, b, c], []⟩) (hT2 : ∀ s : Shared, s.TypeIs (.builtin id) dk)
    (hG : ∀ {s : Shared} {A : Around} {E : Value → Shared → Prop} {Q : Fin → Shared → Prop}, Looks (MS S) s.heap (isInstance (.ref x) (.type "list")) true → Q (.done (.ret (.ref s.heap.objs.size))) { s with heap := s.heap.push { cls := .type bk, data := .fields #[.builtin id, .ref x] } } → wpAny (MS S) A (G ⟨[.builtin id, .ref x, .ref D], []⟩) Q E s)
    (hi : Looks (MS S) s.heap (isInstance (.ref x) (.type "list")) true) (m1 : (Value.type bk == Value.type "method") = false) (m2 : (Value.type bk == Value.type "builtin_function_or_method" || Value.type bk == Value.type "method-wrapper") = true)
    (pl : plainId id = true) (enB : entryFor table id = some Bi) (hc : ∀ (A : Around) (s' : Shared), (∀ y o, s.heap.get? y = some o → s'.heap.get? y = some o) → wpAny (MS S) A (checkBoundCall id ⟨[.ref x], []⟩) (fun j9 s'' => s'' = s') NoE s')
    (hB : ∀ (A : Around) (h' : Heap), (∀ y o, s.heap.get? y = some o → h'.get? y = some o) → wpAny (MS S) A (Bi ⟨[.ref x], []⟩) (fun fin s' => ∃ v, fin = .done (.ret v) ∧ Q v s') NoE { s with heap := h', toks := s.toks + 1 }) :
    PySem.wpAt (MS S) A (.func body (callEnv fd L f)) (eval (.Call (.Attribute (.Call (.Name ("super" : Str) p0) [] [] p1) name apos) [] [] pos) (callEnv fd L f)) Q NoE s := by
  refine ks_wpAt_MethodCall (pl := plS) (sup_base X F h1 h2 hL hm hx hxc hnc hfile htop hat fun h' hso hk => ?_) he
  · obtain ⟨hp, gg, dd, tk, os⟩ := s
    have X' : K.In h' := fun a o e => hk _ _ (X a o e)
    refine getMethod_super hso (.of_peek X' (F.opq _)) (.of_peek X' (F.mro _)) (by simp) X' hf hT hxD hat sl en ag hT2 (fun q => hG (hi.keeps hk) q) ?_
    have hb : (h'.push { cls := .type bk, data := .fields #[.builtin id, .ref x] }).get? h'.objs.size = some { cls := .type bk, dict := none, data := .fields #[.builtin id, .ref x], slots := #[] } := Heap.get?_push_at rfl rfl
    have kk : ∀ y o, hp.get? y = some o → (h'.push { cls := .type bk, data := .fields #[.builtin id, .ref x] }).get? y = some o := fun y o e => Heap.get?_push_of_some _ (hk _ _ e)
    refine callWith_of (P := fun h => h.get? h'.objs.size = some { cls := .type bk, dict := none, data := .fields #[.builtin id, .ref x], slots := #[] }) rfl (fun h e => ⟨.machine, .inr (.inl rfl), keeper_bnd e m1 m2⟩) ?_
    refine wpAny_pure ⟨hb, ?_⟩
    exact call_bnd hb m1 m2 pl enB (fun A => hc A _ kk) fun A j9 => hB A _ kk
end
end Mine.Internal
end
section
open PySem PySem.W PyProof.Rows PySem.Calls
namespace Mine.Internal
set_option maxRecDepth 100000
set_option maxHeartbeats 4000000
open Mine.Internal.Pl
noncomputable abbrev cutFile : Str := ⟨#[47, 99, 108, 97, 105, 109, 47, 99, 117, 116, 46, 112, 121]⟩
noncomputable def fdO (o : Obj) : FuncData := match o.data with
  | .func fd => fd
  | _ => default
noncomputable def qCnt : { d : FnD // clD B 4 8 [] = d } := by
  have h : clD B 4 8 [] = clD B 4 8 [] := rfl
  conv at h => rhs; reduce
  exact ⟨_, h⟩
noncomputable abbrev dCnt : FnD := qCnt.1
section
variable {S : Stc} (P : Params)
theorem sup115 : SupF (K2.K P) 115 (fdO (K2.o115 P)) 114 42 118 cutFile :=
  ⟨by kernel_rfl, ⟨by kernel_rfl, by kernel_rfl, by kernel_rfl⟩, ⟨by kernel_rfl, by kernel_rfl, by kernel_rfl⟩, (by show ∀ x ∈ (K2.fcS 4 8).names, x.2 ≠ .cell; decide +kernel), by kernel_rfl, ⟨by kernel_rfl, by kernel_rfl⟩, ⟨K2.o114 P, _, _, by kernel_rfl, rfl, rfl⟩, by kernel_rfl, ⟨K2.o42 P, by kernel_rfl, by kernel_rfl⟩, ⟨by kernel_rfl, by kernel_rfl⟩, ⟨by kernel_rfl, by kernel_rfl⟩, ⟨K2.o118 P, _, by kernel_rfl, rfl⟩, by kernel_rfl, fun Sx => by kernel_rfl, fun Sx => by kernel_rfl⟩
end
section
variable {S : Stc} {K : Frag} {A : Around} {s : Shared} {g : Gh} {ph ph' : List PO} {a : Addr}
theorem type_len : typeIn K (.builtin "list.__len__") = some (.type "wrapper_descriptor") := by
  show pureOf (fastBuiltinType "list.__len__") = _
  decide +kernel
theorem chk_len : checkBoundCall "list.__len__" ⟨[.ref a], []⟩ = pure () := by kernel_rfl
theorem plain_len' : plainId "list.__len__" = true := by decide +kernel
theorem len_acc {o : Obj} {vs : Array Value} {k : Nat} (ho : s.heap.get? a = some o) (hd : o.data = .seq vs k) {Q : Value → Shared → Prop} (h : ∀ t, Q (.int vs.size t) { s with toks := s.toks + 1 }) : wpAny (MS S) A (Builtin.«list.__len__» ⟨[.ref a], []⟩) (fun fin s' => ∃ v, fin = .done (.ret v) ∧ Q v s') NoE s := by
  show wpAny _ _ (do retInt (← seqSize a)) _ _ s
  unfold seqSize
  refine wpAny_bind (wpAny_bind (wpAny_load ho ?_))
  rw [hd]
  exact wpAny_pure (wpAny_bind (wpAny_mkInt (wpAny_pure ⟨_, rfl, h _⟩)))
structure ProgF (S : Stc) : Prop where
  cA : S.cA = 118
  file : ((S.prog.main.file : Str) == cutFile) = true
  top : (S.prog.main.scope.names.lookup ("super" : Str)).isSome = false
theorem enter_code {R : Result → Shared → Prop} {P : Params} {f : Addr} {o : Obj} {fd : FuncData} {body : List Stmt} {us : List Value} {binds : List (Str × Value)} (room : A.depth < recursionLimit) (X : (K2.K P).In s.heap) (lim : s.heap.NoLimit) (ho : (K2.K P).lookup f = some o) (hd : o.data = .func fd) (hb : fd.body = .stmts body) (hc : codeOk (K2.K P) fd = true)
    (hbind : ∀ Sx, peek (K2.K P) Sx (bindArgs fd ⟨us, []⟩) = some binds) (hcell : ∀ x ∈ fd.scope.names, x.2 ≠ .cell) (hloc : ∀ x ∈ binds, fd.scope.names.lookup x.1 = some .local) (hk : fd.scope.kind = .function ∧ fd.scope.isCoroutine = false ∧ fd.scope.isGenerator = false)
    (h : ∀ h₀, h₀.Ns s.heap.objs.size (fun x => binds.reverse.lookup x) → (∀ b o, s.heap.get? b = some o → h₀.get? b = some o) → (K2.K P).In h₀ →
      PySem.wpAt (MS S) (A.deeper (callEnv fd s.heap.objs.size f)) (.func body (callEnv fd s.heap.objs.size f)) (execs body (callEnv fd s.heap.objs.size f)) (fun fl s' => R (.ok (.ret (match fl with | .ret x => x | _ => .none))) s') NoE { s with heap := h₀, toks := s.toks + binds.length }) :
    codeAny (MS S) A (.call (.ref f) ⟨us, []⟩) R s := by
  obtain ⟨c, oc, vs, t, c1, c2, c3, c4⟩ := codeOk_eq hc
  exact ks_codeAny_call_defAt room (X _ _ ho) hd lim ⟨c, oc, vs, t, c1, X _ _ c2, c3, c4⟩ hb (kp_binds X hbind) hcell hloc (fun h₀ hns hk => ks_wpAt_mono (h h₀ hns hk (fun y o e => hk _ _ (X y o e))) (fun fl s' p => p) fun j9 j9 z => z.elim) hk.2.1 hk.2.2 hk.1
theorem enter_fn {P : Params} (Bs : Base S (K2.K P) tT) {f : Addr} {o : Obj} {fd : FuncData} {body : List Stmt} {us : List Value} {binds : List (Str × Value)} {v : PV} {n : Nat} (ao : AOk A (n + 1)) (I : Inv S s.heap s.toks g ph) (ho : (K2.K P).lookup f = some o) (hd : o.data = .func fd) (hb : fd.body = .stmts body) (hc : codeOk (K2.K P) fd = true)
    (hbind : ∀ Sx, peek (K2.K P) Sx (bindArgs fd ⟨us, []⟩) = some binds) (hcell : ∀ x ∈ fd.scope.names, x.2 ≠ .cell) (hloc : ∀ x ∈ binds, fd.scope.names.lookup x.1 = some .local) (hk : fd.scope.kind = .function ∧ fd.scope.isCoroutine = false ∧ fd.scope.isGenerator = false)
    (h : ∀ h₀, h₀.Ns s.heap.objs.size (fun x => binds.reverse.lookup x) → (∀ b o, s.heap.get? b = some o → h₀.get? b = some o) → (K2.K P).In h₀ → ∀ A, AOk A n →
      PySem.wpAt (MS S) A (.func body (callEnv fd s.heap.objs.size f)) (execs body (callEnv fd s.heap.objs.size f)) (fun fl s' => Pst S s g ph v ph' (match fl with | .ret x => x | _ => .none) s') NoE { s with heap := h₀, toks := s.toks + binds.length }) :
    wpAny (MS S) A (call (.ref f) us) (Pst S s g ph v ph') NoE s :=
  wpAny_call (codeAny_mono (R := fun r s' => ∃ x, r = .ok (.ret x) ∧ Pst S s g ph v ph' x s') (enter_code ao.room (Bs.kin I) (Heap.NoLimit.at Bs.TO.lim fun o e => I.top _ _ e Bs.TO.ntl) ho hd hb hc hbind hcell hloc hk fun h₀ hns hk X => ks_wpAt_mono (h h₀ hns hk X _ ao.deeper) (fun fl s' p => ⟨_, rfl, p⟩) fun j9 j9 z => z.elim) fun r s' h => let ⟨x, e, p⟩ := h; e ▸ p)
theorem cnt2 {P : Params} (Bs : Base S (K2.K P) tT) (pf : ProgF S) {n i : Nat} {us : List PV} (ao : AOk A (n + 1)) (I : Inv S s.heap s.toks g ph) (hp : ph[i]? = some (.acc us)) (hr : g.ρ[i]? = some a) :
    wpAny (MS S) A (call (.ref 115) [.ref a]) (Pst S s g ph (.int us.length) ph) NoE s := by
  obtain ⟨vs, k, dx, od, m, q1, q2, q3, q4, q5, q6, q7, q8⟩ := I.obj _ _ _ hp hr
  rw [pf.cA] at q1
  obtain ⟨mg, mb, hg, hb, t1, t2, _⟩ := Bs.TO.ex
  have hlen : us.length = vs.toArray.size := q8.length.symm
  have haD : a ≠ 118 := fun e => nos ((I.lo a (List.mem_of_getElem? hr)).symm.trans (e ▸ Bs.X 118 _ (by kernel_rfl : (K2.K P).lookup 118 = some (K2.o118 P))))
  refine enter_fn (fd := fdO (K2.o115 P)) (body := dCnt.body) (binds := [(("self" : Str), .ref a)]) Bs ao I (by kernel_rfl : (K2.K P).lookup 115 = some (K2.o115 P)) rfl (by rfl) (by kernel_rfl) (fun Sx => by kernel_rfl) (sup115 P).nocell (fun x hx => List.mem_singleton.mp hx ▸ (by kernel_rfl)) ⟨by kernel_rfl, by kernel_rfl, by kernel_rfl⟩ fun h₀ hns hk X A ao => ?_
  have kT : ∀ {y o}, S.h₀.get? y = some o → h₀.get? y = some o := fun e => hk _ _ (I.top _ _ e (Bs.nt _))
  show PySem.wpAt _ _ _ (execs [.Return (some (.Call (.Attribute (.Call (.Name _ _) [] [] _) ("__len__" : Str) _) [] [] _)) _] _) _ _ _
  refine ks_wpAt_execs_cons (ks_wpAt_Return_some (ks_wpAt_mono (E := NoE) (sup_call (x := a) X (sup115 P) (Ns.of_keep hg fun o e => kT e) (Ns.of_keep hb fun o e => kT e) hns rfl (hk _ _ q1) rfl (fun j9 e => Data.noConfusion e) haD pf.file pf.top (by decide +kernel) (by rfl) (id := "list.__len__")
    (by kernel_rfl) type_len slot_wd_get entry_wd_get args_wd_get (fun s => by rfl) (fun hi q => len_get hi q) (inst_list (C := 118) (od := some od) X ⟨hk _ _ q1, rfl, rfl, hk _ _ q2⟩ (by kernel_rfl)) rfl rfl plain_len' entry_list_len (fun A s' j9 => chk_len ▸ wpAny_pure rfl) (fun A h' hk' => len_acc (hk' _ _ (hk _ _ q1)) rfl fun t => ?_)) (fun x s' h => h) fun j9 j9 z => z))
  exact hlen ▸ Pst.grow I (fun y o e => hk' _ _ (hk _ _ e)) (Nat.le_trans (Nat.le_add_right _ 1) (Nat.le_trans (Nat.le_add_right _ 1) (Nat.le_add_right _ 1))) (.int _ _)
end
end Mine.Internal
end
section
open PySem PySem.W PyProof.Rows PySem.Calls
namespace Mine.Internal
set_option maxRecDepth 100000
set_option maxHeartbeats 4000000
open Mine.Internal.Pl
section
variable {S : Stc} {K : Frag} {A : Around} {s : Shared} {g : Gh} {ph ph' : List PO} {a : Addr}
theorem type_pop : typeIn K (.builtin "list.pop") = some (.type "method_descriptor") := by
  show pureOf (fastBuiltinType "list.pop") = _
  decide +kernel
theorem plain_pop : plainId "list.pop" = true := by decide +kernel
noncomputable def cdO (o : Obj) : ClassData := match o.data with
  | .cls c => c
  | _ => default
theorem inst_no {h : Heap} {x : Addr} {ox : Obj} (hx : h.get? x = some ox) (hnc : ∀ c, ox.data ≠ .cls c) : Looks (MS S) h (isType (.ref x)) false := fun A Q E s k q => by
  obtain ⟨hp, gg, dd, tk, os⟩ := s
  exact ks_wpAny_isType_inst (k _ _ hx) hnc q
theorem sig_pop : ∃ sig, Manifest.signature? "list.pop" = some sig ∧ Bind.checkArgs "list.pop" { sig with full := "_Accumulator.pop" } ⟨[.ref a], []⟩ = pure () :=
  ⟨(Manifest.signature? "list.pop").get (by decide +kernel), (Option.some_get _).symm, by kernel_rfl⟩
theorem chk_pop {h : Heap} {ox : Obj} {od : Option Obj} {cd : ClassData} {oD : Obj} {D : Addr} (X : K.In h) (I : InstAt h a ox D od) (hm : Looks (MS S) h (isInstance (.ref a) (.type "module")) false) (ht : Looks (MS S) h (isType (.ref a)) false)
    (hD : h.get? D = some oD) (hc : oD.data = .cls cd) (hDt : oD.cls = .type "type") (hq : s!"{cd.qualname.toString}.{Bind.lastOf "list.pop"}" = "_Accumulator.pop") {s : Shared} (hs : s.heap = h) : wpAny (MS S) A (checkBoundCall "list.pop" ⟨[.ref a], []⟩) (fun j9 s' => s' = s) NoE s := by
  subst hs
  obtain ⟨sig, h1, h2⟩ := sig_pop (a := a)
  have hva : Manifest.varargsMethods.contains "list.pop" = false := by decide +kernel
  unfold checkBoundCall
  simp only [h1, kind_pop, hva]
  show wpAny _ _ (isInstance (.ref a) (.type "module") >>= _) _ _ _
  refine wpAny_bind (hm.here ?_)
  show wpAny _ _ (isType (.ref a) >>= _) _ _ _
  refine wpAny_bind (ht.here ?_)
  show wpAny _ _ (typeOf (.ref a) >>= _) _ _ _
  refine wpAny_bind (I.type.here ?_)
  show wpAny _ _ (classData D >>= _) _ _ _
  refine wpAny_bind (wpAny_bind (wpAny_load hD ?_))
  rw [hc]
  have ht : Looks (MS S) s.heap (typeOf (.ref D)) (.type "type") := hDt ▸ (Looks.ld hD).andThen .now
  refine wpAny_pure (wpAny_bind (ht.here ?_))
  rw [if_pos (by rfl)]
  show wpAny _ _ (Bind.checkArgs "list.pop" { sig with full := s!"{cd.qualname.toString}.{Bind.lastOf "list.pop"}" } ⟨[.ref a], []⟩) _ _ _
  rw [hq, h2]
  exact wpAny_pure rfl
theorem acc_pop {c : Value} {d : Option Addr} {vs : Array Value} {k : Nat} {y : Value} (hl : s.heap.get? a = some { cls := c, dict := d, data := .seq vs k, slots := #[] }) (hy : vs[vs.size - 1]? = some y) (hs1 : vs.size ≤ sizeLine) {Q : Value → Shared → Prop} (h : Q y { s with heap := s.heap.update a (Obj.mapSeq fun xs => xs.eraseIdxIfInBounds (vs.size - 1)) }) :
    wpAny (MS S) A (Builtin.«list.pop» ⟨[.ref a], []⟩) (fun fin s' => ∃ v, fin = .done (.ret v) ∧ Q v s') NoE s := by
  obtain ⟨hp, g, d, tk, os⟩ := s
  have hpos : 0 < vs.size := by
    rcases Nat.eq_zero_or_pos vs.size with h0 | h0
    · simp [h0] at hy
    · exact h0
  have hne : ¬ vs.isEmpty = true := by
    intro he; have : vs.size = 0 := by simpa using he
    omega
  have hk : seqIndex? (-1) vs.size = some (vs.size - 1) := by
    rw [seqIndex_neg (by omega) (by omega)]; congr 1; omega
  have hz' : (vs.eraseIdxIfInBounds (vs.size - 1)).size ≤ sizeLine + 1 := Nat.le_trans (PySem.MeetsSeq.size_erased vs _) (Nat.le_succ_of_le hs1)
  wp_walk using wpAny_loadPart' hl
  simp only [hk, hy, Option.bind_some, Option.map_some]
  wp_walk using (wpAny_updateSeq hl rfl (hz := hs1) (_hz' := hz')), wpAny_loadPart' hl
  exact ⟨_, rfl, h⟩
noncomputable def qPop : { d : FnD // clD B 4 3 [] = d } := by
  have h : clD B 4 3 [] = clD B 4 3 [] := rfl
  conv at h => rhs; reduce
  exact ⟨_, h⟩
noncomputable abbrev dPop : FnD := qPop.1
theorem sup78 (P : Params) : SupF (K2.K P) 78 (fdO (K2.o78 P)) 77 42 118 cutFile :=
  ⟨by kernel_rfl, ⟨by kernel_rfl, by kernel_rfl, by kernel_rfl⟩, ⟨by kernel_rfl, by kernel_rfl, by kernel_rfl⟩, (by show ∀ x ∈ (K2.fcS 4 3).names, x.2 ≠ .cell; decide +kernel), by kernel_rfl, ⟨by kernel_rfl, by kernel_rfl⟩, ⟨K2.o77 P, _, _, by kernel_rfl, rfl, rfl⟩, by kernel_rfl, ⟨K2.o42 P, by kernel_rfl, by kernel_rfl⟩, ⟨by kernel_rfl, by kernel_rfl⟩, ⟨by kernel_rfl, by kernel_rfl⟩, ⟨K2.o118 P, _, by kernel_rfl, rfl⟩, by kernel_rfl, fun Sx => by kernel_rfl, fun Sx => by kernel_rfl⟩
theorem pc_name : ("part_count" : Str) ≠ "_initial_size" := by decide +kernel
theorem pop2 {P : Params} (Bs : Base S (K2.K P) tT) (pf : ProgF S) {n : Nat} {vs : List PV} {v : PV} {xs : List Value} (hn : 20 ≤ n) (ao : AOk A n) (e : popP vs ph = some (v, ph')) (I : Inv S s.heap s.toks g ph) (rv : VRs S s.heap g vs xs) :
    wpAny (MS S) A (call (.ref 78) xs) (Pst S s g ph v ph') NoE s :=
  l1 e fun o q e => iN e fun i hi e => iL e fun us hx e => iT e fun hl1 e => by
    subst q
    obtain ⟨n, rfl⟩ : ∃ m, n = m + 2 := ⟨n - 2, by omega⟩
    rw [asObj_eq hi] at rv
    have hp := accAt_eq hx
    refine eOne rv fun x rx => rx.eObj fun a qa hr => qa ▸ ?_
    obtain ⟨mg, mb, hg, hb, t1, t2, _⟩ := Bs.TO.ex
    have haD : a ≠ 118 := fun e => nos ((I.lo a (List.mem_of_getElem? hr)).symm.trans (e ▸ Bs.X 118 _ (by kernel_rfl : (K2.K P).lookup 118 = some (K2.o118 P))))
    refine enter_fn (fd := fdO (K2.o78 P)) (body := dPop.body) (binds := [(("self" : Str), .ref a)]) (n := n + 1) Bs ao I (by kernel_rfl : (K2.K P).lookup 78 = some (K2.o78 P)) rfl (by rfl) (by kernel_rfl) (fun Sx => by kernel_rfl) (sup78 P).nocell (fun x hx => List.mem_singleton.mp hx ▸ (by kernel_rfl)) ⟨by kernel_rfl, by kernel_rfl, by kernel_rfl⟩ fun h₀ hns hk X A ao => ?_
    have I0 : Inv S h₀ (s.toks + 1) { g with tk := g.tk } ph := I.grow hk (Nat.le_refl _) (Nat.le_trans I.tk (Nat.le_succ _))
    have T0 : Step S [] s.heap g ph h₀ { g with tk := g.tk } ph := .grow hk (Nat.le_refl _)
    show PySem.wpAt _ _ _ (execs [.If (.Compare (.Call (.Attribute (.Name ("self" : Str) _) ("part_count" : Str) _) [] [] _) [.Eq] [.Constant (.int 0) _ _] _) [.Return (some (.Tuple [.Constant (.str _) _ _, .Constant (.str _) _ _] _ _)) _] [] _, .Return (some (.Call (.Attribute (.Call (.Name _ _) [] [] _) ("pop" : Str) _) [] [] _)) _] _) _ _ _
    refine ks_wpAt_execs_cons (wpAt_of_wpAny (wpAny_If (wpAny_isTrue_Compare1 (meth_eval (by rfl) (by decide) rfl (wpAny_Name (wpAny_loadName_local (m := fun x => [(("self" : Str), Value.ref a)].reverse.lookup x) (by kernel_rfl) (by kernel_rfl) hns rfl fun pl => ?_))))))
    refine acc_inst (s := { s with heap := h₀, toks := s.toks + 1 }) I0 hp hr fun od ox IA hl => ?_
    rw [pf.cA] at IA
    refine method_fnA (f := 115) (ga := "list.__getattribute__") X IA (by kernel_rfl) (by decide +kernel) (by kernel_rfl) (by kernel_rfl) (by kernel_rfl) (shadow_of (hl _ pc_name)) ?_
    refine callWith_of (P := (K2.K P).In) rfl (fun h X => keeps_K (by kernel_rfl) h X) (evalArgs_nil3 ⟨X, ?_⟩)
    refine wpAny_mono (cnt2 Bs pf (n := n) ao I0 hp hr) (fun y s1 p => Pst.casesOn p fun g1 I1 T1 r1 m1 => ?_) fun j9 j9 z => z.elim
    have T1' := T0.trans T1 I0
    refine wpAny_Constant_int ?_
    have I2 : Inv S s1.heap (s1.toks + 1) g1 ph := I1.grow (fun j9 j9 e => e) (Nat.le_refl _) (Nat.le_succ_of_le I1.tk)
    refine wpAny_mono (cmp_ok (op := .Eq) (a := .int us.length) (b := .int 0) (c := Nat.beq us.length 0) ?_ ao.eq I2 r1 (.int _ _)) (fun c s2 p => ?_) fun j9 j9 z => z.elim
    · show some ((us.length : Int) == 0) = _
      cases us <;> rfl
    refine Pst.casesOn p fun g3 I3 T3 r3 m3 => r3.eBool fun q => q ▸ wpAny_truthy_bool ?_
    have T3' : Step S [] s.heap g ph s2.heap g3 ph := T1'.trans T3 I2
    have M3 : Same s s2 := (Same.of.trans m1).trans (Same.of.trans m3)
    have t0 : 0 < s2.toks := Nat.lt_of_lt_of_le I3.tk0 I3.tk
    cases us with
    | nil =>
      refine sp2 e fun z1 z2 => ?_
      subst z1; subst z2
      refine wpAny_execs_cons (wpAny_Return_some (wpAny_Tuple (spliced_cons (wpAny_Constant_str (k := 0) (pos := ⟨0, 0, 0, 0⟩) (spliced_cons (wpAny_Constant_str (k := 0) (pos := ⟨0, 0, 0, 0⟩) (spliced_nil ⟨by show 2 ≤ sizeLine; rw [sizeLine_eq]; decide, ?_⟩)))))))
      have tk2 : g3.tk ≤ s2.toks + 1 + 1 := Nat.le_trans I3.tk (Nat.le_add_right _ 2)
      have I4 : Inv S s2.heap (s2.toks + 1 + 1) { g3 with tk := s2.toks + 1 + 1 } ph := I3.grow (fun j9 j9 e => e) tk2 (Nat.le_refl _)
      refine Pst.after (s₁ := { s2 with toks := s2.toks + 1 + 1 }) (T3'.trans (Step.grow (fun j9 j9 e => e) tk2) I3) I4 (M3.trans .of) (Pst.tuple (s := { s2 with toks := s2.toks + 1 + 1 }) (k := 0) I4 (.cons (.strg t0 (Nat.lt_succ_of_lt (Nat.lt_succ_self _))) (.cons (.strg (Nat.succ_pos _) (Nat.lt_succ_self _)) .nil)) (Nat.le_refl _))
    | cons u us =>
      refine wpAny_execs_nil ?_
      show PySem.wpAt _ _ _ _ _ _ _
      have hr3 : g3.ρ[i]? = some a := T3'.at_ hr
      obtain ⟨vs, k, dx, od, m, q1, q2, q3, q4, q5, q6, q7, q8⟩ := I3.obj _ _ _ hp hr3
      rw [pf.cA] at q1
      have kT : ∀ {y o}, S.h₀.get? y = some o → s2.heap.get? y = some o := fun e => I3.top _ _ e (Bs.nt _)
      have kL : ∀ o, h₀.get? s.heap.objs.size = some o → s2.heap.get? s.heap.objs.size = some o := fun o e => (T1.trans T3 I2).keep _ o e (fun m => (I.fresh (none_size _)).1 m.mem) (Bs.nt _) (List.not_mem_nil)
      have IA' : InstAt s2.heap a _ 118 (some od) := ⟨q1, rfl, rfl, q2⟩
      have X' := Bs.kin I3
      have hvl : vs.length = us.length + 1 := q8.length
      have hlast : (u :: us).getLast? = (u :: us)[us.length]? := by rw [List.getLast?_eq_getElem?]; rfl
      obtain ⟨w, hw⟩ : ∃ w, (u :: us)[us.length]? = some w := ⟨_, List.getElem?_eq_getElem (Nat.lt_succ_self _)⟩
      rw [hlast, hw] at e
      refine sp2 e fun z1 z2 => ?_
      subst z1; subst z2
      obtain ⟨y, hy, ry⟩ := q8.get hw
      refine ks_wpAt_execs_cons (ks_wpAt_Return_some (ks_wpAt_mono (E := NoE) (sup_call (x := a) X' (sup78 P) (Ns.of_keep hg fun o e => kT e) (Ns.of_keep hb fun o e => kT e) (Ns.of_keep hns kL) rfl q1 rfl (fun j9 e => Data.noConfusion e) haD pf.file pf.top (by decide +kernel) (by rfl) (id := "list.pop")
        (by kernel_rfl) type_pop slot_md_get entry_md_get args_md_get (fun s => by rfl) (fun hi q => pop_get hi q) (inst_list (C := 118) (od := some od) X' IA' (by kernel_rfl)) rfl rfl plain_pop PySem.F.entry_list_pop (fun A s' hk' => chk_pop (D := 118) (cd := cdO (K2.o118 P)) (oD := K2.o118 P) (fun y o e => hk' _ _ (X' y o e)) (ox := _) (od := some od) ⟨hk' _ _ q1, rfl, rfl, hk' _ _ q2⟩ ((IA'.type.andThen (looks_subIn X' (t := .ref 118) (base := .type "module") (r := false) (by kernel_rfl))).keeps hk') ((inst_no q1 fun j9 e => Data.noConfusion e).keeps hk') (hk' _ _ (X' 118 _ (by kernel_rfl : (K2.K P).lookup 118 = some (K2.o118 P)))) (by rfl) (by rfl) (by kernel_rfl) rfl) (fun A h' hk' => acc_pop (hk' _ _ q1) (y := y) ?_ ?_ ?_)) (fun x s' h => h) fun j9 j9 z => z))
      · rw [List.getElem?_toArray, List.size_toArray, hvl]; exact hy
      · rw [List.size_toArray, hvl, sizeLine_eq]; exact Nat.le_trans (Nat.le_of_ble_eq_true hl1) (by decide)
      · have I4 : Inv S h' (s2.toks + 1) { g3 with tk := g3.tk } ph := I3.grow hk' (Nat.le_refl _) (Nat.le_succ_of_le I3.tk)
        have T4 : Step S [] s2.heap g3 ph h' { g3 with tk := g3.tk } ph := .grow hk' (Nat.le_refl _)
        show Pst S s g ph _ (ph.set i _) y { s2 with heap := _, toks := s2.toks + 1 }
        refine Pst.after (s₁ := { s2 with heap := h', toks := s2.toks + 1 }) (T3'.trans T4 I3) I4 (M3.trans .of) (acc_upd (us' := (u :: us).dropLast) (s := { s2 with heap := h', toks := s2.toks + 1 }) I4 hp (show { g3 with tk := g3.tk }.ρ[i]? = some a from hr3) (ry.mono (T4.mono nofun)) fun vs' r => ⟨vs'.dropLast, ?_, ?_⟩)
        · show vs'.toArray.eraseIdxIfInBounds (vs.toArray.size - 1) = _
          rw [show vs.toArray.size = vs'.toArray.size from (hvl.trans r.length.symm), PyProof.Rows.Copied.erase_last_eq_pop, List.pop_toArray]
        · rw [List.dropLast_eq_take, List.dropLast_eq_take, r.length]
          exact r.take _
end
end Mine.Internal
end
section
open PySem PySem.W PyProof.Rows PySem.Calls
namespace Mine.Internal
set_option maxRecDepth 100000
set_option maxHeartbeats 4000000
open Mine.Internal.Pl
section
variable {S : Stc} {K : Frag} {A : Around} {s : Shared} {g : Gh} {ph ph' : List PO} {a : Addr} {env : Env} {E : Value → Shared → Prop}
theorem for_empty {target iter : Expr} {body : List Stmt} {pos : Pos} {ax : Addr} {Q : Flow → Shared → Prop} (hh : A.handled = none) (hl : s.heap.IsList ax #[]) (hiter : ∀ Q', Q' (.ref ax) s → wpAny (MS S) A (eval iter env) Q' E s)
    (hQ : ∀ h', (∀ b o, s.heap.get? b = some o → h'.get? b = some o) → Q .next { s with heap := h' }) (hs : ∀ x, foldedSetIterable iter env x = pure x := by intro _; rfl) : wpAny (MS S) A (exec (.For target iter body [] pos) env) Q E s := by
  refine wpAny_For (hiter _ (wpAny_pyIter_list hl ?_)) hs
  refine codeAny_loop' rfl (fun n s' => s' = { s with heap := s.heap.push { cls := .type "list_iterator", data := .fields #[.ref ax, .int 0 0] } }) (fun n s' e => ?_) 0 rfl
  show wpAny _ _ ((forTurn target (.ref s.heap.objs.size) body [] env).onRaise (fun x => do noteFrame x env; theTreesLotGoes x)) _ _ s'
  refine wpAny_noted ?_
  simp only [forTurn]
  subst e
  exact wpAny_bind (wpAny_standAt (wpAny_bind (wpAny_onRaise (wpAny_pyNext_list_end hh (i := 0) (items := #[]) (l := ax) ⟨_, Heap.get?_push_size _ rfl, rfl, rfl⟩ (hl.push _) rfl fun h₁ he =>
    wpAny_pure (.inr ⟨rfl, codeAny_block (wpAny_execs_nil (hQ h₁ fun b o e => he b o (Nat.ne_of_lt (Heap.lt_size e)) (Heap.get?_push_of_some _ e)))⟩)))))
theorem name_bi {fd : FuncData} {L f : Addr} {x : Str} {v : Value} {p : Pos} {mg mb} {Q : Value → Shared → Prop} (X : K.In s.heap) (n1 : s.heap.Ns mainGlobals mg) (n2 : s.heap.Ns builtinsNs mb) (hk : fd.scope.kind = .function ∧ fd.scope.names.lookup x = some .globalImplicit) (hg : fd.globals = mainGlobals ∧ fd.builtins = builtinsNs)
    (h : nsIn K mainGlobals x = some none ∧ nsIn K builtinsNs x = some (some v)) (hd : (x == ("__debug__" : Str)) = false) (q : Q v s) : wpAny (MS S) A (eval (.Name x p) (callEnv fd L f)) Q E s :=
  Name_function_global hk.1 hk.2 (loadGlobal_builtin (show s.heap.Ns fd.globals mg from hg.1 ▸ n1) (ns_some X n1 h.1) (show s.heap.Ns fd.builtins mb from hg.2 ▸ n2) (ns_some X n2 h.2) q) hd
theorem ns_one {h : Int} {nm : Str} {t : Tok} {v : Value} : nsFind [(⟨h, .str nm t, v⟩ : DictEntry)].toArray nm = some v ∧ ∀ x, x ≠ nm → nsFind [(⟨h, .str nm t, v⟩ : DictEntry)].toArray x = none := by
  refine ⟨by simp [nsFind, findBy, Value.isStr], fun x hx => ?_⟩
  simp [nsFind, findBy, Value.isStr, Ne.symm hx]
noncomputable def qIni : { d : FnD // clD B 16 0 [] = d } := by
  have h : clD B 16 0 [] = clD B 16 0 [] := rfl
  conv at h => rhs; reduce
  exact ⟨_, h⟩
noncomputable abbrev dIni : FnD := qIni.1
theorem hdr2 {P : Params} (Bs : Base S (K2.K P) tT) (hH : S.cH = 282) {n : Nat} {vs : List PV} {v : PV} {xs : List Value} (ao : AOk A n) (e : newHdr vs ph = some (v, ph')) (I : Inv S s.heap s.toks g ph) (rv : VRs S s.heap g vs xs) :
    wpAny (MS S) A (call (.ref 282) xs) (Pst S s g ph v ph') NoE s := by
  cases vs with
  | cons _ _ => exact nos e
  | nil =>
    refine sp2 e fun z1 z2 => rv.eNil fun z3 => ?_
    subst z1; subst z2; subst z3
    have X := Bs.kin I
    obtain ⟨hp, gg, dd, tk, os⟩ := s
    replace X : (K2.K P).In hp := X
    refine wpAny_call (make_core (C := 282) (init := .ref 174) (makes_of X (by kernel_rfl)) (looks_findIn X (by kernel_rfl)) (fun self => bind_fn X self (by kernel_rfl)) (.inl rfl) ?_)
    have k1 : ∀ b o, hp.get? b = some o → ((hp.push emptyDict).push (instObj 282 hp.objs.size)).get? b = some o := fun b o e => Heap.get?_push_of_some _ (Heap.get?_push_of_some _ e)
    have X1 : (K2.K P).In ((hp.push emptyDict).push (instObj 282 hp.objs.size)) := fun b o e => k1 _ _ (X b o e)
    refine enter_code (s := ⟨(hp.push emptyDict).push (instObj 282 hp.objs.size), gg, dd, tk, os⟩) (fd := fdO (K2.o174 P)) (body := dIni.body) (binds := [(("self" : Str), .ref (hp.objs.size + 1)), (("headers" : Str), .none)]) (show A.depth + 1 < recursionLimit from Nat.lt_of_le_of_lt (Nat.succ_le_of_lt (Nat.lt_of_le_of_lt (Nat.le_add_right _ _) ao.depth)) (by unfold recursionLimit; decide)) X1 (Heap.NoLimit.at Bs.TO.lim fun o e => k1 _ _ (I.top _ _ e Bs.TO.ntl)) (by kernel_rfl : (K2.K P).lookup 174 = some (K2.o174 P)) rfl (by rfl) (by kernel_rfl) (fun Sx => by kernel_rfl) (by show ∀ x ∈ (K2.fcS 16 0).names, x.2 ≠ .cell; decide +kernel) (List.forall_mem_cons.mpr ⟨by kernel_rfl, List.forall_mem_cons.mpr ⟨by kernel_rfl, List.forall_mem_nil _⟩⟩) ⟨by kernel_rfl, by kernel_rfl, by kernel_rfl⟩ fun h₀ hns hk X2 => ?_
    show PySem.wpAt _ _ _ (execs [.Assign [.Name ("headers" : Str) _] (.IfExp (.Compare (.Name ("headers" : Str) _) [.IsNot] [.Constant .none _ _] _) _ (.List [] _) _) _, .If (.Compare (.Call (.Name ("type" : Str) _) [.Name ("headers" : Str) _] [] _) [.IsNot] [.Name ("list" : Str) _] _) _ [] _, .Assign [.Attribute (.Name ("self" : Str) _) ("_headers" : Str) _] (.Name ("headers" : Str) _) _, .If (.Constant (.bool true) _ _) [.For (.Tuple _ _ _) (.Name ("headers" : Str) _) _ [] _] [] _] _) _ _ _
    have F0 : Fr hp ((hp.push emptyDict).push (instObj 282 hp.objs.size)).objs.size h₀ (fun x => [(("self" : Str), Value.ref (hp.objs.size + 1)), (("headers" : Str), .none)].reverse.lookup x) := ⟨hns, fun b o e => hk _ _ (k1 _ _ e), by rw [Heap.size_push, Heap.size_push]; exact Nat.le_add_right _ 2⟩
    have N0 : News hp ((hp.push emptyDict).push (instObj 282 hp.objs.size)).objs.size h₀ [(hp.objs.size + 1, instObj 282 hp.objs.size), (hp.objs.size, emptyDict)] := by
      intro p hp'
      refine (List.mem_cons.mp hp').elim (fun q => q ▸ ?_) fun hp' => (List.mem_singleton.mp hp') ▸ ?_
      · exact ⟨hk _ _ (Heap.get?_push_at (by rw [Heap.size_push]) rfl), (by rw [Heap.size_push, Heap.size_push]; exact Nat.ne_of_lt (Nat.lt_succ_self _)), none_ge (Nat.le_succ _)⟩
      · exact ⟨hk _ _ (Heap.get?_push_of_some _ (Heap.get?_push_at rfl rfl)), (by rw [Heap.size_push, Heap.size_push]; exact Nat.ne_of_lt (Nat.lt_succ_of_lt (Nat.lt_succ_self _))), none_ge (Nat.le_refl _)⟩
    revert hns hk X2 F0 N0
    generalize ((hp.push emptyDict).push (instObj 282 hp.objs.size)).objs.size = L
    intro hns hk X2 F0 N0
    refine ks_wpAt_execs_cons (wpAt_of_wpAny (wpAny_Assign_Name (wpAny_IfExp (wpAny_isTrue_Compare1 (wpAny_Name (wpAny_loadName_local (by kernel_rfl) (by kernel_rfl) F0.ns rfl (wpAny_Constant_none (k := 0) (pos := ⟨0, 0, 0, 0⟩) (isNot_none (wpAny_truthy_bool ?_))))))) (by rfl)))
    refine wpAny_List (spliced_nil ⟨Nat.zero_le _, ?_⟩)
    have F1 := F0.push (seqO "list" [] 0)
    have N1 := N0.push F0 (seqO "list" [] 0)
    refine wpAny_storeName_local (by kernel_rfl) F1.ns (fun h2 hn2 hs2 => ?_) (by kernel_rfl)
    have F2 := F1.set hn2 hs2
    have N2 := N1.set hs2
    have hl1 : h₀.objs.size ≠ hp.objs.size := fun e => Nat.lt_irrefl _ (e ▸ Heap.lt_size (N0.get (.tail _ (.head _))))
    revert hl1 F2 N2
    generalize h₀.objs.size = l
    intro F2 N2 hl1
    show PySem.wpAt _ _ _ _ _ _ _
    obtain ⟨mg, mb, hg, hb, t1, t2, _⟩ := Bs.TO.ex
    have kT : ∀ {y o}, S.h₀.get? y = some o → h2.get? y = some o := fun e => F2.keep _ _ (I.top _ _ e (Bs.nt _))
    have X3 : (K2.K P).In h2 := fun y o e => F2.keep _ _ (X y o e)
    have hg2 := Ns.of_keep hg fun o e => kT e
    have hb2 := Ns.of_keep hb fun o e => kT e
    refine ks_wpAt_execs_cons (wpAt_of_wpAny (wpAny_If (wpAny_isTrue_Compare1 (wpAny_Call_Name_kw (name_bi X3 hg2 hb2 ⟨by kernel_rfl, by kernel_rfl⟩ ⟨by kernel_rfl, by kernel_rfl⟩ ⟨by kernel_rfl, by kernel_rfl⟩ (by decide +kernel)
      (PySem.callWith_type1 (wpAny_Name (wpAny_loadName_local (by kernel_rfl) (by kernel_rfl) F2.ns rfl (call_type_of (x := .ref l) (Tx := "list") ⟨_, N2.get (.head _), rfl⟩ (by decide)
        (name_bi X3 hg2 hb2 ⟨by kernel_rfl, by kernel_rfl⟩ ⟨by kernel_rfl, by kernel_rfl⟩ ⟨by kernel_rfl, by kernel_rfl⟩ (by decide +kernel) (wpAny_isNot_self (a := .type "list") rfl (wpAny_truthy_bool (wpAny_execs_nil ?_)))))))))))))
    refine ks_wpAt_execs_cons (ks_wpAt_Assign_Attr (wpAt_of_wpAny (wpAny_Name (wpAny_loadName_local (by kernel_rfl) (by kernel_rfl) F2.ns rfl (wpAny_Name (wpAny_loadName_local (by kernel_rfl) (by kernel_rfl) F2.ns rfl ?_))))) (by rfl))
    refine set_dict (L := L) (n := 0) (es := []) F2 X N2 (InstAt.of_news N2 (.tail _ (.head _)) (.tail _ (.tail _ (.head _)))) rfl (by kernel_rfl) (by kernel_rfl) (by kernel_rfl) (by kernel_rfl) rfl rfl (.tail hl1 (.tail (Nat.succ_ne_self _) (.head fun p hp => (List.not_mem_nil hp).elim))) (show 1 ≤ 1000 from by decide) fun h3 F3 N3 => ?_
    show PySem.wpAt _ _ _ _ _ _ _
    refine ks_wpAt_execs_cons (wpAt_of_wpAny (wpAny_If (wpAny_isTrue_value (wpAny_Constant_bool (k := 0) (pos := ⟨0, 0, 0, 0⟩) (wpAny_truthy_bool (wpAny_execs_cons (for_empty (show A.handled = none from ao.hand) ⟨_, N3.get (.head _), rfl, 0, rfl⟩ (fun Q' q => wpAny_Name (wpAny_loadName_local (by kernel_rfl) (by kernel_rfl) F3.ns rfl q)) (fun h4 k4 => wpAny_execs_nil ?_))))))))
    show PySem.wpAt _ _ _ (execs [] _) _ _ _
    refine wpAt_of_wpAny (wpAny_execs_nil ⟨rfl, ?_⟩)
    have kp : ∀ b o, hp.get? b = some o → h4.get? b = some o := fun b o e => k4 _ _ (F3.keep _ _ e)
    have e0 : hp.get? l = none := N3.fresh (.head _)
    have i1 : h4.get? (hp.objs.size + 1) = some (instObj 282 hp.objs.size) := k4 _ _ (N3.get (.tail _ (.head _)))
    have i2 := k4 _ _ (N3.get (.tail _ (.tail _ (.head _))))
    have f1 := I.fresh (N3.fresh (.tail _ (.head _)) : hp.get? (hp.objs.size + 1) = none)
    have f2 := I.fresh (N3.fresh (.tail _ (.tail _ (.head _))) : hp.get? hp.objs.size = none)
    have hl2 : l ≠ hp.objs.size + 1 := fun e => by
      have q := N3.get (.head _)
      rw [e, N3.get (.tail _ (.head _))] at q
      exact Data.noConfusion (congrArg Obj.data (Option.some.inj q))
    have ff : ∀ {a : Addr}, l ≠ a → a ∉ g.ρ ∧ a ∉ g.ξ ∧ ¬ S.tb a ∧ S.h₀.get? a = none → Fz S ⟨g.ρ ++ [l], g.ξ, g.tk⟩ a := fun n f => ⟨fun m => (List.mem_append.mp m).elim f.1 fun q => n (List.mem_singleton.mp q).symm, f.2.1, f.2.2.1⟩
    have fit : tk ≤ tk + 2 + 1 + 2 := Nat.le_add_right _ 5
    exact ⟨⟨g.ρ ++ [l], g.ξ, g.tk⟩, I.new e0 kp (Nat.le_refl _) (Nat.le_trans I.tk fit) ⟨[], 0, k4 _ _ (N3.get (.head _)), .nil⟩, .more I e0 kp (Nat.le_refl _), .hdr (by rw [← I.len, List.getElem?_concat_length]) (hH ▸ i1) i2 ⟨_, _, _, i2, rfl, (fun e m => ⟨_, _, congrArg DictEntry.key (List.mem_singleton.mp (List.mem_toArray.mp m))⟩), fun j9 => rfl⟩ ns_one.1 ns_one.2 rfl (ff hl2 f1) (ff hl1 f2), .of⟩
end
end Mine.Internal
end
section
open PySem PySem.W PyProof.Rows PySem.Calls Builtin Builtin.ObjectAttr
namespace Mine.Internal
set_option maxRecDepth 100000
set_option maxHeartbeats 4000000
section
variable {prog : Program} {w : World} {A : Around} {K : Frag} {C : Addr} {R : Result → Shared → Prop} {h : Heap} {g : Array GenState} {d : Drawn} {t : Nat} {os : OsState}
noncomputable abbrev accObj (C dx : Addr) : Obj := { cls := .ref C, dict := some dx, data := .seq #[] }
structure MakesL (M : Model) (h : Heap) (C : Addr) (init : Value) : Prop where
  obj : ∃ oc od cd sl, h.get? C = some ⟨oc, od, .cls cd, sl⟩ ∧ cd.hasDel = false ∧ cd.mro.isEmpty = false
  made : Looks M h (Bind.madeBy (.ref C)) (some "list.__new__")
  self : Looks M h (isSubtype (.ref C) (.ref C)) true
  lst : Looks M h (isSubtype (.ref C) (.type "list")) true
  call : Looks M h (specialOf (.ref C) "__call__") (some (.builtin "type.__call__"))
  typ : Looks M h (isInstance (.ref C) (.type "type")) true
  isT : Looks M h (isType (.ref C)) true
  chk : Looks M h (checkBuiltinCall "list.__new__" ⟨[.ref C], []⟩) ()
  ini : Looks M h (typeLookup (.ref C) "__init__") (some init)
  bnd : ∀ self, Looks M h (bindSpecial init self) (init, [self])
theorem new_list {init : Value} (Y : MakesL (model prog w) h C init) (hq : R (.ok (.ret (.ref (h.objs.size + 1)))) ⟨(h.push emptyDict).push (accObj C h.objs.size), g, d, t, os⟩) :
    codeAny (model prog w) A (.call (.builtin "list.__new__") ⟨[.ref C], []⟩) R ⟨h, g, d, t, os⟩ := by
  obtain ⟨oc, od, cd, sl, hC, e2, e4⟩ := Y.obj
  refine codeAny_of_tree ?_
  show wpAny _ A.in1 (do checkBuiltinCall "list.__new__" ⟨[.ref C], []⟩; again (.builtin "list.__new__" ⟨[.ref C], []⟩)) _ _ _
  refine wpAny_bind (Y.chk.at (wpAny_pure ⟨plainId_quiet F.plain_list_new _, codeAny_builtin_stack F.entry_list_new rfl fun p st => ?_⟩))
  rw [Around.under_plainId F.plain_list_new _]
  have hown := owner_list_new
  have h1 := Y.isT
  have h2 := Y.lst
  simp only [hown]
  refine wpAny_bind (h1.at ?_)
  refine wpAny_bind (h2.at ?_)
  show wpAny _ _ ((newObj (.type "dict") (.dict #[]) : Sem Value) >>= fun v => match v with | .ref d => newObj (.ref C) (.seq #[]) (some d) >>= ret | _ => _) _ _ _
  refine wpAny_bind (wpAny_newObj_type ?_)
  show wpAny _ _ ((newObjAsIs (.ref C) (.seq #[]) (some h.objs.size) : Sem Value) >>= ret) _ _ _
  unfold newObjAsIs classHasDel
  refine wpAny_bind (wpAny_bind (wpAny_alloc (wpAny_bind (wpAny_bind (wpAny_load (Heap.get?_push_of_some _ (Heap.get?_push_of_some _ hC)) (wpAny_pure ?_))))))
  rw [e2]
  refine wpAny_pure (wpAny_pure ?_)
  show R _ _
  rw [Heap.size_push]
  exact hq
theorem make_list {init : Value} (Y : MakesL (model prog w) h C init)
    (hq : codeAny (model prog w) (A.under (.builtin "type.__call__" ⟨[.ref C], []⟩)) (.call init ⟨[.ref (h.objs.size + 1)], []⟩) (InitBack (h.objs.size + 1) R) ⟨(h.push emptyDict).push (accObj C h.objs.size), g, d, t, os⟩) :
    codeAny (model prog w) A (.call (.ref C) ⟨[], []⟩) R ⟨h, g, d, t, os⟩ := by
  obtain ⟨oc, od, cd, sl, hC, e2, e4⟩ := Y.obj
  refine codeAny_of_tree ?_
  show wpAny _ _ (callAny (.ref C) _) _ _ _
  refine nd_load hC ?_
  show wpAny _ _ (callAny.viaDunder (.ref C) _) _ _ _
  unfold callAny.viaDunder
  refine wpAny_bind (Y.call.at ?_)
  dsimp only
  rw [tc_bind]
  refine wpAny_bind (wpAny_pure (wpAny_bind (wpAny_pure ?_)))
  refine wpAny_pure (a := Fin.again (.call (.builtin "type.__call__") ⟨[.ref C], []⟩)) (And.intro rfl ?_)
  refine codeAny_call_builtin_at (Code.quiet_builtin _ (by decide +kernel)) entry_typeCall (check_slot tc_kind tc_split Y.typ (tc_args _ _ _) ?_)
  have hm : Looks (model prog w) h (mroOf (.ref C)) cd.mro := ((Looks.ld (part := none) hC).andThen .now).andThen .now
  show wpAny _ _ (mroOf (.ref C) >>= _) _ _ _
  refine wpAny_bind (hm.at ?_)
  rw [e4]
  show wpAny _ _ (Bind.madeBy (.ref C) >>= _) _ _ _
  refine wpAny_bind (Y.made.at (wpAny_bind (wpAny_pure (wpAny_bind (wpAny_holding (wpAny_call (new_list Y ?_)))))))
  have k : ∀ b o, h.get? b = some o → ((h.push emptyDict).push (accObj C h.objs.size)).get? b = some o := fun b o e => Heap.get?_push_of_some _ (Heap.get?_push_of_some _ e)
  have hx : ((h.push emptyDict).push (accObj C h.objs.size)).get? (h.objs.size + 1) = some (accObj C h.objs.size) := by heap_get
  have t1 : Looks (model prog w) ((h.push emptyDict).push (accObj C h.objs.size)) (typeOf (.ref (h.objs.size + 1))) (.ref C) := (Looks.ld hx).andThen .now
  have t2 : Looks (model prog w) ((h.push emptyDict).push (accObj C h.objs.size)) (isInstance (.ref (h.objs.size + 1)) (.ref C)) true := t1.andThen (Y.self.keeps k)
  refine wpAny_bind (t2.at ?_)
  show wpAny _ _ (holding [Value.ref (h.objs.size + 1)] (callSpecial? (Value.ref (h.objs.size + 1)) (Str.ofString "__init__") [] []) >>= _) _ _ _
  refine wpAny_bind (wpAny_holding ?_)
  unfold callSpecial? specialOf
  refine wpAny_bind (wpAny_bind (t1.at ((Y.ini.keeps k).at ?_)))
  refine wpAny_holding (wpAny_bind (((Y.bnd (.ref (h.objs.size + 1))).keeps k).at (wpAny_bind (wpAny_call (codeAny_mono hq fun r s' z => ?_)))))
  rcases r with e | (v | _ | _ | _) <;> first | exact z | exact z.elim | skip
  obtain ⟨rfl, z⟩ := z
  exact wpAny_pure (wpAny_pure z)
end
section
variable {prog : Program} {w : World} {A : Around} {E : Value → Shared → Prop} {s : Shared} {K : Frag} {x C dx : Addr} {ox : Obj} {cd : ClassData} {name : Str} {v : Value}
theorem set_first {Q : Unit → Shared → Prop} (X : K.In s.heap) (I : InstAt s.heap x ox C (some emptyDict)) (hd : ox.dict = some dx) (D : s.heap.get? dx = some emptyDict) (hs : findIn K (.ref C) "__setattr__" = some (some (.builtin "object.__setattr__"))) (sub : subIn K (.ref C) (.type "object") = some true)
    (hc : clsIn K C = some cd) (pass : refuseLoop (.ref x) "__setattr__" cd.mro = pure ()) (hh : cd.hasDict = true) (ha : findIn K (.ref C) name = some none)
    (q : ∀ h', h'.get? dx = some (dictOf [⟨PyData.keyHash w.params name, .str name (s.toks + 1), v⟩] 1) → Heap.SameBut dx s.heap h' → Q () { s with heap := h', toks := s.toks + 2 }) : wpAny (model prog w) A (setAttr (.ref x) name v) Q E s := by
  refine set_plain X I hs ?_
  have SF := PySem.F.store_object
  refine codeAny_call_builtin SF.slot.plain SF.entry (@check_slot (model prog w) _ _ { s with toks := s.toks + 1 } "object.__setattr__" "object" "__setattr__" (.ref x) [.str name s.toks, v] [] _ SF.kind SF.split (I.type.andThen (looks_subIn X sub)) (SF.args (.ref x) (.str name s.toks) v) ?_)
  have hm : Looks (model prog w) s.heap (mroOf (.ref C)) cd.mro := (looks_clsIn X hc).andThen .now
  rw [osa_eq, refuse_eq]
  refine wpAny_bind (wpAny_bind (I.type.at (wpAny_bind (hm.at ?_))))
  rw [pass]
  refine wpAny_pure (wpAny_bind (I.type.at (wpAny_bind ((looks_findIn X ha).at (wpAny_bind (wpAny_pure ?_))))))
  obtain ⟨hx, hcl, hn, -⟩ := I
  obtain ⟨oc, odi, oda, osl⟩ := ox
  dsimp only at hcl hd
  subst hcl hd
  refine wpAny_bind (wpAny_pure (wpAny_bind (wpAny_bind (wpAny_loadPart hx (wpAny_bind ((looks_clsIn X hc).at ?_))))))
  rw [hh]
  refine wpAny_pure (a := some dx) (wpAny_bind (wpAny_pure (wpAny_bind ?_)))
  unfold nsSet
  refine wpAny_bind (wpAny_bind (wpAny_askSetting (wpAny_pure (wpAny_bind (wpAny_mkText (wpAny_bind (wpAny_loadPart D ?_)))))))
  have D' : (s.heap.update dx (Obj.putName name (PyData.keyHash w.params name) (.str name (s.toks + 1)) v)).get? dx = some (dictOf [⟨PyData.keyHash w.params name, .str name (s.toks + 1), v⟩] 1) := Heap.get?_update_self _ D rfl
  have ne : aRefKeyMayBeTheName name #[] = false := by rw [aRefKeyMayBeTheName_at]; simp
  show wpAny _ _ (if aRefKeyMayBeTheName name #[] = true then _ else _) _ _ _
  rw [if_neg (by rw [ne]; exact Bool.false_ne_true)]
  refine wpAny_updatePart D (wpAny_bind (wpAny_lookBehind D' (pastItsLine_dict (by show 1 ≤ _; exact Nat.le_add_left _ _)) ?_))
  exact wpAny_pure (q _ D' (Heap.SameBut.update ..))
end
open Mine.Internal.Pl
section
variable {S : Stc} {K : Frag} {A : Around} {s : Shared} {g : Gh} {ph ph' : List PO} {a : Addr}
noncomputable def qAcc : { d : FnD // clD B 4 0 [] = d } := by
  have h : clD B 4 0 [] = clD B 4 0 [] := rfl
  conv at h => rhs; reduce
  exact ⟨_, h⟩
noncomputable abbrev dAcc : FnD := qAcc.1
theorem sup55 (P : Params) : SupF (K2.K P) 55 (fdO (K2.o55 P)) 54 42 118 cutFile :=
  ⟨by kernel_rfl, ⟨by kernel_rfl, by kernel_rfl, by kernel_rfl⟩, ⟨by kernel_rfl, by kernel_rfl, by kernel_rfl⟩, (by show ∀ x ∈ (K2.fcS 4 0).names, x.2 ≠ .cell; decide +kernel), by kernel_rfl, ⟨by kernel_rfl, by kernel_rfl⟩, ⟨K2.o54 P, _, _, by kernel_rfl, rfl, rfl⟩, by kernel_rfl, ⟨K2.o42 P, by kernel_rfl, by kernel_rfl⟩, ⟨by kernel_rfl, by kernel_rfl⟩, ⟨by kernel_rfl, by kernel_rfl⟩, ⟨K2.o118 P, _, by kernel_rfl, rfl⟩, by kernel_rfl, fun Sx => by kernel_rfl, fun Sx => by kernel_rfl⟩
theorem type_init : typeIn K (.builtin "list.__init__") = some (.type "wrapper_descriptor") := by
  show pureOf (fastBuiltinType "list.__init__") = _
  decide +kernel
theorem chk_init : checkBoundCall "list.__init__" ⟨[.ref a], []⟩ = pure () := by kernel_rfl
theorem plain_init : plainId "list.__init__" = true := by decide +kernel
theorem makes118 {P : Params} {M : Model} {h : Heap} (X : (K2.K P).In h) : MakesL M h 118 (.ref 55) :=
  ⟨⟨_, _, _, _, X 118 _ (by kernel_rfl : (K2.K P).lookup 118 = some (K2.o118 P)), by kernel_rfl, by kernel_rfl⟩, .of_peek X (by kernel_rfl), .of_peek X (by kernel_rfl), .of_peek X (by kernel_rfl), .of_peek X (by kernel_rfl), .of_peek X (by kernel_rfl), .of_peek X (by kernel_rfl), .of_peek X (by kernel_rfl), looks_findIn X (by kernel_rfl), fun self => bind_fn X self (by kernel_rfl)⟩
theorem init_acc {c : Value} {dd : Option Addr} {k : Nat} (hl : s.heap.get? a = some { cls := c, dict := dd, data := .seq #[] k, slots := #[] }) {Q : Value → Shared → Prop} (h : Q .none { s with heap := s.heap.update a (Obj.mapSeq fun j9 => #[]) }) :
    wpAny (MS S) A (Builtin.«list.__init__» ⟨[.ref a], []⟩) (fun fin s' => ∃ v, fin = .done (.ret v) ∧ Q v s') NoE s := by
  obtain ⟨hp, g, d, tk, os⟩ := s
  have hs1 : (#[] : Array Value).size ≤ sizeLine := Nat.zero_le _
  have hz' : (#[] : Array Value).size ≤ sizeLine + 1 := Nat.zero_le _
  wp_walk using (wpAny_updateSeq hl rfl (hz := hs1) (_hz' := hz')), wpAny_loadPart' hl
  exact ⟨_, rfl, h⟩
theorem acc_ini2 {P : Params} (Bs : Base S (K2.K P) tT) (pf : ProgF S) {n : Nat} {vs : List PV} {v : PV} {xs : List Value} (ao : AOk A n) (e : newAcc vs ph = some (v, ph')) (I : Inv S s.heap s.toks g ph) (rv : VRs S s.heap g vs xs) :
    wpAny (MS S) A (call (.ref 118) xs) (Pst S s g ph v ph') NoE s := by
  cases vs with
  | cons _ _ => exact nos e
  | nil =>
    refine sp2 e fun z1 z2 => rv.eNil fun z3 => ?_
    subst z1; subst z2; subst z3
    have X := Bs.kin I
    obtain ⟨hp, gg, dd, tk, os⟩ := s
    replace X : (K2.K P).In hp := X
    refine wpAny_call (make_list (makes118 X) ?_)
    have k1 : ∀ b o, hp.get? b = some o → ((hp.push emptyDict).push (accObj 118 hp.objs.size)).get? b = some o := fun b o e => Heap.get?_push_of_some _ (Heap.get?_push_of_some _ e)
    refine enter_code (s := ⟨(hp.push emptyDict).push (accObj 118 hp.objs.size), gg, dd, tk, os⟩) (fd := fdO (K2.o55 P)) (body := dAcc.body) (binds := [(("self" : Str), .ref (hp.objs.size + 1)), (("initial_size" : Str), .int 0 305)]) (show A.depth + 1 < recursionLimit from Nat.lt_of_le_of_lt (Nat.succ_le_of_lt (Nat.lt_of_le_of_lt (Nat.le_add_right _ _) ao.depth)) (by unfold recursionLimit; decide)) (fun b o e => k1 _ _ (X b o e)) (Heap.NoLimit.at Bs.TO.lim fun o e => k1 _ _ (I.top _ _ e Bs.TO.ntl)) (by kernel_rfl : (K2.K P).lookup 55 = some (K2.o55 P)) rfl (by rfl) (by kernel_rfl) (fun Sx => by kernel_rfl) (sup55 P).nocell (List.forall_mem_cons.mpr ⟨by kernel_rfl, List.forall_mem_cons.mpr ⟨by kernel_rfl, List.forall_mem_nil _⟩⟩) ⟨by kernel_rfl, by kernel_rfl, by kernel_rfl⟩ fun h₀ hns hk X2 => ?_
    show PySem.wpAt _ _ _ (execs [.Assign [.Attribute (.Name ("self" : Str) _) ("_initial_size" : Str) _] (.Name ("initial_size" : Str) _) _, .Expr (.Call (.Attribute (.Call (.Name _ _) [] [] _) ("__init__" : Str) _) [] [] _) _] _) _ _ _
    have z1 : h₀.get? (hp.objs.size + 1) = some (accObj 118 hp.objs.size) := hk _ _ (Heap.get?_push_at (by rw [Heap.size_push]) rfl)
    have z2 : h₀.get? hp.objs.size = some emptyDict := hk _ _ (Heap.get?_push_of_some _ (Heap.get?_push_at rfl rfl))
    have kh : ∀ b o, hp.get? b = some o → h₀.get? b = some o := fun b o e => hk _ _ (k1 _ _ e)
    have nL : ((hp.push emptyDict).push (accObj 118 hp.objs.size)).objs.size ≠ hp.objs.size := by rw [Heap.size_push, Heap.size_push]; exact Nat.ne_of_gt (Nat.lt_succ_of_lt (Nat.lt_succ_self _))
    revert hns nL
    generalize ((hp.push emptyDict).push (accObj 118 hp.objs.size)).objs.size = L
    intro hns nL
    refine ks_wpAt_execs_cons (ks_wpAt_Assign_Attr (wpAt_of_wpAny (wpAny_Name (wpAny_loadName_local (by kernel_rfl) (by kernel_rfl) hns rfl (wpAny_Name (wpAny_loadName_local (by kernel_rfl) (by kernel_rfl) hns rfl ?_))))) (by rfl))
    refine set_first (dx := hp.objs.size) (cd := cdO (K2.o118 P)) X2 (C := 118) (ox := accObj 118 hp.objs.size) ⟨z1, rfl, rfl, z2⟩ rfl z2 (by kernel_rfl) (by kernel_rfl) (by kernel_rfl) (by kernel_rfl) (by kernel_rfl) (by kernel_rfl) fun h2 d2 sb => ?_
    have z3 : h2.get? (hp.objs.size + 1) = some (accObj 118 hp.objs.size) := (sb.2 _ (Nat.succ_ne_self _)).trans z1
    have kh2 : ∀ b o, hp.get? b = some o → h2.get? b = some o := fun b o e => (sb.2 _ (Nat.ne_of_lt (Heap.lt_size e))).trans (kh _ _ e)
    have hns2 := Ns.of_keep hns fun o e => (sb.2 _ nL).trans e
    obtain ⟨mg, mb, hg, hb, t1, t2, _⟩ := Bs.TO.ex
    have kT : ∀ {y o}, S.h₀.get? y = some o → h2.get? y = some o := fun e => kh2 _ _ (I.top _ _ e (Bs.nt _))
    have X3 : (K2.K P).In h2 := fun y o e => kh2 _ _ (X y o e)
    have haD : hp.objs.size + 1 ≠ 118 := fun e => Nat.lt_irrefl _ (Nat.lt_of_succ_lt (e ▸ Heap.lt_size (X 118 _ (by kernel_rfl : (K2.K P).lookup 118 = some (K2.o118 P)))))
    show PySem.wpAt _ _ _ _ _ _ _
    refine ks_wpAt_execs_cons (ks_wpAt_Expr_any (ks_wpAt_mono (E := NoE) (sup_call (x := hp.objs.size + 1) X3 (sup55 P) (Ns.of_keep hg fun o e => kT e) (Ns.of_keep hb fun o e => kT e) hns2 rfl z3 rfl (fun j9 e => Data.noConfusion e) haD pf.file pf.top (by decide +kernel) (by rfl) (id := "list.__init__")
      (by kernel_rfl) type_init slot_wd_get entry_wd_get args_wd_get (fun s => by rfl) (fun hi q => init_get hi q) (inst_list (C := 118) (od := some (dictOf _ 1)) X3 ⟨z3, rfl, rfl, d2⟩ (by kernel_rfl)) rfl rfl plain_init PySem.F.entry_list_init (fun A s' j9 => chk_init ▸ wpAny_pure rfl) (fun A h' hk' => init_acc (hk' _ _ z3) (Q := fun j9 s' => ∃ h5 t5, tk ≤ t5 ∧ h5.get? (hp.objs.size + 1) = some (accObj 118 hp.objs.size) ∧ h5.get? hp.objs.size = some (dictOf [⟨PyData.keyHash S.w.params ("_initial_size" : Str), .str ("_initial_size" : Str) (tk + 2 + 1), .int 0 305⟩] 1) ∧ (∀ b o, hp.get? b = some o → h5.get? b = some o) ∧ s' = ⟨h5, gg, dd, t5, os⟩) ?_)) (fun x s' h => ?_) fun j9 j9 z => z))
    · exact ⟨h'.update (hp.objs.size + 1) (Obj.mapSeq fun j9 => #[]), _, (show tk ≤ tk + 2 + 2 + 1 from Nat.le_add_right _ 5), upd_acc (hk' _ _ z3) (fun j9 => #[]), (Heap.get?_update_of_ne _ (Nat.succ_ne_self _) (hk' _ _ d2)), fun b o e => Heap.get?_update_of_ne _ (Nat.ne_of_gt (Nat.lt_succ_of_lt (Heap.lt_size e))) (hk' _ _ (kh2 _ _ e)), rfl⟩
    · obtain ⟨h5, t5, y1, y2, y3, y4, rfl⟩ := h
      show PySem.wpAt _ _ _ (execs [] _) _ _ _
      refine wpAt_of_wpAny (wpAny_execs_nil ⟨rfl, ?_⟩)
      have e0 : hp.get? (hp.objs.size + 1) = none := none_ge (Nat.le_succ _)
      have f2 := I.fresh (none_ge (Nat.le_refl _) : hp.get? hp.objs.size = none)
      have ff : Fz S ⟨g.ρ ++ [hp.objs.size + 1], g.ξ, g.tk⟩ hp.objs.size := ⟨fun m => (List.mem_append.mp m).elim f2.1 fun q => Nat.succ_ne_self _ (List.mem_singleton.mp q).symm, f2.2.1, f2.2.2.1⟩
      exact ⟨⟨g.ρ ++ [hp.objs.size + 1], g.ξ, g.tk⟩, I.new e0 y4 (Nat.le_refl _) (Nat.le_trans I.tk y1) ⟨[], 0, hp.objs.size, _, _, pf.cA.symm ▸ y2, y3, rfl, ⟨_, _, _, y3, rfl, (fun e m => ⟨_, _, congrArg DictEntry.key (List.mem_singleton.mp (List.mem_toArray.mp m))⟩), fun j9 => rfl⟩, ns_one.2, ⟨_, ns_one.1⟩, ff, .nil⟩, .more I e0 y4 (Nat.le_refl _), .obj (by rw [← I.len, List.getElem?_concat_length]), .of⟩
end
end Mine.Internal
end
section
open PySem PySem.W PyProof.Rows PySem.Calls
namespace Mine.Internal
set_option maxRecDepth 100000
set_option maxHeartbeats 4000000
open Mine.Internal.Pl
section
variable {S : Stc} {P : Params}
theorem pk2 {α : Type} {b : Bool} {x y : Option α} {r : α} {p : Prop} (e : (match b with | true => x | false => y) = some r) (h1 : b = true → x = some r → p) (h2 : y = some r → p) : p := by
  cases b
  · exact h2 e
  · exact h1 rfl e
theorem prim2 (Bs : Base S (K2.K P) tT) (pf : ProgF S) (hH : S.cH = 282) (n : Nat) : PrimOk S P2 n := by
  have kp : ∀ a, keepIn (K2.K P) (.ref a) = true → Keeps S a := fun a h => keeps_of Bs.X Bs.nt h
  refine ⟨fun {A a vs kvs ph v ph' s g xs ys} hn ao e I rv rk => ?_, fun {a vs kvs ph v ph'} e => ?_, fun ao e I h1 h2 => minx_ok ao e I h1 h2⟩
  · cases kvs with
    | nil => exact pk2 e (fun q e => by cases Nat.eq_of_beq_eq_true q; exact acc_ini2 Bs pf ao e I rv) fun e => pk2 e (fun q e => by cases Nat.eq_of_beq_eq_true q; exact hdr2 Bs hH ao e I rv) fun e => pk2 e (fun q e => by cases Nat.eq_of_beq_eq_true q; exact add2 P Bs hn ao e I rv) fun e => pk2 e (fun q e => by cases Nat.eq_of_beq_eq_true q; exact push2 P Bs pf.cA hn ao e I rv) fun e => iT e fun q e => by cases Nat.eq_of_beq_eq_true q; exact pop2 Bs pf hn ao e I rv
    | cons kv kvs => exact iT e fun q e => by cases Nat.eq_of_beq_eq_true q; exact conv_of (conv2 P Bs) (Nat.le_trans (by decide) hn) ao e I rv rk
  · cases kvs with
    | nil => exact pk2 e (fun q e => by cases Nat.eq_of_beq_eq_true q; exact kp _ (by kernel_rfl)) fun e => pk2 e (fun q e => by cases Nat.eq_of_beq_eq_true q; exact kp _ (by kernel_rfl)) fun e => pk2 e (fun q e => by cases Nat.eq_of_beq_eq_true q; exact kp _ (by kernel_rfl)) fun e => pk2 e (fun q e => by cases Nat.eq_of_beq_eq_true q; exact kp _ (by kernel_rfl)) fun e => iT e fun q e => by cases Nat.eq_of_beq_eq_true q; exact kp _ (by kernel_rfl)
    | cons kv kvs => exact iT e fun q e => by cases Nat.eq_of_beq_eq_true q; exact kp _ (by kernel_rfl)
end
theorem walk2 {prog : Program} {w : World} {s₁ : Shared} {mg mb : Str → Option Value} (X : (K2.K w.params).In s₁.heap) (hg : s₁.heap.Ns mainGlobals mg) (hb : s₁.heap.Ns builtinsNs mb) (hl : s₁.heap.NoLimit) (gens : s₁.gens = #[]) (htk : 0 < s₁.toks)
    (hfile : ((prog.main.file : Str) == cutFile) = true) (htop : (prog.main.scope.names.lookup ("super" : Str)).isSome = false) {ns : List Int} (hn : ns.length ≤ 63) {a : Addr} {its : List Value} (hL : s₁.heap.get? a = some (seqO "list" its 0)) (hi : IntsAre its ns)
    {Q : Value → Shared → Prop} {E : Value → Shared → Prop} (hq : ∀ s', OldK s₁.heap s'.heap → s'.os = s₁.os → AllBare s'.gens → Q (.bool true) s') : wpAny (model prog w) callerA (call (.ref 332) [.ref a]) Q E s₁ := by
  let S : Stc := ⟨prog, w, s₁.heap, fun j9 => False, fun j9 h => h.elim, 118, 282⟩
  have nt : ∀ a, ¬ S.tb a := fun j9 h => h
  have TO : TopOk S tT := topok_of (S := S) (K := K2.K w.params) X nt hg hb hl (Option.isSome_iff_exists.mp (by kernel_rfl : ((K2.K w.params).lookup sysModules).isSome = true)) (gl_all w.params) (fn_all w.params)
  have MO : MetOk S tT := metok_of X nt (met_all w.params).1 (met_all w.params).2
  have OO : ∀ P, ObjOk S tT P := fun P => objok_of (attr := none) X nt (by kernel_rfl) (by kernel_rfl) (by kernel_rfl) (by kernel_rfl) (by kernel_rfl) fun f e => Option.some.inj ((show look nDelitem tT.met = some 200 from rfl).symm.trans e) ▸ ⟨by kernel_rfl, by kernel_rfl⟩
  have Bs : Base S (K2.K w.params) tT := ⟨X, nt, TO, MO, OO _⟩
  have I : Inv S s₁.heap s₁.toks ⟨[], [], 1⟩ [] := ⟨Nat.one_pos, htk, fun j9 j9 e j9 => e, .of_keep fun j9 j9 e => e, rfl, .nil, (fun j9 h => (List.not_mem_nil h).elim), (fun j9 j9 j9 h => nos h), (fun j9 h => (List.not_mem_nil h).elim)⟩
  have H := ev_ok TO (prim2 Bs ⟨rfl, hfile, htop⟩ rfl) MO (OO _) 62
  refine wpAny_mono ((H.c (law_all (n := 0) hn)).ok (A := callerA) ⟨rfl, by decide, by decide +kernel⟩ I (.cons (.lst hL ⟨nofun, nofun, nofun⟩ (VRs_int hi)) .nil)) (fun v s' p => ?_) fun j9 j9 z => z.elim
  refine Pst.casesOn p fun g1 I1 T1 r1 m1 => r1.eBool fun q => q ▸ hq s' I1.old m1.1 (m1.2 (gens ▸ AllBare.empty))
end Mine.Internal
end
section
open PySem PySem.W PySem.W.X PyProof.Rows
open PySem.W.X PySem.W.ZRun
set_option maxRecDepth 100000
set_option maxHeartbeats 0
set_option tactic.hygienic true in
theorem PySem.Challenge.cw_tc0054_01_holds : PySem.Challenge.rw_tc0054_01.Holds := by
  w_on
  refine holds_law (by kernel_rfl) fun said => ?_
  refine holds_openX (q := Mine.Internal.q) (loose := Mine.Internal.loose) (XP := XL Mine.Internal.q []) Mine.Internal.left0 (fun s e => xl_of s (Bool.and_eq_true_iff.mp e).1) XL.keeps (by rfl) (by rfl) (by rfl) (fun s e => recFacts_of (Bool.and_eq_true_iff.mp e).2) (by rfl) (by first | assumption | decide +kernel) (by decide +kernel) ⟨rfl, rfl, rfl, rfl, rfl, by decide +kernel⟩ ?hw ?hc
  case hw => w_witness2
  intro w s₀ s₁ mg mb G y fa o pm cd doc dV kV ho hd hcd hD hmg hg args vals as L hpre hlay hrd hwl hlo
  clear hd hcd hD
  obtain ⟨zA, zI, zN, zT⟩ := z_facts (K := Mine.Internal.K2.K) (fun P => rfl) y
  have KX : (Mine.Internal.K2.K w.params).In s₁.heap := InK.keeps w s₀.heap s₁.heap zI L.keeps
  have T := G.T
  have hfa := Option.some.inj (hmg.symm.trans (Mine.Internal.ns_some KX T.g (by kernel_rfl : nsIn (Mine.Internal.K2.K w.params) mainGlobals "law" = some (some (.ref 332)))))
  cases hfa
  clear G y zA zI zN ho hmg said
  wrow_args hpre hlay hrd hwl hlo
  rename_i ns hl2 as1 as2 a its as0 hL hra hw1 hr0 hI hr1 hn hTrue
  have ht : 0 < s₁.toks := Nat.lt_of_lt_of_le (by decide) (script_toks L zT)
  exact Mine.Internal.walk2 KX T.g T.b T.nolimit hg ht (by kernel_rfl) (by kernel_rfl) (Nat.le_of_not_lt fun h => hn (Int.ofNat_lt.mpr h)) (script_obj L hL) hI fun s' h1 h2 h3 => ⟨.inl ⟨_, _, [], rfl, (fun j9 => rfl), ReadsW.bool true, (by wrow_post), fun j9 => ⟨List.nodup_nil, fun j9 hm => (nomatch hm)⟩⟩, h1, h2, h3⟩
end
