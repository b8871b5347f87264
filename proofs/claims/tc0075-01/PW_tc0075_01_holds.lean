import PyProof.Rows.All
import Wide.All
import OpenK.AllK
import Wide.FinOn
import Open.Boot
import PyProof.StrLawsChain
import PySem.Challenge.RW_tc0075_01
open PySem PySem.Calls PyProof.Rows PySem.W
set_option Elab.async false
set_option linter.all false
set_option bootstrap.genMatcherCode false
set_option compiler.extract_closed false
set_option genSizeOf false
set_option maxRecDepth 100000
set_option maxHeartbeats 4000000
namespace Mine
theorem o_63 {i : Nat} (h : i < 6) : (i : Int) < 2 ^ 63 := by omega
theorem o_64 {i : Nat} (h : i < 5) : (i : Int) < 2 ^ 63 := by omega
theorem o_r1 {i : Nat} : ((i : Int) + 1 - 0).toNat = i + 1 := by omega
theorem o_r0 {i : Nat} : ((i : Int) - 0).toNat = i := by omega
theorem o_z1 {i : Nat} : (0 : Int) + (i : Int) * 1 = (i : Int) := by omega
theorem o_z0 {i : Nat} : (0 : Int) + (i : Int) = (i : Int) := Int.zero_add _
theorem o_u {k : Nat} (h : k < 5) : (k : Int) + 1 ≤ 1000000 := by omega
theorem o_d {k : Nat} : -1000000 ≤ (k : Int) + 1 := by omega
theorem o_n {k : Nat} : -1000000 ≤ (k : Int) := by omega
theorem o_ne {i j : Nat} (h : j < i + 1) (h2 : ¬ j = i) : j < i := Nat.lt_of_le_of_ne (Nat.le_of_lt_succ h) h2
theorem o_iff {i j : Nat} : ((i : Int) ≠ (j : Int)) ↔ i ≠ j := by omega
theorem o_ss {a i : Nat} (h : i < a) : a - i = a - (i + 1) + 1 := by omega
theorem o_ns {a p : Nat} (h : p ≤ a) : a + 1 - p = a - p + 1 := Nat.succ_sub h
theorem o_pn {n : Nat} : (-1 + (n : Int)).toNat = n - 1 := by omega
theorem o_t2 {n : Nat} : ((n : Int) - 2).toNat = n - 2 := by omega
theorem o_w {a b : Nat} (h : b ≤ a) : ((a : Int) - (b : Int) + 1).toNat = a - b + 1 := by omega
theorem o_mx {n : Nat} (h : 1 ≤ n) : max 0 (min (-1 + (n : Int)) (n : Int)) = ((n - 1 : Nat) : Int) := by omega
end Mine
namespace Mine
theorem runs_toks {M : Model} {Γ : Ctx} {p : Pos} {t : Sem Fin} {fs : List Frame} {s s' : Shared} {e : End} (h : Runs M Γ p t fs s e s') : s.toks ≤ s'.toks := by
  induction h with
  | done => exact Nat.le_refl _
  | raise => exact Nat.le_refl _
  | yield => exact Nat.le_refl _
  | fresh _ ih => exact Nat.le_trans (Nat.le_succ _) ih
  | call _ _ a b => exact Nat.le_trans a b
  | resumeFresh _ _ _ _ a b => exact Nat.le_trans a b
  | resumeSuspended _ _ _ _ a b => exact Nat.le_trans a b
  | segRet _ _ a b => exact Nat.le_trans a b
  | segGen _ _ a b => exact Nat.le_trans a b
  | segSuspGen _ _ _ _ a b => exact Nat.le_trans a b
  | again _ _ ih => exact ih
  | rule _ ih => exact ih
  | «at» _ ih => exact ih
  | load _ _ ih => exact ih
  | update _ _ ih => exact ih
  | loadIfAlive _ ih => exact ih
  | point _ ih => exact ih
  | alloc _ ih => exact ih
  | ask _ ih => exact ih
  | choose _ _ ih => exact ih
  | os _ ih => exact ih
  | handled _ ih => exact ih
  | genState _ _ ih => exact ih
  | stack _ ih => exact ih
  | thread _ ih => exact ih
  | newGen _ ih => exact ih
  | callSusp _ ih => exact ih
  | resumeJustStarted _ _ _ ih => exact ih
  | resumeThrowFresh _ _ ih => exact ih
  | resumeRunning _ _ ih => exact ih
  | resumeFinished _ _ ih => exact ih
  | segSuspOut _ _ ih => exact ih
theorem wakes_toks {M : Model} {Γ : Ctx} {p : Pos} {g : Nat} {r : Resume} {s s' : Shared} {res : GenResult} (h : Wakes M Γ p g r s res s') : s.toks ≤ s'.toks := by
  unfold Wakes at h
  split at h
  · exact h.elim
  · split at h
    · obtain ⟨e₁, s₁, hr, _, _, rfl⟩ := h; have q := runs_toks hr; exact q
    · rw [h.2]; exact Nat.le_refl _
    · rw [h.2]; exact Nat.le_refl _
  · obtain ⟨e₁, s₁, hr, _, _, rfl⟩ := h; have q := runs_toks hr; exact q
  · rw [h.2]; exact Nat.le_refl _
  · rw [h.2]; exact Nat.le_refl _
theorem wp_toks {α : Type} {M : Model} {Γ : Ctx} (t : Sem α) : ∀ {Q : α → Pos → Shared → Prop} {E : Value → Pos → Shared → Prop} {p : Pos} {s : Shared} {n : Nat}, n ≤ s.toks → Sem.wp M Γ t Q E p s →
    Sem.wp M Γ t (fun a p' s' => n ≤ s'.toks ∧ Q a p' s') (fun e p' s' => n ≤ s'.toks ∧ E e p' s') p s := by
  induction t with
  | pure a => intro Q E p s n hn h; unfold Sem.wp at h ⊢; exact ⟨hn, h⟩
  | raise e => intro Q E p s n hn h; unfold Sem.wp at h ⊢; exact ⟨hn, h⟩
  | unsupported w => intro Q E p s n hn h; unfold Sem.wp at h; exact h.elim
  | finish e => intro Q E p s n hn h; unfold Sem.wp at h; exact h.elim
  | rule tag k ih => intro Q E p s n hn h; unfold Sem.wp at h ⊢; exact ih () hn h
  | «at» p' k ih => intro Q E p s n hn h; unfold Sem.wp at h ⊢; exact ih () hn h
  | load a part k ih => intro Q E p s n hn h; unfold Sem.wp at h ⊢; obtain ⟨o, e, h⟩ := h; exact ⟨o, e, ih o hn h⟩
  | update a part f k ih => intro Q E p s n hn h; unfold Sem.wp at h ⊢; exact ⟨h.1, ih () (s := { s with heap := _ }) hn h.2⟩
  | loadIfAlive a k ih => intro Q E p s n hn h; unfold Sem.wp at h ⊢; exact ih _ hn h
  | point l k ih => intro Q E p s n hn h; unfold Sem.wp at h ⊢; exact ih () hn h
  | register _ _ => intro Q E p s n hn h; unfold Sem.wp at h; exact h.elim
  | alloc o k ih => intro Q E p s n hn h; unfold Sem.wp at h ⊢; exact ih _ (s := { s with heap := _ }) hn h
  | fresh k ih => intro Q E p s n hn h; unfold Sem.wp at h ⊢; exact ih _ (s := { s with toks := _ }) (Nat.le_succ_of_le hn) h
  | ask k ih => intro Q E p s n hn h; unfold Sem.wp at h ⊢; exact ih _ hn h
  | choose src m k ih => intro Q E p s n hn h; unfold Sem.wp at h ⊢; exact ⟨h.1, ih _ (s := { s with drawn := _ }) hn h.2⟩
  | os q l k ih => intro Q E p s n hn h; unfold Sem.wp at h ⊢; exact ih _ (s := { s with os := _ }) hn h
  | call c hd g l k ih => intro Q E p s n hn h; unfold Sem.wp at h ⊢; obtain ⟨r, s', hr, h⟩ := h; exact ⟨r, s', hr, ih r (Nat.le_trans hn (runs_toks hr)) h⟩
  | handled own k ih => intro Q E p s n hn h; unfold Sem.wp at h ⊢; exact ih _ hn h
  | genState g k ih => intro Q E p s n hn h; unfold Sem.wp at h ⊢; obtain ⟨st, e, h⟩ := h; exact ⟨st, e, ih _ hn h⟩
  | newGen c k ih => intro Q E p s n hn h; unfold Sem.wp at h ⊢; exact ih _ (s := { s with gens := _ }) hn h
  | resume g r l k ih => intro Q E p s n hn h; unfold Sem.wp at h ⊢; obtain ⟨res, s', hw, h⟩ := h; exact ⟨res, s', hw, ih _ (Nat.le_trans hn (wakes_toks hw)) h⟩
  | yield => intro Q E p s n hn h; unfold Sem.wp at h; exact h.elim
  | stack k ih => intro Q E p s n hn h; unfold Sem.wp at h ⊢; exact ih _ hn h
  | fork => intro Q E p s n hn h; unfold Sem.wp at h; exact h.elim
  | thread k ih => intro Q E p s n hn h; unfold Sem.wp at h ⊢; exact ih _ hn h
  | await => intro Q E p s n hn h; unfold Sem.wp at h; exact h.elim
theorem wpAny_of {α : Type} {M : Model} {A : Around} {t : Sem α} {Q : α → Shared → Prop} {E : Value → Shared → Prop} {s : Shared} (h : wpAny M A t (fun v s' => s.toks ≤ s'.toks → Q v s') (fun e s' => s.toks ≤ s'.toks → E e s') s) : wpAny M A t Q E s := fun Γ p hΓ =>
  Sem.wp_mono M Γ t (fun _ _ _ q => q.2 q.1) (fun _ _ _ q => q.2 q.1) p s (wp_toks t (Nat.le_refl _) (h Γ p hΓ))
end Mine
namespace Mine
inductive V where
  | none | bool (b : Bool) | int (i : Int) | str (s : Str) | mid (s : Str) | ref (a : Addr) | bi (id : String) | ty (n : String) | bad
class HasP where
  K : Tok → Nat
  clk : Nat
  hP : ∀ t, K t ≠ 0 → t < clk
  hB : ∀ t, 1 ≤ t → t < 2513 → K t = 0
variable [HasP]
noncomputable def ab : Value → V
  | .none => .none | .bool b => .bool b | .int i _ => .int i | .str s t => (match HasP.K t with | 0 => .str s | 1 => .mid s | _ => .bad) | .ref a => .ref a
  | .builtin id => .bi id | .type n => .ty n | _ => .bad
theorem P_new {t : Tok} (h : HasP.clk ≤ t) : HasP.K t = 0 := by
  by_cases e : HasP.K t = 0
  · exact e
  · exact absurd (HasP.hP t e) (Nat.not_lt.mpr h)
theorem ab_new {t : Tok} {x : Str} (h : HasP.clk ≤ t) : ab (.str x t) = .str x := by simp [ab, P_new h]
inductive O where
  | list (xs : List V)
  | tup (xs : List V)
  | inst (C d : Addr)
  | ns (m : String → Option V)
  | iter (l : Addr) (i : Nat)
  | range (a b c : Int)
  | slice (l u s : V)
  | attrs (l : List (String × V))
  | enumr (it : Addr) (i : Nat)
  | iterE
noncomputable def keyS : Value → Option Str
  | .str x _ => some x
  | _ => none
noncomputable def Attrs (es : List DictEntry) (l : List (String × V)) : Prop := es.map (fun e => (keyS e.key, ab e.val)) = l.map fun p => (some (Str.ofString p.1), p.2)
noncomputable def OR (h : Heap) (a : Addr) : O → Prop
  | .list xs => ∃ vs n, h.get? a = some { cls := .type "list", data := .seq vs n } ∧ vs.toList.map ab = xs
  | .tup xs => ∃ vs n, h.get? a = some { cls := .type "tuple", data := .seq vs n } ∧ vs.toList.map ab = xs
  | .inst C d => h.get? a = some { cls := .ref C, dict := some d, data := .plain }
  | .ns m => ∃ m', h.Ns a m' ∧ ∀ x : String, (m' (Str.ofString x)).map ab = m x
  | .iter l i => h.IsListIter a l i
  | .range i j k => ∃ t u v, IsRange h a i j k t u v
  | .slice l u s => ∃ x y z, h.get? a = some { cls := .type "slice", data := .fields #[x, y, z] } ∧ ab x = l ∧ ab y = u ∧ ab z = s
  | .attrs l => ∃ es n, h.get? a = some (dictOf es n) ∧ Attrs es l
  | .enumr it i => ∃ old, IsEnum h a it i old
  | .iterE => ∃ o x, h.get? a = some o ∧ o.cls = .type "list_iterator" ∧ o.data = .fields #[.none, x]
theorem OR.get {h : Heap} {a : Addr} {o : O} (x : OR h a o) : ∃ ob, h.get? a = some ob := by
  cases o with
  | list xs => obtain ⟨vs, n, e, _⟩ := x; exact ⟨_, e⟩
  | tup xs => obtain ⟨vs, n, e, _⟩ := x; exact ⟨_, e⟩
  | inst C d => exact ⟨_, x⟩
  | ns m => obtain ⟨m', ⟨o, _, _, e, _⟩, _⟩ := x; exact ⟨_, e⟩
  | iter l i => obtain ⟨o, e, _⟩ := x; exact ⟨_, e⟩
  | range i j k => obtain ⟨t, u, v, e⟩ := x; exact ⟨_, e⟩
  | slice l u s => obtain ⟨t, u, v, e, _⟩ := x; exact ⟨_, e⟩
  | attrs l => obtain ⟨t, u, e, _⟩ := x; exact ⟨_, e⟩
  | enumr it i => obtain ⟨t, e⟩ := x; exact ⟨_, e⟩
  | iterE => obtain ⟨o, t, e, _⟩ := x; exact ⟨_, e⟩
theorem OR.at {h h' : Heap} {a : Addr} {o : O} (x : OR h a o) (e : ∀ ob, h.get? a = some ob → h'.get? a = some ob) : OR h' a o := by
  cases o with
  | list xs => obtain ⟨vs, n, g, r⟩ := x; exact ⟨vs, n, e _ g, r⟩
  | tup xs => obtain ⟨vs, n, g, r⟩ := x; exact ⟨vs, n, e _ g, r⟩
  | inst C d => exact e _ x
  | ns m => obtain ⟨m', ⟨o, es, ep, g, r⟩, q⟩ := x; exact ⟨m', ⟨o, es, ep, e _ g, r⟩, q⟩
  | iter l i => obtain ⟨o, g, r⟩ := x; exact ⟨o, e _ g, r⟩
  | range i j k => obtain ⟨t, u, v, g⟩ := x; exact ⟨t, u, v, e _ g⟩
  | slice l u s => obtain ⟨t, u, v, g, r⟩ := x; exact ⟨t, u, v, e _ g, r⟩
  | attrs l => obtain ⟨t, u, g, r⟩ := x; exact ⟨t, u, e _ g, r⟩
  | enumr it i => obtain ⟨t, g⟩ := x; exact ⟨t, e _ g⟩
  | iterE => obtain ⟨o, t, g, r⟩ := x; exact ⟨o, t, e _ g, r⟩
theorem OR.lt {h : Heap} {a : Addr} {o : O} (x : OR h a o) : a < h.objs.size := let ⟨_, e⟩ := x.get; Heap.lt_size e
noncomputable abbrev HA := Addr → Option O
noncomputable def HA.set (H : HA) (a : Addr) (o : O) : HA := fun b => if b = a then some o else H b
omit [HasP] in
theorem HA.set_self (H : HA) (a : Addr) (o : O) : H.set a o a = some o := by simp [HA.set]
omit [HasP] in
theorem HA.set_ne {H : HA} {a b : Addr} {o : O} (h : b ≠ a) : H.set a o b = H b := by simp [HA.set, h]
omit [HasP] in
theorem HA.set_old {H : HA} {a b : Addr} {o o' : O} (ha : H a = none) (hb : H b = some o') : H.set a o b = some o' := by
  rw [HA.set_ne (by rintro rfl; rw [ha] at hb; cases hb), hb]
structure Glb where
  p : Program
  w : World
  B : Heap
  os : OsState
  mg : Str → Option Value
  mb : Str → Option Value
structure GOk (G : Glb) : Prop where
  g : G.B.Ns mainGlobals G.mg
  b : G.B.Ns builtinsNs G.mb
  bl : ∀ x : Str, x ≠ "__name__" → G.mb x = bootBuiltins x
  lim : G.B.NoLimit
  last : ∃ o, G.B.get? (G.B.objs.size - 1) = some o
omit [HasP] in
theorem ofString_inj {a b : String} (h : Str.ofString a = Str.ofString b) : a = b := by
  rw [Str.ofString_eq_byList] at h
  unfold Str.ofStringByList at h
  injection h with h
  have h := congrArg Array.toList h
  simp only at h
  have inj : ∀ {l l' : List Char}, l.map Char.toNat = l'.map Char.toNat → l = l' := by
    intro l
    induction l with
    | nil => intro l' e; cases l' <;> simp_all
    | cons c l ih =>
      intro l' e
      cases l' with
      | nil => simp at e
      | cons c' l' =>
        simp only [List.map_cons, List.cons.injEq] at e
        rw [Char.toNat_inj.mp e.1, ih e.2]
  exact String.toList_injective (inj h)
structure Hp (G : Glb) (Z : Addr → Option Obj) (H : HA) (s : Shared) : Prop where
  bz : ∀ b o, G.B.get? b = some o → Z b = some o
  fz : ∀ b o, Z b = some o → s.heap.get? b = some o
  sep : ∀ b o, Z b = some o → H b = none
  trk : ∀ a o, H a = some o → OR s.heap a o
  gens : s.gens = #[]
  os : s.os = G.os
  ck : HasP.clk ≤ s.toks
section
variable {G : Glb} {Z : Addr → Option Obj} {H : HA} {s : Shared}
theorem Hp.base (x : Hp G Z H s) : ∀ b o, G.B.get? b = some o → s.heap.get? b = some o := fun b o e => x.fz b o (x.bz b o e)
theorem Hp.size (g : GOk G) (x : Hp G Z H s) : G.B.objs.size ≤ s.heap.objs.size := by
  obtain ⟨o, e⟩ := g.last
  have h : (G.B.objs.size - 1 : Nat) < s.heap.objs.size := Heap.lt_size (x.base _ _ e)
  omega
theorem Hp.fresh (x : Hp G Z H s) {a : Addr} (h : s.heap.objs.size ≤ a) : H a = none := by
  cases e : H a with
  | none => rfl
  | some o => exact absurd (x.trk a o e).lt (Nat.not_lt.mpr h)
theorem Hp.zfresh (x : Hp G Z H s) {a : Addr} (h : s.heap.objs.size ≤ a) : Z a = none := by
  cases e : Z a with
  | none => rfl
  | some o => exact absurd (Heap.lt_size (x.fz a o e)) (Nat.not_lt.mpr h)
theorem Hp.ext (x : Hp G Z H s) {s' : Shared} (hk : ∀ b o, s.heap.get? b = some o → s'.heap.get? b = some o) (hg : s'.gens = s.gens) (ho : s'.os = s.os) (ht : s.toks ≤ s'.toks := by first | exact Nat.le_refl _ | exact Nat.le_succ _ | assumption | omega) : Hp G Z H s' :=
  ⟨x.bz, fun b o e => hk b o (x.fz b o e), x.sep, fun a o e => (x.trk a o e).at (fun ob => hk a ob), hg.trans x.gens, ho.trans x.os, Nat.le_trans x.ck ht⟩
theorem Hp.toks (x : Hp G Z H s) (t : Nat) (ht : s.toks ≤ t := by first | exact Nat.le_refl _ | exact Nat.le_succ _ | assumption | omega) : Hp G Z H { s with toks := t } := x.ext (fun _ _ e => e) rfl rfl ht
theorem Hp.track (x : Hp G Z H s) {a : Addr} {o : O} (hz : Z a = none) (ho : OR s.heap a o) : Hp G Z (H.set a o) s := by
  refine ⟨x.bz, x.fz, fun b ob e => ?_, fun b ob e => ?_, x.gens, x.os, x.ck⟩
  · rw [HA.set_ne (by rintro rfl; rw [hz] at e; cases e)]; exact x.sep b ob e
  · by_cases hb : b = a
    · subst hb; rw [HA.set_self] at e; cases e; exact ho
    · rw [HA.set_ne hb] at e; exact x.trk b ob e
theorem Hp.mut (x : Hp G Z H s) {a : Addr} {o o' : O} {s' : Shared} (ha : H a = some o') (hs : ∀ b ob, b ≠ a → s.heap.get? b = some ob → s'.heap.get? b = some ob) (ho : OR s'.heap a o) (hg : s'.gens = s.gens) (hos : s'.os = s.os) (ht : s.toks ≤ s'.toks := by first | exact Nat.le_refl _ | exact Nat.le_succ _ | assumption | omega) :
    Hp G Z (H.set a o) s' := by
  have hz : Z a = none := by
    cases e : Z a with
    | none => rfl
    | some ob => rw [x.sep a ob e] at ha; cases ha
  refine ⟨x.bz, fun b ob e => hs b ob (by rintro rfl; rw [hz] at e; cases e) (x.fz b ob e), fun b ob e => ?_, fun b ob e => ?_, hg.trans x.gens, hos.trans x.os, Nat.le_trans x.ck ht⟩
  · rw [HA.set_ne (by rintro rfl; rw [hz] at e; cases e)]; exact x.sep b ob e
  · by_cases hb : b = a
    · subst hb; rw [HA.set_self] at e; cases e; exact ho
    · rw [HA.set_ne hb] at e; exact (x.trk b ob e).at (fun q => hs b q hb)
theorem Hp.alloc (x : Hp G Z H s) {s' : Shared} {o : O} (hk : ∀ b ob, s.heap.get? b = some ob → s'.heap.get? b = some ob) {a : Addr} (ha : s.heap.objs.size ≤ a) (ho : OR s'.heap a o) (hg : s'.gens = s.gens) (hos : s'.os = s.os) (ht : s.toks ≤ s'.toks := by first | exact Nat.le_refl _ | exact Nat.le_succ _ | assumption | omega) :
    Hp G Z (H.set a o) s' := (x.ext hk hg hos ht).track (x.zfresh ha) ho
noncomputable def froz (H : HA) (h : Heap) : Addr → Option Obj := fun b => match H b with
  | some _ => none
  | none => h.get? b
theorem Hp.freeze (x : Hp G Z H s) : Hp G (froz H s.heap) H s := by
  refine ⟨fun b o e => ?_, fun b o e => ?_, fun b o e => ?_, x.trk, x.gens, x.os, x.ck⟩
  · unfold froz; rw [x.sep b o (x.bz b o e)]; exact x.base b o e
  · unfold froz at e; split at e
    · cases e
    · exact e
  · unfold froz at e; split at e
    · cases e
    · assumption
theorem Hp.thaw (x : Hp G Z H s) {H' : HA} {s' : Shared} (y : Hp G (froz H s.heap) H' s') : Hp G Z H' s' := by
  have hz : ∀ b o, Z b = some o → froz H s.heap b = some o := fun b o e => by unfold froz; rw [x.sep b o e]; exact x.fz b o e
  exact ⟨x.bz, fun b o e => y.fz b o (hz b o e), fun b o e => y.sep b o (hz b o e), y.trk, y.gens, y.os, y.ck⟩
end
noncomputable abbrev NoE : Value → Shared → Prop := fun _ _ => False
noncomputable def PostT {α : Type} (G : Glb) (Z : Addr → Option Obj) (Q : α → HA → Prop) : α → Shared → Prop := fun v s' => ∃ H', Hp G Z H' s' ∧ Q v H'
noncomputable def JT {α : Type} (G : Glb) (A : Around) (H : HA) (t : Sem α) (Q : α → HA → Prop) : Prop :=
  ∀ Z s, Hp G Z H s → wpAny (model G.p G.w) A t (PostT G Z Q) NoE s
noncomputable abbrev VQ (Q : V → HA → Prop) : Value → HA → Prop := fun v => Q (ab v)
structure Fm where
  env : Env
  A : Around
  own : Bool
noncomputable abbrev Vars := String → Option V
noncomputable def Vars.set (ρ : Vars) (x : String) (v : V) : Vars := fun y => if y = x then some v else ρ y
structure Loc (F : Fm) (Z : Addr → Option Obj) (ρ : Vars) (H : HA) (h : Heap) : Prop where
  ns : ∃ m, h.Ns F.env.locals m ∧ ∀ x : String, F.env.kindOf (Str.ofString x) = some .local → (m (Str.ofString x)).map ab = ρ x
  hL : H F.env.locals = none
  zL : Z F.env.locals = none
  cell : ∀ (x : String) c, F.env.cells.lookup (Str.ofString x) = some c → (∃ ov, h.IsCell c ov ∧ ov.map ab = ρ x) ∧ H c = none ∧ c ≠ F.env.locals
  cw : F.own = true → ∀ (x : String) c, F.env.cells.lookup (Str.ofString x) = some c → Z c = none ∧ ∀ y : String, F.env.cells.lookup (Str.ofString y) = some c → x = y
structure Inv (G : Glb) (F : Fm) (Z : Addr → Option Obj) (ρ : Vars) (H : HA) (s : Shared) : Prop where
  hp : Hp G Z H s
  loc : Loc F Z ρ H s.heap
section
variable {G : Glb} {F : Fm} {Z : Addr → Option Obj} {ρ : Vars} {H : HA} {s : Shared}
theorem Inv.thaw (x : Inv G F Z ρ H s) {H' : HA} {s' : Shared} (y : Hp G (froz H s.heap) H' s') : Inv G F Z ρ H' s' := by
  have keep : ∀ b o, H b = none → s.heap.get? b = some o → froz H s.heap b = some o := fun b o e g => by unfold froz; rw [e]; exact g
  refine ⟨x.hp.thaw y, ?_⟩
  obtain ⟨m, hn, hm⟩ := x.loc.ns
  obtain ⟨o, es, ep, e, r⟩ := hn
  have k := keep _ _ x.loc.hL e
  refine ⟨⟨m, ⟨o, es, ep, y.fz _ _ k, r⟩, hm⟩, y.sep _ _ k, x.loc.zL, fun n c hc => ?_, x.loc.cw⟩
  obtain ⟨⟨ov, ⟨o, e, d⟩, q⟩, h1, h2⟩ := x.loc.cell n c hc
  have k := keep _ _ h1 e
  exact ⟨⟨ov, ⟨o, y.fz _ _ k, d⟩, q⟩, y.sep _ _ k, h2⟩
theorem Inv.lift {α : Type} (x : Inv G F Z ρ H s) {t : Sem α} {Q : α → HA → Prop} (h : JT G F.A H t Q) :
    wpAny (model G.p G.w) F.A t (fun v s' => ∃ H', Inv G F Z ρ H' s' ∧ Q v H') NoE s :=
  wpAny_mono (h _ s x.hp.freeze) (fun _ _ ⟨H', y, q⟩ => ⟨H', x.thaw y, q⟩) fun _ _ e => e
theorem Inv.storeLocal {n : String} {v : Value} (x : Inv G F Z ρ H s) (hf : F.env.scope.kind = .function) (hk : F.env.kindOf (Str.ofString n) = some .local) (hc : F.env.cells.lookup (Str.ofString n) = none) {Q : Unit → Shared → Prop}
    (h : ∀ s', Inv G F Z (ρ.set n (ab v)) H s' → Q () s') : wpAny (model G.p G.w) F.A (storeName F.env (Str.ofString n) v) Q NoE s := by
  obtain ⟨m, hn, hm⟩ := x.loc.ns
  refine wpAny_storeName_local hk hn (fun h' hn' hs => h _ ?_) (by rw [hf]; rfl)
  have ext : ∀ b o, b ≠ F.env.locals → s.heap.get? b = some o → h'.get? b = some o := fun b o hb e => (hs.2 b hb).trans e
  refine ⟨⟨x.hp.bz, fun b o e => ext b o (by rintro rfl; rw [x.loc.zL] at e; cases e) (x.hp.fz b o e), x.hp.sep, fun a o e => (x.hp.trk a o e).at fun ob => ext a ob (by rintro rfl; rw [x.loc.hL] at e; cases e), x.hp.gens, x.hp.os, Nat.le_trans x.hp.ck (Nat.le_succ _)⟩, ⟨_, hn', fun y hy => ?_⟩, x.loc.hL, x.loc.zL, fun y c hy => ?_, x.loc.cw⟩
  · unfold Vars.set
    by_cases e : y = n
    · subst e; simp
    · have this : Str.ofString y ≠ Str.ofString n := fun q => e (ofString_inj q)
      rw [if_neg this, if_neg e]; exact hm y hy
  · obtain ⟨⟨ov, ⟨o, e, d⟩, q⟩, h1, h2⟩ := x.loc.cell y c hy
    refine ⟨⟨ov, ⟨o, ext c o h2 e, d⟩, ?_⟩, h1, h2⟩
    unfold Vars.set
    rw [if_neg (by rintro rfl; rw [hc] at hy; cases hy)]; exact q
theorem Inv.storeCell {n : String} {v : Value} {c : Addr} (x : Inv G F Z ρ H s) (hf : F.env.scope.kind = .function) (hk : F.env.kindOf (Str.ofString n) = some .cell) (hc : F.env.cells.lookup (Str.ofString n) = some c) (hw : F.own = true) {Q : Unit → Shared → Prop}
    (hl : ∀ y : String, F.env.kindOf (Str.ofString y) = some .local → y ≠ n)
    (h : ∀ s', Inv G F Z (ρ.set n (ab v)) H s' → Q () s') : wpAny (model G.p G.w) F.A (storeName F.env (Str.ofString n) v) Q NoE s := by
  obtain ⟨⟨ov, hcell, hov⟩, h1, h2⟩ := x.loc.cell n c hc
  obtain ⟨z1, z2⟩ := x.loc.cw hw n c hc
  obtain ⟨m, hn, hm⟩ := x.loc.ns
  refine wpAny_storeName_cell hf hk hc hcell fun h' hv hs => h _ ?_
  have ext : ∀ b o, b ≠ c → s.heap.get? b = some o → h'.get? b = some o := fun b o hb e => (hs.2 b hb).trans e
  refine ⟨⟨x.hp.bz, fun b o e => ext b o (by rintro rfl; rw [z1] at e; cases e) (x.hp.fz b o e), x.hp.sep, fun a o e => (x.hp.trk a o e).at fun ob => ext a ob (by rintro rfl; rw [h1] at e; cases e), x.hp.gens, x.hp.os, x.hp.ck⟩,
    ⟨m, hn.sameBut hs (Ne.symm h2), fun y hy => ?_⟩, x.loc.hL, x.loc.zL, fun y c' hy => ?_, x.loc.cw⟩
  · unfold Vars.set; rw [if_neg (hl y hy)]; exact hm y hy
  · obtain ⟨⟨ov', hc', q⟩, g1, g2⟩ := x.loc.cell y c' hy
    unfold Vars.set
    by_cases e : y = n
    · subst e; rw [hc] at hy; cases hy; exact ⟨⟨_, hv, by simp⟩, g1, g2⟩
    · rw [if_neg e]
      refine ⟨⟨ov', ?_, q⟩, g1, g2⟩
      have hne : c' ≠ c := by rintro rfl; exact e (z2 y hy).symm
      obtain ⟨o, ho, hd⟩ := hc'
      exact ⟨o, ext _ _ hne ho, hd⟩
end
end Mine
namespace Mine
variable [HasP]
noncomputable def lc : Option NameKind → Bool
  | some .local | some .cell => true
  | _ => false
structure FOk (G : Glb) (F : Fm) (sc : Scope) (d : Nat) : Prop where
  fn : F.env.scope.kind = .function
  gl : F.env.globals = mainGlobals
  bl : F.env.builtins = builtinsNs
  hd : F.A.handled = none
  dep : F.A.depth + d < recursionLimit
  un : F.A.units + 40 * d < cLine
  sco : ∀ n, F.env.kindOf n = sc.names.lookup n
  cl : ∀ n, sc.names.lookup n = some .cell → ∃ c, F.env.cells.lookup n = some c
  lo : ∀ n, sc.names.lookup n = some .local → F.env.cells.lookup n = none
  low : G.B.objs.size ≤ F.env.locals
noncomputable abbrev Md (G : Glb) : Model := model G.p G.w
noncomputable abbrev IQ {α : Type} (G : Glb) (F : Fm) (Z : Addr → Option Obj) (ρ : Vars) (Q : α → HA → Prop) : α → Shared → Prop := fun v s' => ∃ H', Inv G F Z ρ H' s' ∧ Q v H'
structure Ev (G : Glb) (F : Fm) (e : Expr) (ρ : Vars) (H : HA) (Q : V → HA → Prop) : Prop where
  run : ∀ Z s, Inv G F Z ρ H s → wpAny (Md G) F.A (eval e F.env) (IQ G F Z ρ (VQ Q)) NoE s
structure Evs (G : Glb) (F : Fm) (es : List Expr) (ρ : Vars) (H : HA) (Q : List V → HA → Prop) : Prop where
  run : ∀ Z s pos, Inv G F Z ρ H s → wpAny (Md G) F.A (spliced (backTo pos (starEach es F.env))) (IQ G F Z ρ fun vs => Q (vs.map ab)) NoE s
structure Tr (G : Glb) (F : Fm) (e : Expr) (ρ : Vars) (H : HA) (Q : Bool → HA → Prop) : Prop where
  run : ∀ Z s, Inv G F Z ρ H s → wpAny (Md G) F.A (isTrue e F.env (eval e F.env)) (IQ G F Z ρ Q) NoE s
inductive Fl where
  | next | brk | cont | ret (v : V)
noncomputable def abF : Flow → Fl
  | .next => .next | .brk => .brk | .cont => .cont | .ret v => .ret (ab v)
noncomputable abbrev SQ (G : Glb) (F : Fm) (Z : Addr → Option Obj) (Q : Fl → Vars → HA → Prop) : Flow → Shared → Prop := fun f s' => ∃ ρ' H', Inv G F Z ρ' H' s' ∧ Q (abF f) ρ' H'
structure Ex (G : Glb) (F : Fm) (st : Stmt) (ρ : Vars) (H : HA) (Q : Fl → Vars → HA → Prop) : Prop where
  run : ∀ Z s, Inv G F Z ρ H s → wpAny (Md G) F.A (exec st F.env) (SQ G F Z Q) NoE s
structure Exs (G : Glb) (F : Fm) (sts : List Stmt) (ρ : Vars) (H : HA) (Q : Fl → Vars → HA → Prop) : Prop where
  run : ∀ Z s, Inv G F Z ρ H s → wpAny (Md G) F.A (execs sts F.env) (SQ G F Z Q) NoE s
structure Ld (G : Glb) (F : Fm) (n : String) (ρ : Vars) (H : HA) (Q : V → HA → Prop) : Prop where
  run : ∀ Z s, Inv G F Z ρ H s → wpAny (Md G) F.A (loadName F.env (Str.ofString n)) (IQ G F Z ρ (VQ Q)) NoE s
structure As (G : Glb) (F : Fm) (t : Expr) (v : V) (ρ : Vars) (H : HA) (Q : Vars → HA → Prop) : Prop where
  run : ∀ Z s x, ab x = v → Inv G F Z ρ H s → wpAny (Md G) F.A (assign t F.env x) (fun _ s' => ∃ ρ' H', Inv G F Z ρ' H' s' ∧ Q ρ' H') NoE s
structure St (G : Glb) (F : Fm) (x : String) (v : V) (ρ : Vars) (H : HA) (Q : Vars → HA → Prop) : Prop where
  run : ∀ Z s u, ab u = v → Inv G F Z ρ H s → wpAny (Md G) F.A (storeName F.env (Str.ofString x) u) (fun _ s' => ∃ ρ' H', Inv G F Z ρ' H' s' ∧ Q ρ' H') NoE s
structure FT {α : Type} (G : Glb) (F : Fm) (H : HA) (t : Sem α) (Q : α → HA → Prop) : Prop where
  run : ∀ Z ρ s, Inv G F Z ρ H s → wpAny (Md G) F.A t (IQ G F Z ρ Q) NoE s
theorem FT.of {α : Type} {G : Glb} {F : Fm} {H : HA} {t : Sem α} {Q : α → HA → Prop} (h : JT G F.A H t Q) : FT G F H t Q := .mk fun Z ρ s x => x.lift h
noncomputable def Bin (G : Glb) (F : Fm) (op : Operator) (a b : V) (H : HA) (Q : V → HA → Prop) : Prop :=
  ∀ x y, ab x = a → ab y = b → FT G F H (binaryOp op x y) (VQ Q)
noncomputable def IBin (G : Glb) (F : Fm) (op : Operator) (a b : V) (H : HA) (Q : V → HA → Prop) : Prop :=
  ∀ x y, ab x = a → ab y = b → FT G F H (inplaceOp op x y) (VQ Q)
noncomputable def Un (G : Glb) (F : Fm) (op : UnaryOp) (a : V) (H : HA) (Q : V → HA → Prop) : Prop :=
  ∀ x, ab x = a → FT G F H (unaryOp op x) (VQ Q)
noncomputable def Cmp (G : Glb) (F : Fm) (op : CmpOp) (a b : V) (H : HA) (Q : V → HA → Prop) : Prop :=
  ∀ x y, ab x = a → ab y = b → FT G F H (compareOp op x y) (VQ Q)
noncomputable def Tru (G : Glb) (F : Fm) (a : V) (H : HA) (Q : Bool → HA → Prop) : Prop :=
  ∀ x, ab x = a → FT G F H (truthy x) Q
noncomputable def GetI (G : Glb) (F : Fm) (a b : V) (H : HA) (Q : V → HA → Prop) : Prop :=
  ∀ x y, ab x = a → ab y = b → FT G F H (getItem x y) (VQ Q)
noncomputable def SetI (G : Glb) (F : Fm) (a b v : V) (H : HA) (Q : HA → Prop) : Prop :=
  ∀ x y z, ab x = a → ab y = b → ab z = v → FT G F H (setItem x y z) (fun _ => Q)
noncomputable def SetA (G : Glb) (F : Fm) (a : V) (n : Str) (v : V) (H : HA) (Q : HA → Prop) : Prop :=
  ∀ x z, ab x = a → ab z = v → FT G F H (setAttr x n z) (fun _ => Q)
noncomputable def GetA (G : Glb) (F : Fm) (a : V) (n : Str) (H : HA) (Q : V → HA → Prop) : Prop :=
  ∀ x, ab x = a → FT G F H (getAttr x n true) (VQ Q)
noncomputable def Cal (G : Glb) (F : Fm) (f : Value) (vs : List V) (H : HA) (Q : V → HA → Prop) : Prop :=
  ∀ cs : List Value, cs.map ab = vs → FT G F H (call f cs) (VQ Q)
section
variable (G : Glb) (F : Fm) (ρ : Vars)
noncomputable abbrev kBin (op : Operator) (Q : V → HA → Prop) (a : V) : V → HA → Prop := fun b H2 => Bin G F op a b H2 Q
noncomputable abbrev kBinL (op : Operator) (r : Expr) (Q : V → HA → Prop) : V → HA → Prop := fun a H1 => Ev G F r ρ H1 (kBin G F op Q a)
noncomputable abbrev kUn (op : UnaryOp) (Q : V → HA → Prop) : V → HA → Prop := fun a H1 => Un G F op a H1 Q
noncomputable abbrev kCmp (op : CmpOp) (Q : V → HA → Prop) (a : V) : V → HA → Prop := fun b H2 => Cmp G F op a b H2 Q
noncomputable abbrev kCmpL (op : CmpOp) (r : Expr) (Q : V → HA → Prop) : V → HA → Prop := fun a H1 => Ev G F r ρ H1 (kCmp G F op Q a)
noncomputable abbrev kTru (Q : Bool → HA → Prop) : V → HA → Prop := fun c H3 => Tru G F c H3 Q
noncomputable abbrev kAnd (b : Expr) (Q : Bool → HA → Prop) : Bool → HA → Prop := fun t H1 => if t then Tr G F b ρ H1 Q else Q false H1
noncomputable abbrev kOr (b : Expr) (Q : Bool → HA → Prop) : Bool → HA → Prop := fun t H1 => if t then Q true H1 else Tr G F b ρ H1 Q
noncomputable abbrev kIf (a b : Expr) (Q : V → HA → Prop) : Bool → HA → Prop := fun c H1 => if c then Ev G F a ρ H1 Q else Ev G F b ρ H1 Q
noncomputable abbrev kCons (Q : List V → HA → Prop) (v : V) : List V → HA → Prop := fun vs H2 => Q (v :: vs) H2
noncomputable abbrev kArgs (es : List Expr) (Q : List V → HA → Prop) : V → HA → Prop := fun v H1 => Evs G F es ρ H1 (kCons Q v)
noncomputable abbrev kIfS (a b : List Stmt) (Q : Fl → Vars → HA → Prop) : Bool → HA → Prop := fun c H1 => if c then Exs G F a ρ H1 Q else Exs G F b ρ H1 Q
noncomputable abbrev kRet (Q : Fl → Vars → HA → Prop) : V → HA → Prop := fun v H1 => Q (.ret v) ρ H1
noncomputable abbrev kList (Q : V → HA → Prop) : List V → HA → Prop := fun vs H1 => vs.length ≤ sizeLine ∧ ∀ a, H1 a = none → Q (.ref a) (H1.set a (.list vs))
noncomputable abbrev kTup (Q : V → HA → Prop) : List V → HA → Prop := fun vs H1 => vs.length ≤ sizeLine ∧ ∀ a, H1 a = none → Q (.ref a) (H1.set a (.tup vs))
noncomputable abbrev kSt (n : String) (Q : Vars → HA → Prop) : V → HA → Prop := fun v H1 => St G F n v ρ H1 Q
end
section
variable {G : Glb} {F : Fm} {ρ : Vars} {H : HA} {sc : Scope} {d : Nat}
theorem Ev.mono {e : Expr} {Q Q' : V → HA → Prop} (h : Ev G F e ρ H Q) (hq : ∀ a H', Q a H' → Q' a H') : Ev G F e ρ H Q' :=
  .mk fun Z s x => wpAny_mono (h.run Z s x) (fun _ _ ⟨H', a, b⟩ => ⟨H', a, hq _ _ b⟩) fun _ _ e => e
theorem Ev_int {i : Int} {k pos} {Q : V → HA → Prop} (h : Q (.int i) H) : Ev G F (.Constant (.int i) k pos) ρ H Q :=
  .mk fun Z s x => wpAny_Constant_int ⟨H, ⟨x.hp.toks _, x.loc⟩, h⟩
theorem Ev_str {i : Str} {k pos} {Q : V → HA → Prop} (h : Q (.str i) H) : Ev G F (.Constant (.str i) k pos) ρ H Q :=
  .mk fun Z s x => wpAny_Constant_str ⟨H, ⟨x.hp.toks _, x.loc⟩, by show Q (ab (.str i s.toks)) H; rw [ab_new x.hp.ck]; exact h⟩
theorem Ev_bool {i : Bool} {k pos} {Q : V → HA → Prop} (h : Q (.bool i) H) : Ev G F (.Constant (.bool i) k pos) ρ H Q :=
  .mk fun Z s x => wpAny_Constant_bool ⟨H, x, h⟩
theorem Ev_none {k pos} {Q : V → HA → Prop} (h : Q .none H) : Ev G F (.Constant .none k pos) ρ H Q :=
  .mk fun Z s x => wpAny_Constant_none ⟨H, x, h⟩
theorem Ld_ {n : String} {v : V} {Q : V → HA → Prop} (ok : FOk G F sc d) (hv : ρ n = some v) (h : Q v H) (hk : lc (sc.names.lookup (Str.ofString n)) = true := by decide +kernel) : Ld G F n ρ H Q := .mk fun Z s x => by
  cases e : sc.names.lookup (Str.ofString n) with
  | none => rw [e] at hk; cases hk
  | some k =>
    rw [e] at hk
    cases k with
    | «local» =>
      obtain ⟨m, hn, hm⟩ := x.loc.ns
      have q := hm n ((ok.sco _).trans e)
      rw [hv] at q
      cases e' : m (Str.ofString n) with
      | none => rw [e'] at q; cases q
      | some u => rw [e'] at q; cases q; exact wpAny_loadName_local ok.fn ((ok.sco _).trans e) hn e' ⟨H, x, h⟩
    | cell =>
      obtain ⟨c, hc⟩ := ok.cl _ e
      obtain ⟨⟨ov, hcell, q⟩, _⟩ := x.loc.cell n c hc
      rw [hv] at q
      cases ov with
      | none => cases q
      | some u => cases q; exact wpAny_loadName_cell ok.fn ((ok.sco _).trans e) hc hcell ⟨H, x, h⟩
    | _ => cases hk
theorem Ev_Name {n : String} {pos} {Q : V → HA → Prop} (h : Ld G F n ρ H Q) (hd : (Str.ofString n == ("__debug__" : Str)) = false := by decide +kernel) : Ev G F (.Name (Str.ofString n) pos) ρ H Q := .mk fun Z s x =>
  wpAny_Name (h.run Z s x) hd
theorem Ev_glob {n : Str} {pos} {v : Value} {Q : V → HA → Prop} (ok : FOk G F sc d) (g : GOk G) (hk : sc.names.lookup n = some .globalImplicit) (hv : G.mg n = some v) (h : Q (ab v) H)
    (hd : (n == ("__debug__" : Str)) = false := by decide +kernel) : Ev G F (.Name n pos) ρ H Q := .mk fun Z s x =>
  Calls.Name_function_global ok.fn ((ok.sco _).trans hk) (Calls.loadGlobal_global (by rw [ok.gl]; exact g.g.keeps x.hp.base) hv ⟨H, x, h⟩) hd
theorem Ev_blt {n : Str} {pos} {v : Value} {Q : V → HA → Prop} (ok : FOk G F sc d) (g : GOk G) (hk : sc.names.lookup n = some .globalImplicit) (hm : G.mg n = none) (hv : G.mb n = some v) (h : Q (ab v) H)
    (hd : (n == ("__debug__" : Str)) = false := by decide +kernel) : Ev G F (.Name n pos) ρ H Q := .mk fun Z s x =>
  Calls.Name_function_global ok.fn ((ok.sco _).trans hk) (Calls.loadGlobal_builtin (by rw [ok.gl]; exact g.g.keeps x.hp.base) hm (by rw [ok.bl]; exact g.b.keeps x.hp.base) hv ⟨H, x, h⟩) hd
theorem Ev_BinOp {l r : Expr} {op pos} {Q : V → HA → Prop} (h : Ev G F l ρ H (kBinL G F ρ op r Q)) : Ev G F (.BinOp l op r pos) ρ H Q := .mk fun Z s x =>
  wpAny_BinOp (wpAny_mono (h.run Z s x) (fun a s₁ ⟨H1, x1, h1⟩ => wpAny_mono (h1.run Z s₁ x1) (fun b s₂ ⟨H2, x2, h2⟩ => ((h2 a b rfl rfl).run Z _ _ x2)) fun _ _ e => e) fun _ _ e => e)
theorem Ev_UnaryOp {e : Expr} {op pos} {Q : V → HA → Prop} (h : Ev G F e ρ H (kUn G F op Q)) : Ev G F (.UnaryOp op e pos) ρ H Q := .mk fun Z s x =>
  wpAny_UnaryOp (wpAny_mono (h.run Z s x) (fun a s₁ ⟨H1, x1, h1⟩ => ((h1 a rfl).run Z _ _ x1)) fun _ _ e => e)
theorem Ev_Compare {l r : Expr} {op pos} {Q : V → HA → Prop} (h : Ev G F l ρ H (kCmpL G F ρ op r Q)) (hm : behindInMarks op r = false := by with_unfolding_all rfl) :
    Ev G F (.Compare l [op] [r] pos) ρ H Q := .mk fun Z s x =>
  wpAny_Compare1 (wpAny_mono (h.run Z s x) (fun a s₁ ⟨H1, x1, h1⟩ => wpAny_mono (h1.run Z s₁ x1) (fun b s₂ ⟨H2, x2, h2⟩ => ((h2 a b rfl rfl).run Z _ _ x2)) fun _ _ e => e) fun _ _ e => e) hm
theorem Tr_Compare {l r : Expr} {op pos} {Q : Bool → HA → Prop} (h : Ev G F l ρ H (kCmpL G F ρ op r (kTru G F Q))) (hm : behindInMarks op r = false := by with_unfolding_all rfl) :
    Tr G F (.Compare l [op] [r] pos) ρ H Q := .mk fun Z s x =>
  wpAny_isTrue_Compare1 (wpAny_mono (h.run Z s x) (fun a s₁ ⟨H1, x1, h1⟩ => wpAny_mono (h1.run Z s₁ x1) (fun b s₂ ⟨H2, x2, h2⟩ =>
    wpAny_mono (((h2 a b rfl rfl).run Z _ _ x2)) (fun c s₃ ⟨H3, x3, h3⟩ => ((h3 c rfl).run Z _ _ x3)) fun _ _ e => e) fun _ _ e => e) fun _ _ e => e) hm
theorem Tr_value {e : Expr} {Q : Bool → HA → Prop} (h : Ev G F e ρ H (kTru G F Q))
    (he : ∀ whole, isTrue e F.env whole = (do let v ← whole; standAt e.pos; holding [v] (truthy v)) := by intro _; rfl) : Tr G F e ρ H Q := .mk fun Z s x =>
  wpAny_isTrue_value (wpAny_mono (h.run Z s x) (fun a s₁ ⟨H1, x1, h1⟩ => ((h1 a rfl).run Z _ _ x1)) fun _ _ e => e) (he _)
theorem Tr_Not {e : Expr} {pos} {Q : Bool → HA → Prop} (h : Tr G F e ρ H fun b => Q (!b)) : Tr G F (.UnaryOp .Not e pos) ρ H Q := .mk fun Z s x =>
  wpAny_isTrue_Not (h.run Z s x)
theorem Tr_And2 {a b : Expr} {pos} {Q : Bool → HA → Prop} (h : Tr G F a ρ H (kAnd G F ρ b Q)) : Tr G F (.BoolOp .And [a, b] pos) ρ H Q := .mk fun Z s x => by
  refine wpAny_isTrue_BoolOp (wpAny_allTrue_And_cons (wpAny_mono (h.run Z s x) (fun t s₁ hM => ?_) fun _ _ e => e))
  obtain ⟨H1, x1, h1⟩ := hM
  cases t with
  | false => exact ⟨H1, x1, h1⟩
  | true =>
    refine wpAny_allTrue_And_cons (wpAny_mono (h1.run Z s₁ x1) (fun t s₂ hM => ?_) fun _ _ e => e)
    obtain ⟨H2, x2, h2⟩ := hM
    cases t with
    | false => exact ⟨H2, x2, h2⟩
    | true => exact wpAny_allTrue_And_nil ⟨H2, x2, h2⟩
theorem Tr_Or2 {a b : Expr} {pos} {Q : Bool → HA → Prop} (h : Tr G F a ρ H (kOr G F ρ b Q)) : Tr G F (.BoolOp .Or [a, b] pos) ρ H Q := .mk fun Z s x => by
  refine wpAny_isTrue_BoolOp (wpAny_allTrue_Or_cons (wpAny_mono (h.run Z s x) (fun t s₁ hM => ?_) fun _ _ e => e))
  obtain ⟨H1, x1, h1⟩ := hM
  cases t with
  | true => exact ⟨H1, x1, h1⟩
  | false =>
    refine wpAny_allTrue_Or_cons (wpAny_mono (h1.run Z s₁ x1) (fun t s₂ hM => ?_) fun _ _ e => e)
    obtain ⟨H2, x2, h2⟩ := hM
    cases t with
    | true => exact ⟨H2, x2, h2⟩
    | false => exact wpAny_allTrue_Or_nil ⟨H2, x2, h2⟩
theorem Ev_IfExp {t a b : Expr} {pos} {Q : V → HA → Prop} (h : Tr G F t ρ H (kIf G F ρ a b Q)) : Ev G F (.IfExp t a b pos) ρ H Q := .mk fun Z s x => by
  refine wpAny_IfExp (wpAny_mono (h.run Z s x) (fun c s₁ hM => ?_) fun _ _ e => e)
  obtain ⟨H1, x1, h1⟩ := hM
  cases c <;> exact h1.run Z s₁ x1
theorem Ev_And2 {a b : Expr} {pos} {Q : V → HA → Prop} (h : Ev G F a ρ H fun v H1 => Tru G F v H1 fun t H2 => if t then Ev G F b ρ H2 Q else Q v H2) : Ev G F (.BoolOp .And [a, b] pos) ρ H Q := .mk fun Z s x => by
  refine wpAny_And2 (wpAny_mono (h.run Z s x) (fun v s₁ ⟨H1, x1, h1⟩ => wpAny_mono (((h1 v rfl).run Z _ _ x1)) (fun t s₂ hM => ?_) fun _ _ e => e) fun _ _ e => e)
  obtain ⟨H2, x2, h2⟩ := hM
  cases t with
  | true => exact h2.run Z s₂ x2
  | false => exact ⟨H2, x2, h2⟩
theorem Evs_nil {Q : List V → HA → Prop} (h : Q [] H) : Evs G F [] ρ H Q := .mk fun Z s pos x => args_nil ⟨H, x, h⟩
theorem Evs_cons {e : Expr} {es : List Expr} {Q : List V → HA → Prop} (h : Ev G F e ρ H (kArgs G F ρ es Q))
    (he : starEach (e :: es) F.env = (false, eval e F.env) :: starEach es F.env := by rfl) : Evs G F (e :: es) ρ H Q := .mk fun Z s pos x =>
  args_cons (wpAny_mono (h.run Z s x) (fun v s₁ ⟨H1, x1, h1⟩ => wpAny_mono (h1.run Z s₁ pos x1) (fun vs s₂ ⟨H2, x2, h2⟩ => ⟨H2, x2, h2⟩) fun _ _ e => e) fun _ _ e => e) he
theorem Ev_List {es : List Expr} {pos} {Q : V → HA → Prop} (h : Evs G F es ρ H (kList Q)) : Ev G F (.List es pos) ρ H Q := .mk fun Z s x =>
  wpAny_List (wpAny_mono (h.run Z s pos x) (fun vs s₁ ⟨H1, x1, hl, h1⟩ => ⟨by simpa using hl, H1.set s₁.heap.objs.size (.list (vs.map ab)), x1.thaw (x1.hp.freeze.alloc (fun b ob e => Heap.get?_push_of_some _ e) (Nat.le_refl _) ⟨vs.toArray, 0, Heap.get?_push_size _ rfl, by simp⟩ rfl rfl), h1 _ (x1.hp.fresh (Nat.le_refl _))⟩) fun _ _ e => e)
theorem Ev_Tuple {es : List Expr} {k pos} {Q : V → HA → Prop} (h : Evs G F es ρ H (kTup Q)) : Ev G F (.Tuple es k pos) ρ H Q := .mk fun Z s x =>
  wpAny_Tuple (wpAny_mono (h.run Z s pos x) (fun vs s₁ ⟨H1, x1, hl, h1⟩ => ⟨by simpa using hl, H1.set s₁.heap.objs.size (.tup (vs.map ab)), x1.thaw (x1.hp.freeze.alloc (fun b ob e => Heap.get?_push_of_some _ e) (Nat.le_refl _) ⟨vs.toArray, 0, Heap.get?_push_size _ rfl, by simp⟩ rfl rfl), h1 _ (x1.hp.fresh (Nat.le_refl _))⟩) fun _ _ e => e)
theorem Exs_nil {Q : Fl → Vars → HA → Prop} (h : Q .next ρ H) : Exs G F [] ρ H Q := .mk fun Z s x => wpAny_execs_nil ⟨ρ, H, x, h⟩
noncomputable abbrev nxt (G : Glb) (F : Fm) (sts : List Stmt) (Q : Fl → Vars → HA → Prop) : Fl → Vars → HA → Prop := fun f ρ1 H1 => match f with | .next => Exs G F sts ρ1 H1 Q | f => Q f ρ1 H1
theorem Exs_cons {st : Stmt} {sts : List Stmt} {Q : Fl → Vars → HA → Prop} (h : Ex G F st ρ H (nxt G F sts Q)) : Exs G F (st :: sts) ρ H Q := .mk fun Z s x => by
  refine wpAny_execs_cons (wpAny_mono (h.run Z s x) (fun f s₁ hM => ?_) fun _ _ e => e)
  obtain ⟨ρ1, H1, x1, h1⟩ := hM
  cases f with
  | next => exact h1.run Z s₁ x1
  | brk => exact ⟨ρ1, H1, x1, h1⟩
  | cont => exact ⟨ρ1, H1, x1, h1⟩
  | ret v => exact ⟨ρ1, H1, x1, h1⟩
theorem Ex_If {t : Expr} {a b : List Stmt} {pos} {Q : Fl → Vars → HA → Prop} (h : Tr G F t ρ H (kIfS G F ρ a b Q)) : Ex G F (.If t a b pos) ρ H Q := .mk fun Z s x => by
  refine wpAny_If (wpAny_mono (h.run Z s x) (fun c s₁ hM => ?_) fun _ _ e => e)
  obtain ⟨H1, x1, h1⟩ := hM
  cases c <;> exact h1.run Z s₁ x1
theorem Ex_Return {e : Expr} {pos} {Q : Fl → Vars → HA → Prop} (h : Ev G F e ρ H (kRet ρ Q)) : Ex G F (.Return (some e) pos) ρ H Q := .mk fun Z s x =>
  wpAny_Return_some (wpAny_mono (h.run Z s x) (fun v s₁ ⟨H1, x1, h1⟩ => ⟨ρ, H1, x1, h1⟩) fun _ _ e => e)
theorem Ex_Break {pos} {Q : Fl → Vars → HA → Prop} (h : Q .brk ρ H) : Ex G F (.Break pos) ρ H Q := .mk fun Z s x => wpAny_Break ⟨ρ, H, x, h⟩
theorem St_ {n : String} {v : V} {Q : Vars → HA → Prop} (ok : FOk G F sc d) (hw : F.own = true) (h : Q (ρ.set n v) H) (hk : lc (sc.names.lookup (Str.ofString n)) = true := by decide +kernel) : St G F n v ρ H Q := .mk fun Z s u hu x => by
  subst hu
  cases e : sc.names.lookup (Str.ofString n) with
  | none => rw [e] at hk; cases hk
  | some k =>
    rw [e] at hk
    have e' := (ok.sco _).trans e
    cases k with
    | «local» => exact x.storeLocal ok.fn e' (ok.lo _ e) fun s' x' => ⟨_, H, x', h⟩
    | cell =>
      obtain ⟨c, hc⟩ := ok.cl _ e
      exact x.storeCell ok.fn e' hc hw (by rintro y hy rfl; rw [e'] at hy; cases hy) fun s' x' => ⟨_, H, x', h⟩
    | _ => cases hk
theorem As_Name {n : String} {pos} {v : V} {Q : Vars → HA → Prop} (h : St G F n v ρ H Q) : As G F (.Name (Str.ofString n) pos) v ρ H Q := .mk fun Z s u hu x =>
  wpAny_assign_Name (h.run Z s u hu x)
theorem Ex_Assign {n : String} {p value pos} {Q : Fl → Vars → HA → Prop} (h : Ev G F value ρ H (kSt G F ρ n (Q .next)))
    (hs : swapsWith value (some (.Name (Str.ofString n) p)) pos.line F.env = pure false := by rfl) : Ex G F (.Assign [.Name (Str.ofString n) p] value pos) ρ H Q := .mk fun Z s x =>
  wpAny_Assign_Name (wpAny_mono (h.run Z s x) (fun v s₁ ⟨H1, x1, h1⟩ => wpAny_mono (h1.run Z s₁ v rfl x1) (fun _ s₂ ⟨ρ2, H2, x2, h2⟩ => ⟨ρ2, H2, x2, h2⟩) fun _ _ e => e) fun _ _ e => e) hs
theorem Ex_AugAssign {n : String} {p op value pos} {Q : Fl → Vars → HA → Prop} (h : Ld G F n ρ H fun a H0 => Ev G F value ρ H0 fun b H1 => IBin G F op a b H1 fun c H2 => St G F n c ρ H2 fun ρ3 H3 => Q .next ρ3 H3) :
    Ex G F (.AugAssign (.Name (Str.ofString n) p) op value pos) ρ H Q := .mk fun Z s x =>
  wpAny_AugAssign_Name (wpAny_mono (h.run Z s x) (fun a s₀ ⟨H0, x0, h0⟩ => wpAny_mono (h0.run Z s₀ x0) (fun b s₁ ⟨H1, x1, h1⟩ => wpAny_mono (((h1 a b rfl rfl).run Z _ _ x1)) (fun c s₂ ⟨H2, x2, h2⟩ =>
    wpAny_mono (h2.run Z s₂ c rfl x2) (fun _ s₃ ⟨ρ3, H3, x3, h3⟩ => ⟨ρ3, H3, x3, h3⟩) fun _ _ e => e) fun _ _ e => e) fun _ _ e => e) fun _ _ e => e)
end
end Mine
namespace Mine
variable [HasP]
noncomputable def argV : List String → List V → Vars → Vars
  | n :: ns, v :: vs, ρ => argV ns vs (ρ.set n v)
  | _, _, ρ => ρ
noncomputable abbrev noV : Vars := fun _ => none
theorem argV_bindL {kindOf : Str → Option NameKind} : ∀ (ns : List String) (cs : List Value) (m : Str → Option Value) (ρ : Vars),
    (∀ x : String, kindOf (Str.ofString x) = some .local → (m (Str.ofString x)).map ab = ρ x) →
    ∀ x : String, kindOf (Str.ofString x) = some .local → (bindL kindOf ((ns.map Str.ofString).zip cs) m (Str.ofString x)).map ab = argV ns (cs.map ab) ρ x
  | [], cs, m, ρ, h, x, hx => by simpa [bindL, argV] using h x hx
  | n :: ns, [], m, ρ, h, x, hx => by simpa [bindL, argV] using h x hx
  | n :: ns, c :: cs, m, ρ, h, x, hx => by
    simp only [List.map_cons, List.zip_cons_cons, bindL, argV]
    refine argV_bindL ns cs _ _ (fun y hy => ?_) x hx
    unfold Vars.set
    by_cases e : y = n
    · subst e; rw [if_pos hy]; simp
    · have e2 : Str.ofString y ≠ Str.ofString n := fun q => e (ofString_inj q)
      rw [if_neg e]
      split
      · show Option.map ab (if Str.ofString y = Str.ofString n then some c else m (Str.ofString y)) = _
        rw [if_neg e2]; exact h y hy
      · exact h y hy
theorem argV_bindC {kindOf : Str → Option NameKind} : ∀ (ns : List String) (cs : List Value) (m : Str → Option Value) (ρ : Vars),
    (∀ x : String, kindOf (Str.ofString x) ≠ some .local → (m (Str.ofString x)).map ab = ρ x) →
    ∀ x : String, kindOf (Str.ofString x) ≠ some .local → (bindC kindOf ((ns.map Str.ofString).zip cs) m (Str.ofString x)).map ab = argV ns (cs.map ab) ρ x
  | [], cs, m, ρ, h, x, hx => by simpa [bindC, argV] using h x hx
  | n :: ns, [], m, ρ, h, x, hx => by simpa [bindC, argV] using h x hx
  | n :: ns, c :: cs, m, ρ, h, x, hx => by
    simp only [List.map_cons, List.zip_cons_cons, bindC, argV]
    refine argV_bindC ns cs _ _ (fun y hy => ?_) x hx
    unfold Vars.set
    by_cases e : y = n
    · subst e; rw [if_neg hy]; simp
    · have e2 : Str.ofString y ≠ Str.ofString n := fun q => e (ofString_inj q)
      rw [if_neg e]
      split
      · exact h y hy
      · show Option.map ab (if Str.ofString y = Str.ofString n then some c else m (Str.ofString y)) = _
        rw [if_neg e2]; exact h y hy
omit [HasP] in
theorem cellsFrom_acc : ∀ (names : List (Str × NameKind)) (k : Nat) (acc : List (Str × Addr)) (n : Str), (acc.lookup n).isSome = true → ((cellsFrom k names acc).lookup n).isSome = true
  | [], _, acc, n, h => h
  | (m, kd) :: r, k, acc, n, h => by
    unfold cellsFrom
    split
    · refine cellsFrom_acc r _ _ n ?_
      rw [List.lookup_cons]
      cases n == m <;> simp_all
    · exact cellsFrom_acc r k acc n h
omit [HasP] in
theorem cellsFrom_cell : ∀ (names : List (Str × NameKind)) (k : Nat) (acc : List (Str × Addr)) (n : Str), names.lookup n = some .cell → ((cellsFrom k names acc).lookup n).isSome = true
  | [], _, acc, n, h => by simp at h
  | (m, kd) :: r, k, acc, n, h => by
    rw [List.lookup_cons] at h
    unfold cellsFrom
    cases e : n == m with
    | true =>
      rw [e] at h
      cases h
      refine cellsFrom_acc r _ _ n ?_
      simp [List.lookup_cons, e]
    | false =>
      rw [e] at h
      split <;> exact cellsFrom_cell r _ _ n h
noncomputable def NamesOk (names : List (Str × NameKind)) : Prop := ∀ n, names.lookup n = some .local → (n, NameKind.cell) ∉ names
omit [HasP] in
theorem cellsFrom_mem : ∀ (names : List (Str × NameKind)) (k : Nat) (acc : List (Str × Addr)) (n : Str) (c : Addr), (n, c) ∈ cellsFrom k names acc → (n, c) ∈ acc ∨ (n, NameKind.cell) ∈ names
  | [], _, acc, n, c, h => .inl h
  | (m, kd) :: r, k, acc, n, c, h => by
    unfold cellsFrom at h
    split at h
    · rename_i hk
      rcases cellsFrom_mem r _ _ n c h with h | h
      · rcases List.mem_cons.mp h with e | h
        · cases e; right; rw [show kd = .cell from by simpa using hk]; exact List.mem_cons_self
        · exact .inl h
      · exact .inr (List.mem_cons_of_mem _ h)
    · rcases cellsFrom_mem r _ _ n c h with h | h
      · exact .inl h
      · exact .inr (List.mem_cons_of_mem _ h)
end Mine
namespace Mine
variable [HasP]
section
variable {G : Glb} {F : Fm} {ρ : Vars} {H : HA} {sc : Scope} {d : Nat}
noncomputable def TyV (G : Glb) (H : HA) (v : V) (T : String) : Prop :=
  ∀ Z s x, ab x = v → Hp G Z H s → s.TypeIs x T ∧ ∀ a, x = .ref a → ∃ ob, s.heap.get? a = some ob ∧ ob.dict = none
theorem ab_int {x : Value} {i : Int} (h : ab x = .int i) : ∃ t, x = .int i t := by
  cases x <;> simp only [ab] at h <;> first | (injection h with h; exact ⟨_, by rw [h]⟩) | (split at h <;> cases h) | cases h
theorem ab_str2 {x : Value} {i : Str} (h : ab x = .str i) : ∃ t, x = .str i t ∧ HasP.K t = 0 := by
  cases x <;> simp only [ab] at h <;> first | (split at h <;> first | (rename_i hp; injection h with h; exact ⟨_, by rw [h], hp⟩) | cases h) | cases h
theorem ab_str {x : Value} {i : Str} (h : ab x = .str i) : ∃ t, x = .str i t := let ⟨t, e, _⟩ := ab_str2 h; ⟨t, e⟩
theorem ab_mid {x : Value} {i : Str} (h : ab x = .mid i) : ∃ t, x = .str i t ∧ HasP.K t = 1 := by
  cases x <;> simp only [ab] at h <;> first | (split at h <;> first | (rename_i hp; injection h with h; exact ⟨_, by rw [h], hp⟩) | cases h) | cases h
theorem ab_bool {x : Value} {i : Bool} (h : ab x = .bool i) : x = .bool i := by
  cases x <;> simp only [ab] at h <;> first | (injection h with h; rw [h]) | (split at h <;> cases h) | cases h
theorem ab_none {x : Value} (h : ab x = .none) : x = .none := by
  cases x <;> simp only [ab] at h <;> first | rfl | (split at h <;> cases h) | cases h
theorem ab_ref {x : Value} {a : Addr} (h : ab x = .ref a) : x = .ref a := by
  cases x <;> simp only [ab] at h <;> first | (injection h with h; rw [h]) | (split at h <;> cases h) | cases h
theorem ab_ty {x : Value} {a : String} (h : ab x = .ty a) : x = .type a := by
  cases x <;> simp only [ab] at h <;> first | (injection h with h; rw [h]) | (split at h <;> cases h) | cases h
theorem TyV.str (G : Glb) (H : HA) (x : Str) : TyV G H (.str x) "str" := fun Z s v hv _ => by
  obtain ⟨t, rfl⟩ := ab_str hv
  exact ⟨rfl, fun a e => by cases e⟩
theorem TyV.list {a : Addr} {xs : List V} (h : H a = some (.list xs)) : TyV G H (.ref a) "list" := fun Z s v hv hp => by
  obtain rfl := ab_ref hv
  obtain ⟨vs, n, e, _⟩ := hp.trk _ _ h
  exact ⟨⟨_, e, rfl⟩, fun b q => by cases q; exact ⟨_, e, rfl⟩⟩
theorem TyV.tup {a : Addr} {xs : List V} (h : H a = some (.tup xs)) : TyV G H (.ref a) "tuple" := fun Z s v hv hp => by
  obtain rfl := ab_ref hv
  obtain ⟨vs, n, e, _⟩ := hp.trk _ _ h
  exact ⟨⟨_, e, rfl⟩, fun b q => by cases q; exact ⟨_, e, rfl⟩⟩
theorem TyV.base {a : Addr} {o : Obj} {T : String} (h : G.B.get? a = some o) (ht : o.cls = .type T) (hd : o.dict = none) : TyV G H (.ref a) T := fun Z s v hv hp => by
  obtain rfl := ab_ref hv
  exact ⟨⟨_, hp.base _ _ h, ht⟩, fun b q => by cases q; exact ⟨_, hp.base _ _ h, hd⟩⟩
noncomputable def GV (G : Glb) (n : Str) (f : Value) : Prop := G.mg n = some f ∨ (G.mg n = none ∧ G.mb n = some f)
noncomputable def Callee (G : Glb) : Value → Prop
  | .builtin _ => True
  | .type _ => True
  | .ref a => ∃ o fd, G.B.get? a = some o ∧ o.data = .func fd
  | _ => False
theorem evalArgs_any {M : Model} {A : Around} {E : Value → Shared → Prop} {s : Shared} {f : Value} {args : List (Bool × Sem Value)} {Q : Args → Shared → Prop} (hplain : args.any (·.1) = false)
    (h : wpAny M A (spliced args) (fun vs s' => Q ⟨vs, []⟩ s') E s) : wpAny M A (evalArgs f true args []) Q E s := by
  cases args with
  | nil =>
    unfold evalArgs
    show wpAny M A (spliced [] >>= _) Q E s
    refine wpAny_bind (wpAny_mono h (fun vs s' h' => wpAny_bind (wpAny_pure ?_)) fun _ _ x => x)
    refine wpAny_holding ?_
    exact wpAny_bind (wpAny_pure (wpAny_bind (wpAny_pure (wpAny_pure h'))))
  | cons a l =>
    obtain ⟨b, x⟩ := a
    cases b with
    | true => simp at hplain
    | false => exact evalArgs_plain h
theorem keeper_of {G : Glb} {f : Value} (hf : Callee G f) {s : Shared} (hb : ∀ b o, G.B.get? b = some o → s.heap.get? b = some o) :
    ∃ k, (k = Keeper.frame ∨ k = Keeper.machine) ∧ ∀ (M : Model) (A : Around) (Q : Keeper → Shared → Prop) (E : Value → Shared → Prop), Q k s → wpAny M A (keeperOf f) Q E s := by
  cases f with
  | builtin id => exact ⟨.machine, .inr rfl, fun M A Q E q => wpAny_pure q⟩
  | type n => exact ⟨.machine, .inr rfl, fun M A Q E q => wpAny_pure q⟩
  | ref a =>
    obtain ⟨o, fd, ho, hd⟩ := hf
    refine ⟨.frame, .inl rfl, fun M A Q E q => ?_⟩
    unfold keeperOf
    refine wpAny_bind (wpAny_load (hb _ _ ho) ?_)
    rw [hd]
    exact wpAny_pure q
  | _ => cases hf
theorem callWith_V {A : Around} {G : Glb} {M : Model} {E : Value → Shared → Prop} {s : Shared} {pos : Pos} {f : Value} {first : List Value} {args : List (Bool × Sem Value)} {Q : Value → Shared → Prop} (hf : Callee G f) (hplain : args.any (·.1) = false)
    (h : wpAny M A (spliced args) (fun vs s₁ => (∀ b o, G.B.get? b = some o → s₁.heap.get? b = some o) ∧ wpAny M A (call f (first ++ vs)) Q E s₁) E s) : wpAny M A (callWith pos f first args []) Q E s := by
  unfold callWith
  refine wpAny_bind (wpAny_holding (wpAny_mono (evalArgs_any (Q := fun a s₁ => (∀ b o, G.B.get? b = some o → s₁.heap.get? b = some o) ∧ wpAny M A (call f (first ++ a.pos) a.kw) Q E s₁) hplain h) (fun a s₁ h₁ => wpAny_bind (wpAny_standAt ?_)) fun _ _ x => x))
  obtain ⟨k, hk, hL⟩ := keeper_of hf h₁.1
  simp only [hplain, List.any_nil, Bool.or_false]
  refine wpAny_bind (hL _ _ _ _ ?_)
  have tail : ∀ {t : Sem Value}, wpAny M A t Q E s₁ → wpAny M A (t >>= fun r => holding [r] point >>= fun _ => pure r) Q E s₁ :=
    fun ht => wpAny_bind (wpAny_mono ht (fun r s₂ hr => wpAny_bind (wpAny_holding (wpAny_point (wpAny_pure hr)))) fun _ _ x => x)
  have marked (mk : Value) : wpAny M A (callMarked mk f (first ++ a.pos) a.kw) Q E s₁ := by unfold callMarked; exact Calls.wpAny_keep h₁.2
  rcases hk with rfl | rfl <;> (try dsimp only) <;> first | exact tail h₁.2 | (split <;> first | exact tail h₁.2 | exact tail (marked _))
section
variable (G : Glb) (F : Fm) (ρ : Vars)
noncomputable abbrev kCal (f : Value) (Q : V → HA → Prop) : List V → HA → Prop := fun vs H1 => Cal G F f vs H1 Q
noncomputable abbrev kCalM (f : Value) (Q : V → HA → Prop) (ov : V) : List V → HA → Prop := fun vs H2 => Cal G F f (ov :: vs) H2 Q
noncomputable abbrev kMeth (T id : String) (args : List Expr) (Q : V → HA → Prop) : V → HA → Prop := fun ov H1 => TyV G H1 ov T ∧ Evs G F args ρ H1 (kCalM G F (.builtin id) Q ov)
noncomputable abbrev kExp (Q : Fl → Vars → HA → Prop) : V → HA → Prop := fun _ H1 => Q .next ρ H1
noncomputable abbrev kSubR (T : String) (Q : V → HA → Prop) (o : V) : V → HA → Prop := fun i H2 => TyV G H2 o T ∧ GetI G F o i H2 Q
noncomputable abbrev kSub (T : String) (slice : Expr) (Q : V → HA → Prop) : V → HA → Prop := fun o H1 => Ev G F slice ρ H1 (kSubR G F T Q o)
noncomputable abbrev kAttr (attr : Str) (Q : V → HA → Prop) : V → HA → Prop := fun o H1 => GetA G F o attr H1 Q
noncomputable abbrev kSetR (v : V) (Q : Vars → HA → Prop) (a : V) : V → HA → Prop := fun b H2 => SetI G F a b v H2 (Q ρ)
noncomputable abbrev kSet (i : Expr) (v : V) (Q : Vars → HA → Prop) : V → HA → Prop := fun a H1 => Ev G F i ρ H1 (kSetR G F ρ v Q a)
noncomputable abbrev kSetA (attr : Str) (v : V) (Q : Vars → HA → Prop) : V → HA → Prop := fun a H1 => SetA G F a attr v H1 (Q ρ)
end
theorem Ev_Call {n : Str} {np pos : Pos} {args : List Expr} {f : Value} {Q : V → HA → Prop} (ok : FOk G F sc d) (g : GOk G) (hv : GV G n f) (hf : Callee G f)
    (h : Evs G F args ρ H (kCal G F f Q)) (hk : sc.names.lookup n = some .globalImplicit := by decide +kernel)
    (hplain : (backTo pos (starEach args F.env)).any (·.1) = false := by rfl) (hd : (n == ("__debug__" : Str)) = false := by decide +kernel) : Ev G F (.Call (.Name n np) args [] pos) ρ H Q := .mk fun Z s x => by
  refine wpAny_Call_NameR ?_
  have fin : wpAny (Md G) F.A (callWith pos f [] (backTo pos (starEach args F.env)) []) (IQ G F Z ρ (VQ Q)) NoE s :=
    callWith_V hf hplain (wpAny_mono (h.run Z s pos x) (fun vs s₁ ⟨H1, x1, h1⟩ => ⟨x1.hp.base, ((h1 vs rfl).run Z _ _ x1)⟩) fun _ _ e => e)
  have gl : s.heap.Ns F.env.globals G.mg := by rw [ok.gl]; exact g.g.keeps x.hp.base
  have bl : s.heap.Ns F.env.builtins G.mb := by rw [ok.bl]; exact g.b.keeps x.hp.base
  rcases hv with hv | ⟨hm, hv⟩
  · exact Calls.Name_function_global ok.fn ((ok.sco _).trans hk) (Calls.loadGlobal_global gl hv fin) hd
  · exact Calls.Name_function_global ok.fn ((ok.sco _).trans hk) (Calls.loadGlobal_builtin gl hm bl hv fin) hd
theorem Ev_Method {o : Expr} {name : Str} {apos pos : Pos} {args : List Expr} {T id : String} {Q : V → HA → Prop} (pa : PlainAttrs T) (slot : Slot T name id) (hty : typeOf (.builtin id) = pure (.type "method_descriptor"))
    (h : Ev G F o ρ H (kMeth G F ρ T id args Q))
    (hbase : attributeBase o name F.env (eval o F.env) = eval o F.env := by rfl)
    (hfew : ((backTo pos (starEach args F.env)).all (fun x => !x.1) && (backToKw pos (keywordEach [] F.env)).all (fun x => x.1.isSome)
      && decide (args.length + ([] : List Keyword).length + (if ([] : List Keyword).isEmpty then 0 else 1) < 30)) = true := by rfl)
    (hline : (apos.endLine == pos.line) = true := by rfl) (hplain : (backTo pos (starEach args F.env)).any (·.1) = false := by rfl) : Ev G F (.Call (.Attribute o name apos) args [] pos) ρ H Q := .mk fun Z s x =>
  wpAny_Call_method hbase hfew hline pa slot hty (wpAny_mono (h.run Z s x) (fun ov s₁ ⟨H1, x1, ht, h1⟩ => ⟨(ht Z s₁ ov rfl x1.hp).1, (ht Z s₁ ov rfl x1.hp).2,
    callWith_V (G := G) trivial hplain (wpAny_mono (h1.run Z s₁ pos x1) (fun vs s₂ ⟨H2, x2, h2⟩ => ⟨x2.hp.base, ((h2 (ov :: vs) rfl).run Z _ _ x2)⟩) fun _ _ e => e)⟩) fun _ _ e => e)
theorem subscripted_ops (slice : Expr) (o i : Value) : ∃ ops, subscripted slice false o i = operate ops (getItem o i) := by
  match slice with
  | .Slice _ _ st _ => cases st <;> exact ⟨_, rfl⟩
  | .Name .. | .Attribute .. | .BoolOp .. | .NamedExpr .. | .BinOp .. | .UnaryOp .. | .Lambda .. | .IfExp .. | .Dict .. | .Set .. | .ListComp .. | .SetComp .. | .DictComp .. | .GeneratorExp .. | .Await .. | .Yield .. | .YieldFrom .. | .Compare .. | .Call .. | .FormattedValue .. | .JoinedStr .. | .Constant .. | .Subscript .. | .Starred .. | .List .. | .Tuple .. => exact ⟨_, rfl⟩
theorem Ev_Subscript {value slice : Expr} {pos : Pos} {T id : String} {Q : V → HA → Prop} (hl : typeLookup (.type T) "__getitem__" = pure (some (.builtin id)))
    (h : Ev G F value ρ H (kSub G F ρ T slice Q)) : Ev G F (.Subscript value slice pos) ρ H Q := .mk fun Z s x =>
  Subscript_ (wpAny_mono (h.run Z s x) (fun o s₁ ⟨H1, x1, h1⟩ => wpAny_mono (h1.run Z s₁ x1) (fun i s₂ ⟨H2, x2, ht, h2⟩ => by
    obtain ⟨ops, e⟩ := subscripted_ops slice o i
    exact tail_any (ht Z s₂ o rfl x2.hp).1 hl (((h2 o i rfl rfl).run Z _ _ x2)) e) fun _ _ e => e) fun _ _ e => e)
noncomputable def EvO (G : Glb) (F : Fm) (e : Option Expr) (ρ : Vars) (H : HA) (Q : V → HA → Prop) : Prop := match e with
  | none => Q .none H
  | some e => Ev G F e ρ H Q
theorem EvO.part {e : Option Expr} {Q : V → HA → Prop} (h : EvO G F e ρ H Q) {Z : Addr → Option Obj} {s : Shared} (x : Inv G F Z ρ H s) : wpAny (Md G) F.A (evalPart e F.env) (IQ G F Z ρ (VQ Q)) NoE s := by
  cases e with
  | none => exact wpAny_evalPart_none ⟨H, x, h⟩
  | some e => exact wpAny_evalPart_some (h.run Z s x)
theorem Ev_Slice {l u st : Option Expr} {p} {Q : V → HA → Prop} (h : EvO G F l ρ H fun a H1 => EvO G F u ρ H1 fun b H2 => EvO G F st ρ H2 fun c H3 => ∀ q, H3 q = none → Q (.ref q) (H3.set q (.slice a b c))) : Ev G F (.Slice l u st p) ρ H Q := .mk fun Z s x =>
  wpAny_Slice (wpAny_mono (EvO.part h x) (fun a s₁ ⟨H1, x1, h1⟩ => wpAny_mono (EvO.part h1 x1) (fun b s₂ ⟨H2, x2, h2⟩ => wpAny_mono (EvO.part h2 x2) (fun c s₃ ⟨H3, x3, h3⟩ =>
    ⟨H3.set s₃.heap.objs.size (.slice (ab a) (ab b) (ab c)), x3.thaw (x3.hp.freeze.alloc (fun b ob e => Heap.get?_push_of_some _ e) (Nat.le_refl _) ⟨a, b, c, Heap.get?_push_size _ rfl, rfl, rfl, rfl⟩ rfl rfl), h3 _ (x3.hp.fresh (Nat.le_refl _))⟩)
    fun _ _ e => e) fun _ _ e => e) fun _ _ e => e)
theorem Ev_Attr {value : Expr} {attr : Str} {pos : Pos} {Q : V → HA → Prop} (h : Ev G F value ρ H (kAttr G F attr Q)) (hbase : attributeBase value attr F.env (eval value F.env) = eval value F.env := by rfl) :
    Ev G F (.Attribute value attr pos) ρ H Q := .mk fun Z s x => by
  show wpAny (Md G) F.A (do
    let o ← attributeBase value attr F.env (eval value F.env)
    standAt pos.atName
    let r ← holding [o] (getAttr o attr true)
    letTemporaryGo value o r
    pure r) _ _ s
  rw [hbase]
  exact wpAny_bind (wpAny_mono (h.run Z s x) (fun o s₁ ⟨H1, x1, h1⟩ => wpAny_bind (wpAny_standAt (wpAny_bind (wpAny_holding (wpAny_mono (((h1 o rfl).run Z _ _ x1)) (fun r s₂ h₂ => wpAny_bind (wpAny_letTemporaryGo (wpAny_pure h₂))) fun _ _ e => e))))) fun _ _ e => e)
theorem As_Subscript {o i : Expr} {pos} {v : V} {Q : Vars → HA → Prop} (h : Ev G F o ρ H (kSet G F ρ i v Q)) : As G F (.Subscript o i pos) v ρ H Q := .mk fun Z s u hu x => by
  rw [assign_Subscript]
  refine wpAny_bind (wpAny_holding (wpAny_mono (h.run Z s x) (fun a s₁ ⟨H1, x1, h1⟩ => wpAny_bind (wpAny_holding (wpAny_mono (h1.run Z s₁ x1) (fun b s₂ ⟨H2, x2, h2⟩ => wpAny_bind (wpAny_standAt (wpAny_bind (wpAny_holding (wpAny_mono (((h2 a b u rfl rfl hu).run Z _ _ x2)) (fun _ s₃ hM => ?_) fun _ _ e => e))))) fun _ _ e => e))) fun _ _ e => e))
  obtain ⟨H3, x3, h3⟩ := hM
  exact wpAny_release ⟨ρ, H3, x3, h3⟩
theorem As_Attr {o : Expr} {attr : Str} {pos} {v : V} {Q : Vars → HA → Prop} (h : Ev G F o ρ H (kSetA G F ρ attr v Q)) : As G F (.Attribute o attr pos) v ρ H Q := .mk fun Z s u hu x => by
  rw [assign_Attribute]
  refine wpAny_bind (wpAny_holding (wpAny_mono (h.run Z s x) (fun a s₁ ⟨H1, x1, h1⟩ => wpAny_bind (wpAny_standAt (wpAny_bind (wpAny_holding (wpAny_mono (((h1 a u rfl hu).run Z _ _ x1)) (fun _ s₃ hM => ?_) fun _ _ e => e))))) fun _ _ e => e))
  obtain ⟨H3, x3, h3⟩ := hM
  exact wpAny_release ⟨ρ, H3, x3, h3⟩
noncomputable def AsAll (G : Glb) (F : Fm) : List Expr → V → Vars → HA → (Vars → HA → Prop) → Prop
  | [], _, ρ, H, Q => Q ρ H
  | t :: ts, v, ρ, H, Q => As G F t v ρ H fun ρ1 H1 => AsAll G F ts v ρ1 H1 Q
theorem assign_tail (t : Expr) (r : List Expr) (e : Env) : ∃ p, assignEach (t :: r) e = p :: assignEach r e := by
  cases t <;> exact ⟨_, rfl⟩
theorem AsAll.run : ∀ (ts : List Expr) {v : V} {ρ : Vars} {H : HA} {Q : Vars → HA → Prop}, AsAll G F ts v ρ H Q → (assignEach ts F.env).map (·.2) = ts.map (fun t => assign t F.env) → ∀ Z s u, ab u = v → Inv G F Z ρ H s →
    wpAny (Md G) F.A (assignAll u (ts.map fun t => assign t F.env)) (fun _ s' => ∃ ρ' H', Inv G F Z ρ' H' s' ∧ Q ρ' H') NoE s
  | [], v, ρ, H, Q, h, _, Z, s, u, hu, x => wpAny_pure ⟨ρ, H, x, h⟩
  | [t], v, ρ, H, Q, h, _, Z, s, u, hu, x => As.run h Z s u hu x
  | t :: t2 :: ts, v, ρ, H, Q, h, he, Z, s, u, hu, x => by
    have he2 : (assignEach (t2 :: ts) F.env).map (·.2) = (t2 :: ts).map (fun t => assign t F.env) := by
      obtain ⟨p, e⟩ := assign_tail t (t2 :: ts) F.env
      rw [e] at he
      exact (List.cons.inj he).2
    exact wpAny_bind (wpAny_holding (wpAny_mono (As.run h Z s u hu x) (fun _ s₁ ⟨ρ1, H1, x1, h1⟩ => AsAll.run (t2 :: ts) h1 he2 Z s₁ u hu x1) fun _ _ e => e))
noncomputable abbrev kAll (G : Glb) (F : Fm) (ρ : Vars) (ts : List Expr) (Q : Vars → HA → Prop) : V → HA → Prop := fun v H1 => AsAll G F ts v ρ H1 Q
theorem Ex_AssignAll {ts : List Expr} {value : Expr} {pos : Pos} {Q : Fl → Vars → HA → Prop} (h : Ev G F value ρ H (kAll G F ρ ts (Q .next)))
    (he : (assignEach ts F.env).map (·.2) = ts.map (fun t => assign t F.env) := by rfl)
    (hs : swapsWithSole ts value pos.line F.env = pure false := by rfl) (hw : swappedStores ts value F.env = pure none := by rfl) : Ex G F (.Assign ts value pos) ρ H Q := .mk fun Z s x =>
  wpAny_Assign_stores (wpAny_mono (h.run Z s x) (fun v s₁ ⟨H1, x1, h1⟩ => by
    rw [he]
    exact wpAny_mono (AsAll.run ts h1 he Z s₁ v rfl x1) (fun _ s₂ ⟨ρ2, H2, x2, h2⟩ => ⟨ρ2, H2, x2, h2⟩) fun _ _ e => e) fun _ _ e => e) hs hw
theorem FOk.noI (ok : FOk G F sc d) : interactive F.env = false := by unfold interactive; rw [ok.fn]; rfl
theorem Ex_Expr {e : Expr} {pos : Pos} {Q : Fl → Vars → HA → Prop} (ok : FOk G F sc d) (h : Ev G F e ρ H (kExp ρ Q)) (hs : swapsWith e none pos.line F.env = pure false := by rfl) : Ex G F (.Expr e pos) ρ H Q := .mk fun Z s x =>
  wpAny_Expr_any (wpAny_mono (h.run Z s x) (fun v s₁ ⟨H1, x1, h1⟩ => ⟨ρ, H1, x1, h1⟩) fun _ _ e => e) ok.noI hs
end
end Mine
namespace Mine
variable [HasP]
noncomputable abbrev OnlyAt (fp : List Addr) (s s' : Shared) : Prop := (∀ b o, b ∉ fp → s.heap.get? b = some o → s'.heap.get? b = some o) ∧ s'.gens = s.gens ∧ s'.os = s.os ∧ s.toks ≤ s'.toks
structure Src (G : Glb) (A : Around) (I : Addr) (n : Nat) (item : Nat → V) (Nd : HA → Prop) (St : Nat → Heap → Prop) : Prop where
  frame : ∀ i h h', St i h → (∀ o, h.get? I = some o → h'.get? I = some o) → St i h'
  there : ∀ i h, St i h → ∃ o, h.get? I = some o
  next : ∀ i s Z H, i < n → Hp G Z H s → Nd H → St i s.heap → wpAny (Md G) A (pyNext (.ref I)) (fun r s' => ∃ v, r = some v ∧ ab v = item i ∧ St (i + 1) s'.heap ∧ OnlyAt [I] s s') NoE s
  stop : ∀ s Z H, Hp G Z H s → Nd H → St n s.heap → wpAny (Md G) A (pyNext (.ref I)) (fun r s' => r = none ∧ OnlyAt [I] s s') NoE s
  self : ∀ i s (Q : Value → Shared → Prop) E, St i s.heap → Q (.ref I) s → wpAny (Md G) A (pyIter (.ref I)) Q E s
noncomputable def Iter (G : Glb) (A : Around) (x : V) (H : HA) (n : Nat) (item : Nat → V) (Nd : HA → Prop) : Prop :=
  ∀ Z s v, ab v = x → Hp G Z H s → wpAny (Md G) A (pyIter v) (fun it s' => ∃ I St, it = .ref I ∧ Src G A I n item Nd St ∧ St 0 s'.heap ∧ s.heap.objs.size ≤ I ∧ (∀ b o, s.heap.get? b = some o → s'.heap.get? b = some o) ∧ s'.gens = s.gens ∧ s'.os = s.os ∧ s.toks ≤ s'.toks) NoE s
theorem getElem?_ab {vs : Array Value} {xs : List V} (h : vs.toList.map ab = xs) (i : Nat) : vs[i]?.map ab = xs[i]? := by
  subst h; simp
theorem size_ab {vs : Array Value} {xs : List V} (h : vs.toList.map ab = xs) : vs.size = xs.length := by subst h; simp
noncomputable def noneV (o : Option V) : V := o.getD .bad
theorem Iter.list {G : Glb} {A : Around} (hh : A.handled = none) {H : HA} {l : Addr} {xs : List V} (hl : H l = some (.list xs)) :
    Iter G A (.ref l) H xs.length (fun i => noneV xs[i]?) (fun H' => H' l = some (.list xs)) := fun Z s v hv hp => by
  obtain rfl := ab_ref hv
  obtain ⟨vs, n, e, q⟩ := hp.trk _ _ hl
  refine wpAny_pyIter_list ⟨_, e, rfl, _, rfl⟩ ⟨_, fun i h => h.IsListIter s.heap.objs.size l i, rfl, ?_, ⟨_, Heap.get?_push_size _ rfl, rfl, rfl⟩, Nat.le_refl _, fun b o e => Heap.get?_push_of_some _ e, rfl, rfl, Nat.le_refl _⟩
  refine ⟨fun i h h' st k => st.at k, fun i h st => let ⟨o, e, _⟩ := st; ⟨o, e⟩, fun i s Z H hi hp nd st => ?_, fun s Z H hp nd st => ?_, fun i s Q E st q => wpAny_pyIter_listiter st q⟩
  · obtain ⟨vs, n, e, q⟩ := hp.trk _ _ nd
    have hx := getElem?_ab q i
    cases e' : vs[i]? with
    | none => rw [e'] at hx; simp at hx; exact absurd (Nat.lt_of_lt_of_le hi hx) (Nat.lt_irrefl _)
    | some x =>
      refine wpAny_pyNext_list_item st ⟨_, e, rfl, _, rfl⟩ e' fun h' st' hs => ⟨x, rfl, ?_, st', fun b o hb e => (hs.2 b (by simpa using hb)).trans e, rfl, rfl, Nat.le_refl _⟩
      rw [e'] at hx; rw [← hx]; rfl
  · obtain ⟨vs, n, e, q⟩ := hp.trk _ _ nd
    refine wpAny_pyNext_list_end hh st ⟨_, e, rfl, _, rfl⟩ (by rw [Array.getElem?_eq_none_iff, size_ab q]; exact Nat.le_refl _) fun h' hx => ⟨rfl, fun b o hb e => hx b o (by simpa using hb) e, rfl, rfl, Nat.le_refl _⟩
theorem Src.ofWalks {G : Glb} {A : Around} {I : Addr} {n : Nat} {P : Nat → Value → Prop} {St : Nat → Heap → Prop} {item : Nat → V} (W : Walks G.p G.w A I [I] [I] n P St) (hP : ∀ i v, P i v → ab v = item i) (ht : ∀ i h, St i h → ∃ o, h.get? I = some o) :
    Src G A I n item (fun _ => True) St where
  frame := fun i h h' st k => W.frame i h h' st fun b hb o e => by simp at hb; subst hb; exact k o e
  there := ht
  next := fun i s Z H hi hp nd st => wpAny_of (W.item i s _ _ hi st fun v h' tk hv st' hk => fun hle => ⟨v, rfl, hP i v hv, st', hk, rfl, rfl, hle⟩)
  stop := fun s Z H hp nd st => wpAny_of (W.done s _ _ st fun h' tk hk => fun hle => ⟨rfl, hk, rfl, rfl, hle⟩)
  self := fun i s Q E st q => W.self i s Q E st q
theorem Iter.range {G : Glb} {A : Around} (hh : A.handled = none) {H : HA} {r : Addr} {a b c : Int} (hl : H r = some (.range a b c)) (hs : Builtin.Range.small a b c = true) (h0 : 0 ≤ Builtin.Range.rangeSize a b c) :
    Iter G A (.ref r) H (Builtin.Range.rangeSize a b c).toNat (fun i => .int (a + i * c)) (fun _ => True) := fun Z s v hv hp => by
  obtain rfl := ab_ref hv
  obtain ⟨t, u, w, e⟩ := hp.trk _ _ hl
  refine wpAny_pyIter_range e hs ⟨_, _, rfl, Src.ofWalks (Walks.range hh _ a c _) (fun i v ⟨t, e⟩ => by subst e; rfl) (fun i h st => ⟨_, st⟩), ?_, Nat.le_refl _, fun b o e => Heap.get?_push_of_some _ e, rfl, rfl, Nat.le_refl _⟩
  have e1 : ((Builtin.Range.rangeSize a b c).toNat : Int) = Builtin.Range.rangeSize a b c := by omega
  rw [e1]
  have := Heap.get?_push_size s.heap (o := { cls := .type "range_iterator", data := .fields #[rawInt a, rawInt (Builtin.Range.rangeSize a b c), rawInt c] }) rfl
  simpa [IsRangeIter] using this
theorem Iter.str {G : Glb} {A : Around} (hP : ∀ t, HasP.K t = 0) (hh : A.handled = none) {H : HA} (x : Str) :
    Iter G A (.str x) H x.cps.size (fun i => .str ⟨#[x.cps.getD i 0]⟩) (fun _ => True) := fun Z s v hv hp => by
  obtain ⟨t, rfl⟩ := ab_str hv
  have hI : ∀ i v, SignAt x i v → ab v = .str ⟨#[x.cps.getD i 0]⟩ := fun i v ⟨c, u, e, e'⟩ => by
    subst e'
    simp [ab, Array.getD_eq_getD_getElem?, e, hP]
  cases ha : x.cps.all (· < 128)
  · exact wpAny_pyIter_wide ha ⟨_, _, rfl, Src.ofWalks (Walks.strWide hh _ x t) hI (fun i h st => let ⟨o, e, _⟩ := st; ⟨o, e⟩), ⟨_, Heap.get?_push_size _ rfl, rfl, rfl⟩, Nat.le_refl _, fun b o e => Heap.get?_push_of_some _ e, rfl, rfl, Nat.le_refl _⟩
  · exact wpAny_pyIter_ascii ha ⟨_, _, rfl, Src.ofWalks (Walks.strAscii hh _ x t) hI (fun i h st => let ⟨o, e, _⟩ := st; ⟨o, e⟩), ⟨_, Heap.get?_push_size _ rfl, rfl, rfl⟩, Nat.le_refl _, fun b o e => Heap.get?_push_of_some _ e, rfl, rfl, Nat.le_refl _⟩
section
variable {G : Glb} {F : Fm} {ρ : Vars} {H : HA} {sc : Scope} {d : Nat} {Z : Addr → Option Obj} {s s' : Shared}
theorem Inv.frame_lt (x : Inv G F Z ρ H s) : F.env.locals < s.heap.objs.size := let ⟨m, hn, _⟩ := x.loc.ns; hn.lt
theorem Inv.cell_lt (x : Inv G F Z ρ H s) {y : String} {c : Addr} (h : F.env.cells.lookup (Str.ofString y) = some c) : c < s.heap.objs.size := let ⟨⟨ov, hc, _⟩, _⟩ := x.loc.cell y c h; hc.lt
structure Off (F : Fm) (Z : Addr → Option Obj) (I : Addr) : Prop where
  z : Z I = none
  l : I ≠ F.env.locals
  c : ∀ (y : String) c, F.env.cells.lookup (Str.ofString y) = some c → c ≠ I
theorem Inv.off (x : Inv G F Z ρ H s) {I : Addr} (h : s.heap.objs.size ≤ I) : Off F Z I :=
  ⟨x.hp.zfresh h, Nat.ne_of_gt (Nat.lt_of_lt_of_le x.frame_lt h), fun y c hc => Nat.ne_of_lt (Nat.lt_of_lt_of_le (x.cell_lt hc) h)⟩
theorem Inv.onlyAt (x : Inv G F Z ρ H s) {I : Addr} (o : Off F Z I) (hI : H I = none) (h : OnlyAt [I] s s') : Inv G F Z ρ H s' := by
  have k : ∀ b ob, b ≠ I → s.heap.get? b = some ob → s'.heap.get? b = some ob := fun b ob hb e => h.1 b ob (by simpa using hb) e
  refine ⟨⟨x.hp.bz, fun b ob e => k b ob (by rintro rfl; rw [o.z] at e; cases e) (x.hp.fz b ob e), x.hp.sep, fun a ob e => (x.hp.trk a ob e).at fun q => k a q (by rintro rfl; rw [hI] at e; cases e), h.2.1.trans x.hp.gens, h.2.2.1.trans x.hp.os, Nat.le_trans x.hp.ck h.2.2.2⟩, ?_⟩
  obtain ⟨m, ⟨ob, es, ep, e, r⟩, hm⟩ := x.loc.ns
  refine ⟨⟨m, ⟨ob, es, ep, k _ _ (Ne.symm o.l) e, r⟩, hm⟩, x.loc.hL, x.loc.zL, fun y c hc => ?_, x.loc.cw⟩
  obtain ⟨⟨ov, ⟨oc, e, r⟩, q⟩, h1, h2⟩ := x.loc.cell y c hc
  exact ⟨⟨ov, ⟨oc, k _ _ (o.c y c hc) e, r⟩, q⟩, h1, h2⟩
noncomputable def frozAt (Z : Addr → Option Obj) (I : Addr) (ob : Obj) : Addr → Option Obj := fun b => if b = I then some ob else Z b
theorem Inv.freezeAt (x : Inv G F Z ρ H s) {I : Addr} (o : Off F Z I) (hI : H I = none) {ob : Obj} (e : s.heap.get? I = some ob) : Inv G F (frozAt Z I ob) ρ H s := by
  refine ⟨⟨fun b oo q => ?_, fun b oo q => ?_, fun b oo q => ?_, x.hp.trk, x.hp.gens, x.hp.os, x.hp.ck⟩, ⟨x.loc.ns, x.loc.hL, ?_, x.loc.cell, fun w y c hc => ⟨?_, (x.loc.cw w y c hc).2⟩⟩⟩
  · unfold frozAt
    rw [if_neg (by rintro rfl; have := o.z; rw [x.hp.bz _ _ q] at this; cases this)]; exact x.hp.bz b oo q
  · unfold frozAt at q; split at q
    · rename_i h; subst h; cases q; exact e
    · exact x.hp.fz b oo q
  · unfold frozAt at q; split at q
    · rename_i h; subst h; exact hI
    · exact x.hp.sep b oo q
  · unfold frozAt; rw [if_neg (Ne.symm o.l)]; exact x.loc.zL
  · unfold frozAt; rw [if_neg (o.c y c hc)]; exact (x.loc.cw w y c hc).1
theorem Inv.unfreezeAt {I : Addr} {ob : Obj} (x : Inv G F (frozAt Z I ob) ρ H s) (o : Off F Z I) (bz : ∀ b o, G.B.get? b = some o → Z b = some o) : Inv G F Z ρ H s ∧ H I = none ∧ s.heap.get? I = some ob := by
  have up : ∀ b oo, Z b = some oo → frozAt Z I ob b = some oo := fun b oo q => by unfold frozAt; rw [if_neg (by rintro rfl; rw [o.z] at q; cases q)]; exact q
  have at_ : frozAt Z I ob I = some ob := by unfold frozAt; simp
  refine ⟨⟨⟨bz, fun b oo q => x.hp.fz b oo (up b oo q), fun b oo q => x.hp.sep b oo (up b oo q), x.hp.trk, x.hp.gens, x.hp.os, x.hp.ck⟩, ⟨x.loc.ns, x.loc.hL, ?_, x.loc.cell, fun w y c hc => ⟨?_, (x.loc.cw w y c hc).2⟩⟩⟩, x.hp.sep _ _ at_, x.hp.fz _ _ at_⟩
  · have := x.loc.zL; unfold frozAt at this; rwa [if_neg (Ne.symm o.l)] at this
  · have := (x.loc.cw w y c hc).1; unfold frozAt at this; rwa [if_neg (o.c y c hc)] at this
theorem notedBy_no {M : Model} {A : Around} {env : Env} {E : Value → Shared → Prop} {α : Type} {t : Sem α} {Q : α → Shared → Prop} (h : wpAny M A t Q NoE s) : wpAny M A t Q (notedBy M A env E) s :=
  wpAny_mono h (fun _ _ x => x) fun _ _ x => x.elim
theorem As_gen {t : Expr} {v : V} {b : List Stmt} {Qb : Fl → Vars → HA → Prop} (h : ∀ Q' : Fl → Vars → HA → Prop, (∀ fl ρ H, Qb fl ρ H → Q' fl ρ H) → As G F t v ρ H fun ρ H => Exs G F b ρ H Q') : As G F t v ρ H fun ρ H => Exs G F b ρ H Qb := h Qb fun _ _ _ h => h
noncomputable abbrev lpQ (Iv : Nat → Vars → HA → Prop) (i : Nat) (Q : Fl → Vars → HA → Prop) : Fl → Vars → HA → Prop := fun fl ρ3 H3 => match fl with | .next | .cont => Iv (i + 1) ρ3 H3 | .brk => Q .next ρ3 H3 | .ret v => Q (.ret v) ρ3 H3
structure ForP (G : Glb) (F : Fm) (target : Expr) (body orelse : List Stmt) (Q : Fl → Vars → HA → Prop) (ρ : Vars) (xv : V) (H1 : HA) (n : Nat) (item : Nat → V) (Nd : HA → Prop) (Iv : Nat → Vars → HA → Prop) : Prop where
  it : Iter G F.A xv H1 n item Nd
  i0 : Iv 0 ρ H1
  nd : ∀ i ρ H, Iv i ρ H → Nd H
  st : ∀ i, i < n → ∀ ρ1 H1, Iv i ρ1 H1 → As G F target (item i) ρ1 H1 fun ρ2 H2 => Exs G F body ρ2 H2 (lpQ Iv i Q)
  ex : ∀ ρ1 H1, Iv n ρ1 H1 → Exs G F orelse ρ1 H1 Q
noncomputable abbrev kFor (G : Glb) (F : Fm) (target : Expr) (body orelse : List Stmt) (Q : Fl → Vars → HA → Prop) (ρ : Vars) : V → HA → Prop := fun xv H1 => ∃ n item Nd, ∃ Iv : Nat → Vars → HA → Prop, ForP G F target body orelse Q ρ xv H1 n item Nd Iv
theorem Ex_For {target iter : Expr} {body orelse : List Stmt} {pos : Pos} {Q : Fl → Vars → HA → Prop}
    (h : Ev G F iter ρ H (kFor G F target body orelse Q ρ))
    (hs : ∀ x, foldedSetIterable iter F.env x = pure x := by intro _; rfl) (ht : ∀ it v, letOwnedTupleGo target it v = pure () := by intro _ _; rfl) : Ex G F (.For target iter body orelse pos) ρ H Q := .mk fun Z s x => by
  refine wpAny_For (wpAny_mono (h.run Z s x) (fun xv s₁ hM => ?_) fun _ _ e => e) hs
  obtain ⟨H1, x1, n, item, Nd, Iv, hi, h0, hnd, hb, he⟩ := hM
  refine wpAny_mono (hi _ s₁ xv rfl x1.hp) (fun it s₂ hM => ?_) fun _ _ e => e
  obtain ⟨I, Sx, e, src, st0, hI, keep, hg, ho, htk⟩ := hM
  subst e
  have off := x1.off hI
  have hI1 : H1 I = none := x1.hp.fresh hI
  have x2 : Inv G F Z ρ H1 s₂ := x1.onlyAt off hI1 ⟨fun b o _ e => keep b o e, hg, ho, htk⟩
  refine codeAny_forLoop (fun k s' => ∃ i ρ' H', k = n - i ∧ i ≤ n ∧ Inv G F Z ρ' H' s' ∧ H' I = none ∧ Iv i ρ' H' ∧ Sx i s'.heap) (fun k s' hk => ?_) (n - 0) ⟨0, ρ, H1, rfl, Nat.zero_le _, x2, hI1, h0, st0⟩ (ht _)
  obtain ⟨i, ρ', H', rfl, hle, x', hI', hv, st⟩ := hk
  by_cases hlt : i < n
  · refine notedBy_no (wpAny_mono (src.next i s' Z H' hlt x'.hp (hnd _ _ _ hv) st) (fun r s₃ hM => ?_) fun _ _ e => e)
    obtain ⟨v, e, hv', st', o⟩ := hM
    subst e
    have x3 := x'.onlyAt off hI' o
    obtain ⟨ob, eo⟩ := src.there _ _ st'
    have x3' := x3.freezeAt off hI' eo
    refine notedBy_no (wpAny_mono ((hb i hlt ρ' H' hv).run _ s₃ v hv' x3') (fun _ s₄ ⟨ρ2, H2, x4, h4⟩ => notedBy_no (wpAny_mono (h4.run _ s₄ x4) (fun fl s₅ hM => ?_) fun _ _ e => e)) fun _ _ e => e)
    obtain ⟨ρ3, H3, x5, h5⟩ := hM
    obtain ⟨x6, hI6, e6⟩ := x5.unfreezeAt off x.hp.bz
    have st6 := src.frame _ _ s₅.heap st' fun o e => by rw [eo] at e; cases e; exact e6
    cases fl with
    | next => exact ⟨n - (i + 1), by (clear hI htk hle; omega), i + 1, ρ3, H3, rfl, hlt, x6, hI6, h5, st6⟩
    | cont => exact ⟨n - (i + 1), by (clear hI htk hle; omega), i + 1, ρ3, H3, rfl, hlt, x6, hI6, h5, st6⟩
    | brk => exact ⟨ρ3, H3, x6, h5⟩
    | ret v => exact ⟨ρ3, H3, x6, h5⟩
  · obtain rfl : i = n := by (clear hI htk; omega)
    refine notedBy_no (wpAny_mono (src.stop s' Z H' x'.hp (hnd _ _ _ hv) st) (fun r s₃ ⟨e, o⟩ => ?_) fun _ _ e => e)
    subst e
    exact notedBy_no ((he _ _ hv).run Z s₃ (x'.onlyAt off hI' o))
end
end Mine
namespace Mine
variable [HasP]
section
variable {G : Glb} {F : Fm} {ρ : Vars} {H : HA} {sc : Scope} {d : Nat} {Z : Addr → Option Obj} {s s' : Shared}
theorem Ex_While {test : Expr} {body orelse : List Stmt} {pos : Pos} {Q : Fl → Vars → HA → Prop} (Iv : Nat → Vars → HA → Prop) (n : Nat) (h0 : Iv n ρ H)
    (h : ∀ n ρ1 H1, Iv n ρ1 H1 → Tr G F test ρ1 H1 fun b H2 => if b then Exs G F body ρ1 H2 fun fl ρ3 H3 => match fl with | .next | .cont => ∃ m, m < n ∧ Iv m ρ3 H3 | .brk => Q .next ρ3 H3 | .ret v => Q (.ret v) ρ3 H3
      else Exs G F orelse ρ1 H2 Q) : Ex G F (.While test body orelse pos) ρ H Q := .mk fun Z s x => by
  refine wpAny_While (codeAny_whileLoop (fun n s' => ∃ ρ' H', Inv G F Z ρ' H' s' ∧ Iv n ρ' H') (fun n s' hM => ?_) n ⟨ρ, H, x, h0⟩)
  obtain ⟨ρ', H', x', hv⟩ := hM
  refine notedBy_no (wpAny_mono ((h n ρ' H' hv).run Z s' x') (fun b s₁ hM => ?_) fun _ _ e => e)
  obtain ⟨H2, x2, h2⟩ := hM
  cases b with
  | false => exact notedBy_no (h2.run Z s₁ x2)
  | true =>
    refine notedBy_no (wpAny_mono (h2.run Z s₁ x2) (fun fl s₃ hM => ?_) fun _ _ e => e)
    obtain ⟨ρ3, H3, x3, h3⟩ := hM
    cases fl with
    | next => obtain ⟨m, hm, hv⟩ := h3; exact ⟨m, hm, ρ3, H3, x3, hv⟩
    | cont => obtain ⟨m, hm, hv⟩ := h3; exact ⟨m, hm, ρ3, H3, x3, hv⟩
    | brk => exact ⟨ρ3, H3, x3, h3⟩
    | ret v => exact ⟨ρ3, H3, x3, h3⟩
theorem addr_ne {a b n : Nat} (h1 : a < n) (h2 : n ≤ b) : a ≠ b := by omega
noncomputable def relabelS (scope sc : Scope) : Scope := { scope with names := scope.names.map fun (n, k) => if k == .free && sc.names.lookup n == some .cell then (n, .cell) else (n, k) }
noncomputable def closeL (cells : List (Str × Addr)) : List (Str × NameKind) → List (Str × Addr) → List (Str × Addr)
  | [], acc => acc
  | (n, k) :: r, acc => if k == .free then closeL cells r ((n, (cells.lookup n).getD 0) :: acc) else closeL cells r acc
noncomputable def compOkB (scope sc : Scope) : Bool := decide <|
  scope.kind = .function ∧ (∀ y ∈ scope.names, y.2 ≠ .cell) ∧ (∀ y ∈ scope.names, y.2 = .free → sc.names.lookup y.1 = some .cell ∧ scope.names.lookup y.1 = some .free) ∧
  (∀ y ∈ scope.names, y.2 = .local → scope.names.lookup y.1 = some .local)
noncomputable abbrev CompOk (scope sc : Scope) : Prop := compOkB scope sc = true
theorem closureFor_eq {scope : Scope} {env : Env} (h : ∀ y ∈ scope.names, y.2 = .free → ∃ c, env.cells.lookup y.1 = some c) : closureFor scope env = pure (closeL env.cells scope.names []) := by
  unfold closureFor
  have go : ∀ (names : List (Str × NameKind)) (acc : List (Str × Addr)), (∀ y ∈ names, y.2 = .free → ∃ c, env.cells.lookup y.1 = some c) →
      (forIn names acc fun (x : Str × NameKind) (r : List (Str × Addr)) => (do
        if x.2 == .free then do
          let c ← cellOf env x.1
          pure (ForInStep.yield ((x.1, c) :: r))
        else pure (ForInStep.yield r) : Sem (ForInStep (List (Str × Addr))))) = pure (closeL env.cells names acc) := by
    intro names
    induction names with
    | nil => intro acc _; rfl
    | cons y r ih =>
      intro acc hy
      obtain ⟨n, k⟩ := y
      rw [List.forIn_cons]
      unfold closeL
      by_cases hk : k == .free
      · obtain ⟨c, hc⟩ := hy (n, k) List.mem_cons_self (by simpa using hk)
        simp only [hk, if_true]
        have e : cellOf env n = pure c := by unfold cellOf; rw [hc]
        rw [e]
        simp only [pure_bind]
        rw [ih _ fun z hz => hy z (List.mem_cons_of_mem _ hz)]
        rw [show env.cells.lookup n = some c from hc]
        rfl
      · simp only [hk]
        exact ih _ fun z hz => hy z (List.mem_cons_of_mem _ hz)
  exact congrArg (fun t => t >>= fun r => (pure r : Sem (List (Str × Addr)))) (go scope.names [] h)
theorem closeL_acc (cells : List (Str × Addr)) : ∀ (names : List (Str × NameKind)) (acc : List (Str × Addr)) (n : Str) (c : Addr), (closeL cells names acc).lookup n = some c →
    acc.lookup n = some c ∨ ((n, NameKind.free) ∈ names ∧ c = (cells.lookup n).getD 0)
  | [], acc, n, c, h => .inl h
  | (m, k) :: r, acc, n, c, h => by
    unfold closeL at h
    split at h
    · rename_i hk
      have hk : k = .free := by simpa using hk
      subst hk
      rcases closeL_acc cells r _ n c h with h | ⟨h, e⟩
      · rw [List.lookup_cons] at h
        cases q : n == m with
        | true => rw [q] at h; cases h; obtain rfl := beq_iff_eq.mp q; exact .inr ⟨List.mem_cons_self, rfl⟩
        | false => rw [q] at h; exact .inl h
      · exact .inr ⟨List.mem_cons_of_mem _ h, e⟩
    · rcases closeL_acc cells r _ n c h with h | ⟨h, e⟩
      · exact .inl h
      · exact .inr ⟨List.mem_cons_of_mem _ h, e⟩
set_option linter.unusedSimpArgs false in
theorem closeL_some (cells : List (Str × Addr)) : ∀ (names : List (Str × NameKind)) (acc : List (Str × Addr)) (n : Str), ((n, NameKind.free) ∈ names ∨ (acc.lookup n).isSome = true) → ((closeL cells names acc).lookup n).isSome = true
  | [], acc, n, h => by rcases h with h | h; cases h; exact h
  | (m, k) :: r, acc, n, h => by
    unfold closeL
    split
    · rename_i hk
      refine closeL_some cells r _ n ?_
      rcases h with h | h
      · rcases List.mem_cons.mp h with e | h
        · cases e; right; simp [List.lookup_cons]
        · exact .inl h
      · right; rw [List.lookup_cons]; cases n == m <;> simp_all
    · rename_i hk
      refine closeL_some cells r _ n ?_
      rcases h with h | h
      · rcases List.mem_cons.mp h with e | h
        · cases e; exact absurd (by simp) hk
        · exact .inl h
      · exact .inr h
theorem lookup_map_kind {f : Str → NameKind → NameKind} : ∀ (names : List (Str × NameKind)) (n : Str), (names.map fun (m, k) => (m, f m k)).lookup n = (names.lookup n).map (f n)
  | [], n => rfl
  | (m, k) :: r, n => by
    simp only [List.map_cons, List.lookup_cons]
    cases q : n == m with
    | true => obtain rfl := beq_iff_eq.mp q; rfl
    | false => exact lookup_map_kind r n
theorem relabel_lookup (ok : FOk G F sc d) (scope : Scope) (n : Str) : (relabel scope F.env).names.lookup n = (relabelS scope sc).names.lookup n := by
  have e : (relabel scope F.env).names = (relabelS scope sc).names := by
    unfold relabel relabelS
    simp only [ok.fn, ok.sco]
    apply List.map_congr_left
    intro a ha
    simp
  rw [e]
noncomputable def relK (sc : Scope) (n : Str) (k : NameKind) : NameKind := if k == .free && sc.names.lookup n == some .cell then .cell else k
theorem relabelS_lookup (scope sc : Scope) (n : Str) : (relabelS scope sc).names.lookup n = (scope.names.lookup n).map (relK sc n) := by
  have e : (relabelS scope sc).names = scope.names.map fun (m, k) => (m, relK sc m k) := by
    unfold relabelS relK
    apply List.map_congr_left
    intro a ha
    dsimp only
    split <;> rfl
  rw [e, lookup_map_kind]
noncomputable def hideL (scope : Scope) (ρ : Vars) : Vars := fun x => match scope.names.lookup (Str.ofString x) with
  | some .local => none
  | _ => ρ x
noncomputable def Ts (G : Glb) (F : Fm) : List Expr → Vars → HA → (Bool → HA → Prop) → Prop
  | [], ρ, H, Q => Q true H
  | [t], ρ, H, Q => Tr G F t ρ H Q
  | _, _, _, _ => False
structure CJ (G : Glb) (Zc : Addr → Option Obj) (I D C : Addr) (Iv : Nat → List V → HA → Prop) (Sx : Nat → Heap → Prop) (env : Env) (scope : Scope) (ρ : Vars) (x : String) (i : Nat) (ρ' : Vars) (ys : List V) (H' : HA) (s' : Shared) : Prop where
  hp : Hp G Zc H' s'
  hi : H' I = none
  hd : H' D = none
  hc : H' C = none
  iv : Iv i ys H'
  sx : Sx i s'.heap
  dl : ∃ vs k, s'.heap.get? D = some { cls := .type "list", data := .seq vs k } ∧ vs.toList.map ab = ys
  le : ys.length ≤ i
  ns : ∃ m, s'.heap.Ns C m ∧ ∀ y : String, env.kindOf (Str.ofString y) = some .local → (m (Str.ofString y)).map ab = ρ' y
  hr : ∀ y : String, y ≠ x → ρ' y = hideL scope ρ y
theorem comp_core {elt iter : Expr} {x : String} {px : Pos} {ifs : List Expr} {scope : Scope} {pos ppos : Pos} {use : Option (Value → Sem Unit)} {Q' : Value → Shared → Prop} (ok : FOk G F sc d) (g : GOk G) (co : CompOk scope sc) (X : Inv G F Z ρ H s)
    (h : Ev G F iter ρ H fun xv H1 => ∃ n item Nd, ∃ Iv : Nat → List V → HA → Prop, Iter G F.A xv H1 n item Nd ∧ n ≤ sizeLine ∧ Iv 0 [] H1 ∧ (∀ i ys H, Iv i ys H → Nd H) ∧
      (∀ Fc, FOk G Fc (relabelS scope sc) d → ∀ i, i < n → ∀ ys H2, Iv i ys H2 → Ts G Fc ifs ((hideL scope ρ).set x (item i)) H2 fun b H3 =>
        if b then Ev G Fc elt ((hideL scope ρ).set x (item i)) H3 fun v H4 => Iv (i + 1) (ys ++ [v]) H4 else Iv (i + 1) ys H3) ∧
      (∀ ys H2 D C s', Iv n ys H2 → H2 D = none → Inv G F Z ρ (H2.set D (.list ys)) s' → Off F Z C → (H2.set D (.list ys)) C = none → (∃ m, s'.heap.Ns C m) → compPost (Md G) F.A NoE use Q' (.ref D) C (.ok .next) s'))
    (hx : scope.names.lookup (Str.ofString x) = some .local) (hs : ∀ x, foldedSetIterable iter F.env x = pure x := by intro _; rfl) :
    wpAny (Md G) F.A (comprehension (.ListComp elt [⟨.Name (Str.ofString x) px, iter, ifs, 0⟩] scope pos) scope F.env ppos (newList []) false (eval iter F.env) use) Q' NoE s := by
  obtain ⟨co1, co2, co3, co4⟩ := of_decide_eq_true co
  have hfree : ∀ y ∈ scope.names, y.2 = .free → ∃ c, F.env.cells.lookup y.1 = some c := fun y hy e => ok.cl _ (co3 y hy e).1
  refine wpAny_comprehension_free (use := use) rfl hs (closureFor_eq hfree) co1 co4 (wpAny_mono (h.run Z s X) (fun xv s₁ hM => ?_) fun _ _ e => e)
  obtain ⟨H1, x1, n, item, Nd, Iv, hIt, hn, h0, hnd, ht, he⟩ := hM
  refine wpAny_mono (hIt _ s₁ xv rfl x1.hp) (fun it s₂ hM => ?_) fun _ _ e => e
  obtain ⟨I, Sx, e, src, st0, hI, keep, hg, ho⟩ := hM
  subst e
  have off := x1.off hI
  have hI1 : H1 I = none := x1.hp.fresh hI
  have x2 : Inv G F Z ρ H1 s₂ := x1.onlyAt off hI1 ⟨fun b o _ e => keep b o e, hg, ho⟩
  obtain ⟨oI, eI⟩ := src.there _ _ st0
  refine wpAny_newObj_type (wpAny_newFunctionEnv co2 (by intro y hy; simp at hy) (fun h₁ hns₁ hsb₁ => ?_) co1)
  dsimp only at hns₁ hsb₁ ⊢
  generalize hH2 : s₂.heap.push { cls := .type "list", dict := none, data := .seq ([] : List Value).toArray } = P at hns₁ hsb₁ ⊢
  have hC : P.objs.size = s₂.heap.objs.size + 1 := by rw [← hH2, Heap.size_push]
  obtain ⟨D, hDn⟩ : ∃ D, s₂.heap.objs.size = D := ⟨_, rfl⟩
  obtain ⟨C, hCn⟩ : ∃ C, P.objs.size = C := ⟨_, rfl⟩
  rw [hDn] at hC
  rw [hCn] at hns₁ hsb₁ hC ⊢
  rw [hDn]
  have hDC : D ≠ C := by (clear hn hI ho hDn hCn; omega)
  have hD0 : s₂.heap.objs.size ≤ D := by exact Nat.le_of_eq hDn
  have hC0 : s₂.heap.objs.size ≤ C := by (clear hn hI ho hCn hDC hD0; omega)
  have hPD : P.get? D = some { cls := .type "list", data := .seq #[] } := by rw [← hH2, ← hDn]; exact Heap.get?_push_size _ rfl
  have hold : ∀ b o, s₂.heap.get? b = some o → h₁.get? b = some o := fun b o e => by
    have lt := Heap.lt_size e
    refine hsb₁.extBut b o (addr_ne lt hC0) (Heap.get?_push_of_some _ ?_)
    rw [← hH2]; exact Heap.get?_push_of_some _ e
  have hD1 : h₁.get? D = some { cls := .type "list", data := .seq #[] } := hsb₁.extBut _ _ hDC (Heap.get?_push_of_some _ hPD)
  have offD : Off F Z D := x2.off hD0
  have offC : Off F Z C := x2.off hC0
  have hID : I ≠ D := addr_ne (Heap.lt_size eI) hD0
  have hIC : I ≠ C := addr_ne (Heap.lt_size eI) hC0
  have hHD : H1 D = none := x2.hp.fresh hD0
  have hHC : H1 C = none := x2.hp.fresh hC0
  let Zc : Addr → Option Obj := fun b => if b = I ∨ b = D ∨ b = C then none else froz H1 s₂.heap b
  have hZc : ∀ b o, b ≠ I → H1 b = none → s₂.heap.get? b = some o → Zc b = some o := fun b o hb e g => by
    have lt := Heap.lt_size g
    show (if b = I ∨ b = D ∨ b = C then none else froz H1 s₂.heap b) = some o
    rw [if_neg (fun q => q.elim hb fun q => q.elim (addr_ne lt hD0) (addr_ne lt hC0))]; unfold froz; rw [e]; exact g
  let Fc : Fm := ⟨compEnvC scope (closeL F.env.cells scope.names []) C F.env, F.A, false⟩
  have rl : ∀ n, Fc.env.kindOf n = (relabelS scope sc).names.lookup n := fun n => relabel_lookup ok scope n
  have okc : FOk G Fc (relabelS scope sc) d := by
    refine ⟨co1, ok.gl, ok.bl, ok.hd, ok.dep, ok.un, rl, fun n e => ?_, fun n e => ?_, Nat.le_trans (x2.hp.size g) hC0⟩
    · rw [relabelS_lookup] at e
      cases q : scope.names.lookup n with
      | none => rw [q] at e; cases e
      | some k =>
        rw [q] at e
        have hk : (n, k) ∈ scope.names := mem_of_lookup q
        have hkf : k = .free := by
          simp only [Option.map_some, Option.some.injEq, relK] at e
          split at e
          · rename_i hh; simp at hh; exact hh.1
          · subst e; exact absurd rfl (co2 _ hk)
        subst hkf
        exact Option.isSome_iff_exists.mp (closeL_some _ _ _ _ (.inl hk))
    · cases q : (closeL F.env.cells scope.names []).lookup n with
      | none => exact q
      | some c =>
        rcases closeL_acc _ _ _ _ _ q with h | ⟨h, _⟩
        · simp at h
        · have := (co3 _ h rfl).2
          rw [relabelS_lookup, this] at e
          simp only [Option.map_some, Option.some.injEq, relK] at e
          split at e <;> cases e
  have hloc : ∀ (y : String) c, (closeL F.env.cells scope.names []).lookup (Str.ofString y) = some c → F.env.cells.lookup (Str.ofString y) = some c ∧ scope.names.lookup (Str.ofString y) = some .free := fun y c e => by
    rcases closeL_acc _ _ _ _ _ e with h | ⟨h, e'⟩
    · simp at h
    · obtain ⟨c', hc'⟩ := hfree _ h rfl
      rw [hc'] at e'; subst e'; exact ⟨hc', (co3 _ h rfl).2⟩
  have hkl : ∀ y : String, Fc.env.kindOf (Str.ofString y) = some .local → scope.names.lookup (Str.ofString y) = some .local := fun y e => by
    rw [rl, relabelS_lookup] at e
    cases q : scope.names.lookup (Str.ofString y) with
    | none => rw [q] at e; cases e
    | some k =>
      rw [q] at e
      simp only [Option.map_some, Option.some.injEq, relK] at e
      split at e
      · cases e
      · rw [e]
  let J : Nat → Vars → List V → HA → Shared → Prop := CJ G Zc I D C Iv Sx Fc.env scope ρ x
  have hcells : ∀ (y : String) c, (closeL F.env.cells scope.names []).lookup (Str.ofString y) = some c → ∃ o ov, Zc c = some o ∧ o.data = .cell ov ∧ ov.map ab = ρ y ∧ c ≠ I ∧ c ≠ D ∧ c ≠ C := fun y c e => by
    obtain ⟨hc, _⟩ := hloc y c e
    obtain ⟨⟨ov, ⟨o, ho, hd⟩, q⟩, h1, h2⟩ := x2.loc.cell y c hc
    have lt := Heap.lt_size ho
    exact ⟨o, ov, hZc c o (off.c y c hc) h1 ho, hd, q, off.c y c hc, addr_ne lt hD0, addr_ne lt hC0⟩
  have offI : ∀ {a : Addr}, a = I ∨ a = D ∨ a = C → Zc a = none := fun h => by show (if _ then none else _) = none; rw [if_pos h]
  have mkInv : ∀ {i ρ' ys H' s'}, J i ρ' ys H' s' → Inv G Fc Zc ρ' H' s' := fun {i ρ' ys H' s'} ⟨hp, hi, hd, hc, _, _, _, _, hm, hρ⟩ => by
    refine ⟨hp, ⟨hm, hc, offI (.inr (.inr rfl)), fun y c e => ?_, fun w => by cases w⟩⟩
    obtain ⟨o, ov, e1, e2, e3, e4, e5, e6⟩ := hcells y c e
    refine ⟨⟨ov, ⟨o, hp.fz _ _ e1, e2⟩, e3.trans ?_⟩, hp.sep _ _ e1, e6⟩
    have := (hloc y c e).2
    by_cases q : y = x
    · subst q; rw [hx] at this; cases this
    · rw [hρ y q]; unfold hideL; rw [this]
  have start : J 0 (hideL scope ρ) [] H1 { s₂ with heap := h₁, toks := s₂.toks + ([] : List (Str × Value)).length } := by
    refine ⟨⟨fun b o e => ?_, fun b o e => ?_, fun b o e => ?_, fun a o e => (x2.hp.trk a o e).at (fun q => hold a q), x2.hp.gens, x2.hp.os, x2.hp.ck⟩, hI1, hHD, hHC, h0, src.frame _ _ _ st0 (fun o => hold I o), ⟨_, _, hD1, rfl⟩, Nat.le_refl _, ⟨_, hns₁, fun y e => ?_⟩, fun _ _ => rfl⟩
    · exact hZc b o (by rintro rfl; have := off.z; rw [x2.hp.bz _ _ e] at this; cases this) (x2.hp.sep _ _ (x2.hp.bz _ _ e)) (x2.hp.base _ _ e)
    · have e : (if b = I ∨ b = D ∨ b = C then none else froz H1 s₂.heap b) = some o := e
      split at e
      · cases e
      · unfold froz at e; split at e
        · cases e
        · exact hold b o e
    · have e : (if b = I ∨ b = D ∨ b = C then none else froz H1 s₂.heap b) = some o := e
      split at e
      · cases e
      · unfold froz at e; split at e
        · cases e
        · assumption
    · have := hkl y e
      unfold hideL; rw [this]; rfl
  have offcI : Off Fc Zc I := ⟨offI (.inl rfl), hIC, fun y c e => let ⟨_, _, _, _, _, h, _⟩ := hcells y c e; h⟩
  have offcD : ∀ ob, Off Fc (frozAt Zc I ob) D := fun ob => ⟨by unfold frozAt; rw [if_neg (Ne.symm hID)]; exact offI (.inr (.inl rfl)), hDC, fun y c e => let ⟨_, _, _, _, _, _, h, _⟩ := hcells y c e; h⟩
  have hbz : ∀ b o, G.B.get? b = some o → Zc b = some o := start.hp.bz
  have loop : ∀ s₃, J 0 (hideL scope ρ) [] H1 s₃ → codeAny (Md G) F.A (.compLoop (.ListComp elt [⟨.Name (Str.ofString x) px, iter, ifs, 0⟩] scope pos) 0 (.ref I) (.ref D) Fc.env) (compPost (Md G) F.A NoE use Q' (.ref D) C) s₃ := by
    intro s₃ hJ
    refine codeAny_compLoop_tests (fun k s' => ∃ i ρ' ys H', k = n - i ∧ i ≤ n ∧ J i ρ' ys H' s') (fun k s' hk => ?_) (n - 0) ⟨0, _, _, _, rfl, Nat.zero_le _, hJ⟩
    obtain ⟨i, ρ', ys, H', rfl, hle, hj⟩ := hk
    have xi := mkInv hj
    obtain ⟨hp, hi, hd, hc, hv, st, ⟨vs, kk, eD, eys⟩, hly, hm, hρ⟩ := hj
    have xi : Inv G Fc Zc ρ' H' s' := xi
    by_cases hlt : i < n
    · refine notedBy_no (wpAny_mono (src.next i s' Zc H' hlt hp (hnd _ _ _ hv) st) (fun r s₄ hM => ?_) fun _ _ e => e)
      obtain ⟨v, e, hv', st', o⟩ := hM
      subst e
      have x4 : Inv G Fc Zc ρ' H' s₄ := xi.onlyAt offcI hi o
      obtain ⟨ob, eo⟩ := src.there _ _ st'
      have eD4 : s₄.heap.get? D = some { cls := .type "list", data := .seq vs kk } := o.1 D _ (by simpa using Ne.symm hID) eD
      have x5 := (x4.freezeAt offcI hi eo).freezeAt (offcD ob) hd eD4
      have hset : ρ'.set x (ab v) = (hideL scope ρ).set x (item i) := by
        funext y; unfold Vars.set; rw [hv']; split
        · rfl
        · rename_i hy; exact hρ y hy
      refine notedBy_no (wpAny_assign_Name (x5.storeLocal okc.fn (by rw [rl, relabelS_lookup, hx]; rfl) (okc.lo _ (by rw [relabelS_lookup, hx]; rfl)) fun s₅ x6 => ?_))
      rw [hset] at x6
      have tail : ∀ (b : Bool) (s₆ : Shared) (H3 : HA), Inv G Fc (frozAt (frozAt Zc I ob) D { cls := .type "list", data := .seq vs kk }) ((hideL scope ρ).set x (item i)) H3 s₆ →
          (if b then Ev G Fc elt ((hideL scope ρ).set x (item i)) H3 fun v H4 => Iv (i + 1) (ys ++ [v]) H4 else Iv (i + 1) ys H3) →
          (if b = true then wpAny (Md G) F.A (eval elt Fc.env) (fun x s₄ => wpAny (Md G) F.A (call (.builtin "list.append") [.ref D, x]) (fun _ s₅ => ∃ m, m < n - i ∧ ∃ i ρ' ys H', m = n - i ∧ i ≤ n ∧ J i ρ' ys H' s₅)
            (notedBy (Md G) F.A Fc.env fun e s' => compPost (Md G) F.A NoE use Q' (.ref D) C (.error e) s') s₄) (notedBy (Md G) F.A Fc.env fun e s' => compPost (Md G) F.A NoE use Q' (.ref D) C (.error e) s') s₆
          else ∃ m, m < n - i ∧ ∃ i ρ' ys H', m = n - i ∧ i ≤ n ∧ J i ρ' ys H' s₆) := by
        intro b s₆ H3 x7 hb
        have fin : ∀ (s₇ : Shared) (H4 : HA), Inv G Fc (frozAt (frozAt Zc I ob) D { cls := .type "list", data := .seq vs kk }) ((hideL scope ρ).set x (item i)) H4 s₇ →
            Inv G Fc Zc ((hideL scope ρ).set x (item i)) H4 s₇ ∧ H4 I = none ∧ H4 D = none ∧ s₇.heap.get? D = some { cls := .type "list", data := .seq vs kk } ∧ Sx (i + 1) s₇.heap := fun s₇ H4 y => by
          obtain ⟨y1, e1, e2⟩ := y.unfreezeAt (offcD ob) (fun b o e => by unfold frozAt; rw [if_neg (by rintro rfl; have := offcI.z; rw [hbz _ _ e] at this; cases this)]; exact hbz b o e)
          obtain ⟨y2, e3, e4⟩ := y1.unfreezeAt offcI hbz
          exact ⟨y2, e3, e1, e2, src.frame _ _ s₇.heap st' fun o e => by rw [eo] at e; cases e; exact e4⟩
        have hρ2 : ∀ y : String, y ≠ x → ((hideL scope ρ).set x (item i)) y = hideL scope ρ y := fun y hy => by unfold Vars.set; rw [if_neg hy]
        cases b with
        | false =>
          obtain ⟨y, e1, e2, e3, e4⟩ := fin s₆ H3 x7
          exact ⟨n - (i + 1), by (clear hn hI ho hDn hC hCn hDC hD0 hC0 hID hIC hle hly; omega), i + 1, _, ys, H3, rfl, hlt, y.hp, e1, e2, y.loc.hL, hb, e4, ⟨vs, kk, e3, eys⟩, Nat.le_succ_of_le hly, y.loc.ns, hρ2⟩
        | true =>
          show wpAny _ _ _ _ _ _
          refine notedBy_no (wpAny_mono (Ev.run hb _ s₆ x7) (fun u s₇ hM => ?_) fun _ _ e => e)
          obtain ⟨H4, x8, h4⟩ := hM
          obtain ⟨y, e1, e2, e3, e4⟩ := fin s₇ H4 x8
          refine notedBy_no (wpAny_list_append_plain ⟨kk, e3⟩ (fun h' hl hs => ?_) (by rw [size_ab eys]; (clear hI ho hDn hC hCn hDC hD0 hC0 hID hIC hle; omega)))
          obtain ⟨k', el⟩ := hl
          have ext : ∀ b o, b ≠ D → s₇.heap.get? b = some o → h'.get? b = some o := fun b o hb e => (hs.2 b hb).trans e
          have offD0 : Off Fc Zc D := ⟨offI (.inr (.inl rfl)), hDC, (offcD ob).c⟩
          have y' : Inv G Fc Zc ((hideL scope ρ).set x (item i)) H4 { s₇ with heap := h' } := y.onlyAt offD0 e2 ⟨fun b o hb e => ext b o (by simpa using hb) e, rfl, rfl, Nat.le_refl _⟩
          exact ⟨n - (i + 1), by (clear hn hI ho hDn hC hCn hDC hD0 hC0 hID hIC hle hly; omega), i + 1, _, ys ++ [ab u], H4, rfl, hlt, y'.hp, e1, e2, y.loc.hL, h4, src.frame _ _ h' e4 (fun o => ext I o hID), ⟨_, k', el, by simp [eys]⟩, by simp; assumption, y'.loc.ns, hρ2⟩
      have hts := ht Fc okc i hlt ys H' hv
      match ifs, hts with
      | [], hts => exact notedBy_no (wpAny_tests_nil (tail true s₅ H' x6 hts))
      | [t], hts => exact notedBy_no (wpAny_tests_one (wpAny_mono (Tr.run hts _ s₅ x6) (fun b s₆ ⟨H3, x7, hb⟩ => tail b s₆ H3 x7 hb) fun _ _ e => e))
    · obtain rfl : i = n := by (clear hn hI ho hDn hC hCn hDC hD0 hC0 hID hIC hly; omega)
      refine notedBy_no (wpAny_mono (src.stop s' Zc H' hp (hnd _ _ _ hv) st) (fun r s₄ ⟨e, o⟩ => ?_) fun _ _ e => e)
      subst e
      have x4 : Inv G Fc Zc ρ' H' s₄ := xi.onlyAt offcI hi o
      have eD4 : s₄.heap.get? D = some { cls := .type "list", data := .seq vs kk } := o.1 D _ (by simpa using Ne.symm hID) eD
      have up : ∀ b o, b ≠ I → H1 b = none → s₂.heap.get? b = some o → s₄.heap.get? b = some o := fun b o hb e g => x4.hp.fz _ _ (hZc b o hb e g)
      have y : Inv G F Z ρ H' s₄ := by
        have zz : ∀ b o, Z b = some o → Zc b = some o := fun b o e => hZc b o (by rintro rfl; rw [off.z] at e; cases e) (x2.hp.sep b o e) (x2.hp.fz b o e)
        obtain ⟨m, ⟨o, es, ep, e, r⟩, hm2⟩ := x2.loc.ns
        have kL := hZc _ o (Ne.symm off.l) x2.loc.hL e
        refine ⟨⟨x2.hp.bz, fun b o e => x4.hp.fz _ _ (zz b o e), fun b o e => x4.hp.sep _ _ (zz b o e), x4.hp.trk, x4.hp.gens, x4.hp.os, x4.hp.ck⟩, ⟨⟨m, ⟨o, es, ep, x4.hp.fz _ _ kL, r⟩, hm2⟩, x4.hp.sep _ _ kL, x2.loc.zL, fun y c hc => ?_, x2.loc.cw⟩⟩
        obtain ⟨⟨ov, ⟨o, ho, hd⟩, q⟩, h1, h2⟩ := x2.loc.cell y c hc
        have kc := hZc c o (off.c y c hc) h1 ho
        exact ⟨⟨ov, ⟨o, x4.hp.fz _ _ kc, hd⟩, q⟩, x4.hp.sep _ _ kc, h2⟩
      have hyD : Inv G F Z ρ (H'.set D (.list ys)) s₄ := by
        refine ⟨y.hp.track offD.z ⟨vs, kk, eD4, eys⟩, ⟨y.loc.ns, ?_, y.loc.zL, fun z c hc => ?_, y.loc.cw⟩⟩
        · rw [HA.set_ne (Ne.symm offD.l)]; exact y.loc.hL
        · obtain ⟨h1, h2, h3⟩ := y.loc.cell z c hc
          exact ⟨h1, by rw [HA.set_ne (offD.c z c hc)]; exact h2, h3⟩
      obtain ⟨m, hn', _⟩ := x4.loc.ns
      exact he ys H' D C s₄ hv hd hyD offC (by rw [HA.set_ne (Ne.symm hDC)]; exact hc) ⟨m, hn'⟩
  exact codeAny_compStart_list (loop _ start) (src.self 0 _ _ _ start.sx (loop _ start))
structure CompP (G : Glb) (F : Fm) (sc : Scope) (d : Nat) (elt : Expr) (x : String) (ifs : List Expr) (scope : Scope) (ρ : Vars) (K : List V → HA → Prop) (xv : V) (H1 : HA) (n : Nat) (item : Nat → V) (Nd : HA → Prop) (Iv : Nat → List V → HA → Prop) : Prop where
  it : Iter G F.A xv H1 n item Nd
  sz : n ≤ sizeLine
  i0 : Iv 0 [] H1
  nd : ∀ i ys H, Iv i ys H → Nd H
  st : ∀ Fc, FOk G Fc (relabelS scope sc) d → ∀ i, i < n → ∀ ys H2, Iv i ys H2 → Ts G Fc ifs ((hideL scope ρ).set x (item i)) H2 fun b H3 =>
        if b then Ev G Fc elt ((hideL scope ρ).set x (item i)) H3 fun v H4 => Iv (i + 1) (ys ++ [v]) H4 else Iv (i + 1) ys H3
  ex : ∀ ys H2, Iv n ys H2 → K ys H2
noncomputable abbrev kComp (G : Glb) (F : Fm) (sc : Scope) (d : Nat) (elt : Expr) (x : String) (ifs : List Expr) (scope : Scope) (ρ : Vars) (K : List V → HA → Prop) : V → HA → Prop := fun xv H1 => ∃ n item Nd, ∃ Iv : Nat → List V → HA → Prop, CompP G F sc d elt x ifs scope ρ K xv H1 n item Nd Iv
noncomputable def Comp (G : Glb) (F : Fm) (sc : Scope) (d : Nat) (elt iter : Expr) (x : String) (ifs : List Expr) (scope : Scope) (ρ : Vars) (H : HA) (K : List V → HA → Prop) : Prop :=
  Ev G F iter ρ H (kComp G F sc d elt x ifs scope ρ K)
theorem Ev_ListComp {elt iter : Expr} {x : String} {px : Pos} {ifs : List Expr} {scope : Scope} {pos : Pos} {Q : V → HA → Prop} (ok : FOk G F sc d) (g : GOk G)
    (h : Comp G F sc d elt iter x ifs scope ρ H fun ys H2 => ∀ D, H2 D = none → Q (.ref D) (H2.set D (.list ys)))
    (co : CompOk scope sc := by decide +kernel) (hx : scope.names.lookup (Str.ofString x) = some .local := by decide +kernel) (hs : ∀ x, foldedSetIterable iter F.env x = pure x := by intro _; rfl) :
    Ev G F (.ListComp elt [⟨.Name (Str.ofString x) px, iter, ifs, 0⟩] scope pos) ρ H Q := .mk fun Z s X => by
  rw [eval_ListComp]
  refine comp_core (use := none) ok g co X (h.mono fun xv H1 ⟨n, item, Nd, Iv, a, b, c, e, f, k⟩ => ⟨n, item, Nd, Iv, a, b, c, e, f, fun ys H2 D C s' hv hD y off hC ⟨m, hn⟩ => ?_⟩) hx hs
  refine ⟨m, hn, fun h' hs' => ⟨_, y.onlyAt off hC ⟨fun b o hb e => (hs'.2 b (by simpa using hb)).trans e, rfl, rfl, Nat.le_refl _⟩, k ys H2 hv D hD⟩⟩
theorem Ex_AssignComp {elt iter : Expr} {x y : String} {px py : Pos} {ifs : List Expr} {scope : Scope} {pos spos : Pos} {Q : Fl → Vars → HA → Prop} (ok : FOk G F sc d) (g : GOk G)
    (h : Comp G F sc d elt iter x ifs scope ρ H fun ys H2 => ∀ D, H2 D = none → St G F y (.ref D) ρ (H2.set D (.list ys)) fun ρ3 H3 => Q .next ρ3 H3)
    (hsw : swapsWith (.ListComp elt [⟨.Name (Str.ofString x) px, iter, ifs, 0⟩] scope pos) (some (.Name (Str.ofString y) py)) spos.line F.env = pure true)
    (co : CompOk scope sc := by decide +kernel) (hx : scope.names.lookup (Str.ofString x) = some .local := by decide +kernel) (hs : ∀ x, foldedSetIterable iter F.env x = pure x := by intro _; rfl) :
    Ex G F (.Assign [.Name (Str.ofString y) py] (.ListComp elt [⟨.Name (Str.ofString x) px, iter, ifs, 0⟩] scope pos) spos) ρ H Q := .mk fun Z s X => by
  rw [exec_Assign_Name_used _ _ _ _ hsw]
  refine wpAny_bind (wpAny_standAt (wpAny_bind ?_))
  show wpAny _ F.A (do let _ ← comprehension (.ListComp elt [⟨.Name (Str.ofString x) px, iter, ifs, 0⟩] scope pos) scope F.env _ (newList []) false (eval iter F.env) (some (assign (.Name (Str.ofString y) py) F.env))) _ _ s
  refine wpAny_bind (wpAny_mono (comp_core (use := some (assign (.Name (Str.ofString y) py) F.env)) (Q' := fun _ s' => SQ G F Z Q .next s') ok g co X
    (h.mono fun xv H1 ⟨n, item, Nd, Iv, a, b, c, e, f, k⟩ => ⟨n, item, Nd, Iv, a, b, c, e, f, fun ys H2 D C s' hv hD yy off hC ⟨m, hn⟩ => ?_⟩) hx hs) (fun _ s' hq => wpAny_pure (wpAny_pure hq)) fun _ _ e => e)
  obtain ⟨ob, es, ep, eC, r⟩ := hn
  show wpAny _ F.A (assign (.Name (Str.ofString y) py) F.env (.ref D)) _ _ _
  refine wpAny_assign_Name (wpAny_mono ((k ys H2 hv D hD).run _ s' (.ref D) rfl (yy.freezeAt off hC eC)) (fun _ s'' hM => ?_) fun _ _ e => e)
  obtain ⟨ρ3, H3, y3, q⟩ := hM
  obtain ⟨y4, e1, e2⟩ := y3.unfreezeAt off X.hp.bz
  exact ⟨m, ⟨ob, es, ep, e2, r⟩, fun h' hs' => ⟨ρ3, H3, y4.onlyAt off e1 ⟨fun b o hb e => (hs'.2 b (by simpa using hb)).trans e, rfl, rfl, Nat.le_refl _⟩, q⟩⟩
end
end Mine
namespace Mine
variable [HasP]
section
variable {G : Glb} {F : Fm} {ρ : Vars} {H : HA} {sc : Scope} {d : Nat} {Z : Addr → Option Obj} {s s' : Shared}
theorem Inv.toks (x : Inv G F Z ρ H s) (t : Nat) (ht : s.toks ≤ t := by first | exact Nat.le_refl _ | exact Nat.le_succ _ | assumption | omega) : Inv G F Z ρ H { s with toks := t } := ⟨x.hp.toks t ht, x.loc⟩
theorem VQ_new (X : Inv G F Z ρ H s) {x : Str} {Q : V → HA → Prop} {H' : HA} (h : Q (.str x) H') : VQ Q (.str x s.toks) H' := by show Q (ab _) H'; rw [ab_new X.hp.ck]; exact h
theorem Inv.track (x : Inv G F Z ρ H s) {a : Addr} {o : O} (off : Off F Z a) (ho : OR s.heap a o) : Inv G F Z ρ (H.set a o) s := by
  refine ⟨x.hp.track off.z ho, ⟨x.loc.ns, ?_, x.loc.zL, fun z c hc => ?_, x.loc.cw⟩⟩
  · rw [HA.set_ne (Ne.symm off.l)]; exact x.loc.hL
  · obtain ⟨h1, h2, h3⟩ := x.loc.cell z c hc
    exact ⟨h1, by rw [HA.set_ne (off.c z c hc)]; exact h2, h3⟩
theorem Inv.led2 (ok : FOk G F sc d) (x : Inv G F Z ρ H s) : ∃ m news, Fr G.B F.env.locals s.heap m ∧ News G.B F.env.locals s.heap news ∧
    (∀ b o, b ≠ F.env.locals → G.B.get? b = none → s.heap.get? b = some o → (b, o) ∈ news) ∧
    ∀ h' tk news', s.toks ≤ tk → Fr G.B F.env.locals h' m → News G.B F.env.locals h' news' → (∀ p ∈ news, p ∈ news') → Inv G F Z ρ H { s with heap := h', toks := tk } ∧ ∀ b o, b ≠ F.env.locals → s.heap.get? b = some o → h'.get? b = some o := by
  obtain ⟨m, hn, hm⟩ := x.loc.ns
  let news : List (Addr × Obj) := (List.range s.heap.objs.size).filterMap fun b => if b = F.env.locals then none else match G.B.get? b, s.heap.get? b with
    | none, some o => some (b, o)
    | _, _ => none
  have mem : ∀ b o, b ≠ F.env.locals → G.B.get? b = none → s.heap.get? b = some o → (b, o) ∈ news := fun b o hb hB e => by
    refine List.mem_filterMap.mpr ⟨b, List.mem_range.mpr (Heap.lt_size e), ?_⟩
    rw [if_neg hb, hB, e]
  refine ⟨m, news, ⟨hn, x.hp.base, ok.low⟩, fun p hp => ?_, mem, fun h' tk news' htk F' N' hs => ?_⟩
  · obtain ⟨b, _, e⟩ := List.mem_filterMap.mp hp
    by_cases hb : b = F.env.locals
    · rw [if_pos hb] at e; cases e
    · rw [if_neg hb] at e
      cases q : G.B.get? b with
      | some o => rw [q] at e; cases e
      | none =>
        cases q' : s.heap.get? b with
        | none => rw [q, q'] at e; cases e
        | some o => rw [q, q'] at e; cases e; exact ⟨q', hb, q⟩
  · have ext : ∀ b o, b ≠ F.env.locals → s.heap.get? b = some o → h'.get? b = some o := fun b o hb e => by
      cases q : G.B.get? b with
      | some o' =>
        have := x.hp.base _ _ q
        rw [e] at this; cases this
        exact F'.keep _ _ q
      | none => exact (N' _ (hs _ (mem b o hb q e))).1
    refine ⟨⟨⟨x.hp.bz, fun b o e => ext b o (by rintro rfl; rw [x.loc.zL] at e; cases e) (x.hp.fz b o e), x.hp.sep, fun a o e => (x.hp.trk a o e).at fun q => ext a q (by rintro rfl; rw [x.loc.hL] at e; cases e), x.hp.gens, x.hp.os, Nat.le_trans x.hp.ck htk⟩,
      ⟨⟨m, F'.ns, hm⟩, x.loc.hL, x.loc.zL, fun y c hc => ?_, x.loc.cw⟩⟩, ext⟩
    obtain ⟨⟨ov, ⟨o, e, d⟩, q⟩, h1, h2⟩ := x.loc.cell y c hc
    exact ⟨⟨ov, ⟨o, ext c o h2 e, d⟩, q⟩, h1, h2⟩
theorem Inv.led (ok : FOk G F sc d) (x : Inv G F Z ρ H s) : ∃ m news, Fr G.B F.env.locals s.heap m ∧ News G.B F.env.locals s.heap news ∧
    ∀ h' tk news', s.toks ≤ tk → Fr G.B F.env.locals h' m → News G.B F.env.locals h' news' → (∀ p ∈ news, p ∈ news') → Inv G F Z ρ H { s with heap := h', toks := tk } ∧ ∀ b o, b ≠ F.env.locals → s.heap.get? b = some o → h'.get? b = some o := by
  obtain ⟨m, news, a, b, c, e⟩ := x.led2 ok
  exact ⟨m, news, a, b, e⟩
theorem args1 {cs : List Value} {a : V} (h : cs.map ab = [a]) : ∃ x, cs = [x] ∧ ab x = a := by
  cases cs with
  | nil => cases h
  | cons x r => cases r with
    | nil => simp only [List.map_cons, List.map_nil, List.cons.injEq, and_true] at h; exact ⟨x, rfl, h⟩
    | cons y r => simp at h
theorem args2 {cs : List Value} {a b : V} (h : cs.map ab = [a, b]) : ∃ x y, cs = [x, y] ∧ ab x = a ∧ ab y = b := by
  cases cs with
  | nil => cases h
  | cons x r =>
    simp only [List.map_cons, List.cons.injEq] at h
    obtain ⟨y, rfl, e⟩ := args1 h.2
    exact ⟨x, y, rfl, h.1, e⟩
theorem args3 {cs : List Value} {a b c : V} (h : cs.map ab = [a, b, c]) : ∃ x y z, cs = [x, y, z] ∧ ab x = a ∧ ab y = b ∧ ab z = c := by
  cases cs with
  | nil => cases h
  | cons x r =>
    simp only [List.map_cons, List.cons.injEq] at h
    obtain ⟨y, z, rfl, e⟩ := args2 h.2
    exact ⟨x, y, z, rfl, h.1, e⟩
theorem Bin_add {a b : Int} {Q : V → HA → Prop} (h : Q (.int (a + b)) H) : Bin G F .Add (.int a) (.int b) H Q := fun x y hx hy => .mk fun Z ρ s X => by
  obtain ⟨t, rfl⟩ := ab_int hx; obtain ⟨u, rfl⟩ := ab_int hy
  (with_reducible refine add_int ?_); exact ⟨H, X.toks _, h⟩
theorem Bin_sub {a b : Int} {Q : V → HA → Prop} (h : Q (.int (a - b)) H) : Bin G F .Sub (.int a) (.int b) H Q := fun x y hx hy => .mk fun Z ρ s X => by
  obtain ⟨t, rfl⟩ := ab_int hx; obtain ⟨u, rfl⟩ := ab_int hy
  (with_reducible refine sub_int ?_); exact ⟨H, X.toks _, h⟩
theorem Bin_mul {a b : Int} {Q : V → HA → Prop} (hm : IntMulOk a b) (h : Q (.int (a * b)) H) : Bin G F .Mult (.int a) (.int b) H Q := fun x y hx hy => .mk fun Z ρ s X => by
  obtain ⟨t, rfl⟩ := ab_int hx; obtain ⟨u, rfl⟩ := ab_int hy
  (with_reducible refine mul_int ?_ hm); exact ⟨H, X.toks _, h⟩
theorem Bin_floordiv {a b : Int} {Q : V → HA → Prop} (hb : b ≠ 0) (hd : Builtin.divisionGoesByPylong a b = false) (h : Q (.int (a.fdiv b)) H) : Bin G F .FloorDiv (.int a) (.int b) H Q := fun x y hx hy => .mk fun Z ρ s X => by
  obtain ⟨t, rfl⟩ := ab_int hx; obtain ⟨u, rfl⟩ := ab_int hy
  (with_reducible refine floordiv_int hb ?_ (.inl hd)); exact ⟨H, X.toks _, h⟩
theorem Bin_mod {a b : Int} {Q : V → HA → Prop} (hb : b ≠ 0) (h : Q (.int (a.fmod b)) H) : Bin G F .Mod (.int a) (.int b) H Q := fun x y hx hy => .mk fun Z ρ s X => by
  obtain ⟨t, rfl⟩ := ab_int hx; obtain ⟨u, rfl⟩ := ab_int hy
  (with_reducible refine mod_int' hb ?_); exact ⟨H, X.toks _, h⟩
theorem Bin_pow {a b : Int} {Q : V → HA → Prop} (hb : 0 ≤ b) (hd : (Builtin.Int.intBits a : Int) * b ≤ 2 ^ 27) (h : Q (.int (a ^ b.toNat)) H) : Bin G F .Pow (.int a) (.int b) H Q := fun x y hx hy => .mk fun Z ρ s X => by
  obtain ⟨t, rfl⟩ := ab_int hx; obtain ⟨u, rfl⟩ := ab_int hy
  (with_reducible refine pow_int hb hd ?_); exact ⟨H, X.toks _, h⟩
theorem Bin_shl {a b : Int} {Q : V → HA → Prop} (h0 : 0 ≤ b) (h1 : b ≤ 1000000) (h2 : a.natAbs < 2 ^ 64) (h : Q (.int (a * 2 ^ b.toNat)) H) : Bin G F .LShift (.int a) (.int b) H Q := fun x y hx hy => .mk fun Z ρ s X => by
  obtain ⟨t, rfl⟩ := ab_int hx; obtain ⟨u, rfl⟩ := ab_int hy
  (with_reducible refine lshift_int_small h0 h1 h2 ?_); exact ⟨H, X.toks _, h⟩
theorem Bin_and {a b : Int} {Q : V → HA → Prop} (h : Q (.int (Builtin.bitAnd a b)) H) : Bin G F .BitAnd (.int a) (.int b) H Q := fun x y hx hy => .mk fun Z ρ s X => by
  obtain ⟨t, rfl⟩ := ab_int hx; obtain ⟨u, rfl⟩ := ab_int hy
  (with_reducible refine and_int ?_); exact ⟨H, X.toks _, h⟩
theorem Bin_or {a b : Int} {Q : V → HA → Prop} (h : Q (.int (Builtin.bitOr a b)) H) : Bin G F .BitOr (.int a) (.int b) H Q := fun x y hx hy => .mk fun Z ρ s X => by
  obtain ⟨t, rfl⟩ := ab_int hx; obtain ⟨u, rfl⟩ := ab_int hy
  (with_reducible refine or_int ?_); exact ⟨H, X.toks _, h⟩
theorem Bin_xor {a b : Int} {Q : V → HA → Prop} (h : Q (.int (Builtin.bitXor a b)) H) : Bin G F .BitXor (.int a) (.int b) H Q := fun x y hx hy => .mk fun Z ρ s X => by
  obtain ⟨t, rfl⟩ := ab_int hx; obtain ⟨u, rfl⟩ := ab_int hy
  (with_reducible refine xor_int ?_); exact ⟨H, X.toks _, h⟩
theorem Bin_addS {a b : Str} {Q : V → HA → Prop} (hP : ∀ t, HasP.K t = 0) (hz : a.length + b.length ≤ sizeLine) (h : Q (.str (a ++ b)) H) : Bin G F .Add (.str a) (.str b) H Q := fun x y hx hy => .mk fun Z ρ s X => by
  obtain ⟨t, rfl⟩ := ab_str hx; obtain ⟨u, rfl⟩ := ab_str hy
  refine wpAny_of ?_; (with_reducible refine add_str ?_ hz); exact fun t' tk hle => ⟨H, X.toks _ hle, by show Q (ab (.str _ t')) H; simpa [ab, hP] using h⟩
theorem Bin_mulS {a : Str} {n : Int} {Q : V → HA → Prop} (hP : ∀ t, HasP.K t = 0) (hz : MulOk a n) (h : Q (.str (Txt.mul a n)) H) : Bin G F .Mult (.str a) (.int n) H Q := fun x y hx hy => .mk fun Z ρ s X => by
  obtain ⟨t, rfl⟩ := ab_str hx; obtain ⟨u, rfl⟩ := ab_int hy
  refine wpAny_of ?_; (with_reducible refine SB.mul hz ?_); exact fun t' tk hle => ⟨H, X.toks _ hle, by show Q (ab (.str _ t')) H; simpa [ab, hP] using h⟩
theorem OR.isList {h : Heap} {a : Addr} {xs : List V} (x : OR h a (.list xs)) : ∃ vs, h.IsList a vs ∧ vs.toList.map ab = xs := let ⟨vs, n, e, q⟩ := x; ⟨vs, ⟨_, e, rfl, n, rfl⟩, q⟩
theorem Bin_addL (ok : FOk G F sc d) {a b : Addr} {xs ys : List V} {Q : V → HA → Prop} (ha : H a = some (.list xs)) (hb : H b = some (.list ys)) (hz : xs.length + ys.length ≤ sizeLine)
    (h : ∀ c, H c = none → Q (.ref c) (H.set c (.list (xs ++ ys)))) : Bin G F .Add (.ref a) (.ref b) H Q := fun x y hx hy => .mk fun Z ρ s X => by
  obtain rfl := ab_ref hx; obtain rfl := ab_ref hy
  obtain ⟨va, la, qa⟩ := (X.hp.trk _ _ ha).isList
  obtain ⟨vb, lb, qb⟩ := (X.hp.trk _ _ hb).isList
  obtain ⟨m, news, f, n, back⟩ := X.led ok
  refine add_arrays f n la lb (fun h' f' n' => ?_) (by rw [size_ab qa, size_ab qb]; exact hz)
  obtain ⟨y, ext⟩ := back h' s.toks _ (Nat.le_refl _) f' n' fun p hp => List.mem_cons_of_mem _ hp
  have off := X.off (Nat.le_refl s.heap.objs.size)
  exact ⟨_, y.track (o := .list (xs ++ ys)) off ⟨_, 0, (n' _ List.mem_cons_self).1, by simp [qa, qb]⟩, h _ (X.hp.fresh (Nat.le_refl _))⟩
theorem Cmp_int {a b : Int} {op : CmpOp} {r : Bool} {Q : V → HA → Prop} (hr : (match op with | .Eq => some (a == b) | .NotEq => some (a != b) | .Lt => some (decide (a < b)) | .LtE => some (decide (a ≤ b)) | .Gt => some (decide (b < a)) | .GtE => some (decide (b ≤ a)) | _ => none) = some r)
    (h : Q (.bool r) H) : Cmp G F op (.int a) (.int b) H Q := fun x y hx hy => .mk fun Z ρ s X => by
  obtain ⟨t, rfl⟩ := ab_int hx; obtain ⟨u, rfl⟩ := ab_int hy
  cases op <;> simp only [Option.some.injEq, reduceCtorEq] at hr <;> subst hr
  · (with_reducible refine eq_int ?_); exact ⟨H, X, h⟩
  · (with_reducible refine ne_int ?_); exact ⟨H, X, h⟩
  · (with_reducible refine lt_int ?_); exact ⟨H, X, h⟩
  · (with_reducible refine le_int ?_); exact ⟨H, X, h⟩
  · (with_reducible refine gt_int ?_); exact ⟨H, X, h⟩
  · (with_reducible refine ge_int ?_); exact ⟨H, X, h⟩
theorem Cmp_eqS {a b : Str} {Q : V → HA → Prop} (h : Q (.bool (a == b)) H) : Cmp G F .Eq (.str a) (.str b) H Q := fun x y hx hy => .mk fun Z ρ s X => by
  obtain ⟨t, rfl⟩ := ab_str hx; obtain ⟨u, rfl⟩ := ab_str hy
  (with_reducible refine eq_str ?_); exact ⟨H, X, h⟩
theorem Cmp_neS {a b : Str} {Q : V → HA → Prop} (h : Q (.bool (a != b)) H) : Cmp G F .NotEq (.str a) (.str b) H Q := fun x y hx hy => .mk fun Z ρ s X => by
  obtain ⟨t, rfl⟩ := ab_str hx; obtain ⟨u, rfl⟩ := ab_str hy
  (with_reducible refine ne_str ?_); exact ⟨H, X, h⟩
noncomputable def isN : V → Bool
  | .none => true
  | _ => false
theorem isN_ab (x : Value) : (x == Value.none) = isN (ab x) := by
  cases x <;> first | rfl | (simp only [ab]; split <;> rfl)
theorem Cmp_isNotNone {a : V} {Q : V → HA → Prop} (h : Q (.bool (!isN a)) H) : Cmp G F .IsNot a .none H Q := fun x y hx hy => .mk fun Z ρ s X => by
  obtain rfl := ab_none hy
  subst hx
  refine isNot_none ⟨H, X, ?_⟩
  rw [isN_ab]; exact h
theorem Cmp_isBool {a b : Bool} {Q : V → HA → Prop} (h : Q (.bool (a == b)) H) : Cmp G F .Is (.bool a) (.bool b) H Q := fun x y hx hy => .mk fun Z ρ s X => by
  obtain rfl := ab_bool hx; obtain rfl := ab_bool hy
  refine wpAny_is_plain (by cases a <;> cases b <;> rfl) ⟨H, X, ?_⟩
  cases a <;> cases b <;> exact h
theorem Cmp_isNotBool {a b : Bool} {Q : V → HA → Prop} (h : Q (.bool (!(a == b))) H) : Cmp G F .IsNot (.bool a) (.bool b) H Q := fun x y hx hy => .mk fun Z ρ s X => by
  obtain rfl := ab_bool hx; obtain rfl := ab_bool hy
  refine wpAny_isNot_plain (by cases a <;> cases b <;> rfl) ⟨H, X, ?_⟩
  cases a <;> cases b <;> exact h
theorem Tru_bool {b : Bool} {Q : Bool → HA → Prop} (h : Q b H) : Tru G F (.bool b) H Q := fun x hx => .mk fun Z ρ s X => by
  obtain rfl := ab_bool hx; exact wpAny_truthy_bool ⟨H, X, h⟩
theorem Tru_int {a : Int} {Q : Bool → HA → Prop} (h : Q (a != 0) H) : Tru G F (.int a) H Q := fun x hx => .mk fun Z ρ s X => by
  obtain ⟨t, rfl⟩ := ab_int hx; (with_reducible refine truthy_int ?_); exact ⟨H, X, h⟩
theorem Un_neg {a : Int} {Q : V → HA → Prop} (h : Q (.int (-a)) H) : Un G F .USub (.int a) H Q := fun x hx => .mk fun Z ρ s X => by
  obtain ⟨t, rfl⟩ := ab_int hx; exact neg_int ⟨H, X.toks _, h⟩
theorem GetI_list {l : Addr} {xs : List V} {k : Int} {v : V} {Q : V → HA → Prop} (hl : H l = some (.list xs)) (h0 : 0 ≤ k) (h1 : k < 2 ^ 63) (hx : xs[k.toNat]? = some v) (h : Q v H) : GetI G F (.ref l) (.int k) H Q := fun x y ex ey => .mk fun Z ρ s X => by
  obtain rfl := ab_ref ex; obtain ⟨u, rfl⟩ := ab_int ey
  obtain ⟨vs, lv, q⟩ := (X.hp.trk _ _ hl).isList
  have e := getElem?_ab q k.toNat
  rw [hx] at e
  cases e' : vs[k.toNat]? with
  | none => rw [e'] at e; cases e
  | some z => rw [e'] at e; cases e; exact wpAny_getItem_list lv h0 h1 e' ⟨H, X, h⟩
theorem GetI_listNeg {l : Addr} {xs : List V} {k : Int} {v : V} {Q : V → HA → Prop} (hl : H l = some (.list xs)) (h0 : k < 0) (h1 : -(xs.length : Int) ≤ k) (h2 : -2 ^ 63 ≤ k) (hx : xs[(k + xs.length).toNat]? = some v) (h : Q v H) : GetI G F (.ref l) (.int k) H Q := fun x y ex ey => .mk fun Z ρ s X => by
  obtain rfl := ab_ref ex; obtain ⟨u, rfl⟩ := ab_int ey
  obtain ⟨vs, lv, q⟩ := (X.hp.trk _ _ hl).isList
  have e := getElem?_ab q (k + xs.length).toNat
  rw [hx] at e
  cases e' : vs[(k + xs.length).toNat]? with
  | none => rw [e'] at e; cases e
  | some z => rw [e'] at e; cases e; exact wpAny_getItem_list_neg lv h0 (by rw [size_ab q]; exact h1) h2 (by rw [size_ab q]; exact e') ⟨H, X, h⟩
theorem GetI_tup {l : Addr} {xs : List V} {k : Int} {v : V} {Q : V → HA → Prop} (hl : H l = some (.tup xs)) (h0 : 0 ≤ k) (h1 : k < 2 ^ 63) (hx : xs[k.toNat]? = some v) (h : Q v H) : GetI G F (.ref l) (.int k) H Q := fun x y ex ey => .mk fun Z ρ s X => by
  obtain rfl := ab_ref ex; obtain ⟨u, rfl⟩ := ab_int ey
  obtain ⟨vs, n, lv, q⟩ := X.hp.trk _ _ hl
  have e := getElem?_ab q k.toNat
  rw [hx] at e
  have hlt : k.toNat < vs.size := by rw [size_ab q]; exact (List.getElem?_eq_some_iff.mp hx).1
  cases e' : vs[k.toNat]? with
  | none => rw [e'] at e; cases e
  | some z =>
    rw [e'] at e; cases e
    refine getItem_tuple ⟨_, lv, rfl, n, rfl⟩ (by omega) h1 (j := k.toNat) ?_ e' ⟨H, X, h⟩
    unfold seqIndex?
    have hk : ¬ k < 0 := by omega
    have hk2 : k < vs.size := by omega
    simp [hk, h0, hk2]
theorem mapSeq_set (items : Array Value) (n j : Nat) (v : Value) : Obj.mapSeq (·.setIfInBounds j v) { cls := .type "list", data := .seq items n } = { cls := .type "list", data := .seq (items.setIfInBounds j v) n } := by
  unfold Obj.mapSeq; simp
theorem setItem_plain {prog : Program} {w : World} {A : Around} {E : Value → Shared → Prop} {l : Addr} {items : Array Value} {n : Nat} {k : Int} {t : Tok} {v : Value} {Q : Unit → Shared → Prop} (hl : s.heap.get? l = some { cls := .type "list", data := .seq items n })
    (h0 : 0 ≤ k) (hfit : k < 2 ^ 63) (hn : k < items.size)
    (hQ : ∀ h', h'.get? l = some { cls := .type "list", data := .seq (items.setIfInBounds k.toNat v) n } → Heap.SameBut l s.heap h' → Q () { s with heap := h' }) :
    wpAny (model prog w) A (setItem (.ref l) (.int k t) v) Q E s := by
  have hT : s.TypeIs (.ref l) "list" := ⟨_, hl, rfl⟩
  unfold setItem
  try with_reducible refine wpAny_holding ?_
  first | refine wpAny_bind (wpAny_pure ?_) | skip
  refine wpAny_bind (wpAny_sequenceKey hT (by decide) ?_)
  refine wpAny_bind (wpAny_callSpecial?_slot (name := Str.ofString "__setitem__") hT slot_list_setitem (wpAny_call_entry slot_list_setitem hT entry_list_setitem ?_ (args_list_setitem _ _ _)))
  show wpAny _ _ (Builtin.List.listSubscript? (.int k t) >>= _) _ _ s
  refine wpAny_bind (wpAny_listSubscript_int (fitsIndex_of h0 hfit) ?_)
  clear hfit
  obtain ⟨j, rfl⟩ := Int.eq_ofNat_of_zero_le h0
  have hj : j < items.size := by exact Int.ofNat_lt.mp hn
  show wpAny _ _ ((seqItemAt l j >>= fun r => pure (r.map (j, ·))) >>= _) _ _ s
  refine wpAny_bind (wpAny_bind (wpAny_seqItemAt hl rfl (wpAny_pure ?_)))
  rw [Array.getElem?_eq_getElem hj]
  show wpAny _ _ (setSeqItemAt l j v >>= _) _ _ s
  have hfin : (s.heap.update l (Obj.mapSeq (·.setIfInBounds j v))).get? l = some { cls := .type "list", data := .seq (items.setIfInBounds j v) n } := by
    rw [Heap.get?_update_self _ hl (by rw [mapSeq_set]; rfl), mapSeq_set]
  refine wpAny_bind (wpAny_setSeqItemAt hl rfl ?_)
  first
    | exact wpAny_bind (wpAny_pure (wpAny_pure ⟨.none, rfl, wpAny_pure (hQ _ hfin (Heap.SameBut.update ..))⟩))
    | exact wpAny_pure ⟨.none, rfl, wpAny_pure (hQ _ hfin (Heap.SameBut.update ..))⟩
theorem SetI_list {l : Addr} {xs : List V} {k : Int} {v : V} {Q : HA → Prop} (hl : H l = some (.list xs)) (h0 : 0 ≤ k) (h1 : k < 2 ^ 63) (h2 : k < xs.length) (h : Q (H.set l (.list (xs.set k.toNat v)))) : SetI G F (.ref l) (.int k) v H Q := fun x y z ex ey ez => by
  obtain rfl := ab_ref ex; obtain ⟨u, rfl⟩ := ab_int ey
  refine FT.of fun Z s X => ?_
  obtain ⟨vs, n, e, q⟩ := X.trk _ _ hl
  refine setItem_plain e h0 h1 (by rw [size_ab q]; exact h2) fun h' hp hs => ⟨_, X.mut hl (fun b ob hb e => (hs.2 b hb).trans e) (o := .list (xs.set k.toNat v)) ⟨_, n, hp, ?_⟩ rfl rfl, h⟩
  subst q ez
  simp [List.map_set]
theorem Cal_append {l : Addr} {xs : List V} {v : V} {Q : V → HA → Prop} (hl : H l = some (.list xs)) (hz : xs.length ≤ sizeLine) (h : Q .none (H.set l (.list (xs ++ [v])))) : Cal G F (.builtin "list.append") [.ref l, v] H Q := fun cs hcs => by
  obtain ⟨c1, c2, rfl, e1, e2⟩ := args2 hcs
  obtain rfl := ab_ref e1
  refine FT.of fun Z s X => ?_
  obtain ⟨vs, n, e, q⟩ := X.trk _ _ hl
  refine wpAny_list_append_plain ⟨n, e⟩ (fun h' hp hs => ⟨_, X.mut hl (fun b ob hb e => (hs.2 b hb).trans e) (o := .list (xs ++ [v])) ?_ rfl rfl, h⟩) (by rw [size_ab q]; exact hz)
  obtain ⟨n', e'⟩ := hp
  exact ⟨_, n', e', by simp [q, e2]⟩
end
end Mine
namespace Mine
variable [HasP]
section
variable {G : Glb} {F : Fm} {ρ : Vars} {H : HA} {sc : Scope} {d : Nat} {Z : Addr → Option Obj} {s s' : Shared}
theorem IBin_or {a b : Int} {Q : V → HA → Prop} (h : Q (.int (Builtin.bitOr a b)) H) : IBin G F .BitOr (.int a) (.int b) H Q := fun x y hx hy => .mk fun Z ρ s X => by
  obtain ⟨t, rfl⟩ := ab_int hx; obtain ⟨u, rfl⟩ := ab_int hy
  (with_reducible refine ior_int ?_); exact ⟨H, X.toks _, h⟩
theorem IBin_xor {a b : Int} {Q : V → HA → Prop} (h : Q (.int (Builtin.bitXor a b)) H) : IBin G F .BitXor (.int a) (.int b) H Q := fun x y hx hy => .mk fun Z ρ s X => by
  obtain ⟨t, rfl⟩ := ab_int hx; obtain ⟨u, rfl⟩ := ab_int hy
  (with_reducible refine ixor_int ?_); exact ⟨H, X.toks _, h⟩
theorem GetI_str {x : Str} {k : Int} {c : Nat} {Q : V → HA → Prop} (hr : (decide (k < -(2 ^ 63 : Int)) || decide (k ≥ 2 ^ 63)) = false) (hc : (seqIndex? k x.length).bind (x.cps[·]?) = some c) (h : Q (.str ⟨#[c]⟩) H) : GetI G F (.str x) (.int k) H Q := fun x y ex ey => .mk fun Z ρ s X => by
  obtain ⟨t, rfl⟩ := ab_str ex; obtain ⟨u, rfl⟩ := ab_int ey
  (with_reducible refine P.getItem_str hr hc ?_); exact ⟨H, X.toks _, VQ_new X h⟩
inductive Pt : V → Option Int → Prop
  | no : Pt .none none
  | at (i : Int) : Pt (.int i) (some i)
theorem Pt.ofS {v : V} {p : Option Int} (h : Pt v p) {x : Value} (e : ab x = v) : ∃ q, x = partValue q ∧ q.map (·.1) = p := by
  cases h with
  | no => exact ⟨none, ab_none e, rfl⟩
  | «at» i => obtain ⟨t, rfl⟩ := ab_int e; exact ⟨some (i, t), rfl, rfl⟩
theorem Pt.ofL {v : V} {p : Option Int} (h : Pt v p) {x : Value} (e : ab x = v) : IsPart x p := by
  cases h with
  | no => rw [ab_none e]; constructor
  | «at» i => obtain ⟨t, rfl⟩ := ab_int e; constructor
theorem GetI_strSlice {x : Str} {a : Addr} {l u : V} {lo hi : Option Int} {Q : V → HA → Prop} (hs : H a = some (.slice l u .none)) (hl : Pt l lo) (hu : Pt u hi) (hz : x.length ≤ sizeLine) (h : Q (.str (Txt.slice x lo hi)) H) : GetI G F (.str x) (.ref a) H Q := fun xx y ex ey => .mk fun Z ρ s X => by
  obtain ⟨t, rfl, hpt⟩ := ab_str2 ex; obtain rfl := ab_ref ey
  obtain ⟨p, q, r, e, e1, e2, e3⟩ := X.hp.trk _ _ hs
  obtain ⟨p', rfl, rfl⟩ := hl.ofS e1
  obtain ⟨q', rfl, rfl⟩ := hu.ofS e2
  obtain rfl := ab_none e3
  refine wpAny_getItem_str_slice (st := none) ⟨_, e, rfl, rfl⟩ rfl ?_
  unfold sliceMade slicePicked
  unfold Txt.slice at h
  simp only [Option.map_none, Option.getD_none] at *
  split
  · rename_i hh; rw [if_pos hh] at h; exact ⟨H, X, by show Q (ab (.str x t)) H; simp only [ab, hpt]; exact h⟩
  · rename_i hh; rw [if_neg hh] at h
    refine ⟨?_, H, X.toks _, VQ_new X h⟩
    have h1 := sliceIndices_le (p'.map (·.1)) (q'.map (·.1)) x.length
    have h2 := List.length_filterMap_le (fun i => x.cps[i]?) (Builtin.Str.strSliceIndices (p'.map (·.1)) (q'.map (·.1)) 1 x.length)
    show (List.filterMap _ _).toArray.size ≤ sizeLine
    rw [List.size_toArray]
    exact Nat.le_trans h2 (Nat.le_trans h1 hz)
theorem Cal_ord {c : Nat} {Q : V → HA → Prop} (h : Q (.int c) H) : Cal G F (.builtin "ord") [.str ⟨#[c]⟩] H Q := fun cs hcs => .mk fun Z ρ s X => by
  obtain ⟨x, rfl, e⟩ := args1 hcs
  obtain ⟨t, rfl⟩ := ab_str e
  (with_reducible refine ord_of_one rfl ?_); exact ⟨H, X.toks _, h⟩
theorem Cal_chr {c : Int} {Q : V → HA → Prop} (h0 : 0 ≤ c) (h1 : c ≤ 1114111) (h : Q (.str ⟨#[c.toNat]⟩) H) : Cal G F (.builtin "chr") [.int c] H Q := fun cs hcs => .mk fun Z ρ s X => by
  obtain ⟨x, rfl, e⟩ := args1 hcs
  obtain ⟨t, rfl⟩ := ab_int e
  (with_reducible refine chr_of_range h0 h1 ?_); exact ⟨H, X.toks _, VQ_new X h⟩
theorem Cal_abs {c : Int} {Q : V → HA → Prop} (h : Q (.int (if c < 0 then -c else c)) H) : Cal G F (.builtin "abs") [.int c] H Q := fun cs hcs => .mk fun Z ρ s X => by
  obtain ⟨x, rfl, e⟩ := args1 hcs
  obtain ⟨t, rfl⟩ := ab_int e
  refine wpAny_of ?_; (with_reducible refine call_abs_int ?_); exact fun _ _ hle => ⟨H, X.toks _ hle, h⟩
theorem Cal_hex {c : Int} {Q : V → HA → Prop} (hz : (baseText "0x" 16 c).length ≤ sizeLine) (h : Q (.str (baseText "0x" 16 c)) H) : Cal G F (.builtin "hex") [.int c] H Q := fun cs hcs => .mk fun Z ρ s X => by
  obtain ⟨x, rfl, e⟩ := args1 hcs
  obtain ⟨t, rfl⟩ := ab_int e
  (with_reducible refine P.hex_of_int ?_ hz); exact ⟨H, X.toks _, VQ_new X h⟩
theorem Cal_isint {c : Int} {Q : V → HA → Prop} (h : Q (.bool true) H) : Cal G F (.builtin "isinstance") [.int c, .ty "int"] H Q := fun cs hcs => .mk fun Z ρ s X => by
  obtain ⟨x, y, rfl, e, e2⟩ := args2 hcs
  obtain ⟨t, rfl⟩ := ab_int e
  obtain rfl := ab_ty e2
  exact IsiPair.int_int ⟨H, X, h⟩
theorem Cal_lower {x : Str} {Q : V → HA → Prop} (hz : x.length ≤ 5592405) (h : Q (.str (Txt.lower x)) H) : Cal G F (.builtin "str.lower") [.str x] H Q := fun cs hcs => .mk fun Z ρ s X => by
  obtain ⟨x, rfl, e⟩ := args1 hcs
  obtain ⟨t, rfl⟩ := ab_str e
  refine SCL.lower hz fun _ => ⟨H, X.toks _, VQ_new X h⟩
theorem Cal_len {l : Addr} {xs : List V} {Q : V → HA → Prop} (hl : H l = some (.list xs)) (hz : (xs.length : Int) < 2 ^ 63) (h : Q (.int xs.length) H) : Cal G F (.builtin "len") [.ref l] H Q := fun cs hcs => .mk fun Z ρ s X => by
  obtain ⟨x, rfl, e⟩ := args1 hcs
  obtain rfl := ab_ref e
  obtain ⟨vs, lv, q⟩ := (X.hp.trk _ _ hl).isList
  have hs := size_ab q
  refine len_list lv (by rw [hs]; exact hz) ?_
  rw [hs]
  exact ⟨H, X.toks _, h⟩
theorem ints_ab : ∀ {vs : List Value} {ns : List Int}, vs.map ab = ns.map V.int → IntsAre vs ns
  | [], [], _ => .nil
  | v :: vs, n :: ns, h => by
    simp only [List.map_cons, List.cons.injEq] at h
    obtain ⟨t, rfl⟩ := ab_int h.1
    exact .cons _ _ (ints_ab h.2)
  | [], n :: ns, h => by simp at h
  | v :: vs, [], h => by simp at h
theorem Cal_sum (ok : FOk G F sc d) {l : Addr} {ns : List Int} {Q : V → HA → Prop} (hl : H l = some (.list (ns.map V.int))) (h : Q (.int ns.sum) H) : Cal G F (.builtin "sum") [.ref l] H Q := fun cs hcs => .mk fun Z ρ s X => by
  obtain ⟨x, rfl, e⟩ := args1 hcs
  obtain rfl := ab_ref e
  obtain ⟨vs, lv, q⟩ := (X.hp.trk _ _ hl).isList
  obtain ⟨m, news, f, n, back⟩ := X.led ok
  refine wpAny_of (sumK (vs := vs.toList) (ns := ns) ok.hd f n (by simpa using lv) (ints_ab q) fun h' tk t' f' n' hle => ⟨H, (back h' tk _ hle f' n' fun p hp => hp).1, h⟩)
theorem Cal_range1 {b : Int} {Q : V → HA → Prop} (h : ∀ a, H a = none → Q (.ref a) (H.set a (.range 0 b 1))) : Cal G F (.type "range") [.int b] H Q := fun cs hcs => by
  obtain ⟨x, rfl, e⟩ := args1 hcs
  obtain ⟨t, rfl⟩ := ab_int e
  refine FT.of fun Z s X => ?_
  refine wpAny_of (call_range_1 fun hle => ⟨_, X.alloc (o := .range 0 b 1) (fun _ _ e => Heap.get?_push_of_some _ e) (Nat.le_refl _) ⟨_, _, _, IsRange.new ..⟩ rfl rfl hle, h _ (X.fresh (Nat.le_refl _))⟩)
theorem Cal_range2 {a b : Int} {Q : V → HA → Prop} (h : ∀ q, H q = none → Q (.ref q) (H.set q (.range a b 1))) : Cal G F (.type "range") [.int a, .int b] H Q := fun cs hcs => by
  obtain ⟨x, y, rfl, e, e2⟩ := args2 hcs
  obtain ⟨t, rfl⟩ := ab_int e
  obtain ⟨t, rfl⟩ := ab_int e2
  refine FT.of fun Z s X => ?_
  refine wpAny_of (call_range_2 fun hle => ⟨_, X.alloc (o := .range a b 1) (fun _ _ e => Heap.get?_push_of_some _ e) (Nat.le_refl _) ⟨_, _, _, IsRange.new ..⟩ rfl rfl hle, h _ (X.fresh (Nat.le_refl _))⟩)
theorem Cal_max (ok : FOk G F sc d) {a b : Int} {Q : V → HA → Prop} (h : Q (.int (if b > a then b else a)) H) : Cal G F (.builtin "max") [.int a, .int b] H Q := fun cs hcs => .mk fun Z ρ s X => by
  obtain ⟨x, y, rfl, e, e2⟩ := args2 hcs
  obtain ⟨t, rfl⟩ := ab_int e
  obtain ⟨u, rfl⟩ := ab_int e2
  obtain ⟨m, news, f, n, back⟩ := X.led ok
  refine wpAny_of (max_two_N ok.hd f n fun h' tk f' n' hle => ⟨H, (back h' tk _ hle f' n' fun p hp => hp).1, h⟩)
theorem itemsOf_ab {xs : List V} : ∀ {vs : Array Value}, ItemsOf (fun i v => ab v = noneV xs[i]?) vs xs.length → vs.toList.map ab = xs := fun {vs} h => by
  obtain ⟨h1, h2⟩ := h
  apply List.ext_getElem?
  intro i
  by_cases hi : i < xs.length
  · have : vs.toList.map ab = vs.toList.map ab := rfl
    rw [List.getElem?_map, Array.getElem?_toList]
    have hi' : i < vs.size := by omega
    have := h2 i vs[i] (by simp [hi'])
    rw [Array.getElem?_eq_getElem hi', Option.map_some, this]
    simp [noneV, hi]
  · rw [List.getElem?_eq_none (by simp; omega), List.getElem?_eq_none (by exact Nat.le_of_not_lt hi)]
theorem Cal_list_range (ok : FOk G F sc d) {r : Addr} {a b : Int} {n : Nat} {Q : V → HA → Prop} (hr : H r = some (.range a b 1)) (hs : Builtin.Range.small a b 1 = true) (hn : Builtin.Range.rangeSize a b 1 = n) (hz : n ≤ 2 ^ 24)
    (h : ∀ q, H q = none → Q (.ref q) (H.set q (.list ((List.range n).map fun i : Nat => .int (a + i))))) : Cal G F (.type "list") [.ref r] H Q := fun cs hcs => by
  obtain ⟨x, rfl, e⟩ := args1 hcs
  obtain rfl := ab_ref e
  have hh := ok.hd
  refine FT.of fun Z s X => ?_
  obtain ⟨t, u, v, e⟩ := X.trk _ _ hr
  refine wpAny_of (call_list_range hh e hs hn hz fun h' tk acc c keep hl hi hle => ⟨_, X.alloc (o := .list ((List.range n).map fun i : Nat => .int (a + i))) keep (Nat.le_refl _) ⟨_, _, hl, itemsOf_ab ?_⟩ rfl rfl hle, h _ (X.fresh (Nat.le_refl _))⟩)
  have hlen : ((List.range n).map fun i : Nat => V.int (a + i)).length = n := by simp
  rw [hlen]
  refine ⟨hi.1, fun i v hv => ?_⟩
  obtain ⟨t, rfl⟩ := hi.2 i v hv
  have hlt : i < n := by
    have := (Array.getElem?_eq_some_iff.mp hv).1
    have := hi.1
    (clear hn hz hle; omega)
  simp [noneV, hlt, ab]
theorem Cal_list_list {l : Addr} {xs : List V} {Q : V → HA → Prop} (hl : H l = some (.list xs)) (hz : xs.length ≤ sizeLine) (h : ∀ q, H q = none → Q (.ref q) (H.set q (.list xs))) : Cal G F (.type "list") [.ref l] H Q := fun cs hcs => by
  obtain ⟨x, rfl, e⟩ := args1 hcs
  obtain rfl := ab_ref e
  refine FT.of fun Z s X => ?_
  obtain ⟨vs, n, e, q⟩ := X.trk _ _ hl
  exact call_list_seq l (.inl rfl) e rfl rfl (fun h' c keep hp => ⟨_, X.alloc (o := .list xs) keep (Nat.le_refl _) ⟨_, _, hp, q⟩ rfl rfl, h _ (X.fresh (Nat.le_refl _))⟩) (by rw [size_ab q]; exact hz)
theorem Cal_tuple_list {l : Addr} {xs : List V} {Q : V → HA → Prop} (hl : H l = some (.list xs)) (hz : xs.length ≤ sizeLine) (h : ∀ q, H q = none → Q (.ref q) (H.set q (.tup xs))) : Cal G F (.type "tuple") [.ref l] H Q := fun cs hcs => by
  obtain ⟨x, rfl, e⟩ := args1 hcs
  obtain rfl := ab_ref e
  refine FT.of fun Z s X => ?_
  obtain ⟨vs, lv, q⟩ := (X.trk _ _ hl).isList
  refine call_tuple_list lv (fun h' keep => ?_) (by rw [size_ab q]; exact hz)
  have X' : Hp G Z H { s with heap := h' } := X.ext keep rfl rfl
  exact ⟨_, X'.alloc (o := .tup xs) (fun _ _ e => Heap.get?_push_of_some _ e) (Nat.le_refl _) ⟨_, _, Heap.get?_push_size _ rfl, q⟩ rfl rfl, h _ (X'.fresh (Nat.le_refl _))⟩
theorem len2 {α : Type} : ∀ l : List α, l.length = 2 → ∃ x y, l = [x, y]
  | [x, y], _ => ⟨x, y, rfl⟩
theorem arr1 {us : Array Value} (q : us.size = 1) : ∃ u, us = #[u] := by
  obtain ⟨l⟩ := us
  obtain ⟨u, rfl⟩ := List.length_eq_one_iff.mp q
  exact ⟨u, rfl⟩
theorem Bin_mulL (ok : FOk G F sc d) {a : Addr} {x : V} {k : Int} {Q : V → HA → Prop} (ha : H a = some (.list [x])) (h0 : 0 ≤ k) (h1 : k ≤ 2 ^ 24) (h : ∀ c, H c = none → Q (.ref c) (H.set c (.list (List.replicate k.toNat x)))) : Bin G F .Mult (.ref a) (.int k) H Q := fun xx y hx hy => .mk fun Z ρ s X => by
  obtain rfl := ab_ref hx; obtain ⟨u, rfl⟩ := ab_int hy
  obtain ⟨va, n, la, qa⟩ := X.hp.trk _ _ ha
  obtain ⟨m, news, f, nn, back⟩ := X.led ok
  have hs := size_ab qa
  refine mul_list f nn la (by omega) (by omega) (by rw [hs]; simp; omega) (fun h' f' n' => ?_)
  obtain ⟨y, ext⟩ := back h' s.toks _ (Nat.le_refl _) f' n' fun p hp => List.mem_cons_of_mem _ hp
  refine ⟨_, y.track (o := .list (List.replicate k.toNat x)) (X.off (Nat.le_refl s.heap.objs.size)) ⟨_, 0, (n' _ List.mem_cons_self).1, ?_⟩, h _ (X.hp.fresh (Nat.le_refl _))⟩
  obtain ⟨v, rfl⟩ : ∃ v, va = #[v] := by
    exact arr1 hs
  simp only [List.map_cons, List.map_nil, List.cons.injEq, and_true] at qa
  have go : ∀ (m : Nat) (acc : Array Value), (List.foldl (fun x1 x2 => x1 ++ x2) acc (List.replicate m #[v])).toList.map ab = acc.toList.map ab ++ List.replicate m x := by
    intro m
    induction m with
    | zero => intro acc; simp
    | succ m ih => intro acc; rw [List.replicate_succ, List.foldl_cons, ih, List.replicate_succ]; simp [qa]
  simpa using go k.toNat #[]
theorem GetI_listSlice {a l : Addr} {xs : List V} {lv uv : V} {lo hi : Option Int} {Q : V → HA → Prop} (hl : H l = some (.list xs)) (hs : H a = some (.slice lv uv .none)) (hlo : Pt lv lo) (hhi : Pt uv hi) (hz : xs.length ≤ sizeLine)
    (h : ∀ c, H c = none → Q (.ref c) (H.set c (.list ((sliceRange (sliceBounds lo hi none xs.length).1 (sliceBounds lo hi none xs.length).2.1 (sliceBounds lo hi none xs.length).2.2).filterMap (xs[·]?))))) : GetI G F (.ref l) (.ref a) H Q := fun x y ex ey => by
  obtain rfl := ab_ref ex; obtain rfl := ab_ref ey
  refine FT.of fun Z s X => ?_
  obtain ⟨vs, lv, q⟩ := (X.trk _ _ hl).isList
  obtain ⟨p, q', r, e, e1, e2, e3⟩ := X.trk _ _ hs
  obtain rfl := ab_none e3
  refine wpAny_getItem_list_slice lv ⟨_, e, rfl, rfl⟩ (hlo.ofL e1) (hhi.ofL e2) (st := none) (by constructor) (by simp) ?_ (by rw [size_ab q]; exact hz)
  refine ⟨_, X.alloc (o := .list ((sliceRange (sliceBounds lo hi none xs.length).1 (sliceBounds lo hi none xs.length).2.1 (sliceBounds lo hi none xs.length).2.2).filterMap (xs[·]?))) (fun _ _ e => Heap.get?_push_of_some _ e) (Nat.le_refl _) ⟨_, _, Heap.get?_push_size _ rfl, ?_⟩ rfl rfl, h _ (X.fresh (Nat.le_refl _))⟩
  unfold slicePick
  rw [size_ab q]
  simp only [List.map_filterMap]
  congr 1
  funext i
  exact getElem?_ab q i
theorem Cmp_neInts (ok : FOk G F sc d) (hd : 2 ≤ d) {a b : Addr} {xs ys : List Int} {Q : V → HA → Prop} (ha : H a = some (.list (xs.map V.int))) (hb : H b = some (.list (ys.map V.int))) (h : Q (.bool (!decide (xs = ys))) H) : Cmp G F .NotEq (.ref a) (.ref b) H Q := fun x y ex ey => .mk fun Z ρ s X => by
  obtain rfl := ab_ref ex; obtain rfl := ab_ref ey
  obtain ⟨vs, lv, q⟩ := (X.hp.trk _ _ ha).isList
  obtain ⟨us, lu, q2⟩ := (X.hp.trk _ _ hb).isList
  have := ok.un
  exact ne_intsK (vs := vs.toList) (us := us.toList) (by simpa using lv) (ints_ab q) (by simpa using lu) (ints_ab q2) (by omega) ⟨H, X, h⟩
theorem Cmp_eqNil (ok : FOk G F sc d) (hd : 2 ≤ d) {a b : Addr} {xs : List V} {Q : V → HA → Prop} (ha : H a = some (.list xs)) (hb : H b = some (.list [])) (h : Q (.bool xs.isEmpty) H) : Cmp G F .Eq (.ref a) (.ref b) H Q := fun x y ex ey => .mk fun Z ρ s X => by
  obtain rfl := ab_ref ex; obtain rfl := ab_ref ey
  obtain ⟨vs, lv, q⟩ := (X.hp.trk _ _ ha).isList
  obtain ⟨us, lu, q2⟩ := (X.hp.trk _ _ hb).isList
  have hu := ok.un
  have s1 := size_ab q
  have s2 := size_ab q2
  cases xs with
  | nil =>
    have e1 : vs = #[] := by simpa using s1
    have e2 : us = #[] := by simpa using s2
    subst e1 e2
    exact eq_intsK (vs := []) (us := []) (ns := []) (ms := []) (by simpa using lv) .nil (by simpa using lu) .nil (by (clear s1 s2; omega)) ⟨H, X, h⟩
  | cons v vv => exact SeqAt.eq_list_lengthsAt lv lu (by rw [s1, s2]; simp) (by (clear s2 s1; omega)) ⟨H, X, h⟩
theorem Cmp_neBool {a b : Bool} {Q : V → HA → Prop} (h : Q (.bool (a != b)) H) : Cmp G F .NotEq (.bool a) (.bool b) H Q := fun x y ex ey => .mk fun Z ρ s X => by
  obtain rfl := ab_bool ex; obtain rfl := ab_bool ey
  exact ne_bool ⟨H, X, h⟩
theorem Cmp_inInts {a : Addr} {k : Int} {xs : List Int} {Q : V → HA → Prop} (ha : H a = some (.list (xs.map V.int))) (h : Q (.bool (xs.contains k)) H) : Cmp G F .In (.int k) (.ref a) H Q := fun x y ex ey => .mk fun Z ρ s X => by
  obtain ⟨u, rfl⟩ := ab_int ex; obtain rfl := ab_ref ey
  obtain ⟨vs, lv, q⟩ := (X.hp.trk _ _ ha).isList
  refine SeqAt.in_listAt (fun v => match v with | .int i _ => i == k | _ => false) lv (fun y hy => ?_) ?_
  · obtain ⟨i, hi, e⟩ : ∃ i ∈ xs, V.int i = ab y := by
      have : ab y ∈ vs.toList.map ab := List.mem_map.mpr ⟨y, by simpa using hy, rfl⟩
      rw [q] at this
      simpa using this
    obtain ⟨t, rfl⟩ := ab_int e.symm
    exact SeqAt.EqAt.int_int i t k u
  · have : vs.any (fun v => match v with | .int i _ => i == k | _ => false) = xs.contains k := by
      rw [← Array.any_toList]
      have : ∀ (l : List Value) (ns : List Int), l.map ab = ns.map V.int → l.any (fun v => match v with | .int i _ => i == k | _ => false) = ns.contains k := by
        intro l
        induction l with
        | nil => intro ns e; cases ns <;> simp_all
        | cons v l ih =>
          intro ns e
          cases ns with
          | nil => simp at e
          | cons n ns =>
            simp only [List.map_cons, List.cons.injEq] at e
            obtain ⟨t, rfl⟩ := ab_int e.1
            rw [List.any_cons, ih ns e.2, List.contains_cons]
            congr 1
            exact Bool.beq_comm
      exact this _ _ q
    rw [this]
    exact ⟨H, X, h⟩
end
end Mine
namespace Mine
variable [HasP]
section
variable {G : Glb} {F : Fm} {ρ : Vars} {H : HA} {sc : Scope} {d : Nat} {Z : Addr → Option Obj} {s s' : Shared}
theorem strs_ab2 : ∀ {vs : List Value} {ys : List Str}, vs.map ab = ys.map V.str → ∃ l : List (Str × Tok), vs = strValues l ∧ l.map (·.1) = ys ∧ ∀ p ∈ l, HasP.K p.2 = 0
  | [], [], _ => ⟨[], rfl, rfl, fun _ h => by cases h⟩
  | v :: vs, n :: ns, h => by
    simp only [List.map_cons, List.cons.injEq] at h
    obtain ⟨t, rfl, hp⟩ := ab_str2 h.1
    obtain ⟨l, rfl, e, hl⟩ := strs_ab2 h.2
    exact ⟨(n, t) :: l, rfl, by simp [e], fun p hm => by
      rcases List.mem_cons.mp hm with rfl | hm
      · exact hp
      · exact hl p hm⟩
  | [], n :: ns, h => by simp at h
  | v :: vs, [], h => by simp at h
theorem Cal_join {x : Str} {l : Addr} {ys : List Str} {Q : V → HA → Prop} (hl : H l = some (.list (ys.map V.str))) (h1 : x.length ≤ 64) (h2 : (ys.map (·.length)).sum + ys.length * 64 ≤ 16777216) (h : Q (.str (Txt.join x ys)) H) :
    Cal G F (.builtin "str.join") [.str x, .ref l] H Q := fun cs hcs => .mk fun Z ρ s X => by
  obtain ⟨a, b, rfl, e, e2⟩ := args2 hcs
  obtain ⟨t, rfl⟩ := ab_str e
  obtain rfl := ab_ref e2
  obtain ⟨vs, lv, q⟩ := (X.hp.trk _ _ hl).isList
  obtain ⟨ll, hv, rfl, hp⟩ := strs_ab2 q
  have e' : vs = (strValues ll).toArray := by rw [← hv]
  subst e'
  have hok := joinOk_of (sep := x) (ys := ll.map (·.1)) (Nat.le_trans (Nat.add_le_add_left (Nat.mul_le_mul_left _ h1) _) h2)
  unfold JoinOk at hok
  rw [Bool.not_eq_true'] at hok
  refine call_meets PySem.F.slot_str_join (typeIs_str _ _ _) PySem.F.entry_str_join (PySem.F.args_str_join_2 _ _) (meets_str_join_list x t l ll hok) ⟨lv, ?_⟩
  have hfit := joinFit_length hok
  match ll, hp, h, hfit with
  | [], hp, h, hfit => exact ⟨hfit, H, X.toks _, VQ_new X h⟩
  | [p], hp, h, hfit =>
    refine ⟨H, X, ?_⟩
    show Q (ab (.str p.1 p.2)) H
    simp only [ab, hp p List.mem_cons_self]
    exact h
  | _ :: _ :: _, hp, h, hfit => exact ⟨hfit, H, X.toks _, VQ_new X h⟩
theorem strValues_ab (hl : ∀ l : List (Str × Tok), True) : ∀ (l : List (Str × Tok)), (∀ p ∈ l, HasP.K p.2 = 0) → (strValues l).map ab = (l.map (·.1)).map V.str
  | [], _ => rfl
  | p :: l, h => by
    have := strValues_ab hl l fun q hq => h q (List.mem_cons_of_mem _ hq)
    have hp := h p List.mem_cons_self
    simp only [strValues, List.map_cons, List.map_map] at this ⊢
    rw [this]
    congr 1
    simp only [ab, hp]
theorem numbered_new {n : Nat} : ∀ {k : Nat} (xs : List Str), n ≤ k → ∀ p ∈ numbered k xs, n ≤ p.2
  | k, [], _, p, hp => by cases hp
  | k, x :: xs, h, p, hp => by
    rcases List.mem_cons.mp hp with rfl | hp
    · exact h
    · exact numbered_new xs (Nat.le_succ_of_le h) p hp
theorem Cal_split {x y : Str} {Q : V → HA → Prop} (hy : (y.length == 0) = false) (hz : x.length + 2 ≤ sizeLine) (h : ∀ c, H c = none → Q (.ref c) (H.set c (.list ((Txt.split x y).map V.str)))) :
    Cal G F (.builtin "str.split") [.str x, .str y] H Q := fun cs hcs => by
  obtain ⟨a, b, rfl, e, e2⟩ := args2 hcs
  obtain ⟨t, rfl, hpt⟩ := ab_str2 e
  obtain ⟨u, rfl⟩ := ab_str e2
  refine FT.of fun Z s X => ?_
  have hn : (Builtin.Str.partsBetween x (Builtin.Str.occurrences x y 0 x.length (x.length + 1)) y.length).length ≤ sizeLine := by
    have e1 := StrLaws.occ_length_le x y 0 x.length (x.length + 1)
    rw [length_partsBetween]; omega
  have fin : ∀ (l : List (Str × Tok)) (tk : Nat), s.toks ≤ tk → l.map (·.1) = Txt.split x y → (∀ p ∈ l, HasP.K p.2 = 0) →
      PostT G Z (VQ Q) (.ref s.heap.objs.size) { s with toks := tk, heap := s.heap.push { cls := .type "list", data := .seq (strValues l).toArray } } := fun l tk htk hl hp =>
    ⟨_, X.alloc (o := .list ((Txt.split x y).map V.str)) (fun _ _ e => Heap.get?_push_of_some _ e) (Nat.le_refl _) ⟨_, _, Heap.get?_push_size _ rfl, by rw [List.toList_toArray, strValues_ab (fun _ => trivial) l hp, hl]⟩ rfl rfl htk, h _ (X.fresh (Nat.le_refl _))⟩
  cases h1 : (decide (x.length < y.length) || decide (Builtin.Str.strKind x < Builtin.Str.strKind y))
  · cases hf : (Builtin.Str.occurrences x y 0 x.length (x.length + 1)).isEmpty
    · refine call_meets PySem.F.slot_str_split (typeIs_str _ _ _) PySem.F.entry_str_split (PySem.F.args_str_split_2 _ _) (meets_str_split_sep x y t u h1 hy hf (by (clear hpt hn; omega)) hn) ?_
      show wants (PostT G Z (VQ Q)) NoE _ { s with toks := _, heap := s.heap.push { cls := .type "list", data := .seq (strsFrom s.toks (Builtin.Str.partsBetween x (Builtin.Str.occurrences x y 0 x.length (x.length + 1)) y.length)).toArray } }
      rw [strsFrom_eq]
      exact fin (numbered s.toks _) _ (Nat.le_add_right _ _) ((numbered_texts _ _).trans ((if_neg (ne_true_of_eq_false h1)).trans (if_neg (ne_true_of_eq_false hf))).symm) fun p hp => P_new (numbered_new _ X.ck p hp)
    · exact call_meets PySem.F.slot_str_split (typeIs_str _ _ _) PySem.F.entry_str_split (PySem.F.args_str_split_2 _ _) (meets_str_split_not_found x y t u h1 hy hf)
        (fin [(x, t)] s.toks (Nat.le_refl _) ((if_neg (ne_true_of_eq_false h1)).trans (if_pos hf)).symm (by simpa using hpt))
  · exact call_meets PySem.F.slot_str_split (typeIs_str _ _ _) PySem.F.entry_str_split (PySem.F.args_str_split_2 _ _) (meets_str_split_cannot_occur x y t u h1)
      (fin [(x, t)] s.toks (Nat.le_refl _) (if_pos h1).symm (by simpa using hpt))
theorem mapOf_base {p : Program} {w : World} {B h : Heap} {a : Addr} {f : Int → Option Value} (x : B.MapOf (intKind p w) a f) (k : ∀ b o, B.get? b = some o → h.get? b = some o) : h.MapOf (intKind p w) a f :=
  let ⟨o, es, ep, ho, r⟩ := x; ⟨o, es, ep, k _ _ ho, r⟩
theorem setOf_base {p : Program} {w : World} {B h : Heap} {a : Addr} {S : Int → Bool} {n : Nat} (x : B.SetOf (intKind p w) a S n) (k : ∀ b o, B.get? b = some o → h.get? b = some o) : h.SetOf (intKind p w) a S n :=
  let ⟨o, es, ep, t, ho, r⟩ := x; ⟨o, es, ep, t, k _ _ ho, r⟩
theorem isInt_self (i : Int) (t : Tok) {p : Program} {w : World} : (intKind p w).is i (.int i t) = true := by simp [intKind, Value.isInt]
theorem Cal_get1 {a : Addr} {k : Int} {f : Int → Option Value} {Q : V → HA → Prop} (hm : G.B.MapOf (intKind G.p G.w) a f) (hd : (a == sysModules) = false) (h : Q (ab ((f k).getD .none)) H) : Cal G F (.builtin "dict.get") [.ref a, .int k] H Q := fun cs hcs => .mk fun Z ρ s X => by
  obtain ⟨x, y, rfl, e, e2⟩ := args2 hcs
  obtain rfl := ab_ref e
  obtain ⟨t, rfl⟩ := ab_int e2
  have hm' := mapOf_base hm X.hp.base
  exact call_meetsIn PySem.F.slot_dict_get hm'.typeIs PySem.F.entry_dict_get (PySem.F.args_dict_get_2 _ _) (meets_dict_get _ a (isInt_self k t) hd) ⟨f, hm', H, X.toks _, h⟩
theorem Cal_get2 {a : Addr} {k : Int} {f : Int → Option Value} {v : V} {Q : V → HA → Prop} (hm : G.B.MapOf (intKind G.p G.w) a f) (hd : (a == sysModules) = false) (h : Q ((f k).elim v ab) H) : Cal G F (.builtin "dict.get") [.ref a, .int k, v] H Q := fun cs hcs => .mk fun Z ρ s X => by
  obtain ⟨x, y, z, rfl, e, e2, e3⟩ := args3 hcs
  obtain rfl := ab_ref e
  obtain ⟨t, rfl⟩ := ab_int e2
  have hm' := mapOf_base hm X.hp.base
  refine call_meetsIn PySem.F.slot_dict_get hm'.typeIs PySem.F.entry_dict_get (PySem.F.args_dict_get_3 _ _ _) (meets_dict_get_default _ a (isInt_self k t) hd z) ⟨f, hm', H, X.toks _, ?_⟩
  show Q (ab ((f k).getD z)) H
  cases hf : f k with
  | none => rw [hf] at h; subst e3; exact h
  | some u => rw [hf] at h; exact h
theorem Cmp_inSet {a : Addr} {k : Int} {S : Int → Bool} {n : Nat} {Q : V → HA → Prop} (hm : G.B.SetOf (intKind G.p G.w) a S n) (h : Q (.bool (S k)) H) : Cmp G F .In (.int k) (.ref a) H Q := fun x y ex ey => .mk fun Z ρ s X => by
  obtain ⟨u, rfl⟩ := ab_int ex; obtain rfl := ab_ref ey
  exact wpAny_inSet_of (isInt_self k u) rfl (setOf_base hm X.hp.base) ⟨H, X.toks _, h⟩
theorem Inv.ledAt (ok : FOk G F sc d) (x : Inv G F Z ρ H s) {D : Addr} {oD : O} {ob : Obj} (hD : H D = some oD) (eD : s.heap.get? D = some ob) : ∃ m news, Fr G.B F.env.locals s.heap m ∧ News G.B F.env.locals s.heap ((D, ob) :: news) ∧ (∀ p ∈ news, p.1 ≠ D) ∧
    (∀ b o, b ≠ F.env.locals → b ≠ D → G.B.get? b = none → s.heap.get? b = some o → (b, o) ∈ news) ∧
    ∀ h' tk ob' oD', s.toks ≤ tk → Fr G.B F.env.locals h' m → News G.B F.env.locals h' ((D, ob') :: news) → OR h' D oD' → Inv G F Z ρ (H.set D oD') { s with heap := h', toks := tk } := by
  obtain ⟨m, news, f, n, back⟩ := x.led ok
  have zD : Z D = none := by
    cases e : Z D with
    | none => rfl
    | some o => have := x.hp.sep _ _ e; rw [hD] at this; cases this
  have bD : G.B.get? D = none := by
    cases e : G.B.get? D with
    | none => rfl
    | some o => have := x.hp.bz _ _ e; rw [zD] at this; cases this
  have lD : D ≠ F.env.locals := by rintro rfl; rw [x.loc.hL] at hD; cases hD
  let news' : List (Addr × Obj) := (List.range s.heap.objs.size).filterMap fun b => if b = F.env.locals ∨ b = D then none else match G.B.get? b, s.heap.get? b with
    | none, some o => some (b, o)
    | _, _ => none
  have mem : ∀ b o, b ≠ F.env.locals → b ≠ D → G.B.get? b = none → s.heap.get? b = some o → (b, o) ∈ news' := fun b o hb hd hB e => by
    refine List.mem_filterMap.mpr ⟨b, List.mem_range.mpr (Heap.lt_size e), ?_⟩
    rw [if_neg (by rintro (h | h); exact hb h; exact hd h), hB, e]
  have inv : ∀ p ∈ news', s.heap.get? p.1 = some p.2 ∧ p.1 ≠ F.env.locals ∧ G.B.get? p.1 = none ∧ p.1 ≠ D := fun p hp => by
    obtain ⟨b, _, e⟩ := List.mem_filterMap.mp hp
    by_cases hb : b = F.env.locals ∨ b = D
    · rw [if_pos hb] at e; cases e
    · rw [if_neg hb] at e
      cases q : G.B.get? b with
      | some o => rw [q] at e; cases e
      | none =>
        cases q' : s.heap.get? b with
        | none => rw [q, q'] at e; cases e
        | some o => rw [q, q'] at e; cases e; exact ⟨q', fun h => hb (.inl h), q, fun h => hb (.inr h)⟩
  have hm := x.loc.ns
  obtain ⟨m, hn, hm⟩ := hm
  refine ⟨m, news', ⟨hn, x.hp.base, ok.low⟩, fun p hp => ?_, fun p hp => (inv p hp).2.2.2, mem, fun h' tk ob' oD' htk F' N' hO => ?_⟩
  · rcases List.mem_cons.mp hp with rfl | hp
    · exact ⟨eD, lD, bD⟩
    · exact ⟨(inv p hp).1, (inv p hp).2.1, (inv p hp).2.2.1⟩
  · have ext : ∀ b o, b ≠ F.env.locals → b ≠ D → s.heap.get? b = some o → h'.get? b = some o := fun b o hb hd e => by
      cases q : G.B.get? b with
      | some o' =>
        have := x.hp.base _ _ q
        rw [e] at this; cases this
        exact F'.keep _ _ q
      | none => exact (N' _ (List.mem_cons_of_mem _ (mem b o hb hd q e))).1
    refine ⟨⟨x.hp.bz, fun b o e => ext b o (by rintro rfl; rw [x.loc.zL] at e; cases e) (by rintro rfl; rw [zD] at e; cases e) (x.hp.fz b o e), fun b o e => ?_, fun a o e => ?_, x.hp.gens, x.hp.os, Nat.le_trans x.hp.ck htk⟩, ⟨⟨m, F'.ns, hm⟩, ?_, x.loc.zL, fun y c hc => ?_, x.loc.cw⟩⟩
    · rw [HA.set_ne (by rintro rfl; rw [zD] at e; cases e)]; exact x.hp.sep b o e
    · by_cases ha : a = D
      · subst ha; rw [HA.set_self] at e; cases e; exact hO
      · rw [HA.set_ne ha] at e
        exact (x.hp.trk a o e).at fun q => ext a q (by rintro rfl; rw [x.loc.hL] at e; cases e) ha
    · rw [HA.set_ne (Ne.symm lD)]; exact x.loc.hL
    · obtain ⟨⟨ov, ⟨o, e, dd⟩, q⟩, h1, h2⟩ := x.loc.cell y c hc
      have hcD : c ≠ D := by rintro rfl; rw [h1] at hD; cases hD
      exact ⟨⟨ov, ⟨o, ext c o h2 hcD e, dd⟩, q⟩, by rw [HA.set_ne hcD]; exact h1, h2⟩
theorem Cal_extend (ok : FOk G F sc d) {l b : Addr} {xs ys : List V} {Q : V → HA → Prop} (hl : H l = some (.list xs)) (hb : H b = some (.list ys)) (hne : l ≠ b) (hy : ys ≠ []) (hz : xs.length + ys.length ≤ 100000) (h : Q .none (H.set l (.list (xs ++ ys)))) : Cal G F (.builtin "list.extend") [.ref l, .ref b] H Q := fun cs hcs => .mk fun Z ρ s X => by
  obtain ⟨x, y, rfl, e, e2⟩ := args2 hcs
  obtain rfl := ab_ref e; obtain rfl := ab_ref e2
  obtain ⟨va, n, la, qa⟩ := X.hp.trk _ _ hl
  obtain ⟨vb, nb, lb, qb⟩ := X.hp.trk _ _ hb
  obtain ⟨m, news, f, nn, hne2, mem, back⟩ := X.ledAt ok hl la
  have s1 := size_ab qa
  have s2 := size_ab qb
  have hbl : b ≠ F.env.locals := by rintro rfl; rw [X.loc.hL] at hb; cases hb
  have hbB : G.B.get? b = none := by
    cases e : G.B.get? b with
    | none => rfl
    | some o => have := X.hp.sep _ _ (X.hp.bz _ _ e); rw [hb] at this; cases this
  have hmb := mem b _ hbl (Ne.symm hne) hbB lb
  have hys : 0 < ys.length := List.length_pos_iff.mpr hy
  have hsl : sizeLine = 100000000 ∨ 100000 ≤ sizeLine := by right; decide
  have hsl : 100000 ≤ sizeLine := by decide
  refine kl_extend (its := va) (its2 := vb) (n := n) (n2 := nb) (l := va.toList ++ vb.toList) f nn (List.mem_cons_of_mem _ hmb) rfl (by rw [Array.length_toList, s2]; exact Nat.ne_of_gt hys) (Upd.head hne2) ?_ (by rw [Array.length_toList, s1]; (clear hne hbl; omega)) (by rw [s1, s2]; exact Nat.le_trans hz (by decide)) fun h' f' n' => ?_
  · rw [s1, s2]
    unfold Builtin.List.listTooLong
    simp only [Bool.and_eq_true, decide_eq_true_eq, not_and]
    intro _
    (clear hne hbl hys; omega)
  · exact ⟨_, back h' s.toks _ (.list (xs ++ ys)) (Nat.le_refl _) f' n' ⟨_, _, (n' _ List.mem_cons_self).1, by simp [qa, qb]⟩, h⟩
end
end Mine
namespace Mine
variable [HasP]
theorem def_starts {prog : Program} {w : World} {A : Around} {s : Shared} {R : Result → Shared → Prop} {a : Addr} {o : Obj} {fd : FuncData} {body : List Stmt} {vals : List Value} {binds : List (Str × Value)}
    (hroom : A.depth < recursionLimit) (ho : s.heap.get? a = some o) (hdata : o.data = .func fd) (hlim : s.heap.NoLimit) (hcd : s.heap.CodeRec fd.code fd.qualname)
    (hbody : fd.body = .stmts body) (hbind : bindArgs fd ⟨vals, []⟩ = pure binds) (hclo : fd.closure = [])
    (hkind : ∀ x ∈ binds, fd.scope.names.lookup x.1 = some .local ∨ (fd.scope.names.lookup x.1 = some .cell ∧ ((cellsFrom (s.heap.objs.size + 1) fd.scope.names []).lookup x.1).isSome = true))
    (h : ∀ s₁, s.toks ≤ s₁.toks → InCallC s (callEnvC fd s.heap.objs.size a).locals (bindL (callEnvC fd s.heap.objs.size a).kindOf binds fun _ => none) (callEnvC fd s.heap.objs.size a).cells
        (bindC (callEnvC fd s.heap.objs.size a).kindOf binds fun _ => none) s₁ →
      wpAny (model prog w) (A.deeper (callEnvC fd s.heap.objs.size a)) (execs body (callEnvC fd s.heap.objs.size a)) (fun f s' => R (.ok (.ret (match f with | .ret v => v | _ => .none))) s')
        (fun e s' => wpAny (model prog w) (A.deeper (callEnvC fd s.heap.objs.size a)) (leaving (callEnvC fd s.heap.objs.size a) e) (fun _ s'' => R (.error e) s'') (fun e' s'' => R (.error e') s'') s') s₁)
    (hco : fd.scope.isCoroutine = false) (hgen : fd.scope.isGenerator = false) (hk : fd.scope.kind = .function) : codeAny (model prog w) A (.call (.ref a) ⟨vals, []⟩) R s := by
  refine codeAny_call_function hroom ho hdata hco hgen hbody hcd ?_
  rw [hbind, hclo]
  refine wpAny_pure (wpAny_of (wpAny_newFunctionEnv_cells hk hkind fun env he s' x hle => ?_))
  subst he
  exact ⟨hlim.keeps x.toInCall.keep, codeAny_func (h s' hle x)⟩
noncomputable abbrev retQ (Q : V → HA → Prop) : Fl → Vars → HA → Prop := fun fl _ H' => Q (match fl with | .ret v => v | _ => .none) H'
theorem Code_def {G : Glb} {A : Around} {f : Addr} {o : Obj} {fd : FuncData} {body : List Stmt} {ns : List String} {cs : List Value} {H : HA} {Q : V → HA → Prop} {d : Nat} {Z : Addr → Option Obj} {s : Shared} {R : Result → Shared → Prop} (g : GOk G)
    (x : Hp G Z H s)
    (ho : G.B.get? f = some o) (hd : o.data = .func fd) (hcd : G.B.CodeRec fd.code fd.qualname) (hbody : fd.body = .stmts body) (hclo : fd.closure = []) (hgl : fd.globals = mainGlobals) (hbl : fd.builtins = builtinsNs)
    (hh : A.handled = none) (hdep : A.depth + (d + 1) < recursionLimit) (hun : A.units + 40 * (d + 1) < cLine)
    (hbind : ∀ cs : List Value, cs.length = ns.length → bindArgs fd ⟨cs, []⟩ = pure ((ns.map Str.ofString).zip cs)) (hl : cs.length = ns.length)
    (hlc : ∀ n ∈ ns, lc (fd.scope.names.lookup (Str.ofString n)) = true) (hok : NamesOk fd.scope.names)
    (hco : fd.scope.isCoroutine = false) (hgen : fd.scope.isGenerator = false) (hk : fd.scope.kind = .function)
    (h : ∀ F : Fm, FOk G F fd.scope d → F.own = true → Exs G F body (argV ns (cs.map ab) noV) H (retQ Q))
    (hR : ∀ v s' H', Hp G Z H' s' → Q (ab v) H' → R (.ok (.ret v)) s') : codeAny (Md G) A (.call (.ref f) ⟨cs, []⟩) R s := by
  refine def_starts (fd := fd) (binds := (ns.map Str.ofString).zip cs) (by (clear hgl hbl hun hl; omega)) (x.base _ _ ho) hd (g.lim.keeps x.base) (hcd.keeps x.base) hbody (hbind cs hl) hclo (fun y hy => ?_) (fun s₁ htk X => ?_) hco hgen hk
  · have hm := List.of_mem_zip (show (y.1, y.2) ∈ _ from hy)
    obtain ⟨n, hn, e⟩ := List.mem_map.mp hm.1
    have q := hlc n hn
    rw [e] at q
    cases e' : fd.scope.names.lookup y.1 with
    | none => rw [e'] at q; cases q
    | some k =>
      rw [e'] at q
      cases k with
      | «local» => exact .inl rfl
      | cell => exact .inr ⟨rfl, cellsFrom_cell _ _ _ _ e'⟩
      | _ => cases q
  · obtain ⟨h₁, tk, rfl, keep⟩ := X.done
    have hL : s.heap.objs.size ≤ s.heap.objs.size := Nat.le_refl _
    have hfroz : ∀ a, s.heap.objs.size ≤ a → froz H s.heap a = none := fun a ha => by
      unfold froz
      rw [x.fresh ha]
      cases e : s.heap.get? a with
      | none => rfl
      | some o => exact absurd (Heap.lt_size e) (Nat.not_lt.mpr ha)
    have hcell : ∀ n c, (callEnvC fd s.heap.objs.size f).cells.lookup n = some c → s.heap.objs.size < c := fun n c e => X.above n c (mem_of_lookup e)
    have body := (h ⟨callEnvC fd s.heap.objs.size f, A.deeper (callEnvC fd s.heap.objs.size f), true⟩ ⟨hk, hgl, hbl, hh, ?dep, ?un, fun n => rfl, ?cl, ?lo, x.size g⟩ rfl).run (froz H s.heap) { s with heap := h₁, toks := tk } ⟨?hp, ?loc⟩
    · exact wpAny_mono body (fun fl s' ⟨ρ', H', y, q⟩ => hR _ _ H' (x.thaw y.hp) (by cases fl <;> exact q)) fun e _ x => x.elim
    case dep => show A.depth + 1 + d < _; (clear hgl hbl hun hl htk hL; omega)
    case un => show A.units + 3 + 40 * d < _; (clear hgl hbl hdep hl htk hL; omega)
    case cl =>
      intro n e
      exact Option.isSome_iff_exists.mp (cellsFrom_cell _ _ _ n e)
    case lo =>
      intro n e
      cases q : (callEnvC fd s.heap.objs.size f).cells.lookup n with
      | none => rfl
      | some c =>
        rcases cellsFrom_mem _ _ _ _ _ (mem_of_lookup q) with m | m
        · cases m
        · exact absurd m (hok n e)
    case hp => exact (x.freeze.ext keep rfl rfl)
    case loc =>
      refine ⟨⟨_, X.toInCall.ns, fun y hy => ?_⟩, x.fresh hL, hfroz _ hL, fun y c hc => ⟨⟨_, X.cell _ _ hc, ?_⟩, x.fresh (Nat.le_of_lt (hcell _ _ hc)), Nat.ne_of_gt (hcell _ _ hc)⟩, fun _ y c hc => ⟨hfroz _ (Nat.le_of_lt (hcell _ _ hc)), fun z hz => ?_⟩⟩
      · exact argV_bindL ns cs _ _ (fun _ _ => rfl) y hy
      · refine argV_bindC ns cs _ _ (fun _ _ => rfl) y fun e => ?_
        rcases cellsFrom_mem _ _ _ _ _ (mem_of_lookup hc) with m | m
        · cases m
        · exact hok _ e m
      · exact ofString_inj (name_of_addr X.apart (mem_of_lookup hc) (mem_of_lookup hz))
structure Def (G : Glb) (f : Addr) (ns : List String) (sc : Scope) (body : List Stmt) : Prop where
  ok : ∃ o fd, G.B.get? f = some o ∧ o.data = .func fd ∧ G.B.CodeRec fd.code fd.qualname ∧ fd.body = .stmts body ∧ fd.closure = [] ∧ fd.globals = mainGlobals ∧ fd.builtins = builtinsNs ∧ fd.scope = sc ∧
    ∀ cs : List Value, cs.length = ns.length → bindArgs fd ⟨cs, []⟩ = pure ((ns.map Str.ofString).zip cs)
  lc : ∀ n ∈ ns, lc (sc.names.lookup (Str.ofString n)) = true
  nm : NamesOk sc.names
  co : sc.isCoroutine = false
  gen : sc.isGenerator = false
  kind : sc.kind = .function
theorem Def.callee {G : Glb} {f : Addr} {ns : List String} {sc : Scope} {body : List Stmt} (D : Def G f ns sc body) : Callee G (.ref f) := let ⟨o, fd, h1, h2, _⟩ := D.ok; ⟨o, fd, h1, h2⟩
theorem Def.code {G : Glb} {f : Addr} {ns : List String} {sc : Scope} {body : List Stmt} (D : Def G f ns sc body) (g : GOk G) {A : Around} {cs : List Value} {H : HA} {Q : V → HA → Prop} {d : Nat} {Z : Addr → Option Obj} {s : Shared} {R : Result → Shared → Prop}
    (x : Hp G Z H s) (hh : A.handled = none) (hdep : A.depth + (d + 1) < recursionLimit) (hun : A.units + 40 * (d + 1) < cLine) (hl : cs.length = ns.length)
    (h : ∀ F : Fm, FOk G F sc d → F.own = true → Exs G F body (argV ns (cs.map ab) noV) H (retQ Q))
    (hR : ∀ v s' H', Hp G Z H' s' → Q (ab v) H' → R (.ok (.ret v)) s') : codeAny (Md G) A (.call (.ref f) ⟨cs, []⟩) R s := by
  obtain ⟨⟨o, fd, h1, h2, h3, h4, h5, h6, h7, rfl, h8⟩, a, b, c, e, k⟩ := D
  exact Code_def g x h1 h2 h3 h4 h5 h6 h7 hh hdep hun h8 hl a b c e k h hR
theorem Def.cal {G : Glb} {f : Addr} {ns : List String} {sc sc' : Scope} {body : List Stmt} (D : Def G f ns sc body) (g : GOk G) {F : Fm} {d : Nat} (ok : FOk G F sc' (d + 1)) {vs : List V} {H : HA} {Q : V → HA → Prop} (hl : vs.length = ns.length)
    (h : ∀ F : Fm, FOk G F sc d → F.own = true → Exs G F body (argV ns vs noV) H (retQ Q)) : Cal G F (.ref f) vs H Q := fun cs hcs => by
  refine FT.of fun Z s x => ?_
  exact wpAny_call (D.code g x ok.hd ok.dep ok.un (by rw [← hl, ← hcs, List.length_map]) (by rw [hcs]; exact h) fun v s' H' y q => ⟨H', y, q⟩)
section
variable {G : Glb} {F : Fm} {ρ : Vars} {H : HA} {sc : Scope} {d : Nat} {Z : Addr → Option Obj} {s s' : Shared}
noncomputable def AsSeq (G : Glb) (F : Fm) : List Expr → List V → Vars → HA → (Vars → HA → Prop) → Prop
  | t :: ts, v :: vs, ρ, H, Q => As G F t v ρ H fun ρ1 H1 => AsSeq G F ts vs ρ1 H1 Q
  | _, _, ρ, H, Q => Q ρ H
theorem AsSeq.run : ∀ (ts : List Expr) (vs : List Value) {ρ : Vars} {H : HA} {Q : Vars → HA → Prop}, AsSeq G F ts (vs.map ab) ρ H Q → ∀ Z s, Inv G F Z ρ H s →
    wpAny (Md G) F.A (assignInOrder (ts.map fun t => assign t F.env) vs) (fun _ s' => ∃ ρ' H', Inv G F Z ρ' H' s' ∧ Q ρ' H') NoE s
  | [], vs, ρ, H, Q, h, Z, s, x => by
    have : AsSeq G F [] (vs.map ab) ρ H Q = Q ρ H := by cases vs <;> rfl
    rw [this] at h
    cases vs <;> exact wpAny_pure ⟨ρ, H, x, h⟩
  | t :: ts, [], ρ, H, Q, h, Z, s, x => wpAny_pure ⟨ρ, H, x, h⟩
  | t :: ts, v :: vs, ρ, H, Q, h, Z, s, x =>
    wpAny_bind (wpAny_holding (wpAny_mono (As.run h Z s v rfl x) (fun _ s₁ ⟨ρ1, H1, x1, h1⟩ => AsSeq.run ts vs h1 Z s₁ x1) fun _ _ e => e))
theorem Inv.ext (x : Inv G F Z ρ H s) (hk : ∀ b o, s.heap.get? b = some o → s'.heap.get? b = some o) (hg : s'.gens = s.gens) (ho : s'.os = s.os) (ht : s.toks ≤ s'.toks := by first | exact Nat.le_refl _ | exact Nat.le_succ _ | assumption | omega) : Inv G F Z ρ H s' := by
  refine ⟨x.hp.ext hk hg ho ht, ?_⟩
  obtain ⟨m, ⟨ob, es, ep, e, r⟩, hm⟩ := x.loc.ns
  refine ⟨⟨m, ⟨ob, es, ep, hk _ _ e, r⟩, hm⟩, x.loc.hL, x.loc.zL, fun y c hc => ?_, x.loc.cw⟩
  obtain ⟨⟨ov, ⟨oc, e, r⟩, q⟩, h1, h2⟩ := x.loc.cell y c hc
  exact ⟨⟨ov, ⟨oc, hk _ _ e, r⟩, q⟩, h1, h2⟩
theorem keep_of_extBut {h h' : Heap} (hx : Heap.ExtBut h.objs.size h h') : ∀ b o, h.get? b = some o → h'.get? b = some o := fun b o e => hx b o (Nat.ne_of_lt (Heap.lt_size e)) e
theorem As_Tuple (ok : FOk G F sc d) {ts : List Expr} {k} {pos : Pos} {t : Addr} {vs : List V} {Q : Vars → HA → Prop} (ht : H t = some (.tup vs)) (hl : ts.length = vs.length) (h : AsSeq G F ts vs ρ H Q)
    (he : assignEach ts F.env = ts.map fun t => (false, assign t F.env) := by rfl) : As G F (.Tuple ts k pos) (.ref t) ρ H Q := .mk fun Z s x ex X => by
  obtain rfl := ab_ref ex
  obtain ⟨us, n, e, q⟩ := X.hp.trk _ _ ht
  have hs := size_ab q
  refine wpAny_assign_Tuple ok.hd ⟨_, e, rfl, n, rfl⟩ (by rw [he, List.length_map, hs]; exact hl) ?_ fun h' hx => ?_
  · rw [he]
    apply List.findIdx?_eq_none_iff.mpr
    intro p hp
    obtain ⟨t, _, rfl⟩ := List.mem_map.mp hp
    rfl
  · have e2 : (assignEach ts F.env).map (·.2) = ts.map fun t => assign t F.env := by rw [he, List.map_map]; rfl
    rw [e2]
    subst q
    exact AsSeq.run ts us.toList h Z _ (X.ext (keep_of_extBut hx) rfl rfl)
theorem arr2 {us : Array Value} {f : Value → V} {a b : V} (q : us.toList.map f = [a, b]) : ∃ u1 u2, us = #[u1, u2] := by
  obtain ⟨l⟩ := us
  obtain ⟨u1, u2, rfl⟩ := len2 _ ((List.length_map f).symm.trans (congrArg List.length q))
  exact ⟨u1, u2, rfl⟩
theorem Ex_Swapped2 {elts k tpos value pos} {n1 n2 : String} {Q : Fl → Vars → HA → Prop} (ok : FOk G F sc d)
    (h : Ev G F value ρ H fun v H1 => ∃ t a b, v = .ref t ∧ H1 t = some (.tup [a, b]) ∧ St G F n2 b ρ H1 fun ρ2 H2 => St G F n1 a ρ2 H2 fun ρ3 H3 => Q .next ρ3 H3)
    (hs : swapsWithSole [.Tuple elts k tpos] value pos.line F.env = pure false := by rfl)
    (hw : swappedStores [.Tuple elts k tpos] value F.env = pure (some [Str.ofString n1, Str.ofString n2]) := by rfl) : Ex G F (.Assign [.Tuple elts k tpos] value pos) ρ H Q := .mk fun Z s X => by
  refine Assign_Tuple_swapped (wpAny_mono (h.run Z s X) (fun v s₁ hM => ?_) fun _ _ e => e) hs hw
  obtain ⟨H1, X1, t, a, b, e, ht, h1⟩ := hM
  obtain rfl := ab_ref e
  obtain ⟨us, n, e, q⟩ := X1.hp.trk _ _ ht
  obtain ⟨u1, u2, rfl⟩ : ∃ u1 u2, us = #[u1, u2] := by
    exact arr2 q
  simp only [List.map_cons, List.map_nil, List.cons.injEq, and_true] at q
  refine wpAny_unpackItems_tuple (items := #[u1, u2]) ok.hd ⟨_, e, rfl, n, rfl⟩ fun h' hx => ?_
  have X2 := X1.ext (s' := { s₁ with heap := h' }) (keep_of_extBut hx) rfl rfl
  show wpAny _ _ (do holding [u1] (bindName F.env (Str.ofString n2) u2); do holding [] (bindName F.env (Str.ofString n1) u1); pure ()) _ _ _
  refine wpAny_bind (wpAny_holding (bindName_ (wpAny_mono (h1.run Z _ u2 q.2 X2) (fun _ s₂ hM => ?_) fun _ _ e => e)))
  obtain ⟨ρ2, H2, X3, h2⟩ := hM
  exact wpAny_bind (wpAny_holding (bindName_ (wpAny_mono (h2.run Z _ u1 q.1 X3) (fun _ s₃ ⟨ρ3, H3, X4, h3⟩ => wpAny_pure ⟨ρ3, H3, X4, h3⟩) fun _ _ e => e)))
theorem Hp.upd (x : Hp G Z H s) (fp : List Addr) (H' : HA) (hfp : ∀ a ∈ fp, ∃ o, H a = some o) (hs : ∀ b ob, b ∉ fp → s.heap.get? b = some ob → s'.heap.get? b = some ob) (hH : ∀ a, a ∉ fp → H' a = H a)
    (hO : ∀ a ∈ fp, ∀ o, H' a = some o → OR s'.heap a o) (hg : s'.gens = s.gens) (ho : s'.os = s.os) (ht : s.toks ≤ s'.toks := by first | exact Nat.le_refl _ | exact Nat.le_succ _ | assumption | omega) : Hp G Z H' s' := by
  have nz : ∀ b o, Z b = some o → b ∉ fp := fun b o e hb => by
    obtain ⟨o', e'⟩ := hfp b hb
    rw [x.sep b o e] at e'; cases e'
  refine ⟨x.bz, fun b o e => hs b o (nz b o e) (x.fz b o e), fun b o e => by rw [hH b (nz b o e)]; exact x.sep b o e, fun a o e => ?_, hg.trans x.gens, ho.trans x.os, Nat.le_trans x.ck ht⟩
  by_cases ha : a ∈ fp
  · exact hO a ha o e
  · rw [hH a ha] at e
    exact (x.trk a o e).at fun ob => hs a ob ha
theorem Inv.upd (x : Inv G F Z ρ H s) (fp : List Addr) (H' : HA) (hfp : ∀ a ∈ fp, ∃ o, H a = some o) (hs : ∀ b ob, b ∉ fp → s.heap.get? b = some ob → s'.heap.get? b = some ob) (hH : ∀ a, a ∉ fp → H' a = H a)
    (hO : ∀ a ∈ fp, ∀ o, H' a = some o → OR s'.heap a o) (hg : s'.gens = s.gens) (ho : s'.os = s.os) (ht : s.toks ≤ s'.toks := by first | exact Nat.le_refl _ | exact Nat.le_succ _ | assumption | omega) : Inv G F Z ρ H' s' := by
  have nn : ∀ b, H b = none → b ∉ fp := fun b e hb => by
    obtain ⟨o', e'⟩ := hfp b hb
    rw [e] at e'; cases e'
  refine ⟨x.hp.upd fp H' hfp hs hH hO hg ho ht, ?_⟩
  obtain ⟨m, ⟨ob, es, ep, e, r⟩, hm⟩ := x.loc.ns
  refine ⟨⟨m, ⟨ob, es, ep, hs _ _ (nn _ x.loc.hL) e, r⟩, hm⟩, by rw [hH _ (nn _ x.loc.hL)]; exact x.loc.hL, x.loc.zL, fun y c hc => ?_, x.loc.cw⟩
  obtain ⟨⟨ov, ⟨oc, e, r⟩, q⟩, h1, h2⟩ := x.loc.cell y c hc
  exact ⟨⟨ov, ⟨oc, hs _ _ (nn _ h1) e, r⟩, q⟩, by rw [hH _ (nn _ h1)]; exact h1, h2⟩
theorem Cal_enumerate {l : Addr} {xs : List V} {Q : V → HA → Prop} (hl : H l = some (.list xs)) (h : ∀ e it, e ≠ it → H e = none → H it = none → Q (.ref e) ((H.set it (.iter l 0)).set e (.enumr it 0))) : Cal G F (.type "enumerate") [.ref l] H Q := fun cs hcs => by
  obtain ⟨x, rfl, e⟩ := args1 hcs
  obtain rfl := ab_ref e
  refine FT.of fun Z s X => ?_
  obtain ⟨vs, lv, q⟩ := (X.trk _ _ hl).isList
  refine call_enumerate_list lv fun h' hE hI hz keep => ?_
  have X' : Hp G Z H { s with heap := h' } := X.ext keep rfl rfl
  have z1 : Z s.heap.objs.size = none := X.zfresh (Nat.le_refl _)
  have z2 : Z (s.heap.objs.size + 1 : Nat) = none := X.zfresh (Nat.le_succ _)
  refine ⟨_, (X'.track (o := .iter l 0) z1 hI).track (o := .enumr s.heap.objs.size 0) z2 ⟨_, hE⟩, h _ _ (Nat.succ_ne_self _) (X.fresh (Nat.le_succ _)) (X.fresh (Nat.le_refl _))⟩
theorem Ex_ForEnum {xi xv : String} {pi pv pt : Pos} {k} {iter : Expr} {body orelse : List Stmt} {pos : Pos} {Q : Fl → Vars → HA → Prop} (ok : FOk G F sc d)
    (h : Ev G F iter ρ H fun xv' H1 => ∃ e it l xs, xv' = .ref e ∧ e ≠ it ∧ ∃ Iv : Nat → Vars → HA → Prop, Iv 0 ρ H1 ∧ (∀ i ρ H, Iv i ρ H → H e = some (.enumr it i) ∧ H it = some (.iter l i) ∧ H l = some (.list xs)) ∧
      (∀ i v, xs[i]? = some v → ∀ ρ1 H1, Iv i ρ1 H1 → AsSeq G F [.Name (Str.ofString xi) pi, .Name (Str.ofString xv) pv] [.int i, v] ρ1 ((H1.set e (.enumr it (i + 1))).set it (.iter l (i + 1))) fun ρ2 H2 =>
        Exs G F body ρ2 H2 fun fl ρ3 H3 => match fl with | .next | .cont => Iv (i + 1) ρ3 H3 | .brk => Q .next ρ3 H3 | .ret v => Q (.ret v) ρ3 H3) ∧
      (∀ i ρ1 H1, xs[i]? = none → ¬ Iv i ρ1 H1))
    (hs : ∀ x, foldedSetIterable iter F.env x = pure x := by intro _; rfl) : Ex G F (.For (.Tuple [.Name (Str.ofString xi) pi, .Name (Str.ofString xv) pv] k pt) iter body orelse pos) ρ H Q := .mk fun Z s X => by
  refine wpAny_For (wpAny_mono (h.run Z s X) (fun xv' s₁ hM => ?_) fun _ _ e => e) hs
  obtain ⟨H1, X1, e, it, l, xs, ee, hei, Iv, h0, hI, hb, hend⟩ := hM
  obtain rfl := ab_ref ee
  obtain ⟨g1, g2, g3⟩ := hI 0 _ _ h0
  obtain ⟨old, hE⟩ := X1.hp.trk _ _ g1
  refine wpAny_pyIter_enum hE ?_
  refine codeAny_forLoop_any (fun n s' => ∃ i ρ' H', n = xs.length - i ∧ Inv G F Z ρ' H' s' ∧ Iv i ρ' H') (fun n s' hn => ?_) (xs.length - 0) ⟨0, ρ, H1, rfl, X1, h0⟩
  obtain ⟨i, ρ', H', rfl, X', hv⟩ := hn
  obtain ⟨g1, g2, g3⟩ := hI i _ _ hv
  obtain ⟨vs, lv, q⟩ := (X'.hp.trk _ _ g3).isList
  obtain ⟨old, hE⟩ := X'.hp.trk _ _ g1
  have hit := X'.hp.trk _ _ g2
  have hx := getElem?_ab q i
  cases hv' : xs[i]? with
  | none => exact absurd hv (hend i _ _ hv')
  | some v =>
    rw [hv'] at hx
    cases hc : vs[i]? with
    | none => rw [hc] at hx; cases hx
    | some c =>
      rw [hc] at hx
      have hcv : ab c = v := by cases hx; rfl
      have hlt : i < xs.length := (List.getElem?_eq_some_iff.mp hv').1
      refine wpAny_pyNext_enum_item hE hit lv hc hei fun h₁ heo hit₁ ht₁ hz₁ hk₁ => ?_
      refine wpAny_letOwnedTupleGo_enum heo fun h₂ he₂ hs₂ => ?_
      replace hs₂ : Heap.SameBut e h₁ h₂ := hs₂
      have heH : e < s'.heap.objs.size := Heap.lt_size hE
      have ht₂ : h₂.IsTuple s'.heap.objs.size #[.int i s'.toks, c] := ⟨_, (hs₂.2 _ (Nat.ne_of_gt heH)).trans ht₁, rfl, _, rfl⟩
      have X2 : Inv G F Z ρ' ((H'.set e (.enumr it (i + 1))).set it (.iter l (i + 1))) { s' with heap := h₂, toks := s'.toks + 1 } := by
        refine X'.upd [e, it] _ (fun a ha => ?_) (fun b ob hb eb => ?_) (fun a ha => ?_) (fun a ha o ho => ?_) rfl rfl
        · rcases List.mem_cons.mp ha with rfl | ha
          · exact ⟨_, g1⟩
          · rw [List.mem_singleton.mp ha]; exact ⟨_, g2⟩
        · simp only [List.mem_cons, not_or] at hb
          exact (hs₂.2 b hb.1).trans (hk₁ b ob hb.1 (by simpa using hb.2) eb)
        · simp only [List.mem_cons, not_or] at ha
          rw [HA.set_ne (by simpa using ha.2), HA.set_ne ha.1]
        · rcases List.mem_cons.mp ha with rfl | ha
          · rw [HA.set_ne hei, HA.set_self] at ho
            cases ho
            exact ⟨_, he₂⟩
          · have ha := List.mem_singleton.mp ha
            subst ha
            rw [HA.set_self] at ho
            cases ho
            exact hit₁.extBut hs₂.extBut (Ne.symm hei)
      refine wpAny_assign_Tuple ok.hd ht₂ rfl rfl fun h₃ hx₃ => ?_
      have X3 := X2.ext (s' := { s' with heap := h₃, toks := s'.toks + 1 }) (keep_of_extBut hx₃) rfl rfl
      have hb' := hb i v hv' ρ' H' hv
      have ev : ([Value.int i s'.toks, c] : List Value).map ab = [.int i, v] := by rw [List.map_cons, List.map_cons, List.map_nil, hcv]; rfl
      rw [← ev] at hb'
      refine wpAny_mono (AsSeq.run _ [Value.int i s'.toks, c] hb' Z _ X3) (fun _ s₄ ⟨ρ2, H2, X4, h4⟩ => wpAny_mono (h4.run Z s₄ X4) (fun fl s₅ hM => ?_) fun _ _ e => e.elim) fun _ _ e => e.elim
      obtain ⟨ρ3, H3, X5, h5⟩ := hM
      cases fl with
      | next => exact ⟨xs.length - (i + 1), by (clear hei hz₁ heH; omega), i + 1, ρ3, H3, rfl, X5, h5⟩
      | cont => exact ⟨xs.length - (i + 1), by (clear hei hz₁ heH; omega), i + 1, ρ3, H3, rfl, X5, h5⟩
      | brk => exact ⟨ρ3, H3, X5, h5⟩
      | ret v => exact ⟨ρ3, H3, X5, h5⟩
theorem Cal_iter {l : Addr} {xs : List V} {Q : V → HA → Prop} (hl : H l = some (.list xs)) (h : ∀ q, H q = none → Q (.ref q) (H.set q (.iter l 0))) : Cal G F (.builtin "iter") [.ref l] H Q := fun cs hcs => by
  obtain ⟨x, rfl, e⟩ := args1 hcs
  obtain rfl := ab_ref e
  refine FT.of fun Z s X => ?_
  obtain ⟨vs, lv, q⟩ := (X.trk _ _ hl).isList
  refine call_function_entry (by decide +kernel) (by decide +kernel) kdk_entry_iter (kdk_args_iter _) ?_
  unfold Builtin.«iter»
  refine wpAny_bind (m := someArgs "iter" 1 2 _) (wpAny_of_eq (a := [Value.ref l]) (by first | rfl | kernel_rfl!) ?_)
  show wpAny _ _ (pyIter (.ref l) >>= _) _ _ _
  refine wpAny_bind (wpAny_pyIter_list lv ?_)
  exact wpAny_pure ⟨_, rfl, _, X.alloc (o := .iter l 0) (fun _ _ e => Heap.get?_push_of_some _ e) (Nat.le_refl _) ⟨_, Heap.get?_push_size _ rfl, rfl, rfl⟩ rfl rfl, h _ (X.fresh (Nat.le_refl _))⟩
theorem Cal_next {l it : Addr} {i : Nat} {xs : List V} {v : V} {Q : V → HA → Prop} (hi : H it = some (.iter l i)) (hl : H l = some (.list xs)) (hx : xs[i]? = some v) (h : Q v (H.set it (.iter l (i + 1)))) : Cal G F (.builtin "next") [.ref it] H Q := fun cs hcs => by
  obtain ⟨x, rfl, e⟩ := args1 hcs
  obtain rfl := ab_ref e
  refine FT.of fun Z s X => ?_
  obtain ⟨vs, lv, q⟩ := (X.trk _ _ hl).isList
  have hit : s.heap.IsListIter it l i := X.trk _ _ hi
  have e := getElem?_ab q i
  rw [hx] at e
  cases e' : vs[i]? with
  | none => rw [e'] at e; cases e
  | some c =>
    rw [e'] at e
    have ev : ab c = v := by cases e; rfl
    refine call_function_entry (by decide +kernel) (by decide +kernel) kdk_entry_next (kdk_args_next _) ?_
    unfold Builtin.«next»
    refine wpAny_bind (m := someArgs "next" 1 2 _) (wpAny_of_eq (a := [Value.ref it]) (by first | rfl | kernel_rfl!) ?_)
    dsimp only
    refine wpAny_bind (wpAny_specialOf (name := Str.ofString "__next__") hit.typeIs slot_listiter_next.lookup ?_)
    refine wpAny_ite_split (fun hab => absurd hab (by decide)) (fun _ => ?_)
    obtain ⟨o, ho, hc, hd⟩ := id hit
    obtain ⟨ol, hol, _, nl, hdl⟩ := id lv
    refine wpAny_bind (wpAny_callSpecial?_slot (name := Str.ofString "__next__") hit.typeIs slot_listiter_next
      (wpAny_call_entry slot_listiter_next hit.typeIs entry_listiter_next ?_ (args_listiter_next _)))
    show wpAny _ _ (field (.ref it) 0 >>= _) _ _ s
    refine wpAny_bind (wpAny_field ho hd (x := .ref l) rfl ?_)
    show wpAny _ _ (if (Value.ref l == Value.none) = true then _ else _) _ _ s
    rw [if_neg (show ¬ ((Value.ref l == Value.none) = true) from Bool.false_ne_true)]
    show wpAny _ _ (field (.ref it) 1 >>= _) _ _ s
    refine wpAny_bind (wpAny_field ho hd (x := .int i 0) rfl ?_)
    show wpAny _ _ (seqItems? (.ref l) >>= _) _ _ s
    refine wpAny_bind (wpAny_seqItems hol hdl ?_)
    simp only [Int.toNat_natCast, e']
    have hne : l ≠ it := by rintro rfl; rw [hi] at hl; cases hl
    refine wpAny_bind (wpAny_setField ho hd (by simp) (wpAny_pure ⟨c, rfl, wpAny_pure ⟨_, rfl, _, X.mut (o := .iter l (i + 1)) hi (fun b ob hb eb => ?_) ?_ rfl rfl, by show Q (ab c) _; rw [ev]; exact h⟩⟩))
    · exact ((Heap.SameBut.update ..).2 b hb).trans eb
    · exact ⟨_, Heap.get?_update_self _ ho (Obj.isFreed_of_fields (Obj.data_mapFields hd _)), (Obj.cls_mapFields ..).trans hc, by rw [Obj.data_mapFields hd]; simp [rawInt]⟩
end
end Mine
namespace Mine
variable [HasP]
section
variable {G : Glb} {F : Fm} {ρ : Vars} {H : HA} {sc : Scope} {d : Nat} {Z : Addr → Option Obj} {s s' : Shared} {K : Frag} {C : Addr}
theorem keyS_str {v : Value} {x : Str} (h : keyS v = some x) : ∃ t, v = .str x t := by cases v <;> simp [keyS] at h; exact ⟨_, by rw [h]⟩
theorem isStr_str (x y : Str) (t : Tok) : (Value.str x t).isStr y = (x == y) := rfl
theorem Attrs.get : ∀ {es : List DictEntry} {l : List (String × V)} {n : String}, Attrs es l → ∃ o, getL (Str.ofString n) es = some o ∧ o.map ab = l.lookup n
  | [], [], n, h => ⟨none, rfl, rfl⟩
  | [], p :: l, n, h => by simp [Attrs] at h
  | e :: es, [], n, h => by simp [Attrs] at h
  | e :: es, (k, v) :: l, n, h => by
    simp only [Attrs, List.map_cons, List.cons.injEq, Prod.mk.injEq] at h
    obtain ⟨⟨h1, h2⟩, h3⟩ := h
    obtain ⟨t, ht⟩ := keyS_str h1
    unfold getL
    rw [List.find?_cons, List.lookup_cons, ht, isStr_str]
    by_cases hk : n = k
    · subst hk
      simp only [beq_self_eq_true]
      exact ⟨some e.val, rfl, by rw [Option.map_some, h2]⟩
    · have e1 : (Str.ofString k == Str.ofString n) = false := beq_eq_false_iff_ne.mpr fun q => hk (ofString_inj q).symm
      have e2 : (n == k) = false := beq_eq_false_iff_ne.mpr hk
      rw [e1, e2]
      obtain ⟨o, ho, hq⟩ := Attrs.get (n := n) (show Attrs es l from h3)
      unfold getL at ho
      have e3 : (e :: es).any (·.refKey) = es.any (·.refKey) := by rw [List.any_cons]; unfold DictEntry.refKey; rw [ht]; rfl
      rw [e3]
      exact ⟨o, ho, hq⟩
theorem Attrs.put : ∀ {es : List DictEntry} {l : List (String × V)} {n : String} {hs : Int} {t : Tok} {v : Value}, Attrs es l → l.lookup n = none → Attrs (putL (Str.ofString n) hs (.str (Str.ofString n) t) v es) (l ++ [(n, ab v)])
  | [], [], n, hs, t, v, h, hl => by simp [Attrs, putL, keyS]
  | [], p :: l, n, hs, t, v, h, hl => by simp [Attrs] at h
  | e :: es, [], n, hs, t, v, h, hl => by simp [Attrs] at h
  | e :: es, (k, u) :: l, n, hs, t, v, h, hl => by
    simp only [Attrs, List.map_cons, List.cons.injEq, Prod.mk.injEq] at h
    obtain ⟨⟨h1, h2⟩, h3⟩ := h
    obtain ⟨t', ht⟩ := keyS_str h1
    rw [List.lookup_cons] at hl
    have hk : n ≠ k := by rintro rfl; simp at hl
    have e2 : (n == k) = false := beq_eq_false_iff_ne.mpr hk
    rw [e2] at hl
    have e1 : (Str.ofString k == Str.ofString n) = false := beq_eq_false_iff_ne.mpr fun q => hk (ofString_inj q).symm
    have ih := Attrs.put (n := n) (hs := hs) (t := t) (v := v) (show Attrs es l from h3) hl
    unfold putL
    rw [ht, isStr_str, e1]
    simp only [Attrs, Bool.false_eq_true, if_false, List.map_cons, List.cons_append, List.cons.injEq, Prod.mk.injEq] at ih ⊢
    exact ⟨⟨h1, h2⟩, ih⟩
theorem putL_len (n : Str) (hs : Int) (k v : Value) : ∀ es : List DictEntry, (putL n hs k v es).length ≤ es.length + 1
  | [] => by simp [putL]
  | e :: es => by
    unfold putL
    split
    · simp
    · simp only [List.length_cons]; have := putL_len n hs k v es; exact Nat.succ_le_succ this
theorem Attrs.len {es : List DictEntry} {l : List (String × V)} (h : Attrs es l) : es.length = l.length := by
  have := congrArg List.length h; simpa using this
theorem inst_at {a dd : Addr} {l : List (String × V)} (X : Hp G Z H s) (hi : H a = some (.inst C dd)) (hd : H dd = some (.attrs l)) : ∃ es n, InstAt s.heap a { cls := .ref C, dict := some dd, data := .plain } C (some (dictOf es n)) ∧ Attrs es l ∧ s.heap.get? dd = some (dictOf es n) := by
  obtain ⟨es, n, e, q⟩ := X.trk _ _ hd
  exact ⟨es, n, ⟨X.trk _ _ hi, rfl, rfl, e⟩, q, e⟩
theorem K_in (X0 : K.In G.B) (x : Hp G Z H s) : K.In s.heap := fun a o e => x.base _ _ (X0 a o e)
noncomputable def handV : V → Bool
  | .int _ | .str _ | .bool _ | .ref _ | .none => true
  | _ => false
theorem handV_of {v : Value} (h : handV (ab v) = true) : handedIn v = true := by cases v <;> first | rfl | (simp [ab, handV] at h)
theorem GetA_own (X0 : K.In G.B) {a dd : Addr} {l : List (String × V)} {n : String} {v : V} {attr : Option Value} {Q : V → HA → Prop} (hi : H a = some (.inst C dd)) (hd : H dd = some (.attrs l)) (hl : l.lookup n = some v) (hv : handV v = true)
    (hg : plainGet K C (Str.ofString n) = true) (hh : hasDictIn K C = true) (ha : findIn K (.ref C) (Str.ofString n) = some attr) (hn : noGet K attr = true) (h : Q v H) : GetA G F (.ref a) (Str.ofString n) H Q := fun x ex => .mk fun Z ρ s X => by
  obtain rfl := ab_ref ex
  obtain ⟨es, m, I, q, _⟩ := inst_at X.hp hi hd
  obtain ⟨o, ho, hq⟩ := q.get (n := n)
  rw [hl] at hq
  cases o with
  | none => cases hq
  | some u =>
    have hu : ab u = v := by cases hq; rfl
    refine get_value (K_in X0 X.hp) I (plainGet_of hg).1 (findObj_own hh ha hn ho) (handV_of (by rw [hu]; exact hv)) ⟨H, X.toks _, ?_⟩
    show Q (ab u) H
    rw [hu]; exact h
theorem SetA_own (ok : FOk G F sc d) (X0 : K.In G.B) {a dd : Addr} {l : List (String × V)} {n : String} {v : V} {Q : HA → Prop} (hi : H a = some (.inst C dd)) (hd : H dd = some (.attrs l)) (hl : l.lookup n = none) (hz : l.length ≤ 100)
    (hs : findIn K (.ref C) "__setattr__" = some (some (.builtin "object.__setattr__"))) (hp : plainOver K C = true) (ht : takerIn K C (Str.ofString n) = some none) (hh : hasDictIn K C = true)
    (h : Q (H.set dd (.attrs (l ++ [(n, v)])))) : SetA G F (.ref a) (Str.ofString n) v H Q := fun x z ex ez => .mk fun Z ρ s X => by
  obtain rfl := ab_ref ex
  obtain ⟨es, m, I, q, e⟩ := inst_at X.hp hi hd
  obtain ⟨o, ho, hq⟩ := q.get (n := n)
  obtain ⟨mm, news, f, N, hne, mem, back⟩ := X.ledAt ok hd e
  refine set_dict f X0 N I rfl hs hp ht hh (by rw [ho]; rfl) rfl (Upd.head hne) ?_ fun h' f' N' => ⟨_, back h' _ _ (.attrs (l ++ [(n, v)])) (Nat.le_add_right _ _) f' N' ⟨_, _, (N' _ List.mem_cons_self).1, ?_⟩, h⟩
  · have := putL_len (Str.ofString n) (PyData.keyHash G.w.params (Str.ofString n)) (.str (Str.ofString n) (s.toks + 1)) z es
    have := q.len
    omega
  · subst ez
    exact q.put hl
theorem GetA_cls (X0 : K.In G.B) {n : Str} {v : Value} {Q : V → HA → Prop} {mc : Value} (hr : readsIn K C mc = true) (e : findCls K (.ref C) mc n = some (.val v)) (hh : handedIn v = true) (h : Q (ab v) H) : GetA G F (.ref C) n H Q := fun x ex => .mk fun Z ρ s X => by
  obtain rfl := ab_ref ex
  exact cls_value (K_in X0 X.hp) hr e hh ⟨H, X.toks _, h⟩
structure MethP (G : Glb) (F : Fm) (ρ : Vars) (C : Addr) (name : Str) (f : Addr) (args : List Expr) (Q : V → HA → Prop) (ov : V) (H1 : HA) (a dd : Addr) (l : List (String × V)) (n : String) : Prop where
  ev : ov = .ref a
  i : H1 a = some (.inst C dd)
  d : H1 dd = some (.attrs l)
  nm : name = Str.ofString n
  lk : l.lookup n = none
  as : Evs G F args ρ H1 (kCalM G F (.ref f) Q ov)
noncomputable abbrev kMethK (G : Glb) (F : Fm) (ρ : Vars) (C : Addr) (name : Str) (f : Addr) (args : List Expr) (Q : V → HA → Prop) : V → HA → Prop := fun ov H1 => ∃ a dd l n, MethP G F ρ C name f args Q ov H1 a dd l n
theorem Ev_MethodK (X0 : K.In G.B) {o : Expr} {name : Str} {apos pos : Pos} {args : List Expr} {f : Addr} {Q : V → HA → Prop} (hg : plainGet K C name = true) (hf : findIn K (.ref C) name = some (some (.ref f))) (ht : isFn K (.ref f) = true) (hc : Callee G (.ref f))
    (h : Ev G F o ρ H (kMethK G F ρ C name f args Q))
    (he : ∃ pl, eval (.Call (.Attribute o name apos) args [] pos) F.env = (do
      let ov ← eval o F.env
      standAt apos.atName
      let (f, first) ← holding [ov] (getMethod ov name pl)
      callWith pos f first (backTo pos (starEach args F.env)) (backToKw pos (keywordEach [] F.env))) := by exact ⟨_, rfl⟩)
    (hplain : (backTo pos (starEach args F.env)).any (·.1) = false := by rfl) : Ev G F (.Call (.Attribute o name apos) args [] pos) ρ H Q := .mk fun Z s X => by
  obtain ⟨pl, he⟩ := he
  refine methodCall_KW (kws := []) (pl := pl) (wpAny_mono (h.run Z s X) (fun ov s₁ hM => ?_) fun _ _ e => e) he
  obtain ⟨H1, X1, a, dd, l, n, ev, hi, hd, hn, hl, h1⟩ := hM
  subst hn
  obtain rfl := ab_ref ev
  obtain ⟨es, m, I, q, _⟩ := inst_at X1.hp hi hd
  obtain ⟨o', ho, hq⟩ := q.get (n := n)
  rw [hl] at hq
  have ho' : o' = none := by cases o' with
    | none => rfl
    | some u => cases hq
  subst ho'
  refine method_fn (K_in X0 X1.hp) I (plainGet_of hg).1 (plainGet_of hg).2 hf (beq_iff_eq.mp ht) (by show (lookIn _ (dictOf es m)).map _ = _; rw [lookIn_dict, ho]; rfl) ?_
  exact callWith_V (G := G) hc hplain (wpAny_mono (h1.run Z s₁ pos X1) (fun vs s₂ ⟨H2, X2, h2⟩ => ⟨X2.hp.base, ((h2 (Value.ref a :: vs) rfl).run Z _ _ X2)⟩) fun _ _ e => e)
theorem Ev_New (ok : FOk G F sc (d + 2)) (g : GOk G) (X0 : K.In G.B) {n : Str} {np pos : Pos} {args : List Expr} {fI : Addr} {ns : List String} {sc' : Scope} {body : List Stmt} {Q : V → HA → Prop} (hv : GV G n (.ref C)) (D : Def G fI ns sc' body)
    (hkeep : keepIn K (.ref C) = true) (hm : makesIn K C = true) (hi : findIn K (.ref C) "__init__" = some (some (.ref fI))) (hf : typeIn K (.ref fI) = some (.type "function"))
    (h : Evs G F args ρ H fun vs H1 => vs.length + 1 = ns.length ∧ ∀ x dd, H1 x = none → H1 dd = none → x ≠ dd → ∀ F' : Fm, FOk G F' sc' d → F'.own = true →
      Exs G F' body (argV ns (.ref x :: vs) noV) ((H1.set dd (.attrs [])).set x (.inst C dd)) fun fl _ H' => (match fl with | .ret v => v | _ => .none) = .none ∧ Q (.ref x) H')
    (hk : sc.names.lookup n = some .globalImplicit := by decide +kernel)
    (hplain : (backTo pos (starEach args F.env)).any (·.1) = false := by rfl) (hd : (n == ("__debug__" : Str)) = false := by decide +kernel) : Ev G F (.Call (.Name n np) args [] pos) ρ H Q := .mk fun Z s X => by
  refine wpAny_Call_NameR ?_
  have fin : wpAny (Md G) F.A (callWith pos (.ref C) [] (backTo pos (starEach args F.env)) []) (IQ G F Z ρ (VQ Q)) NoE s := by
    refine callWith_of (P := K.In) (by rw [hplain]; rfl) (keeps_K hkeep) ?_
    refine evalArgs_any hplain (wpAny_mono (h.run Z s pos X) (fun vs s₁ ⟨H1, X1, hl, h1⟩ => ⟨K_in X0 X1.hp, ?_⟩) fun _ _ e => e)
    refine wpAny_call ?_
    obtain ⟨m, news, f, N, mem, back⟩ := X1.led2 ok
    refine make_K f N (K_in X0 X1.hp) hm hi hf fun x dx h' f' N' hlt hxd => ?_
    obtain ⟨Y, ext⟩ := back h' s₁.toks _ (Nat.le_refl _) f' N' fun p hp => List.mem_cons_of_mem _ (List.mem_cons_of_mem _ hp)
    have e1 := N' _ List.mem_cons_self
    have e2 := N' _ (List.mem_cons_of_mem _ List.mem_cons_self)
    have new : ∀ q : Addr, G.B.get? q = none → q ≠ F.env.locals → dx ≤ q → s₁.heap.get? q = none := fun q hB hL hq => by
      cases e : s₁.heap.get? q with
      | none => rfl
      | some o => exact absurd (hlt _ (mem q o hL hB e)) (Nat.not_lt.mpr hq)
    have nd := new dx e2.2.2 e2.2.1 (Nat.le_refl _)
    have nx := new x e1.2.2 e1.2.1 (Nat.le_of_lt hxd)
    have offOf : ∀ q : Addr, s₁.heap.get? q = none → q ≠ F.env.locals → Off F Z q := fun q hq hL => by
      refine ⟨?_, hL, fun y c hc => ?_⟩
      · cases e : Z q with
        | none => rfl
        | some o => have := X1.hp.fz _ _ e; rw [hq] at this; cases this
      · rintro rfl
        obtain ⟨⟨ov, ⟨o, e, _⟩, _⟩, _⟩ := X1.loc.cell y _ hc
        rw [hq] at e; cases e
    have hn : ∀ q : Addr, s₁.heap.get? q = none → H1 q = none := fun q hq => by
      cases e : H1 q with
      | none => rfl
      | some o => obtain ⟨ob, e'⟩ := (X1.hp.trk _ _ e).get; rw [hq] at e'; cases e'
    have Y2 := (Y.track (o := .attrs []) (offOf dx nd e2.2.1) ⟨[], 0, e2.1, rfl⟩).track (o := .inst C dx) (offOf x nx e1.2.1) e1.1
    have hxn : x ≠ dx := Nat.ne_of_gt hxd
    have hdep := ok.dep
    have hun := ok.un
    have hq := h1 x dx (hn x nx) (hn dx nd) hxn
    refine D.code g (d := d) (Q := fun v H' => v = .none ∧ Q (.ref x) H') Y2.hp.freeze ok.hd (by show F.A.depth + 1 + (d + 1) < _; (clear hl hxd e1 e2 hxn hun; omega)) (by show F.A.units + (Code.builtin "type.__call__" _).cUnits + 40 * (d + 1) < _; have hcu : ∀ a, (Code.builtin "type.__call__" a).cUnits ≤ 10 := fun a => (by decide +kernel : (Code.builtin "type.__call__" ⟨[], []⟩).cUnits ≤ 10); exact Nat.lt_of_le_of_lt (Nat.add_le_add_right (Nat.add_le_add_left (hcu _) _) _) (show F.A.units + 10 + 40 * (d + 1) < cLine by (clear hl hxd e1 e2 hxn hdep; omega))) (by simp at hl ⊢; assumption) ?_ fun v s' H' y q => ?_
    · have ea : (Value.ref x :: ([] ++ vs)).map ab = .ref x :: vs.map ab := by simp [ab]
      rw [ea]
      exact hq
    · exact ⟨ab_none q.1, H', Y2.thaw y, q.2⟩
  have gl : s.heap.Ns F.env.globals G.mg := by rw [ok.gl]; exact g.g.keeps X.hp.base
  have bl : s.heap.Ns F.env.builtins G.mb := by rw [ok.bl]; exact g.b.keeps X.hp.base
  rcases hv with hv | ⟨hm, hv⟩
  · exact Calls.Name_function_global ok.fn ((ok.sco _).trans hk) (Calls.loadGlobal_global gl hv fin) hd
  · exact Calls.Name_function_global ok.fn ((ok.sco _).trans hk) (Calls.loadGlobal_builtin gl hm bl hv fin) hd
end
end Mine
namespace Mine
noncomputable def FB (i : Nat) : List Stmt := match PySem.Challenge.pw_tc0075_01.main.body[i]? with
  | some (.FunctionDef _ _ b _ _ _ _ _ _ _) => b
  | _ => []
noncomputable def FS (i : Nat) : Scope := match PySem.Challenge.pw_tc0075_01.main.body[i]? with
  | some (.FunctionDef _ _ _ _ _ _ s _ _ _) => s
  | _ => default
noncomputable def clsB : List Stmt := match PySem.Challenge.pw_tc0075_01.main.body[(22 : Nat)]? with
  | some (.ClassDef _ _ _ b _ _ _ _ _ _ _) => b
  | _ => []
noncomputable def MB (i : Nat) : List Stmt := match clsB[i]? with
  | some (.FunctionDef _ _ b _ _ _ _ _ _ _) => b
  | _ => []
noncomputable def MS (i : Nat) : Scope := match clsB[i]? with
  | some (.FunctionDef _ _ _ _ _ _ s _ _ _) => s
  | _ => default
noncomputable def mgL : List (String × Option Value) := [("add", some (.ref 43)), ("floordiv", some (.ref 50)), ("lshift", some (.ref 57)), ("mul", some (.ref 64)), ("neg", some (.ref 71)), ("or_", some (.ref 78)),
  ("sub", some (.ref 85)), ("xor", some (.ref 92)), ("getitem", some (.ref 99)), ("indexOf", some (.ref 106)), ("in_table_b1", some (.ref 124)), ("map_table_b3", some (.ref 170)), ("_law_typed", some (.ref 243)),
  ("_law_prepared", some (.ref 250)), ("_law_octets", some (.ref 257)), ("_law_apart", some (.ref 262)), ("_law_determinant", some (.ref 267)), ("law", some (.ref 272)), ("pretty_flags", some (.ref 29)), ("_parse_varint", some (.ref 36)),
  ("Whitespace", some (.ref 232)), ("COMPILER_FLAG_NAMES", some (.ref 22)), ("b1_set", some (.ref 114)), ("b3_exceptions", some (.ref 125)),
  ("range", none), ("len", none), ("max", none), ("hex", none), ("ord", none), ("chr", none), ("next", none), ("iter", none), ("enumerate", none), ("list", none), ("tuple", none), ("sum", none), ("abs", none), ("isinstance", none), ("int", none), ("set", none), ("StopIteration", none), ("ValueError", none)]
noncomputable def cfn (k : Int) : Option Str := (([(1, "OPTIMIZED"), (2, "NEWLOCALS"), (4, "VARARGS"), (8, "VARKEYWORDS"), (16, "NESTED"), (32, "GENERATOR"), (64, "NOFREE"), (128, "COROUTINE"), (256, "ITERABLE_COROUTINE"), (512, "ASYNC_GENERATOR")] : List (Int × String)).lookup k).map Str.ofString
noncomputable def besideL : List Int := [172, 174, 846, 848, 6149, 6151, 6154, 6158, 8202, 8206, 8287, 8289, 65023, 65040, 65278, 65280]
noncomputable def plainL : List Int := [9, 32] ++ ((List.range 26).map fun i : Nat => (65 + i : Int)) ++ ((List.range 26).map fun i : Nat => (97 + i : Int)) ++ besideL
noncomputable def blockL : List Int := [0, 1, 2, 4, 7, 8, 9, 10, 11, 12]
noncomputable def hiddenL : List Int := [173, 847, 6150, 6155, 6156, 6157, 8203, 8204, 8205, 8288, 65279] ++ (List.range 16).map fun i : Nat => (65024 + i : Int)
structure Kn (G : Glb) : Prop where
  g : GOk G
  mgs : ∀ p ∈ mgL, G.mg (Str.ofString p.1) = p.2
  d_add : Def G 43 ["a", "b"] (FS 6) (FB 6)
  d_floordiv : Def G 50 ["a", "b"] (FS 7) (FB 7)
  d_lshift : Def G 57 ["a", "b"] (FS 8) (FB 8)
  d_mul : Def G 64 ["a", "b"] (FS 9) (FB 9)
  d_neg : Def G 71 ["a"] (FS 10) (FB 10)
  d_or : Def G 78 ["a", "b"] (FS 11) (FB 11)
  d_sub : Def G 85 ["a", "b"] (FS 12) (FB 12)
  d_xor : Def G 92 ["a", "b"] (FS 13) (FB 13)
  d_getitem : Def G 99 ["a", "b"] (FS 14) (FB 14)
  d_indexOf : Def G 106 ["a", "b"] (FS 15) (FB 15)
  d_flags : Def G 29 ["flags"] (FS 3) (FB 3)
  d_varint : Def G 36 ["iterator"] (FS 4) (FB 4)
  d_b1 : Def G 124 ["code"] (FS 18) (FB 18)
  d_b3 : Def G 170 ["code"] (FS 20) (FB 20)
  d_typed : Def G 243 ["text", "number"] (FS 24) (FB 24)
  d_prepared : Def G 250 ["text"] (FS 25) (FB 25)
  d_octets : Def G 257 ["weights"] (FS 26) (FB 26)
  d_apart : Def G 262 ["ways", "trails", "weights", "base", "least"] (FS 27) (FB 27)
  d_det : Def G 267 ["table"] (FS 28) (FB 28)
  d_law : Def G 272 ["script"] (FS 29) (FB 29)
  d_init : Def G 187 ["self", "ws"] (MS 1) (MB 1)
  d_longest : Def G 194 ["self"] (MS 2) (MB 2)
  d_indent : Def G 201 ["self", "tabsize"] (MS 3) (MB 3)
  d_less : Def G 222 ["self", "other"] (MS 6) (MB 6)
  flags : ∃ f, G.B.MapOf (intKind G.p G.w) 22 f ∧ ∀ k, match cfn k with
    | none => f k = none
    | some nm => ∃ t, 1 ≤ t ∧ t < 2513 ∧ f k = some (.str nm t)
  b3 : ∃ f, G.B.MapOf (intKind G.p G.w) 125 f ∧ (∀ k ∈ plainL, f k = none) ∧ ∀ t ∈ blockL, ∀ i : Nat, i < 26 → ∃ tk, 1 ≤ tk ∧ tk < 2513 ∧ f (119808 + 52 * t + i) = some (.str ⟨#[97 + i]⟩ tk)
  booked : NoneBooked G.B
  b1 : ∃ n, G.B.SetOf (intKind G.p G.w) 114 (fun k => hiddenL.contains k) n
variable [HasP]
theorem Kn.gv {G : Glb} (k : Kn G) {n : String} {v : Value} (h : mgL.lookup n = some (some v)) : GV G (Str.ofString n) v := by
  have : ∀ (l : List (String × Option Value)), l.lookup n = some (some v) → (n, some v) ∈ l := by
    intro l
    induction l with
    | nil => intro h; cases h
    | cons p l ih =>
      intro h
      obtain ⟨a, b⟩ := p
      rw [List.lookup_cons] at h
      cases e : n == a with
      | true => rw [e] at h; cases h; rw [beq_iff_eq.mp e]; exact List.mem_cons_self
      | false => rw [e] at h; exact List.mem_cons_of_mem _ (ih h)
  exact .inl (k.mgs _ (this _ h))
theorem Kn.bt {G : Glb} (k : Kn G) {n : String} {v : Value} (h : mgL.lookup n = some none) (hv : bootBuiltins (Str.ofString n) = some v) (hn : Str.ofString n ≠ "__name__" := by decide +kernel) : GV G (Str.ofString n) v := by
  have : ∀ (l : List (String × Option Value)), l.lookup n = some none → (n, none) ∈ l := by
    intro l
    induction l with
    | nil => intro h; cases h
    | cons p l ih =>
      intro h
      obtain ⟨a, b⟩ := p
      rw [List.lookup_cons] at h
      cases e : n == a with
      | true => rw [e] at h; cases h; rw [beq_iff_eq.mp e]; exact List.mem_cons_self
      | false => rw [e] at h; exact List.mem_cons_of_mem _ (ih h)
  exact .inr ⟨k.mgs _ (this _ h), by rw [k.g.bl _ hn]; exact hv⟩
section
variable {G : Glb} {F : Fm} {ρ : Vars} {H : HA} {sc : Scope} {d : Nat} {Q : V → HA → Prop}
theorem c_add (K : Kn G) (ok : FOk G F sc (d + 1)) {a b : Int} (h : Q (.int (a + b)) H) : Cal G F (.ref 43) [.int a, .int b] H Q := by
  refine K.d_add.cal K.g ok rfl fun F ok own => ?_
  exact Exs_cons (Ex_Return (Ev_BinOp (Ev_Name (Ld_ ok rfl (Ev_Name (Ld_ ok rfl (Bin_add h)))))))
theorem c_sub (K : Kn G) (ok : FOk G F sc (d + 1)) {a b : Int} (h : Q (.int (a - b)) H) : Cal G F (.ref 85) [.int a, .int b] H Q := by
  refine K.d_sub.cal K.g ok rfl fun F ok own => ?_
  exact Exs_cons (Ex_Return (Ev_BinOp (Ev_Name (Ld_ ok rfl (Ev_Name (Ld_ ok rfl (Bin_sub h)))))))
theorem c_mul (K : Kn G) (ok : FOk G F sc (d + 1)) {a b : Int} (hm : IntMulOk a b) (h : Q (.int (a * b)) H) : Cal G F (.ref 64) [.int a, .int b] H Q := by
  refine K.d_mul.cal K.g ok rfl fun F ok own => ?_
  exact Exs_cons (Ex_Return (Ev_BinOp (Ev_Name (Ld_ ok rfl (Ev_Name (Ld_ ok rfl (Bin_mul hm h)))))))
theorem c_floordiv (K : Kn G) (ok : FOk G F sc (d + 1)) {a b : Int} (hb : b ≠ 0) (hd : Builtin.divisionGoesByPylong a b = false) (h : Q (.int (a.fdiv b)) H) : Cal G F (.ref 50) [.int a, .int b] H Q := by
  refine K.d_floordiv.cal K.g ok rfl fun F ok own => ?_
  exact Exs_cons (Ex_Return (Ev_BinOp (Ev_Name (Ld_ ok rfl (Ev_Name (Ld_ ok rfl (Bin_floordiv hb hd h)))))))
theorem c_lshift (K : Kn G) (ok : FOk G F sc (d + 1)) {a b : Int} (h0 : 0 ≤ b) (h1 : b ≤ 1000000) (h2 : a.natAbs < 2 ^ 64) (h : Q (.int (a * 2 ^ b.toNat)) H) : Cal G F (.ref 57) [.int a, .int b] H Q := by
  refine K.d_lshift.cal K.g ok rfl fun F ok own => ?_
  exact Exs_cons (Ex_Return (Ev_BinOp (Ev_Name (Ld_ ok rfl (Ev_Name (Ld_ ok rfl (Bin_shl h0 h1 h2 h)))))))
theorem c_neg (K : Kn G) (ok : FOk G F sc (d + 1)) {a : Int} (h : Q (.int (-a)) H) : Cal G F (.ref 71) [.int a] H Q := by
  refine K.d_neg.cal K.g ok rfl fun F ok own => ?_
  exact Exs_cons (Ex_Return (Ev_UnaryOp (Ev_Name (Ld_ ok rfl (Un_neg h)))))
theorem c_or (K : Kn G) (ok : FOk G F sc (d + 1)) {a b : Int} (h : Q (.int (Builtin.bitOr a b)) H) : Cal G F (.ref 78) [.int a, .int b] H Q := by
  refine K.d_or.cal K.g ok rfl fun F ok own => ?_
  exact Exs_cons (Ex_Return (Ev_BinOp (Ev_Name (Ld_ ok rfl (Ev_Name (Ld_ ok rfl (Bin_or h)))))))
theorem c_xor (K : Kn G) (ok : FOk G F sc (d + 1)) {a b : Int} (h : Q (.int (Builtin.bitXor a b)) H) : Cal G F (.ref 92) [.int a, .int b] H Q := by
  refine K.d_xor.cal K.g ok rfl fun F ok own => ?_
  exact Exs_cons (Ex_Return (Ev_BinOp (Ev_Name (Ld_ ok rfl (Ev_Name (Ld_ ok rfl (Bin_xor h)))))))
theorem c_getitem (K : Kn G) (ok : FOk G F sc (d + 1)) {l : Addr} {xs : List V} {k : Int} {v : V} (hl : H l = some (.list xs)) (h0 : 0 ≤ k) (h1 : k < 2 ^ 63) (hx : xs[k.toNat]? = some v) (h : Q v H) : Cal G F (.ref 99) [.ref l, .int k] H Q := by
  refine K.d_getitem.cal K.g ok rfl fun F ok own => ?_
  exact Exs_cons (Ex_Return (Ev_Subscript PySem.F.slot_list_getitem.lookup (Ev_Name (Ld_ ok rfl (Ev_Name (Ld_ ok rfl ⟨TyV.list hl, GetI_list hl h0 h1 hx h⟩))))))
theorem c_b1 (K : Kn G) (ok : FOk G F sc (d + 1)) {c : Nat} (h : Q (.bool (hiddenL.contains (c : Int))) H) : Cal G F (.ref 124) [.str ⟨#[c]⟩] H Q := by
  obtain ⟨n, hS⟩ := K.b1
  refine K.d_b1.cal K.g ok rfl fun F ok own => ?_
  refine Exs_cons (Ex_Return (Ev_Compare (Ev_Call ok K.g (K.bt (n := "ord") rfl rfl) trivial (Evs_cons (Ev_Name (Ld_ ok rfl (Evs_nil (Cal_ord ?_))))))))
  exact Ev_glob ok K.g (by decide +kernel) (K.mgs ("b1_set", some (.ref 114)) (by decide)) (Cmp_inSet hS h)
end
end Mine
namespace Mine
variable [HasP]
section
variable {G : Glb} {F : Fm} {ρ : Vars} {H : HA} {sc : Scope} {d : Nat} {Q : V → HA → Prop}
theorem TyV.dict {a : Addr} {f : Int → Option Value} {p : Program} {w : World} (h : G.B.MapOf (intKind p w) a f) : TyV G H (.ref a) "dict" :=
  let ⟨o, es, ep, ho, hc, _⟩ := h; TyV.base ho hc.1 hc.2.1
theorem ab_old {t : Tok} {x : Str} (h1 : 1 ≤ t) (h : t < 2513) : ab (.str x t) = .str x := by simp [ab, HasP.hB t h1 h]
theorem c_b3_plain (K : Kn G) (ok : FOk G F sc (d + 1)) {c : Nat} (hc : (c : Int) ∈ plainL) (h : Q (.str (Txt.lower ⟨#[c]⟩)) H) : Cal G F (.ref 170) [.str ⟨#[c]⟩] H Q := by
  obtain ⟨f, hm, hp, _⟩ := K.b3
  refine K.d_b3.cal K.g ok rfl fun F ok own => ?_
  refine Exs_cons (Ex_Assign (Ev_Method PySem.F.plainAttrs_dict PySem.F.slot_dict_get PySem.F.type_dict_get (Ev_glob ok K.g (by decide +kernel) (K.mgs ("b3_exceptions", some (.ref 125)) (by decide)) ⟨TyV.dict hm, ?_⟩)))
  refine Evs_cons (Ev_Call ok K.g (K.bt (n := "ord") rfl rfl) trivial (Evs_cons (Ev_Name (Ld_ ok rfl (Evs_nil (Cal_ord ?_))))))
  refine Evs_nil (Cal_get1 hm (by decide +kernel) ?_)
  rw [hp _ hc]
  refine St_ ok own ?_
  refine Exs_cons (Ex_If (Tr_Compare (Ev_Name (Ld_ ok rfl (Ev_none (Cmp_isNotNone (Tru_bool (Exs_nil ?_))))))))
  exact Exs_cons (Ex_Return (Ev_Method PySem.F.plainAttrs_str PySem.F.slot_str_lower PySem.F.type_str_lower (Ev_Name (Ld_ ok rfl ⟨TyV.str _ _ _, Evs_nil (Cal_lower (show (1 : Nat) ≤ 5592405 by decide) h)⟩))))
theorem c_b3_letter (K : Kn G) (ok : FOk G F sc (d + 1)) {c i : Nat} {t : Int} (ht : t ∈ blockL) (hi : i < 26) (hc : (c : Int) = 119808 + 52 * t + i) (h : Q (.str ⟨#[97 + i]⟩) H) : Cal G F (.ref 170) [.str ⟨#[c]⟩] H Q := by
  obtain ⟨f, hm, _, hp⟩ := K.b3
  obtain ⟨tk, htk0, htk, hf⟩ := hp t ht i hi
  refine K.d_b3.cal K.g ok rfl fun F ok own => ?_
  refine Exs_cons (Ex_Assign (Ev_Method PySem.F.plainAttrs_dict PySem.F.slot_dict_get PySem.F.type_dict_get (Ev_glob ok K.g (by decide +kernel) (K.mgs ("b3_exceptions", some (.ref 125)) (by decide)) ⟨TyV.dict hm, ?_⟩)))
  refine Evs_cons (Ev_Call ok K.g (K.bt (n := "ord") rfl rfl) trivial (Evs_cons (Ev_Name (Ld_ ok rfl (Evs_nil (Cal_ord ?_))))))
  refine Evs_nil (Cal_get1 hm (by decide +kernel) ?_)
  rw [hc, hf]
  refine St_ ok own ?_
  rw [show ab ((some (Value.str ⟨#[97 + i]⟩ tk)).getD .none) = .str ⟨#[97 + i]⟩ from ab_old htk0 htk]
  exact Exs_cons (Ex_If (Tr_Compare (Ev_Name (Ld_ ok rfl (Ev_none (Cmp_isNotNone (Tru_bool (Exs_cons (Ex_Return (Ev_Name (Ld_ ok rfl h)))))))))))
end
end Mine
namespace Mine
noncomputable def Ext (H H' : HA) : Prop := ∀ a o, H a = some o → H' a = some o
theorem Ext.rfl {H : HA} : Ext H H := fun _ _ e => e
theorem Ext.trans {H H' H'' : HA} (a : Ext H H') (b : Ext H' H'') : Ext H H'' := fun _ _ e => b _ _ (a _ _ e)
theorem Ext.set {H H' : HA} {a : Addr} {o : O} (h : Ext H H') (ha : H a = none) : Ext H (H'.set a o) := fun b ob e => by
  rw [HA.set_ne (by rintro rfl; rw [ha] at e; cases e)]; exact h b ob e
theorem Ext.new {H H' : HA} {a : Addr} {o : O} (h : Ext H H') (ha : H' a = none) : Ext H (H'.set a o) := fun b ob e => by
  rw [HA.set_ne (by rintro rfl; rw [h _ _ e] at ha; cases ha)]; exact h b ob e
theorem Ext.none {H H' : HA} {a : Addr} (h : Ext H H') (ha : H' a = none) : H a = none := by
  cases e : H a with
  | none => exact _root_.rfl
  | some o => rw [h _ _ e] at ha; cases ha
noncomputable def hexS (i : Int) : Str := baseText "0x" 16 i
noncomputable def nmOf (k : Int) : Str := (cfn k).getD (hexS k)
noncomputable def pfGo : Nat → Nat → Int → List Str → List Str
  | 0, i, fl, ns => ns ++ [hexS fl]
  | k + 1, i, fl, ns => if Builtin.bitAnd fl (2 ^ i) = 0 then pfGo k (i + 1) fl ns
      else if Builtin.bitXor fl (2 ^ i) = 0 then ns ++ [nmOf (2 ^ i)] else pfGo k (i + 1) (Builtin.bitXor fl (2 ^ i)) (ns ++ [nmOf (2 ^ i)])
noncomputable def pfSafe : Nat → Nat → Int → Bool
  | 0, i, fl => decide ((hexS fl).length ≤ 100)
  | k + 1, i, fl => (if Builtin.bitAnd fl (2 ^ i) = 0 then pfSafe k (i + 1) fl else if Builtin.bitXor fl (2 ^ i) = 0 then true else pfSafe k (i + 1) (Builtin.bitXor fl (2 ^ i)))
theorem nm_small : ∀ i, i < 32 → (hexS (2 ^ i)).length ≤ 100 ∧ (nmOf (2 ^ i)).length ≤ 100 := by decide +kernel
theorem sum_le (xs : List Str) (h : ∀ x ∈ xs, x.length ≤ 100) : (xs.map (·.length)).sum ≤ 100 * xs.length := by
  induction xs with
  | nil => simp
  | cons x xs ih =>
    have := h x List.mem_cons_self
    have := ih fun y hy => h y (List.mem_cons_of_mem _ hy)
    simp only [List.map_cons, List.sum_cons, List.length_cons]
    omega
theorem hz33 (ns : List Str) (h : ns.length ≤ 33) : (ns.map V.str).length ≤ sizeLine := by
  have : (33 : Nat) ≤ sizeLine := by decide
  rw [List.length_map]; exact Nat.le_trans h (by decide)
theorem vs {ρ : Vars} {x n : String} {u v : V} (h : ρ n = some v) (hn : n ≠ x := by decide) : (ρ.set x u) n = some v := by unfold Vars.set; rw [if_neg hn]; exact h
theorem vz {ρ : Vars} {x : String} {u : V} : (ρ.set x u) x = some u := by unfold Vars.set; rw [if_pos _root_.rfl]
variable [HasP]
section
variable {G : Glb} {F : Fm} {ρ : Vars} {H : HA} {sc : Scope} {d : Nat} {Q : V → HA → Prop}
structure FlI (H H' : HA) (L : Addr) (res : List Str) (i : Nat) (fl : Int) (ns : List Str) (ρ' : Vars) : Prop where
  f : ρ' "flags" = some (.int fl)
  l : H' L = some (.list (ns.map V.str))
  e : Ext H H'
  g : pfGo (32 - i) i fl ns = res
  s : pfSafe (32 - i) i fl = true
  n : ns.length ≤ i
  i_ : i ≤ 32
  z : ∀ x ∈ ns, x.length ≤ 100
theorem c_flags (K : Kn G) (ok : FOk G F sc (d + 1)) {n : Int} (hs : pfSafe 32 0 n = true) (h : ∀ H', Ext H H' → Q (.str (Txt.join (Str.ofString ", ") (pfGo 32 0 n []))) H') : Cal G F (.ref 29) [.int n] H Q := by
  obtain ⟨f, hm, hf⟩ := K.flags
  refine K.d_flags.cal K.g ok rfl fun F ok own => ?_
  refine Exs_cons (Ex_Assign (Ev_List (Evs_nil ⟨by decide, fun L hL => St_ ok own ?_⟩)))
  generalize hres : pfGo 32 0 n [] = res at h
  have fin : ∀ ρ' H', ρ' "names" = some (.ref L) → H' L = some (.list (res.map V.str)) → Ext H H' → res.length ≤ 100 → (∀ x ∈ res, x.length ≤ 100) → Exs G F ((FB 3).drop 2) ρ' H' (fun fl _ H' => Q (match fl with | .ret v => v | _ => .none) H') := by
    intro ρ' H' h1 h2 h3 h4 h5
    refine Exs_cons (Ex_Return (Ev_Method PySem.F.plainAttrs_str PySem.F.slot_str_join PySem.F.type_str_join (Ev_str ⟨TyV.str _ _ _, Evs_cons (Ev_Name (Ld_ ok h1 (Evs_nil (Cal_join h2 (by decide) ?_ (h _ h3)))))⟩)))
    have := sum_le res h5
    omega
  refine Exs_cons (Ex_For (Ev_Call ok K.g (K.bt (n := "range") rfl rfl) trivial (Evs_cons (Ev_int (Evs_nil (Cal_range1 fun r hr => ?_))))))
  refine ⟨_, _, _, fun i ρ' H' => ρ' "names" = some (.ref L) ∧ ∃ fl ns, FlI H H' L res i fl ns ρ', Iter.range ok.hd (HA.set_self _ _ _) (by decide +kernel) (by decide +kernel), ?_, fun _ _ _ _ => trivial, ?_, ?_⟩
  · exact ⟨rfl, n, [], rfl, HA.set_old hr (HA.set_self _ _ _), (Ext.rfl.new hL).new hr, hres, hs, Nat.le_refl _, by decide, by simp⟩
  · intro i hi ρ1 H1 hI
    refine As_gen fun Qa hQa => ?_
    obtain ⟨h1, fl, ns, h2, h3, h4, h5, h6, h7, h8, h9⟩ := hI
    have hi' : i < 32 := hi
    refine As_Name (St_ ok own ?_)
    have e1 : ((0 : Int) + i * 1) = i := by exact o_z1
    rw [e1]
    refine Exs_cons (Ex_Assign (Ev_BinOp (Ev_int (Ev_Name (Ld_ ok rfl (Bin_shl (by exact Int.natCast_nonneg _) (by exact Int.le_trans (Int.le_of_lt (Int.ofNat_lt.mpr hi)) (by decide)) (by decide) (St_ ok own ?_)))))))
    have e2 : (1 : Int) * 2 ^ (i : Int).toNat = 2 ^ i := by rw [Int.one_mul, Int.toNat_natCast]
    rw [e2]
    have e3 : 32 - i = (32 - (i + 1)) + 1 := by exact o_ss hi
    rw [e3] at h5 h6
    unfold pfGo at h5
    unfold pfSafe at h6
    obtain ⟨hz1, hz2⟩ := nm_small i hi'
    have hf' : ab (((f (2 ^ i)).getD Value.none)) = ab (((f (2 ^ i)).getD Value.none)) := rfl
    refine Exs_cons (Ex_If (Tr_value (Ev_BinOp (Ev_Name (Ld_ ok (vs (vs h2)) (Ev_Name (Ld_ ok rfl (Bin_and (Tru_int ?_)))))))))
    by_cases hb : Builtin.bitAnd fl (2 ^ i) = 0
    · rw [if_pos hb] at h5 h6
      rw [show (Builtin.bitAnd fl (2 ^ i) != 0) = false from by simp [hb]]
      exact Exs_nil (Exs_nil (hQa _ _ _ ⟨vs (vs h1), fl, ns, vs (vs h2), h3, h4, h5, h6, Nat.le_succ_of_le h7, hi, h9⟩))
    · rw [if_neg hb] at h5 h6
      rw [show (Builtin.bitAnd fl (2 ^ i) != 0) = true from by simp [hb]]
      refine Exs_cons (Ex_Expr ok (Ev_Method PySem.F.plainAttrs_list PySem.F.slot_list_append PySem.F.type_list_append (Ev_Name (Ld_ ok (vs (vs h1)) ⟨TyV.list h3, ?_⟩))))
      refine Evs_cons (Ev_Method PySem.F.plainAttrs_dict PySem.F.slot_dict_get PySem.F.type_dict_get (Ev_glob ok K.g (by decide +kernel) (K.mgs ("COMPILER_FLAG_NAMES", some (.ref 22)) (by decide)) ⟨TyV.dict hm, ?_⟩))
      refine Evs_cons (Ev_Name (Ld_ ok rfl (Evs_cons (Ev_Call ok K.g (K.bt (n := "hex") rfl rfl) trivial (Evs_cons (Ev_Name (Ld_ ok rfl (Evs_nil (Cal_hex (Nat.le_trans hz1 (by decide)) (Evs_nil (Cal_get2 hm (by decide +kernel) ?_)))))))))))
      have hg : (f (2 ^ i)).elim (V.str (baseText "0x" 16 (2 ^ i))) ab = V.str (nmOf (2 ^ i)) := by
        have := hf (2 ^ i)
        unfold nmOf
        cases hc : cfn (2 ^ i) with
        | none => rw [hc] at this; rw [this]; rfl
        | some nm =>
          rw [hc] at this
          obtain ⟨t, ht0, ht, e⟩ := this
          rw [e]
          exact ab_old ht0 ht
      rw [hg]
      refine Evs_nil (Cal_append h3 (hz33 ns (by (clear hi e1 e2 e3 hz1 hz2 hb; omega))) ?_)
      refine Exs_cons (Ex_AugAssign (Ld_ ok (vs (vs h2)) (Ev_Name (Ld_ ok rfl (IBin_xor (St_ ok own ?_))))))
      have hL' : H L = none := hL
      have g3 : (H1.set L (.list (ns.map V.str ++ [V.str (nmOf (2 ^ i))]))) L = some (.list ((ns ++ [nmOf (2 ^ i)]).map V.str)) := by rw [HA.set_self, List.map_append]; rfl
      have g4 : Ext H (H1.set L (.list (ns.map V.str ++ [V.str (nmOf (2 ^ i))]))) := h4.set hL
      have g9 : ∀ x ∈ ns ++ [nmOf (2 ^ i)], x.length ≤ 100 := fun x hx => by
        rcases List.mem_append.mp hx with hx | hx
        · exact h9 x hx
        · rw [List.mem_singleton.mp hx]; exact hz2
      refine Exs_cons (Ex_If (Tr_Not (Tr_value (Ev_Name (Ld_ ok rfl (Tru_int ?_))))))
      by_cases hb2 : Builtin.bitXor fl (2 ^ i) = 0
      · rw [if_pos hb2] at h5
        rw [show (!(Builtin.bitXor fl (2 ^ i) != 0)) = true from by simp [hb2]]
        subst h5
        exact Exs_cons (Ex_Break (hQa _ _ _ <| fin _ _ (vs (vs (vs h1))) g3 g4 (by rw [List.length_append, List.length_singleton]; (clear hi e1 e2 e3 hz1 hz2 hb hb2; omega)) g9))
      · rw [if_neg hb2] at h5 h6
        rw [show (!(Builtin.bitXor fl (2 ^ i) != 0)) = false from by simp [hb2]]
        exact Exs_nil (Exs_nil (Exs_nil (hQa _ _ _ ⟨vs (vs (vs h1)), _, _, vz, g3, g4, h5, h6, by rw [List.length_append, List.length_singleton]; exact Nat.succ_le_succ h7, hi, g9⟩)))
  · rintro ρ1 H1 ⟨h1, fl, ns, h2, h3, h4, h5, h6, h7, h8, h9⟩
    have e0 : (Builtin.Range.rangeSize 0 32 1).toNat = 32 := by decide +kernel
    rw [e0] at h5 h6 h7
    have h5 : ns ++ [hexS fl] = res := h5
    have h6 : decide ((hexS fl).length ≤ 100) = true := h6
    rw [decide_eq_true_eq] at h6
    refine Exs_cons (Ex_Expr ok (Ev_Method PySem.F.plainAttrs_list PySem.F.slot_list_append PySem.F.type_list_append (Ev_Name (Ld_ ok h1 ⟨TyV.list h3, ?_⟩))))
    refine Evs_cons (Ev_Call ok K.g (K.bt (n := "hex") rfl rfl) trivial (Evs_cons (Ev_Name (Ld_ ok h2 (Evs_nil (Cal_hex (Nat.le_trans h6 (by decide)) (Evs_nil (Cal_append h3 (hz33 ns (by exact Nat.le_succ_of_le h7)) ?_))))))))
    refine Exs_nil (fin _ _ h1 ?_ (h4.set hL) ?_ ?_)
    · rw [HA.set_self, ← h5, List.map_append]; rfl
    · rw [← h5, List.length_append, List.length_singleton]; (clear h8 e0 h6; omega)
    · intro x hx
      rw [← h5] at hx
      rcases List.mem_append.mp hx with hx | hx
      · exact h9 x hx
      · rw [List.mem_singleton.mp hx]; exact h6
end
end Mine
namespace Mine
noncomputable def nmTab : List (List Nat) := [
  [79, 80, 84, 73, 77, 73, 90, 69, 68],
  [78, 69, 87, 76, 79, 67, 65, 76, 83],
  [86, 65, 82, 65, 82, 71, 83],
  [86, 65, 82, 75, 69, 89, 87, 79, 82, 68, 83],
  [78, 69, 83, 84, 69, 68],
  [71, 69, 78, 69, 82, 65, 84, 79, 82],
  [78, 79, 70, 82, 69, 69],
  [67, 79, 82, 79, 85, 84, 73, 78, 69],
  [73, 84, 69, 82, 65, 66, 76, 69, 95, 67, 79, 82, 79, 85, 84, 73, 78, 69],
  [65, 83, 89, 78, 67, 95, 71, 69, 78, 69, 82, 65, 84, 79, 82],
  [48, 120, 52, 48, 48],
  [48, 120, 56, 48, 48]]
noncomputable def nmT (i : Nat) : Str := ⟨(nmTab.getD i []).toArray⟩
theorem nmT_eq : ∀ i, i < 12 → nmOf (2 ^ i) = nmT i := by decide +kernel
noncomputable def zeroT : Str := ⟨#[48,120,48]⟩
theorem hex0 : hexS 0 = zeroT := by decide +kernel
noncomputable def sepT : Str := ⟨#[44,32]⟩
theorem sep_eq : Str.ofString ", " = sepT := by decide +kernel
noncomputable def pfT : Nat → Nat → Int → List Str → Option (List Str)
  | 0, i, fl, ns => none
  | k + 1, i, fl, ns => if Builtin.bitAnd fl (2 ^ i) = 0 then pfT k (i + 1) fl ns
      else if Builtin.bitXor fl (2 ^ i) = 0 then some (ns ++ [nmT i]) else pfT k (i + 1) (Builtin.bitXor fl (2 ^ i)) (ns ++ [nmT i])
theorem pfT_go : ∀ (k m i : Nat) (fl : Int) (ns res : List Str), i + k ≤ 12 → pfT k i fl ns = some res → pfGo (k + m) i fl ns = res ∧ pfSafe (k + m) i fl = true
  | 0, m, i, fl, ns, res, hk, h => by cases h
  | k + 1, m, i, fl, ns, res, hk, h => by
    unfold pfT at h
    rw [show k + 1 + m = (k + m) + 1 by omega]
    unfold pfGo pfSafe
    rw [nmT_eq i (by omega)]
    split at h
    · rename_i h0
      rw [if_pos h0, if_pos h0]
      exact pfT_go k m (i + 1) fl ns res (by omega) h
    · rename_i h0
      rw [if_neg h0, if_neg h0]
      split at h
      · rename_i h1
        rw [if_pos h1, if_pos h1]
        exact ⟨by injection h, rfl⟩
      · rename_i h1
        rw [if_neg h1, if_neg h1]
        exact pfT_go k m (i + 1) _ _ res (by (clear h0 h1; omega)) h
noncomputable def bitsT (base m : Nat) : List Str := ((List.range 5).filter fun t => m.testBit t).map fun t => nmT (base + t)
end Mine
namespace Mine
open PySem.Builtin PySem.Builtin.Str PySem.StrLaws
noncomputable def cutsL : Nat → List Nat → List Nat
  | _, [] => []
  | a, c :: r => if (c :: r).take 2 == [44, 32] then a :: cutsL (a + 1) r else cutsL (a + 1) r
noncomputable def splF : Nat → List Nat → List Nat → List (List Nat)
  | 0, cur, _ => [cur]
  | _ + 1, cur, [] => [cur]
  | n + 1, cur, c :: r => if (c :: r).take 2 == [44, 32] then cur :: splF n [] (r.drop 1) else splF n (cur ++ [c]) r
theorem splF_fuel : ∀ (n m : Nat) (cur l : List Nat), l.length ≤ n → l.length ≤ m → splF n cur l = splF m cur l
  | 0, m, cur, [], _, _ => by cases m <;> rfl
  | 0, m, cur, c :: r, h, _ => absurd h (Nat.not_succ_le_zero _)
  | n + 1, 0, cur, [], _, _ => rfl
  | n + 1, 0, cur, c :: r, _, h => absurd h (Nat.not_succ_le_zero _)
  | n + 1, m + 1, cur, [], _, _ => rfl
  | n + 1, m + 1, cur, c :: r, h1, h2 => by
    have h1 := Nat.le_of_succ_le_succ h1
    have h2 := Nat.le_of_succ_le_succ h2
    have h3 : (r.drop 1).length ≤ r.length := by rw [List.length_drop]; exact Nat.sub_le _ _
    show (if _ then cur :: splF n [] (r.drop 1) else splF n (cur ++ [c]) r) = (if _ then cur :: splF m [] (r.drop 1) else splF m (cur ++ [c]) r)
    rw [splF_fuel n m [] (r.drop 1) (Nat.le_trans h3 h1) (Nat.le_trans h3 h2), splF_fuel n m (cur ++ [c]) r h1 h2]
noncomputable def spl (cur l : List Nat) : List (List Nat) := splF l.length cur l
theorem spl_nil (cur : List Nat) : spl cur [] = [cur] := rfl
theorem spl_cons (cur : List Nat) (c : Nat) (r : List Nat) : spl cur (c :: r) = if (c :: r).take 2 == [44, 32] then cur :: spl [] (r.drop 1) else spl (cur ++ [c]) r := by
  have h3 : (r.drop 1).length ≤ r.length := by rw [List.length_drop]; exact Nat.sub_le _ _
  show (if _ then cur :: splF r.length [] (r.drop 1) else splF r.length (cur ++ [c]) r) = _
  rw [splF_fuel r.length (r.drop 1).length [] (r.drop 1) h3 (Nat.le_refl _)]
  rfl
theorem sep_len : sepT.length = 2 := rfl
theorem occ_run (x : Str) : ∀ (m a : Nat) (found : Array Nat) (free : Nat), a + m = x.length → found.size ≤ a → (free ≤ a ∨ (free = a + 1 ∧ (x.cps.toList.drop a).head? ≠ some 44)) →
    (forIn (List.range' a (m + 1)) (found, free) (occBody x sepT x.length (x.length + 1))).run.fst.toList = found.toList ++ cutsL a (x.cps.toList.drop a)
  | 0, a, found, free, h, hs, hf => by
    rw [show List.range' a (0 + 1) = [a] from rfl, List.forIn_cons]
    have hd : x.cps.toList.drop a = [] := List.drop_eq_nil_of_le (by show x.cps.toList.length ≤ a; rw [Array.length_toList]; show x.length ≤ a; (clear hs hf; omega))
    unfold occBody
    rw [if_neg (by rw [sep_len]; (clear hs hf; omega)), hd]
    show found.toList = _
    rw [cutsL, List.append_nil]
  | m + 1, a, found, free, h, hs, hf => by
    rw [List.range'_succ, List.forIn_cons]
    have hl : a < x.cps.toList.length := by rw [Array.length_toList]; show a < x.length; (clear hs hf; omega)
    obtain ⟨c, r, hd⟩ : ∃ c r, x.cps.toList.drop a = c :: r := by
      rw [List.drop_eq_getElem_cons hl]; exact ⟨_, _, rfl⟩
    have hr : x.cps.toList.drop (a + 1) = r := by rw [← List.drop_drop, hd]; rfl
    have hc : subAt x sepT a = ((c :: r).take 2 == [44, 32]) := by rw [subAt_eq, hd]; rfl
    rw [hd] at hf ⊢
    unfold occBody
    by_cases q : ((c :: r).take 2 == [44, 32]) = true
    · have e := eq_of_beq q
      obtain ⟨rfl, r', rfl⟩ : c = 44 ∧ ∃ r', r = 32 :: r' := by
        match r, e with
        | b :: r', e =>
          simp only [List.take_succ_cons, List.take_zero, List.cons.injEq] at e
          exact ⟨e.1, r', by rw [e.2.1]⟩
        | [], e => simp at e
      have hf : free ≤ a := by
        rcases hf with hf | hf
        · exact hf
        · exact absurd rfl hf.2
      have h2 : a + 2 ≤ x.length := by
        have := congrArg List.length hd
        rw [List.length_drop, Array.length_toList] at this
        simp only [List.length_cons] at this
        have : x.cps.size = x.length := rfl
        (clear hs hl hf; omega)
      rw [if_pos ⟨⟨⟨by show found.size < _; (clear hl hf h2; omega), hf⟩, h2⟩, by rw [hc]; exact q⟩]
      have ih := occ_run x m (a + 1) (found.push a) (a + sepT.length) (by (clear hs hl hf h2; omega)) (by rw [Array.size_push]; exact Nat.succ_le_succ hs) (.inr ⟨by rw [sep_len], by rw [hr]; simp⟩)
      rw [hr] at ih
      refine Eq.trans ih ?_
      rw [show cutsL a (44 :: 32 :: r') = a :: cutsL (a + 1) (32 :: r') from by rw [cutsL, if_pos q], Array.toList_push, List.append_assoc, List.singleton_append]
    · rw [if_neg (by rw [hc]; exact fun z => q z.2)]
      have ih := occ_run x m (a + 1) found free (by (clear hs hl hf; omega)) (by exact Nat.le_succ_of_le hs) (.inl (by (clear hs hl; omega)))
      rw [hr] at ih
      refine Eq.trans ih ?_
      rw [cutsL, if_neg q]
theorem occ_cuts (x : Str) : occurrences x sepT 0 x.length (x.length + 1) = cutsL 0 x.cps.toList := by
  rw [occ_eq]
  have := occ_run x x.length 0 #[] 0 (by omega) (Nat.le_refl _) (.inl (Nat.le_refl _))
  rw [Nat.sub_zero]
  exact this
theorem parts_spl (x : Str) : ∀ (m a p : Nat) (r : List Nat), r.length = m → p ≤ a → x.cps.toList.drop a = r → a ≤ x.length →
    partsFrom x 2 p (cutsL a r) = (spl ((x.cps.toList.drop p).take (a - p)) r).map fun l => (⟨l.toArray⟩ : Str) := by
  intro m
  induction m using Nat.strongRecOn with
  | _ m ih =>
    intro a p r hm hp hr ha
    match r, hm, hr with
    | [], hm, hr =>
      have hx : a = x.length := by
        have := congrArg List.length hr
        rw [List.length_drop, Array.length_toList] at this
        have e : x.cps.size = x.length := rfl
        simp only [List.length_nil] at this
        (clear hp hm; omega)
      rw [cutsL, spl_nil, hx]
      show [strSub x p x.length] = [_]
      congr 1
      apply Str.ext'
      apply Array.toList_inj.mp
      rw [strSub_toList]
    | c :: r, hm, hr =>
      have hl : (x.cps.toList.drop a).length = x.length - a := by rw [List.length_drop, Array.length_toList]; rfl
      have hr1 : x.cps.toList.drop (a + 1) = r := by rw [← List.drop_drop, hr]; rfl
      rw [hr] at hl
      simp only [List.length_cons] at hl hm
      rw [cutsL, spl_cons]
      by_cases q : ((c :: r).take 2 == [44, 32]) = true
      · have e := eq_of_beq q
        obtain ⟨rfl, r', rfl⟩ : c = 44 ∧ ∃ r', r = 32 :: r' := by
          match r, e with
          | b :: r', e =>
            simp only [List.take_succ_cons, List.take_zero, List.cons.injEq] at e
            exact ⟨e.1, r', by rw [e.2.1]⟩
          | [], e => simp at e
        rw [if_pos q, if_pos q]
        simp only [List.length_cons] at hl hm
        have hr2 : x.cps.toList.drop (a + 2) = r' := by rw [show a + 2 = (a + 1) + 1 by (clear hp ha hm hl; omega), ← List.drop_drop, hr1]; rfl
        have h2 := ih r'.length (by (clear hp ha hl; omega)) (a + 2) (a + 2) r' rfl (Nat.le_refl _) hr2 (by (clear hp hm; omega))
        have c2 : cutsL (a + 1) (32 :: r') = cutsL (a + 2) r' := by
          rw [cutsL, if_neg]
          intro z
          have z := eq_of_beq z
          simp at z
        rw [c2]
        show strSub x p a :: partsFrom x 2 (a + 2) (cutsL (a + 2) r') = _
        rw [h2, Nat.sub_self, List.take_zero]
        show _ = _ :: (spl [] r').map _
        congr 1
        apply Str.ext'
        apply Array.toList_inj.mp
        rw [strSub_toList]
      · rw [if_neg q, if_neg q]
        have h2 := ih r.length (by (clear hp ha hl; omega)) (a + 1) p r rfl (by exact Nat.le_succ_of_le hp) hr1 (by (clear hp hm; omega))
        rw [h2]
        congr 2
        rw [show a + 1 - p = (a - p) + 1 from o_ns hp, List.take_add_one, List.getElem?_drop, show p + (a - p) = a by (clear ha hm hl; omega)]
        congr 1
        rw [← List.head?_drop, hr]; rfl
theorem split_spl (x : Str) : Txt.split x sepT = (spl [] x.cps.toList).map fun l => (⟨l.toArray⟩ : Str) := by
  have key : partsBetween x (occurrences x sepT 0 x.length (x.length + 1)) sepT.length = (spl [] x.cps.toList).map fun l => (⟨l.toArray⟩ : Str) := by
    rw [partsBetween_eq, occ_cuts, sep_len]
    exact parts_spl x _ 0 0 _ rfl (Nat.le_refl _) rfl (Nat.zero_le _)
  unfold Txt.split
  split
  · rename_i h
    rw [Bool.or_eq_true, decide_eq_true_eq, decide_eq_true_eq] at h
    rcases h with h | h
    · have hl : x.cps.toList.length < 2 := by rw [Array.length_toList]; exact h
      have e : spl [] x.cps.toList = [x.cps.toList] := by
        match x.cps.toList, hl with
        | [], _ => rw [spl_nil]
        | [c], _ => rw [spl_cons, if_neg (by intro z; have z := eq_of_beq z; simp at z), spl_nil]; rfl
      rw [e]
      rfl
    · exfalso
      have h1 : PySem.Builtin.Str.strKind sepT = 1 := by decide +kernel
      have h2 : 1 ≤ PySem.Builtin.Str.strKind x := by
        unfold PySem.Builtin.Str.strKind
        split
        · exact Nat.le_refl _
        · split <;> decide
      omega
  · split
    · rename_i h
      rw [← key, List.isEmpty_iff.mp h, partsBetween_eq]
      exact congrArg (fun y => [y]) (sub_whole x).symm
    · exact key
theorem spl_app : ∀ (y cur r : List Nat), 44 ∉ y → spl cur (y ++ 44 :: 32 :: r) = (cur ++ y) :: spl [] r
  | [], cur, r, h => by
    rw [List.nil_append, spl_cons, if_pos (by simp), List.append_nil]; rfl
  | c :: y, cur, r, h => by
    have hc : c ≠ 44 := fun e => h (by rw [e]; exact List.mem_cons_self)
    rw [List.cons_append, spl_cons, if_neg, spl_app y _ r fun z => h (List.mem_cons_of_mem _ z), List.append_assoc, List.singleton_append]
    intro z
    have z := eq_of_beq z
    match y ++ 44 :: 32 :: r, z with
    | _ :: _, z => simp at z; exact hc z.1
    | [], z => simp at z
theorem spl_end : ∀ (y cur : List Nat), 44 ∉ y → spl cur y = [cur ++ y]
  | [], cur, h => by rw [spl_nil, List.append_nil]
  | c :: y, cur, h => by
    have hc : c ≠ 44 := fun e => h (by rw [e]; exact List.mem_cons_self)
    rw [spl_cons, if_neg, spl_end y _ fun z => h (List.mem_cons_of_mem _ z), List.append_assoc, List.singleton_append]
    intro z
    have z := eq_of_beq z
    match y, z with
    | _ :: _, z => simp at z; exact hc z.1
    | [], z => simp at z
theorem spl_join : ∀ (ys : List Str), ys ≠ [] → (∀ y ∈ ys, 44 ∉ y.cps.toList) → (spl [] (Str.join sepT ys).cps.toList) = ys.map fun y => y.cps.toList
    | [], h, _ => absurd rfl h
    | [y], _, hy => by
      show spl [] y.cps.toList = _
      rw [spl_end _ _ (hy y List.mem_cons_self)]; rfl
    | y :: z :: r, _, hy => by
      have e : (Str.join sepT (y :: z :: r)).cps.toList = y.cps.toList ++ 44 :: 32 :: (Str.join sepT (z :: r)).cps.toList := by
        show (y ++ sepT ++ Str.join sepT (z :: r)).cps.toList = _
        rw [Str.cps_append, Str.cps_append, Array.toList_append, Array.toList_append, List.append_assoc]; rfl
      rw [e, spl_app _ _ _ (hy y List.mem_cons_self), spl_join (z :: r) (by simp) fun q hq => hy q (List.mem_cons_of_mem _ hq)]; rfl
theorem split_join (ys : List Str) (h0 : ys ≠ []) (hy : ∀ y ∈ ys, 44 ∉ y.cps.toList) : Txt.split (Txt.join sepT ys) sepT = ys := by
  rw [split_spl]
  show List.map _ (spl [] (glued sepT ys).cps.toList) = ys
  rw [glued_eq_join, spl_join ys h0 hy, List.map_map]
  exact (List.map_congr_left fun y _ => rfl).trans (List.map_id ys)
end Mine
namespace Mine
theorem HA.set_set {H : HA} {a : Addr} {o o' : O} : (H.set a o).set a o' = H.set a o' := by
  funext b; unfold HA.set; split <;> rfl
theorem bit6 : ∀ c, c < 64 → Builtin.bitAnd ((c : Nat) + 64 : Int) 64 ≠ 0 ∧ Builtin.bitAnd ((c : Nat) + 64 : Int) 63 = c ∧ Builtin.bitAnd ((c : Nat) + 0 : Int) 64 = 0 ∧ Builtin.bitAnd ((c : Nat) + 0 : Int) 63 = c ∧
    Builtin.bitAnd ((c : Nat) + 128 : Int) 64 = 0 ∧ Builtin.bitAnd ((c : Nat) + 128 : Int) 63 = c := by decide +kernel
theorem bitOr6 (v c : Nat) (h : c < 64) : Builtin.bitOr ((v : Int) * 64) (c : Int) = ((v * 64 + c : Nat) : Int) := by
  have h0 : (0 : Int) ≤ (v : Int) * 64 := by omega
  rw [bitOr_and, bitAnd_pp h0 (by exact Int.natCast_nonneg _)]
  have e1 : ((v : Int) * 64).toNat = v <<< 6 := by rw [Nat.shiftLeft_eq]; omega
  rw [e1, Int.toNat_natCast]
  have e2 : v <<< 6 &&& c = 0 := by
    apply Nat.eq_of_testBit_eq
    intro i
    rw [Nat.testBit_and, Nat.testBit_shiftLeft, Nat.zero_testBit]
    by_cases hi : 6 ≤ i
    · have : c.testBit i = false := Nat.testBit_lt_two_pow (Nat.lt_of_lt_of_le h (Nat.pow_le_pow_right (n := 2) (i := 6) (by decide) hi))
      rw [this, Bool.and_false]
    · simp [hi]
  rw [e2]
  (clear h h0 e1 e2; omega)
noncomputable def numb (cs : List Nat) : Nat := cs.foldl (fun v x => v * 64 + x) 0
theorem numb_append (cs : List Nat) (c : Nat) : numb (cs ++ [c]) = numb cs * 64 + c := by unfold numb; rw [List.foldl_append]; rfl
theorem numb_lt' : ∀ (cs : List Nat) (a n : Nat), a < 64 ^ n → (∀ x ∈ cs, x < 64) → cs.foldl (fun v x => v * 64 + x) a < 64 ^ (n + cs.length)
  | [], a, n, h, _ => h
  | c :: cs, a, n, h, hc => by
    have h2 := hc c List.mem_cons_self
    have := numb_lt' cs (a * 64 + c) (n + 1) (by rw [Nat.pow_succ]; omega) fun x hx => hc x (List.mem_cons_of_mem _ hx)
    rw [List.length_cons, show n + (cs.length + 1) = n + 1 + cs.length by (clear h h2 this; omega)]
    exact this
theorem numb_lt (cs : List Nat) (h : ∀ x ∈ cs, x < 64) : numb cs < 64 ^ cs.length := by
  have := numb_lt' cs 0 0 (by decide) h
  rwa [Nat.zero_add] at this
variable [HasP]
section
variable {G : Glb} {F : Fm} {ρ : Vars} {H : HA} {sc : Scope} {d : Nat} {Q : V → HA → Prop}
theorem IBin_shlS {a b : Int} {Q : V → HA → Prop} (h0 : 0 ≤ b) (h1 : b ≤ 1000000) (h2 : a.natAbs < 2 ^ 64) (h : Q (.int (a * 2 ^ b.toNat)) H) : IBin G F .LShift (.int a) (.int b) H Q := fun x y hx hy => .mk fun Z ρ s X => by
  obtain ⟨t, rfl⟩ := ab_int hx; obtain ⟨u, rfl⟩ := ab_int hy
  (with_reducible refine ilshift_int_small h0 h1 h2 ?_); exact ⟨H, X.toks _, h⟩
theorem c_varint (K : Kn G) (ok : FOk G F sc (d + 1)) {it l : Addr} {i : Nat} {xs : List Int} {cs : List Nat} {c : Nat} {e : Int} (hi : H it = some (.iter l i)) (hl : H l = some (.list (xs.map V.int)))
    (he : e = 0 ∨ e = 128) (hc : c < 64) (hcs : ∀ x ∈ cs, x < 64) (hlen : cs.length ≤ 5)
    (hx : ∀ j, j ≤ cs.length → xs[i + j]? = (cs.map (fun x : Nat => (x + 64 : Int)) ++ [(c + e : Int)])[j]?) (h : Q (.int (numb (cs ++ [c]))) (H.set it (.iter l (i + cs.length + 1)))) : Cal G F (.ref 36) [.ref it] H Q := by
  have hne : l ≠ it := by rintro rfl; rw [hi] at hl; cases hl
  have hV : ∀ j, j ≤ cs.length → ∃ b : Int, (xs.map V.int)[i + j]? = some (V.int b) ∧ (∀ hj : j < cs.length, b = cs[j] + 64) ∧ (j = cs.length → b = c + e) := by
    intro j hj
    rw [List.getElem?_map, hx j hj]
    by_cases hj' : j < cs.length
    · rw [List.getElem?_append_left (by simpa using hj'), List.getElem?_map, List.getElem?_eq_getElem hj']
      exact ⟨_, rfl, fun _ => rfl, fun h => by (clear he hc hlen hne hj; omega)⟩
    · have : j = cs.length := by (clear he hc hlen hne; omega)
      subst this
      rw [List.getElem?_append_right (by simp)]
      simp only [List.length_map, Nat.sub_self]
      exact ⟨_, rfl, fun h => by contradiction, fun _ => rfl⟩
  have full : ∀ j, (hj : j ≤ cs.length) → ∃ x, (cs ++ [c])[j]? = some x ∧ x < 64 := by
    intro j hj
    by_cases hj' : j < cs.length
    · rw [List.getElem?_append_left hj', List.getElem?_eq_getElem hj']
      exact ⟨_, rfl, hcs _ (List.getElem_mem hj')⟩
    · have : j = cs.length := by (clear he hc hlen hne; omega)
      subst this
      rw [List.getElem?_append_right (Nat.le_refl _)]
      simp only [Nat.sub_self]
      exact ⟨_, rfl, hc⟩
  have hb : ∀ j b, j ≤ cs.length → (xs.map V.int)[i + j]? = some (V.int b) → ∃ x, (cs ++ [c])[j]? = some x ∧ x < 64 ∧ Builtin.bitAnd b 63 = x ∧ (Builtin.bitAnd b 64 ≠ 0 ↔ j < cs.length) := by
    intro j b hj hbj
    obtain ⟨b', hb', h1, h2⟩ := hV j hj
    rw [hbj] at hb'
    cases hb'
    by_cases hj' : j < cs.length
    · have hlt := hcs _ (List.getElem_mem hj')
      obtain ⟨k1, k2, _⟩ := bit6 cs[j] hlt
      refine ⟨cs[j], by rw [List.getElem?_append_left hj', List.getElem?_eq_getElem hj'], hlt, ?_, ?_⟩
      · rw [h1 hj']; exact k2
      · rw [h1 hj']; exact ⟨fun _ => hj', fun _ => k1⟩
    · have hjj : j = cs.length := by (clear he hc hlen hne; omega)
      obtain ⟨_, _, k3, k4, k5, k6⟩ := bit6 c hc
      refine ⟨c, by rw [List.getElem?_append_right (by exact Nat.le_of_not_lt hj'), hjj, Nat.sub_self]; rfl, hc, ?_, ?_⟩
      · rw [h2 hjj]; rcases he with rfl | rfl
        · exact k4
        · exact k6
      · rw [h2 hjj]
        rcases he with rfl | rfl
        · exact ⟨fun h => absurd k3 h, fun h => absurd h hj'⟩
        · exact ⟨fun h => absurd k5 h, fun h => absurd h hj'⟩
  refine K.d_varint.cal K.g ok rfl fun F ok own => ?_
  obtain ⟨b0, hb0, _⟩ := hV 0 (Nat.zero_le _)
  obtain ⟨x0, hx0, hx0l, hx0e, _⟩ := hb 0 b0 (Nat.zero_le _) hb0
  refine Exs_cons (Ex_Assign (Ev_Call ok K.g (K.bt (n := "next") rfl rfl) trivial (Evs_cons (Ev_Name (Ld_ ok rfl (Evs_nil (Cal_next hi hl hb0 (St_ ok own ?_))))))))
  refine Exs_cons (Ex_Assign (Ev_BinOp (Ev_Name (Ld_ ok rfl (Ev_int (Bin_and (St_ ok own ?_)))))))
  rw [hx0e]
  refine Exs_cons (Ex_While (fun n ρ' H' => ∃ j b v, n = cs.length - j ∧ j ≤ cs.length ∧ H' = H.set it (.iter l (i + j + 1)) ∧ ρ' "iterator" = some (.ref it) ∧ ρ' "b" = some (.int b) ∧ ρ' "val" = some (.int v) ∧
      (xs.map V.int)[i + j]? = some (V.int b) ∧ v = numb ((cs ++ [c]).take (j + 1))) (cs.length - 0) ⟨0, b0, x0, rfl, Nat.zero_le _, rfl, rfl, rfl, rfl, hb0, ?_⟩ ?_)
  · cases hcc : cs ++ [c] with
    | nil => rw [hcc] at hx0; cases hx0
    | cons y r => rw [hcc] at hx0; cases hx0; simp [numb]
  · rintro n ρ1 H1 ⟨j, b, v, hn, hj, hH, r1, r2, r3, hbj, hv⟩
    subst hH
    obtain ⟨x, _, _, _, hiff⟩ := hb j b hj hbj
    refine Tr_value (Ev_BinOp (Ev_Name (Ld_ ok r2 (Ev_int (Bin_and (Tru_int ?_))))))
    by_cases hj' : j < cs.length
    · rw [show (Builtin.bitAnd b 64 != 0) = true from by simpa using hiff.mpr hj']
      obtain ⟨b', hb', _⟩ := hV (j + 1) hj'
      obtain ⟨x', hx', hxl', hxe', _⟩ := hb (j + 1) b' hj' hb'
      have hvl : numb ((cs ++ [c]).take (j + 1)) < 64 ^ (j + 1) := by
        have := numb_lt ((cs ++ [c]).take (j + 1)) fun y hy => by
          rcases List.mem_append.mp (List.mem_of_mem_take hy) with h | h
          · exact hcs y h
          · rw [List.mem_singleton.mp h]; exact hc
        rwa [List.length_take, List.length_append, List.length_singleton, Nat.min_eq_left (by exact Nat.succ_le_succ hj)] at this
      have hp : (64 : Nat) ^ (j + 1) ≤ 64 ^ 5 := Nat.pow_le_pow_right (by decide) (by (clear he hc hne hx0l hx0e hn hj hv hiff hxl' hxe' hvl; omega))
      have hp5 : (64 : Nat) ^ 5 = 1073741824 := by decide
      refine Exs_cons (Ex_AugAssign (Ld_ ok r3 (Ev_int ?_)))
      refine IBin_shlS (by decide) (by decide) (by rw [hv, Int.natAbs_natCast]; (clear he hc hlen hne hx0l hx0e hn hj hv hiff hj' hxl' hxe' hp5; omega)) (St_ ok own ?_)
      refine Exs_cons (Ex_Assign (Ev_Call ok K.g (K.bt (n := "next") rfl rfl) trivial (Evs_cons (Ev_Name (Ld_ ok (vs r1) (Evs_nil (Cal_next (i := i + j + 1) (HA.set_self _ _ _) (by rw [HA.set_ne hne]; exact hl) hb' (St_ ok own ?_))))))))
      refine Exs_cons (Ex_AugAssign (Ld_ ok (vs vz) (Ev_BinOp (Ev_Name (Ld_ ok vz (Ev_int (Bin_and (IBin_or (St_ ok own ?_)))))))))
      refine Exs_nil ⟨cs.length - (j + 1), by subst_vars; exact Nat.sub_lt_sub_left (by assumption) (Nat.lt_succ_self _), j + 1, b', _, rfl, hj', by rw [HA.set_set]; rfl, vs (vs (vs r1)), vs vz, vz, hb', ?_⟩
      rw [hxe', hv]
      have e6 : ((numb ((cs ++ [c]).take (j + 1)) : Int)) * 2 ^ (6 : Int).toNat = (numb ((cs ++ [c]).take (j + 1)) : Int) * 64 := rfl
      rw [e6, bitOr6 _ _ hxl', ← numb_append]
      congr 2
      rw [show j + 1 + 1 = (j + 1) + 1 from _root_.rfl, List.take_add_one (i := j + 1), hx']
      rfl
    · rw [show (Builtin.bitAnd b 64 != 0) = false from by simpa using fun h => hj' (hiff.mp h)]
      have hjj : j = cs.length := by (clear he hc hlen hne hx0l hx0e hn hv hiff; omega)
      refine Exs_nil (Exs_cons (Ex_Return (Ev_Name (Ld_ ok r3 ?_))))
      rw [hv, hjj, List.take_of_length_le (by simp)]
      exact h
noncomputable def dgo : Nat → Nat → List Int → List Int
  | 0, _, ds => ds
  | f + 1, left, ds => if left = 0 then ds else dgo f (left / 64) (((left % 64 : Nat) + 64 : Int) :: ds)
noncomputable def oct (k w : Nat) : List Int := dgo (w / 64) (w / 64) [((w % 64 : Nat) + 128 * (k % 2 : Nat) : Int)]
noncomputable def octs : Nat → List Nat → List Int
  | _, [] => []
  | k, w :: ws => oct k w ++ octs (k + 1) ws
theorem octs_take (ws : List Nat) : ∀ k i, i ≤ ws.length → octs k (ws.take (i + 1)) = octs k (ws.take i) ++ (match ws[i]? with | some w => oct (k + i) w | none => []) := by
  induction ws with
  | nil => intro k i hi; simp at hi; subst hi; rfl
  | cons w ws ih =>
    intro k i hi
    cases i with
    | zero => simp [octs]
    | succ i =>
      simp only [List.take_succ_cons, octs, List.getElem?_cons_succ, List.append_assoc]
      rw [ih (k + 1) i (by simpa using hi), show k + 1 + i = k + (i + 1) by omega]
theorem fdiv64 (w : Nat) : Int.fdiv (w : Int) 64 = ((w / 64 : Nat) : Int) := by
  rw [Int.fdiv_eq_ediv_of_nonneg _ (by decide)]; omega
theorem fmod64 (w : Nat) : Int.fmod (w : Int) 64 = ((w % 64 : Nat) : Int) := by
  rw [Int.fmod_eq_emod_of_nonneg _ (by decide)]; omega
theorem fmod2 (w : Nat) : Int.fmod (w : Int) 2 = ((w % 2 : Nat) : Int) := by
  rw [Int.fmod_eq_emod_of_nonneg _ (by decide)]; omega
theorem pylong64 (a : Int) : Builtin.divisionGoesByPylong a 64 = false := PyProof.noPylong_small (by decide)
theorem Iter.rng {A : Around} (hh : A.handled = none) {r : Addr} {a b : Int} (hl : H r = some (.range a b 1)) (ha : -1000000 ≤ a) (ha' : a ≤ 1000000) (hb : -1000000 ≤ b) (hb' : b ≤ 1000000) :
    Iter G A (.ref r) H (b - a).toNat (fun i => .int (a + i)) (fun _ => True) := by
  have h := Iter.range (G := G) hh hl (small_one (by (clear hb hb'; omega)) (by (clear hb hb'; omega)) (by (clear ha ha'; omega)) (by (clear ha ha'; omega))) (by rw [rangeSize_nat]; exact Int.natCast_nonneg _)
  rw [rangeSize_nat, Int.toNat_natCast] at h
  have e : (fun i : Nat => V.int (a + i * 1)) = fun i : Nat => V.int (a + i) := by funext i; rw [Int.mul_one]
  rw [e] at h
  exact h
structure OctI (H H' : HA) (T l : Addr) (ws : List Nat) (i w n left : Nat) (ds : List Int) (D' : Addr) (ρ' : Vars) : Prop where
  le : left ≤ n
  r0 : ρ' "left" = some (.int (left : Nat))
  r1 : ρ' "digits" = some (.ref D')
  r2 : ρ' "tape" = some (.ref T)
  r3 : ρ' "weights" = some (.ref l)
  e : Ext H H'
  t : H' T = some (.list ((octs 0 (ws.take i)).map V.int))
  f : H D' = none
  n1 : D' ≠ T
  d : H' D' = some (.list (ds.map V.int))
  g : dgo n left ds = oct i w
  n2 : ds ≠ []
  z : ds.length + n ≤ 4097
theorem c_octets (K : Kn G) (ok : FOk G F sc (d + 1)) {l : Addr} {ws : List Nat} (hl : H l = some (.list (ws.map fun w : Nat => V.int w))) (hn : ws.length ≤ 8) (hw : ∀ w ∈ ws, w < 262144)
    (h : ∀ q H', Ext H H' → H q = none → H' q = some (.list ((octs 0 ws).map V.int)) → Q (.ref q) H') : Cal G F (.ref 257) [.ref l] H Q := by
  refine K.d_octets.cal K.g ok rfl fun F ok own => ?_
  refine Exs_cons (Ex_Assign (Ev_List (Evs_nil ⟨by decide, fun T hT => St_ ok own ?_⟩)))
  have hlT : l ≠ T := by rintro rfl; rw [hT] at hl; cases hl
  refine Exs_cons (Ex_For (Ev_Call ok K.g (K.bt (n := "range") rfl rfl) trivial (Evs_cons (Ev_Call ok K.g (K.bt (n := "len") rfl rfl) trivial (Evs_cons (Ev_Name (Ld_ ok rfl (Evs_nil (Cal_len (xs := ws.map fun w : Nat => V.int w) (by rw [HA.set_ne hlT]; exact hl) (by rw [List.length_map]; exact Int.lt_of_le_of_lt (Int.ofNat_le.mpr hn) (by decide))
    (Evs_nil (Cal_range1 fun r hr => ?_)))))))))))
  have hit := Iter.rng (G := G) (A := F.A) ok.hd (H := (H.set T (.list [])).set r (.range 0 ((ws.map fun w : Nat => V.int w).length : Nat) 1)) (HA.set_self _ _ _) (by decide) (by decide) (by exact o_n) (by rw [List.length_map]; exact Int.le_trans (Int.ofNat_le.mpr hn) (by decide))
  have hwl : (((ws.map fun w : Nat => V.int w).length : Nat) - (0 : Int)).toNat = ws.length := by rw [List.length_map]; exact o_r0
  rw [hwl] at hit
  refine ⟨_, _, _, fun i ρ' H' => ρ' "tape" = some (.ref T) ∧ ρ' "weights" = some (.ref l) ∧ Ext H H' ∧ H' T = some (.list ((octs 0 (ws.take i)).map V.int)) ∧ (octs 0 (ws.take i)).length ≤ 5000 * i, hit, ?_, fun _ _ _ _ => trivial, ?_, ?_⟩
  · exact ⟨rfl, rfl, (Ext.rfl.new hT).new hr, HA.set_old hr (HA.set_self _ _ _), by simp [octs]⟩
  · intro i hi ρ1 H1 hI
    refine As_gen fun Qa hQa => ?_
    obtain ⟨r1, r2, hE, hT1, hlen⟩ := hI
    obtain ⟨w, hwi⟩ : ∃ w, ws[i]? = some w := ⟨_, List.getElem?_eq_getElem hi⟩
    have hwm : w ∈ ws := List.mem_of_getElem? hwi
    have hwb := hw w hwm
    have hgw : (ws.map fun w : Nat => V.int w)[((0 : Int) + (i : Int)).toNat]? = some (.int w) := by
      rw [Int.zero_add, Int.toNat_natCast, List.getElem?_map, hwi]; rfl
    have h0i : (0 : Int) ≤ (0 : Int) + (i : Int) := by (clear hn hlT hwl hi hlen hwb; omega)
    have h63 : (0 : Int) + (i : Int) < 2 ^ 63 := by (clear hlT hlen hwb h0i; omega)
    refine As_Name (St_ ok own ?_)
    refine Exs_cons (Ex_Assign (Ev_List (Evs_cons (Ev_BinOp (Ev_BinOp (Ev_Subscript PySem.F.slot_list_getitem.lookup (Ev_Name (Ld_ ok (vs r2) (Ev_Name (Ld_ ok vz ⟨TyV.list (hE _ _ hl), GetI_list (hE _ _ hl) h0i h63 hgw (Ev_int (Bin_mod (by decide) ?_))⟩))))))))))
    refine Ev_BinOp (Ev_int (Ev_BinOp (Ev_Name (Ld_ ok vz (Ev_int (Bin_mod (by decide) (Bin_mul ?_ (Bin_add (Evs_nil ⟨show 1 ≤ sizeLine by decide, fun D hD => St_ ok own ?_⟩)))))))))
    · exact IntMulOk.of_left (by decide)
    refine Exs_cons (Ex_Assign (Ev_BinOp (Ev_Subscript PySem.F.slot_list_getitem.lookup (Ev_Name (Ld_ ok (vs (vs r2)) (Ev_Name (Ld_ ok (vs vz) ⟨TyV.list (HA.set_old hD (hE _ _ hl)), GetI_list (HA.set_old hD (hE _ _ hl)) h0i h63 hgw (Ev_int (Bin_floordiv (by decide) (pylong64 _) (St_ ok own ?_)))⟩)))))))
    rw [fdiv64, fmod64]
    have hm2 : Int.fmod ((0 : Int) + (i : Int)) 2 = ((i % 2 : Nat) : Int) := by rw [Int.zero_add]; exact fmod2 i
    rw [hm2]
    refine Exs_cons (Ex_While (fun n ρ' H' => ∃ left ds D', OctI H H' T l ws i w n left ds D' ρ') (w / 64) ?_ ?_)
    · refine ⟨w / 64, [((w % 64 : Nat) + 128 * (i % 2 : Nat) : Int)], D, Nat.le_refl _, vz, vs vz, vs (vs (vs r1)), vs (vs (vs r2)), hE.new hD, HA.set_old hD hT1, hE.none hD, ?_, HA.set_self _ _ _, rfl, by simp, ?_⟩
      · rintro rfl; rw [hT1] at hD; cases hD
      · simp only [List.length_singleton]; (clear hn hlT hwl hi hlen h0i h63 hm2; omega)
    · rintro n ρ2 H2 ⟨left, ds, D', hle, q1, q2, q3, q4, q5, q6, q7, q8, q9, q10, q11, q12⟩
      refine Tr_Compare (Ev_Name (Ld_ ok q1 (Ev_int (Cmp_int (op := .Gt) (r := decide (0 < left)) (by simp) (Tru_bool ?_)))))
      by_cases h0 : left = 0
      · rw [show decide (0 < left) = false from by simp [h0]]
        subst h0
        have hfin : ds = oct i w := by
          cases n with
          | zero => exact q10
          | succ n => simpa [dgo] using q10
        refine Exs_nil (Exs_cons (Ex_Expr ok (Ev_Method PySem.F.plainAttrs_list PySem.F.slot_list_extend PySem.F.type_list_extend (Ev_Name (Ld_ ok q3 ⟨TyV.list q6, Evs_cons (Ev_Name (Ld_ ok q2 (Evs_nil (Cal_extend ok q6 q9 (Ne.symm q8) (by simpa using q11) ?_ ?_))))⟩)))))
        · rw [List.length_map, List.length_map]; (clear hlT hwb h0i q8 hle; omega)
        · have ht := octs_take ws 0 i (Nat.le_of_lt hi)
          rw [hwi, Nat.zero_add] at ht
          refine Exs_nil <| hQa _ _ _ ⟨q3, q4, q5.set hT, ?_, ?_⟩
          · rw [HA.set_self, ht, hfin]
            simp only [List.map_append]
          · rw [ht, List.length_append]
            simp only
            rw [← hfin]; (clear hn hlT hwl hi hwb h0i h63 q8 hle; omega)
      · rw [show decide (0 < left) = true from by simp; exact Nat.pos_of_ne_zero h0]
        obtain ⟨n', rfl⟩ : ∃ n', n = n' + 1 := ⟨n - 1, by (clear hn hlT hwl hi hlen hwb h0i h63 hm2 q8 q12; omega)⟩
        have q10' : dgo n' (left / 64) (((left % 64 : Nat) + 64 : Int) :: ds) = oct i w := by
          unfold dgo at q10
          rwa [if_neg h0] at q10
        refine Exs_cons (Ex_Assign (Ev_BinOp (Ev_List (Evs_cons (Ev_BinOp (Ev_BinOp (Ev_Name (Ld_ ok q1 (Ev_int (Bin_mod (by decide) (Ev_int (Bin_add (Evs_nil ⟨show 1 ≤ sizeLine by decide, fun E hE' => Ev_Name (Ld_ ok q2 (Bin_addL ok (HA.set_self _ _ _) (HA.set_old hE' q9) ?_ fun C hC => St_ ok own ?_))⟩)))))))))))))
        · have : (5000 : Nat) ≤ sizeLine := by decide
          rw [List.length_map, List.length_singleton]; (clear hn hlT hwl hi hlen hwb h0i h63 hm2 q8 h0; omega)
        refine Exs_cons (Ex_Assign (Ev_BinOp (Ev_Name (Ld_ ok (vs q1) (Ev_int (Bin_floordiv (by decide) (pylong64 _) (St_ ok own ?_)))))))
        rw [fdiv64, fmod64]
        rw [fmod64] at hC
        have hEE := q5.new (o := .list [.int ((left % 64 : Nat) + 64)]) hE'
        refine Exs_nil ⟨n', Nat.lt_succ_self _, left / 64, _ :: ds, C, by (clear hn hlT hwl hi hlen hwb h0i h63 hm2 q8 h0 q12; omega), vz, vs vz, vs (vs q3), vs (vs q4), hEE.new hC, HA.set_old hC (HA.set_old hE' q6), hEE.none hC, ?_, HA.set_self _ _ _, q10', by simp, ?_⟩
        · rintro rfl
          rw [HA.set_old hE' q6] at hC; cases hC
        · simp only [List.length_cons]; (clear hn hlT hwl hi hlen hwb h0i h63 hm2 q8 h0 hle; omega)
  · rintro ρ1 H1 ⟨r1, r2, hE, hT1, hlen⟩
    rw [List.take_length] at hT1
    exact Exs_nil (Exs_cons (Ex_Return (Ev_Name (Ld_ ok r1 (h _ _ hE hT hT1)))))
end
end Mine
namespace Mine
variable [HasP]
section
variable {G : Glb} {F : Fm} {ρ : Vars} {H : HA} {sc : Scope} {d : Nat} {Q : V → HA → Prop}
theorem Cmp_isMid (K : Kn G) (hsep : ∀ t, HasP.K t ≤ 1 → t ≠ 0) {a b : Str} {Q : V → HA → Prop} (h : ∀ r, (r = true → a = b) → Q (.bool r) H) : Cmp G F .Is (.mid a) (.str b) H Q := fun x y hx hy => .mk fun Z ρ s X => by
  obtain ⟨t, rfl, ht⟩ := ab_mid hx
  obtain ⟨u, rfl, hu⟩ := ab_str2 hy
  have t0 := hsep t (by rw [ht]; exact Nat.le_refl _)
  have u0 := hsep u (by rw [hu]; exact Nat.zero_le _)
  have hb : NoneBooked s.heap := let ⟨mc, hn, hk⟩ := K.booked; ⟨mc, hn.keeps X.hp.base, hk⟩
  have tu : t ≠ u := by rintro rfl; rw [ht] at hu; cases hu
  have h0 : (t == 0 || u == 0) = false := by simp [t0, u0]
  show wpAny _ _ (do return Value.bool (← isSame (.str a t) (.str b u))) _ _ s
  by_cases hab : a = b
  · subst hab
    exact wpAny_bind (wpAny_isSame_str h0 hb fun r => wpAny_pure ⟨H, X, h r fun _ => rfl⟩)
  · rw [isSame_str_other a b t u h0 (beq_eq_false_iff_ne.mpr tu) (beq_eq_false_iff_ne.mpr hab)]
    exact wpAny_bind (wpAny_pure (wpAny_pure ⟨H, X, h false fun e => by cases e⟩))
theorem Cmp_eqMid {a b : Str} {Q : V → HA → Prop} (h : Q (.bool (a == b)) H) : Cmp G F .Eq (.mid a) (.str b) H Q := fun x y hx hy => .mk fun Z ρ s X => by
  obtain ⟨t, rfl, _⟩ := ab_mid hx; obtain ⟨u, rfl⟩ := ab_str hy
  (with_reducible refine eq_str ?_); exact ⟨H, X, h⟩
theorem c_indexOf (K : Kn G) (ok : FOk G F sc (d + 1)) (hsep : ∀ t, HasP.K t ≤ 1 → t ≠ 0) {l : Addr} {ys : List Str} {w : Str} {i0 : Nat} (hl : H l = some (.list (ys.map V.mid))) (h0 : ys[i0]? = some w) (hf : ∀ j, j < i0 → ys[j]? ≠ some w)
    (h : ∀ H', Ext H H' → Q (.int i0) H') : Cal G F (.ref 106) [.ref l, .str w] H Q := by
  refine K.d_indexOf.cal K.g ok rfl fun F ok own => ?_
  refine Exs_cons (Ex_ForEnum ok (Ev_Call ok K.g (K.bt (n := "enumerate") rfl rfl) trivial (Evs_cons (Ev_Name (Ld_ ok rfl (Evs_nil (Cal_enumerate hl fun e it hei he hit => ?_)))))))
  have hEH : Ext H ((H.set it (.iter l 0)).set e (.enumr it 0)) := (Ext.rfl.new hit).new (by rw [HA.set_ne hei]; exact he)
  refine ⟨e, it, l, ys.map V.mid, rfl, hei, fun i ρ' H' => ρ' "b" = some (.str w) ∧ i ≤ i0 ∧ Ext H H' ∧ H' e = some (.enumr it i) ∧ H' it = some (.iter l i), ⟨rfl, Nat.zero_le _, hEH, HA.set_self _ _ _, by rw [HA.set_ne (Ne.symm hei)]; exact HA.set_self _ _ _⟩,
    fun i ρ' H' ⟨_, _, k1, k2, k3⟩ => ⟨k2, k3, k1 _ _ hl⟩, ?_, ?_⟩
  · intro i v hv ρ1 H1 ⟨r1, hi, k1, k2, k3⟩
    rw [List.getElem?_map] at hv
    cases hy : ys[i]? with
    | none => rw [hy] at hv; cases hv
    | some y =>
      rw [hy] at hv
      cases hv
      have kE : Ext H ((H1.set e (.enumr it (i + 1))).set it (.iter l (i + 1))) := (k1.set he).set hit
      refine As_Name (St_ ok own (As_Name (St_ ok own ?_)))
      refine Exs_cons (Ex_If (Tr_Or2 (Tr_Compare (Ev_Name (Ld_ ok vz (Ev_Name (Ld_ ok (vs (vs r1)) (Cmp_isMid K hsep fun r hr => Tru_bool ?_))))))))
      cases r with
      | true =>
        have e1 := hr rfl
        subst e1
        have : i = i0 := by
          by_cases hlt : i < i0
          · exact absurd hy (hf i hlt)
          · omega
        subst this
        exact Exs_cons (Ex_Return (Ev_Name (Ld_ ok (vs vz) (h _ kE))))
      | false =>
        refine Tr_Compare (Ev_Name (Ld_ ok vz (Ev_Name (Ld_ ok (vs (vs r1)) (Cmp_eqMid (Tru_bool ?_))))))
        by_cases hyw : y = w
        · subst hyw
          have : i = i0 := by
            by_cases hlt : i < i0
            · exact absurd hy (hf i hlt)
            · omega
          subst this
          rw [beq_self_eq_true]
          exact Exs_cons (Ex_Return (Ev_Name (Ld_ ok (vs vz) (h _ kE))))
        · rw [show (y == w) = false from beq_eq_false_iff_ne.mpr hyw]
          have hne : i ≠ i0 := by rintro rfl; rw [h0] at hy; cases hy; exact hyw rfl
          exact Exs_nil (Exs_nil ⟨vs (vs r1), by omega, kE, by rw [HA.set_ne hei]; exact HA.set_self _ _ _, HA.set_self _ _ _⟩)
  · intro i ρ1 H1 hi ⟨_, hle, _⟩
    rw [List.getElem?_map] at hi
    cases hy : ys[i]? with
    | some y => rw [hy] at hi; cases hi
    | none =>
      have h1 := (List.getElem?_eq_some_iff.mp h0).1
      have h2 := List.getElem?_eq_none_iff.mp hy
      omega
end
end Mine
namespace Mine
noncomputable def attrL : List String := ["raw", "n", "nt", "norm", "is_simple"]
structure WsK (G : Glb) (K : Frag) : Prop where
  inn : K.In G.B
  get : ∀ n, plainGet K 232 n = true
  dct : hasDictIn K 232 = true
  own : ∀ n ∈ attrL, findIn K (.ref 232) (Str.ofString n) = some none
  sa : findIn K (.ref 232) "__setattr__" = some (some (.builtin "object.__setattr__"))
  ov : plainOver K 232 = true
  tk : ∀ n ∈ attrL, takerIn K 232 (Str.ofString n) = some none
  m1 : findIn K (.ref 232) (Str.ofString "longest_run_of_spaces") = some (some (.ref 194))
  m2 : findIn K (.ref 232) (Str.ofString "indent_level") = some (some (.ref 201))
  m3 : findIn K (.ref 232) (Str.ofString "less") = some (some (.ref 222))
  f1 : isFn K (.ref 194) = true
  f2 : isFn K (.ref 201) = true
  f3 : isFn K (.ref 222) = true
  keep : keepIn K (.ref 232) = true
  makes : makesIn K 232 = true
  ini : findIn K (.ref 232) "__init__" = some (some (.ref 187))
  inif : typeIn K (.ref 187) = some (.type "function")
  rd : readsIn K 232 (.type "type") = true
  cS : findCls K (.ref 232) (.type "type") (Str.ofString "S") = some (.val (.str (Str.ofString " ") 2372))
  cT : findCls K (.ref 232) (.type "type") (Str.ofString "T") = some (.val (.str (Str.ofString "\t") 2373))
structure Ws where
  n : Nat
  nt : Nat
  b : Nat
  cnt : List Nat
noncomputable def bump (cnt : List Nat) (b : Nat) : List Nat :=
  let c := if b < cnt.length then cnt else cnt ++ List.replicate (b - cnt.length + 1) 0
  c.set b (c.getD b 0 + 1)
noncomputable def wsGo : List Nat → Ws → Ws
  | [], s => s
  | c :: r, s => if c = 32 then wsGo r { s with n := s.n + 1, b := s.b + 1 } else if c = 9 then wsGo r { n := s.n + 1, nt := s.nt + 1, cnt := bump s.cnt s.b, b := 0 } else s
noncomputable def wsOf (x : Str) : Ws := wsGo x.cps.toList ⟨0, 0, 0, []⟩
noncomputable def WsI (H : HA) (a : Addr) (x : Str) : Prop := ∃ dd t1 t2, H a = some (.inst 232 dd) ∧
  H dd = some (.attrs [("raw", .str x), ("n", .int (wsOf x).n), ("nt", .int (wsOf x).nt), ("norm", .ref t1), ("is_simple", .bool (decide ((wsOf x).cnt.length ≤ 1)))]) ∧
  H t1 = some (.tup [.ref t2, .int (wsOf x).b]) ∧ H t2 = some (.tup ((wsOf x).cnt.map fun c : Nat => V.int c))
theorem WsI.ext {H H' : HA} {a : Addr} {x : Str} (h : WsI H a x) (e : Ext H H') : WsI H' a x :=
  let ⟨dd, t1, t2, h1, h2, h3, h4⟩ := h; ⟨dd, t1, t2, e _ _ h1, e _ _ h2, e _ _ h3, e _ _ h4⟩
theorem bits64 {a : Int} (h : a.natAbs < 2 ^ 64) : Builtin.Int.intBits a ≤ 64 := by
  unfold Builtin.Int.intBits
  split
  · exact Nat.zero_le _
  · rename_i hn
    have : a.natAbs.log2 < 64 := (Nat.log2_lt (by intro e; exact hn (by simpa using e))).mpr h
    exact Nat.succ_le_of_lt this
noncomputable def ilS (s : Ws) (t k : Nat) : Nat := ((List.range k).map fun j => (t + j) / t * s.cnt.getD (t + j) 0).sum
noncomputable def indL (s : Ws) (t : Nat) : Nat := s.b + t * (ilS s t (s.cnt.length - t) + s.nt)
theorem ilS_succ (s : Ws) (t k : Nat) : ilS s t (k + 1) = ilS s t k + (t + k) / t * s.cnt.getD (t + k) 0 := by
  unfold ilS
  rw [List.range_succ, List.map_append, List.sum_append]
  simp
variable [HasP]
section
variable {G : Glb} {F : Fm} {ρ : Vars} {H : HA} {sc : Scope} {d : Nat} {Q : V → HA → Prop} {Kf : Frag}
theorem Cal_lenT {l : Addr} {xs : List V} {Q : V → HA → Prop} (hl : H l = some (.tup xs)) (hz : (xs.length : Int) < 2 ^ 63) (h : Q (.int xs.length) H) : Cal G F (.builtin "len") [.ref l] H Q := fun cs hcs => .mk fun Z ρ s X => by
  obtain ⟨x, rfl, e⟩ := args1 hcs
  obtain rfl := ab_ref e
  obtain ⟨vs, n, lv, q⟩ := X.hp.trk _ _ hl
  have hs := size_ab q
  refine len_tuple ⟨_, lv, rfl, n, rfl⟩ (by rw [hs]; exact hz) ?_
  rw [hs]
  exact ⟨H, X.toks _ (by show s.toks ≤ s.toks + 1 + 1; (clear hz hs; omega)), h⟩
theorem c_longest (K : Kn G) (W : WsK G Kf) (ok : FOk G F sc (d + 2)) {a : Addr} {x : Str} (hx : WsI H a x) (hn : (wsOf x).cnt.length ≤ 100) (h : Q (.int (if ((wsOf x).b : Int) > ((wsOf x).cnt.length : Int) - 1 then ((wsOf x).b : Int) else ((wsOf x).cnt.length : Int) - 1)) H) :
    Cal G F (.ref 194) [.ref a] H Q := by
  obtain ⟨dd, t1, t2, h1, h2, h3, h4⟩ := hx
  refine K.d_longest.cal K.g ok rfl fun F ok own => ?_
  refine Exs_cons (Ex_AssignAll (Ev_Attr (Ev_Name (Ld_ ok rfl (GetA_own (n := "norm") W.inn h1 h2 rfl rfl (W.get _) W.dct (W.own _ (by decide)) rfl ?_)))))
  refine As_Tuple ok h3 rfl (As_Name (St_ ok own (As_Name (St_ ok own ?_))))
  refine Exs_cons <| Ex_Return <| Ev_Call ok K.g (K.bt (n := "max") rfl rfl) trivial <| Evs_cons <| Ev_BinOp <| Ev_Call ok K.g (K.bt (n := "len") rfl rfl) trivial <| Evs_cons <| Ev_Name <| Ld_ ok rfl <| Evs_nil <| Cal_lenT h4 (by rw [List.length_map]; exact Int.lt_of_le_of_lt (Int.ofNat_le.mpr hn) (by decide)) <|
    Ev_int <| Bin_sub <| Evs_cons <| Ev_Name <| Ld_ ok rfl <| Evs_nil <| Cal_max ok ?_
  rw [List.length_map]
  exact h
theorem c_indent (K : Kn G) (W : WsK G Kf) (ok : FOk G F sc (d + 2)) {a : Addr} {x : Str} {t : Nat} (hx : WsI H a x) (hn : (wsOf x).cnt.length ≤ 100) (ht : 1 ≤ t) (ht' : t ≤ 100) (h : ∀ H', Ext H H' → Q (.int (indL (wsOf x) t)) H') :
    Cal G F (.ref 201) [.ref a, .int t] H Q := by
  obtain ⟨dd, t1, t2, h1, h2, h3, h4⟩ := hx
  refine K.d_indent.cal K.g ok rfl fun F ok own => ?_
  refine Exs_cons (Ex_AssignAll (Ev_Attr (Ev_Name (Ld_ ok rfl (GetA_own (n := "norm") W.inn h1 h2 rfl rfl (W.get _) W.dct (W.own _ (by decide)) rfl ?_)))))
  refine As_Tuple ok h3 rfl (As_Name (St_ ok own (As_Name (St_ ok own ?_))))
  refine Exs_cons (Ex_Assign (Ev_int (St_ ok own ?_)))
  generalize hs : wsOf x = s at *
  refine Exs_cons <| Ex_For <| Ev_Call ok K.g (K.bt (n := "range") rfl rfl) trivial <| Evs_cons <| Ev_Name <| Ld_ ok rfl <| Evs_cons <| Ev_Call ok K.g (K.bt (n := "len") rfl rfl) trivial <| Evs_cons <| Ev_Name <| Ld_ ok rfl <| Evs_nil <| Cal_lenT h4 (by rw [List.length_map]; exact Int.lt_of_le_of_lt (Int.ofNat_le.mpr hn) (by decide)) <|
    Evs_nil <| Cal_range2 fun r hr => ?_
  have hit := Iter.rng (G := G) (A := F.A) ok.hd (H := H.set r (.range t ((s.cnt.map fun c : Nat => V.int c).length : Nat) 1)) (HA.set_self _ _ _) (by exact o_n) (by exact Int.le_trans (Int.ofNat_le.mpr ht') (by decide)) (by exact o_n) (by rw [List.length_map]; exact Int.le_trans (Int.ofNat_le.mpr hn) (by decide))
  have hwl : (((s.cnt.map fun c : Nat => V.int c).length : Nat) - (t : Int)).toNat = s.cnt.length - t := by rw [List.length_map]; (clear ht ht' hn; omega)
  rw [hwl] at hit
  refine ⟨_, _, _, fun i ρ' H' => ρ' "il" = some (.int (ilS s t i)) ∧ ρ' "tabsize" = some (.int t) ∧ ρ' "count" = some (.ref t2) ∧ ρ' "trailing" = some (.int s.b) ∧ ρ' "self" = some (.ref a) ∧ Ext H H', hit, ?_, fun _ _ _ _ => trivial, ?_, ?_⟩
  · exact ⟨rfl, rfl, rfl, rfl, rfl, Ext.rfl.new hr⟩
  · rintro i hi ρ1 H1 ⟨r1, r2, r3, r4, r5, hE⟩
    refine As_Name (St_ ok own ?_)
    have hlt : t + i < s.cnt.length := by (clear ht ht' hn hwl; omega)
    have hg : (s.cnt.map fun c : Nat => V.int c)[((t : Int) + (i : Int)).toNat]? = some (.int (s.cnt.getD (t + i) 0 : Nat)) := by
      rw [show ((t : Int) + (i : Int)).toNat = t + i by (clear hn hwl hi hlt; omega), List.getElem?_map, List.getElem?_eq_getElem hlt, List.getD_eq_getElem?_getD, List.getElem?_eq_getElem hlt]; rfl
    refine Exs_cons <| Ex_Assign <| Ev_BinOp <| Ev_Name <| Ld_ ok (vs r1) <| Ev_BinOp <| Ev_BinOp <| Ev_Name <| Ld_ ok vz <| Ev_Name <| Ld_ ok (vs r2) <| Bin_floordiv (by (clear hn hwl hi hlt; omega)) (PyProof.noPylong_small (by (clear hn hwl hi hlt; omega))) <| Ev_Subscript PySem.F.slot_tuple_getitem.lookup <| Ev_Name <| Ld_ ok (vs r3) <| Ev_Name <| Ld_ ok vz
      ⟨TyV.tup (hE _ _ h4), GetI_tup (hE _ _ h4) (by (clear hn hwl hi hlt; omega)) (by (clear ht ht' hwl hi; omega)) hg <| Bin_mul ?_ <| Bin_add <| St_ ok own <| Exs_nil ?_⟩
    · have e : Int.fdiv ((t : Int) + (i : Int)) t = ((t + i) / t : Nat) := by rw [Int.fdiv_eq_ediv_of_nonneg _ (by exact Int.natCast_nonneg _)]; norm_cast
      refine IntMulOk.of_left (bits64 ?_)
      rw [e, Int.natAbs_natCast]
      have := Nat.div_le_self (t + i) t
      (clear ht ht' hwl hi e; omega)
    · have e : Int.fdiv ((t : Int) + (i : Int)) t = ((t + i) / t : Nat) := by rw [Int.fdiv_eq_ediv_of_nonneg _ (by exact Int.natCast_nonneg _)]; norm_cast
      refine ⟨?_, vs (vs r2), vs (vs r3), vs (vs r4), vs (vs r5), hE⟩
      rw [vz, ilS_succ, e]
      norm_cast
  · rintro ρ1 H1 ⟨r1, r2, r3, r4, r5, hE⟩
    refine Exs_nil <| Exs_cons <| Ex_Return <| Ev_BinOp <| Ev_Name <| Ld_ ok r4 <| Ev_BinOp <| Ev_Name <| Ld_ ok r2 <| Ev_BinOp <| Ev_Name <| Ld_ ok r1 <| Ev_Attr <| Ev_Name <| Ld_ ok r5 <| GetA_own (n := "nt") W.inn (hE _ _ h1) (hE _ _ h2) rfl rfl (W.get _) W.dct (W.own _ (by decide)) rfl <|
      Bin_add <| Bin_mul (IntMulOk.of_left (bits64 (by (clear hn hwl; omega)))) <| Bin_add ?_
    have : ((s.b : Int) + (t : Int) * ((ilS s t (s.cnt.length - t) : Nat) + (s.nt : Int))) = (indL s t : Nat) := by unfold indL; norm_cast
    rw [this]
    exact h _ hE
end
end Mine
namespace Mine
noncomputable def lessF (s o : Ws) : Bool :=
  if s.n ≥ o.n then false
  else if s.cnt.length ≤ 1 ∧ o.cnt.length ≤ 1 then decide (s.nt ≤ o.nt)
  else
    let m := max (max (s.cnt.length - 1) s.b) (max (o.cnt.length - 1) o.b) + 1
    (List.range (m + 1 - 2)).all fun j => decide (indL s (2 + j) < indL o (2 + j))
theorem mx1 (a b : Nat) : (if (b : Int) > (a : Int) - 1 then (b : Int) else (a : Int) - 1) = ((max (a - 1) b : Nat) : Int) := by
  rw [Nat.max_def]; repeat' split
  all_goals omega
theorem mx2 (a b : Nat) : (if (b : Int) > (a : Int) then (b : Int) else (a : Int)) = ((max a b : Nat) : Int) := by
  rw [Nat.max_def]; repeat' split
  all_goals omega
theorem mx3 {a b c d m : Nat} (hm : max (max (a - 1) b) (max (c - 1) d) + 1 = m) (h1 : a ≤ 50) (h2 : b ≤ 50) (h3 : c ≤ 50) (h4 : d ≤ 50) : m ≤ 52 := by
  have : max (max (a - 1) b) (max (c - 1) d) ≤ 51 := Nat.max_le.mpr ⟨Nat.max_le.mpr ⟨by (clear hm h2 h3 h4; omega), by exact Nat.le_succ_of_le h2⟩, Nat.max_le.mpr ⟨by (clear hm h1 h2 h4; omega), by exact Nat.le_succ_of_le h4⟩⟩
  (clear h1 h2 h3 h4; omega)
theorem wl2 (m : Nat) : (((m : Int) + 1) - 2).toNat = m + 1 - 2 := by omega
theorem i2 (i : Nat) : (2 : Int) + (i : Int) = ((2 + i : Nat) : Int) := by omega
theorem all_succ (n : Nat) (p : Nat → Bool) : (List.range (n + 1)).all p = ((List.range n).all p && p n) := by
  rw [List.range_succ, List.all_append]; simp
variable [HasP]
section
variable {G : Glb} {F : Fm} {ρ : Vars} {H : HA} {sc : Scope} {d : Nat} {Q : V → HA → Prop} {Kf : Frag}
theorem c_less (K : Kn G) (W : WsK G Kf) (ok : FOk G F sc (d + 4)) {a o : Addr} {x y : Str} (hx : WsI H a x) (hy : WsI H o y) (hn : (wsOf x).cnt.length ≤ 50) (hn2 : (wsOf y).cnt.length ≤ 50) (hb : (wsOf x).b ≤ 50) (hb2 : (wsOf y).b ≤ 50)
    (h : ∀ H', Ext H H' → Q (.bool (lessF (wsOf x) (wsOf y))) H') : Cal G F (.ref 222) [.ref a, .ref o] H Q := by
  obtain ⟨dx, s1, s2, x1, x2, x3, x4⟩ := id hx
  obtain ⟨dy, u1, u2, y1, y2, y3, y4⟩ := id hy
  refine K.d_less.cal K.g ok rfl fun F ok own => ?_
  refine Exs_cons <| Ex_If <| Tr_Compare <| Ev_Attr <| Ev_Name <| Ld_ ok rfl <| GetA_own (n := "n") W.inn x1 x2 rfl rfl (W.get _) W.dct (W.own _ (by decide)) rfl <| Ev_Attr <| Ev_Name <| Ld_ ok rfl <| GetA_own (n := "n") W.inn y1 y2 rfl rfl (W.get _) W.dct (W.own _ (by decide)) rfl <|
    Cmp_int (op := .GtE) (r := decide ((wsOf y).n ≤ (wsOf x).n)) (by simp) <| Tru_bool ?_
  unfold lessF at h
  by_cases c1 : (wsOf y).n ≤ (wsOf x).n
  · rw [if_pos c1] at h
    rw [decide_eq_true c1]
    exact Exs_cons <| Ex_Return <| Ev_bool <| h _ Ext.rfl
  rw [if_neg c1] at h
  rw [decide_eq_false c1]
  refine Exs_nil <| Exs_cons <| Ex_If <| Tr_And2 <| Tr_value <| Ev_Attr <| Ev_Name <| Ld_ ok rfl <| GetA_own (n := "is_simple") W.inn x1 x2 rfl rfl (W.get _) W.dct (W.own _ (by decide)) rfl <| Tru_bool ?_
  have big : ¬ ((wsOf x).cnt.length ≤ 1 ∧ (wsOf y).cnt.length ≤ 1) → Exs G F ((MB 6).drop 2) (argV ["self", "other"] [.ref a, .ref o] noV) H (fun fl _ H' => Q (match fl with | .ret v => v | _ => .none) H') := by
    intro c2
    rw [if_neg c2] at h
    refine Exs_cons <| Ex_Assign <| Ev_BinOp <| Ev_Call ok K.g (K.bt (n := "max") rfl rfl) trivial <| Evs_cons <| Ev_MethodK W.inn (W.get _) W.m1 W.f1 K.d_longest.callee <| Ev_Name <| Ld_ ok rfl
      ⟨a, dx, _, "longest_run_of_spaces", rfl, x1, x2, rfl, rfl, Evs_nil <| c_longest K W ok hx (by exact Nat.le_trans hn (by decide)) <| Evs_cons <| Ev_MethodK W.inn (W.get _) W.m1 W.f1 K.d_longest.callee <| Ev_Name <| Ld_ ok rfl
      ⟨o, dy, _, "longest_run_of_spaces", rfl, y1, y2, rfl, rfl, Evs_nil <| c_longest K W ok hy (by exact Nat.le_trans hn2 (by decide)) <| Evs_nil <| Cal_max ok <| Ev_int <| Bin_add <| St_ ok own ?_⟩⟩
    generalize hm : max (max ((wsOf x).cnt.length - 1) (wsOf x).b) (max ((wsOf y).cnt.length - 1) (wsOf y).b) + 1 = m at h
    have hv : ((if ((if ((wsOf y).b : Int) > ((wsOf y).cnt.length : Int) - 1 then ((wsOf y).b : Int) else ((wsOf y).cnt.length : Int) - 1) : Int) > (if ((wsOf x).b : Int) > ((wsOf x).cnt.length : Int) - 1 then ((wsOf x).b : Int) else ((wsOf x).cnt.length : Int) - 1) then
        (if ((wsOf y).b : Int) > ((wsOf y).cnt.length : Int) - 1 then ((wsOf y).b : Int) else ((wsOf y).cnt.length : Int) - 1) else (if ((wsOf x).b : Int) > ((wsOf x).cnt.length : Int) - 1 then ((wsOf x).b : Int) else ((wsOf x).cnt.length : Int) - 1)) + 1 : Int) = (m : Int) := by
      rw [mx1, mx1, mx2, ← hm]; rfl
    rw [hv]
    clear hv
    have hmb : m ≤ 52 := mx3 hm hn hb hn2 hb2
    clear hm
    refine Exs_cons <| Ex_For <| Ev_Call ok K.g (K.bt (n := "range") rfl rfl) trivial <| Evs_cons <| Ev_int <| Evs_cons <| Ev_BinOp <| Ev_Name <| Ld_ ok rfl <| Ev_int <| Bin_add <| Evs_nil <| Cal_range2 fun r hr => ?_
    have hit := Iter.rng (G := G) (A := F.A) ok.hd (H := H.set r (.range 2 ((m : Int) + 1) 1)) (HA.set_self _ _ _) (by (clear hn hn2 hb hb2 c1 c2 hmb; omega)) (by (clear hn hn2 hb hb2 c1 c2 hmb; omega)) (by exact o_d) (by (clear hn hn2 hb hb2 c1 c2; omega))
    have hwl := wl2 m
    rw [hwl] at hit
    refine ⟨_, _, _, fun i ρ' H' => ρ' "self" = some (.ref a) ∧ ρ' "other" = some (.ref o) ∧ Ext H H' ∧ ((List.range i).all fun j => decide (indL (wsOf x) (2 + j) < indL (wsOf y) (2 + j))) = true, hit, ?_, fun _ _ _ _ => trivial, ?_, ?_⟩
    · exact ⟨rfl, rfl, Ext.rfl.new hr, rfl⟩
    · rintro i hi ρ1 H1 ⟨r1, r2, hE, hall⟩
      have e2 := i2 i
      rw [e2]
      refine As_Name (St_ ok own ?_)
      refine Exs_cons <| Ex_If <| Tr_Compare <| Ev_MethodK W.inn (W.get _) W.m2 W.f2 K.d_indent.callee <| Ev_Name <| Ld_ ok (vs r1) ⟨a, dx, _, "indent_level", rfl, hE _ _ x1, hE _ _ x2, rfl, rfl, Evs_cons <| Ev_Name <| Ld_ ok vz <| Evs_nil <|
        c_indent K W ok (hx.ext hE) (by exact Nat.le_trans hn (by decide)) (by (clear hn hn2 hb hb2 c1 c2 hmb hwl hi e2; omega)) (by (clear hn hn2 hb hb2 c1 c2 hwl e2; omega)) fun H2 hE2 => Ev_MethodK W.inn (W.get _) W.m2 W.f2 K.d_indent.callee <| Ev_Name <| Ld_ ok (vs r2) ⟨o, dy, _, "indent_level", rfl, hE2 _ _ (hE _ _ y1), hE2 _ _ (hE _ _ y2), rfl, rfl, Evs_cons <| Ev_Name <| Ld_ ok vz <| Evs_nil <|
        c_indent K W ok (hy.ext (hE.trans hE2)) (by exact Nat.le_trans hn2 (by decide)) (by (clear hn hn2 hb hb2 c1 c2 hmb hwl hi e2; omega)) (by (clear hn hn2 hb hb2 c1 c2 hwl e2; omega)) fun H3 hE3 => Cmp_int (op := .GtE) (r := decide (indL (wsOf y) (2 + i) ≤ indL (wsOf x) (2 + i))) (by simp) <| Tru_bool ?_⟩⟩
      have hE4 := (hE.trans hE2).trans hE3
      by_cases c3 : indL (wsOf y) (2 + i) ≤ indL (wsOf x) (2 + i)
      · rw [decide_eq_true c3]
        refine Exs_cons <| Ex_Return <| Ev_bool ?_
        have hf : ((List.range (m + 1 - 2)).all fun j => decide (indL (wsOf x) (2 + j) < indL (wsOf y) (2 + j))) = false := by
          rw [Bool.eq_false_iff]
          intro hh
          rw [List.all_eq_true] at hh
          have := hh i (List.mem_range.mpr hi)
          simp only [decide_eq_true_eq] at this
          (clear hn hn2 hb hb2 c1 c2 hmb hwl hi e2; omega)
        have := h _ hE4
        rw [hf] at this
        exact this
      · rw [decide_eq_false c3]
        refine Exs_nil <| Exs_nil ⟨vs r1, vs r2, hE4, ?_⟩
        rw [all_succ, hall, Bool.true_and, decide_eq_true_eq]
        exact Nat.lt_of_not_le c3
    · rintro ρ1 H1 ⟨r1, r2, hE, hall⟩
      have := h _ hE
      rw [hall] at this
      exact Exs_nil <| Exs_cons <| Ex_Return <| Ev_bool this
  by_cases c2 : (wsOf x).cnt.length ≤ 1
  · rw [decide_eq_true c2]
    refine Tr_value <| Ev_Attr <| Ev_Name <| Ld_ ok rfl <| GetA_own (n := "is_simple") W.inn y1 y2 rfl rfl (W.get _) W.dct (W.own _ (by decide)) rfl <| Tru_bool ?_
    by_cases c3 : (wsOf y).cnt.length ≤ 1
    · rw [decide_eq_true c3]
      rw [if_pos ⟨c2, c3⟩] at h
      refine Exs_cons <| Ex_Return <| Ev_Compare <| Ev_Attr <| Ev_Name <| Ld_ ok rfl <| GetA_own (n := "nt") W.inn x1 x2 rfl rfl (W.get _) W.dct (W.own _ (by decide)) rfl <| Ev_Attr <| Ev_Name <| Ld_ ok rfl <| GetA_own (n := "nt") W.inn y1 y2 rfl rfl (W.get _) W.dct (W.own _ (by decide)) rfl <|
        Cmp_int (op := .LtE) (r := decide ((wsOf x).nt ≤ (wsOf y).nt)) (by simp) <| h _ Ext.rfl
    · rw [decide_eq_false c3]
      exact Exs_nil <| big fun c => c3 c.2
  · rw [decide_eq_false c2]
    exact Exs_nil <| big fun c => c2 c.1
end
end Mine
namespace Mine
theorem bump_len (cnt : List Nat) (b : Nat) : (bump cnt b).length ≤ max cnt.length (b + 1) ∧ cnt.length ≤ (bump cnt b).length := by
  unfold bump
  simp only [List.length_set]
  split
  · rename_i h; omega
  · rename_i h; rw [List.length_append, List.length_replicate]; omega
theorem sign_eq (c k : Nat) : ((⟨#[c]⟩ : Str) == ⟨#[k]⟩) = decide (c = k) := by
  by_cases h : c = k
  · subst h; simp
  · rw [decide_eq_false h]
    exact beq_eq_false_iff_ne.mpr fun e => h (by injection e with e; simpa using e)
theorem space_eq : Str.ofString " " = ⟨#[32]⟩ := by decide +kernel
theorem tab_eq : Str.ofString "\t" = ⟨#[9]⟩ := by decide +kernel
noncomputable def forB : List Stmt := match (MB 1)[(4 : Nat)]? with
  | some (.For _ _ b _ _) => b
  | _ => []
noncomputable def elifB : List Stmt := match forB[(0 : Nat)]? with
  | some (.If _ _ [.If _ b _ _] _) => b
  | _ => []
variable [HasP]
section
variable {G : Glb} {F : Fm} {ρ : Vars} {H : HA} {sc : Scope} {d : Nat} {Q : V → HA → Prop} {Kf : Frag}
structure WI (H : HA) (s dd : Addr) (x : Str) (i : Nat) (w : Ws) (C' : Addr) (ρ' : Vars) (H' : HA) : Prop where
  r1 : ρ' "self" = some (.ref s)
  r2 : ρ' "n" = some (.int w.n)
  r3 : ρ' "nt" = some (.int w.nt)
  r4 : ρ' "b" = some (.int w.b)
  r5 : ρ' "count" = some (.ref C')
  r6 : ρ' "S" = some (.str ⟨#[32]⟩)
  r7 : ρ' "T" = some (.str ⟨#[9]⟩)
  k1 : H' C' = some (.list (w.cnt.map fun c : Nat => V.int c))
  k2 : H C' = none
  k3 : C' ≠ s
  k4 : C' ≠ dd
  k5 : Ext H H'
  k6 : H' s = some (.inst 232 dd)
  k7 : H' dd = some (.attrs [("raw", .str x)])
  k8 : wsGo (x.cps.toList.drop i) w = wsOf x
  k9 : w.cnt.length ≤ i + 1
  k10 : w.b ≤ i
theorem w_init (K : Kn G) (W : WsK G Kf) (hP : ∀ t, HasP.K t = 0) (ok : FOk G F (MS 1) d) (own : F.own = true) {s dd : Addr} {x : Str} (hz : x.cps.size ≤ 100) (hs : H s = none) (hd : H dd = none) (hsd : s ≠ dd) {Q : HA → Prop}
    (h : ∀ H', Ext H H' → WsI H' s x → Q H') :
    Exs G F (MB 1) (argV ["self", "ws"] [.ref s, .str x] noV) ((H.set dd (.attrs [])).set s (.inst 232 dd)) fun fl _ H' => (match fl with | .ret v => v | _ => .none) = .none ∧ Q H' := by
  have hi0 : ((H.set dd (.attrs [])).set s (.inst 232 dd)) s = some (.inst 232 dd) := HA.set_self _ _ _
  have ha0 : ((H.set dd (.attrs [])).set s (.inst 232 dd)) dd = some (.attrs []) := by rw [HA.set_ne (Ne.symm hsd)]; exact HA.set_self _ _ _
  have hE0 : Ext H ((H.set dd (.attrs [])).set s (.inst 232 dd)) := (Ext.rfl.set hd).set hs
  refine Exs_cons <| Ex_AssignAll <| Ev_Name <| Ld_ ok rfl <| As_Attr <| Ev_Name <| Ld_ ok rfl <| SetA_own (n := "raw") ok W.inn hi0 ha0 rfl (by decide) W.sa W.ov (W.tk _ (by decide)) W.dct ?_
  generalize hH1 : (((H.set dd (.attrs [])).set s (.inst 232 dd)).set dd (.attrs ([] ++ [("raw", .str x)]))) = H1
  have hi1 : H1 s = some (.inst 232 dd) := by rw [← hH1, HA.set_ne hsd]; exact hi0
  have ha1 : H1 dd = some (.attrs [("raw", .str x)]) := by rw [← hH1]; exact HA.set_self _ _ _
  have hE1 : Ext H H1 := by rw [← hH1]; exact hE0.set hd
  refine Exs_cons <| Ex_Swapped2 (n1 := "S") (n2 := "T") ok (Ev_Tuple <| Evs_cons <| Ev_Attr <| Ev_glob ok K.g (by decide +kernel) (K.mgs ("Whitespace", some (.ref 232)) (by decide)) <| GetA_cls W.inn W.rd W.cS rfl <| Evs_cons <| Ev_Attr <| Ev_glob ok K.g (by decide +kernel) (K.mgs ("Whitespace", some (.ref 232)) (by decide)) <| GetA_cls W.inn W.rd W.cT rfl <| Evs_nil
    ⟨show 2 ≤ sizeLine by decide, fun t ht => ⟨t, _, _, rfl, HA.set_self _ _ _, St_ ok own <| St_ ok own ?_⟩⟩) rfl ?_
  rotate_left
  · have k1 : F.env.kindOf (Str.ofString "S") = some .local := (ok.sco _).trans (by decide +kernel)
    have k2 : F.env.kindOf (Str.ofString "T") = some .local := (ok.sco _).trans (by decide +kernel)
    have kb : F.env.blockKind = .function := by unfold Env.blockKind; rw [ok.fn]; rfl
    unfold swappedStores
    dsimp only [List.filterMap]
    simp only [k1, k2, kb]
    rfl
  rw [ab_old (t := 2372) (by decide) (by decide), ab_old (t := 2373) (by decide) (by decide)]
  have hi2 := HA.set_old (o := .tup [.str (Str.ofString " "), .str (Str.ofString "\t")]) ht hi1
  have ha2 := HA.set_old (o := .tup [.str (Str.ofString " "), .str (Str.ofString "\t")]) ht ha1
  have hE2 := hE1.new (o := .tup [.str (Str.ofString " "), .str (Str.ofString "\t")]) ht
  generalize hH2 : H1.set t (.tup [.str (Str.ofString " "), .str (Str.ofString "\t")]) = H2 at *
  refine Exs_cons <| Ex_Assign <| Ev_List <| Evs_nil ⟨by decide, fun C hC => St_ ok own ?_⟩
  refine Exs_cons <| Ex_AssignAll <| Ev_int <| As_Name <| St_ ok own <| As_Name <| St_ ok own <| As_Name <| St_ ok own ?_
  have hCH := hE2.none hC
  have hCs : C ≠ s := by rintro rfl; rw [hi2] at hC; cases hC
  have hCd : C ≠ dd := by rintro rfl; rw [ha2] at hC; cases hC
  have fin : ∀ ρ' H' (w : Ws) C', ρ' "self" = some (.ref s) → ρ' "n" = some (.int w.n) → ρ' "nt" = some (.int w.nt) → ρ' "b" = some (.int w.b) → ρ' "count" = some (.ref C') → H' C' = some (.list (w.cnt.map fun c : Nat => V.int c)) → C' ≠ dd →
      Ext H H' → H' s = some (.inst 232 dd) → H' dd = some (.attrs [("raw", .str x)]) → w = wsOf x → w.cnt.length ≤ 200 →
      Exs G F ((MB 1).drop 5) ρ' H' fun fl _ H' => (match fl with | .ret v => v | _ => .none) = .none ∧ Q H' := by
    intro ρ' H' w C' r1 r2 r3 r4 r5 hC' hCd' hE' hi' ha' hw hl
    refine Exs_cons <| Ex_AssignAll <| Ev_Name <| Ld_ ok r2 <| As_Attr <| Ev_Name <| Ld_ ok r1 <| SetA_own (n := "n") ok W.inn hi' ha' rfl (by simp) W.sa W.ov (W.tk _ (by decide)) W.dct ?_
    refine Exs_cons <| Ex_AssignAll <| Ev_Name <| Ld_ ok r3 <| As_Attr <| Ev_Name <| Ld_ ok r1 <| SetA_own (n := "nt") ok W.inn (by rw [HA.set_ne hsd]; exact hi') (HA.set_self _ _ _) rfl (by simp) W.sa W.ov (W.tk _ (by decide)) W.dct ?_
    rw [HA.set_set]
    refine Exs_cons <| Ex_AssignAll <| Ev_Tuple <| Evs_cons <| Ev_Call ok K.g (K.bt (n := "tuple") rfl rfl) trivial <| Evs_cons <| Ev_Name <| Ld_ ok r5 <| Evs_nil <| Cal_tuple_list (xs := w.cnt.map fun c : Nat => V.int c) (by rw [HA.set_ne hCd']; exact hC') (by rw [List.length_map]; exact Nat.le_trans hl (by decide)) fun t2 ht2 =>
      Evs_cons <| Ev_Name <| Ld_ ok r4 <| Evs_nil ⟨show 2 ≤ sizeLine by decide, fun t1 ht1 => As_Attr <| Ev_Name <| Ld_ ok r1 ?_⟩
    have g1 : ∀ l, (H'.set dd (.attrs l)) dd = some (.attrs l) := fun l => HA.set_self _ _ _
    have g2 : ∀ l, (H'.set dd (.attrs l)) s = some (.inst 232 dd) := fun l => by rw [HA.set_ne hsd]; exact hi'
    have g3 : ∀ l, (H'.set dd (.attrs l)) C' = some (.list (w.cnt.map fun c : Nat => V.int c)) := fun l => by rw [HA.set_ne hCd']; exact hC'
    have gE : ∀ l, Ext H (H'.set dd (.attrs l)) := fun l => hE'.set hd
    generalize hHa : H'.set dd (.attrs (([("raw", V.str x)] ++ [("n", V.int w.n)]) ++ [("nt", V.int w.nt)])) = Ha at ht2 ht1
    have a1 : Ha dd = some (.attrs (([("raw", V.str x)] ++ [("n", V.int w.n)]) ++ [("nt", V.int w.nt)])) := by rw [← hHa]; exact g1 _
    have a2 : Ha s = some (.inst 232 dd) := by rw [← hHa]; exact g2 _
    have a3 : Ha C' = some (.list (w.cnt.map fun c : Nat => V.int c)) := by rw [← hHa]; exact g3 _
    have aE : Ext H Ha := by rw [← hHa]; exact gE _
    have b1 := HA.set_old (o := .tup (w.cnt.map fun c : Nat => V.int c)) ht2 a1
    have b2 := HA.set_old (o := .tup (w.cnt.map fun c : Nat => V.int c)) ht2 a2
    have b3 := HA.set_old (o := .tup (w.cnt.map fun c : Nat => V.int c)) ht2 a3
    have b4 : (Ha.set t2 (.tup (w.cnt.map fun c : Nat => V.int c))) t2 = some (.tup (w.cnt.map fun c : Nat => V.int c)) := HA.set_self _ _ _
    have bE := aE.new (o := .tup (w.cnt.map fun c : Nat => V.int c)) ht2
    generalize hHb : Ha.set t2 (.tup (w.cnt.map fun c : Nat => V.int c)) = Hb at *
    have c1 := HA.set_old (o := .tup [.ref t2, .int w.b]) ht1 b1
    have c2 := HA.set_old (o := .tup [.ref t2, .int w.b]) ht1 b2
    have c3 := HA.set_old (o := .tup [.ref t2, .int w.b]) ht1 b3
    have c4 := HA.set_old (o := .tup [.ref t2, .int w.b]) ht1 b4
    have c5 : (Hb.set t1 (.tup [.ref t2, .int w.b])) t1 = some (.tup [.ref t2, .int w.b]) := HA.set_self _ _ _
    have cE := bE.new (o := .tup [.ref t2, .int w.b]) ht1
    generalize hHc : Hb.set t1 (.tup [.ref t2, .int w.b]) = Hc at *
    refine SetA_own (n := "norm") ok W.inn c2 c1 rfl (by simp) W.sa W.ov (W.tk _ (by decide)) W.dct ?_
    have d2 : dd ≠ t2 := by rintro rfl; rw [c1] at c4; cases c4
    have d1 : dd ≠ t1 := by rintro rfl; rw [c1] at c5; cases c5
    refine Exs_cons <| Ex_AssignAll <| Ev_Compare <| Ev_Call ok K.g (K.bt (n := "len") rfl rfl) trivial <| Evs_cons <| Ev_Name <| Ld_ ok r5 <| Evs_nil <| Cal_len (xs := w.cnt.map fun c : Nat => V.int c) (by rw [HA.set_ne hCd']; exact c3) (by rw [List.length_map]; exact Int.lt_of_le_of_lt (Int.ofNat_le.mpr hl) (by decide)) <| Ev_int <|
      Cmp_int (op := .LtE) (r := decide (w.cnt.length ≤ 1)) (by rw [List.length_map]; exact congrArg some (decide_eq_decide.mpr (by (clear hz hsd hCs hCd hCd' d2 d1; omega)))) <| As_Attr <| Ev_Name <| Ld_ ok r1 <| SetA_own (n := "is_simple") ok W.inn (by rw [HA.set_ne hsd]; exact c2) (HA.set_self _ _ _) rfl (by simp) W.sa W.ov (W.tk _ (by decide)) W.dct ?_
    rw [HA.set_set]
    refine Exs_nil ⟨rfl, h _ (cE.set hd) ⟨dd, t1, t2, by rw [HA.set_ne hsd]; exact c2, ?_, by rw [HA.set_ne (Ne.symm d1), ← hw]; exact c5, by rw [HA.set_ne (Ne.symm d2), ← hw]; exact c4⟩⟩
    rw [HA.set_self, ← hw]
    rfl
  rw [space_eq, tab_eq]
  have hB := ha2
  refine Exs_cons <| Ex_For <| Ev_Attr <| Ev_Name <| Ld_ ok rfl <| GetA_own (n := "raw") W.inn (HA.set_old hC hi2) (HA.set_old hC ha2) rfl rfl (W.get _) W.dct (W.own _ (by decide)) rfl ?_
  refine ⟨_, _, _, fun i ρ' H' => ∃ (w : Ws) (C' : Addr), WI H s dd x i w C' ρ' H', Iter.str hP ok.hd x, ?_, fun _ _ _ _ => trivial, ?_, ?_⟩
  · exact ⟨⟨0, 0, 0, []⟩, C, rfl, rfl, rfl, rfl, rfl, rfl, rfl, HA.set_self _ _ _, hCH, hCs, hCd, hE2.new hC, HA.set_old hC hi2, HA.set_old hC ha2, rfl, Nat.zero_le _, Nat.le_refl _⟩
  · intro i hi ρ1 H1 hI
    refine As_gen fun Qa hQa => ?_
    obtain ⟨w, C', r1, r2, r3, r4, r5, r6, r7, k1, k2, k3, k4, k5, k6, k7, k8, k9, k10⟩ := hI
    have hi' : i < x.cps.toList.length := by simpa using hi
    have hgd : x.cps.getD i 0 = x.cps.toList[i] := by simp [Array.getD_eq_getD_getElem?, hi]
    rw [List.drop_eq_getElem_cons hi'] at k8
    rw [hgd]
    generalize hc : x.cps.toList[i] = c at k8
    unfold wsGo at k8
    refine As_Name (St_ ok own ?_)
    refine Exs_cons <| Ex_If <| Tr_Compare <| Ev_Name <| Ld_ ok vz <| Ev_Name <| Ld_ ok (vs r6) <| Cmp_eqS <| Tru_bool ?_
    rw [sign_eq]
    by_cases c1 : c = 32
    · rw [if_pos c1] at k8
      rw [decide_eq_true c1]
      refine Exs_cons <| Ex_Assign <| Ev_BinOp <| Ev_Name <| Ld_ ok (vs r2) <| Ev_int <| Bin_add <| St_ ok own ?_
      refine Exs_cons <| Ex_Assign <| Ev_BinOp <| Ev_Name <| Ld_ ok (vs (vs r4)) <| Ev_int <| Bin_add <| St_ ok own ?_
      refine Exs_nil <| Exs_nil <| hQa _ _ _ ⟨{ w with n := w.n + 1, b := w.b + 1 }, C', vs (vs (vs r1)), by push_cast; exact vs vz, vs (vs (vs r3)), by push_cast; exact vz, vs (vs (vs r5)), vs (vs (vs r6)), vs (vs (vs r7)), k1, k2, k3, k4, k5, k6, k7, k8, ?_, ?_⟩
      · show w.cnt.length ≤ _; exact Nat.le_succ_of_le k9
      · show w.b + 1 ≤ _; exact Nat.succ_le_succ k10
    rw [if_neg c1] at k8
    rw [decide_eq_false c1]
    refine Exs_cons <| Ex_If <| Tr_Compare <| Ev_Name <| Ld_ ok vz <| Ev_Name <| Ld_ ok (vs r7) <| Cmp_eqS <| Tru_bool ?_
    rw [sign_eq]
    by_cases c2 : c = 9
    · rw [if_pos c2] at k8
      rw [decide_eq_true c2]
      refine Exs_cons <| Ex_Assign <| Ev_BinOp <| Ev_Name <| Ld_ ok (vs r2) <| Ev_int <| Bin_add <| St_ ok own ?_
      refine Exs_cons <| Ex_Assign <| Ev_BinOp <| Ev_Name <| Ld_ ok (vs (vs r3)) <| Ev_int <| Bin_add <| St_ ok own ?_
      have hlen : (w.cnt.map fun c : Nat => V.int c).length = w.cnt.length := List.length_map _
      have hbl := bump_len w.cnt w.b
      have rest : ∀ (cs : List Nat) (C2 : Addr) (H2 : HA) (ρ2 : Vars) (Q2 : Fl → Vars → HA → Prop), w.b < cs.length → bump w.cnt w.b = cs.set w.b (cs.getD w.b 0 + 1) → ρ2 "self" = some (.ref s) → ρ2 "n" = some (.int (w.n + 1 : Nat)) → ρ2 "nt" = some (.int (w.nt + 1 : Nat)) → ρ2 "b" = some (.int w.b) → ρ2 "count" = some (.ref C2) →
          ρ2 "S" = some (.str ⟨#[32]⟩) → ρ2 "T" = some (.str ⟨#[9]⟩) → H C2 = none → C2 ≠ s → C2 ≠ dd → Ext H H2 → H2 s = some (.inst 232 dd) → H2 dd = some (.attrs [("raw", .str x)]) → H2 C2 = some (.list (cs.map fun c : Nat => V.int c)) →
          (∀ ρ' H', (∃ (w : Ws) (C' : Addr), WI H s dd x (i + 1) w C' ρ' H') → Q2 .next ρ' H') →
          Exs G F (elifB.drop 3) ρ2 H2 Q2 := by
        intro cs C2 H2 ρ2 Q2 hb hbump q1 q2 q3 q4 q5 q6 q7 p1 p2 p3 p4 p5 p6 p7 hq
        have hg : (cs.map fun c : Nat => V.int c)[((w.b : Int)).toNat]? = some (.int (cs.getD w.b 0 : Nat)) := by
          rw [Int.toNat_natCast, List.getElem?_map, List.getElem?_eq_getElem hb, List.getD_eq_getElem?_getD, List.getElem?_eq_getElem hb]; rfl
        refine Exs_cons <| Ex_AssignAll <| Ev_BinOp <| Ev_Subscript PySem.F.slot_list_getitem.lookup <| Ev_Name <| Ld_ ok q5 <| Ev_Name <| Ld_ ok q4 ⟨TyV.list p7, GetI_list p7 (by exact Int.natCast_nonneg _) (by (clear hsd hCs hCd k3 k4 k9 hgd hc c1 c2 hlen hbl hb p2 p3; omega)) hg <| Ev_int <| Bin_add <| As_Subscript <| Ev_Name <| Ld_ ok q5 <| Ev_Name <| Ld_ ok q4 <| SetI_list p7 (by exact Int.natCast_nonneg _) (by (clear hsd hCs hCd k3 k4 k9 hgd hc c1 c2 hlen hbl hb p2 p3; omega)) (by rw [List.length_map]; exact Int.ofNat_lt.mpr hb) ?_⟩
        refine Exs_cons <| Ex_Assign <| Ev_int <| St_ ok own <| Exs_nil <| hq _ _ ?_
        refine ⟨{ n := w.n + 1, nt := w.nt + 1, cnt := bump w.cnt w.b, b := 0 }, C2, vs q1, vs q2, vs q3, vz, vs q5, vs q6, vs q7, ?_, p1, p2, p3, p4.set p1, by rw [HA.set_ne (Ne.symm p2)]; exact p5, by rw [HA.set_ne (Ne.symm p3)]; exact p6, k8, ?_, Nat.zero_le _⟩
        · rw [HA.set_self, Int.toNat_natCast, hbump, List.map_set]; rfl
        · show (bump w.cnt w.b).length ≤ _; (clear hz hsd hCs hCd hi k3 k4 hgd hc c1 c2 hb p2 p3; omega)
      refine Exs_cons <| Ex_If <| Tr_Compare <| Ev_Name <| Ld_ ok (vs (vs (vs r4))) <| Ev_Call ok K.g (K.bt (n := "len") rfl rfl) trivial <| Evs_cons <| Ev_Name <| Ld_ ok (vs (vs (vs r5))) <| Evs_nil <| Cal_len k1 (by rw [hlen]; (clear hsd hCs hCd k3 k4 k10 hgd hc c1 c2 hbl; omega)) <| Cmp_int (op := .GtE) (r := decide (w.cnt.length ≤ w.b)) (by rw [hlen]; simp) <| Tru_bool ?_
      by_cases hb : w.cnt.length ≤ w.b
      · rw [decide_eq_true hb]
        refine Exs_cons <| Ex_Assign <| Ev_BinOp <| Ev_Name <| Ld_ ok (vs (vs (vs r5))) <| Ev_BinOp <| Ev_List <| Evs_cons <| Ev_int <| Evs_nil ⟨show 1 ≤ sizeLine by decide, fun E hE => Ev_BinOp <| Ev_BinOp <| Ev_Name <| Ld_ ok (vs (vs (vs r4))) <| Ev_Call ok K.g (K.bt (n := "len") rfl rfl) trivial <| Evs_cons <| Ev_Name <| Ld_ ok (vs (vs (vs r5))) <| Evs_nil <|
          Cal_len (HA.set_old hE k1) (by rw [hlen]; (clear hsd hCs hCd k3 k4 k9 hgd hc c1 c2 hbl; omega)) <| Bin_sub <| Ev_int <| Bin_add <| Bin_mulL ok (HA.set_self _ _ _) (by rw [hlen]; (clear hz hsd hCs hCd hi k3 k4 k9 k10 hgd hc c1 c2 hbl; omega)) (by rw [hlen]; (clear hsd hCs hCd k3 k4 k9 hgd hc c1 c2 hbl hb; omega)) fun D hD => Bin_addL ok (HA.set_old hD (HA.set_old hE k1)) (HA.set_self _ _ _) ?_ fun C2 hC2 => St_ ok own <| Exs_nil ?_⟩
        · have : (1000 : Nat) ≤ sizeLine := by decide
          rw [hlen, List.length_replicate]
          (clear hsd hCs hCd k3 k4 k9 hgd hc c1 c2 hbl; omega)
        have e5 : ((w.b : Int) - ((w.cnt.map fun c : Nat => V.int c).length : Nat) + 1).toNat = w.b - w.cnt.length + 1 := by rw [hlen]; exact o_w hb
        have q1 := k5
        have n0 : ∀ a o, H1 a = some o → ((H1.set E (.list [.int 0])).set D (.list (List.replicate (((w.b : Int) - ((w.cnt.map fun c : Nat => V.int c).length : Nat) + 1).toNat) (.int 0)))) a = some o := fun a o e => HA.set_old hD (HA.set_old hE e)
        refine rest (w.cnt ++ List.replicate (w.b - w.cnt.length + 1) 0) C2 _ _ _ ?_ ?_ (vs (vs (vs (vs r1)))) (by push_cast; exact vs (vs vz)) (by push_cast; exact vs vz) (vs (vs (vs (vs r4)))) vz (vs (vs (vs (vs r6)))) (vs (vs (vs (vs r7)))) ?_ ?_ ?_ ?_ (HA.set_old hC2 (n0 _ _ k6)) (HA.set_old hC2 (n0 _ _ k7)) ?_ fun ρ' H' hw' => Exs_nil (Exs_nil (hQa _ _ _ hw'))
        · rw [List.length_append, List.length_replicate]; (clear hz hsd hCs hCd hi k3 k4 k9 k10 hgd hc c1 c2 hbl e5; omega)
        · unfold bump; rw [if_neg (by exact Nat.not_lt_of_le hb)]
        · exact Ext.none (fun a o e => n0 a o (k5 a o e)) hC2
        · rintro rfl; rw [n0 _ _ k6] at hC2; cases hC2
        · rintro rfl; rw [n0 _ _ k7] at hC2; cases hC2
        · exact Ext.new (fun a o e => n0 a o (k5 a o e)) hC2
        · rw [HA.set_self, e5, List.map_append, List.map_replicate]; rfl
      · rw [decide_eq_false hb]
        refine Exs_nil <| rest w.cnt C' _ _ _ (by exact Nat.lt_of_not_le hb) (by unfold bump; rw [if_pos (by exact Nat.lt_of_not_le hb)]) (vs (vs (vs r1))) (by push_cast; exact vs vz) (by push_cast; exact vz) (vs (vs (vs r4))) (vs (vs (vs r5))) (vs (vs (vs r6))) (vs (vs (vs r7))) k2 k3 k4 k5 k6 k7 k1 fun ρ' H' hw' => Exs_nil (Exs_nil (hQa _ _ _ hw'))
    · rw [if_neg c2] at k8
      rw [decide_eq_false c2]
      exact Exs_cons <| Ex_Break <| hQa _ _ _ <| fin _ _ w C' (vs r1) (vs r2) (vs r3) (vs r4) (vs r5) k1 k4 k5 k6 k7 k8 (by (clear hsd hCs hCd k3 k4 k10 hgd hc c1 c2; omega))
  · rintro ρ1 H1 ⟨w, C', r1, r2, r3, r4, r5, r6, r7, k1, k2, k3, k4, k5, k6, k7, k8, k9, k10⟩
    have : x.cps.toList.drop x.cps.size = [] := by rw [List.drop_eq_nil_iff]; simp
    rw [this] at k8
    exact Exs_nil <| fin _ _ w C' r1 r2 r3 r4 r5 k1 k4 k5 k6 k7 k8 (by (clear hsd hCs hCd k3 k4 k10; omega))
end
end Mine
namespace Mine
theorem sliceRange_one (a b : Nat) : sliceRange (a : Int) (b : Int) 1 = (List.range (b - a)).map fun k => a + k := by
  unfold sliceRange
  simp only [show ((1 : Int) > 0) from by decide, if_true]
  by_cases hlt : (a : Int) < b
  · rw [if_pos hlt]
    have e3 : (((b : Int) - a + 1 - 1) / 1).toNat = b - a := by rw [Int.ediv_one]; omega
    rw [e3]
    refine List.map_congr_left fun k _ => ?_
    (clear hlt e3; omega)
  · rw [if_neg hlt]
    have : b - a = 0 := by omega
    rw [this]
    rfl
theorem pick_list {α : Type} (l : List α) (a : Nat) : ∀ m, a + m ≤ l.length → ((List.range m).map fun k => a + k).filterMap (l[·]?) = (l.drop a).take m := by
  intro m
  induction m with
  | zero => intro _; simp
  | succ m ih =>
    intro h
    rw [List.range_succ, List.map_append, List.filterMap_append, ih (by omega), List.take_add_one, List.getElem?_drop]
    simp [List.getElem?_eq_getElem (show a + m < l.length by omega)]
theorem pick_arr (x : Str) (a b : Nat) (hb : b ≤ x.length) : (sliceRange (a : Int) (b : Int) 1).filterMap (x.cps[·]?) = (x.cps.toList.drop a).take (b - a) := by
  rw [sliceRange_one]
  have e : (fun i : Nat => x.cps[i]?) = fun i => x.cps.toList[i]? := by funext i; simp
  rw [e]
  by_cases hab : a ≤ b
  · exact pick_list _ a _ (by simp [Str.length] at hb ⊢; omega)
  · rw [show b - a = 0 by omega]; simp
theorem slice_gen (x : Str) (l u : Option Int) (a b : Nat) (hb : b ≤ x.length) (e : Builtin.Str.strSliceIndices l u 1 x.length = sliceRange (a : Int) (b : Int) 1) : Txt.slice x l u = ⟨((x.cps.toList.drop a).take (b - a)).toArray⟩ := by
  have hp := pick_arr x a b hb
  unfold Txt.slice
  rw [e]
  split
  · rename_i hh
    rw [sliceRange_one] at hh
    simp only [List.length_map, List.length_range, Bool.and_eq_true, beq_iff_eq] at hh
    have hl : x.length = x.cps.toList.length := by simp [Str.length]
    have h2 : b - a = x.length := hh.2
    by_cases h0 : x.length = 0
    · have : x.cps.toList = [] := List.length_eq_zero_iff.mp (by rw [← hl]; exact h0)
      rw [this]
      cases x
      simp only [List.drop_nil, List.take_nil] at *
      congr 1
      simpa using this
    · have ha : a = 0 := by omega
      subst ha
      rw [List.drop_zero, List.take_of_length_le (by (clear hb h0 h2; omega))]
  · rw [hp]
theorem slice_upto (x : Str) (b : Nat) : Txt.slice x none (some (b : Int)) = ⟨(x.cps.toList.take b).toArray⟩ := by
  have hl : x.length = x.cps.toList.length := by simp [Str.length]
  rw [slice_gen x none (some (b : Int)) 0 (min b x.length) (Nat.min_le_right _ _)]
  · rw [List.drop_zero, Nat.sub_zero]
    by_cases h : b ≤ x.length
    · rw [Nat.min_eq_left h]
    · rw [Nat.min_eq_right (by omega), List.take_of_length_le (by omega), List.take_of_length_le (by omega)]
  · unfold Builtin.Str.strSliceIndices
    simp only [show ((1 : Int) > 0) from by decide, if_true, show ¬ ((b : Int) < 0) from by omega, if_false]
    congr 1
    omega
theorem slice_from (x : Str) (a : Nat) : Txt.slice x (some (a : Int)) none = ⟨(x.cps.toList.drop a).toArray⟩ := by
  have hl : x.length = x.cps.toList.length := by simp [Str.length]
  rw [slice_gen x (some (a : Int)) none (min a x.length) x.length (Nat.le_refl _)]
  · by_cases h : a ≤ x.length
    · rw [Nat.min_eq_left h, List.take_of_length_le (by rw [List.length_drop]; omega)]
    · rw [Nat.min_eq_right (by omega), List.drop_eq_nil_of_le (by omega), List.drop_eq_nil_of_le (by omega)]
      simp
  · unfold Builtin.Str.strSliceIndices
    simp only [show ((1 : Int) > 0) from by decide, if_true, show ¬ ((a : Int) < 0) from by omega, if_false]
    congr 1
    omega
theorem slice_but (x : Str) (h : 1 ≤ x.length) : Txt.slice x none (some (-1)) = ⟨(x.cps.toList.take (x.length - 1)).toArray⟩ := by
  rw [slice_gen x none (some (-1)) 0 (x.length - 1) (by exact Nat.sub_le _ _)]
  · rw [List.drop_zero, Nat.sub_zero]
  · unfold Builtin.Str.strSliceIndices
    simp only [show ((1 : Int) > 0) from by decide, if_true, show ((-1 : Int) < 0) from by decide]
    congr 1
    exact o_mx h
end Mine
namespace Mine
noncomputable def blks : List Nat := [0, 1, 2, 4, 7, 8, 9, 10, 11, 12]
noncomputable def hidN : List Nat := [173, 847, 6150, 6155, 6156, 6157, 8203, 8204, 8205, 8288, 65279] ++ (List.range 16).map fun i => 65024 + i
noncomputable def typedEnd (q m : Nat) : Nat := if m % 12 = 1 then 65 + q else if 1 < m % 12 then 119808 + 52 * blks.getD (m % 12 - 2) 0 + q else 97 + q
noncomputable def typedL (ts : List Nat) (q m : Nat) : List Nat :=
  (ts ++ [typedEnd q m]).take (m / 324 % 8) ++ [hidN.getD (m / 12 % 27) 0] ++ (ts ++ [typedEnd q m]).drop (m / 324 % 8)
theorem fdivN (a b : Nat) : Int.fdiv (a : Int) (b : Int) = ((a / b : Nat) : Int) := by
  rw [Int.fdiv_eq_ediv_of_nonneg _ (by exact Int.natCast_nonneg _)]; norm_cast
theorem fmodN (a b : Nat) : Int.fmod (a : Int) (b : Int) = ((a % b : Nat) : Int) := by
  rw [Int.fmod_eq_emod_of_nonneg _ (by exact Int.natCast_nonneg _)]; norm_cast
theorem str_app (a b : List Nat) : (⟨a.toArray⟩ : Str) ++ ⟨b.toArray⟩ = ⟨(a ++ b).toArray⟩ := by
  show Str.mk _ = _
  simp
theorem last_sign (ts : List Nat) (c : Nat) : (seqIndex? (-1) (Str.length ⟨(ts ++ [c]).toArray⟩)).bind ((⟨(ts ++ [c]).toArray⟩ : Str).cps[·]?) = some c := by
  have e : Str.length ⟨(ts ++ [c]).toArray⟩ = ts.length + 1 := by simp [Str.length]
  rw [e]
  have e2 : seqIndex? (-1) (ts.length + 1) = some ts.length := by
    unfold seqIndex?
    have h1 : ((-1 : Int) + ((ts.length + 1 : Nat) : Int)) = (ts.length : Int) := by omega
    simp
    (clear e h1; omega)
  rw [e2]
  simp
variable [HasP]
section
variable {G : Glb} {F : Fm} {ρ : Vars} {H : HA} {sc : Scope} {d : Nat} {Q : V → HA → Prop} {Kf : Frag}
theorem c_typed (K : Kn G) (hP : ∀ t, HasP.K t = 0) (ok : FOk G F sc (d + 1)) {ts : List Nat} {q m : Nat} (hl : ts.length ≤ 100) (hq : q < 26) (hm : m < 2592) (h : ∀ H', Ext H H' → Q (.str ⟨(typedL ts q m).toArray⟩) H') :
    Cal G F (.ref 243) [.str ⟨(ts ++ [97 + q]).toArray⟩, .int m] H Q := by
  refine K.d_typed.cal K.g ok rfl fun F ok own => ?_
  refine Exs_cons <| Ex_Assign <| Ev_BinOp <| Ev_List <| Evs_cons <| Ev_int <| Evs_cons <| Ev_int <| Evs_cons <| Ev_int <| Evs_cons <| Ev_int <| Evs_cons <| Ev_int <| Evs_cons <| Ev_int <| Evs_cons <| Ev_int <| Evs_cons <| Ev_int <| Evs_cons <| Ev_int <| Evs_cons <| Ev_int <| Evs_cons <| Ev_int <| Evs_nil
    ⟨show 11 ≤ sizeLine by decide, fun A hA => Ev_Call ok K.g (K.bt (n := "list") rfl rfl) trivial <| Evs_cons <| Ev_Call ok K.g (K.bt (n := "range") rfl rfl) trivial <| Evs_cons <| Ev_int <| Evs_cons <| Ev_int <| Evs_nil <| Cal_range2 fun r hr => Evs_nil <|
      Cal_list_range ok (n := 16) (HA.set_self _ _ _) (by decide +kernel) (by decide +kernel) (by decide) fun B hB => Bin_addL ok (HA.set_old hB (HA.set_old hr (HA.set_self _ _ _))) (HA.set_self _ _ _) (show 11 + 16 ≤ sizeLine by decide) fun C hC => St_ ok own ?_⟩
  have hE : Ext H ((((H.set A (.list [.int 173, .int 847, .int 6150, .int 6155, .int 6156, .int 6157, .int 8203, .int 8204, .int 8205, .int 8288, .int 65279])).set r (.range 65024 65040 1)).set B (.list ((List.range 16).map fun i : Nat => V.int (65024 + i)))).set C (.list (hidN.map fun n : Nat => V.int n))) :=
    (((Ext.rfl.new hA).new hr).new hB).new hC
  refine Exs_cons <| Ex_Assign <| Ev_BinOp <| Ev_Name <| Ld_ ok rfl <| Ev_int <| Bin_mod (by decide) <| St_ ok own ?_
  have e12 : Int.fmod (m : Int) 12 = ((m % 12 : Nat) : Int) := fmodN m 12
  rw [e12]
  have tail : ∀ ρ1 H1, ρ1 "text" = some (.str ⟨(ts ++ [97 + q]).toArray⟩) → ρ1 "number" = some (.int m) → ρ1 "hidden" = some (.ref C) → ρ1 "end" = some (.str ⟨#[typedEnd q m]⟩) → Ext H H1 → H1 C = some (.list (hidN.map fun n : Nat => V.int n)) →
      Exs G F ((FB 24).drop 4) ρ1 H1 (fun fl _ H' => Q (match fl with | .ret v => v | _ => .none) H') := by
    intro ρ1 H1 r1 r2 r3 r4 hE1 hC1
    have hlen : Str.length ⟨(ts ++ [97 + q]).toArray⟩ = ts.length + 1 := by simp [Str.length]
    refine Exs_cons <| Ex_Assign <| Ev_BinOp <| Ev_Subscript PySem.F.slot_str_getitem.lookup <| Ev_Name <| Ld_ ok r1 <| Ev_Slice (l := none) (u := some _) (st := none) <| Ev_UnaryOp <| Ev_int <| Un_neg fun s1 hs1 => ⟨TyV.str _ _ _, GetI_strSlice (lo := none) (hi := some (-1)) (HA.set_self _ _ _) .no (.at _) (by rw [hlen]; exact Nat.le_trans (Nat.succ_le_succ hl) (by decide)) <|
      Ev_Name <| Ld_ ok r4 <| Bin_addS hP ?_ <| St_ ok own ?_⟩
    · rw [slice_but _ (by rw [hlen]; exact Nat.le_add_left _ _)]
      have : (1000 : Nat) ≤ sizeLine := by decide
      simp [Str.length]
      (clear hq hm e12; omega)
    have ety : Txt.slice ⟨(ts ++ [97 + q]).toArray⟩ none (some (-1)) ++ (⟨#[typedEnd q m]⟩ : Str) = ⟨(ts ++ [typedEnd q m]).toArray⟩ := by
      rw [slice_but _ (by rw [hlen]; exact Nat.le_add_left _ _), hlen]
      rw [show (#[typedEnd q m] : Array Nat) = [typedEnd q m].toArray from rfl, str_app]
      simp
    rw [ety]
    refine Exs_cons <| Ex_Assign <| Ev_BinOp <| Ev_BinOp <| Ev_Name <| Ld_ ok (vs r2) <| Ev_int <| Bin_floordiv (by decide) (PyProof.noPylong_small (by decide)) <| Ev_int <| Bin_mod (by decide) <| St_ ok own ?_
    have e324 : Int.fmod (Int.fdiv (m : Int) 324) 8 = ((m / 324 % 8 : Nat) : Int) := by
      rw [show Int.fdiv (m : Int) 324 = ((m / 324 : Nat) : Int) from fdivN m 324]; exact fmodN _ 8
    rw [e324]
    have hlen2 : Str.length ⟨(ts ++ [typedEnd q m]).toArray⟩ = ts.length + 1 := by simp [Str.length]
    have hk : m / 12 % 27 < 27 := Nat.mod_lt _ (by decide)
    have e27 : Int.fmod (Int.fdiv (m : Int) 12) 27 = ((m / 12 % 27 : Nat) : Int) := by
      rw [show Int.fdiv (m : Int) 12 = ((m / 12 : Nat) : Int) from fdivN m 12]; exact fmodN _ 27
    have hh : hidN.length = 27 := by decide
    have hg : (hidN.map fun n : Nat => V.int n)[(((m / 12 % 27 : Nat) : Int)).toNat]? = some (.int (hidN.getD (m / 12 % 27) 0 : Nat)) := by
      rw [Int.toNat_natCast, List.getElem?_map, List.getElem?_eq_getElem (by rw [hh]; exact hk), List.getD_eq_getElem?_getD, List.getElem?_eq_getElem (by rw [hh]; exact hk)]; rfl
    have hall : ∀ k, k < 27 → hidN.getD k 0 ≤ 1114111 := by decide
    refine Exs_cons <| Ex_Return <| Ev_BinOp <| Ev_BinOp <| Ev_Subscript PySem.F.slot_str_getitem.lookup <| Ev_Name <| Ld_ ok (vs vz) <| Ev_Slice (l := none) (u := some _) (st := none) <| Ev_Name <| Ld_ ok vz fun s2 hs2 => ⟨TyV.str _ _ _, GetI_strSlice (lo := none) (hi := some _) (HA.set_self _ _ _) .no (.at _) (by rw [hlen2]; exact Nat.le_trans (Nat.succ_le_succ hl) (by decide)) <|
      Ev_Call ok K.g (K.bt (n := "chr") rfl rfl) trivial <| Evs_cons <| Ev_Subscript PySem.F.slot_list_getitem.lookup <| Ev_Name <| Ld_ ok (vs (vs r3)) <| Ev_BinOp <| Ev_BinOp <| Ev_Name <| Ld_ ok (vs (vs r2)) <| Ev_int <| Bin_floordiv (by decide) (PyProof.noPylong_small (by decide)) <| Ev_int <| Bin_mod (by decide) ?_⟩
    rw [e27]
    have hC2 := HA.set_old (o := .slice .none (.int ((m / 324 % 8 : Nat) : Int)) .none) hs2 (HA.set_old hs1 hC1)
    refine ⟨TyV.list hC2, GetI_list hC2 (by exact Int.natCast_nonneg _) (by exact Int.lt_of_lt_of_le (Int.ofNat_lt.mpr hk) (by decide)) hg <| Evs_nil <| Cal_chr (by exact Int.natCast_nonneg _) (by have := hall _ hk; exact Int.le_trans (Int.ofNat_le.mpr this) (by decide)) <| Bin_addS hP ?_ <| Ev_Subscript PySem.F.slot_str_getitem.lookup <| Ev_Name <| Ld_ ok (vs vz) <| Ev_Slice (l := some _) (u := none) (st := none) <| Ev_Name <| Ld_ ok vz fun s3 hs3 =>
      ⟨TyV.str _ _ _, GetI_strSlice (lo := some _) (hi := none) (HA.set_self _ _ _) (.at _) .no (by rw [hlen2]; exact Nat.le_trans (Nat.succ_le_succ hl) (by decide)) <| Bin_addS hP ?_ ?_⟩⟩
    · rw [slice_upto]
      have : (1000 : Nat) ≤ sizeLine := by decide
      simp [Str.length]
      (clear hq hm e12 e324 hk e27 hh; omega)
    · rw [slice_upto, slice_from]
      have : (1000 : Nat) ≤ sizeLine := by decide
      rw [show (⟨#[(((hidN.getD (m / 12 % 27) 0 : Nat) : Int)).toNat]⟩ : Str) = ⟨[hidN.getD (m / 12 % 27) 0].toArray⟩ from rfl, str_app]
      simp [Str.length]
      (clear hq hm e12 e324 hk e27 hh; omega)
    · rw [slice_upto, slice_from, Int.toNat_natCast, show (#[hidN.getD (m / 12 % 27) 0] : Array Nat) = [hidN.getD (m / 12 % 27) 0].toArray from rfl, str_app, str_app]
      exact h _ (((hE1.new hs1).new hs2).new hs3)
  refine Exs_cons <| Ex_Assign <| Ev_Subscript PySem.F.slot_str_getitem.lookup <| Ev_Name <| Ld_ ok rfl <| Ev_UnaryOp <| Ev_int <| Un_neg ⟨TyV.str _ _ _, GetI_str (by decide) (last_sign ts (97 + q)) <| St_ ok own ?_⟩
  refine Exs_cons <| Ex_If <| Tr_Compare <| Ev_Name <| Ld_ ok rfl <| Ev_int <| Cmp_int (op := .Eq) (r := decide (m % 12 = 1)) (by rw [Option.some.injEq]; exact (by rw [Bool.eq_iff_iff, beq_iff_eq, decide_eq_true_iff]; (clear hl hq hm; omega))) <| Tru_bool ?_
  by_cases f1 : m % 12 = 1
  · rw [decide_eq_true f1]
    refine Exs_cons <| Ex_Assign <| Ev_Call ok K.g (K.bt (n := "chr") rfl rfl) trivial <| Evs_cons <| Ev_BinOp <| Ev_Call ok K.g (K.bt (n := "ord") rfl rfl) trivial <| Evs_cons <| Ev_Name <| Ld_ ok rfl <| Evs_nil <| Cal_ord <| Ev_int <| Bin_sub <| Evs_nil <| Cal_chr (by (clear hl hm e12 f1; omega)) (by (clear hl hm e12 f1; omega)) <| St_ ok own <| Exs_nil ?_
    refine tail _ _ rfl rfl rfl ?_ hE (HA.set_self _ _ _)
    rw [vz]
    unfold typedEnd
    rw [if_pos f1, show (((97 + q : Nat) : Int) - 32).toNat = 65 + q by (clear hl hm e12 f1; omega)]
  rw [decide_eq_false f1]
  refine Exs_cons <| Ex_If <| Tr_Compare <| Ev_Name <| Ld_ ok rfl <| Ev_int <| Cmp_int (op := .Gt) (r := decide (1 < m % 12)) (by rw [Option.some.injEq, decide_eq_decide]; (clear hl hq hm f1; omega)) <| Tru_bool ?_
  by_cases f2 : 1 < m % 12
  · rw [decide_eq_true f2]
    have hlt := Nat.mod_lt m (show 0 < 12 by decide)
    have hg : ([0, 1, 2, 4, 7, 8, 9, 10, 11, 12].map fun n : Nat => V.int n)[(((m % 12 : Nat) : Int) - 2).toNat]? = some (.int (blks.getD (m % 12 - 2) 0 : Nat)) := by
      rw [show (((m % 12 : Nat) : Int) - 2).toNat = m % 12 - 2 from o_t2, List.getElem?_map]
      generalize hk : m % 12 - 2 = k
      have : k < 10 := by (clear hl hq hm f1 hlt; omega)
      have : ∀ k, k < 10 → ([0, 1, 2, 4, 7, 8, 9, 10, 11, 12] : List Nat)[k]? = some (blks.getD k 0) := by decide
      rw [this k (by assumption)]; rfl
    have hall : ∀ k, k < 10 → blks.getD k 0 ≤ 12 := by decide
    have hbk := hall (m % 12 - 2) (by (clear hl hq hm f1 hlt; omega))
    refine Exs_cons <| Ex_Assign <| Ev_Call ok K.g (K.bt (n := "chr") rfl rfl) trivial <| Evs_cons <| Ev_BinOp <| Ev_BinOp <| Ev_int <| Ev_BinOp <| Ev_int <| Ev_Subscript PySem.F.slot_tuple_getitem.lookup <| Ev_Tuple <| Evs_cons <| Ev_int <| Evs_cons <| Ev_int <| Evs_cons <| Ev_int <| Evs_cons <| Ev_int <| Evs_cons <| Ev_int <| Evs_cons <| Ev_int <| Evs_cons <| Ev_int <| Evs_cons <| Ev_int <| Evs_cons <| Ev_int <| Evs_cons <| Ev_int <| Evs_nil
      ⟨show 10 ≤ sizeLine by decide, fun T hT => Ev_BinOp <| Ev_Name <| Ld_ ok rfl <| Ev_int <| Bin_sub ⟨TyV.tup (HA.set_self _ _ _), GetI_tup (HA.set_self _ _ _) (by (clear hl hq hm f1 hlt hbk; omega)) (by (clear hl hq hm f1 hlt hbk; omega)) hg <| Bin_mul (IntMulOk.of_left (by decide)) <| Bin_add <| Ev_Call ok K.g (K.bt (n := "ord") rfl rfl) trivial <| Evs_cons <| Ev_Name <| Ld_ ok rfl <| Evs_nil <| Cal_ord <| Bin_add <| Evs_nil <| Cal_chr (by (clear hl hm e12 f1 f2 hlt; omega)) (by (clear hl hm e12 f1 f2 hlt; omega)) <| St_ ok own <| Exs_nil <| Exs_nil ?_⟩⟩
    refine tail _ _ rfl rfl rfl ?_ (hE.new hT) (HA.set_old hT (HA.set_self _ _ _))
    rw [vz]
    unfold typedEnd
    rw [if_neg f1, if_pos f2]
    congr 5
    (clear hl hm e12 f1 f2 hlt; omega)
  · rw [decide_eq_false f2]
    refine Exs_nil <| Exs_nil <| tail _ _ rfl rfl rfl ?_ hE (HA.set_self _ _ _)
    rw [vz]
    unfold typedEnd
    rw [if_neg f1, if_neg f2]
end
end Mine
namespace Mine
noncomputable def SignR (c : Nat) (r : List Nat) : Prop := (hiddenL.contains (c : Int) = true ∧ r = []) ∨ (hiddenL.contains (c : Int) = false ∧ r.length ≤ 3 ∧
  (((c : Int) ∈ plainL ∧ Txt.lower ⟨#[c]⟩ = ⟨r.toArray⟩) ∨ ∃ t ∈ blockL, ∃ i : Nat, i < 26 ∧ (c : Int) = 119808 + 52 * t + i ∧ r = [97 + i]))
theorem flat_take (cs : List Nat) (rs : Nat → List Nat) (i c : Nat) (h : cs[i]? = some c) : (cs.take (i + 1)).flatMap rs = (cs.take i).flatMap rs ++ rs c := by
  rw [List.take_add_one, h, List.flatMap_append]
  simp
variable [HasP]
section
variable {G : Glb} {F : Fm} {ρ : Vars} {H : HA} {sc : Scope} {d : Nat} {Q : V → HA → Prop} {Kf : Frag}
theorem c_prepared (K : Kn G) (hP : ∀ t, HasP.K t = 0) (ok : FOk G F sc (d + 2)) {cs : List Nat} {rs : Nat → List Nat} (hr : ∀ c ∈ cs, SignR c (rs c)) (hl : cs.length ≤ 200) (h : Q (.str ⟨(cs.flatMap rs).toArray⟩) H) :
    Cal G F (.ref 250) [.str ⟨cs.toArray⟩] H Q := by
  refine K.d_prepared.cal K.g ok rfl fun F ok own => ?_
  refine Exs_cons <| Ex_Assign <| Ev_str <| St_ ok own ?_
  have hlen3 : ∀ c ∈ cs, (rs c).length ≤ 3 := fun c hc => by
    rcases hr c hc with ⟨_, e⟩ | ⟨_, e, _⟩
    · rw [e]; decide
    · exact e
  have hfl : ∀ i, ((cs.take i).flatMap rs).length ≤ 3 * i := by
    intro i
    induction i with
    | zero => simp
    | succ i ih =>
      by_cases hi : i < cs.length
      · rw [flat_take cs rs i cs[i] (List.getElem?_eq_getElem hi), List.length_append]
        have := hlen3 cs[i] (List.getElem_mem hi)
        omega
      · rw [List.take_of_length_le (by (clear hl ih; omega))]
        rw [List.take_of_length_le (by exact Nat.le_of_not_lt hi)] at ih
        (clear hl hi; omega)
  refine Exs_cons <| Ex_For <| Ev_Name <| Ld_ ok rfl ⟨_, _, _, fun i ρ' H' => ρ' "out" = some (.str ⟨((cs.take i).flatMap rs).toArray⟩) ∧ H' = H, Iter.str hP ok.hd ⟨cs.toArray⟩, ⟨rfl, rfl⟩, fun _ _ _ _ => trivial, ?_, ?_⟩
  · rintro i hi ρ1 H1 ⟨r1, rfl⟩
    have hi' : i < cs.length := by simpa using hi
    have hgd : (cs.toArray).getD i 0 = cs[i] := by simp [Array.getD_eq_getD_getElem?, hi']
    have hget : cs[i]? = some cs[i] := List.getElem?_eq_getElem hi'
    have hft := flat_take cs rs i cs[i] hget
    have hsr := hr cs[i] (List.getElem_mem hi')
    have h3 := hlen3 cs[i] (List.getElem_mem hi')
    have hfi := hfl i
    show As G F _ (.str ⟨#[cs.toArray.getD i 0]⟩) ρ1 H1 _
    rw [hgd]
    generalize hc : cs[i] = c at *
    have add : ∀ Q3 : V → HA → Prop, Q3 (.str ⟨((cs.take (i + 1)).flatMap rs).toArray⟩) H1 → Bin G F .Add (.str ⟨((cs.take i).flatMap rs).toArray⟩) (.str ⟨(rs c).toArray⟩) H1 Q3 := fun Q3 hq => Bin_addS hP (by
      have : (1000 : Nat) ≤ sizeLine := by decide
      simp only [Str.length, List.size_toArray]
      (clear hi hc hgd; omega)) (by rw [str_app, ← hft]; exact hq)
    refine As_Name (St_ ok own ?_)
    refine Exs_cons <| Ex_Assign <| Ev_Call ok K.g (K.gv (n := "in_table_b1") rfl) K.d_b1.callee <| Evs_cons <| Ev_Name <| Ld_ ok vz <| Evs_nil <| c_b1 K ok <| St_ ok own ?_
    refine Exs_cons <| Ex_If <| Tr_Compare <| Ev_Name <| Ld_ ok vz <| Ev_bool <| Cmp_isBool <| Tru_bool ?_
    rcases hsr with ⟨hh, hrc⟩ | ⟨hh, _, hrc⟩
    · rw [hh, show (true == false) = false from rfl]
      refine Exs_cons <| Ex_If <| Tr_Compare <| Ev_Name <| Ld_ ok vz <| Ev_bool <| Cmp_isNotBool <| Tru_bool ?_
      rw [show (!(true == true)) = false from rfl]
      refine Exs_nil <| Exs_nil <| Exs_nil ⟨?_, rfl⟩
      rw [hft, hrc, List.append_nil]
      exact vs (vs r1)
    · rw [hh, show (false == false) = true from rfl]
      refine Exs_cons <| Ex_Assign <| Ev_BinOp <| Ev_Name <| Ld_ ok (vs (vs r1)) <| Ev_Call ok K.g (K.gv (n := "map_table_b3") rfl) K.d_b3.callee <| Evs_cons <| Ev_Name <| Ld_ ok (vs vz) <| Evs_nil ?_
      rcases hrc with ⟨hp, hlow⟩ | ⟨t, ht, k, hk, hck, hrk⟩
      · refine c_b3_plain K ok hp ?_
        rw [hlow]
        exact add _ <| St_ ok own <| Exs_nil <| Exs_nil ⟨vz, rfl⟩
      · refine c_b3_letter K ok ht hk hck ?_
        have : (⟨#[97 + k]⟩ : Str) = ⟨(rs c).toArray⟩ := by rw [hrk]
        rw [this]
        exact add _ <| St_ ok own <| Exs_nil <| Exs_nil ⟨vz, rfl⟩
  · rintro ρ1 H1 ⟨r1, rfl⟩
    refine Exs_nil <| Exs_cons <| Ex_Return <| Ev_Name <| Ld_ ok r1 ?_
    have : cs.take (cs.toArray.size) = cs := by simp
    rw [this]
    exact h
end
end Mine
namespace Mine
variable [HasP]
section
variable {G : Glb} {F : Fm} {ρ : Vars} {H : HA} {sc : Scope} {d : Nat} {Kf : Frag}
theorem Ex_Comp {elt iter : Expr} {x y : String} {px py : Pos} {ifs : List Expr} {scope : Scope} {pos spos : Pos} {Q : Fl → Vars → HA → Prop} (ok : FOk G F sc d) (g : GOk G)
    (h : Comp G F sc d elt iter x ifs scope ρ H fun ys H2 => ∀ D, H2 D = none → St G F y (.ref D) ρ (H2.set D (.list ys)) fun ρ3 H3 => Q .next ρ3 H3)
    (co : CompOk scope sc := by decide +kernel) (hx : scope.names.lookup (Str.ofString x) = some .local := by decide +kernel) (hs : ∀ x, foldedSetIterable iter F.env x = pure x := by intro _; rfl) :
    Ex G F (.Assign [.Name (Str.ofString y) py] (.ListComp elt [⟨.Name (Str.ofString x) px, iter, ifs, 0⟩] scope pos) spos) ρ H Q := by
  have e : swapsWith (.ListComp elt [⟨.Name (Str.ofString x) px, iter, ifs, 0⟩] scope pos) (some (.Name (Str.ofString y) py)) spos.line F.env =
      pure (F.env.blockKind == .function && F.env.kindOf (Str.ofString y) == some .local && py.line == pos.line && !(scope.names.any fun (n, k) => n == Str.ofString y && (k == .local || k == .cell))) := rfl
  cases hb : (F.env.blockKind == .function && F.env.kindOf (Str.ofString y) == some .local && py.line == pos.line && !(scope.names.any fun (n, k) => n == Str.ofString y && (k == .local || k == .cell))) with
  | true => exact Ex_AssignComp ok g h (by rw [e, hb]) co hx hs
  | false => exact Ex_Assign (Ev_ListComp ok g h co hx hs) (by rw [e, hb])
end
end Mine
namespace Mine
noncomputable abbrev Mat := Nat → Nat → Int
noncomputable def rowV (M : Mat) (i : Nat) : List V := (List.range 6).map fun j => V.int (M i j)
theorem rowV_len (M : Mat) (i : Nat) : (rowV M i).length = 6 := by simp [rowV]
theorem rowV_get (M : Mat) (i j : Nat) (hj : j < 6) : (rowV M i)[j]? = some (.int (M i j)) := by
  unfold rowV; rw [List.getElem?_map, List.getElem?_range hj]; rfl
noncomputable def Mat.put (M : Mat) (i j : Nat) (v : Int) : Mat := fun i' j' => if i' = i ∧ j' = j then v else M i' j'
theorem rowV_put (M : Mat) (i j : Nat) (v : Int) (hj : j < 6) : (rowV M i).set j (.int v) = rowV (M.put i j v) i := by
  apply List.ext_getElem?
  intro k
  rw [List.getElem?_set]
  by_cases hk : k < 6
  · by_cases hjk : j = k
    · subst hjk
      rw [if_pos rfl, rowV_get _ _ _ hk]
      simp [rowV, Mat.put, hk]
    · rw [if_neg hjk, rowV_get _ _ _ hk, rowV_get _ _ _ hk]
      show some (V.int (M i k)) = some (V.int (if i = i ∧ k = j then v else M i k))
      rw [if_neg fun h => hjk h.2.symm]
  · have l1 : (rowV M i)[k]? = none := List.getElem?_eq_none (by rw [rowV_len]; exact Nat.le_of_not_lt hk)
    have l2 : (rowV (M.put i j v) i)[k]? = none := List.getElem?_eq_none (by rw [rowV_len]; exact Nat.le_of_not_lt hk)
    rw [l1, l2, if_neg (by omega)]
theorem rowV_put_ne (M : Mat) (i j i' : Nat) (v : Int) (h : i' ≠ i) : rowV (M.put i j v) i' = rowV M i' := by
  unfold rowV
  refine List.map_congr_left fun k _ => ?_
  show V.int (if i' = i ∧ k = j then v else M i' k) = V.int (M i' k)
  rw [if_neg fun q => h q.1]
noncomputable def fam (a : Nat → Addr) (i : Nat) (q : Addr) : Nat → Addr := fun j => if j = i then q else a j
theorem fam_self (a : Nat → Addr) (i : Nat) (q : Addr) : fam a i q i = q := by simp [fam]
theorem fam_ne {a : Nat → Addr} {i j : Nat} {q : Addr} (h : j ≠ i) : fam a i q j = a j := by simp [fam, h]
structure RowsAt (H H' : HA) (R : Addr) (a : Nat → Addr) (M : Mat) : Prop where
  ext : Ext H H'
  hR : H R = none
  at_ : H' R = some (.list ((List.range 6).map fun i => .ref (a i)))
  row : ∀ i, i < 6 → H' (a i) = some (.list (rowV M i))
  frs : ∀ i, i < 6 → H (a i) = none
  ne : ∀ i, i < 6 → a i ≠ R
  inj : ∀ i j, i < 6 → j < 6 → i ≠ j → a i ≠ a j
theorem RowsAt.new {H H' : HA} {R : Addr} {a : Nat → Addr} {M : Mat} (x : RowsAt H H' R a M) {q : Addr} {o : O} (hq : H' q = none) : RowsAt H (H'.set q o) R a M :=
  ⟨x.ext.new hq, x.hR, HA.set_old hq x.at_, fun i hi => HA.set_old hq (x.row i hi), x.frs, x.ne, x.inj⟩
theorem RowsAt.put {H H' : HA} {R : Addr} {a : Nat → Addr} {M : Mat} (x : RowsAt H H' R a M) {i j : Nat} (hi : i < 6) (hj : j < 6) (v : Int) : RowsAt H (H'.set (a i) (.list ((rowV M i).set j (.int v)))) R a (M.put i j v) := by
  refine ⟨x.ext.set (x.frs i hi), x.hR, ?_, fun k hk => ?_, x.frs, x.ne, x.inj⟩
  · rw [HA.set_ne (Ne.symm (x.ne i hi))]; exact x.at_
  · by_cases hki : k = i
    · subst hki; rw [HA.set_self, rowV_put _ _ _ _ hj]
    · rw [HA.set_ne (x.inj k i hk hi hki), rowV_put_ne _ _ _ _ _ hki]; exact x.row k hk
theorem refs_get (a : Nat → Addr) (i : Nat) (hi : i < 6) : ((List.range 6).map fun i => V.ref (a i))[i]? = some (.ref (a i)) := by
  rw [List.getElem?_map, List.getElem?_range hi]; rfl
noncomputable def swapM (M : Mat) (k p : Nat) : Mat := fun i j => if i = k then M p j else if i = p then M k j else M i j
theorem RowsAt.swap {H H' : HA} {R : Addr} {a : Nat → Addr} {M : Mat} (x : RowsAt H H' R a M) {k p : Nat} (hk : k < 6) (hp : p < 6) (hne : p ≠ k) :
    RowsAt H (H'.set R (.list ((((List.range 6).map fun i => V.ref (a i)).set k (.ref (a p))).set p (.ref (a k))))) R (fam (fam a p (a k)) k (a p)) (swapM M k p) := by
  have hf : ∀ i, i < 6 → ∃ j, j < 6 ∧ fam (fam a p (a k)) k (a p) i = a j ∧ rowV (swapM M k p) i = rowV M j ∧ (j = if i = k then p else if i = p then k else i) := by
    intro i hi
    by_cases h1 : i = k
    · subst h1
      exact ⟨p, hp, fam_self _ _ _, by unfold rowV swapM; simp, by simp⟩
    · by_cases h2 : i = p
      · subst h2
        exact ⟨k, hk, by rw [fam_ne h1, fam_self], by unfold rowV swapM; simp [h1], by simp [h1]⟩
      · exact ⟨i, hi, by rw [fam_ne h1, fam_ne h2], by unfold rowV swapM; simp [h1, h2], by simp [h1, h2]⟩
  refine ⟨x.ext.set x.hR, x.hR, ?_, fun i hi => ?_, fun i hi => ?_, fun i hi => ?_, fun i j hi hj hij => ?_⟩
  · rw [HA.set_self]
    congr 2
    apply List.ext_getElem?
    intro i
    rw [List.getElem?_set, List.getElem?_set]
    by_cases hi : i < 6
    · rw [refs_get _ _ hi, refs_get _ _ hi]
      by_cases h2 : p = i
      · subst h2
        rw [if_pos rfl, if_pos (by simpa using hi), fam_ne hne, fam_self]
      · rw [if_neg h2]
        by_cases h1 : k = i
        · subst h1
          rw [if_pos rfl, if_pos (by simpa using hi), fam_self]
        · rw [if_neg h1, fam_ne (Ne.symm h1), fam_ne (Ne.symm h2)]
    · have l1 : ∀ b : Nat → Addr, ((List.range 6).map fun i => V.ref (b i))[i]? = none := fun b => List.getElem?_eq_none (by simp; exact Nat.le_of_not_lt hi)
      rw [l1, l1, if_neg (by (clear hk hne; omega)), if_neg (by (clear hp hne; omega))]
  · obtain ⟨j, hj, e1, e2, _⟩ := hf i hi
    rw [e1, e2, HA.set_ne (x.ne j hj)]; exact x.row j hj
  · obtain ⟨j, hj, e1, _⟩ := hf i hi
    rw [e1]; exact x.frs j hj
  · obtain ⟨j, hj, e1, _⟩ := hf i hi
    rw [e1]; exact x.ne j hj
  · obtain ⟨i', hi', e1, _, g1⟩ := hf i hi
    obtain ⟨j', hj', e2, _, g2⟩ := hf j hj
    rw [e1, e2]
    refine x.inj i' j' hi' hj' ?_
    rw [g1, g2]
    repeat' split
    all_goals omega
noncomputable def stepM (M : Mat) (k : Nat) (ahead : Int) : Mat := fun i j => if k < i ∧ i < 6 ∧ k < j ∧ j < 6 then Int.fdiv (M i j * M k k - M i k * M k j) ahead else M i j
noncomputable def findP (M : Mat) (k : Nat) : List Nat := (List.range' k (6 - k)).filter fun i => M i k != 0
noncomputable def detGo : Nat → Nat → Mat → Int → Int → Int
  | 0, _, M, sign, _ => sign * M 5 5
  | n + 1, k, M, sign, ahead => match findP M k with
    | [] => 0
    | p :: _ => if p = k then detGo n (k + 1) (stepM M k ahead) sign (stepM M k ahead k k) else
        detGo n (k + 1) (stepM (swapM M k p) k ahead) (-sign) (stepM (swapM M k p) k ahead k k)
noncomputable def detF (M : Mat) : Int := detGo 5 0 M 1 1
noncomputable def newM (M : Mat) (k : Nat) (ahead : Int) (i j : Nat) : Int := Int.fdiv (M i j * M k k - M i k * M k j) ahead
noncomputable def pstep (M : Mat) (k : Nat) (ahead : Int) (i0 j0 : Nat) : Mat := fun i j =>
  if k < i ∧ i < 6 ∧ k < j ∧ j < 6 ∧ (i < k + 1 + i0 ∨ (i = k + 1 + i0 ∧ j < k + 1 + j0)) then newM M k ahead i j else M i j
theorem pstep_zero (M : Mat) (k : Nat) (ahead : Int) : pstep M k ahead 0 0 = M := by
  funext i j; unfold pstep
  rw [if_neg]
  rintro ⟨a, _, c, _, e | ⟨_, e⟩⟩
  · exact Nat.not_lt_of_le a e
  · exact Nat.not_lt_of_le c e
theorem k16 {k : Nat} (hk : k < 5) : k + 1 + (5 - k) = 6 := by omega
theorem pstep_row (M : Mat) (k : Nat) (ahead : Int) (i0 : Nat) (hk : k < 5) : pstep M k ahead i0 (5 - k) = pstep M k ahead (i0 + 1) 0 := by
  funext i j; unfold pstep
  rw [k16 hk]
  by_cases h : k < i ∧ i < 6 ∧ k < j ∧ j < 6 ∧ (i < k + 1 + (i0 + 1) ∨ (i = k + 1 + (i0 + 1) ∧ j < k + 1 + 0))
  · rw [if_pos h]
    obtain ⟨a, b, c, d, e | ⟨_, e⟩⟩ := h
    · exact if_pos ⟨a, b, c, d, (Nat.lt_or_eq_of_le (Nat.le_of_lt_succ e)).imp_right fun q => ⟨q, d⟩⟩
    · exact absurd e (Nat.not_lt_of_le c)
  · rw [if_neg h]
    refine if_neg ?_
    rintro ⟨a, b, c, d, e | ⟨e, _⟩⟩
    · exact h ⟨a, b, c, d, .inl (Nat.lt_succ_of_lt e)⟩
    · exact h ⟨a, b, c, d, .inl (Nat.lt_succ_of_le (Nat.le_of_eq e))⟩
theorem pstep_all (M : Mat) (k : Nat) (ahead : Int) (hk : k < 5) : pstep M k ahead (5 - k) 0 = stepM M k ahead := by
  funext i j; unfold pstep stepM newM
  rw [k16 hk]
  by_cases h : k < i ∧ i < 6 ∧ k < j ∧ j < 6
  · rw [if_pos h]
    exact if_pos ⟨h.1, h.2.1, h.2.2.1, h.2.2.2, .inl h.2.1⟩
  · rw [if_neg h]
    exact if_neg fun q => h ⟨q.1, q.2.1, q.2.2.1, q.2.2.2.1⟩
theorem pstep_put (M : Mat) (k : Nat) (ahead : Int) (i0 j0 : Nat) (hi : k + 1 + i0 < 6) (hj : k + 1 + j0 < 6) : (pstep M k ahead i0 j0).put (k + 1 + i0) (k + 1 + j0) (newM M k ahead (k + 1 + i0) (k + 1 + j0)) = pstep M k ahead i0 (j0 + 1) := by
  funext i j
  show (if i = k + 1 + i0 ∧ j = k + 1 + j0 then newM M k ahead (k + 1 + i0) (k + 1 + j0) else pstep M k ahead i0 j0 i j) = _
  unfold pstep
  by_cases h : i = k + 1 + i0 ∧ j = k + 1 + j0
  · obtain ⟨rfl, rfl⟩ := h
    rw [if_pos ⟨rfl, rfl⟩]
    exact (if_pos ⟨Nat.le_add_right _ _, hi, Nat.le_add_right _ _, hj, .inr ⟨rfl, Nat.lt_succ_self _⟩⟩).symm
  · rw [if_neg h]
    by_cases h2 : k < i ∧ i < 6 ∧ k < j ∧ j < 6 ∧ (i < k + 1 + i0 ∨ (i = k + 1 + i0 ∧ j < k + 1 + j0))
    · rw [if_pos h2]
      exact (if_pos ⟨h2.1, h2.2.1, h2.2.2.1, h2.2.2.2.1, h2.2.2.2.2.imp_right fun q => ⟨q.1, Nat.lt_succ_of_lt q.2⟩⟩).symm
    · rw [if_neg h2]
      refine (if_neg ?_).symm
      rintro ⟨a, b, c, d, e | ⟨e, f⟩⟩
      · exact h2 ⟨a, b, c, d, .inl e⟩
      · exact h2 ⟨a, b, c, d, .inr ⟨e, Nat.lt_of_le_of_ne (Nat.le_of_lt_succ f) fun q => h ⟨e, q⟩⟩⟩
theorem pstep_old (M : Mat) (k : Nat) (ahead : Int) (i0 j0 i j : Nat) (h : ¬ (k < i ∧ i < 6 ∧ k < j ∧ j < 6 ∧ (i < k + 1 + i0 ∨ (i = k + 1 + i0 ∧ j < k + 1 + j0)))) : pstep M k ahead i0 j0 i j = M i j := by
  unfold pstep; rw [if_neg h]
noncomputable def Bd (M : Mat) (e : Nat) : Prop := ∀ i j, (M i j).natAbs < 2 ^ e
theorem fdiv_abs (x y : Int) : (Int.fdiv x y).natAbs ≤ x.natAbs := by
  rcases Int.lt_trichotomy y 0 with h | h | h
  · rw [← Int.neg_fdiv_neg, Int.fdiv_eq_ediv_of_nonneg _ (by omega)]
    have := Int.natAbs_ediv_le_natAbs (-x) (-y)
    omega
  · subst h; simp
  · rw [Int.fdiv_eq_ediv_of_nonneg _ (by omega)]
    exact Int.natAbs_ediv_le_natAbs x y
noncomputable def eB : Nat → Nat
  | 0 => 24
  | k + 1 => 2 * eB k + 2
theorem mul_lt_pow {a b e : Nat} (ha : a < 2 ^ e) (hb : b < 2 ^ e) : a * b < 2 ^ (2 * e) := by
  rw [show 2 * e = e + e by (clear ha hb; omega), Nat.pow_add]
  exact Nat.mul_lt_mul'' ha hb
theorem newM_bd {M : Mat} {k e : Nat} (h : Bd M e) (ah : Int) (i j : Nat) : (newM M k ah i j).natAbs < 2 ^ (2 * e + 2) := by
  unfold newM
  refine Nat.lt_of_le_of_lt (fdiv_abs _ _) ?_
  have h1 := mul_lt_pow (h i j) (h k k)
  have h2 := mul_lt_pow (h i k) (h k j)
  rw [← Int.natAbs_mul] at h1 h2
  rw [show 2 * e + 2 = (2 * e) + 2 from rfl, Nat.pow_add]
  omega
theorem Bd.mono {M : Mat} {e e' : Nat} (h : Bd M e) (he : e ≤ e') : Bd M e' := fun i j => Nat.lt_of_lt_of_le (h i j) (Nat.pow_le_pow_right (by decide) he)
theorem Bd.step {M : Mat} {k e : Nat} (h : Bd M e) (ah : Int) : Bd (stepM M k ah) (2 * e + 2) := fun i j => by
  unfold stepM
  split
  · exact newM_bd h ah i j
  · exact h.mono (by omega) i j
theorem Bd.swap {M : Mat} {k p e : Nat} (h : Bd M e) : Bd (swapM M k p) e := fun i j => by
  unfold swapM; split
  · exact h _ _
  · split <;> exact h _ _
theorem bitsOf {x : Int} {e : Nat} (h : x.natAbs < 2 ^ e) : Builtin.Int.intBits x ≤ e := by
  unfold Builtin.Int.intBits
  split
  · exact Nat.zero_le _
  · rename_i hn
    have : x.natAbs.log2 < e := (Nat.log2_lt (by intro q; exact hn (by simpa using q))).mpr h
    exact Nat.succ_le_of_lt this
variable [HasP]
section
variable {G : Glb} {F : Fm} {ρ : Vars} {H : HA} {sc : Scope} {d : Nat} {Q : V → HA → Prop} {Kf : Frag}
noncomputable def detB : List Stmt := match (FB 28)[(3 : Nat)]? with
  | some (.For _ _ b _ _) => b
  | _ => []
theorem GetR {H' : HA} {R : Addr} {a : Nat → Addr} {M : Mat} (x : RowsAt H H' R a M) {i : Nat} {vi : Int} (hv : vi = i) (hi : i < 6) {Q : V → HA → Prop} (h : Q (.ref (a i)) H') : GetI G F (.ref R) (.int vi) H' Q := by
  subst hv
  exact GetI_list x.at_ (by exact Int.natCast_nonneg _) (by exact o_63 hi) (by rw [Int.toNat_natCast]; exact refs_get a i hi) h
theorem GetC {H' : HA} {R : Addr} {a : Nat → Addr} {M : Mat} (x : RowsAt H H' R a M) {i j : Nat} {vj : Int} (hv : vj = j) (hi : i < 6) (hj : j < 6) {Q : V → HA → Prop} (h : Q (.int (M i j)) H') : GetI G F (.ref (a i)) (.int vj) H' Q := by
  subst hv
  exact GetI_list (x.row i hi) (by exact Int.natCast_nonneg _) (by exact o_63 hj) (by rw [Int.toNat_natCast]; exact rowV_get M i j hj) h
structure DetI (H H' : HA) (R : Addr) (a : Nat → Addr) (M M' : Mat) (sg ah : Int) (i : Nat) (ρ' : Vars) : Prop where
  x : RowsAt H H' R a M'
  r1 : ρ' "rows" = some (.ref R)
  r2 : ρ' "sign" = some (.int sg)
  r3 : ρ' "ahead" = some (.int ah)
  go : detGo (5 - i) i M' sg ah = detF M
  bd : Bd M' (eB i)
  a0 : ah ≠ 0
  ab : ah.natAbs < 2 ^ (eB i)
  sg_ : sg.natAbs = 1
theorem q30 : ∀ k, k < 5 → 5 - k = (5 - (k + 1)) + 1 := by decide
theorem q32 : ∀ k : Nat, k < 5 → ((6 : Int) - ((k : Int) + 1)).toNat = 5 - k := by decide
theorem q21 : ∀ k : Nat, k < 5 → ((6 : Int) - (k : Int)).toNat = 6 - k := by decide
theorem q37 {k i : Nat} (h : i < 5 - k) : k + 1 + i < 6 := by omega
theorem q31 {k p : Nat} (hk : k < 5) (h : p < k + (6 - k)) : p < 6 := by omega
theorem c_det (K : Kn G) (ok : FOk G F sc (d + 4)) {T : Addr} {t : Nat → Addr} {M : Mat} (hT : H T = some (.list ((List.range 6).map fun i => .ref (t i)))) (ht : ∀ i, i < 6 → H (t i) = some (.list (rowV M i)))
    (hM : ∀ i j, (M i j).natAbs < 2 ^ 24) (h : ∀ H', Ext H H' → Q (.int (detF M)) H') : Cal G F (.ref 267) [.ref T] H Q := by
  refine K.d_det.cal K.g ok rfl fun F ok own => ?_
  refine Exs_cons <| Ex_Comp ok K.g <| Ev_Name <| Ld_ ok rfl ⟨_, _, _, fun i ys H' => ∃ a : Nat → Addr, ys = (List.range i).map (fun j => .ref (a j)) ∧ Ext H H' ∧ (∀ j, j < i → H (a j) = none ∧ H' (a j) = some (.list (rowV M j))) ∧ ∀ j j', j < i → j' < i → j ≠ j' → a j ≠ a j',
    Iter.list ok.hd hT, ?_, ?_, ?_, ?_, ?_⟩
  · rw [List.length_map, List.length_range]; decide
  · exact ⟨fun _ => 0, rfl, Ext.rfl, fun j hj => absurd hj (Nat.not_lt_zero _), fun j j' hj => absurd hj (Nat.not_lt_zero _)⟩
  · rintro i ys H' ⟨a, _, hE, _⟩
    exact hE _ _ hT
  · rintro Fc okc i hi ys H2 ⟨a, rfl, hE, hr, hinj⟩
    rw [List.length_map, List.length_range] at hi
    have hit : noneV ((List.range 6).map fun i => V.ref (t i))[i]? = .ref (t i) := by rw [refs_get t i hi]; rfl
    rw [hit]
    refine Ev_Call okc K.g (K.bt (n := "list") rfl rfl) trivial <| Evs_cons <| Ev_Name <| Ld_ okc vz <| Evs_nil <| Cal_list_list (hE _ _ (ht i hi)) (by rw [rowV_len]; decide) fun q hq => ?_
    refine ⟨fam a i q, ?_, hE.new hq, fun j hj => ?_, fun j j' hj hj' hne => ?_⟩
    · rw [List.range_succ, List.map_append]
      congr 1
      · refine List.map_congr_left fun j hj => ?_
        have := List.mem_range.mp hj
        rw [fam_ne (by exact Nat.ne_of_lt this)]
      · rw [List.map_singleton, fam_self]
    · by_cases hji : j = i
      · subst hji
        rw [fam_self]
        exact ⟨hE.none hq, HA.set_self _ _ _⟩
      · rw [fam_ne hji]
        obtain ⟨h1, h2⟩ := hr j (by exact o_ne hj hji)
        exact ⟨h1, HA.set_old hq h2⟩
    · by_cases hji : j = i
      · subst hji
        rw [fam_self, fam_ne (Ne.symm hne)]
        rintro rfl
        rw [(hr j' (by (clear hi hj; omega))).2] at hq; cases hq
      · rw [fam_ne hji]
        by_cases hji' : j' = i
        · subst hji'
          rw [fam_self]
          rintro rfl
          rw [(hr j (by exact o_ne hj hne)).2] at hq; cases hq
        · rw [fam_ne hji']
          exact hinj j j' (by exact o_ne hj hji) (by exact o_ne hj' hji') hne
  · rintro ys H2 ⟨a, rfl, hE, hr, hinj⟩ R hR
    rw [List.length_map, List.length_range] at hr hinj ⊢
    have hRA : RowsAt H (H2.set R (.list ((List.range 6).map fun j => V.ref (a j)))) R a M := by
      refine ⟨hE.new hR, hE.none hR, HA.set_self _ _ _, fun i hi => HA.set_old hR (hr i hi).2, fun i hi => (hr i hi).1, fun i hi => ?_, fun i j hi hj hne => hinj i j hi hj hne⟩
      rintro rfl
      rw [(hr i hi).2] at hR; cases hR
    refine St_ ok own ?_
    refine Exs_cons <| Ex_Assign <| Ev_int <| St_ ok own ?_
    refine Exs_cons <| Ex_Assign <| Ev_int <| St_ ok own ?_
    refine Exs_cons <| Ex_For <| Ev_Call ok K.g (K.bt (n := "range") rfl rfl) trivial <| Evs_cons <| Ev_int <| Evs_nil <| Cal_range1 fun r hr => ?_
    have hit := Iter.rng (G := G) (A := F.A) ok.hd (H := (H2.set R (.list ((List.range 6).map fun j => V.ref (a j)))).set r (.range 0 5 1)) (HA.set_self _ _ _) (by decide) (by decide) (by decide) (by decide)
    refine ⟨_, _, _, fun i ρ' H' => ∃ a M' sg ah, DetI H H' R a M M' sg ah i ρ', hit, ?_, fun _ _ _ _ => trivial, ?_, ?_⟩
    · exact ⟨a, M, 1, 1, hRA.new hr, rfl, rfl, rfl, rfl, hM, by decide, by decide, rfl⟩
    · intro k hk ρ1 H1 hI
      refine As_gen fun Qa hQa => ?_
      obtain ⟨a, M', sg, ah, x, r1, r2, r3, hgo, hbd, hah, hahb, hsg⟩ := hI
      have hk : k < 5 := hk
      have e0k : (0 : Int) + (k : Int) = (k : Int) := by exact o_z0
      rw [e0k]
      refine As_Name (St_ ok own ?_)
      refine Exs_cons <| Ex_Comp ok K.g <| Ev_Call ok K.g (K.bt (n := "range") rfl rfl) trivial <| Evs_cons <| Ev_Name <| Ld_ ok vz <| Evs_cons <| Ev_int <| Evs_nil <| Cal_range2 fun q hq => ?_
      have hit2 := Iter.rng (G := G) (A := F.A) ok.hd (H := H1.set q (.range (k : Int) 6 1)) (HA.set_self _ _ _) (by exact o_n) (by exact Int.le_trans (Int.le_of_lt (Int.ofNat_lt.mpr hk)) (by decide)) (by decide) (by decide)
      have hwl := q21 k hk
      rw [hwl] at hit2
      have xq := x.new (o := .range (k : Int) 6 1) hq
      refine ⟨_, _, _, fun i ys H' => H' = H1.set q (.range (k : Int) 6 1) ∧ ys = ((List.range' k i).filter fun i => M' i k != 0).map fun i : Nat => V.int i, hit2, ?_, ⟨rfl, rfl⟩, fun _ _ _ _ => trivial, ?_, ?_⟩
      · exact Nat.le_trans (Nat.sub_le _ _) (by decide)
      · rintro Fc okc i hi ys H3 ⟨rfl, rfl⟩
        have eki : (k : Int) + (i : Int) = ((k + i : Nat) : Int) := by exact (Int.natCast_add _ _).symm
        rw [eki]
        refine Tr_Compare <| Ev_Subscript PySem.F.slot_list_getitem.lookup <| Ev_Subscript PySem.F.slot_list_getitem.lookup <| Ev_Name <| Ld_ okc (vs (show hideL _ _ "rows" = some (.ref R) from vs r1)) <| Ev_Name <| Ld_ okc vz ⟨TyV.list xq.at_, GetR xq (i := k + i) rfl (by (clear hgo hah hahb hsg e0k hwl eki; omega)) <| Ev_Name <| Ld_ okc (vs (show hideL _ _ "k" = some (.int k) from vz))
          ⟨TyV.list (xq.row (k + i) (by (clear hgo hah hahb hsg e0k hwl eki; omega))), GetC xq (i := k + i) (j := k) rfl (by (clear hgo hah hahb hsg e0k hwl eki; omega)) (by exact Nat.lt_succ_of_lt hk) <| Ev_int <| Cmp_int (op := .NotEq) rfl <| Tru_bool ?_⟩⟩
        have hcat := List.range'_1_concat (s := k) (n := i)
        cases hz : (M' (k + i) k != 0) with
        | true =>
          refine Ev_Name <| Ld_ okc vz ⟨rfl, ?_⟩
          rw [hcat, List.filter_append, List.map_append]
          simp [hz]
        | false =>
          refine ⟨rfl, ?_⟩
          rw [hcat, List.filter_append, List.map_append]
          simp [hz]
      · rintro ys H3 ⟨rfl, rfl⟩ D hD
        have hpl : (List.range' k (6 - k)).filter (fun i => M' i k != 0) = findP M' k := rfl
        rw [hpl]
        have xD := xq.new (o := .list ((findP M' k).map fun i : Nat => V.int i)) hD
        refine St_ ok own ?_
        refine Exs_cons <| Ex_If <| Tr_Compare <| Ev_Name <| Ld_ ok vz <| Ev_List <| Evs_nil ⟨by decide, fun E hE => Cmp_eqNil ok (by exact Nat.le_add_left _ _) (HA.set_old hE (HA.set_self _ _ _)) (HA.set_self _ _ _) <| Tru_bool ?_⟩
        have xE := xD.new (o := .list []) hE
        have e5 := q30 k hk
        rw [e5] at hgo
        unfold detGo at hgo
        cases hfp : findP M' k with
        | nil =>
          rw [hfp] at hgo
          rw [List.map_nil, show ([] : List V).isEmpty = true from rfl]
          refine Exs_cons <| Ex_Return <| Ev_int ?_
          have := h _ xE.ext
          rw [← hgo, hfp] at this
          exact hQa _ _ _ (by simpa using this)
        | cons p ps =>
          rw [hfp] at hgo
          simp only at hgo
          have hp : p < 6 ∧ k ≤ p ∧ M' p k ≠ 0 := by
            have hm : p ∈ findP M' k := by rw [hfp]; exact List.mem_cons_self
            unfold findP at hm
            rw [List.mem_filter, List.mem_range'_1] at hm
            simp only [bne_iff_ne] at hm
            exact ⟨q31 hk hm.1.2, hm.1.1, hm.2⟩
          rw [show (((p :: ps).map fun i : Nat => V.int i).isEmpty) = false from rfl]
          refine Exs_nil ?_
          have hDp : ((((H1.set q (.range (k : Int) 6 1)).set D (.list ((p :: ps).map fun i : Nat => V.int i))).set E (.list []))) D = some (.list ((p :: ps).map fun i : Nat => V.int i)) := by
            rw [← hfp]; exact HA.set_old hE (HA.set_self _ _ _)
          rw [hfp] at xE
          generalize hHE : (((H1.set q (.range (k : Int) 6 1)).set D (.list ((p :: ps).map fun i : Nat => V.int i))).set E (.list [])) = HE at *
          have hDR : D ≠ R := by rintro rfl; have := xq.at_; rw [hD] at this; cases this
          have tail : ∀ (ρ2 : Vars) (H4 : HA) (a2 : Nat → Addr) (M2 : Mat) (sg2 : Int) (Q3 : Fl → Vars → HA → Prop), RowsAt H H4 R a2 M2 → ρ2 "rows" = some (.ref R) → ρ2 "sign" = some (.int sg2) → ρ2 "ahead" = some (.int ah) → ρ2 "k" = some (.int k) → M2 k k ≠ 0 → Bd M2 (eB k) → sg2.natAbs = 1 →
              detGo (5 - (k + 1)) (k + 1) (stepM M2 k ah) sg2 (stepM M2 k ah k k) = detF M →
              (∀ ρ3 H5, (∃ a M' sg ah, DetI H H5 R a M M' sg ah (k + 1) ρ3) → Q3 .next ρ3 H5) →
              Exs G F (detB.drop 3) ρ2 H4 Q3 := by
            intro ρ2 H4 a2 M2 sg2 Q3 x2 q1 q2 q3 q4 hpv hbd2 hsg2 hgo2 hq
            have hek : eB k ≤ 420 := by
              have : ∀ k, k < 5 → eB k ≤ 420 := by decide
              exact this k hk
            have hsmall : ∀ {z : Int} {e : Nat}, z.natAbs < 2 ^ e → e ≤ 800 → Builtin.Int.intBits z ≤ 2 ^ 20 := fun h1 h2 => Nat.le_trans (bitsOf h1) (Nat.le_trans h2 (by decide))
            have hpy : ∀ z, Builtin.divisionGoesByPylong z ah = false := fun z => PyProof.noPylong_of_log2 (by
              by_cases h0 : ah.natAbs = 0
              · rw [h0]; decide
              · exact Nat.lt_of_lt_of_le ((Nat.log2_lt h0).mpr hahb) (Nat.le_trans hek (by decide)))
            refine Exs_cons <| Ex_For <| Ev_Call ok K.g (K.bt (n := "range") rfl rfl) trivial <| Evs_cons <| Ev_BinOp <| Ev_Name <| Ld_ ok q4 <| Ev_int <| Bin_add <| Evs_cons <| Ev_int <| Evs_nil <| Cal_range2 fun u hu => ?_
            have hit3 := Iter.rng (G := G) (A := F.A) ok.hd (H := H4.set u (.range ((k : Int) + 1) 6 1)) (HA.set_self _ _ _) (by exact o_d) (by exact o_u hk) (by decide) (by decide)
            have hwl3 := q32 k hk
            rw [hwl3] at hit3
            refine ⟨_, _, _, fun i ρ' H' => RowsAt H H' R a2 (pstep M2 k ah i 0) ∧ ρ' "rows" = some (.ref R) ∧ ρ' "sign" = some (.int sg2) ∧ ρ' "ahead" = some (.int ah) ∧ ρ' "k" = some (.int k), hit3, ?_, fun _ _ _ _ => trivial, ?_, ?_⟩
            · exact ⟨by rw [pstep_zero]; exact x2.new hu, q1, q2, q3, q4⟩
            · intro i0 hi0 ρ3 H5 hI
              refine As_gen fun Qb hQb => ?_
              obtain ⟨x3, s1, s2, s3, s4⟩ := hI
              have ei : (k : Int) + 1 + (i0 : Int) = ((k + 1 + i0 : Nat) : Int) := by (clear hah hahb hsg hk e0k hwl e5 hgo hp hDR hpv hsg2 hgo2 hek hwl3 hi0; omega)
              rw [ei]
              refine As_Name (St_ ok own ?_)
              refine Exs_cons <| Ex_For <| Ev_Call ok K.g (K.bt (n := "range") rfl rfl) trivial <| Evs_cons <| Ev_BinOp <| Ev_Name <| Ld_ ok (vs s4) <| Ev_int <| Bin_add <| Evs_cons <| Ev_int <| Evs_nil <| Cal_range2 fun w hw => ?_
              have hit4 := Iter.rng (G := G) (A := F.A) ok.hd (H := H5.set w (.range ((k : Int) + 1) 6 1)) (HA.set_self _ _ _) (by exact o_d) (by exact o_u hk) (by decide) (by decide)
              rw [hwl3] at hit4
              refine ⟨_, _, _, fun j ρ' H' => RowsAt H H' R a2 (pstep M2 k ah i0 j) ∧ ρ' "rows" = some (.ref R) ∧ ρ' "sign" = some (.int sg2) ∧ ρ' "ahead" = some (.int ah) ∧ ρ' "k" = some (.int k) ∧ ρ' "i" = some (.int (k + 1 + i0 : Nat)), hit4, ?_, fun _ _ _ _ => trivial, ?_, ?_⟩
              · exact ⟨x3.new hw, vs s1, vs s2, vs s3, vs s4, vz⟩
              · intro j0 hj0 ρ4 H6 hI
                refine As_gen fun Qc hQc => ?_
                obtain ⟨x4, t1, t2, t3, t4, t5⟩ := hI
                have ej : (k : Int) + 1 + (j0 : Int) = ((k + 1 + j0 : Nat) : Int) := by (clear hah hahb hsg hk e0k hwl e5 hgo hp hDR hpv hsg2 hgo2 hek hwl3 hi0 ei hj0; omega)
                rw [ej]
                refine As_Name (St_ ok own ?_)
                have hi6 : k + 1 + i0 < 6 := q37 hi0
                have hj6 : k + 1 + j0 < 6 := q37 hj0
                have o1 := pstep_old M2 k ah i0 j0 (k + 1 + i0) (k + 1 + j0) (by (clear hah hahb hsg hk e0k hwl e5 hgo hp hDR hpv hsg2 hgo2 hek hwl3 hi0 ei hj0 ej hi6 hj6; omega))
                have o2 := pstep_old M2 k ah i0 j0 k k (by (clear hah hahb hsg hk e0k hwl e5 hgo hp hDR hpv hsg2 hgo2 hek hwl3 hi0 ei hj0 ej hi6 hj6 o1; omega))
                have o3 := pstep_old M2 k ah i0 j0 (k + 1 + i0) k (by (clear hah hahb hsg hk e0k hwl e5 hgo hp hDR hpv hsg2 hgo2 hek hwl3 hi0 ei hj0 ej hi6 hj6 o1 o2; omega))
                have o4 := pstep_old M2 k ah i0 j0 k (k + 1 + j0) (by (clear hah hahb hsg hk e0k hwl e5 hgo hp hDR hpv hsg2 hgo2 hek hwl3 hi0 ei hj0 ej hi6 hj6 o1 o2 o3; omega))
                have b1 := hbd2 (k + 1 + i0) (k + 1 + j0)
                have b2 := hbd2 k k
                have b3 := hbd2 (k + 1 + i0) k
                have b4 := hbd2 k (k + 1 + j0)
                have rI := vs (u := V.int ((k + 1 + j0 : Nat) : Int)) (x := "j") t5
                have rK := vs (u := V.int ((k + 1 + j0 : Nat) : Int)) (x := "j") t4
                have rR := vs (u := V.int ((k + 1 + j0 : Nat) : Int)) (x := "j") t1
                refine Exs_cons <| Ex_AssignAll <| Ev_Call ok K.g (K.gv (n := "floordiv") rfl) K.d_floordiv.callee <| Evs_cons <| Ev_Call ok K.g (K.gv (n := "sub") rfl) K.d_sub.callee <| Evs_cons <| Ev_Call ok K.g (K.gv (n := "mul") rfl) K.d_mul.callee <| Evs_cons <|
                  Ev_Subscript PySem.F.slot_list_getitem.lookup <| Ev_Subscript PySem.F.slot_list_getitem.lookup <| Ev_Name <| Ld_ ok rR <| Ev_Name <| Ld_ ok rI ⟨TyV.list x4.at_, GetR x4 rfl hi6 <| Ev_Name <| Ld_ ok vz ⟨TyV.list (x4.row _ hi6), GetC x4 rfl hi6 hj6 <| Evs_cons <|
                  Ev_Subscript PySem.F.slot_list_getitem.lookup <| Ev_Subscript PySem.F.slot_list_getitem.lookup <| Ev_Name <| Ld_ ok rR <| Ev_Name <| Ld_ ok rK ⟨TyV.list x4.at_, GetR x4 (i := k) rfl (by exact Nat.lt_succ_of_lt hk) <| Ev_Name <| Ld_ ok rK ⟨TyV.list (x4.row k (by exact Nat.lt_succ_of_lt hk)), GetC x4 (j := k) rfl (by exact Nat.lt_succ_of_lt hk) (by exact Nat.lt_succ_of_lt hk) <| Evs_nil <|
                  c_mul K ok ?_ <| Evs_cons <| Ev_Call ok K.g (K.gv (n := "mul") rfl) K.d_mul.callee <| Evs_cons <|
                  Ev_Subscript PySem.F.slot_list_getitem.lookup <| Ev_Subscript PySem.F.slot_list_getitem.lookup <| Ev_Name <| Ld_ ok rR <| Ev_Name <| Ld_ ok rI ⟨TyV.list x4.at_, GetR x4 rfl hi6 <| Ev_Name <| Ld_ ok rK ⟨TyV.list (x4.row _ hi6), GetC x4 (j := k) rfl hi6 (by exact Nat.lt_succ_of_lt hk) <| Evs_cons <|
                  Ev_Subscript PySem.F.slot_list_getitem.lookup <| Ev_Subscript PySem.F.slot_list_getitem.lookup <| Ev_Name <| Ld_ ok rR <| Ev_Name <| Ld_ ok rK ⟨TyV.list x4.at_, GetR x4 (i := k) rfl (by exact Nat.lt_succ_of_lt hk) <| Ev_Name <| Ld_ ok vz ⟨TyV.list (x4.row k (by exact Nat.lt_succ_of_lt hk)), GetC x4 rfl (by exact Nat.lt_succ_of_lt hk) hj6 <| Evs_nil <|
                  c_mul K ok ?_ <| Evs_nil <| c_sub K ok <| Evs_cons <| Ev_Name <| Ld_ ok (vs t3) <| Evs_nil <| c_floordiv K ok hah (hpy _) <| As_Subscript <| Ev_Subscript PySem.F.slot_list_getitem.lookup <| Ev_Name <| Ld_ ok rR <| Ev_Name <| Ld_ ok rI ⟨TyV.list x4.at_, GetR x4 rfl hi6 <| Ev_Name <| Ld_ ok vz <|
                  SetI_list (x4.row _ hi6) (by exact Int.natCast_nonneg _) (by exact o_63 hj6) (by rw [rowV_len]; exact Int.ofNat_lt.mpr hj6) ?_⟩⟩⟩⟩⟩⟩⟩⟩⟩
                · rw [o1, o2]; exact IntMulOk.of_bits (hsmall b1 (by exact Nat.le_trans hek (by decide))) (hsmall b2 (by exact Nat.le_trans hek (by decide)))
                · rw [o3, o4]; exact IntMulOk.of_bits (hsmall b3 (by exact Nat.le_trans hek (by decide))) (hsmall b4 (by exact Nat.le_trans hek (by decide)))
                · rw [o1, o2, o3, o4, Int.toNat_natCast]
                  have x5 := x4.put hi6 hj6 (newM M2 k ah (k + 1 + i0) (k + 1 + j0))
                  rw [pstep_put _ _ _ _ _ hi6 hj6] at x5
                  exact Exs_nil <| hQc _ _ _ ⟨x5, vs t1, vs t2, vs t3, vs t4, vs t5⟩
              · rintro ρ4 H6 ⟨x4, t1, t2, t3, t4, t5⟩
                rw [pstep_row _ _ _ _ hk] at x4
                exact Exs_nil <| Exs_nil <| hQb _ _ _ ⟨x4, t1, t2, t3, t4⟩
            · rintro ρ3 H5 ⟨x3, s1, s2, s3, s4⟩
              rw [pstep_all _ _ _ hk] at x3
              have hkk : stepM M2 k ah k k = M2 k k := by unfold stepM; rw [if_neg (by (clear hah hahb hsg hk e0k hwl e5 hgo hp hDR hpv hsg2 hgo2 hek hwl3; omega))]
              refine Exs_nil <| Exs_cons <| Ex_Assign <| Ev_Subscript PySem.F.slot_list_getitem.lookup <| Ev_Subscript PySem.F.slot_list_getitem.lookup <| Ev_Name <| Ld_ ok s1 <| Ev_Name <| Ld_ ok s4 ⟨TyV.list x3.at_, GetR x3 (i := k) rfl (by exact Nat.lt_succ_of_lt hk) <| Ev_Name <| Ld_ ok s4 ⟨TyV.list (x3.row k (by exact Nat.lt_succ_of_lt hk)), GetC x3 (j := k) rfl (by exact Nat.lt_succ_of_lt hk) (by exact Nat.lt_succ_of_lt hk) <| St_ ok own <| Exs_nil <| hq _ _
                ⟨a2, stepM M2 k ah, sg2, _, x3, vs s1, vs s2, vz, hgo2, hbd2.step ah, ?_, ?_, hsg2⟩⟩⟩
              · rw [hkk]; exact hpv
              · exact hbd2.step ah k k
          refine Exs_cons <| Ex_If <| Tr_Compare <| Ev_Subscript PySem.F.slot_list_getitem.lookup <| Ev_Name <| Ld_ ok vz <| Ev_int ⟨TyV.list hDp, GetI_list hDp (by decide) (by decide) rfl <| Ev_Name <| Ld_ ok (vs vz) <| Cmp_int (op := .NotEq) (r := decide (p ≠ k)) (by rw [Option.some.injEq, Bool.eq_iff_iff, bne_iff_ne, decide_eq_true_iff]; exact o_iff) <| Tru_bool ?_⟩
          by_cases hpk : p = k
          · rw [if_pos hpk] at hgo
            rw [decide_eq_false (by (clear hah hahb hsg hk e0k hwl e5 hgo hp hDR; omega))]
            subst hpk
            exact Exs_nil <| tail _ _ a M' sg _ xE (vs (vs r1)) (vs (vs r2)) (vs (vs r3)) (vs vz) hp.2.2 hbd hsg hgo fun ρ3 H5 h5 => hQa _ _ _ h5
          · rw [if_neg hpk] at hgo
            rw [decide_eq_true hpk]
            refine Exs_cons <| Ex_AssignAll (Ev_Tuple <| Evs_cons <| Ev_Subscript PySem.F.slot_list_getitem.lookup <| Ev_Name <| Ld_ ok (vs (vs r1)) <| Ev_Subscript PySem.F.slot_list_getitem.lookup <| Ev_Name <| Ld_ ok vz <| Ev_int ⟨TyV.list hDp, GetI_list hDp (by decide) (by decide) rfl ⟨TyV.list xE.at_, GetR xE (i := p) rfl hp.1 <|
              Evs_cons <| Ev_Subscript PySem.F.slot_list_getitem.lookup <| Ev_Name <| Ld_ ok (vs (vs r1)) <| Ev_Name <| Ld_ ok (vs vz) ⟨TyV.list xE.at_, GetR xE (i := k) rfl (by exact Nat.lt_succ_of_lt hk) <| Evs_nil ⟨show 2 ≤ sizeLine by decide, fun U hU => As_Tuple ok (HA.set_self _ _ _) rfl <| As_Subscript <| Ev_Name <| Ld_ ok (vs (vs r1)) <| Ev_Name <| Ld_ ok (vs vz) <|
                SetI_list (xE.new hU).at_ (by exact Int.natCast_nonneg _) (by exact o_64 hk) (by simp; exact Int.lt_of_lt_of_le (Int.ofNat_lt.mpr hk) (by decide)) <| As_Subscript <| Ev_Name <| Ld_ ok (vs (vs r1)) <| Ev_Subscript PySem.F.slot_list_getitem.lookup <| Ev_Name <| Ld_ ok vz <| Ev_int ⟨TyV.list (xs := (p :: ps).map fun i : Nat => V.int i) ?_, GetI_list (v := V.int (p : Nat)) (xs := (p :: ps).map fun i : Nat => V.int i) ?_ (by decide) (by decide) rfl <| SetI_list (k := ((p : Nat) : Int)) (HA.set_self _ _ _) (by exact Int.natCast_nonneg _) (by (clear hah hahb hsg hk e0k hwl e5 hgo hDR hpk; omega)) (by simp; (clear hah hahb hsg hk e0k hwl e5 hgo hDR hpk; omega)) ?_⟩⟩⟩⟩⟩) (by rfl) (by rfl) ?_
            · rw [HA.set_ne hDR]; exact HA.set_old hU hDp
            · rw [HA.set_ne hDR]; exact HA.set_old hU hDp
            · change Exs G F _ _ _ _
              rw [HA.set_set, Int.toNat_natCast, Int.toNat_natCast]
              have xS := (xE.new (o := .tup [.ref (a p), .ref (a k)]) hU).swap (k := k) (p := p) (by exact Nat.lt_succ_of_lt hk) hp.1 hpk
              refine Exs_cons <| Ex_Assign <| Ev_Call ok K.g (K.gv (n := "neg") rfl) K.d_neg.callee <| Evs_cons <| Ev_Name <| Ld_ ok (vs (vs r2)) <| Evs_nil <| c_neg K ok <| St_ ok own <| Exs_nil ?_
              refine tail _ _ _ (swapM M' k p) (-sg) _ xS (vs (vs (vs r1))) vz (vs (vs (vs r3))) (vs (vs vz)) ?_ hbd.swap (by rw [Int.natAbs_neg]; exact hsg) hgo fun ρ3 H5 h5 => hQa _ _ _ h5
              unfold swapM
              rw [if_pos rfl]
              exact hp.2.2
            · unfold swappedStores
              generalize (F.env.blockKind != ScopeKind.function) = b
              cases b <;> rfl
    · rintro ρ1 H1 ⟨a, M', sg, ah, x, r1, r2, r3, hgo, hbd, hah, hahb, hsg⟩
      have hgo : sg * M' 5 5 = detF M := hgo
      have hb55 := hbd 5 5
      refine Exs_nil <| Exs_cons <| Ex_Return <| Ev_Call ok K.g (K.gv (n := "mul") rfl) K.d_mul.callee <| Evs_cons <| Ev_Name <| Ld_ ok r2 <| Evs_cons <| Ev_Subscript PySem.F.slot_list_getitem.lookup <| Ev_Subscript PySem.F.slot_list_getitem.lookup <| Ev_Name <| Ld_ ok r1 <| Ev_int ⟨TyV.list x.at_, GetR x (i := 5) rfl (by decide) <| Ev_int
        ⟨TyV.list (x.row 5 (by decide)), GetC x (i := 5) (j := 5) rfl (by decide) (by decide) <| Evs_nil <| c_mul K ok ?_ ?_⟩⟩
      · exact IntMulOk.of_left (bits64 (by rw [hsg]; decide))
      · rw [hgo]; exact h _ x.ext
end
end Mine
namespace Mine
theorem findP_mem {M : Mat} {k p : Nat} {l : List Nat} (h : findP M k = p :: l) : k ≤ p ∧ (k < 6 → p < 6) ∧ M p k ≠ 0 := by
  have hp : p ∈ findP M k := by rw [h]; exact List.mem_cons_self
  unfold findP at hp
  rw [List.mem_filter, List.mem_range'_1] at hp
  refine ⟨hp.1.1, fun h6 => by omega, ?_⟩
  simpa using hp.2
theorem findP_self {M : Mat} {k : Nat} (hk : k < 6) (h : M k k ≠ 0) : ∃ l, findP M k = k :: l := by
  unfold findP
  rw [show 6 - k = (5 - k) + 1 from o_ns (Nat.le_of_lt_succ hk), List.range'_succ, List.filter_cons, if_pos (by simpa using h)]
  exact ⟨_, rfl⟩
theorem findP_next {M : Mat} {k : Nat} (hk : k < 5) (h0 : M k k = 0) (h : M (k + 1) k ≠ 0) : ∃ l, findP M k = (k + 1) :: l := by
  unfold findP
  rw [show 6 - k = (4 - k) + 1 + 1 by (clear h0 h; omega), List.range'_succ, List.filter_cons, if_neg (by simp [h0]), List.range'_succ, List.filter_cons, if_pos (by simpa using h)]
  exact ⟨_, rfl⟩
theorem stepM_in {M : Mat} {k i j : Nat} {a : Int} (h1 : k < i) (h2 : i < 6) (h3 : k < j) (h4 : j < 6) : stepM M k a i j = Int.fdiv (M i j * M k k - M i k * M k j) a := by
  unfold stepM; rw [if_pos ⟨h1, h2, h3, h4⟩]
theorem stepM_kk {M : Mat} {k : Nat} {a : Int} : stepM M k a k k = M k k := by
  unfold stepM; rw [if_neg (by omega)]
theorem swapM_rows {P : (Nat → Int) → Prop} {M : Mat} {k p : Nat} (hk : k < 6) (hp : k ≤ p) (hp6 : p < 6) (h : ∀ i, k ≤ i → i < 6 → P (M i)) : ∀ i, k ≤ i → i < 6 → P (swapM M k p i) := by
  intro i h1 h2
  have : swapM M k p i = if i = k then M p else if i = p then M k else M i := by
    funext j; unfold swapM
    by_cases e : i = k
    · rw [if_pos e, if_pos e]
    · rw [if_neg e, if_neg e]
      by_cases e : i = p
      · rw [if_pos e, if_pos e]
      · rw [if_neg e, if_neg e]
  rw [this]
  split
  · exact h p hp hp6
  · split
    · exact h k (Nat.le_refl _) hk
    · exact h i h1 h2
theorem zero_col : ∀ (n k : Nat) (M : Mat) (s a : Int) (c : Nat), k + n = 5 → k ≤ c → c < 6 → (∀ i, k ≤ i → i < 6 → M i c = 0) → detGo n k M s a = 0
  | 0, k, M, s, a, c, hk, h1, h2, h => by
    unfold detGo
    have : c = 5 := by omega
    subst this
    rw [h 5 (by assumption) (by assumption), Int.mul_zero]
  | n + 1, k, M, s, a, c, hk, h1, h2, h => by
    have key : ∀ M' : Mat, (∀ i, k ≤ i → i < 6 → M' i c = 0) → k ≠ c → ∀ s' a', detGo n (k + 1) (stepM M' k a) s' a' = 0 := fun M' h' hc s' a' => by
      refine zero_col n (k + 1) _ s' a' c (by (clear h1 h2 hc; omega)) (by omega) h2 fun i i1 i2 => ?_
      rw [stepM_in (by exact Nat.lt_of_succ_le i1) i2 (by exact Nat.lt_of_le_of_ne h1 hc) h2, h' i (by exact Nat.le_of_succ_le i1) i2, h' k (by exact Nat.le_refl _) (by exact Nat.lt_of_le_of_lt h1 h2), Int.zero_mul, Int.mul_zero, Int.sub_zero, Int.zero_fdiv]
    unfold detGo
    split
    · rfl
    · rename_i p l e
      have ⟨e1, e2, e3⟩ := findP_mem e
      have hc : k ≠ c := by
        rintro rfl
        exact e3 (h p e1 (e2 (by assumption)))
      split
      · exact key M h hc _ _
      · exact key _ (swapM_rows (P := fun r => r c = 0) (by exact Nat.lt_of_le_of_lt h1 h2) e1 (e2 (by exact Nat.lt_of_le_of_lt h1 h2)) h) hc _ _
theorem like_cols : ∀ (n k : Nat) (M : Mat) (s a : Int) (b c : Nat), k + n = 5 → k ≤ b → b < c → c < 6 → (∀ i, k ≤ i → i < 6 → M i b = M i c) → detGo n k M s a = 0
  | 0, k, M, s, a, b, c, hk, h1, h2, h3, h => by omega
  | n + 1, k, M, s, a, b, c, hk, h1, h2, h3, h => by
    have key : ∀ M' : Mat, (∀ i, k ≤ i → i < 6 → M' i b = M' i c) → ∀ s' a', detGo n (k + 1) (stepM M' k a) s' a' = 0 := fun M' h' s' a' => by
      by_cases hb : b = k
      · subst hb
        refine zero_col n (b + 1) _ s' a' c (by (clear h2 h3 h1; omega)) (by exact Nat.succ_le_of_lt h2) h3 fun i i1 i2 => ?_
        rw [stepM_in (by exact Nat.lt_of_succ_le i1) i2 (by assumption) h3, ← h' i (by exact Nat.le_of_succ_le i1) i2, ← h' b (by assumption) (by exact Nat.lt_trans h2 h3), Int.sub_self, Int.zero_fdiv]
      · refine like_cols n (k + 1) _ s' a' b c (by (clear h1 h2 h3 hb; omega)) (by (clear h2 h3; omega)) h2 h3 fun i i1 i2 => ?_
        rw [stepM_in (by exact Nat.lt_of_succ_le i1) i2 (by (clear h2 h3 i1 i2; omega)) (by exact Nat.lt_trans h2 h3), stepM_in (by exact Nat.lt_of_succ_le i1) i2 (by exact Nat.lt_of_le_of_lt h1 h2) (by assumption), h' i (by exact Nat.le_of_succ_le i1) i2, h' k (by exact Nat.le_refl _) (by exact Nat.lt_trans i1 i2)]
    unfold detGo
    split
    · rfl
    · rename_i p l e
      have ⟨e1, e2, e3⟩ := findP_mem e
      split
      · exact key M h _ _
      · exact key _ (swapM_rows (P := fun r => r b = r c) (by (clear h1 h2 h3 e1 e3; omega)) e1 (e2 (by (clear h1 h2 h3 e1 e3; omega))) h) _ _
section
variable (d : Nat → Nat → Int) (w : Nat → Int)
noncomputable def sG : Nat → Nat → Nat → Nat → Int
  | 0, k, i, j => 0
  | n + 1, k, i, j => w k * d i k * d j k + sG n (k + 1) i j
noncomputable def hG : Nat → Nat → Nat → Int
  | 0, k, i => 0
  | n + 1, k, i => w k * d i k + hG n (k + 1) i
noncomputable def wS : Nat → Nat → Int
  | 0, k => 0
  | n + 1, k => w k + wS n (k + 1)
noncomputable def wP : Nat → Nat → Int
  | 0, k => 1
  | n + 1, k => w k * wP n (k + 1)
end
structure Dg (d : Nat → Nat → Int) : Prop where
  diag : ∀ i, d i i = 1
  up : ∀ i m, i < m → d i m = 0
section
variable {d : Nat → Nat → Int} {w : Nat → Int}
theorem sG_lo (D : Dg d) : ∀ (n k i j : Nat), i < k → sG d w n k i j = 0
  | 0, k, i, j, h => rfl
  | n + 1, k, i, j, h => by unfold sG; rw [D.up i k h, sG_lo D n (k + 1) i j (by exact Nat.lt_succ_of_lt h), Int.mul_zero, Int.zero_mul, Int.add_zero]
theorem sG_lo' (D : Dg d) : ∀ (n k i j : Nat), j < k → sG d w n k i j = 0
  | 0, k, i, j, h => rfl
  | n + 1, k, i, j, h => by unfold sG; rw [D.up j k h, sG_lo' D n (k + 1) i j (by exact Nat.lt_succ_of_lt h), Int.mul_zero, Int.add_zero]
theorem hG_lo (D : Dg d) : ∀ (n k i : Nat), i < k → hG d w n k i = 0
  | 0, k, i, h => rfl
  | n + 1, k, i, h => by unfold hG; rw [D.up i k h, hG_lo D n (k + 1) i (by exact Nat.lt_succ_of_lt h), Int.mul_zero, Int.add_zero]
theorem sG_s (n k i j : Nat) : sG d w (n + 1) k i j = w k * d i k * d j k + sG d w n (k + 1) i j := rfl
theorem hG_s (n k i : Nat) : hG d w (n + 1) k i = w k * d i k + hG d w n (k + 1) i := rfl
noncomputable def StM (d : Nat → Nat → Int) (w : Nat → Int) (n k : Nat) (M : Mat) (C Y : Int) : Prop := ∀ i j, k ≤ i → i < 6 → k ≤ j → j < 6 → M i j = C * (sG d w (n + 1) k i j * Y + hG d w (n + 1) k i * hG d w (n + 1) k j)
theorem StM.kk {n k : Nat} {M : Mat} {C Y : Int} (D : Dg d) (h : StM d w n k M C Y) (hk : k < 6) : M k k = C * w k * (Y + w k) := by
  rw [h k k (Nat.le_refl _) hk (Nat.le_refl _) hk]
  simp only [sG_s, hG_s]
  rw [sG_lo D n (k + 1) k k (by exact Nat.lt_succ_self _), hG_lo D n (k + 1) k (by exact Nat.lt_succ_self _), D.diag]
  grind
theorem StM.ik {n k i : Nat} {M : Mat} {C Y : Int} (D : Dg d) (h : StM d w n k M C Y) (hi : k ≤ i) (hk : i < 6) : M i k = C * w k * (d i k * Y + w k * d i k + hG d w n (k + 1) i) := by
  rw [h i k hi hk (Nat.le_refl _) (by exact Nat.lt_of_le_of_lt hi hk)]
  simp only [sG_s, hG_s]
  rw [sG_lo' D n (k + 1) i k (by exact Nat.lt_succ_self _), hG_lo D n (k + 1) k (by exact Nat.lt_succ_self _), D.diag]
  grind
theorem StM.kj {n k i : Nat} {M : Mat} {C Y : Int} (D : Dg d) (h : StM d w n k M C Y) (hi : k ≤ i) (hk : i < 6) : M k i = C * w k * (d i k * Y + w k * d i k + hG d w n (k + 1) i) := by
  rw [h k i (Nat.le_refl _) (by exact Nat.lt_of_le_of_lt hi hk) hi hk]
  simp only [sG_s, hG_s]
  rw [sG_lo D n (k + 1) k i (by exact Nat.lt_succ_self _), hG_lo D n (k + 1) k (by exact Nat.lt_succ_self _), D.diag]
  grind
theorem StM.ij {n k i j : Nat} {M : Mat} {C Y : Int} (h : StM d w n k M C Y) (hi : k ≤ i) (hk : i < 6) (hj : k ≤ j) (hk' : j < 6) : M i j = C * ((w k * d i k * d j k + sG d w n (k + 1) i j) * Y + (w k * d i k + hG d w n (k + 1) i) * (w k * d j k + hG d w n (k + 1) j)) := h i j hi hk hj hk'
theorem fdiv_of {x q a : Int} (h : x = q * a) (ha : a ≠ 0) : Int.fdiv x a = q := by rw [h]; exact Int.mul_fdiv_cancel q ha
theorem StM.step {n k : Nat} {M : Mat} {C Y a : Int} (D : Dg d) (h : StM d w (n + 1) k M C Y) (hk : k + (n + 1) = 5) (ha : 2 * a = -(C * Y)) (h0 : a ≠ 0) : StM d w n (k + 1) (stepM M k a) (-2 * w k * C) (Y + w k) := by
  intro i j i1 i2 j1 j2
  rw [stepM_in (by exact Nat.lt_of_succ_le i1) i2 (by exact Nat.lt_of_succ_le j1) j2]
  refine fdiv_of ?_ h0
  rw [h.ij (by exact Nat.le_of_succ_le i1) i2 (by exact Nat.le_of_succ_le j1) j2, h.kk D (by exact Nat.lt_trans i1 i2), h.ik D (by exact Nat.le_of_succ_le i1) i2, h.kj D (by exact Nat.le_of_succ_le j1) j2]
  generalize sG d w (n + 1) (k + 1) i j = s
  generalize hG d w (n + 1) (k + 1) i = hi
  generalize hG d w (n + 1) (k + 1) j = hj
  generalize d i k = di
  generalize d j k = dj
  generalize w k = w0
  grind
theorem sG_k (D : Dg d) (n k j : Nat) : sG d w (n + 1) k k j = w k * d j k := by
  rw [sG_s, D.diag, sG_lo D n (k + 1) k j (by exact Nat.lt_succ_self _), Int.mul_one, Int.add_zero]
theorem sG_k' (D : Dg d) (n k i : Nat) : sG d w (n + 1) k i k = w k * d i k := by
  rw [sG_s, D.diag, sG_lo' D n (k + 1) i k (by exact Nat.lt_succ_self _), Int.mul_one, Int.add_zero]
theorem hG_k (D : Dg d) (n k : Nat) : hG d w (n + 1) k k = w k := by
  rw [hG_s, D.diag, hG_lo D n (k + 1) k (by exact Nat.lt_succ_self _), Int.mul_one, Int.add_zero]
theorem sw_k (M : Mat) (k j : Nat) : swapM M k (k + 1) k j = M (k + 1) j := by unfold swapM; rw [if_pos rfl]
theorem sw_k1 (M : Mat) (k j : Nat) : swapM M k (k + 1) (k + 1) j = M k j := by unfold swapM; rw [if_neg (by exact Nat.ne_of_gt (Nat.lt_succ_self _)), if_pos rfl]
theorem sw_i (M : Mat) {k i : Nat} (h : k + 2 ≤ i) (j : Nat) : swapM M k (k + 1) i j = M i j := by unfold swapM; rw [if_neg (by omega), if_neg (by omega)]
theorem StM.next {n k : Nat} {M : Mat} {C Y : Int} (D : Dg d) (h : StM d w (n + 1) k M C Y) (hk : k + (n + 1) = 5) (hY : Y + w k = 0) : M (k + 1) k = C * w k * w (k + 1) := by
  rw [h.ik D (by exact Nat.le_succ _) (by omega), hG_k D]
  generalize d (k + 1) k = x
  generalize w k = y at *
  generalize w (k + 1) = z
  grind
theorem StM.sw_row {n k : Nat} {M : Mat} {C Y a : Int} (D : Dg d) (h : StM d w (n + 1) k M C Y) (hk : k + (n + 1) = 5) (hY : Y + w k = 0) (ha : 2 * a = -(C * Y)) (h0 : a ≠ 0) (j : Nat) (j1 : k + 1 ≤ j) (j2 : j < 6) :
    stepM (swapM M k (k + 1)) k a (k + 1) j = 2 * C * w k * w (k + 1) * hG d w (n + 1) (k + 1) j := by
  rw [stepM_in (by exact Nat.lt_succ_self _) (by exact Nat.lt_of_le_of_lt j1 j2) (by exact Nat.lt_of_succ_le j1) j2]
  refine fdiv_of ?_ h0
  rw [sw_k1, sw_k, sw_k1, sw_k, h.kk D (by exact Nat.lt_trans j1 j2), h.next D hk hY, h.kj D (by exact Nat.le_of_succ_le j1) j2]
  generalize hG d w (n + 1) (k + 1) j = hj
  generalize d j k = dj
  generalize M (k + 1) j = m
  generalize w k = y at *
  generalize w (k + 1) = z
  grind
theorem StM.sw_ij {n k : Nat} {M : Mat} {C Y a : Int} (D : Dg d) (h : StM d w (n + 1) k M C Y) (hk : k + (n + 1) = 5) (hY : Y + w k = 0) (ha : 2 * a = -(C * Y)) (h0 : a ≠ 0) (i j : Nat) (i1 : k + 2 ≤ i) (i2 : i < 6) (j1 : k + 1 ≤ j) (j2 : j < 6) :
    stepM (swapM M k (k + 1)) k a i j = 2 * C * w k * (w (k + 1) * d i k * hG d w (n + 1) (k + 1) j - w (k + 1) * sG d w (n + 1) (k + 1) i j - d (k + 1) k * hG d w (n + 1) (k + 1) i * hG d w (n + 1) (k + 1) j + w (k + 1) * d j (k + 1) * hG d w (n + 1) (k + 1) i) := by
  rw [stepM_in (by (clear hY ha h0 i2 j1 j2; omega)) (by assumption) (by exact Nat.lt_of_succ_le j1) j2]
  refine fdiv_of ?_ h0
  rw [sw_i M i1, sw_i M i1, sw_k, sw_k, h.next D hk hY, h.ik D (by (clear hY ha h0 i2 j1 j2; omega)) i2, h.ij (by (clear hY ha h0 i2 j1 j2; omega)) i2 (by exact Nat.le_of_succ_le j1) j2, h.ij (i := k + 1) (by exact Nat.le_succ _) (by exact Nat.lt_trans i1 i2) (by exact Nat.le_of_succ_le j1) j2, hG_k D, sG_k D]
  generalize hG d w (n + 1) (k + 1) j = hj
  generalize hG d w (n + 1) (k + 1) i = hi
  generalize sG d w (n + 1) (k + 1) i j = s
  generalize d j k = dj
  generalize d i k = di
  generalize d (k + 1) k = e
  generalize d j (k + 1) = f
  generalize w (k + 1) = z
  generalize w k = y at *
  obtain rfl : Y = -y := by (clear hk ha h0 i1 i2 j1 j2; omega)
  grind
theorem StM.two {n k : Nat} {M : Mat} {C Y a : Int} (D : Dg d) (h : StM d w (n + 2) k M C Y) (hk : k + (n + 2) = 5) (hY : Y + w k = 0) (ha : 2 * a = -(C * Y)) (h0 : a ≠ 0) (h1 : M (k + 1) k ≠ 0) :
    StM d w n (k + 2) (stepM (stepM (swapM M k (k + 1)) k a) (k + 1) (M (k + 1) k)) (-4 * C * w k * w (k + 1)) (w (k + 1)) := by
  intro i j i1 i2 j1 j2
  rw [stepM_in (by exact Nat.lt_of_succ_le i1) i2 (by exact Nat.lt_of_succ_le j1) j2]
  refine fdiv_of ?_ h1
  rw [h.sw_ij D hk hY ha h0 i j i1 i2 (by exact Nat.le_of_succ_le j1) j2, h.sw_row D hk hY ha h0 (k + 1) (by exact Nat.le_refl _) (by exact Nat.lt_trans i1 i2), h.sw_ij D hk hY ha h0 i (k + 1) i1 i2 (by exact Nat.le_refl _) (by exact Nat.lt_trans i1 i2), h.sw_row D hk hY ha h0 j (by exact Nat.le_of_succ_le j1) j2, h.next D hk hY, hG_k D, sG_k' D, D.diag]
  simp only [sG_s, hG_s]
  generalize hG d w n (k + 1 + 1) j = hj
  generalize hG d w n (k + 1 + 1) i = hi
  generalize sG d w n (k + 1 + 1) i j = s
  generalize d i k = di
  generalize d (k + 1) k = e
  generalize w (k + 1) = z
  generalize w k = y at *
  generalize w (k + 2) = z2
  grind
noncomputable def pw : Nat → Int
  | 0 => 1
  | n + 1 => -2 * pw n
theorem pos_mul {a b : Int} (h1 : a ≠ 0) (h2 : b ≠ 0) : a * b ≠ 0 := Int.mul_ne_zero h1 h2
theorem go : ∀ (n k : Nat) (M : Mat) (C Y s a : Int), Dg d → k + n = 5 → StM d w n k M C Y → C ≠ 0 → 2 * a = -(C * Y) → a ≠ 0 → (∀ m, k ≤ m → m < 6 → 0 < w m) →
    detGo n k M s a = s * (C * pw n * wP w (n + 1) k * (Y + wS w (n + 1) k))
  | 0, k, M, C, Y, s, a, D, hk, h, hC, ha, h0, hw => by
    have hk : k = 5 := by (clear hC ha h0; omega)
    subst hk
    unfold detGo
    rw [h.kk D (by decide)]
    simp only [pw, wP, wS]
    grind
  | n + 1, k, M, C, Y, s, a, D, hk, h, hC, ha, h0, hw => by
    have hwk := hw k (Nat.le_refl _) (by (clear hC ha h0; omega))
    have hw1 := hw (k + 1) (by exact Nat.le_succ _) (by (clear hC ha h0 hwk; omega))
    by_cases hY : Y + w k = 0
    · have z : M k k = 0 := by rw [h.kk D (by (clear hC ha h0 hwk hw1 hY; omega)), hY, Int.mul_zero]
      have e1 := h.next D hk hY
      have z1 : M (k + 1) k ≠ 0 := by rw [e1]; exact pos_mul (pos_mul hC (by (clear hk hC ha h0 hw1 z e1; omega))) (by (clear hk hC ha h0 hwk hY z e1; omega))
      obtain ⟨l, hl⟩ := findP_next (by (clear hC ha h0 hwk hw1 hY z e1 z1; omega)) z z1
      rw [detGo, hl]
      dsimp only
      rw [if_neg (by exact Nat.ne_of_gt (Nat.lt_succ_self _)), stepM_kk, sw_k]
      match n, hk, h with
      | 0, hk, h =>
        have hk : k = 4 := by (clear hC ha h0 hwk hw1 hY z e1 z1; omega)
        subst hk
        unfold detGo
        rw [h.sw_row D hk hY ha h0 5 (by decide) (by decide), hG_k D]
        simp only [pw, wP, wS]
        grind
      | n + 1, hk, h =>
        have z2 : stepM (swapM M k (k + 1)) k a (k + 1) (k + 1) = 2 * C * w k * w (k + 1) * w (k + 1) := by rw [h.sw_row D hk hY ha h0 (k + 1) (by exact Nat.le_refl _) (by (clear hC ha h0 hwk hw1 hY z e1 z1; omega)), hG_k D]
        have z3 : stepM (swapM M k (k + 1)) k a (k + 1) (k + 1) ≠ 0 := by rw [z2]; exact pos_mul (pos_mul (pos_mul (pos_mul (by decide) hC) (by (clear hC ha h0 hw1 z e1 z1 hk z2; omega))) (by (clear hC ha h0 hwk hY z e1 z1 hk z2; omega))) (by (clear hC ha h0 hwk hY z e1 z1 hk z2; omega))
        obtain ⟨l2, hl2⟩ := findP_self (by (clear hC ha h0 hwk hw1 hY z e1 z1 z2 z3; omega)) z3
        rw [detGo, hl2]
        dsimp only
        rw [if_pos rfl, stepM_kk, z2]
        have hC2 : -4 * C * w k * w (k + 1) ≠ 0 := pos_mul (pos_mul (pos_mul (by decide) hC) (by (clear hC ha h0 hw1 z e1 z1 hk z2 z3; omega))) (by (clear hC ha h0 hwk hY z e1 z1 hk z2 z3; omega))
        rw [go n (k + 2) _ _ _ _ _ D (by (clear hC ha h0 hwk hw1 hY z e1 z1 z2 z3 hC2; omega)) (h.two D hk hY ha h0 z1) hC2 (by grind) (by rw [← z2]; exact z3) fun m h1 h2 => hw m (by (clear hC ha h0 hwk hw1 hY z e1 z1 z2 z3 hC2 h2; omega)) h2]
        simp only [pw, wP, wS]
        generalize wP w n (k + 2 + 1) = u1
        generalize wS w n (k + 2 + 1) = u2
        generalize pw n = u3
        grind
    · have z : M k k ≠ 0 := by rw [h.kk D (by (clear hC ha h0 hwk hw1 hY; omega))]; exact pos_mul (pos_mul hC (by (clear hk hC ha h0 hw1 hY; omega))) hY
      obtain ⟨l, hl⟩ := findP_self (by (clear hC ha h0 hwk hw1 hY z; omega)) z
      rw [detGo, hl]
      dsimp only
      have hC2 : -2 * w k * C ≠ 0 := pos_mul (pos_mul (by decide) (by (clear hk hC ha h0 hw1 hY z; omega))) hC
      rw [if_pos rfl, stepM_kk, go n (k + 1) _ _ _ _ _ D (by (clear hC ha h0 hwk hw1 hY z hC2; omega)) (h.step D hk ha h0) hC2 (by rw [h.kk D (by (clear hC ha h0 hwk hw1 hY z hC2; omega))]; grind) z fun m h1 h2 => hw m (by exact Nat.le_of_succ_le h1) h2]
      simp only [pw, wP, wS]
      generalize wP w n (k + 1 + 1) = u1
      generalize wS w n (k + 1 + 1) = u2
      generalize pw n = u3
      grind
end
end Mine
namespace Mine
noncomputable def suf (u s : Nat) : List Nat := if s = 0 then [9] else if s = 1 then List.replicate (u + 1) 32 else List.replicate u 32 ++ [9]
noncomputable def leadOf (u : Nat) (w : List Nat) : List Nat := w.flatMap (suf u)
noncomputable def wsL (u : Nat) (w : List Nat) : Ws := wsGo (leadOf u w) ⟨0, 0, 0, []⟩
noncomputable def allWords : Nat → List (List Nat)
  | 0 => [[]]
  | n + 1 => (allWords n).flatMap fun w => [w ++ [0], w ++ [1], w ++ [2]]
noncomputable def checkA (u : Nat) : Bool := (List.range 5).all fun n => (allWords n).all fun P => lessF (wsL u P) (wsL u (P ++ [0])) && lessF (wsL u P) (wsL u (P ++ [1])) && lessF (wsL u P) (wsL u (P ++ [2]))
noncomputable def checkB (u : Nat) : Bool := (List.range 5).all fun n => (allWords n).all fun X => (List.range n).all fun i => !lessF (wsL u X) (wsL u (X.take i ++ [0])) && !lessF (wsL u X) (wsL u (X.take i ++ [1])) && !lessF (wsL u X) (wsL u (X.take i ++ [2]))
noncomputable def checkC (u : Nat) : Bool := (List.range 6).all fun n => (allWords n).all fun P => decide ((wsL u P).cnt.length ≤ 50) && decide ((wsL u P).b ≤ 50) && decide ((wsL u P).n = (leadOf u P).length) && decide ((leadOf u P).length ≤ 30)
theorem checkA_ : ∀ u, u < 4 → u ≠ 0 → checkA u = true := by
  intro u h1 h2
  match u, h1, h2 with
  | 1, _, _ => decide +kernel
  | 2, _, _ => decide +kernel
  | 3, _, _ => decide +kernel
theorem checkB_ : ∀ u, u < 4 → u ≠ 0 → checkB u = true := by
  intro u h1 h2
  match u, h1, h2 with
  | 1, _, _ => decide +kernel
  | 2, _, _ => decide +kernel
  | 3, _, _ => decide +kernel
theorem checkC_ : ∀ u, u < 4 → u ≠ 0 → checkC u = true := by
  intro u h1 h2
  match u, h1, h2 with
  | 1, _, _ => decide +kernel
  | 2, _, _ => decide +kernel
  | 3, _, _ => decide +kernel
noncomputable def Word (w : List Nat) : Prop := ∀ s ∈ w, s < 3
theorem mem_words : ∀ (n : Nat) (w : List Nat), w.length = n → Word w → w ∈ allWords n
  | 0, w, h, _ => by rw [List.length_eq_zero_iff.mp h]; exact List.mem_cons_self
  | n + 1, w, h, hw => by
    have hne : w ≠ [] := by rintro rfl; cases h
    have e := List.dropLast_concat_getLast hne
    have hd : w.dropLast.length = n := by rw [List.length_dropLast, h]; rfl
    have hm := mem_words n w.dropLast hd fun s hs => hw s (List.dropLast_subset _ hs)
    have hl := hw _ (List.getLast_mem hne)
    unfold allWords
    refine List.mem_flatMap.mpr ⟨w.dropLast, hm, ?_⟩
    rw [← e]
    generalize w.getLast hne = s at hl
    simp only [List.dropLast_concat]
    match s, hl with
    | 0, _ => simp
    | 1, _ => simp
    | 2, _ => simp
theorem less_child {u : Nat} (h1 : u < 4) (h2 : u ≠ 0) {P : List Nat} (hl : P.length ≤ 4) (hw : Word P) {s : Nat} (hs : s < 3) : lessF (wsL u P) (wsL u (P ++ [s])) = true := by
  have c := checkA_ u h1 h2
  unfold checkA at c
  have c := List.all_eq_true.mp (List.all_eq_true.mp c P.length (List.mem_range.mpr (by exact Nat.lt_succ_of_le hl))) P (mem_words _ P rfl hw)
  simp only [Bool.and_eq_true] at c
  match s, hs with
  | 0, _ => exact c.1.1
  | 1, _ => exact c.1.2
  | 2, _ => exact c.2
theorem less_not {u : Nat} (h1 : u < 4) (h2 : u ≠ 0) {X : List Nat} (hl : X.length ≤ 4) (hw : Word X) {i : Nat} (hi : i < X.length) {s : Nat} (hs : s < 3) : lessF (wsL u X) (wsL u (X.take i ++ [s])) = false := by
  have c := checkB_ u h1 h2
  unfold checkB at c
  have c := List.all_eq_true.mp (List.all_eq_true.mp (List.all_eq_true.mp c X.length (List.mem_range.mpr (by exact Nat.lt_succ_of_le hl))) X (mem_words _ X rfl hw)) i (List.mem_range.mpr hi)
  simp only [Bool.and_eq_true, Bool.not_eq_true'] at c
  match s, hs with
  | 0, _ => exact c.1.1
  | 1, _ => exact c.1.2
  | 2, _ => exact c.2
theorem lead_small {u : Nat} (h1 : u < 4) (h2 : u ≠ 0) {P : List Nat} (hl : P.length ≤ 5) (hw : Word P) : (wsL u P).cnt.length ≤ 50 ∧ (wsL u P).b ≤ 50 ∧ (wsL u P).n = (leadOf u P).length ∧ (leadOf u P).length ≤ 30 := by
  have c := checkC_ u h1 h2
  unfold checkC at c
  have c := List.all_eq_true.mp (List.all_eq_true.mp c P.length (List.mem_range.mpr (by exact Nat.lt_succ_of_le hl))) P (mem_words _ P rfl hw)
  simp only [Bool.and_eq_true, decide_eq_true_eq] at c
  exact ⟨c.1.1.1, c.1.1.2, c.1.2, c.2⟩
theorem wsGo_stop (c : Nat) (r : List Nat) (h1 : c ≠ 32) (h2 : c ≠ 9) : ∀ (l : List Nat) (s : Ws), (∀ x ∈ l, x = 32 ∨ x = 9) → wsGo (l ++ c :: r) s = wsGo l s
  | [], s, _ => by
    show wsGo (c :: r) s = s
    unfold wsGo
    rw [if_neg h1, if_neg h2]
  | x :: l, s, h => by
    have hx := h x List.mem_cons_self
    have ih := fun s => wsGo_stop c r h1 h2 l s fun y hy => h y (List.mem_cons_of_mem _ hy)
    show wsGo (x :: (l ++ c :: r)) s = wsGo (x :: l) s
    unfold wsGo
    rcases hx with rfl | rfl
    · simp only [if_true]
      exact ih _
    · simp only [show ¬ (9 : Nat) = 32 from by decide, if_false, if_true]
      exact ih _
theorem lead_blank (u : Nat) (w : List Nat) : ∀ x ∈ leadOf u w, x = 32 ∨ x = 9 := by
  intro x hx
  obtain ⟨s, _, hs⟩ := List.mem_flatMap.mp hx
  unfold suf at hs
  split at hs
  · right; simpa using hs
  · split at hs
    · left; exact List.eq_of_mem_replicate hs
    · rcases List.mem_append.mp hs with h | h
      · left; exact List.eq_of_mem_replicate h
      · right; simpa using h
end Mine
namespace Mine
structure Tree (u : Nat) (par : Nat → Nat) (wd : Nat → List Nat) (P : Nat → List Nat) : Prop where
  u1 : u < 4
  u2 : u ≠ 0
  w0 : wd 0 = []
  p0 : P 0 = [0]
  step : ∀ k, k < 5 → ∃ pl s, pl < (P k).length ∧ s < 3 ∧ (P k)[pl]? = some (par (k + 1)) ∧ P (k + 1) = (P k).take (pl + 1) ++ [k + 1] ∧ wd (k + 1) = wd (par (k + 1)) ++ [s]
theorem Tree.chain {u : Nat} {par : Nat → Nat} {wd P : Nat → List Nat} (t : Tree u par wd P) : ∀ k, k < 6 → ∃ X : List Nat, Word X ∧ X.length + 1 = (P k).length ∧ X.length ≤ k ∧ (P k).length ≤ k + 1 ∧ (∀ e ∈ P k, e ≤ k) ∧ ∀ i e, (P k)[i]? = some e → wd e = X.take i := by
  intro k
  induction k with
  | zero =>
    intro _
    rw [t.p0]
    refine ⟨[], (fun s h => absurd h (by simp)), rfl, Nat.le_refl _, by decide, by simp, fun i e h => ?_⟩
    cases i with
    | zero => simp at h; subst h; rw [t.w0]; rfl
    | succ i => simp at h
  | succ k ih =>
    intro hk
    obtain ⟨X, hX, h1, h2, h3, h4, h5⟩ := ih (by exact Nat.lt_of_succ_lt hk)
    obtain ⟨pl, s, hpl, hs, hp, hP, hw⟩ := t.step k (by exact Nat.lt_of_succ_lt_succ hk)
    have hwp := h5 pl _ hp
    refine ⟨X.take pl ++ [s], ?_, ?_, ?_, ?_, ?_, ?_⟩
    · intro y hy
      rcases List.mem_append.mp hy with h | h
      · exact hX y (List.mem_of_mem_take h)
      · rw [List.mem_singleton.mp h]; exact hs
    · rw [hP]; simp only [List.length_append, List.length_take, List.length_cons, List.length_nil]; (clear hk h2 h3 hs; omega)
    · simp only [List.length_append, List.length_take, List.length_cons, List.length_nil]; (clear hk h3 hs; omega)
    · rw [hP]; simp only [List.length_append, List.length_take, List.length_cons, List.length_nil]; (clear hk h3 hs; omega)
    · intro e he
      rw [hP] at he
      rcases List.mem_append.mp he with h | h
      · have := h4 e (List.mem_of_mem_take h); exact Nat.le_succ_of_le this
      · rw [List.mem_singleton.mp h]; exact Nat.le_refl _
    · intro i e he
      rw [hP] at he
      have hXl : pl ≤ X.length := by (clear hk h2 h3 hs; omega)
      by_cases hi : i < ((P k).take (pl + 1)).length
      · rw [List.getElem?_append_left hi] at he
        rw [List.length_take] at hi
        rw [List.getElem?_take_of_lt (by (clear hk h1 h2 h3 hs hXl; omega))] at he
        rw [h5 i e he, List.take_append_of_le_length (by rw [List.length_take]; (clear hk h2 h3 hs hXl; omega)), List.take_take, Nat.min_eq_left (by (clear hk h1 h2 h3 hs hXl; omega))]
      · rw [List.getElem?_append_right (by exact Nat.le_of_not_lt hi)] at he
        rw [List.length_take] at hi he
        have hi2 : i - min (pl + 1) (P k).length = 0 := by
          cases hq : i - min (pl + 1) (P k).length with
          | zero => rfl
          | succ n => rw [hq] at he; simp at he
        rw [hi2] at he
        simp at he
        subst he
        rw [hw, hwp]
        refine (List.take_of_length_le ?_).symm
        rw [List.length_append, List.length_take, List.length_singleton]
        (clear hk h2 h3 hs hXl; omega)
theorem Tree.wd_small {u : Nat} {par : Nat → Nat} {wd P : Nat → List Nat} (t : Tree u par wd P) (k : Nat) (hk : k < 6) : Word (wd k) ∧ (wd k).length ≤ 5 := by
  obtain ⟨X, hX, h1, h2, h3, h4, h5⟩ := t.chain k hk
  have : (P k)[(P k).length - 1]? = some k := by
    cases k with
    | zero => rw [t.p0]; rfl
    | succ k =>
      obtain ⟨pl, s, hpl, hs, hp, hP, hw⟩ := t.step k (by exact Nat.lt_of_succ_lt_succ hk)
      rw [hP, List.length_append, List.length_singleton, Nat.add_sub_cancel, List.getElem?_append_right (Nat.le_refl _), Nat.sub_self]; rfl
  have e := h5 _ _ this
  rw [e]
  refine ⟨fun y hy => hX y (List.mem_of_mem_take hy), ?_⟩
  rw [List.length_take]; omega
theorem Tree.par_lt {u : Nat} {par : Nat → Nat} {wd P : Nat → List Nat} (t : Tree u par wd P) (k : Nat) (h1 : 1 ≤ k) (h2 : k < 6) : par k < k := by
  obtain ⟨j, rfl⟩ : ∃ j, k = j + 1 := ⟨k - 1, by omega⟩
  obtain ⟨X, hX, _, _, _, h4, _⟩ := t.chain j (by exact Nat.lt_of_succ_lt h2)
  obtain ⟨pl, s, hpl, hs, hp, hP, hw⟩ := t.step j (by exact Nat.lt_of_succ_lt_succ h2)
  have := h4 _ (List.mem_of_getElem? hp)
  exact Nat.lt_succ_of_le this
theorem Tree.less {u : Nat} {par : Nat → Nat} {wd P : Nat → List Nat} (t : Tree u par wd P) (k : Nat) (hk : k < 5) : ∃ pl, pl < (P k).length ∧ (P k)[pl]? = some (par (k + 1)) ∧ P (k + 1) = (P k).take (pl + 1) ++ [k + 1] ∧
    lessF (wsL u (wd (par (k + 1)))) (wsL u (wd (k + 1))) = true ∧ ∀ i e, pl < i → (P k)[i]? = some e → lessF (wsL u (wd e)) (wsL u (wd (k + 1))) = false := by
  obtain ⟨X, hX, h1, h2, h3, h4, h5⟩ := t.chain k (by exact Nat.lt_succ_of_lt hk)
  obtain ⟨pl, s, hpl, hs, hp, hP, hw⟩ := t.step k hk
  have hwp := h5 pl _ hp
  refine ⟨pl, hpl, hp, hP, ?_, fun i e hi he => ?_⟩
  · rw [hw, hwp]
    exact less_child t.u1 t.u2 (by rw [List.length_take]; (clear h3 hs; omega)) (fun y hy => hX y (List.mem_of_mem_take hy)) hs
  · have hlt : i < (P k).length := (List.getElem?_eq_some_iff.mp he).1
    rw [h5 i e he, hw, hwp]
    have := less_not t.u1 t.u2 (X := X.take i) (by rw [List.length_take]; (clear h3 hpl hs hi; omega)) (fun y hy => hX y (List.mem_of_mem_take hy)) (i := pl) (by rw [List.length_take]; (clear hk h2 h3 hpl hs; omega)) hs
    rw [List.take_take, Nat.min_eq_left (by exact Nat.le_of_lt hi)] at this
    exact this
end Mine
namespace Mine
theorem bounds_but (n : Nat) (h : 1 ≤ n) : sliceBounds none (some (-1)) none n = (((0 : Nat) : Int), ((n - 1 : Nat) : Int), 1) := by
  unfold sliceBounds
  simp only [Option.getD_none, show ((1 : Int) > 0) from by decide, if_true, show ((-1 : Int) < 0) from by decide, Prod.mk.injEq, and_true]
  exact ⟨rfl, o_mx h⟩
theorem bounds_upto (n b : Nat) (h : b ≤ n) : sliceBounds none (some (b : Int)) none n = (((0 : Nat) : Int), (b : Int), 1) := by
  unfold sliceBounds
  simp only [Option.getD_none, show ((1 : Int) > 0) from by decide, if_true, Prod.mk.injEq, and_true]
  refine ⟨rfl, ?_⟩
  rw [if_neg (by omega)]
  omega
theorem slice_butL {α : Type} (xs : List α) (h : 1 ≤ xs.length) : (sliceRange (sliceBounds none (some (-1)) none xs.length).1 (sliceBounds none (some (-1)) none xs.length).2.1 (sliceBounds none (some (-1)) none xs.length).2.2).filterMap (xs[·]?) = xs.take (xs.length - 1) := by
  rw [bounds_but _ h]
  show (sliceRange ((0 : Nat) : Int) ((xs.length - 1 : Nat) : Int) 1).filterMap (xs[·]?) = _
  rw [sliceRange_one, Nat.sub_zero, pick_list xs 0 _ (by omega), List.drop_zero]
theorem slice_uptoL {α : Type} (xs : List α) (b : Nat) (h : b ≤ xs.length) : (sliceRange (sliceBounds none (some (b : Int)) none xs.length).1 (sliceBounds none (some (b : Int)) none xs.length).2.1 (sliceBounds none (some (b : Int)) none xs.length).2.2).filterMap (xs[·]?) = xs.take b := by
  rw [bounds_upto _ b h]
  show (sliceRange ((0 : Nat) : Int) (b : Int) 1).filterMap (xs[·]?) = _
  rw [sliceRange_one, Nat.sub_zero, pick_list xs 0 _ (by omega), List.drop_zero]
noncomputable def openL (P : Nat → List Nat) (k : Nat) : List Nat := if k = 0 then [] else P (k - 1)
theorem Tree.turn {u : Nat} {par : Nat → Nat} {wd P : Nat → List Nat} (t : Tree u par wd P) (k : Nat) (hk : k < 6) : ∃ pb, pb ≤ (openL P k).length ∧ (openL P k).length ≤ 6 ∧ (∀ e ∈ openL P k, e < k) ∧ P k = (openL P k).take pb ++ [k] ∧ (k = 0 → (openL P k).length = 0) ∧
    (k ≠ 0 → 1 ≤ pb ∧ (openL P k)[pb - 1]? = some (par k) ∧ lessF (wsL u (wd (par k))) (wsL u (wd k)) = true) ∧ ∀ i e, pb ≤ i → (openL P k)[i]? = some e → lessF (wsL u (wd e)) (wsL u (wd k)) = false := by
  cases k with
  | zero =>
    refine ⟨0, Nat.zero_le _, by simp [openL], by simp [openL], by rw [t.p0]; rfl, fun _ => rfl, fun h => absurd rfl h, fun i e _ h => by simp [openL] at h⟩
  | succ k =>
    obtain ⟨pl, h1, h2, h3, h4, h5⟩ := t.less k (by exact Nat.lt_of_succ_lt_succ hk)
    obtain ⟨X, _, _, _, c3, c4, _⟩ := t.chain k (by exact Nat.lt_of_succ_lt hk)
    have e : openL P (k + 1) = P k := by unfold openL; rw [if_neg (by exact Nat.succ_ne_zero _)]; rfl
    rw [e]
    exact ⟨pl + 1, h1, by (clear h1 c3; omega), fun e he => by have := c4 e he; exact Nat.lt_succ_of_le this, h3, fun h => absurd h (by exact Nat.succ_ne_zero _), fun _ => ⟨by exact Nat.le_add_left _ _, h2, h4⟩, fun i e hi he => h5 i e (by exact Nat.lt_of_succ_le hi) he⟩
end Mine
namespace Mine
variable [HasP]
section
variable {G : Glb} {F : Fm} {ρ : Vars} {H : HA} {sc : Scope} {d : Nat} {Q : V → HA → Prop} {Kf : Frag}
theorem Ev_Ws (K : Kn G) (W : WsK G Kf) (hP : ∀ t, HasP.K t = 0) (ok : FOk G F sc (d + 2)) {e : Expr} {np pos : Pos}
    (h : Ev G F e ρ H fun v H1 => ∃ x : Str, v = .str x ∧ x.cps.size ≤ 100 ∧ ∀ a H', Ext H1 H' → H1 a = none → WsI H' a x → Q (.ref a) H')
    (hk : sc.names.lookup (Str.ofString "Whitespace") = some .globalImplicit := by decide +kernel)
    (he : starEach [e] F.env = [(false, eval e F.env)] := by rfl) (hplain : (backTo pos (starEach [e] F.env)).any (·.1) = false := by rfl) :
    Ev G F (.Call (.Name (Str.ofString "Whitespace") np) [e] [] pos) ρ H Q := by
  refine Ev_New (d := d) (ns := ["self", "ws"]) ok K.g W.inn (K.gv (n := "Whitespace") rfl) K.d_init W.keep W.makes W.ini W.inif (Evs_cons (h.mono fun v H1 ⟨x, hv, hz, hq⟩ => Evs_nil ⟨rfl, fun a dd ha hd hne F' ok' own' => ?_⟩) (by rw [he]; rfl)) hk hplain
  subst hv
  exact w_init K W hP ok' own' hz ha hd hne fun H' hE hW => hq a H' hE ha hW
end
end Mine
namespace Mine
noncomputable def noS : V → Bool
  | .str _ | .mid _ | .bad => false
  | _ => true
noncomputable def noSO : O → Bool
  | .list xs | .tup xs => xs.all noS
  | .inst _ _ => true
  | .ns _ => false
  | .iter _ _ => true
  | .range _ _ _ => true
  | .slice l u s => noS l && noS u && noS s
  | .attrs l => l.all fun p => noS p.2
  | .enumr _ _ => true
  | .iterE => true
noncomputable def cut (H : HA) : HA := fun a => match H a with
  | some o => if noSO o then some o else none
  | none => none
theorem cut_some {H : HA} {a : Addr} {o : O} (h : H a = some o) (hn : noSO o = true) : cut H a = some o := by unfold cut; rw [h]; simp [hn]
theorem cut_of {H : HA} {a : Addr} {o : O} (h : cut H a = some o) : H a = some o ∧ noSO o = true := by
  unfold cut at h
  split at h
  · rename_i o' e
    split at h
    · rename_i hn; cases h; exact ⟨e, hn⟩
    · cases h
  · cases h
theorem cut_none {H : HA} {a : Addr} (h : H a = none) : cut H a = none := by unfold cut; rw [h]
theorem ab_sw (p q : HasP) {v : Value} {x : V} (h : @ab p v = x) (hn : noS x = true) : @ab q v = x := by
  subst h
  cases v <;> first | rfl | (exfalso; revert hn; simp only [ab]; split <;> simp [noS])
theorem map_sw (p q : HasP) : ∀ {vs : List Value} {xs : List V}, vs.map (@ab p) = xs → xs.all noS = true → vs.map (@ab q) = xs
  | [], xs, h, _ => h
  | v :: vs, x :: xs, h, hn => by
    simp only [List.map_cons, List.cons.injEq] at h ⊢
    simp only [List.all_cons, Bool.and_eq_true] at hn
    exact ⟨ab_sw p q h.1 hn.1, map_sw p q h.2 hn.2⟩
  | v :: vs, [], h, _ => by simp at h
theorem OR_sw (p q : HasP) {h : Heap} {a : Addr} {o : O} (x : @OR p h a o) (hn : noSO o = true) : @OR q h a o := by
  cases o with
  | list xs => obtain ⟨vs, n, e, r⟩ := x; exact ⟨vs, n, e, map_sw p q r hn⟩
  | tup xs => obtain ⟨vs, n, e, r⟩ := x; exact ⟨vs, n, e, map_sw p q r hn⟩
  | inst C d => exact x
  | ns m => cases hn
  | iter l i => exact x
  | range i j k => exact x
  | slice l u s =>
    obtain ⟨a1, a2, a3, e, r1, r2, r3⟩ := x
    simp only [noSO, Bool.and_eq_true] at hn
    exact ⟨a1, a2, a3, e, ab_sw p q r1 hn.1.1, ab_sw p q r2 hn.1.2, ab_sw p q r3 hn.2⟩
  | attrs l =>
    obtain ⟨es, n, e, r⟩ := x
    refine ⟨es, n, e, ?_⟩
    unfold Attrs at r ⊢
    have go : ∀ (es : List DictEntry) (l : List (String × V)), es.map (fun e => (keyS e.key, @ab p e.val)) = l.map (fun p => (some (Str.ofString p.1), p.2)) → (l.all fun p => noS p.2) = true → es.map (fun e => (keyS e.key, @ab q e.val)) = l.map (fun p => (some (Str.ofString p.1), p.2)) := by
      intro es
      induction es with
      | nil => intro l h _; cases l <;> simp_all
      | cons e es ih =>
        intro l h hn
        cases l with
        | nil => simp at h
        | cons y l =>
          simp only [List.map_cons, List.cons.injEq, Prod.mk.injEq, List.all_cons, Bool.and_eq_true] at h hn ⊢
          exact ⟨⟨h.1.1, ab_sw p q h.1.2 hn.1⟩, ih l h.2 hn.2⟩
    exact go es l r hn
  | enumr it i => exact x
  | iterE => exact x
theorem Hp_sw (p q : HasP) {G : Glb} {Z : Addr → Option Obj} {H : HA} {s : Shared} (x : @Hp p G Z H s) (hq : q.clk ≤ s.toks) : @Hp q G Z (cut H) s := by
  obtain ⟨bz, fz, sep, trk, gens, os, ck⟩ := x
  exact ⟨bz, fz, fun b o e => cut_none (sep b o e), fun a o e => OR_sw p q (trk a o (cut_of e).1) (cut_of e).2, gens, os, hq⟩
theorem omap_sw (p q : HasP) {v : Option Value} {r : Option V} (h : v.map (@ab p) = r) (hn : ∀ x, r = some x → noS x = true) : v.map (@ab q) = r := by
  cases v with
  | none => exact h
  | some v =>
    subst h
    have := hn _ rfl
    exact congrArg some (ab_sw p q rfl this)
theorem Inv_sw (p q : HasP) {G : Glb} {F : Fm} {Z : Addr → Option Obj} {ρ : Vars} {H : HA} {s : Shared} (x : @Inv p G F Z ρ H s) (hq : q.clk ≤ s.toks) (hρ : ∀ y v, ρ y = some v → noS v = true) : @Inv q G F Z ρ (cut H) s := by
  obtain ⟨hp, ⟨⟨m, hn, hm⟩, hL, zL, cell, cw⟩⟩ := x
  refine ⟨Hp_sw p q hp hq, ⟨⟨m, hn, fun y hy => omap_sw p q (hm y hy) (hρ y)⟩, cut_none hL, zL, fun y c hc => ?_, cw⟩⟩
  obtain ⟨⟨ov, h1, h2⟩, h3, h4⟩ := cell y c hc
  exact ⟨⟨ov, h1, omap_sw p q h2 (hρ y)⟩, cut_none h3, h4⟩
end Mine
namespace Mine
structure EvsC (G : Glb) (F : Fm) (es : List Expr) (xs : List Str) : Prop where
  run : ∀ s pos, wpAny (Md G) F.A (spliced (backTo pos (starEach es F.env))) (fun vs s' => ∃ (l : List (Str × Tok)) (tk : Nat), vs = strValues l ∧ l.map (·.1) = xs ∧ (∀ p ∈ l, s.toks ≤ p.2 ∧ p.2 < tk) ∧ s' = { s with toks := tk } ∧ s.toks ≤ tk) NoE s
theorem EvsC_nil {G : Glb} {F : Fm} : EvsC G F [] [] := .mk fun s pos => args_nil ⟨[], s.toks, rfl, rfl, (fun p hp => absurd hp (by simp)), rfl, Nat.le_refl _⟩
theorem EvsC_cons {G : Glb} {F : Fm} {i : Str} {k p} {es : List Expr} {xs : List Str} (h : EvsC G F es xs) : EvsC G F (.Constant (.str i) k p :: es) (i :: xs) := .mk fun s pos =>
  args_cons (wpAny_Constant_str (wpAny_mono (h.run { s with toks := s.toks + 1 } pos) (fun vs s' ⟨l, tk, e1, e2, e3, e4, e5⟩ => by
    have e5 : s.toks + 1 ≤ tk := e5
    refine ⟨(i, s.toks) :: l, tk, by rw [e1]; rfl, by rw [List.map_cons, e2], fun q hq => ?_, e4, by exact Nat.le_of_succ_le e5⟩
    rcases List.mem_cons.mp hq with rfl | hq
    · exact ⟨Nat.le_refl _, by show s.toks < tk; exact Nat.lt_of_succ_le e5⟩
    · have := e3 q hq
      have h1 : s.toks + 1 ≤ q.2 := this.1
      exact ⟨by show s.toks ≤ q.2; exact Nat.le_of_succ_le h1, this.2⟩) fun _ _ e => e)) rfl
theorem Inv_back (p q : HasP) {G : Glb} {F : Fm} {Z : Addr → Option Obj} {ρ : Vars} {H : HA} {s : Shared} (hlo : ∀ n, F.env.kindOf n = some .local → F.env.cells.lookup n = none) (x : @Inv p G F Z ρ H s) (hq : q.clk ≤ s.toks) : ∃ ρ', @Inv q G F Z ρ' (cut H) s := by
  obtain ⟨hp, ⟨⟨m, hn, hm⟩, hL, zL, cell, cw⟩⟩ := x
  let val : Addr → Option Value := fun c => match s.heap.get? c with
    | some ⟨_, _, .cell ov, _⟩ => ov
    | _ => none
  refine ⟨fun y => match F.env.cells.lookup (Str.ofString y) with
    | some c => (val c).map (@ab q)
    | none => (m (Str.ofString y)).map (@ab q), Hp_sw p q hp hq, ⟨⟨m, hn, fun y hy => ?_⟩, cut_none hL, zL, fun y c hc => ?_, cw⟩⟩
  · simp only [hlo _ hy]
  · obtain ⟨⟨ov, ⟨o, h1, h2⟩, _⟩, h3, h4⟩ := cell y c hc
    refine ⟨⟨ov, ⟨o, h1, h2⟩, ?_⟩, cut_none h3, h4⟩
    simp only [hc]
    have : val c = ov := by
      show (match s.heap.get? c with
        | some ⟨_, _, .cell ov, _⟩ => ov
        | _ => none) = ov
      rw [h1]
      obtain ⟨_, _, dd, _⟩ := o
      simp only at h2
      subst h2
      rfl
    rw [this]
noncomputable def midP (T1 T2 : Nat) (h1 : 2513 ≤ T1) (h2 : 1 ≤ T2) : HasP where
  K := fun t => if (t : Nat) = 0 then 2 else if T1 ≤ (t : Nat) ∧ (t : Nat) < T2 then 1 else 0
  clk := T2
  hP := fun t h => by
    by_cases h0 : (t : Nat) = 0
    · exact h0 ▸ h2
    · by_cases hh : T1 ≤ (t : Nat) ∧ (t : Nat) < T2
      · exact hh.2
      · rw [if_neg h0, if_neg hh] at h; exact absurd rfl h
  hB := fun t h3 h4 => by
    have a1 : ¬ (t : Nat) = 0 := fun e => by rw [e] at h3; exact absurd h3 (by decide)
    have a2 : ¬ (T1 ≤ (t : Nat) ∧ (t : Nat) < T2) := fun e => absurd (Nat.lt_of_lt_of_le h4 h1) (Nat.not_lt.mpr e.1)
    rw [if_neg a1, if_neg a2]
theorem midP_sep (T1 T2 : Nat) (h1 : 2513 ≤ T1) (h2 : 1 ≤ T2) : ∀ t, (midP T1 T2 h1 h2).K t ≤ 1 → t ≠ 0 := by
  rintro t h rfl
  have : (midP T1 T2 h1 h2).K 0 = 2 := rfl
  omega
theorem strValues_mid (T1 T2 : Nat) (h1 : 2513 ≤ T1) (h2 : 1 ≤ T2) : ∀ (l : List (Str × Tok)), (∀ p ∈ l, T1 ≤ p.2 ∧ p.2 < T2) → (strValues l).map (@ab (midP T1 T2 h1 h2)) = (l.map (·.1)).map V.mid
  | [], _ => rfl
  | p :: l, h => by
    have ih := strValues_mid T1 T2 h1 h2 l fun q hq => h q (List.mem_cons_of_mem _ hq)
    have hp := h p List.mem_cons_self
    have hk : (midP T1 T2 h1 h2).K p.2 = 1 := by
      have a1 : ¬ (p.2 : Nat) = 0 := fun e => by
        have := Nat.le_trans h1 hp.1
        rw [e] at this
        exact absurd this (by decide)
      show (if (p.2 : Nat) = 0 then 2 else if T1 ≤ p.2 ∧ p.2 < T2 then 1 else 0) = 1
      rw [if_neg a1, if_pos hp]
    simp only [strValues, List.map_cons, List.map_map] at ih ⊢
    rw [ih]
    congr 1
    simp only [ab, hk]
theorem Exs_names (p0 : HasP) {G : Glb} {F : Fm} {sc : Scope} {d : Nat} {n : String} {np pos spos : Pos} {es : List Expr} {xs : List Str} {sts : List Stmt} {ρ : Vars} {H : HA} {Q : Fl → HA → Prop} (ok : FOk G F sc d) (hclk : 2513 ≤ p0.clk) (hc : EvsC G F es xs) (hxs : xs.length ≤ 1000)
    (hk : sc.names.lookup (Str.ofString n) = some .local) (hρ : ∀ y v, ρ y = some v → noS v = true)
    (h : ∀ p1 : HasP, (∀ t, p1.K t ≤ 1 → t ≠ 0) → ∀ L, cut H L = none → @Exs p1 G F sts (ρ.set n (.ref L)) ((cut H).set L (.list (xs.map V.mid))) (fun fl _ H' => (match fl with | .ret v => noS v = true | _ => True) ∧ Q fl (cut H')))
    (hs : swapsWith (.List es pos) (some (.Name (Str.ofString n) np)) spos.line F.env = pure false := by rfl) :
    @Exs p0 G F (.Assign [.Name (Str.ofString n) np] (.List es pos) spos :: sts) ρ H (fun fl _ => Q fl) := by
  refine @Exs.mk p0 _ _ _ _ _ _ fun Z s X => ?_
  have hck : p0.clk ≤ s.toks := by obtain ⟨⟨_, _, _, _, _, _, ck⟩, _⟩ := X; exact ck
  have hT1 : 2513 ≤ s.toks := Nat.le_trans hclk hck
  refine wpAny_execs_cons (wpAny_Assign_Name (wpAny_List (wpAny_mono (hc.run s pos) (fun vs s₁ hM => ?_) fun _ _ e => e)) hs)
  obtain ⟨l, tk, e1, e2, e3, e4, e5⟩ := hM
  subst e4 e1
  have hlen : (strValues l).length ≤ sizeLine := by
    have : (1000 : Nat) ≤ sizeLine := by decide
    unfold strValues
    rw [List.length_map]
    have := congrArg List.length e2
    rw [List.length_map] at this
    (clear hclk hck hT1 e5; omega)
  refine ⟨hlen, ?_⟩
  have htk : 1 ≤ tk := Nat.le_trans (Nat.le_trans (by decide) hT1) e5
  have X1 : @Inv (midP s.toks tk hT1 htk) G F Z ρ (cut H) { s with toks := tk } :=
    @Inv_sw p0 (midP s.toks tk hT1 htk) G F Z ρ H { s with toks := tk } (by
      letI := p0
      exact Inv.toks X tk e5) (Nat.le_refl tk) hρ
  have hmid := strValues_mid s.toks tk hT1 htk l e3
  have hsep := midP_sep s.toks tk hT1 htk
  have hclk1 : (midP s.toks tk hT1 htk).clk = tk := rfl
  generalize midP s.toks tk hT1 htk = p1 at X1 hmid hsep hclk1
  letI := p1
  have X2 := X1.thaw (X1.hp.freeze.alloc (s' := { s with toks := tk, heap := s.heap.push { cls := .type "list", data := .seq (strValues l).toArray 0 } }) (o := .list (xs.map V.mid)) (fun b ob e => Heap.get?_push_of_some _ e) (Nat.le_refl _) ⟨(strValues l).toArray, 0, Heap.get?_push_size _ rfl, by rw [List.toList_toArray, hmid, e2]⟩ rfl rfl)
  have hfr : cut H s.heap.objs.size = none := X1.hp.fresh (Nat.le_refl _)
  refine X2.storeLocal (n := n) (v := .ref s.heap.objs.size) ok.fn ((ok.sco _).trans hk) (ok.lo _ hk) fun s3 X3 => ?_
  refine wpAny_mono ((h p1 hsep s.heap.objs.size hfr).run Z s3 X3) (fun fl s4 hM => ?_) fun _ _ e => e
  obtain ⟨ρ4, H4, X4, c4, q4⟩ := hM
  have hck4 : p0.clk ≤ s4.toks := Nat.le_trans hck (Nat.le_trans e5 (hclk1 ▸ X4.hp.ck))
  obtain ⟨ρ5, X5⟩ := Inv_back p1 p0 (fun n hn => ok.lo n ((ok.sco n).symm.trans hn)) X4 hck4
  refine ⟨ρ5, cut H4, X5, ?_⟩
  have : @abF p0 fl = @abF p1 fl := by
    cases fl with
    | ret v => exact congrArg Fl.ret (ab_sw p1 p0 rfl c4)
    | _ => rfl
  rw [this]
  exact q4
end Mine
namespace Mine
noncomputable def txtV : V → Option Str
  | .str s | .mid s => some s
  | _ => none
variable [HasP]
section
variable {G : Glb} {F : Fm} {ρ : Vars} {H : HA} {sc : Scope} {d : Nat} {Q : V → HA → Prop}
theorem ab_txt {x : Value} {a : Str} (h : txtV (ab x) = some a) : ∃ t, x = .str a t := by
  cases e : ab x with
  | str s => rw [e] at h; cases h; exact ab_str e
  | mid s => rw [e] at h; cases h; obtain ⟨t, e, _⟩ := ab_mid e; exact ⟨t, e⟩
  | _ => rw [e] at h; cases h
theorem Cmp_neTxt (ok : FOk G F sc d) (hd : 1 ≤ d) {a b : Addr} {us ws : List V} {xs ys : List Str} {Q : V → HA → Prop} (ha : H a = some (.list us)) (hb : H b = some (.list ws)) (hu : us.map txtV = xs.map some) (hw : ws.map txtV = ys.map some) (h : Q (.bool (!decide (xs = ys))) H) :
    Cmp G F .NotEq (.ref a) (.ref b) H Q := fun x y ex ey => .mk fun Z ρ s X => by
  obtain rfl := ab_ref ex; obtain rfl := ab_ref ey
  obtain ⟨vs, lv, q⟩ := (X.hp.trk _ _ ha).isList
  obtain ⟨us', lu, q2⟩ := (X.hp.trk _ _ hb).isList
  have hun := ok.un
  have s1 := size_ab q
  have s2 := size_ab q2
  have l1 : us.length = xs.length := by simpa using congrArg List.length hu
  have l2 : ws.length = ys.length := by simpa using congrArg List.length hw
  by_cases hsz : vs.size = us'.size
  · refine SeqAt.RcNeAt.lists (e := fun j => xs[j]? == ys[j]?) lv lu hsz (by (clear s1 s2 l1 l2 hsz; omega)) (fun j h1 h2 => ?_) _ _ _ _ ?_
    · have g1 := getElem?_ab q j
      have g2 := getElem?_ab q2 j
      rw [Array.getElem?_eq_getElem h1] at g1
      rw [Array.getElem?_eq_getElem h2] at g2
      have k1 := congrArg (·[j]?) hu
      have k2 := congrArg (·[j]?) hw
      simp only [List.getElem?_map] at k1 k2
      rw [← g1] at k1
      rw [← g2] at k2
      have m1 : j < xs.length := by omega
      have m2 : j < ys.length := by omega
      rw [List.getElem?_eq_getElem m1] at k1 ⊢
      rw [List.getElem?_eq_getElem m2] at k2 ⊢
      simp only [Option.map_some, Option.some.injEq] at k1 k2
      obtain ⟨t, e1⟩ := ab_txt k1
      obtain ⟨u, e2⟩ := ab_txt k2
      rw [e1, e2]
      exact SeqAt.EqAt.str_str _ t _ u
    · have : (!((List.range vs.size).all fun j => xs[j]? == ys[j]?)) = !decide (xs = ys) := by
        congr 1
        rw [Bool.eq_iff_iff, List.all_eq_true, decide_eq_true_iff]
        constructor
        · intro hall
          apply List.ext_getElem?
          intro j
          by_cases hj : j < xs.length
          · have := hall j (List.mem_range.mpr (by (clear hd hun; omega)))
            exact beq_iff_eq.mp this
          · rw [List.getElem?_eq_none (by exact Nat.le_of_not_lt hj), List.getElem?_eq_none (by (clear hd hun; omega))]
        · rintro rfl j _
          exact beq_self_eq_true _
      rw [this]
      exact ⟨H, X, h⟩
  · have hne : xs ≠ ys := by rintro rfl; exact hsz (by (clear hd hun hsz; omega))
    rw [decide_eq_false hne] at h
    exact SeqAt.RcNeAt.lists_lengths lv lu (by simpa using hsz) (by (clear s1 s2 l1 l2 hsz; omega)) _ _ _ _ ⟨H, X, h⟩
theorem txt_str (xs : List Str) : (xs.map V.str).map txtV = xs.map some := by rw [List.map_map]; rfl
theorem mids_ab : ∀ {vs : List Value} {ys : List Str}, vs.map ab = ys.map V.mid → ∃ l : List (Str × Tok), vs = strValues l ∧ l.map (·.1) = ys
  | [], [], _ => ⟨[], rfl, rfl⟩
  | v :: vs, n :: ns, h => by
    simp only [List.map_cons, List.cons.injEq] at h
    obtain ⟨t, rfl, hp⟩ := ab_mid h.1
    obtain ⟨l, rfl, e⟩ := mids_ab h.2
    exact ⟨(n, t) :: l, rfl, by simp [e]⟩
  | [], n :: ns, h => by simp at h
  | v :: vs, [], h => by simp at h
theorem Cal_joinMid {x : Str} {l : Addr} {ys : List Str} {Q : V → HA → Prop} (hl : H l = some (.list (ys.map V.mid))) (h1 : x.length ≤ 64) (h2 : (ys.map (·.length)).sum + ys.length * 64 ≤ 16777216) (hy : ys.length ≠ 1) (h : Q (.str (Txt.join x ys)) H) :
    Cal G F (.builtin "str.join") [.str x, .ref l] H Q := fun cs hcs => .mk fun Z ρ s X => by
  obtain ⟨a, b, rfl, e, e2⟩ := args2 hcs
  obtain ⟨t, rfl⟩ := ab_str e
  obtain rfl := ab_ref e2
  obtain ⟨vs, lv, q⟩ := (X.hp.trk _ _ hl).isList
  obtain ⟨ll, hv, rfl⟩ := mids_ab q
  have e' : vs = (strValues ll).toArray := by rw [← hv]
  subst e'
  have hok := joinOk_of (sep := x) (ys := ll.map (·.1)) (Nat.le_trans (Nat.add_le_add_left (Nat.mul_le_mul_left _ h1) _) h2)
  unfold JoinOk at hok
  rw [Bool.not_eq_true'] at hok
  refine call_meets PySem.F.slot_str_join (typeIs_str _ _ _) PySem.F.entry_str_join (PySem.F.args_str_join_2 _ _) (meets_str_join_list x t l ll hok) ⟨lv, ?_⟩
  have hfit := joinFit_length hok
  match ll, hy, h, hfit with
  | [], hp, h, hfit => exact ⟨hfit, H, X.toks _, VQ_new X h⟩
  | [p], hp, h, hfit => exact absurd rfl hp
  | _ :: _ :: _, hp, h, hfit => exact ⟨hfit, H, X.toks _, VQ_new X h⟩
end
end Mine
namespace Mine
noncomputable def btw (T : Nat → List Int) (i j : Nat) : List Nat := (List.range 5).filter fun k : Nat => (T i).contains ((k : Int) + 1) != (T j).contains ((k : Int) + 1)
noncomputable def apV (T : Nat → List Int) (w : Nat → Int) (x : Int) (i j : Nat) : Int := x + ((btw T i j).map w).sum
theorem btw_self (T : Nat → List Int) (i : Nat) : btw T i i = [] := by unfold btw; simp
theorem btw_comm (T : Nat → List Int) (i j : Nat) : btw T i j = btw T j i := by
  unfold btw
  congr 1
  funext k
  cases (T i).contains ((k : Int) + 1) <;> cases (T j).contains ((k : Int) + 1) <;> rfl
theorem btw_lt {T : Nat → List Int} {i j t : Nat} (h : t ∈ btw T i j) : t < 5 := List.mem_range.mp (List.mem_filter.mp h).1
noncomputable def whO (W : Nat → Int) : Nat → Int
  | 0 => 0
  | i + 1 => Builtin.bitOr (whO W i) (W i)
noncomputable def ownL (base : Nat) : List Str := (List.range 5).map fun t => nmT (base + t)
structure ApOk (W : Nat → Int) (T : Nat → List Int) (base : Nat) : Prop where
  words : ∀ i j, j ≤ i → i < 6 → pfSafe 32 0 (Builtin.bitXor (W i) (W j)) = true ∧ (Txt.join sepT (pfGo 32 0 (Builtin.bitXor (W i) (W j)) [])).length + 2 ≤ sizeLine ∧
    Txt.split (Txt.join sepT (pfGo 32 0 (Builtin.bitXor (W i) (W j)) [])) sepT = if i = j then [zeroT] else (btw T i j).map fun t => nmT (base + t)
  safe : pfSafe 32 0 (whO W 6) = true
  whole : Txt.join sepT (pfGo 32 0 (whO W 6) []) = Txt.join sepT (ownL base)
noncomputable def nameL : List Str := (List.range 12).map nmT
theorem nameL_eq : nameL = ["OPTIMIZED", "NEWLOCALS", "VARARGS", "VARKEYWORDS", "NESTED", "GENERATOR", "NOFREE", "COROUTINE", "ITERABLE_COROUTINE", "ASYNC_GENERATOR", "0x400", "0x800"].map Str.ofString := by decide +kernel
theorem nm_inj : ∀ i, i < 12 → ∀ j, j < 12 → nmT i = nmT j → i = j := by decide +kernel
theorem own_slice : ∀ b : Nat, b < 8 → (sliceRange (sliceBounds (some (b : Int)) (some ((b : Int) + 5)) none nameL.length).1 (sliceBounds (some (b : Int)) (some ((b : Int) + 5)) none nameL.length).2.1 (sliceBounds (some (b : Int)) (some ((b : Int) + 5)) none nameL.length).2.2).filterMap (nameL[·]?) = ownL b := by decide +kernel
theorem own_sum : ∀ b : Nat, b < 8 → ((ownL b).map (·.length)).sum + (ownL b).length * 64 ≤ 16777216 := by decide +kernel
theorem own_get (b t : Nat) (h : t < 5) : (ownL b)[t]? = some (nmT (b + t)) := by
  unfold ownL
  rw [List.getElem?_map, List.getElem?_range h]; rfl
theorem own2_get (b t : Nat) (h : t < 5) : (ownL b ++ ownL b)[t]? = some (nmT (b + t)) := by
  rw [List.getElem?_append_left (by simp [ownL]; exact h)]; exact own_get b t h
theorem own2_first (b t : Nat) (hb : b < 8) (h : t < 5) : ∀ j, j < t → (ownL b ++ ownL b)[j]? ≠ some (nmT (b + t)) := fun j hj => by
  rw [own2_get b j (by exact Nat.lt_trans hj h)]
  intro e
  have := nm_inj (b + j) (by omega) (b + t) (by omega) (Option.some.inj e)
  (clear hb h; omega)
theorem replV (x : Int) (i : Nat) : List.replicate 6 (V.int x) = rowV (fun _ _ => x) i := rfl
theorem take_get {α β : Type} (l : List α) (f : α → β) (i : Nat) (a : α) (h : l[i]? = some a) : (l.take (i + 1)).map f = (l.take i).map f ++ [f a] := by
  rw [List.take_add_one, h, List.map_append]; rfl
end Mine
namespace Mine
noncomputable def uN (z : Int) : Nat := ((z.fdiv 67392).fmod 3 + 1).toNat
noncomputable def tN (z : Int) : Nat := ((z.fdiv 67392).fmod 180).toNat
theorem uN_eq (z : Int) : (z.fdiv 67392).fmod 3 + 1 = (uN z : Int) ∧ uN z < 4 ∧ uN z ≠ 0 := by
  have h1 := Int.fmod_lt_of_pos (z.fdiv 67392) (show (0 : Int) < 3 by decide)
  have h2 := Int.fmod_nonneg_of_pos (z.fdiv 67392) (show (0 : Int) < 3 by decide)
  unfold uN
  omega
theorem tN_eq (z : Int) : (z.fdiv 67392).fmod 180 = (tN z : Int) ∧ tN z < 180 := by
  have h1 := Int.fmod_lt_of_pos (z.fdiv 67392) (show (0 : Int) < 180 by decide)
  have h2 := Int.fmod_nonneg_of_pos (z.fdiv 67392) (show (0 : Int) < 180 by decide)
  unfold tN
  omega
noncomputable def PL (c : Nat → Int) : Nat → List Nat
  | 0 => [0]
  | k + 1 => (PL c k).take (tN (c (k + 1)) % (PL c k).length + 1) ++ [k + 1]
noncomputable def parN (c : Nat → Int) : Nat → Nat
  | 0 => 0
  | k + 1 => (PL c k).getD (tN (c (k + 1)) % (PL c k).length) 0
noncomputable def byPar {α : Type} (c : Nat → Int) (z : α) (f : Nat → α → α) : Nat → List α
  | 0 => [z]
  | k + 1 => byPar c z f k ++ [f (k + 1) ((byPar c z f k).getD (parN c (k + 1)) z)]
noncomputable def atPar {α : Type} (c : Nat → Int) (z : α) (f : Nat → α → α) (k : Nat) : α := (byPar c z f k).getD k z
theorem byPar_len {α : Type} (c : Nat → Int) (z : α) (f : Nat → α → α) : ∀ k, (byPar c z f k).length = k + 1
  | 0 => rfl
  | k + 1 => by unfold byPar; rw [List.length_append, byPar_len c z f k]; rfl
theorem byPar_at {α : Type} (c : Nat → Int) (z : α) (f : Nat → α → α) : ∀ k j, j ≤ k → (byPar c z f k).getD j z = atPar c z f j
  | 0, j, h => by
    have : j = 0 := by exact Nat.eq_zero_of_le_zero h
    subst this; rfl
  | k + 1, j, h => by
    by_cases e : j = k + 1
    · subst e; rfl
    · rw [← byPar_at c z f k j (by omega)]
      show (byPar c z f k ++ _).getD j z = _
      rw [List.getD_eq_getElem?_getD, List.getElem?_append_left (by rw [byPar_len]; exact Nat.lt_of_le_of_ne h e), ← List.getD_eq_getElem?_getD]
theorem PL_pos (c : Nat → Int) : ∀ k, 1 ≤ (PL c k).length
  | 0 => Nat.le_refl _
  | k + 1 => by unfold PL; simp
theorem PL_le (c : Nat → Int) : ∀ k e, e ∈ PL c k → e ≤ k
  | 0, e, h => by unfold PL at h; simp at h; exact Nat.le_of_eq h
  | k + 1, e, h => by
    unfold PL at h
    rcases List.mem_append.mp h with h | h
    · have := PL_le c k e (List.mem_of_mem_take h); exact Nat.le_succ_of_le this
    · rw [List.mem_singleton.mp h]; exact Nat.le_refl _
theorem place_lt (c : Nat → Int) (k : Nat) : tN (c (k + 1)) % (PL c k).length < (PL c k).length := Nat.mod_lt _ (PL_pos c k)
theorem par_get (c : Nat → Int) (k : Nat) : (PL c k)[tN (c (k + 1)) % (PL c k).length]? = some (parN c (k + 1)) := by
  show _ = some ((PL c k).getD _ 0)
  rw [List.getD_eq_getElem?_getD, List.getElem?_eq_getElem (place_lt c k)]; rfl
theorem parN_le (c : Nat → Int) (k : Nat) : parN c (k + 1) ≤ k := PL_le c k _ (List.mem_of_getElem? (par_get c k))
theorem atPar_step {α : Type} (c : Nat → Int) (z : α) (f : Nat → α → α) (k : Nat) : atPar c z f (k + 1) = f (k + 1) (atPar c z f (parN c (k + 1))) := by
  unfold atPar
  rw [show byPar c z f (k + 1) = byPar c z f k ++ [f (k + 1) ((byPar c z f k).getD (parN c (k + 1)) z)] from rfl, List.getD_eq_getElem?_getD, List.getElem?_append_right (by rw [byPar_len]; exact Nat.le_refl _), byPar_len, Nat.sub_self]
  rw [byPar_at c z f k _ (parN_le c k)]
  rfl
noncomputable def wdN (c : Nat → Int) : Nat → List Nat := atPar c [] fun k w => w ++ [tN (c k) / 60]
noncomputable def trN (c : Nat → Int) : Nat → List Nat := atPar c [] fun k w => w ++ [k]
theorem treeN (c : Nat → Int) : Tree (uN (c 0)) (parN c) (wdN c) (PL c) := by
  refine ⟨(uN_eq _).2.1, (uN_eq _).2.2, rfl, rfl, fun k hk => ⟨_, tN (c (k + 1)) / 60, place_lt c k, ?_, par_get c k, rfl, atPar_step c _ _ k⟩⟩
  have := (tN_eq (c (k + 1))).2
  omega
noncomputable def trI (c : Nat → Int) (k : Nat) : List Int := (trN c k).map fun n : Nat => (n : Int)
end Mine
namespace Mine
noncomputable def apB1 : List Stmt := match (FB 27)[(4 : Nat)]? with
  | some (.For _ _ b _ _) => b
  | _ => []
noncomputable def apB2 : List Stmt := match apB1[(1 : Nat)]? with
  | some (.For _ _ b _ _) => b
  | _ => []
structure ApH (H : HA) (wa ta ga : Addr) (tr : Nat → Addr) (W w : Nat → Int) (T : Nat → List Int) : Prop where
  ways : H wa = some (.list ((List.range 6).map fun i => .int (W i)))
  trails : H ta = some (.list ((List.range 6).map fun i => .ref (tr i)))
  trail : ∀ i, i < 6 → H (tr i) = some (.list ((T i).map V.int))
  weights : H ga = some (.list ((List.range 5).map fun i => .int (w i)))
theorem ApH.ext {H H' : HA} {wa ta ga : Addr} {tr : Nat → Addr} {W w : Nat → Int} {T : Nat → List Int} (h : ApH H wa ta ga tr W w T) (e : Ext H H') : ApH H' wa ta ga tr W w T :=
  ⟨e _ _ h.ways, e _ _ h.trails, fun i hi => e _ _ (h.trail i hi), e _ _ h.weights⟩
theorem ints_noS (l : List Int) : (l.map V.int).all noS = true := by simp [noS]
theorem ApH.cut {H : HA} {wa ta ga : Addr} {tr : Nat → Addr} {W w : Nat → Int} {T : Nat → List Int} (h : ApH H wa ta ga tr W w T) : ApH (cut H) wa ta ga tr W w T :=
  ⟨cut_some h.ways (by simp [noSO, noS]), cut_some h.trails (by simp [noSO, noS]), fun i hi => cut_some (h.trail i hi) (ints_noS _), cut_some h.weights (by simp [noSO, noS])⟩
theorem Ext.cut {H H' : HA} (e : Ext (cut H) H') : Ext (cut H) (cut H') := fun a o h => cut_some (e a o h) (cut_of h).2
theorem rng_get {α : Type} (f : Nat → α) {n i : Nat} (h : i < n) : ((List.range n).map f)[i]? = some (f i) := by rw [List.getElem?_map, List.getElem?_range h]; rfl
theorem filt_snoc {α : Type} (p : Nat → Bool) (f : Nat → α) (k : Nat) : ((List.range (k + 1)).filter p).map f = ((List.range k).filter p).map f ++ (if p k then [f k] else []) := by
  rw [List.range_succ, List.filter_append, List.map_append]
  congr 1
  cases h : p k <;> simp [h]
theorem RowsAt.mono {H H' H'' : HA} {R : Addr} {a : Nat → Addr} {M : Mat} (x : RowsAt H H' R a M) (e : Ext H' H'') : RowsAt H H'' R a M :=
  ⟨x.ext.trans e, x.hR, e _ _ x.at_, fun i hi => e _ _ (x.row i hi), x.frs, x.ne, x.inj⟩
theorem zero_eq : Str.ofString "0x0" = zeroT := by decide +kernel
theorem own_mid (b : Nat) (hb : b < 8) : (sliceRange (sliceBounds (some (b : Int)) (some ((b : Int) + 5)) none (nameL.map V.mid).length).1 (sliceBounds (some (b : Int)) (some ((b : Int) + 5)) none (nameL.map V.mid).length).2.1 (sliceBounds (some (b : Int)) (some ((b : Int) + 5)) none (nameL.map V.mid).length).2.2).filterMap ((nameL.map V.mid)[·]?) = (ownL b).map V.mid := by
  rw [← own_slice b hb, List.map_filterMap, List.length_map]
  congr 1
  funext i
  exact List.getElem?_map
structure ApI (H1 H' : HA) (R : Addr) (a : Nat → Addr) (M : Mat) (T : Nat → List Int) (w : Nat → Int) (x : Int) (i : Nat) (wa ta ga O : Addr) (wh : Int) (ρ' : Vars) : Prop where
  x1 : RowsAt H1 H' R a M
  hM : ∀ i' j', j' ≤ i' → i' < i → M i' j' = apV T w x i' j' ∧ M j' i' = apV T w x i' j'
  q1 : ρ' "whole" = some (.int wh)
  q2 : ρ' "table" = some (.ref R)
  q3 : ρ' "own" = some (.ref O)
  q4 : ρ' "ways" = some (.ref wa)
  q5 : ρ' "trails" = some (.ref ta)
  q6 : ρ' "weights" = some (.ref ga)
  q7 : ρ' "least" = some (.int x)
structure ApJ (H1 H' : HA) (R : Addr) (a : Nat → Addr) (M : Mat) (T : Nat → List Int) (w : Nat → Int) (x : Int) (i j : Nat) (wa ta ga O : Addr) (wh : Int) (ρ' : Vars) : Prop where
  x1 : RowsAt H1 H' R a M
  hM : ∀ i' j', j' ≤ i' → (i' < i ∨ (i' = i ∧ j' < j)) → M i' j' = apV T w x i' j' ∧ M j' i' = apV T w x i' j'
  q1 : ρ' "whole" = some (.int wh)
  q2 : ρ' "table" = some (.ref R)
  q3 : ρ' "own" = some (.ref O)
  q4 : ρ' "ways" = some (.ref wa)
  q5 : ρ' "trails" = some (.ref ta)
  q6 : ρ' "weights" = some (.ref ga)
  q7 : ρ' "least" = some (.int x)
  q8 : ρ' "i" = some (.int i)
structure ApT (H9 H' : HA) (far : Int) (R : Addr) (x : Int) (i j : Nat) (wa ta ga O D S : Addr) (wh : Int) (ρ' : Vars) : Prop where
  e : Ext H9 H'
  q0 : ρ' "far" = some (.int far)
  q1 : ρ' "whole" = some (.int wh)
  q2 : ρ' "table" = some (.ref R)
  q3 : ρ' "own" = some (.ref O)
  q4 : ρ' "ways" = some (.ref wa)
  q5 : ρ' "trails" = some (.ref ta)
  q6 : ρ' "weights" = some (.ref ga)
  q7 : ρ' "least" = some (.int x)
  q8 : ρ' "i" = some (.int i)
  q9 : ρ' "j" = some (.int j)
  q10 : ρ' "between" = some (.ref D)
  q11 : ρ' "words" = some (.ref S)
theorem c_apart (p0 : HasP) {G : Glb} {F : Fm} {sc : Scope} {d : Nat} {H : HA} {Q : V → HA → Prop} (K : Kn G) (ok : FOk G F sc (d + 4)) (hclk : 2513 ≤ p0.clk) {wa ta ga : Addr} {tr : Nat → Addr} {W w : Nat → Int} {T : Nat → List Int} {base : Nat} {x : Int}
    (hh : ApH H wa ta ga tr W w T) (hb : base < 8) (ho : ApOk W T base)
    (h : ∀ (H' : HA) (tb : Addr) (rr : Nat → Addr), Ext (cut H) H' → H' tb = some (.list ((List.range 6).map fun i => .ref (rr i))) → (∀ i, i < 6 → H' (rr i) = some (.list (rowV (apV T w x) i))) → Q (.ref tb) H') :
    @Cal p0 G F (.ref 262) [.ref wa, .ref ta, .ref ga, .int base, .int x] H Q := by
  refine @Def.cal p0 _ _ _ _ _ _ K.d_apart K.g _ _ ok _ _ _ rfl fun F ok own => ?_
  refine Exs_names p0 (sts := (FB 27).drop 1) (xs := nameL) ok hclk ?_ (by decide) (by decide +kernel) ?_ ?_
  · rw [nameL_eq]
    exact EvsC_cons <| EvsC_cons <| EvsC_cons <| EvsC_cons <| EvsC_cons <| EvsC_cons <| EvsC_cons <| EvsC_cons <| EvsC_cons <| EvsC_cons <| EvsC_cons <| EvsC_cons EvsC_nil
  · intro y v hv
    simp only [argV, Vars.set, noV] at hv
    repeat' split at hv
    all_goals first | (cases hv; rfl) | (simp at hv)
  intro p1 hsep L hL
  letI := p1
  have hq : ∀ v H', noS v = true → Q v (cut H') → (fun (fl : Fl) (_ : Vars) (H' : HA) => (match fl with | .ret v => noS v = true | _ => True) ∧ Q (match fl with | .ret v => v | _ => .none) (cut H')) (.ret v) (noV) H' := fun v H' h1 h2 => ⟨h1, h2⟩
  have hc := hh.cut
  have hslice := own_slice base hb
  refine Exs_cons <| Ex_Assign <| Ev_Subscript PySem.F.slot_list_getitem.lookup <| Ev_Name <| Ld_ ok vz <| Ev_Slice (l := some _) (u := some _) (st := none) <| Ev_Name <| Ld_ ok (vs rfl) <| Ev_BinOp <| Ev_Name <| Ld_ ok (vs rfl) <| Ev_int <| Bin_add fun s1 hs1 => ⟨TyV.list (HA.set_old hs1 (HA.set_self _ _ _)),
    GetI_listSlice (lo := some (base : Int)) (hi := some ((base : Int) + 5)) (HA.set_old hs1 (HA.set_self _ _ _)) (HA.set_self _ _ _) (.at _) (.at _) (by rw [List.length_map]; decide) fun O hO => St_ ok own ?_⟩
  rw [own_mid base hb]
  generalize hH1 : (((cut H).set L (.list (nameL.map V.mid))).set s1 (.slice (.int base) (.int ((base : Int) + 5)) .none)).set O (.list ((ownL base).map V.mid)) = H1
  have e1 : Ext (cut H) H1 := by rw [← hH1]; exact ((Ext.rfl.new hL).new hs1).new hO
  have hown : H1 O = some (.list ((ownL base).map V.mid)) := by rw [← hH1]; exact HA.set_self _ _ _
  have h1 := hc.ext e1
  clear hH1 hO hs1 hL
  refine Exs_cons <| Ex_Comp ok K.g <| Ev_Call ok K.g (K.bt (n := "range") rfl rfl) trivial <| Evs_cons <| Ev_int <| Evs_nil <| Cal_range1 fun r hr => ?_
  have hit := Iter.rng (G := G) (A := F.A) ok.hd (H := H1.set r (.range 0 6 1)) (HA.set_self _ _ _) (by decide) (by decide) (by decide) (by decide)
  refine ⟨_, _, _, fun i ys H' => ∃ a : Nat → Addr, ys = (List.range i).map (fun j => .ref (a j)) ∧ Ext H1 H' ∧ (∀ j, j < i → H1 (a j) = none ∧ H' (a j) = some (.list (rowV (fun _ _ => x) j))) ∧ ∀ j j', j < i → j' < i → j ≠ j' → a j ≠ a j', hit, by decide, ⟨fun _ => 0, rfl, Ext.rfl.new hr, fun j hj => absurd hj (Nat.not_lt_zero _), fun j j' hj => absurd hj (Nat.not_lt_zero _)⟩, fun _ _ _ _ => trivial, ?_, ?_⟩
  · rintro Fc okc i hi ys H2 ⟨a, rfl, hE, hr2, hinj⟩
    refine Ev_BinOp <| Ev_List <| Evs_cons <| Ev_Name <| Ld_ okc (vs rfl) <| Evs_nil ⟨show 1 ≤ sizeLine by decide, fun q0 hq0 => Ev_int <| Bin_mulL okc (HA.set_self _ _ _) (by decide) (by decide) fun q hq => ?_⟩
    have hqq : H2 q = none := by
      by_cases e : q = q0
      · rw [e]; exact hq0
      · rw [HA.set_ne e] at hq; exact hq
    refine ⟨fam a i q, ?_, (hE.new hq0).new hq, fun j hj => ?_, fun j j' hj hj' hne => ?_⟩
    · rw [List.range_succ, List.map_append]
      congr 1
      · refine List.map_congr_left fun j hj => ?_
        have := List.mem_range.mp hj
        rw [fam_ne (by exact Nat.ne_of_lt this)]
      · rw [List.map_singleton, fam_self]
    · by_cases hji : j = i
      · subst hji
        rw [fam_self]
        exact ⟨hE.none hqq, by rw [HA.set_self, ← replV x j]; rfl⟩
      · rw [fam_ne hji]
        obtain ⟨g1, g2⟩ := hr2 j (by exact o_ne hj hji)
        exact ⟨g1, HA.set_old hq (HA.set_old hq0 g2)⟩
    · by_cases hji : j = i
      · subst hji
        rw [fam_self, fam_ne (Ne.symm hne)]
        rintro rfl
        rw [(hr2 j' (by (clear hclk hb hi hj; omega))).2] at hqq; cases hqq
      · rw [fam_ne hji]
        by_cases hji' : j' = i
        · subst hji'
          rw [fam_self]
          rintro rfl
          rw [(hr2 j (by exact o_ne hj hne)).2] at hqq; cases hqq
        · rw [fam_ne hji']
          exact hinj j j' (by exact o_ne hj hji) (by exact o_ne hj' hji') hne
  · rintro ys H2 ⟨a, rfl, hE, hr2, hinj⟩ R hR
    have hRA : RowsAt H1 (H2.set R (.list ((List.range 6).map fun j => V.ref (a j)))) R a (fun _ _ => x) := by
      refine ⟨hE.new hR, hE.none hR, HA.set_self _ _ _, fun i hi => HA.set_old hR (hr2 i hi).2, fun i hi => (hr2 i hi).1, fun i hi => ?_, fun i j hi hj hne => hinj i j hi hj hne⟩
      rintro rfl
      rw [(hr2 i hi).2] at hR; cases hR
    refine St_ ok own ?_
    refine Exs_cons <| Ex_Assign <| Ev_int <| St_ ok own ?_
    refine Exs_cons <| Ex_For <| Ev_Call ok K.g (K.bt (n := "range") rfl rfl) trivial <| Evs_cons <| Ev_int <| Evs_nil <| Cal_range1 fun r1 hr1 => ?_
    have hit1 := Iter.rng (G := G) (A := F.A) ok.hd (H := (H2.set R (.list ((List.range 6).map fun j => V.ref (a j)))).set r1 (.range 0 6 1)) (HA.set_self _ _ _) (by decide) (by decide) (by decide) (by decide)
    refine ⟨_, _, _, fun i ρ' H' => ∃ M, ApI H1 H' R a M T w x i wa ta ga O (whO W i) ρ', hit1, ?_, fun _ _ _ _ => trivial, ?_, ?_⟩
    · exact ⟨_, hRA.new hr1, fun i' j' _ h => absurd h (Nat.not_lt_zero _), vz, vs vz, vs (vs vz), rfl, rfl, rfl, rfl⟩
    · intro i hi ρ1 H3 hI
      refine As_gen fun Qa hQa => ?_
      obtain ⟨M, x1, hM, q1, q2, q3, q4, q5, q6, q7⟩ := hI
      have hi : i < 6 := hi
      have e0i : (0 : Int) + (i : Int) * 1 = (i : Int) := by exact o_z1
      have e0i' : (0 : Int) + (i : Int) = (i : Int) := by exact o_z0
      first | rw [e0i] | rw [e0i']
      refine As_Name (St_ ok own ?_)
      have h3 := h1.ext x1.ext
      refine Exs_cons <| Ex_Assign <| Ev_Call ok K.g (K.gv (n := "or_") rfl) K.d_or.callee <| Evs_cons <| Ev_Name <| Ld_ ok (vs q1) <| Evs_cons <| Ev_Call ok K.g (K.gv (n := "getitem") rfl) K.d_getitem.callee <| Evs_cons <| Ev_Name <| Ld_ ok (vs q4) <| Evs_cons <| Ev_Name <| Ld_ ok vz <| Evs_nil <|
        c_getitem K ok h3.ways (by exact Int.natCast_nonneg _) (by exact o_63 hi) (by rw [Int.toNat_natCast]; exact rng_get _ hi) <| Evs_nil <| c_or K ok <| St_ ok own ?_
      rw [show Builtin.bitOr (whO W i) (W i) = whO W (i + 1) from rfl]
      refine Exs_cons <| Ex_For <| Ev_Call ok K.g (K.bt (n := "range") rfl rfl) trivial <| Evs_cons <| Ev_BinOp <| Ev_Name <| Ld_ ok (vs vz) <| Ev_int <| Bin_add <| Evs_nil <| Cal_range1 fun r2 hr2 => ?_
      have hit2 := Iter.rng (G := G) (A := F.A) ok.hd (H := H3.set r2 (.range 0 ((i : Int) + 1) 1)) (HA.set_self _ _ _) (by (clear hclk hb hi e0i e0i'; omega)) (by (clear hclk hb hi e0i e0i'; omega)) (by exact o_d) (by exact Int.le_trans (Int.ofNat_le.mpr hi) (by decide))
      have hwl : (((i : Int) + 1) - 0).toNat = i + 1 := by exact o_r1
      rw [hwl] at hit2
      refine ⟨_, _, _, fun j ρ' H' => ∃ M, ApJ H1 H' R a M T w x i j wa ta ga O (whO W (i + 1)) ρ', hit2, ?_, fun _ _ _ _ => trivial, ?_, ?_⟩
      · exact ⟨M, x1.new hr2, fun i' j' h1 h2 => hM i' j' h1 (by (clear hclk hb hi e0i e0i' h1; omega)), vz, vs (vs q2), vs (vs q3), vs (vs q4), vs (vs q5), vs (vs q6), vs (vs q7), vs vz⟩
      · intro j hj ρ2 H4 hI
        refine As_gen fun Qb hQb => ?_
        obtain ⟨M, x2, hM, q1, q2, q3, q4, q5, q6, q7, q8⟩ := hI
        have hj' : j ≤ i := by exact Nat.le_of_lt_succ hj
        have hj6 : j < 6 := by (clear hclk hb e0i e0i' hj'; omega)
        first | rw [show (0 : Int) + (j : Int) * 1 = (j : Int) by omega] | rw [show (0 : Int) + (j : Int) = (j : Int) by exact o_z0]
        refine As_Name (St_ ok own ?_)
        have h4 := h1.ext x2.ext
        refine Exs_cons <| Ex_Comp ok K.g <| Ev_Call ok K.g (K.bt (n := "range") rfl rfl) trivial <| Evs_cons <| Ev_int <| Evs_nil <| Cal_range1 fun r3 hr3 => ?_
        have hit3 := Iter.rng (G := G) (A := F.A) ok.hd (H := H4.set r3 (.range 0 5 1)) (HA.set_self _ _ _) (by decide) (by decide) (by decide) (by decide)
        refine ⟨_, _, _, fun k ys H' => H' = H4.set r3 (.range 0 5 1) ∧ ys = (((List.range k).filter fun k : Nat => (T i).contains ((k : Int) + 1) != (T j).contains ((k : Int) + 1)).map fun k : Nat => V.int k), hit3, by decide, ⟨rfl, rfl⟩, fun _ _ _ _ => trivial, ?_, ?_⟩
        · rintro Fc okc k hk ys H5 ⟨rfl, rfl⟩
          have h5 := h1.ext (x2.new (o := .range 0 5 1) hr3).ext
          first | rw [show (0 : Int) + (k : Int) * 1 = (k : Int) by omega] | rw [show (0 : Int) + (k : Int) = (k : Int) by exact o_z0]
          refine Tr_Compare <| Ev_Compare <| Ev_BinOp <| Ev_Name <| Ld_ okc vz <| Ev_int <| Bin_add <| Ev_Subscript PySem.F.slot_list_getitem.lookup <| Ev_Name <| Ld_ okc (vs (show hideL _ _ "trails" = some (.ref ta) from vs q5)) <| Ev_Name <| Ld_ okc (vs (show hideL _ _ "i" = some (.int i) from vs q8)) ⟨TyV.list h5.trails, GetI_list h5.trails (by exact Int.natCast_nonneg _) (by exact o_63 hi) (by rw [Int.toNat_natCast]; exact rng_get _ hi) <| Cmp_inInts (h5.trail i hi) <|
            Ev_Compare <| Ev_BinOp <| Ev_Name <| Ld_ okc vz <| Ev_int <| Bin_add <| Ev_Subscript PySem.F.slot_list_getitem.lookup <| Ev_Name <| Ld_ okc (vs (show hideL _ _ "trails" = some (.ref ta) from vs q5)) <| Ev_Name <| Ld_ okc (vs (show hideL _ _ "j" = some (.int j) from vz)) ⟨TyV.list h5.trails, GetI_list h5.trails (by exact Int.natCast_nonneg _) (by exact o_63 hj6) (by rw [Int.toNat_natCast]; exact rng_get _ hj6) <| Cmp_inInts (h5.trail j hj6) <| Cmp_neBool <| Tru_bool ?_⟩⟩
          cases hz : ((T i).contains ((k : Int) + 1) != (T j).contains ((k : Int) + 1)) with
          | true =>
            refine Ev_Name <| Ld_ okc vz ⟨rfl, ?_⟩
            rw [filt_snoc, hz]; rfl
          | false =>
            refine ⟨rfl, ?_⟩
            rw [filt_snoc, hz]; exact (List.append_nil _).symm
        · rintro ys H5 ⟨rfl, rfl⟩ D hD
          have hbt : ((List.range 5).filter fun k : Nat => (T i).contains ((k : Int) + 1) != (T j).contains ((k : Int) + 1)) = btw T i j := rfl
          have x3 := (x2.new (o := .range 0 5 1) hr3).new (o := .list ((btw T i j).map fun k : Nat => V.int k)) hD
          refine St_ ok own ?_
          have hDD : ((H4.set r3 (.range 0 5 1)).set D (.list ((btw T i j).map fun k : Nat => V.int k))) D = some (.list ((btw T i j).map fun k : Nat => V.int k)) := HA.set_self _ _ _
          change Exs G F _ _ ((H4.set r3 (.range 0 5 1)).set D (.list ((btw T i j).map fun k : Nat => V.int k))) _
          generalize ((H4.set r3 (.range 0 5 1)).set D (.list ((btw T i j).map fun k : Nat => V.int k))) = H6 at x3 hDD
          have h6 := h1.ext x3.ext
          obtain ⟨w1, w2, w3⟩ := ho.words i j hj' hi
          refine Exs_cons <| Ex_Assign <| Ev_Method PySem.F.plainAttrs_str PySem.F.slot_str_split PySem.F.type_str_split <| Ev_Call ok K.g (K.gv (n := "pretty_flags") rfl) K.d_flags.callee <| Evs_cons <| Ev_Call ok K.g (K.gv (n := "xor") rfl) K.d_xor.callee <| Evs_cons <|
            Ev_Call ok K.g (K.gv (n := "getitem") rfl) K.d_getitem.callee <| Evs_cons <| Ev_Name <| Ld_ ok (vs (vs q4)) <| Evs_cons <| Ev_Name <| Ld_ ok (vs (vs q8)) <| Evs_nil <| c_getitem K ok h6.ways (by exact Int.natCast_nonneg _) (by exact o_63 hi) (by rw [Int.toNat_natCast]; exact rng_get _ hi) <| Evs_cons <|
            Ev_Call ok K.g (K.gv (n := "getitem") rfl) K.d_getitem.callee <| Evs_cons <| Ev_Name <| Ld_ ok (vs (vs q4)) <| Evs_cons <| Ev_Name <| Ld_ ok (vs vz) <| Evs_nil <| c_getitem K ok h6.ways (by exact Int.natCast_nonneg _) (by exact o_63 hj6) (by rw [Int.toNat_natCast]; exact rng_get _ hj6) <| Evs_nil <|
            c_xor K ok <| Evs_nil <| c_flags K ok w1 fun H7 hE7 => ⟨TyV.str _ _ _, Evs_cons <| Ev_str <| Evs_nil <| Cal_split (by decide +kernel) (by rw [sep_eq]; exact w2) fun S hS => St_ ok own ?_⟩
          rw [sep_eq, w3]
          have hS1 := HA.set_self H7 S (Mine.O.list (((if i = j then [zeroT] else (btw T i j).map fun t => nmT (base + t)) : List Str).map V.str))
          have hE8 : Ext H6 (H7.set S (.list (((if i = j then [zeroT] else (btw T i j).map fun t => nmT (base + t)) : List Str).map V.str))) := hE7.new hS
          generalize (H7.set S (.list (((if i = j then [zeroT] else (btw T i j).map fun t => nmT (base + t)) : List Str).map V.str))) = H8 at hS1 hE8
          have x4 := x3.mono hE8
          have hD8 := hE8 _ _ hDD
          have h8 := h1.ext x4.ext
          have hown8 := x4.ext _ _ hown
          have g1 : (((ρ2.set "j" (V.int j)).set "between" (.ref D)).set "words" (.ref S)) "whole" = some (.int (whO W (i + 1))) := vs (vs (vs q1))
          have g2 : (((ρ2.set "j" (V.int j)).set "between" (.ref D)).set "words" (.ref S)) "table" = some (.ref R) := vs (vs (vs q2))
          have g3 : (((ρ2.set "j" (V.int j)).set "between" (.ref D)).set "words" (.ref S)) "own" = some (.ref O) := vs (vs (vs q3))
          have g4 : (((ρ2.set "j" (V.int j)).set "between" (.ref D)).set "words" (.ref S)) "ways" = some (.ref wa) := vs (vs (vs q4))
          have g5 : (((ρ2.set "j" (V.int j)).set "between" (.ref D)).set "words" (.ref S)) "trails" = some (.ref ta) := vs (vs (vs q5))
          have g6 : (((ρ2.set "j" (V.int j)).set "between" (.ref D)).set "words" (.ref S)) "weights" = some (.ref ga) := vs (vs (vs q6))
          have g7 : (((ρ2.set "j" (V.int j)).set "between" (.ref D)).set "words" (.ref S)) "least" = some (.int x) := vs (vs (vs q7))
          have g8 : (((ρ2.set "j" (V.int j)).set "between" (.ref D)).set "words" (.ref S)) "i" = some (.int i) := vs (vs (vs q8))
          have g9 : (((ρ2.set "j" (V.int j)).set "between" (.ref D)).set "words" (.ref S)) "j" = some (.int j) := vs (vs vz)
          have g10 : (((ρ2.set "j" (V.int j)).set "between" (.ref D)).set "words" (.ref S)) "between" = some (.ref D) := vs vz
          have g11 : (((ρ2.set "j" (V.int j)).set "between" (.ref D)).set "words" (.ref S)) "words" = some (.ref S) := vz
          generalize (((ρ2.set "j" (V.int j)).set "between" (.ref D)).set "words" (.ref S)) = ρ3 at g1 g2 g3 g4 g5 g6 g7 g8 g9 g10 g11
          have blen : (btw T i j).length ≤ 5 := by
            have := List.length_filter_le (fun k : Nat => (T i).contains ((k : Int) + 1) != (T j).contains ((k : Int) + 1)) (List.range 5)
            rw [List.length_range] at this
            exact this
          have tail : ∀ (H9 : HA) (Q3 : Fl → Vars → HA → Prop), Ext H8 H9 → (∀ ρ' H', (∃ M, ApJ H1 H' R a M T w x i (j + 1) wa ta ga O (whO W (i + 1)) ρ') → Q3 .next ρ' H') →
              Exs G F (apB2.drop 3) ρ3 H9 Q3 := by
            intro H9 Q3 hE9 hQ3
            have x9 := x4.mono hE9
            have hD9 := hE9 _ _ hD8
            have hS9 := hE9 _ _ hS1
            have h9 := h1.ext x9.ext
            refine Exs_cons <| Ex_Assign <| Ev_Name <| Ld_ ok g7 <| St_ ok own ?_
            refine Exs_cons <| Ex_For <| Ev_Call ok K.g (K.bt (n := "range") rfl rfl) trivial <| Evs_cons <| Ev_Call ok K.g (K.bt (n := "len") rfl rfl) trivial <| Evs_cons <| Ev_Name <| Ld_ ok (vs g10) <| Evs_nil <| Cal_len hD9 (by rw [List.length_map]; exact Int.lt_of_le_of_lt (Int.ofNat_le.mpr blen) (by decide)) <| Evs_nil <| Cal_range1 fun r4 hr4 => ?_
            rw [List.length_map]
            have hit4 := Iter.rng (G := G) (A := F.A) ok.hd (H := H9.set r4 (.range 0 (btw T i j).length 1)) (HA.set_self _ _ _) (by decide) (by decide) (by exact o_n) (by exact Int.le_trans (Int.ofNat_le.mpr blen) (by decide))
            have hwl4 : (((btw T i j).length : Int) - 0).toNat = (btw T i j).length := by exact o_r0
            rw [hwl4] at hit4
            have hEr : Ext H9 (H9.set r4 (.range 0 (btw T i j).length 1)) := Ext.rfl.new hr4
            refine ⟨_, _, _, fun t ρ' H' => ApT H9 H' (x + (((btw T i j).take t).map w).sum) R x i j wa ta ga O D S (whO W (i + 1)) ρ', hit4, ?_, fun _ _ _ _ => trivial, ?_, ?_⟩
            · refine ⟨hEr, ?_, vs g1, vs g2, vs g3, vs g4, vs g5, vs g6, vs g7, vs g8, vs g9, vs g10, vs g11⟩
              rw [vz]; simp
            · intro t ht ρ4 H10 hI
              refine As_gen fun Qc hQc => ?_
              obtain ⟨hE10, f0, f1, f2, f3, f4, f5, f6, f7, f8, f9, f10, f11⟩ := hI
              first | rw [show (0 : Int) + (t : Int) * 1 = (t : Int) by omega] | rw [show (0 : Int) + (t : Int) = (t : Int) by exact o_z0]
              refine As_Name (St_ ok own ?_)
              have hij : i ≠ j := by
                rintro rfl
                rw [btw_self] at ht
                exact absurd ht (Nat.not_lt_zero _)
              rw [if_neg hij] at hS9
              have hS10 := hE10 _ _ hS9
              have hO10 := (x9.ext.trans hE10) _ _ hown
              have hbg := List.getElem?_eq_getElem ht
              have hb5 := btw_lt (List.getElem_mem ht)
              generalize (btw T i j)[t] = b at hbg hb5
              refine Exs_cons <| Ex_Assign <| Ev_Call ok K.g (K.gv (n := "add") rfl) K.d_add.callee <| Evs_cons <| Ev_Name <| Ld_ ok (vs f0) <| Evs_cons <| Ev_Call ok K.g (K.gv (n := "getitem") rfl) K.d_getitem.callee <| Evs_cons <| Ev_Name <| Ld_ ok (vs f6) <| Evs_cons <| Ev_Call ok K.g (K.gv (n := "indexOf") rfl) K.d_indexOf.callee <| Evs_cons <|
                Ev_BinOp <| Ev_Name <| Ld_ ok (vs f3) <| Ev_Name <| Ld_ ok (vs f3) <| Bin_addL ok hO10 hO10 (by simp [ownL]; decide) fun P hP => Evs_cons <| Ev_Subscript PySem.F.slot_list_getitem.lookup <| Ev_Name <| Ld_ ok (vs f11) <| Ev_Name <| Ld_ ok vz ⟨TyV.list (HA.set_old hP hS10), GetI_list (HA.set_old hP hS10) (by exact Int.natCast_nonneg _) (by (clear hclk hb hi e0i e0i' hwl hj hj' hj6 w2 hij hb5; omega)) (v := .str (nmT (base + b))) (by rw [Int.toNat_natCast, List.getElem?_map, List.getElem?_map, hbg]; rfl) <| Evs_nil ?_⟩
              rw [← List.map_append]
              refine c_indexOf K ok hsep (HA.set_self _ _ _) (own2_get base b hb5) (own2_first base b hb hb5) fun H11 hE11 => Evs_nil ?_
              have hE12 : Ext H9 H11 := (hE10.new hP).trans hE11
              refine c_getitem K ok (h9.ext hE12).weights (by exact Int.natCast_nonneg _) (by exact o_64 hb5) (by rw [Int.toNat_natCast]; exact rng_get _ hb5) <| Evs_nil <| c_add K ok <| St_ ok own <| Exs_nil <| hQc _ _ _ ⟨hE12, ?_, vs (vs f1), vs (vs f2), vs (vs f3), vs (vs f4), vs (vs f5), vs (vs f6), vs (vs f7), vs (vs f8), vs (vs f9), vs (vs f10), vs (vs f11)⟩
              rw [vz, take_get _ _ _ _ hbg, List.sum_append]
              simp [Int.add_assoc]
            · rintro ρ4 H10 ⟨hE10, f0, f1, f2, f3, f4, f5, f6, f7, f8, f9, f10, f11⟩
              rw [List.take_length] at f0
              have f0 : ρ4 "far" = some (.int (apV T w x i j)) := f0
              have x10 := x9.mono hE10
              have hD10 := hE10 _ _ hD9
              have h10 := h9.ext hE10
              refine Exs_nil <| Exs_cons <| Ex_If <| Tr_Compare <| Ev_Name <| Ld_ ok f0 <| Ev_BinOp <| Ev_Name <| Ld_ ok f7 <| Ev_Call ok K.g (K.bt (n := "sum") rfl rfl) trivial <| Evs_cons <| Ev_ListComp ok K.g <| Ev_Name <| Ld_ ok f10 ⟨_, _, _, fun t ys H' => H' = H10 ∧ ys = ((btw T i j).take t).map fun t => V.int (w t), Iter.list ok.hd hD10, ?_, ⟨rfl, rfl⟩, ?_, ?_, ?_⟩
              · rw [List.length_map]; exact Nat.le_trans blen (by decide)
              · rintro t ys H' ⟨rfl, _⟩; exact hD10
              · rintro Fc okc t ht ys H11 ⟨rfl, rfl⟩
                rw [List.length_map] at ht
                have hbg := List.getElem?_eq_getElem ht
                have hb5 := btw_lt (List.getElem_mem ht)
                rw [List.getElem?_map, hbg]
                exact Ev_Subscript PySem.F.slot_list_getitem.lookup <| Ev_Name <| Ld_ okc (vs (show hideL _ _ "weights" = some (.ref ga) from f6)) <| Ev_Name <| Ld_ okc vz ⟨TyV.list h10.weights, GetI_list h10.weights (by exact Int.natCast_nonneg _) (by exact o_64 hb5) (by rw [Int.toNat_natCast]; exact rng_get _ hb5) ⟨rfl, (take_get _ _ _ _ hbg).symm⟩⟩
              · rintro ys H11 ⟨rfl, rfl⟩ U hU
                rw [List.length_map, List.take_length]
                refine Evs_nil <| Cal_sum ok (ns := (btw T i j).map w) (by rw [HA.set_self, List.map_map]; rfl) <| Bin_add <| Cmp_int (op := .NotEq) (r := false) (by rw [Option.some.injEq]; unfold apV; simp) <| Tru_bool ?_
                have xU := x10.new (o := .list ((btw T i j).map fun t => V.int (w t))) hU
                refine Exs_nil <| Exs_cons <| Ex_AssignAll <| Ev_Name <| Ld_ ok f0 <| As_Subscript <| Ev_Subscript PySem.F.slot_list_getitem.lookup <| Ev_Name <| Ld_ ok f2 <| Ev_Name <| Ld_ ok f8 ⟨TyV.list xU.at_, GetR xU rfl hi <| Ev_Name <| Ld_ ok f9 <| SetI_list (xU.row _ hi) (by exact Int.natCast_nonneg _) (by exact o_63 hj6) (by rw [rowV_len]; exact Int.ofNat_lt.mpr hj6) ?_⟩
                rw [Int.toNat_natCast]
                have xV := xU.put hi hj6 (apV T w x i j)
                refine Exs_cons <| Ex_AssignAll <| Ev_Name <| Ld_ ok f0 <| As_Subscript <| Ev_Subscript PySem.F.slot_list_getitem.lookup <| Ev_Name <| Ld_ ok f2 <| Ev_Name <| Ld_ ok f9 ⟨TyV.list xV.at_, GetR xV rfl hj6 <| Ev_Name <| Ld_ ok f8 <| SetI_list (xV.row _ hj6) (by exact Int.natCast_nonneg _) (by exact o_63 hi) (by rw [rowV_len]; exact Int.ofNat_lt.mpr hi) ?_⟩
                rw [Int.toNat_natCast]
                have xW := xV.put hj6 hi (apV T w x i j)
                refine Exs_nil <| hQ3 _ _ ⟨_, xW, fun i' j' k1 k2 => ?_, f1, f2, f3, f4, f5, f6, f7, f8⟩
                have hsym : apV T w x j i = apV T w x i j := by unfold apV; rw [btw_comm]
                unfold Mat.put
                rcases k2 with k2 | ⟨rfl, k2⟩
                · rw [if_neg (by (clear hclk hb hi e0i e0i' hj hj' hj6 w2 blen hwl4 hsym; omega)), if_neg (by (clear hclk hb hi e0i e0i' hj hj' hj6 w2 blen hwl4 k1 hsym; omega)), if_neg (by (clear hclk hb hi e0i e0i' hj hj' hj6 w2 blen hwl4 k1 hsym; omega)), if_neg (by (clear hclk hb hi e0i e0i' hj hj' hj6 w2 blen hwl4 hsym; omega))]
                  exact hM i' j' k1 (.inl k2)
                · by_cases e : j' = j
                  · subst e
                    refine ⟨?_, ?_⟩ <;> (repeat' split) <;> first | rfl | omega
                  · rw [if_neg (by (clear hclk hb hj6 k1 k2 hi e0i e0i' hj hj' w2 blen hwl4 hsym; omega)), if_neg (by (clear hclk hb hj6 k1 k2 hi e0i e0i' hwl hj hj' w2 blen hwl4 hsym; omega)), if_neg (by (clear hclk hb hj6 k1 k2 hi e0i e0i' hwl hj hj' w2 blen hwl4 hsym; omega)), if_neg (by (clear hclk hb hj6 k1 hi e0i e0i' hj' w2 blen hwl4 hsym; omega))]
                    exact hM i' j' k1 (.inr ⟨rfl, by (clear hclk hb hj6 k1 hi e0i e0i' hwl hj hj' w2 blen hwl4 hsym; omega)⟩)
          refine Exs_cons <| Ex_If <| Tr_Compare <| Ev_Name <| Ld_ ok g11 <| Ev_IfExp <| Tr_Compare <| Ev_Name <| Ld_ ok g8 <| Ev_Name <| Ld_ ok g9 <| Cmp_int (op := .NotEq) (r := decide (i ≠ j)) (by rw [Option.some.injEq, Bool.eq_iff_iff, bne_iff_ne, decide_eq_true_iff]; exact o_iff) <| Tru_bool ?_
          by_cases hij : i = j
          · rw [decide_eq_false (by (clear hclk hb hi e0i e0i' hj hj' hj6 w2 blen; omega))]
            rw [if_pos hij] at hS1
            refine Ev_List <| Evs_cons <| Ev_str <| Evs_nil ⟨show 1 ≤ sizeLine by decide, fun U hU => Cmp_neTxt ok (by exact Nat.le_add_left _ _) (HA.set_old hU hS1) (HA.set_self _ _ _) (txt_str _) (ys := [Str.ofString "0x0"]) rfl <| Tru_bool ?_⟩
            rw [zero_eq, decide_eq_true rfl]
            exact Exs_nil <| tail _ _ (Ext.rfl.new hU) fun ρ' H' h => hQb _ _ _ h
          · rw [decide_eq_true hij]
            rw [if_neg hij] at hS1
            refine Ev_ListComp ok K.g <| Ev_Name <| Ld_ ok g10 ⟨_, _, _, fun t ys H' => H' = H8 ∧ ys = ((btw T i j).take t).map fun t => V.mid (nmT (base + t)), Iter.list ok.hd hD8, ?_, ⟨rfl, rfl⟩, ?_, ?_, ?_⟩
            · rw [List.length_map]; exact Nat.le_trans blen (by decide)
            · rintro t ys H' ⟨rfl, _⟩; exact hD8
            · rintro Fc okc t ht ys H9 ⟨rfl, rfl⟩
              rw [List.length_map] at ht
              have hbg := List.getElem?_eq_getElem ht
              have hb5 := btw_lt (List.getElem_mem ht)
              rw [List.getElem?_map, hbg]
              refine Ev_Subscript PySem.F.slot_list_getitem.lookup <| Ev_Name <| Ld_ okc (vs (show hideL _ _ "own" = some (.ref O) from g3)) <| Ev_Name <| Ld_ okc vz ⟨TyV.list hown8, GetI_list hown8 (by exact Int.natCast_nonneg _) (by exact o_64 hb5) (by rw [Int.toNat_natCast, List.getElem?_map, own_get base _ hb5]; rfl) ⟨rfl, (take_get _ _ _ _ hbg).symm⟩⟩
            · rintro ys H9 ⟨rfl, rfl⟩ U hU
              rw [List.length_map, List.take_length]
              refine Cmp_neTxt ok (by exact Nat.le_add_left _ _) (HA.set_old hU hS1) (HA.set_self _ _ _) (txt_str _) (ys := (btw T i j).map fun t => nmT (base + t)) (by rw [List.map_map, List.map_map]; rfl) <| Tru_bool ?_
              rw [decide_eq_true rfl]
              exact Exs_nil <| tail _ _ (Ext.rfl.new hU) fun ρ' H' h => hQb _ _ _ h
      · rintro ρ2 H4 ⟨M, x2, hM, q1, q2, q3, q4, q5, q6, q7, q8⟩
        exact Exs_nil <| Exs_nil <| hQa _ _ _ ⟨M, x2, fun i' j' h1 h2 => hM i' j' h1 (by (clear hclk hb hi e0i e0i'; omega)), q1, q2, q3, q4, q5, q6, q7⟩
    · rintro ρ1 H3 ⟨M, x1, hM, q1, q2, q3, q4, q5, q6, q7⟩
      have hown3 := x1.ext _ _ hown
      refine Exs_nil <| Exs_cons <| Ex_Return <| Ev_IfExp <| Tr_Compare <| Ev_Call ok K.g (K.gv (n := "pretty_flags") rfl) K.d_flags.callee <| Evs_cons <| Ev_Name <| Ld_ ok q1 <| Evs_nil <| c_flags K ok ho.safe fun H4 hE4 => ?_
      refine Ev_Method PySem.F.plainAttrs_str PySem.F.slot_str_join PySem.F.type_str_join <| Ev_str ⟨TyV.str _ _ _, Evs_cons <| Ev_Name <| Ld_ ok q3 <| Evs_nil <| Cal_joinMid (hE4 _ _ hown3) (by decide) (own_sum base hb) (by simp [ownL]) <| Cmp_eqS <| Tru_bool ?_⟩
      have eT : (Txt.join (Str.ofString ", ") (pfGo 32 0 (whO W 6) []) == Txt.join (Str.ofString ", ") (ownL base)) = true := by rw [sep_eq, ho.whole]; exact beq_self_eq_true _
      have hM6 : ∀ i, i < 6 → H4 (a i) = some (.list (rowV (apV T w x) i)) := fun i hi => by
        rw [hE4 _ _ (x1.row i hi)]
        congr 2
        unfold rowV
        refine List.map_congr_left fun j hj => ?_
        have hj := List.mem_range.mp hj
        by_cases hji : j ≤ i
        · rw [(hM i j hji hi).1]
        · rw [(hM j i (by (clear hclk hb hi hj; omega)) hj).2]
          unfold apV
          rw [btw_comm]
      have fin := h (cut H4) R a ((e1.trans (x1.ext.trans hE4)).cut) (cut_some (hE4 _ _ x1.at_) (by simp [noSO, noS])) fun i hi => cut_some (hM6 i hi) (by simp [noSO, noS, rowV])
      first | rw [eT] | (change (if (Txt.join (Str.ofString ", ") (pfGo 32 0 (whO W 6) []) == Txt.join (Str.ofString ", ") (ownL base)) = true then _ else _); rw [eT])
      exact Ev_Name <| Ld_ ok q2 ⟨rfl, fin⟩
end Mine
namespace Mine
theorem stop_raise {α : Type} {prog : Program} {w : World} {A : Around} {s : Shared} {E : Value → Shared → Prop} {Q : α → Shared → Prop} (hh : A.handled = none)
    (h : ∀ a h' t ob, (∀ b o, s.heap.get? b = some o → h'.get? b = some o) → s.heap.objs.size ≤ a → h'.get? a = some ob → ob.cls = .type "StopIteration" → ob.data = .fields #[t, .none, .none, .none, .bool false, .none] → E (.ref a) { s with heap := h' }) :
    wpAny (model prog w) A (Builtin.SmallTypes.stopIteration : Sem α) Q E s := by
  show wpAny _ _ (newExc (.type "StopIteration") [] >>= _) _ _ _
  refine wpAny_bind ?_
  simp only [newExc, newTuple]
  refine wpAny_bind (wpAny_newObj_type ?_ (by size_fits))
  refine wpAny_bind (m := firstArgMember _ _) (wpAny_of_eq (a := Value.none) (by first | rfl | (simp only [firstArgMember]; rfl)) ?_)
  refine wpAny_newObj_type ?_ (by size_fits)
  simp only [raiseNew]
  refine wpAny_bind (wpAny_handled ?_)
  rw [hh]
  refine wpAny_bind (wpAny_pure (wpAny_throw ?_))
  refine h _ _ (.ref s.heap.objs.size) _ (fun b o e => Heap.get?_push_of_some _ (Heap.get?_push_of_some _ e)) ?_ (Heap.get?_push_size _ rfl) rfl rfl
  simp
variable [HasP]
section
variable {G : Glb} {F : Fm} {ρ : Vars} {H : HA} {sc : Scope} {d : Nat} {Z : Addr → Option Obj} {s s' : Shared}
noncomputable def StopE (G : Glb) (F : Fm) (Z : Addr → Option Obj) (H' : HA) : Value → Shared → Prop := fun e s' => ∃ a ρ' ob t, e = .ref a ∧ Inv G F Z ρ' H' s' ∧ Z a = none ∧ H' a = none ∧ a ≠ F.env.locals ∧
  s'.heap.get? a = some ob ∧ ob.cls = .type "StopIteration" ∧ ob.data = .fields #[t, .none, .none, .none, .bool false, .none]
theorem next_end {l it : Addr} {i : Nat} {xs : List V} (X : Inv G F Z ρ H s) (hh : F.A.handled = none) (hi : H it = some (.iter l i)) (hl : H l = some (.list xs)) (hx : xs[i]? = none) :
    wpAny (Md G) F.A (call (.builtin "next") [.ref it]) (fun _ _ => False) (StopE G F Z (H.set it .iterE)) s := by
  obtain ⟨vs, lv, q⟩ := (X.hp.trk _ _ hl).isList
  have hit : s.heap.IsListIter it l i := X.hp.trk _ _ hi
  have e := getElem?_ab q i
  rw [hx] at e
  have e' : vs[i]? = none := by
    cases e' : vs[i]? with
    | none => rfl
    | some c => rw [e'] at e; cases e
  refine call_function_entry (by decide +kernel) (by decide +kernel) kdk_entry_next (kdk_args_next _) ?_
  unfold Builtin.«next»
  refine wpAny_bind (m := someArgs "next" 1 2 _) (wpAny_of_eq (a := [Value.ref it]) (by first | rfl | kernel_rfl!) ?_)
  dsimp only
  refine wpAny_bind (wpAny_specialOf (name := Str.ofString "__next__") hit.typeIs slot_listiter_next.lookup ?_)
  refine wpAny_ite_split (fun hab => absurd hab (by decide)) (fun _ => ?_)
  obtain ⟨o, ho, hc, hd⟩ := id hit
  obtain ⟨ol, hol, _, nl, hdl⟩ := id lv
  refine wpAny_bind (wpAny_callSpecial?_slot (name := Str.ofString "__next__") hit.typeIs slot_listiter_next
    (wpAny_call_entry slot_listiter_next hit.typeIs entry_listiter_next ?_ (args_listiter_next _)))
  show wpAny _ _ (field (.ref it) 0 >>= _) _ _ s
  refine wpAny_bind (wpAny_field ho hd (x := .ref l) rfl ?_)
  show wpAny _ _ (if (Value.ref l == Value.none) = true then _ else _) _ _ s
  rw [if_neg (show ¬ ((Value.ref l == Value.none) = true) from Bool.false_ne_true)]
  show wpAny _ _ (field (.ref it) 1 >>= _) _ _ s
  refine wpAny_bind (wpAny_field ho hd (x := .int i 0) rfl ?_)
  show wpAny _ _ (seqItems? (.ref l) >>= _) _ _ s
  refine wpAny_bind (wpAny_seqItems hol hdl ?_)
  simp only [Int.toNat_natCast, e']
  refine wpAny_bind (wpAny_rule (wpAny_bind (wpAny_setField ho hd (by simp) ?_)))
  refine stop_raise hh fun a h' t ob hk ha ea hac had => ?_
  have hsz : s.heap.objs.size ≤ a := by simpa using ha
  have X2 := X.thaw ((X.hp.freeze).mut (s' := { s with heap := h' }) (o := .iterE) hi (fun b ob hb eb => hk _ _ (((Heap.SameBut.update ..).2 b hb).trans eb)) ?_ rfl rfl)
  · exact ⟨a, ρ, ob, t, rfl, X2, X.hp.zfresh hsz, by rw [HA.set_ne (by rintro rfl; rw [X.hp.fresh hsz] at hi; cases hi)]; exact X.hp.fresh hsz, (by
      rintro rfl
      exact absurd X.frame_lt (Nat.not_lt.mpr hsz)), ea, hac, had⟩
  · exact ⟨_, _, hk _ _ (Heap.get?_update_self _ ho (Obj.isFreed_of_fields (Obj.data_mapFields hd _))), (Obj.cls_mapFields ..).trans hc, by rw [Obj.data_mapFields hd]; simp; rfl⟩
theorem next_again {it : Addr} (X : Inv G F Z ρ H s) (hh : F.A.handled = none) (hi : H it = some .iterE) :
    wpAny (Md G) F.A (call (.builtin "next") [.ref it]) (fun _ _ => False) (StopE G F Z (H.set it .iterE)) s := by
  obtain ⟨o, x, ho, hc, hd⟩ := X.hp.trk _ _ hi
  have hT : s.TypeIs (.ref it) "list_iterator" := ⟨o, ho, hc⟩
  refine call_function_entry (by decide +kernel) (by decide +kernel) kdk_entry_next (kdk_args_next _) ?_
  unfold Builtin.«next»
  refine wpAny_bind (m := someArgs "next" 1 2 _) (wpAny_of_eq (a := [Value.ref it]) (by first | rfl | kernel_rfl!) ?_)
  dsimp only
  refine wpAny_bind (wpAny_specialOf (name := Str.ofString "__next__") hT slot_listiter_next.lookup ?_)
  refine wpAny_ite_split (fun hab => absurd hab (by decide)) (fun _ => ?_)
  refine wpAny_bind (wpAny_callSpecial?_slot (name := Str.ofString "__next__") hT slot_listiter_next
    (wpAny_call_entry slot_listiter_next hT entry_listiter_next ?_ (args_listiter_next _)))
  show wpAny _ _ (field (.ref it) 0 >>= _) _ _ s
  refine wpAny_bind (wpAny_field ho hd (x := .none) rfl ?_)
  show wpAny _ _ (if (Value.none == Value.none) = true then _ else _) _ _ s
  rw [if_pos (show (Value.none == Value.none) = true from by decide)]
  refine wpAny_bind (wpAny_rule ?_)
  refine wpAny_bind (stop_raise hh fun a h' t ob hk ha ea hac had => ?_)
  have X2 := X.thaw ((X.hp.freeze).mut (s' := { s with heap := h' }) (o := .iterE) hi (fun b ob hb eb => hk _ _ eb) ⟨o, x, hk _ _ ho, hc, hd⟩ rfl rfl)
  exact ⟨a, ρ, ob, t, rfl, X2, X.hp.zfresh ha, by rw [HA.set_ne (by rintro rfl; rw [X.hp.fresh ha] at hi; cases hi)]; exact X.hp.fresh ha, (by
      rintro rfl
      exact absurd X.frame_lt (Nat.not_lt.mpr ha)), ea, hac, had⟩
end
end Mine
namespace Mine
section
variable {M : Model} {A : Around} {E : Value → Shared → Prop} {s : Shared}
theorem setFlight_here {base : Heap} {l : List Env} {e L : Addr} {cls a0 : Value} {Q : Unit → Shared → Prop} (hh : Heap.HeldW base l e cls a0 L s.heap)
    (h : ∀ h', Heap.HeldW base l e cls a0 L h' → s.heap.UpToSlots h' → Q () { s with heap := h' }) : wpAny M A (setFlight (.ref e) (some L)) Q E s := by
  obtain ⟨hkb, hen, hl, oe, vs, T, oT, ts, he, hcls, hd, h1, hnT, hTe, hT, hdT, h3⟩ := hh
  have hsz3 : 3 < ts.size := (Array.getElem?_eq_some_iff.mp h3).1
  have other : ∀ b, b ≠ T → (s.heap.update T (Obj.mapFields (·.setIfInBounds 3 ((some L : Option Addr).elim Value.none fun f => rawInt f)))).get? b = s.heap.get? b :=
    fun b hb => Heap.get?_update_other _ _ (Ne.symm hb)
  have noRec : ∀ b o, s.heap.get? b = some o → (∀ vs, o.data ≠ .fields vs) → b ≠ T := fun b o hb hnf q => by
    rw [q, hT] at hb; injection hb with hb; subst hb; exact hnf ts hdT
  unfold setFlight
  refine wpAny_bind (wpAny_field he hd h1 ?_)
  rw [if_pos (show (Value.ref T != Value.none) = true from by simp)]
  refine wpAny_setField hT hdT hsz3 (h _ ⟨fun b o hbo => (other b fun q => by rw [q, hnT] at hbo; cases hbo).trans (hkb b o hbo), hen, hl.of_keeps fun b o hb hnf => ⟨o, (other b (noRec b o hb hnf)).trans hb, rfl⟩, ?_⟩
    fun b o hb hnf => ⟨o.slots, (other b (noRec b o hb hnf)).trans hb⟩)
  exact ⟨oe, vs, T, _, _, (other e (Ne.symm hTe)).trans he, hcls, hd, h1, hnT, hTe, Heap.get?_update_self _ hT (Obj.isFreed_of_fields (Obj.data_mapFields hdT _)), Obj.data_mapFields hdT _, by simp [hsz3]⟩
theorem cameBack_here {base : Heap} {env : Env} {l : List Env} {e L : Addr} {cls a0 : Value} (hf : env.frame = some L) (hh : Heap.HeldW base l e cls a0 L s.heap)
    (h : ∀ h', Heap.HeldW base l e cls a0 L h' → s.heap.UpToSlots h' → E (.ref e) { s with heap := h' }) : cameBackBy M A env E (.ref e) s := by
  have hh' := hh
  obtain ⟨hkb, hen, hl, oe, vs, T, oT, ts, he, hcls, hd, h1, hnT, hTe, hT, hdT, h3⟩ := hh'
  unfold cameBackBy
  refine wpAny_bind (wpAny_field he hd h1 ?_)
  rw [if_neg (show ¬ (Value.ref T == Value.none) = true from by simp), hf]
  exact setFlight_here hh h
theorem noteFrame_first {base : Heap} {env : Env} {outer : List Env} {L e : Addr} {oe : Obj} {vs : Array Value} {a0 : Value} {Q : Unit → Shared → Prop}
    (hfr : A.frames = some (env :: outer)) (hl : s.heap.FunFrames base (env :: outer)) (hf : env.frame = some L)
    (he : s.heap.get? e = some oe) (hkb : base.StaysIn s.heap) (hen : base.get? e = none) (hd : oe.data = .fields vs) (h1 : vs[1]? = some .none) (h0 : vs[0]? = some a0)
    (h : ∀ h', Heap.HeldW base (env :: outer) e oe.cls a0 L h' → s.heap.UpToSlots h' → Q () { s with heap := h' }) : wpAny M A (noteFrame (.ref e) env) Q E s := by
  unfold noteFrame
  simp only [hf]
  refine wpAny_bind (wpAny_field he hd h1 ?_)
  rw [if_neg (by decide)]
  refine wpAny_entryW hfr hl hf he hkb hen hd (Array.getElem?_eq_some_iff.mp h1).1 h0 fun h' ⟨k1, k2, k3, k4⟩ => h h' ⟨k1, hen, k2, k3⟩ k4
theorem leaves_here {base : Heap} {env : Env} {outer : List Env} {L e : Addr} {cls a0 : Value} {Q : Unit → Shared → Prop} (hf : env.frame = some L)
    (hh : Heap.HeldW base (env :: outer) e cls a0 L s.heap) (hQ : ∀ h', Heap.FlyingW base outer e cls a0 h' → s.heap.UpToSlots h' → Q () { s with heap := h' }) : wpAny M A (leaving env (.ref e)) Q E s := by
  unfold leaving
  refine wpAny_bind (wpAny_noteFrame_againW hf hh.2.2.2 ?_)
  refine wpAny_landsW hh fun h' hfl sm => ?_
  obtain ⟨k1, k2, ⟨_, _, k3⟩, k4⟩ := hfl
  exact hQ h' ⟨k1, k2, k3, k4⟩ sm
end
end Mine
namespace Mine
variable [HasP]
noncomputable def FlyE (G : Glb) (H : HA) (s : Shared) (H' : HA) (env1 : Env) (L1 : Addr) : Value → Shared → Prop := fun e s'' => ∃ (a L2 : Addr) (t : Value) (base : Heap) (s' : Shared), e = .ref a ∧ Hp G (froz H s.heap) H' s' ∧
  s.heap.get? a = none ∧ s.heap.get? L2 = none ∧ H' a = none ∧ H' L2 = none ∧ s'' = { s' with heap := s''.heap } ∧ Heap.FlyingW base [env1] a (.type "StopIteration") t s''.heap ∧ s'.heap.UpToSlots s''.heap ∧
  ∀ b o, s'.heap.get? b = some o → b ≠ a → b ≠ L2 → b ≠ L1 → base.get? b = some o
theorem Code_defE {G : Glb} {f : Addr} {ns : List String} {sc : Scope} {body : List Stmt} (D : Def G f ns sc body) (g : GOk G) {A : Around} {cs : List Value} {H : HA} {d : Nat} {Z : Addr → Option Obj} {s : Shared} {R : Result → Shared → Prop}
    (x : Hp G Z H s) (hh : A.handled = none) (hdep : A.depth + (d + 1) < recursionLimit) (hun : A.units + 40 * (d + 1) < cLine) (hl : cs.length = ns.length)
    (h : ∀ F : Fm, FOk G F sc d → F.own = true → F.A = A.deeper F.env → F.env.frame = some F.env.locals → F.env.locals = s.heap.objs.size → ∀ s₁, (∀ b o, s.heap.get? b = some o → s₁.heap.get? b = some o) → Inv G F (froz H s.heap) (argV ns (cs.map ab) noV) H s₁ →
      wpAny (Md G) F.A (execs body F.env) (fun fl s' => R (.ok (.ret (match fl with | .ret v => v | _ => .none))) s') (fun e s' => wpAny (Md G) F.A (leaving F.env e) (fun _ s'' => R (.error e) s'') (fun e' s'' => R (.error e') s'') s') s₁) :
    codeAny (Md G) A (.call (.ref f) ⟨cs, []⟩) R s := by
  obtain ⟨⟨o, fd, ho, hd, hcd, hbody, hclo, hgl, hbl, rfl, hbind⟩, hlc, hok, hco, hgen, hk⟩ := D
  refine def_starts (fd := fd) (binds := (ns.map Str.ofString).zip cs) (by (clear hun hl hgl hbl; omega)) (x.base _ _ ho) hd (g.lim.keeps x.base) (hcd.keeps x.base) hbody (hbind cs hl) hclo (fun y hy => ?_) (fun s₁ htk X => ?_) hco hgen hk
  · have hm := List.of_mem_zip (show (y.1, y.2) ∈ _ from hy)
    obtain ⟨n, hn, e⟩ := List.mem_map.mp hm.1
    have q := hlc n hn
    rw [e] at q
    cases e' : fd.scope.names.lookup y.1 with
    | none => rw [e'] at q; cases q
    | some k =>
      rw [e'] at q
      cases k with
      | «local» => exact .inl rfl
      | cell => exact .inr ⟨rfl, cellsFrom_cell _ _ _ _ e'⟩
      | _ => cases q
  · obtain ⟨h₁, tk, rfl, keep⟩ := X.done
    have hL : s.heap.objs.size ≤ s.heap.objs.size := Nat.le_refl _
    have hfroz : ∀ a, s.heap.objs.size ≤ a → froz H s.heap a = none := fun a ha => by
      unfold froz
      rw [x.fresh ha]
      cases e : s.heap.get? a with
      | none => rfl
      | some o => exact absurd (Heap.lt_size e) (Nat.not_lt.mpr ha)
    have hcell : ∀ n c, (callEnvC fd s.heap.objs.size f).cells.lookup n = some c → s.heap.objs.size < c := fun n c e => X.above n c (mem_of_lookup e)
    refine h ⟨callEnvC fd s.heap.objs.size f, A.deeper (callEnvC fd s.heap.objs.size f), true⟩ ⟨hk, hgl, hbl, hh, ?dep, ?un, fun n => rfl, ?cl, ?lo, x.size g⟩ rfl rfl rfl rfl { s with heap := h₁, toks := tk } keep ⟨?hp, ?loc⟩
    case dep => show A.depth + 1 + d < _; (clear hun hl hgl hbl htk hL; omega)
    case un => show A.units + 3 + 40 * d < _; (clear hdep hl hgl hbl htk hL; omega)
    case cl =>
      intro n e
      exact Option.isSome_iff_exists.mp (cellsFrom_cell _ _ _ n e)
    case lo =>
      intro n e
      cases q : (callEnvC fd s.heap.objs.size f).cells.lookup n with
      | none => rfl
      | some c =>
        rcases cellsFrom_mem _ _ _ _ _ (mem_of_lookup q) with m | m
        · cases m
        · exact absurd m (hok n e)
    case hp => exact (x.freeze.ext keep rfl rfl)
    case loc =>
      refine ⟨⟨_, X.toInCall.ns, fun y hy => ?_⟩, x.fresh hL, hfroz _ hL, fun y c hc => ⟨⟨_, X.cell _ _ hc, ?_⟩, x.fresh (Nat.le_of_lt (hcell _ _ hc)), Nat.ne_of_gt (hcell _ _ hc)⟩, fun _ y c hc => ⟨hfroz _ (Nat.le_of_lt (hcell _ _ hc)), fun z hz => ?_⟩⟩
      · exact argV_bindL ns cs _ _ (fun _ _ => rfl) y hy
      · refine argV_bindC ns cs _ _ (fun _ _ => rfl) y fun e => ?_
        rcases cellsFrom_mem _ _ _ _ _ (mem_of_lookup hc) with m | m
        · cases m
        · exact hok _ e m
      · exact ofString_inj (name_of_addr X.apart (mem_of_lookup hc) (mem_of_lookup hz))
section
variable {G : Glb} {F : Fm} {ρ : Vars} {H : HA} {sc : Scope} {d : Nat} {Z : Addr → Option Obj} {s s' : Shared}
theorem execs_E {st : Stmt} {sts : List Stmt} {Q : Flow → Shared → Prop} {E : Value → Shared → Prop} (X : Inv G F Z ρ H s)
    (h : Ex G F st ρ H fun f ρ1 H1 => f = .next ∧ ∀ s1, Inv G F Z ρ1 H1 s1 → wpAny (Md G) F.A (execs sts F.env) Q E s1) : wpAny (Md G) F.A (execs (st :: sts) F.env) Q E s :=
  wpAny_execs_cons (wpAny_mono (h.run Z s X) (fun f s1 ⟨ρ1, H1, x1, hf, k⟩ => by
    cases f with
    | next => exact k s1 x1
    | _ => cases hf) fun _ _ e => e.elim)
theorem Ev_CallE {n : Str} {np pos : Pos} {args : List Expr} {f : Value} {Q : Value → Shared → Prop} {E : Value → Shared → Prop} (ok : FOk G F sc d) (g : GOk G) (hv : GV G n f) (hf : Callee G f) (x : Inv G F Z ρ H s)
    (h : Evs G F args ρ H fun vs H1 => ∀ s1 cs, cs.map ab = vs → Inv G F Z ρ H1 s1 → wpAny (Md G) F.A (call f cs) Q E s1) (hk : sc.names.lookup n = some .globalImplicit := by decide +kernel)
    (hplain : (backTo pos (starEach args F.env)).any (·.1) = false := by rfl) (hd : (n == ("__debug__" : Str)) = false := by decide +kernel) : wpAny (Md G) F.A (eval (.Call (.Name n np) args [] pos) F.env) Q E s := by
  refine wpAny_Call_NameR ?_
  have fin : wpAny (Md G) F.A (callWith pos f [] (backTo pos (starEach args F.env)) []) Q E s :=
    callWith_V hf hplain (wpAny_mono (h.run Z s pos x) (fun vs s₁ ⟨H1, x1, h1⟩ => ⟨x1.hp.base, h1 s₁ vs rfl x1⟩) fun _ _ e => e.elim)
  have gl : s.heap.Ns F.env.globals G.mg := by rw [ok.gl]; exact g.g.keeps x.hp.base
  have bl : s.heap.Ns F.env.builtins G.mb := by rw [ok.bl]; exact g.b.keeps x.hp.base
  rcases hv with hv | ⟨hm, hv⟩
  · exact Calls.Name_function_global ok.fn ((ok.sco _).trans hk) (Calls.loadGlobal_global gl hv fin) hd
  · exact Calls.Name_function_global ok.fn ((ok.sco _).trans hk) (Calls.loadGlobal_builtin gl hm bl hv fin) hd
structure Outer (s : Shared) (H : HA) (env1 : Env) (L1 : Addr) : Prop where
  kind : env1.scope.kind ≠ .module
  frame : env1.frame = some L1
  obj : ∃ o, s.heap.get? L1 = some o ∧ ∀ vs, o.data ≠ .fields vs
  h : H L1 = none
theorem StopE.base {s0 : Shared} {H0 : HA} {env1 : Env} {L1 : Addr} {it : Addr} {e : Value} (ok : FOk G F sc d) (hfm : F.env.frame = some F.env.locals) (hL2 : F.env.locals = s0.heap.objs.size) (hO : Outer s0 H0 env1 L1) (hit : ∃ o, H0 it = some o)
    (h : StopE G F (froz H0 s0.heap) (H0.set it .iterE) e s) : ∃ (a : Addr) (t : Value) (ob : Obj) (base : Heap), e = .ref a ∧ Hp G (froz H0 s0.heap) (H0.set it .iterE) s ∧ s0.heap.get? a = none ∧ s0.heap.get? F.env.locals = none ∧ (H0.set it .iterE) a = none ∧ (H0.set it .iterE) F.env.locals = none ∧
      s.heap.FunFrames base [F.env, env1] ∧ s.heap.get? a = some ob ∧ ob.cls = .type "StopIteration" ∧ ob.data = .fields #[t, .none, .none, .none, .bool false, .none] ∧ base.StaysIn s.heap ∧ base.get? a = none ∧
      ∀ b o, s.heap.get? b = some o → b ≠ a → b ≠ F.env.locals → b ≠ L1 → base.get? b = some o := by
  obtain ⟨a, ρ', ob, t, rfl, X, hz, hH, hne, hob, hc, hd⟩ := h
  refine ⟨a, t, ob, hideAll s.heap [a, F.env.locals, L1], rfl, X.hp, ?_, ?_, hH, X.loc.hL, ?_, hob, hc, hd, fun b o e => of_hideAll _ e, hideAll_none _ (by simp), fun b o e h1 h2 h3 => hideAll_get _ e (by simp [h1, h2, h3])⟩
  · cases e : s0.heap.get? a with
    | none => rfl
    | some o =>
      unfold froz at hz
      cases e2 : H0 a with
      | none => rw [e2] at hz; rw [e] at hz; cases hz
      | some o' =>
        by_cases q : a = it
        · subst q; rw [HA.set_self] at hH; cases hH
        · rw [HA.set_ne q, e2] at hH; cases hH
  · rw [hL2]; exact Heap.get?_none_of_le (Nat.le_refl _)
  · obtain ⟨o1, ho1, hd1⟩ := hO.obj
    obtain ⟨m, hn, _⟩ := X.loc.ns
    have hz1 : froz H0 s0.heap L1 = some o1 := by unfold froz; rw [hO.h]; exact ho1
    exact .cons (by rw [ok.fn]; decide) hfm hn (hideAll_none _ (by simp)) ⟨hO.kind, ⟨L1, o1, hO.frame, hideAll_none _ (by simp), X.hp.fz _ _ hz1, hd1⟩, trivial⟩
theorem Stop_leaves {s0 : Shared} {H0 : HA} {env1 : Env} {L1 : Addr} {it : Addr} {R : Value → Shared → Prop} {E' : Value → Shared → Prop} {A : Around} (ok : FOk G F sc d) (hA : F.A = A.deeper F.env) (hfr : A.frames = some [env1]) (hfm : F.env.frame = some F.env.locals) (hL2 : F.env.locals = s0.heap.objs.size) (hO : Outer s0 H0 env1 L1) (hit : ∃ o, H0 it = some o)
    (hR : ∀ e s'', FlyE G H0 s0 (H0.set it .iterE) env1 L1 e s'' → R e s'') {e : Value} (h : StopE G F (froz H0 s0.heap) (H0.set it .iterE) e s) : wpAny (Md G) F.A (leaving F.env e) (fun _ s'' => R e s'') E' s := by
  obtain ⟨a, t, ob, base, rfl, hp, h1, h2, h3, h4, hff, hob, hc, hd, hst, hen, hb⟩ := h.base ok hfm hL2 hO hit
  refine wpAny_leaving_firstW (base := base) (outer := [env1]) (a0 := t) (by rw [hA]; exact Around.frames_deeper hfr) hff hfm hob hst hen hd rfl rfl fun h' ⟨k1, k2, k3, k4⟩ => hR _ _ ?_
  rw [hc] at k3
  exact ⟨a, F.env.locals, t, base, s, rfl, hp, h1, h2, h3, h4, rfl, ⟨k1, hen, k2.2.2, k3⟩, k4, hb⟩
theorem Stop_noted {s0 : Shared} {H0 : HA} {env1 : Env} {L1 : Addr} {it : Addr} {R : Value → Shared → Prop} {E' : Value → Shared → Prop} {A : Around} (ok : FOk G F sc d) (hA : F.A = A.deeper F.env) (hfr : A.frames = some [env1]) (hfm : F.env.frame = some F.env.locals) (hL2 : F.env.locals = s0.heap.objs.size) (hO : Outer s0 H0 env1 L1) (hit : ∃ o, H0 it = some o)
    (hR : ∀ e s'', FlyE G H0 s0 (H0.set it .iterE) env1 L1 e s'' → R e s'') {e : Value} (h : StopE G F (froz H0 s0.heap) (H0.set it .iterE) e s) :
    notedBy (Md G) F.A F.env (cameBackBy (Md G) F.A F.env fun e s' => wpAny (Md G) F.A (leaving F.env e) (fun _ s'' => R e s'') E' s') e s := by
  obtain ⟨a, t, ob, base, rfl, hp, h1, h2, h3, h4, hff, hob, hc, hd, hst, hen, hb⟩ := h.base ok hfm hL2 hO hit
  show wpAny _ _ _ _ _ _
  refine noteFrame_first (base := base) (outer := [env1]) (a0 := t) (by rw [hA]; exact Around.frames_deeper hfr) hff hfm hob hst hen hd rfl rfl fun h' hh sm => ?_
  rw [hc] at hh
  refine cameBack_here (s := { s with heap := h' }) hfm hh fun h'' hh2 sm2 => ?_
  refine leaves_here (s := { s with heap := h'' }) hfm hh2 fun h3' hfl sm3 => hR _ _ ?_
  exact ⟨a, F.env.locals, t, base, s, rfl, hp, h1, h2, h3, h4, rfl, hfl, (sm.trans sm2).trans sm3, hb⟩
end
end Mine
namespace Mine
noncomputable def Rd (H : HA) (it : Addr) : Prop := H it = some .iterE ∨ ∃ (l : Addr) (i : Nat) (xs : List Int), H it = some (.iter l i) ∧ H l = some (.list (xs.map V.int)) ∧ xs[i]? = some (69 : Int) ∧ xs[i + 1]? = none
variable [HasP]
section
variable {G : Glb} {F : Fm} {ρ : Vars} {H : HA} {sc : Scope} {d : Nat} {Z : Addr → Option Obj} {s s' : Shared}
theorem varint_flies (K : Kn G) {A : Around} {env1 : Env} {L1 it : Addr} (x : Hp G Z H s) (hh : A.handled = none) (hdep : A.depth + (0 + 1) < recursionLimit) (hun : A.units + 40 * (0 + 1) < cLine)
    (hfr : A.frames = some [env1]) (hO : Outer s H env1 L1) (rd : Rd H it) {R : Result → Shared → Prop} (hR : ∀ e s'', FlyE G H s (H.set it .iterE) env1 L1 e s'' → R (.error e) s'') :
    codeAny (Md G) A (.call (.ref 36) ⟨[.ref it], []⟩) R s := by
  refine Code_defE K.d_varint K.g x hh hdep hun rfl fun F ok own hA hfm hL2 s1 keep X => ?_
  rcases rd with hi | ⟨l, i, xs, hi, hl, hx, hx2⟩
  · refine wpAny_execs_cons (wpAny_Assign_Name (Ev_CallE ok K.g (K.bt (n := "next") rfl rfl) trivial X (Evs_cons (Ev_Name (Ld_ ok rfl (Evs_nil fun s2 cs hcs X2 => ?_))))))
    obtain ⟨c, rfl, ec⟩ := args1 hcs
    obtain rfl := ab_ref ec
    exact wpAny_mono (next_again X2 ok.hd hi) (fun _ _ h => h.elim) fun e s3 h3 => Stop_leaves ok hA hfr hfm hL2 hO ⟨_, hi⟩ (R := fun e s'' => R (.error e) s'') (fun e s'' h => hR e s'' h) h3
  · have hne : l ≠ it := by rintro rfl; rw [hi] at hl; cases hl
    refine execs_E X <| Ex_Assign <| Ev_Call ok K.g (K.bt (n := "next") rfl rfl) trivial <| Evs_cons <| Ev_Name <| Ld_ ok rfl <| Evs_nil <| Cal_next (v := .int 69) hi hl (by rw [List.getElem?_map, hx]; rfl) <| St_ ok own ⟨rfl, fun s2 X2 => ?_⟩
    refine execs_E X2 <| Ex_Assign <| Ev_BinOp <| Ev_Name <| Ld_ ok rfl <| Ev_int <| Bin_and <| St_ ok own ⟨rfl, fun s3 X3 => ?_⟩
    refine wpAny_execs_cons (wpAny_While (codeAny_whileLoop (fun _ s' => Inv G F (froz H s.heap) _ _ s') (fun n s' X' => ?_) 0 X3))
    refine wpAny_mono ((Tr_value (Q := fun b H' => b = true ∧ H' = H.set it (.iter l (i + 1))) (Ev_BinOp (Ev_Name (Ld_ ok rfl (Ev_int (Bin_and (Tru_int ⟨by decide, rfl⟩))))))).run _ _ X') (fun b s4 hM => ?_) fun _ _ e => e.elim
    obtain ⟨H4, X4, hb, hH⟩ := hM
    subst hb hH
    rw [if_pos rfl]
    refine execs_E X4 <| Ex_AugAssign (Ld_ ok rfl (Ev_int (IBin_shlS (by decide) (by decide) (by decide) (St_ ok own ⟨rfl, fun s5 X5 => ?_⟩))))
    refine wpAny_execs_cons (wpAny_Assign_Name (Ev_CallE ok K.g (K.bt (n := "next") rfl rfl) trivial X5 (Evs_cons (Ev_Name (Ld_ ok rfl (Evs_nil fun s6 cs hcs X6 => ?_))))))
    obtain ⟨c, rfl, ec⟩ := args1 hcs
    obtain rfl := ab_ref ec
    refine wpAny_mono (next_end X6 ok.hd (HA.set_self _ _ _) (show (H.set it (.iter l (i + 1))) l = _ by rw [HA.set_ne hne]; exact hl) (by rw [List.getElem?_map, hx2]; rfl)) (fun _ _ h => h.elim) fun e s7 h7 => ?_
    rw [HA.set_set] at h7
    exact Stop_noted ok hA hfr hfm hL2 hO ⟨_, hi⟩ (R := fun e s'' => R (.error e) s'') (fun e s'' h => hR e s'' h) h7
theorem Inv.caught {it : Addr} {s0 : Shared} {h6 : Heap} {base : Heap} {a L2 : Addr} (X : Inv G F Z ρ H s0) (hp : Hp G (froz H s0.heap) (H.set it .iterE) s') (hi : ∃ o, H it = some o) (h1 : s0.heap.get? a = none) (h2 : s0.heap.get? L2 = none)
    (h3 : (H.set it .iterE) a = none) (h4 : (H.set it .iterE) L2 = none) (hst : base.StaysIn h6) (hup : s'.heap.UpToSlots h6) (hb : ∀ b o, s'.heap.get? b = some o → b ≠ a → b ≠ L2 → b ≠ F.env.locals → base.get? b = some o) :
    Inv G F Z ρ (H.set it .iterE) { s' with heap := h6 } := by
  have Y := X.thaw hp
  have keep : ∀ b o, s'.heap.get? b = some o → b ≠ a → b ≠ L2 → b ≠ F.env.locals → h6.get? b = some o := fun b o e k1 k2 k3 => hst _ _ (hb b o e k1 k2 k3)
  have z0 : ∀ b o, Z b = some o → b ≠ a ∧ b ≠ L2 ∧ b ≠ F.env.locals := fun b o e => by
    have := X.hp.fz b o e
    refine ⟨?_, ?_, ?_⟩
    · rintro rfl; rw [h1] at this; cases this
    · rintro rfl; rw [h2] at this; cases this
    · rintro rfl; rw [X.loc.zL] at e; cases e
  obtain ⟨m, hn, hm⟩ := Y.loc.ns
  refine ⟨⟨Y.hp.bz, fun b o e => ?_, Y.hp.sep, fun b o e => ?_, Y.hp.gens, Y.hp.os, Y.hp.ck⟩, ⟨m, hup.ns hn, hm⟩, Y.loc.hL, Y.loc.zL, fun y c hc => ?_, Y.loc.cw⟩
  · obtain ⟨k1, k2, k3⟩ := z0 b o e
    exact keep b o (Y.hp.fz b o e) k1 k2 k3
  · refine (Y.hp.trk b o e).at fun ob he => keep b ob he ?_ ?_ ?_
    · rintro rfl; rw [h3] at e; cases e
    · rintro rfl; rw [h4] at e; cases e
    · rintro rfl; rw [Y.loc.hL] at e; cases e
  · obtain ⟨⟨ov, ⟨o, e, dd⟩, q⟩, g1, g2⟩ := Y.loc.cell y c hc
    obtain ⟨⟨ov0, ⟨o0, e0, _⟩, _⟩, _, _⟩ := X.loc.cell y c hc
    refine ⟨⟨ov, ⟨o, keep c o e ?_ ?_ g2, dd⟩, q⟩, g1, g2⟩
    · rintro rfl; rw [h1] at e0; cases e0
    · rintro rfl; rw [h2] at e0; cases e0
theorem isExc_Stop : isSubtype (.type "StopIteration") (.type "BaseException") = pure true := by rw [isSubtype_type]; kernel_rfl
theorem notTuple_Stop : isSubtype (.type ((Manifest.find? "StopIteration").elim "type" fun x => x.metatype)) (.type "tuple") = pure false := by
  rw [show ((Manifest.find? "StopIteration").elim "type" fun x => x.metatype) = "type" from by kernel_rfl, isSubtype_type]; kernel_rfl
theorem self_Stop : isSubtype (.type "StopIteration") (.type "StopIteration") = pure true := by rw [isSubtype_type]; kernel_rfl
theorem Ex_TryStop (K : Kn G) (ok : FOk G F sc (d + 1)) (hfr : F.A.frames = some [F.env]) (hfm : F.env.frame = some F.env.locals) {it : Addr} {np np2 np3 p1 p2 p3 p4 p5 p6 pos : Pos} {k} {Q : Fl → Vars → HA → Prop} (hv : ρ "reader" = some (.ref it)) (rd : Rd H it)
    (h : Q .next ρ (H.set it .iterE)) (hk : sc.names.lookup (Str.ofString "_parse_varint") = some .globalImplicit := by decide +kernel) (hk2 : sc.names.lookup (Str.ofString "StopIteration") = some .globalImplicit := by decide +kernel)
    (hlc : lc (sc.names.lookup (Str.ofString "reader")) = true := by decide +kernel)
    (hsw : swapsWith (.Call (.Name (Str.ofString "_parse_varint") np) [.Name (Str.ofString "reader") np2] [] p1) none p2.line F.env = pure false := by rfl) :
    Ex G F (.Try [.Expr (.Call (.Name (Str.ofString "_parse_varint") np) [.Name (Str.ofString "reader") np2] [] p1) p2, .Return (some (.Constant (.bool false) k p3)) p4] [.ExceptHandler (some (.Name (Str.ofString "StopIteration") np3)) none [.Pass p5] p6] [] [] pos) ρ H Q := .mk fun Z s X => by
  have hi : ∃ o, H it = some o := by
    rcases rd with hi | ⟨l, i, xs, hi, _⟩ <;> exact ⟨_, hi⟩
  refine wpAny_Try_except (wpAny_execs_cons (wpAny_Expr_any ?_ ok.noI hsw))
  refine Ev_CallE ok K.g (K.gv (n := "_parse_varint") rfl) K.d_varint.callee X (Evs_cons (Ev_Name (Ld_ ok hv (Evs_nil fun s2 cs hcs X2 => ?_) hlc))) hk
  obtain ⟨c, rfl, ec⟩ := args1 hcs
  obtain rfl := ab_ref ec
  have hO : Outer s2 H F.env F.env.locals := ⟨by rw [ok.fn]; decide, hfm, (by
    obtain ⟨m, ⟨o, es, ep, e, hd, _⟩, _⟩ := X2.loc.ns
    exact ⟨o, e, fun vs q => by rw [hd] at q; cases q⟩), X2.loc.hL⟩
  have hdep := ok.dep
  have hun := ok.un
  refine wpAny_call (varint_flies K X2.hp ok.hd (by omega) (by omega) hfr hO rd fun e s3 h3 => ?_)
  obtain ⟨a, L2, t, base, s', rfl, hp, h1, h2, h3, h4, hs, hfl, hup, hb⟩ := h3
  refine wpAny_looks_onW hfr hfm hfl fun h₄ hheld₄ hsm₄ => ?_
  refine wpAny_landsW hheld₄ fun h₅ hheld hsm₅ => ?_
  have hbase5 : ∀ b o, G.B.get? b = some o → h₅.get? b = some o := fun b o e => by
    have hz := X.hp.bz b o e
    have q1 := X2.hp.fz b o (X2.hp.bz b o e)
    have q2 : s'.heap.get? b = some o := hp.fz b o (by unfold froz; rw [X2.hp.sep b o (X2.hp.bz b o e)]; exact q1)
    refine hheld.1 b o (hb b o q2 ?_ ?_ ?_)
    · rintro rfl; rw [h1] at q1; cases q1
    · rintro rfl; rw [h2] at q1; cases q1
    · rintro rfl; rw [X2.loc.zL] at hz; cases hz
  obtain ⟨ob, hob, hobc⟩ := hheld.there
  have gl : h₅.Ns F.env.globals G.mg := by rw [ok.gl]; exact K.g.g.keeps hbase5
  have bl : h₅.Ns F.env.builtins G.mb := by rw [ok.bl]; exact K.g.b.keeps hbase5
  have hvS : GV G (Str.ofString "StopIteration") (.type "StopIteration") := K.bt (n := "StopIteration") rfl PyProof.Rows.Boot.«StopIteration»
  refine wpAny_handleBy_builtin (X := "StopIteration") (T := "StopIteration") (b := true) isExc_Stop notTuple_Stop self_Stop ?_
  have go : ∀ E', wpAny (Md G) (F.A.mark (some (.ref a))) (eval (.Name (Str.ofString "StopIteration") np3) F.env) (fun c s₁ => c = .type "StopIteration" ∧ s₁ = { s3 with heap := h₅ }) E' { s3 with heap := h₅ } := fun E' => by
    rcases hvS with hv | ⟨hm, hv⟩
    · exact Calls.Name_function_global ok.fn ((ok.sco _).trans hk2) (Calls.loadGlobal_global gl hv ⟨rfl, rfl⟩) (by decide +kernel)
    · exact Calls.Name_function_global ok.fn ((ok.sco _).trans hk2) (Calls.loadGlobal_builtin gl hm bl hv ⟨rfl, rfl⟩) (by decide +kernel)
  refine wpAny_mono (go _) (fun c s₁ ⟨e1, e2⟩ => ?_) fun _ _ e => e
  subst e2
  refine ⟨e1, ⟨ob, hob, hobc⟩, ?_⟩
  rw [if_pos rfl]
  refine lands_againW hheld fun h₆ hfl₆ hsm₆ => ?_
  refine wpAny_execs_cons (wpAny_Pass (wpAny_execs_nil ?_))
  refine ⟨ρ, H.set it .iterE, ?_, h⟩
  have := X2.caught (h6 := h₆) hp hi h1 h2 h3 h4 hfl₆.1 (((hup.trans hsm₄).trans hsm₅).trans hsm₆) hb
  rw [hs]
  exact this
end
end Mine
namespace Mine
variable [HasP]
section
variable {G : Glb} {F : Fm} {ρ : Vars} {H : HA} {Q : V → Prop} {Kf : Frag}
theorem Ev_GV {sc : Scope} {d : Nat} {n : Str} {pos} {v : Value} {Q : V → HA → Prop} (ok : FOk G F sc d) (g : GOk G) (hv : GV G n v) (h : Q (ab v) H) (hk : sc.names.lookup n = some .globalImplicit := by decide +kernel)
    (hd : (n == ("__debug__" : Str)) = false := by decide +kernel) : Ev G F (.Name n pos) ρ H Q := by
  rcases hv with hv | ⟨hm, hv⟩
  · exact Ev_glob ok g hk hv h hd
  · exact Ev_blt ok g hk hm hv h hd
theorem law_D (K : Kn G) (ok : FOk G F (FS 29) 8) (own : F.own = true) (hclk : 2513 ≤ HasP.clk) {wa ta ga : Addr} {tr : Nat → Addr} {W w : Nat → Int} {T : Nat → List Int} {base : Nat} {x pr : Int}
    (hh : ApH H wa ta ga tr W w T) (hb : base < 8) (ho : ApOk W T base) (hM : ∀ i j, (apV T w x i j).natAbs < 2 ^ 24) (hpr : pr.natAbs < 2 ^ 100) (hx : x.natAbs < 2 ^ 18) (hs : (((List.range 5).map w).sum).natAbs < 2 ^ 22)
    (r1 : ρ "ways" = some (.ref wa)) (r2 : ρ "trails" = some (.ref ta)) (r3 : ρ "weights" = some (.ref ga)) (r4 : ρ "base" = some (.int base)) (r5 : ρ "least" = some (.int x)) (r6 : ρ "product" = some (.int pr))
    (hdet : detF (apV T w x) = -16 * pr * (((List.range 5).map w).sum + 2 * x)) (h : Q (.bool true)) :
    Exs G F ((FB 29).drop 25) ρ H fun fl _ _ => Q (match fl with | .ret v => v | _ => .none) := by
  refine Exs_cons <| Ex_Assign <| Ev_Call ok K.g (K.gv (n := "_law_apart") rfl) K.d_apart.callee <| Evs_cons <| Ev_Name <| Ld_ ok r1 <| Evs_cons <| Ev_Name <| Ld_ ok r2 <| Evs_cons <| Ev_Name <| Ld_ ok r3 <| Evs_cons <| Ev_Name <| Ld_ ok r4 <| Evs_cons <| Ev_Name <| Ld_ ok r5 <| Evs_nil <|
    c_apart inferInstance (d := 4) K ok hclk hh hb ho fun H1 tb rr hE hT hr => St_ ok own ?_
  refine Exs_cons <| Ex_If <| Tr_Compare <| Ev_Name <| Ld_ ok vz <| Ev_List <| Evs_nil ⟨by decide, fun E hE2 => Cmp_eqNil ok (by exact Nat.le_add_left _ _) (HA.set_old hE2 hT) (HA.set_self _ _ _) <| Tru_bool ?_⟩
  rw [show ((List.range 6).map fun i => V.ref (rr i)).isEmpty = false from rfl]
  refine Exs_nil <| Exs_cons <| Ex_Assign <| Ev_Call ok K.g (K.gv (n := "_law_determinant") rfl) K.d_det.callee <| Evs_cons <| Ev_Name <| Ld_ ok vz <| Evs_nil <|
    c_det (d := 4) K ok (HA.set_old hE2 hT) (fun i hi => HA.set_old hE2 (hr i hi)) hM fun H3 hE3 => St_ ok own ?_
  have hw3 := hE3 _ _ (HA.set_old (o := .list []) hE2 (hE _ _ hh.cut.weights))
  have hw3' : H3 ga = some (.list (((List.range 5).map w).map V.int)) := by rw [hw3, List.map_map]; rfl
  have small : ∀ {z : Int} {e : Nat}, z.natAbs < 2 ^ e → e ≤ 800 → Builtin.Int.intBits z ≤ 2 ^ 20 := fun h1 h2 => Nat.le_trans (bitsOf h1) (Nat.le_trans h2 (by decide))
  refine Exs_cons <| Ex_Return <| Ev_And2 <| Ev_Call ok K.g (K.bt (n := "isinstance") rfl rfl) trivial <| Evs_cons <| Ev_Name <| Ld_ ok vz <| Evs_cons <| Ev_GV ok K.g (K.bt (n := "int") rfl rfl) <| Evs_nil <| Cal_isint <| Tru_bool ?_
  refine Ev_Compare <| Ev_Name <| Ld_ ok vz <| Ev_BinOp <| Ev_BinOp <| Ev_UnaryOp <| Ev_int <| Un_neg <| Ev_Name <| Ld_ ok (vs (vs r6)) <| Bin_mul (IntMulOk.of_left (by decide)) <| Ev_BinOp <| Ev_Call ok K.g (K.bt (n := "sum") rfl rfl) trivial <| Evs_cons <| Ev_Name <| Ld_ ok (vs (vs r3)) <| Evs_nil <| Cal_sum ok hw3' <|
    Ev_BinOp <| Ev_int <| Ev_Name <| Ld_ ok (vs (vs r5)) <| Bin_mul (IntMulOk.of_left (by decide)) <| Bin_add <| Bin_mul (IntMulOk.of_bits (small (e := 200) ?_ (by decide)) (small (e := 30) ?_ (by decide))) <| Cmp_int (op := .Eq) (r := true) (by rw [Option.some.injEq, beq_iff_eq]; exact hdet) h
  · rw [Int.natAbs_mul]
    have : (-16 : Int).natAbs = 16 := rfl
    rw [this]
    have : (2 : Nat) ^ 200 = 2 ^ 100 * 2 ^ 100 := by decide
    (clear hclk hb hx hs hdet this; omega)
  · (clear hclk hb hpr hdet; omega)
end
end Mine
namespace Mine
noncomputable def prd (w : Nat → Int) : Nat → Int
  | 0 => 1
  | i + 1 => prd w i * w i
noncomputable def magX (z : Int) : Int := ((if z < 0 then -z else z).fdiv 202176).fmod 262144
noncomputable def xOf (z : Int) : Int := if z < 0 then -magX z else magX z
variable [HasP]
section
variable {G : Glb} {F : Fm} {ρ : Vars} {H : HA} {Q : V → Prop} {Kf : Frag}
structure WayI (H H' : HA) (A ca oa ta ga : Addr) (W : Nat → Int) (base i : Nat) (ρ' : Vars) : Prop where
  e : Ext H H'
  a : H' A = some (.list ((List.range (i + 1)).map fun i => .int (W i)))
  q1 : ρ' "ways" = some (.ref A)
  q2 : ρ' "base" = some (.int (base : Nat))
  q3 : ρ' "cells" = some (.ref ca)
  q4 : ρ' "told" = some (.ref oa)
  q5 : ρ' "trails" = some (.ref ta)
  q6 : ρ' "weights" = some (.ref ga)
structure PrdI (H1 H' : HA) (A ca oa ta ga : Addr) (p : Int) (base : Nat) (ρ' : Vars) : Prop where
  e : H' = H1
  p_ : ρ' "product" = some (.int p)
  q1 : ρ' "ways" = some (.ref A)
  q2 : ρ' "base" = some (.int (base : Nat))
  q3 : ρ' "cells" = some (.ref ca)
  q4 : ρ' "told" = some (.ref oa)
  q5 : ρ' "trails" = some (.ref ta)
  q6 : ρ' "weights" = some (.ref ga)
theorem law_C (K : Kn G) (ok : FOk G F (FS 29) 8) (own : F.own = true) (hclk : 2513 ≤ HasP.clk) {ca oa ta ga : Addr} {tr : Nat → Addr} {c W w : Nat → Int} {T : Nat → List Int} {par : Nat → Nat} {base : Nat}
    (hc : H ca = some (.list ((List.range 6).map fun i => .int (c i)))) (hto : H oa = some (.list ((List.range 6).map fun i => .int (if i = 0 then -1 else (par i : Int)))))
    (htr : H ta = some (.list ((List.range 6).map fun i => .ref (tr i)))) (htr2 : ∀ i, i < 6 → H (tr i) = some (.list ((T i).map V.int))) (hw : H ga = some (.list ((List.range 5).map fun i => .int (w i))))
    (hb : base < 8) (hbase : (c 0).fmod 8 = (base : Int)) (hpar : ∀ k, 1 ≤ k → k < 6 → par k < k) (hW0 : W 0 = 0) (hW : ∀ k, 1 ≤ k → k < 6 → W k = Builtin.bitOr (W (par k)) (2 ^ (base + k - 1)))
    (hws : ∀ i, i < 5 → (w i).natAbs < 2 ^ 18)
    (ho : ApOk W T base) (hM : ∀ i j, (apV T w (xOf (c 0)) i j).natAbs < 2 ^ 24) (hpr : (prd w 5).natAbs < 2 ^ 100) (hx : (xOf (c 0)).natAbs < 2 ^ 18) (hs : (((List.range 5).map w).sum).natAbs < 2 ^ 22)
    (r1 : ρ "cells" = some (.ref ca)) (r2 : ρ "told" = some (.ref oa)) (r3 : ρ "trails" = some (.ref ta)) (r4 : ρ "weights" = some (.ref ga))
    (hdet : detF (apV T w (xOf (c 0))) = -16 * prd w 5 * (((List.range 5).map w).sum + 2 * xOf (c 0))) (h : Q (.bool true)) :
    Exs G F ((FB 29).drop 18) ρ H fun fl _ _ => Q (match fl with | .ret v => v | _ => .none) := by
  refine Exs_cons <| Ex_Assign <| Ev_BinOp <| Ev_Subscript PySem.F.slot_list_getitem.lookup <| Ev_Name <| Ld_ ok r1 <| Ev_int ⟨TyV.list hc, GetI_list hc (by decide) (by decide) (v := .int (c 0)) rfl <| Ev_int <| Bin_mod (by decide) <| St_ ok own ?_⟩
  rw [hbase]
  refine Exs_cons <| Ex_Assign <| Ev_List <| Evs_cons <| Ev_int <| Evs_nil ⟨show 1 ≤ sizeLine by decide, fun A hA => St_ ok own ?_⟩
  refine Exs_cons <| Ex_For <| Ev_Call ok K.g (K.bt (n := "range") rfl rfl) trivial <| Evs_cons <| Ev_int <| Evs_cons <| Ev_int <| Evs_nil <| Cal_range2 fun r hr => ?_
  have hEA : Ext H ((H.set A (.list [.int 0])).set r (.range 1 6 1)) := (Ext.rfl.new hA).new hr
  have hit := Iter.rng (G := G) (A := F.A) ok.hd (H := (H.set A (.list [.int 0])).set r (.range 1 6 1)) (HA.set_self _ _ _) (by decide) (by decide) (by decide) (by decide)
  refine ⟨_, _, _, fun i ρ' H' => WayI H H' A ca oa ta ga W base i ρ', hit, ?_, fun _ _ _ _ => trivial, ?_, ?_⟩
  · refine ⟨hEA, ?_, vz, vs vz, vs (vs r1), vs (vs r2), vs (vs r3), vs (vs r4)⟩
    rw [HA.set_old hr (HA.set_self _ _ _)]
    rw [show (List.range (0 + 1)).map (fun i => V.int (W i)) = [V.int (W 0)] from rfl, hW0]
  · rintro i hi ρ1 H1 ⟨hE, hA1, q1, q2, q3, q4, q5, q6⟩
    have hi : i < 5 := hi
    first | rw [show (1 : Int) + (i : Int) * 1 = ((i + 1 : Nat) : Int) by omega] | rw [show (1 : Int) + (i : Int) = ((i + 1 : Nat) : Int) by (clear hclk hb hbase hW0 hpr hx hs hdet hi; omega)]
    refine As_Name (St_ ok own ?_)
    have hto1 := hE _ _ hto
    have hp := hpar (i + 1) (by exact Nat.le_add_left _ _) (by exact Nat.succ_lt_succ hi)
    refine Exs_cons <| Ex_Expr ok <| Ev_Method PySem.F.plainAttrs_list PySem.F.slot_list_append PySem.F.type_list_append <| Ev_Name <| Ld_ ok (vs q1) ⟨TyV.list hA1, Evs_cons <| Ev_Call ok K.g (K.gv (n := "or_") rfl) K.d_or.callee <| Evs_cons <|
      Ev_Call ok K.g (K.gv (n := "getitem") rfl) K.d_getitem.callee <| Evs_cons <| Ev_Name <| Ld_ ok (vs q1) <| Evs_cons <| Ev_Call ok K.g (K.gv (n := "getitem") rfl) K.d_getitem.callee <| Evs_cons <| Ev_Name <| Ld_ ok (vs q4) <| Evs_cons <| Ev_Name <| Ld_ ok vz <| Evs_nil <|
      c_getitem K ok hto1 (by exact Int.natCast_nonneg _) (by exact Int.lt_of_le_of_lt (Int.ofNat_le.mpr hi) (by decide)) (v := .int (par (i + 1))) (by rw [Int.toNat_natCast, rng_get _ (show i + 1 < 6 by exact Nat.succ_lt_succ hi), if_neg (by exact Nat.succ_ne_zero _)]) <| Evs_nil <|
      c_getitem K ok hA1 (by exact Int.natCast_nonneg _) (by (clear hclk hb hbase hW0 hpr hx hs hdet; omega)) (by rw [Int.toNat_natCast]; exact rng_get _ (show par (i + 1) < i + 1 from hp)) <| Evs_cons <|
      Ev_Call ok K.g (K.gv (n := "lshift") rfl) K.d_lshift.callee <| Evs_cons <| Ev_int <| Evs_cons <| Ev_BinOp <| Ev_BinOp <| Ev_Name <| Ld_ ok (vs q2) <| Ev_Name <| Ld_ ok vz <| Bin_add <| Ev_int <| Bin_sub <| Evs_nil <| c_lshift K ok (by (clear hclk hW0 hpr hx hs hdet hp; omega)) (by (clear hclk hW0 hpr hx hs hdet hp; omega)) (by decide) <| Evs_nil <| c_or K ok <| Evs_nil <|
      Cal_append hA1 (by rw [List.length_map, List.length_range]; exact Nat.le_trans (show i + 1 ≤ 6 by exact Nat.le_trans hi (by decide)) (by decide)) <| Exs_nil ⟨hE.set hA, ?_, vs q1, vs q2, vs q3, vs q4, vs q5, vs q6⟩⟩
    rw [HA.set_self, List.range_succ (n := i + 1), List.map_append, List.map_singleton, hW (i + 1) (by exact Nat.le_add_left _ _) (by exact Nat.succ_lt_succ hi)]
    have e2 : ((base : Int) + ((i + 1 : Nat) : Int) - 1).toNat = base + (i + 1) - 1 := by (clear hclk hW0 hpr hx hs hdet hp; omega)
    rw [e2, Int.one_mul]
  · rintro ρ1 H1 ⟨hE, hA1, q1, q2, q3, q4, q5, q6⟩
    have hw1 := hE _ _ hw
    refine Exs_nil <| Exs_cons <| Ex_Assign <| Ev_int <| St_ ok own ?_
    refine Exs_cons <| Ex_For <| Ev_Name <| Ld_ ok (vs q6) ⟨_, _, _, fun i ρ' H' => PrdI H1 H' A ca oa ta ga (prd w i) base ρ', Iter.list ok.hd hw1, ⟨rfl, vz, vs q1, vs q2, vs q3, vs q4, vs q5, vs q6⟩, ?_, ?_, ?_⟩
    · rintro i ρ' H' ⟨rfl, _⟩; exact hw1
    · rintro i hi ρ2 H2 ⟨rfl, p0, p1, p2, p3, p4, p5, p6⟩
      rw [List.length_map, List.length_range] at hi
      rw [rng_get _ hi]
      refine As_Name (St_ ok own ?_)
      exact Exs_cons <| Ex_Assign <| Ev_BinOp <| Ev_Name <| Ld_ ok (vs p0) <| Ev_Name <| Ld_ ok vz <| Bin_mul (IntMulOk.of_right (bits64 (Nat.lt_of_lt_of_le (hws i hi) (by decide)))) <| St_ ok own <| Exs_nil ⟨rfl, vz, vs (vs p1), vs (vs p2), vs (vs p3), vs (vs p4), vs (vs p5), vs (vs p6)⟩
    · rintro ρ2 H2 ⟨rfl, p0, p1, p2, p3, p4, p5, p6⟩
      rw [List.length_map, List.length_range] at p0
      have hc1 := hE _ _ hc
      refine Exs_nil <| Exs_cons <| Ex_Assign <| Ev_BinOp <| Ev_BinOp <| Ev_Call ok K.g (K.bt (n := "abs") rfl rfl) trivial <| Evs_cons <| Ev_Subscript PySem.F.slot_list_getitem.lookup <| Ev_Name <| Ld_ ok p3 <| Ev_int ⟨TyV.list hc1, GetI_list hc1 (by decide) (by decide) (v := .int (c 0)) rfl <| Evs_nil <| Cal_abs <| Ev_int <|
        Bin_floordiv (by decide) (PyProof.noPylong_small (by decide)) <| Ev_BinOp <| Ev_int <| Ev_int <| Bin_pow (by decide) (by decide) <| Bin_mod (by decide) <| St_ ok own ?_⟩
      have em : Int.fmod (Int.fdiv (if c 0 < 0 then -c 0 else c 0) 202176) (2 ^ (18 : Int).toNat) = magX (c 0) := rfl
      rw [em]
      refine Exs_cons <| Ex_If <| Tr_Compare <| Ev_Subscript PySem.F.slot_list_getitem.lookup <| Ev_Name <| Ld_ ok (vs p3) <| Ev_int ⟨TyV.list hc1, GetI_list hc1 (by decide) (by decide) (v := .int (c 0)) rfl <| Ev_int <| Cmp_int (op := .Lt) rfl <| Tru_bool ?_⟩
      have fin : ∀ ρ3 : Vars, ρ3 "ways" = some (.ref A) → ρ3 "trails" = some (.ref ta) → ρ3 "weights" = some (.ref ga) → ρ3 "base" = some (.int base) → ρ3 "least" = some (.int (xOf (c 0))) → ρ3 "product" = some (.int (prd w 5)) →
          Exs G F ((FB 29).drop 25) ρ3 H2 fun fl _ _ => Q (match fl with | .ret v => v | _ => .none) := fun ρ3 k1 k2 k3 k4 k5 k6 =>
        law_D K ok own hclk ⟨hA1, hE _ _ htr, fun i hi => hE _ _ (htr2 i hi), hw1⟩ hb ho hM hpr hx hs k1 k2 k3 k4 k5 k6 hdet h
      by_cases hneg : c 0 < 0
      · rw [decide_eq_true hneg]
        refine Exs_cons <| Ex_Assign <| Ev_UnaryOp <| Ev_Name <| Ld_ ok vz <| Un_neg <| St_ ok own <| Exs_nil <| fin _ (vs (vs p1)) (vs (vs p5)) (vs (vs p6)) (vs (vs p2)) ?_ (vs (vs p0))
        rw [vz]; unfold xOf; rw [if_pos hneg]
      · rw [decide_eq_false hneg]
        refine Exs_nil <| fin _ (vs p1) (vs p5) (vs p6) (vs p2) ?_ (vs p0)
        rw [vz]; unfold xOf; rw [if_neg hneg]
end
end Mine
namespace Mine
theorem dgo_zero (f : Nat) (ds : List Int) : dgo f 0 ds = ds := by cases f <;> simp [dgo]
theorem oct_spec (k w : Nat) (h : w < 262144) : ∃ (cs : List Nat) (c : Nat) (e : Int), oct k w = cs.map (fun x : Nat => (x + 64 : Int)) ++ [(c + e : Int)] ∧ (e = 0 ∨ e = 128) ∧ c < 64 ∧ (∀ x ∈ cs, x < 64) ∧ cs.length ≤ 2 ∧ numb (cs ++ [c]) = w := by
  have he : (((128 * (k % 2 : Nat) : Nat)) : Int) = 0 ∨ (((128 * (k % 2 : Nat) : Nat)) : Int) = 128 := by omega
  by_cases h0 : w / 64 = 0
  · refine ⟨[], w % 64, ((128 * (k % 2 : Nat) : Nat) : Int), ?_, he, Nat.mod_lt _ (by decide), by simp, by decide, ?_⟩
    · unfold oct; rw [h0, dgo_zero]; simp
    · simp [numb]; omega
  · obtain ⟨f, hf⟩ := Nat.exists_eq_succ_of_ne_zero h0
    by_cases h1 : w / 64 / 64 = 0
    · refine ⟨[w / 64 % 64], w % 64, ((128 * (k % 2 : Nat) : Nat) : Int), ?_, he, Nat.mod_lt _ (by decide), ?_, by simp, ?_⟩
      · unfold oct
        rw [show dgo (w / 64) (w / 64) [((w % 64 : Nat) + 128 * (k % 2 : Nat) : Int)] = dgo (f + 1) (w / 64) [((w % 64 : Nat) + 128 * (k % 2 : Nat) : Int)] by rw [hf]]
        unfold dgo
        rw [if_neg h0, h1, dgo_zero]
        simp
      · intro x hx
        rw [List.mem_singleton.mp hx]
        exact Nat.mod_lt _ (by decide)
      · simp [numb]; (clear h he h0 hf; omega)
    · obtain ⟨g, hg⟩ : ∃ g, f = g + 1 := by
        have : 64 ≤ w / 64 := by (clear h he h0; omega)
        exact ⟨f - 1, by (clear h he h0 h1; omega)⟩
      refine ⟨[w / 64 / 64 % 64, w / 64 % 64], w % 64, ((128 * (k % 2 : Nat) : Nat) : Int), ?_, he, Nat.mod_lt _ (by decide), ?_, by simp, ?_⟩
      · unfold oct
        rw [show dgo (w / 64) (w / 64) [((w % 64 : Nat) + 128 * (k % 2 : Nat) : Int)] = dgo (g + 1 + 1) (w / 64) [((w % 64 : Nat) + 128 * (k % 2 : Nat) : Int)] by rw [hf, hg]]
        unfold dgo
        rw [if_neg h0]
        unfold dgo
        rw [if_neg h1, show w / 64 / 64 / 64 = 0 by (clear he h0 h1; omega), dgo_zero]
        simp
      · intro x hx
        simp only [List.mem_cons, List.not_mem_nil, or_false] at hx
        rcases hx with rfl | rfl <;> exact Nat.mod_lt _ (by decide)
      · simp [numb]; (clear he h0 h1; omega)
theorem octs_append (a b : List Nat) : ∀ k, octs k (a ++ b) = octs k a ++ octs (k + a.length) b := by
  induction a with
  | nil => intro k; rfl
  | cons x a ih => intro k; simp only [List.cons_append, octs, List.length_cons]; rw [ih (k + 1), List.append_assoc, show k + 1 + a.length = k + (a.length + 1) by omega]
theorem octs_len (ws : List Nat) : ∀ k, (∀ w ∈ ws, w < 262144) → (octs k ws).length ≤ 3 * ws.length := by
  induction ws with
  | nil => intro k _; simp [octs]
  | cons w ws ih =>
    intro k h
    obtain ⟨cs, c, e, h1, _, _, _, h2, _⟩ := oct_spec k w (h w List.mem_cons_self)
    have := ih (k + 1) fun x hx => h x (List.mem_cons_of_mem _ hx)
    simp only [octs, List.length_append, h1, List.length_map, List.length_cons, List.length_nil]
    omega
theorem octs_get (ws : List Nat) (i : Nat) (hi : i < ws.length) (t : List Int) (j : Nat) (hj : j < (oct i ws[i]).length) : (octs 0 ws ++ t)[(octs 0 (ws.take i)).length + j]? = (oct i ws[i])[j]? := by
  have e : octs 0 ws = octs 0 (ws.take i) ++ (oct i ws[i] ++ octs (i + 1) (ws.drop (i + 1))) := by
    have h1 : ws = ws.take i ++ (ws[i] :: ws.drop (i + 1)) := by rw [List.getElem_cons_drop, List.take_append_drop]
    have h2 := octs_append (ws.take i) (ws[i] :: ws.drop (i + 1)) 0
    rw [← h1] at h2
    rw [h2, List.length_take, Nat.min_eq_left (by exact Nat.le_of_lt hi), Nat.zero_add]
    rfl
  rw [e, List.append_assoc, List.getElem?_append_right (by exact Nat.le_add_right _ _), Nat.add_sub_cancel_left, List.append_assoc, List.getElem?_append_left hj]
theorem octs_step (ws : List Nat) (i : Nat) (hi : i < ws.length) : (octs 0 (ws.take (i + 1))).length = (octs 0 (ws.take i)).length + (oct i ws[i]).length := by
  have h1 : ws.take (i + 1) = ws.take i ++ [ws[i]] := by rw [List.take_add_one, List.getElem?_eq_getElem hi]; rfl
  rw [h1, octs_append, List.length_append, List.length_take, Nat.min_eq_left (by exact Nat.le_of_lt hi), Nat.zero_add]
  simp [octs]
end Mine
namespace Mine
noncomputable def wOf (z : Int) : Nat := (Int.fmod (if z.fdiv 12130560 < 0 then -z.fdiv 12130560 else z.fdiv 12130560) 262144).toNat
theorem wOf_lt (z : Int) : wOf z < 262144 := by
  unfold wOf
  have h1 := Int.fmod_lt_of_pos (if z.fdiv 12130560 < 0 then -z.fdiv 12130560 else z.fdiv 12130560) (show (0 : Int) < 262144 by decide)
  have h2 := Int.fmod_nonneg_of_pos (if z.fdiv 12130560 < 0 then -z.fdiv 12130560 else z.fdiv 12130560) (show (0 : Int) < 262144 by decide)
  omega
theorem wOf_eq (z : Int) : Int.fmod (if z.fdiv 12130560 < 0 then -z.fdiv 12130560 else z.fdiv 12130560) 262144 = (wOf z : Int) := by
  unfold wOf
  have h2 := Int.fmod_nonneg_of_pos (if z.fdiv 12130560 < 0 then -z.fdiv 12130560 else z.fdiv 12130560) (show (0 : Int) < 262144 by decide)
  omega
noncomputable def ExtB (q : Addr) (H H' : HA) : Prop := ∀ a o, H a = some o → a ≠ q → H' a = some o
theorem ExtB.set {H H' : HA} {q : Addr} {o : O} (h : ExtB q H H') : ExtB q H (H'.set q o) := fun a ob e hq => by rw [HA.set_ne hq]; exact h a ob e hq
theorem HA.set_same {H : HA} {a : Addr} {o : O} (h : H a = some o) : H.set a o = H := by
  funext b
  unfold HA.set
  by_cases e : b = a
  · subst e; rw [if_pos rfl, h]
  · rw [if_neg e]
variable [HasP]
section
variable {G : Glb} {F : Fm} {ρ : Vars} {H : HA} {Q : V → Prop} {Kf : Frag}
theorem law_B (K : Kn G) (ok : FOk G F (FS 29) 8) (own : F.own = true) (hclk : 2513 ≤ HasP.clk) (hfr : F.A.frames = some [F.env]) (hfm : F.env.frame = some F.env.locals) {ca oa ta : Addr} {tr : Nat → Addr} {c W : Nat → Int} {T : Nat → List Int} {par : Nat → Nat} {base : Nat}
    (hc : H ca = some (.list ((List.range 6).map fun i => .int (c i)))) (hto : H oa = some (.list ((List.range 6).map fun i => .int (if i = 0 then -1 else (par i : Int)))))
    (htr : H ta = some (.list ((List.range 6).map fun i => .ref (tr i)))) (htr2 : ∀ i, i < 6 → H (tr i) = some (.list ((T i).map V.int)))
    (hb : base < 8) (hbase : (c 0).fmod 8 = (base : Int)) (hpar : ∀ k, 1 ≤ k → k < 6 → par k < k) (hW0 : W 0 = 0) (hW : ∀ k, 1 ≤ k → k < 6 → W k = Builtin.bitOr (W (par k)) (2 ^ (base + k - 1)))
    (ho : ApOk W T base) (hM : ∀ i j, (apV T (fun i => (wOf (c (i + 1)) : Int)) (xOf (c 0)) i j).natAbs < 2 ^ 24) (hpr : (prd (fun i => (wOf (c (i + 1)) : Int)) 5).natAbs < 2 ^ 100) (hx : (xOf (c 0)).natAbs < 2 ^ 18) (hs : (((List.range 5).map fun i => (wOf (c (i + 1)) : Int)).sum).natAbs < 2 ^ 22)
    (r1 : ρ "cells" = some (.ref ca)) (r2 : ρ "told" = some (.ref oa)) (r3 : ρ "trails" = some (.ref ta))
    (hdet : detF (apV T (fun i => (wOf (c (i + 1)) : Int)) (xOf (c 0))) = -16 * prd (fun i => (wOf (c (i + 1)) : Int)) 5 * (((List.range 5).map fun i => (wOf (c (i + 1)) : Int)).sum + 2 * xOf (c 0))) (h : Q (.bool true)) :
    Exs G F ((FB 29).drop 14) ρ H fun fl _ _ => Q (match fl with | .ret v => v | _ => .none) := by
  refine Exs_cons <| Ex_Comp ok K.g <| Ev_Call ok K.g (K.bt (n := "range") rfl rfl) trivial <| Evs_cons <| Ev_int <| Evs_cons <| Ev_int <| Evs_nil <| Cal_range2 fun r hr => ?_
  have hit := Iter.rng (G := G) (A := F.A) ok.hd (H := H.set r (.range 1 6 1)) (HA.set_self _ _ _) (by decide) (by decide) (by decide) (by decide)
  refine ⟨_, _, _, fun i ys H' => H' = H.set r (.range 1 6 1) ∧ ys = (List.range i).map fun i => V.int (wOf (c (i + 1)) : Int), hit, by decide, ⟨rfl, rfl⟩, fun _ _ _ _ => trivial, ?_, ?_⟩
  · rintro Fc okc i hi ys H2 ⟨rfl, rfl⟩
    have hi : i < 5 := hi
    have hc1 := HA.set_old (o := .range 1 6 1) hr hc
    first | rw [show (1 : Int) + (i : Int) * 1 = ((i + 1 : Nat) : Int) by omega] | rw [show (1 : Int) + (i : Int) = ((i + 1 : Nat) : Int) by (clear hclk hb hbase hW0 hpr hx hs hdet hi; omega)]
    refine Ev_BinOp <| Ev_Call okc K.g (K.bt (n := "abs") rfl rfl) trivial <| Evs_cons <| Ev_BinOp <| Ev_Subscript PySem.F.slot_list_getitem.lookup <| Ev_Name <| Ld_ okc (vs (show hideL _ _ "cells" = some (.ref ca) from r1)) <| Ev_Name <| Ld_ okc vz ⟨TyV.list hc1, GetI_list hc1 (by exact Int.natCast_nonneg _) (by exact Int.lt_of_le_of_lt (Int.ofNat_le.mpr hi) (by decide)) (by rw [Int.toNat_natCast]; exact rng_get _ (show i + 1 < 6 by exact Nat.succ_lt_succ hi)) <|
      Ev_int <| Bin_floordiv (by decide) (PyProof.noPylong_small (by decide)) <| Evs_nil <| Cal_abs <| Ev_BinOp <| Ev_int <| Ev_int <| Bin_pow (by decide) (by decide) <| Bin_mod (by decide) ⟨rfl, ?_⟩⟩
    rw [List.range_succ, List.map_append]
    congr 1
    rw [List.map_singleton]
    congr 2
    exact wOf_eq (c (i + 1))
  · rintro ys H2 ⟨rfl, rfl⟩ D hD
    refine St_ ok own ?_
    have hE2 : Ext H ((H.set r (.range 1 6 1)).set D (.list ((List.range 5).map fun i => V.int (wOf (c (i + 1)) : Int)))) := (Ext.rfl.new hr).new hD
    have hD2 : ((H.set r (.range 1 6 1)).set D (.list ((List.range 5).map fun i => V.int (wOf (c (i + 1)) : Int)))) D = some (.list ((List.range 5).map fun i => V.int (wOf (c (i + 1)) : Int))) := HA.set_self _ _ _
    change Exs G F _ _ ((H.set r (.range 1 6 1)).set D (.list ((List.range 5).map fun i => V.int (wOf (c (i + 1)) : Int)))) _
    generalize ((H.set r (.range 1 6 1)).set D (.list ((List.range 5).map fun i => V.int (wOf (c (i + 1)) : Int)))) = H3 at hE2 hD2
    let ws : List Nat := (List.range 5).map fun i => wOf (c (i + 1))
    have hwl : ws.length = 5 := by simp [ws]
    have hwv : ∀ w ∈ ws, w < 262144 := fun w hw => by
      obtain ⟨i, _, rfl⟩ := List.mem_map.mp hw
      exact wOf_lt _
    have hD3 : H3 D = some (.list (ws.map fun w : Nat => V.int w)) := by rw [hD2]; simp only [ws, List.map_map]; rfl
    have hol := octs_len ws 0 hwv
    refine Exs_cons <| Ex_Assign <| Ev_Call ok K.g (K.bt (n := "iter") rfl rfl) trivial <| Evs_cons <| Ev_BinOp <| Ev_Call ok K.g (K.gv (n := "_law_octets") rfl) K.d_octets.callee <| Evs_cons <| Ev_Name <| Ld_ ok vz <| Evs_nil <| c_octets (d := 7) K ok hD3 (by rw [hwl]; decide) hwv fun q H4 hE4 hq hq4 =>
      Ev_List <| Evs_cons <| Ev_int <| Evs_nil ⟨show 1 ≤ sizeLine by decide, fun B hB => Bin_addL ok (HA.set_old hB hq4) (HA.set_self _ _ _) (by rw [List.length_map]; exact Nat.le_trans (show _ ≤ 100 by simp; (clear hclk hb hbase hW0 hpr hx hs hdet; omega)) (by decide)) fun C hC => Evs_nil <| Cal_iter (HA.set_self _ _ _) fun it hi => St_ ok own ?_⟩
    have hap : (octs 0 ws).map V.int ++ [V.int 69] = (octs 0 ws ++ [69]).map V.int := by rw [List.map_append]; rfl
    rw [hap] at hi ⊢
    have hE5 : Ext H3 (((H4.set B (.list [.int 69])).set C (.list ((octs 0 ws ++ [69]).map V.int))).set it (.iter C 0)) := ((hE4.new hB).new hC).new hi
    have hC5 : (((H4.set B (.list [.int 69])).set C (.list ((octs 0 ws ++ [69]).map V.int))).set it (.iter C 0)) C = some (.list ((octs 0 ws ++ [69]).map V.int)) := HA.set_old hi (HA.set_self _ _ _)
    have hi5 : (((H4.set B (.list [.int 69])).set C (.list ((octs 0 ws ++ [69]).map V.int))).set it (.iter C 0)) it = some (.iter C 0) := HA.set_self _ _ _
    have hin : H3 it = none := Ext.none ((hE4.new hB).new hC) hi
    generalize (((H4.set B (.list [.int 69])).set C (.list ((octs 0 ws ++ [69]).map V.int))).set it (.iter C 0)) = H5 at hE5 hC5 hi5
    have hCit : C ≠ it := by rintro rfl; rw [hi5] at hC5; cases hC5
    refine Exs_cons <| Ex_If <| Tr_Compare <| Ev_ListComp ok K.g <| Ev_Call ok K.g (K.bt (n := "range") rfl rfl) trivial <| Evs_cons <| Ev_int <| Evs_nil <| Cal_range1 fun q2 hr2 => ?_
    have hit2 := Iter.rng (G := G) (A := F.A) ok.hd (H := H5.set q2 (.range 0 5 1)) (HA.set_self _ _ _) (by decide) (by decide) (by decide) (by decide)
    have hE6 : Ext H5 (H5.set q2 (.range 0 5 1)) := Ext.rfl.new hr2
    have hC6 := hE6 _ _ hC5
    have hi6 := hE6 _ _ hi5
    generalize (H5.set q2 (.range 0 5 1)) = H6 at hE6 hC6 hi6 hit2
    refine ⟨_, _, _, fun i ys H' => H' = H6.set it (.iter C (octs 0 (ws.take i)).length) ∧ ys = (ws.take i).map fun w : Nat => V.int w, hit2, by decide, ⟨?_, rfl⟩, fun _ _ _ _ => trivial, ?_, ?_⟩
    · exact (HA.set_same hi6).symm
    · rintro Fc okc i hi ys H7 ⟨rfl, rfl⟩
      have hi : i < 5 := hi
      have hiw : i < ws.length := by (clear hclk hb hbase hW0 hpr hx hs hdet hol hCit; omega)
      obtain ⟨cs, cc, e, h1, h2, h3, h4, h5, h6⟩ := oct_spec i ws[i] (hwv _ (List.getElem_mem hiw))
      refine Ev_Call okc K.g (K.gv (n := "_parse_varint") rfl) K.d_varint.callee <| Evs_cons <| Ev_Name <| Ld_ okc (vs (show hideL _ _ "reader" = some (.ref it) from vz)) <| Evs_nil <|
        c_varint (d := 7) K okc (HA.set_self _ _ _) (by rw [HA.set_ne hCit]; exact hC6) h2 h3 h4 (by exact Nat.le_trans h5 (by decide)) (fun j hj => ?_) ⟨?_, ?_⟩
      · rw [octs_get ws i hiw [69] j (by rw [h1]; simp; exact Nat.lt_succ_of_le hj), h1]
      · rw [HA.set_set, octs_step ws i hiw, h1]
        simp [Nat.add_assoc]
      · rw [h6, take_get _ _ _ _ (List.getElem?_eq_getElem hiw)]
    · rintro ys H7 ⟨rfl, rfl⟩ D2 hD2
      have e5 : ws.take 5 = ws := List.take_of_length_le (by exact Nat.le_of_eq hwl)
      rw [show (5 - 0 : Int).toNat = 5 from rfl, e5]
      rw [show (5 - 0 : Int).toNat = 5 from rfl, e5] at hD2
      have hDit : D ≠ it := by rintro rfl; rw [hD3] at hin; cases hin
      have hD7 : (H6.set it (.iter C (octs 0 ws).length)) D = some (.list (ws.map fun w : Nat => V.int w)) := by rw [HA.set_ne hDit]; exact hE6 _ _ (hE5 _ _ hD3)
      have hi7 : (H6.set it (.iter C (octs 0 ws).length)) it = some (.iter C (octs 0 ws).length) := HA.set_self _ _ _
      have hC7 : (H6.set it (.iter C (octs 0 ws).length)) C = some (.list ((octs 0 ws ++ [69]).map V.int)) := by rw [HA.set_ne hCit]; exact hC6
      have hB7 : ∀ a o, H a = some o → (H6.set it (.iter C (octs 0 ws).length)) a = some o := fun a o e => by
        have h3' := hE2 _ _ e
        rw [HA.set_ne (by rintro rfl; rw [h3'] at hin; cases hin)]
        exact hE6 _ _ (hE5 _ _ h3')
      generalize (H6.set it (.iter C (octs 0 ws).length)) = H7 at hD7 hi7 hC7 hB7 hD2
      refine Ev_Name <| Ld_ ok (vs vz) <| Cmp_neInts ok (by decide) (xs := ws.map fun w : Nat => (w : Int)) (ys := ws.map fun w : Nat => (w : Int)) (by rw [HA.set_self, List.map_map]; rfl) (by rw [HA.set_old hD2 hD7, List.map_map]; rfl) <| Tru_bool ?_
      rw [decide_eq_true rfl]
      have hE8 : Ext H7 (H7.set D2 (.list (ws.map fun w : Nat => V.int w))) := Ext.rfl.new hD2
      change Exs G F _ _ (H7.set D2 (.list (ws.map fun w : Nat => V.int w))) _
      generalize (H7.set D2 (.list (ws.map fun w : Nat => V.int w))) = H8 at hE8
      refine Exs_nil <| Exs_cons <| Ex_For <| Ev_Call ok K.g (K.bt (n := "range") rfl rfl) trivial <| Evs_cons <| Ev_int <| Evs_nil <| Cal_range1 fun q3 hr3 => ?_
      have hit3 := Iter.rng (G := G) (A := F.A) ok.hd (H := H8.set q3 (.range 0 2 1)) (HA.set_self _ _ _) (by decide) (by decide) (by decide) (by decide)
      have hE9 : Ext H7 (H8.set q3 (.range 0 2 1)) := hE8.new hr3
      generalize (H8.set q3 (.range 0 2 1)) = H9 at hE9 hit3
      refine ⟨_, _, _, fun i ρ' H' => ExtB it H7 H' ∧ Rd H' it ∧ ρ' "cells" = some (.ref ca) ∧ ρ' "told" = some (.ref oa) ∧ ρ' "trails" = some (.ref ta) ∧ ρ' "weights" = some (.ref D) ∧ ρ' "reader" = some (.ref it), hit3, ?_, fun _ _ _ _ => trivial, ?_, ?_⟩
      · refine ⟨fun a o e _ => hE9 _ _ e, .inr ⟨C, (octs 0 ws).length, octs 0 ws ++ [69], hE9 _ _ hi7, hE9 _ _ hC7, ?_, ?_⟩, vs (vs r1), vs (vs r2), vs (vs r3), vs vz, vz⟩
        · rw [List.getElem?_append_right (Nat.le_refl _), Nat.sub_self]; rfl
        · rw [List.getElem?_eq_none_iff, List.length_append]; simp
      · rintro i hi ρ1 H10 ⟨hE10, hrd, q1, q2, q3, q4, q5⟩
        refine As_Name (St_ ok own ?_)
        exact Exs_cons <| Ex_TryStop (d := 7) K ok hfr hfm (vs q5) hrd <| Exs_nil ⟨hE10.set, .inl (HA.set_self _ _ _), vs q1, vs q2, vs q3, vs q4, vs q5⟩
      · rintro ρ1 H10 ⟨hE10, hrd, q1, q2, q3, q4, q5⟩
        have hB10 : ∀ a o, H a = some o → H10 a = some o := fun a o e => hE10 _ _ (hB7 _ _ e) (by
          rintro rfl
          rw [hE2 _ _ e] at hin; cases hin)
        refine Exs_nil ?_
        exact law_C (w := fun i => (wOf (c (i + 1)) : Int)) K ok own hclk (hB10 _ _ hc) (hB10 _ _ hto) (hB10 _ _ htr) (fun i hi => hB10 _ _ (htr2 i hi)) ((hE10 _ _ hD7 hDit).trans (by simp only [ws, List.map_map]; rfl)) hb hbase hpar hW0 hW
          (fun i hi => by rw [Int.natAbs_natCast]; exact wOf_lt _) ho hM hpr hx hs q1 q2 q3 q4 hdet h
end
end Mine
namespace Mine
section
variable {d : Nat → Nat → Int} {w : Nat → Int}
theorem fdiv_1 (x : Int) : Int.fdiv x 1 = x := Int.fdiv_one x
noncomputable def DM (d : Nat → Nat → Int) (w : Nat → Int) (x : Int) (M : Mat) : Prop := ∀ i j, i < 6 → j < 6 → M i j = x + hG d w 5 1 i + hG d w 5 1 j - 2 * sG d w 5 1 i j
theorem det_pos {M : Mat} {x : Int} (D : Dg d) (hM : DM d w x M) (hw : ∀ m, 1 ≤ m → m < 6 → 0 < w m) : detF M = -16 * wP w 5 1 * (wS w 5 1 + 2 * x) := by
  have h00 : M 0 0 = x := by rw [hM 0 0 (by decide) (by decide), hG_lo D _ _ _ (by decide), sG_lo D _ _ _ _ (by decide)]; omega
  have hi0 : ∀ i, i < 6 → M i 0 = x + hG d w 5 1 i := fun i h => by rw [hM i 0 h (by decide), hG_lo D _ _ 0 (by decide), sG_lo' D _ _ _ _ (by decide)]; (clear h00 h; omega)
  have h0j : ∀ i, i < 6 → M 0 i = x + hG d w 5 1 i := fun i h => by rw [hM 0 i (by decide) h, hG_lo D _ _ 0 (by decide), sG_lo D _ _ _ _ (by decide)]; (clear h00 h; omega)
  by_cases hx : x = 0
  · subst hx
    have h10 : M 1 0 = w 1 := by rw [hi0 1 (by decide), hG_k D]; omega
    have h1j : ∀ j, j < 6 → M 1 j = w 1 + hG d w 5 1 j - 2 * (w 1 * d j 1) := fun j h => by rw [hM 1 j (by decide) h, hG_k D, sG_k D]; (clear h00 h10 h; omega)
    have w1 := hw 1 (by decide) (by decide)
    obtain ⟨l, hl⟩ := findP_next (M := M) (k := 0) (by decide) h00 (by rw [h10]; (clear h00 h10; omega))
    unfold detF
    rw [detGo, hl]
    dsimp only
    rw [if_neg (by exact Nat.succ_ne_zero _), stepM_kk, sw_k, h10]
    have r1 : ∀ j, 1 ≤ j → j < 6 → stepM (swapM M 0 1) 0 1 1 j = hG d w 5 1 j * w 1 := fun j j1 j2 => by
      rw [stepM_in (by exact Nat.lt_succ_self _) (by exact Nat.lt_of_le_of_lt j1 j2) (by exact Nat.lt_of_succ_le j1) j2, sw_k1 M 0, sw_k1 M 0, sw_k M 0, sw_k M 0, h00, h10, fdiv_1, h0j j j2]; grind
    have rij : ∀ i j, 2 ≤ i → i < 6 → 1 ≤ j → j < 6 → stepM (swapM M 0 1) 0 1 i j = w 1 * hG d w 5 1 j - 2 * w 1 * sG d w 5 1 i j - hG d w 5 1 i * hG d w 5 1 j + 2 * w 1 * hG d w 5 1 i * d j 1 := fun i j i1 i2 j1 j2 => by
      rw [stepM_in (by (clear h00 h10 w1 j1 j2; omega)) (by assumption) (by exact Nat.lt_of_succ_le j1) j2, sw_i M (k := 0) i1, sw_i M (k := 0) i1, sw_k M 0, sw_k M 0, fdiv_1, h10, hi0 i i2, h1j j j2, hM i j i2 j2]; grind
    have z2 : stepM (swapM M 0 1) 0 1 1 1 = w 1 * w 1 := by rw [r1 1 (by decide) (by decide), hG_k D]
    have z3 : stepM (swapM M 0 1) 0 1 1 1 ≠ 0 := by rw [z2]; exact pos_mul (by (clear h00 h10 z2; omega)) (by (clear h00 h10 z2; omega))
    obtain ⟨l2, hl2⟩ := findP_self (M := stepM (swapM M 0 1) 0 1) (k := 1) (by decide) z3
    rw [detGo, hl2]
    dsimp only
    rw [if_pos rfl, stepM_kk, z2]
    have S : StM d w 3 2 (stepM (stepM (swapM M 0 1) 0 1) 1 (w 1)) (-2 * w 1) (w 1) := by
      intro i j i1 i2 j1 j2
      rw [stepM_in (by exact Nat.lt_of_succ_le i1) i2 (by exact Nat.lt_of_succ_le j1) j2]
      refine fdiv_of ?_ (by (clear h00 h10 z2 z3 i1 i2 j1 j2; omega))
      rw [z2, rij i j i1 i2 (by exact Nat.le_of_succ_le j1) j2, rij i 1 i1 i2 (by exact Nat.le_refl _) (by exact Nat.lt_trans i1 i2), r1 j (by exact Nat.le_of_succ_le j1) j2, hG_k D, sG_k' D, D.diag]
      rw [show sG d w 5 1 i j = w 1 * d i 1 * d j 1 + sG d w 4 2 i j from rfl, show hG d w 5 1 i = w 1 * d i 1 + hG d w 4 2 i from rfl, show hG d w 5 1 j = w 1 * d j 1 + hG d w 4 2 j from rfl]
      show _ = -2 * w 1 * (sG d w 4 2 i j * w 1 + hG d w 4 2 i * hG d w 4 2 j) * w 1
      generalize hG d w 4 2 j = hj
      generalize hG d w 4 2 i = hi
      generalize sG d w 4 2 i j = s
      generalize d i 1 = di
      generalize d j 1 = dj
      generalize w 1 = y at *
      grind
    rw [go 3 2 _ _ _ _ _ D (by decide) S (pos_mul (by decide) (by (clear h00 h10 z2 z3; omega))) (by grind) (pos_mul (by (clear h00 h10 z2 z3; omega)) (by (clear h00 h10 z2 z3; omega))) fun m h1 h2 => hw m (by exact Nat.le_of_succ_le h1) h2]
    simp only [pw, wP, wS]
    generalize w 1 = y1 at *
    generalize w (1 + 1) = y2 at *
    grind
  · obtain ⟨l, hl⟩ := findP_self (M := M) (k := 0) (by decide) (by rw [h00]; exact hx)
    unfold detF
    rw [detGo, hl]
    dsimp only
    rw [if_pos rfl, stepM_kk, h00]
    have S : StM d w 4 1 (stepM M 0 1) (-1) (2 * x) := by
      intro i j i1 i2 j1 j2
      rw [stepM_in (by exact Nat.lt_of_succ_le i1) i2 (by exact Nat.lt_of_succ_le j1) j2, fdiv_1, h00, hi0 i i2, h0j j j2, hM i j i2 j2]
      grind
    rw [go 4 1 _ _ _ _ _ D (by decide) S (by decide) (by (clear h00 hx; omega)) hx hw]
    simp only [pw, wP, wS]
    grind
theorem hG_like {m p : Nat} (hd : ∀ r, r ≠ m → d m r = d p r) (hw : w m = 0) : ∀ n k, hG d w n k m = hG d w n k p
  | 0, k => rfl
  | n + 1, k => by
    rw [hG_s, hG_s, hG_like hd hw n (k + 1)]
    by_cases e : k = m
    · subst e; rw [hw, Int.zero_mul, Int.zero_mul]
    · rw [hd k e]
theorem sG_like {m p : Nat} (hd : ∀ r, r ≠ m → d m r = d p r) (hw : w m = 0) (i : Nat) : ∀ n k, sG d w n k i m = sG d w n k i p
  | 0, k => rfl
  | n + 1, k => by
    rw [sG_s, sG_s, sG_like hd hw i n (k + 1)]
    by_cases e : k = m
    · subst e; rw [hw, Int.zero_mul, Int.zero_mul, Int.zero_mul]
    · rw [hd k e]
theorem wP_zero {m : Nat} (hw : w m = 0) : ∀ n k, k ≤ m → m < k + n → wP w n k = 0
  | 0, k, h1, h2 => by exact absurd (Nat.lt_of_lt_of_le h2 h1) (Nat.lt_irrefl _)
  | n + 1, k, h1, h2 => by
    unfold wP
    by_cases e : k = m
    · subst e; rw [hw, Int.zero_mul]
    · rw [wP_zero hw n (k + 1) (by (clear hw h2; omega)) (by (clear hw h1 e; omega)), Int.mul_zero]
theorem det_all {M : Mat} {x : Int} {par : Nat → Nat} (D : Dg d) (hM : DM d w x M) (h0 : ∀ m, 0 ≤ w m) (hp : ∀ m, 1 ≤ m → m < 6 → par m < m ∧ ∀ r, r ≠ m → d m r = d (par m) r) : detF M = -16 * wP w 5 1 * (wS w 5 1 + 2 * x) := by
  by_cases hw : ∀ m, 1 ≤ m → m < 6 → 0 < w m
  · exact det_pos D hM hw
  · obtain ⟨m, hm⟩ := Classical.not_forall.mp hw
    obtain ⟨m1, hm⟩ := Classical.not_imp.mp hm
    obtain ⟨m2, hm⟩ := Classical.not_imp.mp hm
    have hz : w m = 0 := by have := h0 m; (clear m1 m2 hm; omega)
    rw [wP_zero hz 5 1 m1 (by assumption), Int.mul_zero, Int.zero_mul]
    unfold detF
    obtain ⟨p1, p2⟩ := hp m m1 m2
    refine like_cols 5 0 M 1 1 (par m) m (by decide) (Nat.zero_le _) p1 m2 fun i _ hi => ?_
    rw [hM i _ hi (by exact Nat.lt_trans p1 m2), hM i _ hi m2, hG_like p2 hz, sG_like p2 hz]
end
end Mine
namespace Mine
section
variable (c : Nat → Int)
theorem trN_s (k : Nat) : trN c (k + 1) = trN c (parN c (k + 1)) ++ [k + 1] := atPar_step c _ _ k
theorem trN_in (k : Nat) : ∀ r ∈ trN c k, 1 ≤ r ∧ r ≤ k := by
  induction k using Nat.strongRecOn with
  | _ k ih =>
    intro r hr
    match k, hr, ih with
    | 0, hr, ih => exact absurd hr List.not_mem_nil
    | k + 1, hr, ih =>
      rw [trN_s] at hr
      have hp := parN_le c k
      rcases List.mem_append.mp hr with h | h
      · have := ih _ (by omega) r h
        omega
      · rw [List.mem_singleton] at h; omega
theorem trI_has (k m : Nat) : (trI c k).contains ((m : Nat) : Int) = decide (m ∈ trN c k) := by
  rw [List.contains_eq_mem]
  congr 1
  apply propext
  unfold trI
  rw [List.mem_map]
  constructor
  · rintro ⟨a, h, e⟩
    obtain rfl : a = m := by omega
    exact h
  · exact fun h => ⟨m, h, rfl⟩
noncomputable def dN (i m : Nat) : Int := if m = 0 ∨ m ∈ trN c i then 1 else 0
theorem dN_ok : Dg (dN c) where
  diag i := by
    unfold dN
    match i with
    | 0 => rfl
    | i + 1 => rw [if_pos (.inr (by rw [trN_s]; simp))]
  up i m h := by
    unfold dN
    rw [if_neg]
    rintro (e | e)
    · omega
    · have := trN_in c i m e; omega
theorem dN_par (m : Nat) (h1 : 1 ≤ m) (h2 : m < 6) : parN c m < m ∧ ∀ r, r ≠ m → dN c m r = dN c (parN c m) r := by
  obtain ⟨k, rfl⟩ : ∃ k, m = k + 1 := ⟨m - 1, by omega⟩
  refine ⟨by have := parN_le c k; (clear h1 h2; omega), fun r hr => ?_⟩
  unfold dN
  simp only [trN_s, List.mem_append, List.mem_singleton, hr, or_false]
noncomputable def wI (m : Nat) : Int := (wOf (c m) : Int)
theorem filt_sum {α : Type} (f : α → Bool) (g : α → Int) : ∀ l : List α, ((l.filter f).map g).sum = (l.map fun t => if f t then g t else 0).sum
  | [] => rfl
  | a :: l => by
    rw [List.filter_cons, List.map_cons, List.sum_cons, ← filt_sum f g l]
    split
    · rw [List.map_cons, List.sum_cons]
    · rw [Int.zero_add]
theorem btw_sum (i j : Nat) : ((btw (trI c) i j).map fun t => (wOf (c (t + 1)) : Int)).sum = ((List.range 5).map fun t : Nat => if (decide (t + 1 ∈ trN c i) != decide (t + 1 ∈ trN c j)) then wI c (t + 1) else 0).sum := by
  unfold btw
  rw [filt_sum]
  congr 1
  apply List.map_congr_left
  intro t _
  have e : ((t : Int) + 1) = ((t + 1 : Nat) : Int) := by omega
  rw [e, trI_has, trI_has]
  rfl
theorem dN_term (i j m : Nat) (hm : m ≠ 0) (y : Int) : (if (decide (m ∈ trN c i) != decide (m ∈ trN c j)) then y else 0) = y * dN c i m + y * dN c j m - 2 * (y * dN c i m * dN c j m) := by
  unfold dN
  by_cases h1 : m ∈ trN c i <;> by_cases h2 : m ∈ trN c j <;> simp [h1, h2, hm] <;> omega
theorem sum4 {f g h k : Nat → Int} : ∀ l : List Nat, (∀ t ∈ l, k t = f t + g t - 2 * h t) → (l.map k).sum = (l.map f).sum + (l.map g).sum - 2 * (l.map h).sum
  | [], _ => rfl
  | a :: l, e => by
    have e1 := e a List.mem_cons_self
    have e2 := sum4 l fun t ht => e t (List.mem_cons_of_mem _ ht)
    simp only [List.map_cons, List.sum_cons]
    rw [e1, e2]
    clear e e1 e2
    omega
theorem apV_DM (x : Int) : DM (dN c) (wI c) x (apV (trI c) (fun t => (wOf (c (t + 1)) : Int)) x) := by
  intro i j _ _
  unfold apV
  rw [btw_sum, sum4 (f := fun t => wI c (t + 1) * dN c i (t + 1)) (g := fun t => wI c (t + 1) * dN c j (t + 1)) (h := fun t => wI c (t + 1) * dN c i (t + 1) * dN c j (t + 1)) _ fun t _ => dN_term c i j (t + 1) (Nat.succ_ne_zero t) _]
  show x + (hG (dN c) (wI c) 5 1 i + hG (dN c) (wI c) 5 1 j - 2 * sG (dN c) (wI c) 5 1 i j) = _
  rw [← Int.add_sub_assoc, ← Int.add_assoc]
theorem pl_det : detF (apV (trI c) (fun i => (wOf (c (i + 1)) : Int)) (xOf (c 0))) = -16 * prd (fun i => (wOf (c (i + 1)) : Int)) 5 * (((List.range 5).map fun i => (wOf (c (i + 1)) : Int)).sum + 2 * xOf (c 0)) := by
  rw [det_all (dN_ok c) (apV_DM c _) (fun m => Int.natCast_nonneg _) (dN_par c)]
  have e1 : wP (wI c) 5 1 = prd (fun i => (wOf (c (i + 1)) : Int)) 5 := by
    simp only [wP, prd, wI]; grind
  have e2 : wS (wI c) 5 1 = ((List.range 5).map fun i => (wOf (c (i + 1)) : Int)).sum := by
    show _ = ([0, 1, 2, 3, 4].map _).sum
    simp only [wS, wI, List.map_cons, List.map_nil, List.sum_cons, List.sum_nil]
  rw [e1, e2]
theorem pl_x (z : Int) : (xOf z).natAbs < 2 ^ 18 := by
  have h1 := Int.fmod_lt_of_pos ((if z < 0 then -z else z).fdiv 202176) (show (0 : Int) < 262144 by decide)
  have h2 := Int.fmod_nonneg_of_pos ((if z < 0 then -z else z).fdiv 202176) (show (0 : Int) < 262144 by decide)
  have h : 0 ≤ magX z ∧ magX z < 262144 := by unfold magX; exact ⟨h2, h1⟩
  unfold xOf
  split <;> (clear h1 h2; omega)
theorem sum_bd {α : Type} (g : α → Nat) {B : Nat} (h : ∀ a, g a ≤ B) : ∀ l : List α, ∃ m : Nat, (l.map fun a => (g a : Int)).sum = (m : Int) ∧ m ≤ l.length * B
  | [] => ⟨0, rfl, Nat.zero_le _⟩
  | a :: l => by
    obtain ⟨m, e, hm⟩ := sum_bd g h l
    refine ⟨g a + m, by rw [List.map_cons, List.sum_cons, e]; rfl, ?_⟩
    rw [List.length_cons, Nat.add_mul, Nat.one_mul, Nat.add_comm]
    exact Nat.add_le_add hm (h a)
theorem wOf_le (t : Nat) : wOf (c (t + 1)) ≤ 262143 := Nat.le_of_lt_succ (wOf_lt _)
theorem pl_s : (((List.range 5).map fun i => (wOf (c (i + 1)) : Int)).sum).natAbs < 2 ^ 22 := by
  obtain ⟨m, e, hm⟩ := sum_bd (fun i => wOf (c (i + 1))) (wOf_le c) (List.range 5)
  rw [e, Int.natAbs_natCast]
  exact Nat.lt_of_le_of_lt hm (by decide)
theorem abs_bd {x : Int} {m : Nat} (hx : x.natAbs < 2 ^ 18) (hm : m ≤ 5 * 262143) : (x + (m : Int)).natAbs < 2 ^ 24 := by omega
theorem pl_bd (x : Int) (hx : x.natAbs < 2 ^ 18) (i j : Nat) : (apV (trI c) (fun i => (wOf (c (i + 1)) : Int)) x i j).natAbs < 2 ^ 24 := by
  obtain ⟨m, e, hm⟩ := sum_bd (fun i => wOf (c (i + 1))) (wOf_le c) (btw (trI c) i j)
  unfold apV
  rw [e]
  refine abs_bd hx (Nat.le_trans hm (Nat.mul_le_mul_right _ ?_))
  unfold btw
  exact Nat.le_trans (List.length_filter_le _ _) (by simp)
theorem pl_pr : (prd (fun i => (wOf (c (i + 1)) : Int)) 5).natAbs < 2 ^ 100 := by
  simp only [prd, Int.natAbs_mul, Int.natAbs_natCast]
  have h : ∀ a b m : Nat, a ≤ m → b < 262144 → a * b ≤ m * 262144 := fun a b m ha hb => Nat.mul_le_mul ha (by omega)
  have h0 := wOf_lt (c (0 + 1)); have h1 := wOf_lt (c (1 + 1)); have h2 := wOf_lt (c (2 + 1)); have h3 := wOf_lt (c (3 + 1)); have h4 := wOf_lt (c (4 + 1))
  refine Nat.lt_of_le_of_lt (h _ _ _ (h _ _ _ (h _ _ _ (h _ _ _ (h _ _ _ (Nat.le_refl _) h0) h1) h2) h3) h4) ?_
  decide
end
end Mine
namespace Mine
theorem pfT_ok : ∀ b, b < 8 → ∀ m, m < 32 → m ≠ 0 → pfT 12 0 ((2 ^ b * m : Nat) : Int) [] = some (bitsT b m) := by decide +kernel
theorem and_nat (a b : Nat) : Builtin.bitAnd (a : Int) (b : Int) = ((a &&& b : Nat) : Int) := by
  unfold Builtin.bitAnd
  rw [decide_eq_true (show (0 : Int) ≤ a by exact Int.natCast_nonneg _), decide_eq_true (show (0 : Int) ≤ b by exact Int.natCast_nonneg _)]
  rfl
theorem or_nat (a b : Nat) : Builtin.bitOr (a : Int) (b : Int) = ((a ||| b : Nat) : Int) := by
  unfold Builtin.bitOr Builtin.bitAnd Builtin.bitNot
  rw [decide_eq_false (show ¬ (0 : Int) ≤ -(a : Int) - 1 by omega), decide_eq_false (show ¬ (0 : Int) ≤ -(b : Int) - 1 by omega)]
  dsimp only
  rw [show (-(-(a : Int) - 1) - 1).toNat = a by omega, show (-(-(b : Int) - 1) - 1).toNat = b by omega]
  omega
theorem xor_small : ∀ x, x < 32 → ∀ y, y < 32 → (x ||| y) = (x ^^^ y) + (x &&& y) := by decide +kernel
theorem mul_or (b x y : Nat) : 2 ^ b * x ||| 2 ^ b * y = 2 ^ b * (x ||| y) := by
  rw [Nat.mul_comm _ x, Nat.mul_comm _ y, Nat.mul_comm _ (x ||| y), ← Nat.shiftLeft_eq, ← Nat.shiftLeft_eq, ← Nat.shiftLeft_eq, Nat.shiftLeft_or_distrib]
theorem mul_and (b x y : Nat) : 2 ^ b * x &&& 2 ^ b * y = 2 ^ b * (x &&& y) := by
  rw [Nat.mul_comm _ x, Nat.mul_comm _ y, Nat.mul_comm _ (x &&& y), ← Nat.shiftLeft_eq, ← Nat.shiftLeft_eq, ← Nat.shiftLeft_eq, Nat.shiftLeft_and_distrib]
theorem or_ok (b : Nat) (hb : b < 8) (x : Nat) (hx : x < 32) (y : Nat) (hy : y < 32) : Builtin.bitOr ((2 ^ b * x : Nat) : Int) ((2 ^ b * y : Nat) : Int) = ((2 ^ b * (x ||| y) : Nat) : Int) := by
  rw [or_nat, mul_or]
theorem xor_ok (b : Nat) (hb : b < 8) (x : Nat) (hx : x < 32) (y : Nat) (hy : y < 32) : Builtin.bitXor ((2 ^ b * x : Nat) : Int) ((2 ^ b * y : Nat) : Int) = ((2 ^ b * (x ^^^ y) : Nat) : Int) := by
  unfold Builtin.bitXor
  rw [or_nat, and_nat, mul_or, mul_and, xor_small x hx y hy, Nat.mul_add]
  (clear hb hx hy; omega)
theorem nm_plain : ∀ i, i < 12 → 44 ∉ (nmT i).cps.toList := by decide +kernel
theorem nm_len : ∀ i, i < 12 → (nmT i).length ≤ 24 := by decide +kernel
theorem bitsT_mem {b m : Nat} (hb : b < 8) {y : Str} (h : y ∈ bitsT b m) : ∃ i, i < 12 ∧ y = nmT i := by
  unfold bitsT at h
  obtain ⟨t, ht, e⟩ := List.mem_map.mp h
  have := List.mem_range.mp (List.mem_filter.mp ht).1
  exact ⟨b + t, by omega, e.symm⟩
theorem bitsT_len (b m : Nat) : (bitsT b m).length ≤ 5 := by
  unfold bitsT
  rw [List.length_map]
  exact Nat.le_trans (List.length_filter_le _ _) (by simp)
theorem bitsT_ne {b m : Nat} (hm : m < 32) (h : m ≠ 0) : bitsT b m ≠ [] := by
  have : ∀ m, m < 32 → m ≠ 0 → (List.range 5).filter (fun t => m.testBit t) ≠ [] := by decide +kernel
  unfold bitsT
  exact fun e => this m hm h (List.map_eq_nil_iff.mp e)
theorem sum_le24 : ∀ (xs : List Str), (∀ x ∈ xs, x.length ≤ 24) → (xs.map (·.length)).sum ≤ 24 * xs.length
  | [], _ => Nat.le_refl _
  | x :: xs, h => by
    have h1 := h x List.mem_cons_self
    have h2 := sum_le24 xs fun y hy => h y (List.mem_cons_of_mem _ hy)
    simp only [List.map_cons, List.sum_cons, List.length_cons]
    omega
theorem flags_ok {b m : Nat} (hb : b < 8) (hm : m < 32) (h0 : m ≠ 0) : pfGo 32 0 ((2 ^ b * m : Nat) : Int) [] = bitsT b m ∧ pfSafe 32 0 ((2 ^ b * m : Nat) : Int) = true ∧ (Txt.join sepT (bitsT b m)).length + 2 ≤ sizeLine ∧
    Txt.split (Txt.join sepT (bitsT b m)) sepT = bitsT b m := by
  obtain ⟨e1, e2⟩ := pfT_go 12 20 0 _ [] _ (Nat.le_refl _) (pfT_ok b hb m hm h0)
  refine ⟨e1, e2, ?_, split_join _ (bitsT_ne hm h0) fun y hy => ?_⟩
  · have h1 := StrLaws.join_length_le sepT (bitsT b m)
    have h2 := sum_le24 (bitsT b m) fun y hy => by
      obtain ⟨i, hi, rfl⟩ := bitsT_mem hb hy
      exact nm_len i hi
    have h3 := bitsT_len b m
    have h4 : sepT.length = 2 := rfl
    have h5 : (1000 : Nat) ≤ sizeLine := by decide
    have h6 : Txt.join sepT (bitsT b m) = Str.join sepT (bitsT b m) := StrLaws.glued_eq_join _ _
    rw [h6]
    rw [h4] at h1
    (clear hb hm h0 h4; omega)
  · obtain ⟨i, hi, rfl⟩ := bitsT_mem hb hy
    exact nm_plain i hi
theorem pfGo_zero : ∀ (k i : Nat) (ns : List Str), (∀ j, j < i + k → Builtin.bitAnd 0 (2 ^ j) = 0) → pfGo k i 0 ns = ns ++ [zeroT] ∧ pfSafe k i 0 = true
  | 0, i, ns, h => by
    unfold pfGo pfSafe
    rw [hex0]; exact ⟨rfl, rfl⟩
  | k + 1, i, ns, h => by
    unfold pfGo pfSafe
    rw [if_pos (h i (by omega)), if_pos (h i (by omega))]
    exact pfGo_zero k (i + 1) ns fun j hj => h j (by omega)
theorem and_zero : ∀ j, j < 32 → Builtin.bitAnd 0 (2 ^ j) = 0 := by decide +kernel
theorem zero_ok : pfGo 32 0 0 [] = [zeroT] ∧ pfSafe 32 0 0 = true ∧ (Txt.join sepT [zeroT]).length + 2 ≤ sizeLine ∧ Txt.split (Txt.join sepT [zeroT]) sepT = [zeroT] := by
  obtain ⟨a, b⟩ := pfGo_zero 32 0 [] (by simpa using and_zero)
  have h5 : (1000 : Nat) ≤ sizeLine := by decide
  have h6 : (Txt.join sepT [zeroT]).length = 3 := rfl
  exact ⟨a, b, by omega, split_join _ (by simp) (by decide +kernel)⟩
section
variable (c : Nat → Int)
noncomputable def mk : Nat → Nat := atPar c 0 fun k v => v ||| 2 ^ (k - 1)
theorem mk_s (k : Nat) : mk c (k + 1) = mk c (parN c (k + 1)) ||| 2 ^ k := atPar_step c _ _ k
theorem mk_bit (k : Nat) : ∀ t, (mk c k).testBit t = decide (t + 1 ∈ trN c k) := by
  induction k using Nat.strongRecOn with
  | _ k ih =>
    intro t
    match k, ih with
    | 0, ih => exact Nat.zero_testBit t
    | k + 1, ih =>
      rw [mk_s, Nat.testBit_or, ih _ (by have := parN_le c k; exact Nat.lt_succ_of_le this), Nat.testBit_two_pow, trN_s]
      by_cases h1 : t + 1 ∈ trN c (parN c (k + 1)) <;> by_cases h2 : k = t <;> simp [h1, h2] <;> exact fun e => h2 e.symm
theorem mk_lt (k : Nat) (hk : k < 6) : mk c k < 32 := by
  refine Nat.lt_pow_two_of_testBit (n := 5) _ fun t ht => ?_
  rw [mk_bit, decide_eq_false_iff_not]
  intro h
  have := trN_in c k _ h
  omega
noncomputable def bs : Nat := ((c 0).fmod 8).toNat
theorem bs_ok : bs c < 8 ∧ (c 0).fmod 8 = (bs c : Int) := by
  have h1 := Int.fmod_lt_of_pos (c 0) (show (0 : Int) < 8 by decide)
  have h2 := Int.fmod_nonneg_of_pos (c 0) (show (0 : Int) < 8 by decide)
  unfold bs
  omega
noncomputable def WN (k : Nat) : Int := ((2 ^ bs c * mk c k : Nat) : Int)
theorem WN_s (k : Nat) (h1 : 1 ≤ k) (h2 : k < 6) : WN c k = Builtin.bitOr (WN c (parN c k)) (2 ^ (bs c + k - 1)) := by
  obtain ⟨k, rfl⟩ : ∃ j, k = j + 1 := ⟨k - 1, by omega⟩
  have e : ((2 : Int) ^ (bs c + (k + 1) - 1)) = ((2 ^ bs c * 2 ^ k : Nat) : Int) := by
    rw [← Nat.pow_add, show bs c + (k + 1) - 1 = bs c + k by omega]; norm_cast
  have hp : (2 : Nat) ^ k < 32 := Nat.pow_lt_pow_right (a := 2) (n := 5) (by decide) (by exact Nat.lt_of_succ_lt_succ h2)
  rw [e]
  unfold WN
  rw [or_ok _ (bs_ok c).1 _ (mk_lt c _ (by have := parN_le c k; (clear e hp; omega))) _ hp, mk_s]
theorem btw_bits (i j : Nat) : btw (trI c) i j = (List.range 5).filter fun t => (mk c i ^^^ mk c j).testBit t := by
  unfold btw
  congr 1
  funext t
  have e : ((t : Int) + 1) = ((t + 1 : Nat) : Int) := by omega
  rw [e, trI_has, trI_has, Nat.testBit_xor, mk_bit, mk_bit]
noncomputable def mkO : Nat → Nat
  | 0 => 0
  | i + 1 => mkO i ||| mk c i
theorem mkO_lt : ∀ k, k ≤ 6 → mkO c k < 32
  | 0, _ => Nat.zero_lt_succ 31
  | k + 1, h => Nat.or_lt_two_pow (n := 5) (mkO_lt k (by exact Nat.le_of_succ_le h)) (mk_lt c k (by exact Nat.lt_of_succ_le h))
theorem whO_eq : ∀ k, k ≤ 6 → whO (WN c) k = ((2 ^ bs c * mkO c k : Nat) : Int)
  | 0, _ => by unfold whO mkO; rfl
  | k + 1, h => by
    unfold whO mkO
    rw [whO_eq k (by exact Nat.le_of_succ_le h)]
    exact or_ok _ (bs_ok c).1 _ (mkO_lt c k (by exact Nat.le_of_succ_le h)) _ (mk_lt c k (by exact Nat.lt_of_succ_le h))
theorem mkO_bit : ∀ k t, t + 1 < k → (mkO c k).testBit t = true
  | 0, t, h => by omega
  | k + 1, t, h => by
    unfold mkO
    rw [Nat.testBit_or]
    by_cases e : k = t + 1
    · subst e
      rw [mk_bit, trN_s, decide_eq_true (by simp), Bool.or_true]
    · rw [mkO_bit k t (by omega), Bool.true_or]
theorem all_31' : ∀ m, m < 32 → (m.testBit 0 && m.testBit 1 && m.testBit 2 && m.testBit 3 && m.testBit 4) = true → m = 31 := by decide +kernel
theorem all_31 (m : Nat) (h : m < 32) (h0 : m.testBit 0 = true) (h1 : m.testBit 1 = true) (h2 : m.testBit 2 = true) (h3 : m.testBit 3 = true) (h4 : m.testBit 4 = true) : m = 31 := all_31' m h (by rw [h0, h1, h2, h3, h4]; rfl)
theorem pl_ap : ApOk (WN c) (trI c) (bs c) := by
  have hb := (bs_ok c).1
  refine ⟨fun i j hj hi => ?_, ?_, ?_⟩
  · have hx : Builtin.bitXor (WN c i) (WN c j) = ((2 ^ bs c * (mk c i ^^^ mk c j) : Nat) : Int) := xor_ok _ hb _ (mk_lt c i hi) _ (mk_lt c j (by exact Nat.lt_of_le_of_lt hj hi))
    rw [hx]
    by_cases e : i = j
    · subst e
      rw [Nat.xor_self, Nat.mul_zero, if_pos rfl]
      obtain ⟨a, b, d, f⟩ := zero_ok
      show pfSafe 32 0 0 = true ∧ (Txt.join sepT (pfGo 32 0 0 [])).length + 2 ≤ _ ∧ Txt.split (Txt.join sepT (pfGo 32 0 0 [])) sepT = _
      rw [a]
      exact ⟨b, d, f⟩
    · have hlt : mk c i ^^^ mk c j < 32 := Nat.xor_lt_two_pow (n := 5) (mk_lt c i hi) (mk_lt c j (by exact Nat.lt_of_le_of_lt hj hi))
      have hne : mk c i ^^^ mk c j ≠ 0 := by
        intro z
        have h1 : (mk c i ^^^ mk c j).testBit (i - 1) = true := by
          obtain ⟨k, rfl⟩ : ∃ k, i = k + 1 := ⟨i - 1, by (clear hb hx hlt z; omega)⟩
          rw [Nat.testBit_xor, mk_bit, mk_bit, Nat.add_sub_cancel, decide_eq_true (by rw [trN_s]; simp), decide_eq_false]
          · rfl
          · intro h
            have := trN_in c j _ h
            (clear hb hi hx hlt z; omega)
        rw [z, Nat.zero_testBit] at h1
        cases h1
      obtain ⟨a, b, d, f⟩ := flags_ok hb hlt hne
      rw [a, if_neg e, btw_bits]
      exact ⟨b, d, f⟩
  · rw [whO_eq c 6 (Nat.le_refl _)]
    have e : mkO c 6 = 31 := all_31 _ (mkO_lt c 6 (Nat.le_refl _)) (mkO_bit c 6 0 (by decide)) (mkO_bit c 6 1 (by decide)) (mkO_bit c 6 2 (by decide)) (mkO_bit c 6 3 (by decide)) (mkO_bit c 6 4 (by decide))
    rw [e]
    exact (flags_ok hb (by decide) (by decide)).2.1
  · rw [whO_eq c 6 (Nat.le_refl _)]
    have e : mkO c 6 = 31 := all_31 _ (mkO_lt c 6 (Nat.le_refl _)) (mkO_bit c 6 0 (by decide)) (mkO_bit c 6 1 (by decide)) (mkO_bit c 6 2 (by decide)) (mkO_bit c 6 3 (by decide)) (mkO_bit c 6 4 (by decide))
    rw [e, (flags_ok hb (by decide) (by decide)).1]
    rfl
end
end Mine
namespace Mine
noncomputable def bN (z : Int) : Nat := (besideL.getD (z.fmod 16).toNat 0).toNat
noncomputable def qN (z : Int) : Nat := ((z.fdiv 2592).fmod 26).toNat
noncomputable def mN (z : Int) : Nat := (z.fmod 2592).toNat
theorem bN_get (z : Int) : besideL[(z.fmod 16).toNat]? = some (bN z : Int) ∧ (0 ≤ z.fmod 16) ∧ z.fmod 16 < 16 ∧ bN z ≠ 32 ∧ bN z ≠ 9 ∧ bN z < 70000 := by
  have h1 := Int.fmod_lt_of_pos z (show (0 : Int) < 16 by decide)
  have h2 := Int.fmod_nonneg_of_pos z (show (0 : Int) < 16 by decide)
  have : ∀ i, i < 16 → besideL[i]? = some (((besideL.getD i 0).toNat : Nat) : Int) ∧ (besideL.getD i 0).toNat ≠ 32 ∧ (besideL.getD i 0).toNat ≠ 9 ∧ (besideL.getD i 0).toNat < 70000 := by decide
  obtain ⟨a, b, c, d⟩ := this (z.fmod 16).toNat (by omega)
  exact ⟨a, h2, h1, b, c, d⟩
theorem qN_eq (z : Int) : (z.fdiv 2592).fmod 26 = (qN z : Int) ∧ qN z < 26 := by
  have h1 := Int.fmod_lt_of_pos (z.fdiv 2592) (show (0 : Int) < 26 by decide)
  have h2 := Int.fmod_nonneg_of_pos (z.fdiv 2592) (show (0 : Int) < 26 by decide)
  unfold qN
  omega
theorem mN_eq (z : Int) : z.fmod 2592 = (mN z : Int) ∧ mN z < 2592 := by
  have h1 := Int.fmod_lt_of_pos z (show (0 : Int) < 2592 by decide)
  have h2 := Int.fmod_nonneg_of_pos z (show (0 : Int) < 2592 by decide)
  unfold mN
  omega
noncomputable def tsL (u : Nat) (w : List Nat) (z : Int) : List Nat := leadOf u w ++ [bN z]
noncomputable def textL (u : Nat) (w : List Nat) (z : Int) : List Nat := tsL u w z ++ [97 + qN z]
noncomputable def lineL (u : Nat) (w : List Nat) (z : Int) : List Nat := textL u w z ++ [32, 9]
theorem ws_line (u : Nat) (w : List Nat) (z : Int) : wsOf ⟨(lineL u w z).toArray⟩ = wsL u w := by
  unfold wsOf wsL lineL textL tsL
  simp only [List.append_assoc, List.singleton_append]
  exact wsGo_stop _ _ (bN_get z).2.2.2.1 (bN_get z).2.2.2.2.1 _ _ (lead_blank u w)
theorem WsI.set {H : HA} {a : Addr} {x : Str} (h : WsI H a x) {q : Addr} {l l' : List V} (hq : H q = some (.list l)) : WsI (H.set q (.list l')) a x := by
  obtain ⟨dd, t1, t2, h1, h2, h3, h4⟩ := h
  refine ⟨dd, t1, t2, ?_, ?_, ?_, ?_⟩
  · rw [HA.set_ne (by rintro rfl; rw [hq] at h1; cases h1)]; exact h1
  · rw [HA.set_ne (by rintro rfl; rw [hq] at h2; cases h2)]; exact h2
  · rw [HA.set_ne (by rintro rfl; rw [hq] at h3; cases h3)]; exact h3
  · rw [HA.set_ne (by rintro rfl; rw [hq] at h4; cases h4)]; exact h4
theorem blank_tab : Str.ofString " \t" = ⟨[32, 9].toArray⟩ := by decide +kernel
variable [HasP]
section
variable {G : Glb} {F : Fm} {ρ : Vars} {H : HA} {sc : Scope} {d : Nat} {Q : V → Prop} {Kf : Frag}
theorem Cal_lenS {x : Str} {Q : V → HA → Prop} (hz : (x.length : Int) < 2 ^ 63) (h : Q (.int x.length) H) : Cal G F (.builtin "len") [.str x] H Q := fun cs hcs => .mk fun Z ρ s X => by
  obtain ⟨c, rfl, e⟩ := args1 hcs
  obtain ⟨t, rfl⟩ := ab_str e
  exact len_str (by omega) ⟨H, X.toks _ (by show s.toks ≤ s.toks + 1 + 1; omega), h⟩
noncomputable def PrepOk (u : Nat) (wd : Nat → List Nat) (c : Nat → Int) : Prop := ∃ rs : Nat → List Nat, ∀ k, k < 6 → (∀ x ∈ typedL (tsL u (wd k) (c k)) (qN (c k)) (mN (c k)) ++ [32, 9], SignR x (rs x)) ∧
  (typedL (tsL u (wd k) (c k)) (qN (c k)) (mN (c k)) ++ [32, 9]).flatMap rs = lineL u (wd k) (c k) ∧ (typedL (tsL u (wd k) (c k)) (qN (c k)) (mN (c k))).length ≤ 100
noncomputable def lawB1 : List Stmt := match (FB 29)[(12 : Nat)]? with
  | some (.For _ _ b _ _) => b
  | _ => []
theorem law_line (K : Kn G) (W : WsK G Kf) (hP : ∀ t, HasP.K t = 0) (ok : FOk G F (FS 29) 8) (own : F.own = true) {ca ba la : Addr} {c : Nat → Int} {wd : Nat → List Nat} {u k : Nat} (hk : k < 6)
    (hc : H ca = some (.list ((List.range 6).map fun i => .int (c i)))) (hbs : H ba = some (.list (besideL.map V.int))) (hl : H la = some (.list ((List.range 6).map fun i => .str ⟨(leadOf u (wd i)).toArray⟩)))
    (hpr : PrepOk u wd c) (hlen : (leadOf u (wd k)).length ≤ 30) (hn : (wsL u (wd k)).n = (leadOf u (wd k)).length)
    (r1 : ρ "cells" = some (.ref ca)) (r2 : ρ "beside" = some (.ref ba)) (r3 : ρ "leads" = some (.ref la)) (r4 : ρ "k" = some (.int k)) {Q3 : Fl → Vars → HA → Prop}
    (h : ∀ H' wa t1 l1, Ext H H' → H wa = none → WsI H' wa ⟨(lineL u (wd k) (c k)).toArray⟩ → Exs G F (lawB1.drop 4) (((ρ.set "text" t1).set "line" l1).set "white" (.ref wa)) H' Q3) : Exs G F lawB1 ρ H Q3 := by
  obtain ⟨rs, hrs⟩ := hpr
  obtain ⟨p1, p2, p3⟩ := hrs k hk
  obtain ⟨b1, b2, b3, b4, b5, b6⟩ := bN_get (c k)
  obtain ⟨q1, q2⟩ := qN_eq (c k)
  obtain ⟨m1, m2⟩ := mN_eq (c k)
  have hsz : (1000 : Nat) ≤ sizeLine := by decide
  have eA : (⟨(leadOf u (wd k)).toArray⟩ : Str) ++ ⟨#[((bN (c k) : Nat) : Int).toNat]⟩ = ⟨(tsL u (wd k) (c k)).toArray⟩ := by
    rw [Int.toNat_natCast, show (#[bN (c k)] : Array Nat) = [bN (c k)].toArray from rfl, str_app]; rfl
  have eB : (⟨(tsL u (wd k) (c k)).toArray⟩ : Str) ++ ⟨#[((97 : Int) + (qN (c k) : Nat)).toNat]⟩ = ⟨(textL u (wd k) (c k)).toArray⟩ := by
    rw [show ((97 : Int) + (qN (c k) : Nat)).toNat = 97 + qN (c k) by (clear hk hlen hn p3 b2 b3 b4 b5 b6 q1 m1 m2 hsz; omega), show (#[97 + qN (c k)] : Array Nat) = [97 + qN (c k)].toArray from rfl, str_app]; rfl
  have hts : (tsL u (wd k) (c k)).length ≤ 31 := by unfold tsL; rw [List.length_append, List.length_singleton]; exact Nat.succ_le_succ hlen
  refine Exs_cons <| Ex_Assign <| Ev_BinOp <| Ev_BinOp <| Ev_Subscript PySem.F.slot_list_getitem.lookup <| Ev_Name <| Ld_ ok r3 <| Ev_Name <| Ld_ ok r4 ⟨TyV.list hl, GetI_list hl (by exact Int.natCast_nonneg _) (by exact o_63 hk) (by rw [Int.toNat_natCast]; exact rng_get _ hk) <|
    Ev_Call ok K.g (K.bt (n := "chr") rfl rfl) trivial <| Evs_cons <| Ev_Subscript PySem.F.slot_list_getitem.lookup <| Ev_Name <| Ld_ ok r2 <| Ev_BinOp <| Ev_Subscript PySem.F.slot_list_getitem.lookup <| Ev_Name <| Ld_ ok r1 <| Ev_Name <| Ld_ ok r4 ⟨TyV.list hc, GetI_list hc (by exact Int.natCast_nonneg _) (by exact o_63 hk) (by rw [Int.toNat_natCast]; exact rng_get _ hk) <|
    Ev_int <| Bin_mod (by decide) ⟨TyV.list hbs, GetI_list hbs b2 (by (clear hk hlen hn p3 b4 b5 b6 q1 q2 m1 m2 hsz hts; omega)) (v := .int (bN (c k))) (by rw [List.getElem?_map, b1]; rfl) <| Evs_nil <| Cal_chr (by exact Int.natCast_nonneg _) (by exact Int.le_trans (Int.le_of_lt (Int.ofNat_lt.mpr b6)) (by decide)) <| Bin_addS hP (by simp [Str.length]; (clear hk p3 b2 b3 b4 b5 b6 q1 q2 m1 m2 hts; omega)) ?_⟩⟩⟩
  rw [eA]
  refine Ev_Call ok K.g (K.bt (n := "chr") rfl rfl) trivial <| Evs_cons <| Ev_BinOp <| Ev_int <| Ev_BinOp <| Ev_BinOp <| Ev_Subscript PySem.F.slot_list_getitem.lookup <| Ev_Name <| Ld_ ok r1 <| Ev_Name <| Ld_ ok r4 ⟨TyV.list hc, GetI_list hc (by exact Int.natCast_nonneg _) (by exact o_63 hk) (by rw [Int.toNat_natCast]; exact rng_get _ hk) <|
    Ev_int <| Bin_floordiv (by decide) (PyProof.noPylong_small (by decide)) <| Ev_int <| Bin_mod (by decide) ?_⟩
  rw [q1]
  refine Bin_add <| Evs_nil <| Cal_chr (by (clear hk hlen hn p3 b2 b3 b4 b5 b6 q1 m1 m2 hsz hts; omega)) (by (clear hk hlen hn p3 b2 b3 b4 b5 b6 q1 m1 m2 hsz hts; omega)) <| Bin_addS hP (by simp [Str.length]; (clear hk hlen hn p3 b2 b3 b4 b5 b6 q1 q2 m1 m2; omega)) <| St_ ok own ?_
  rw [eB]
  refine Exs_cons <| Ex_Assign <| Ev_Call ok K.g (K.gv (n := "_law_prepared") rfl) K.d_prepared.callee <| Evs_cons <| Ev_BinOp <| Ev_Call ok K.g (K.gv (n := "_law_typed") rfl) K.d_typed.callee <| Evs_cons <| Ev_Name <| Ld_ ok vz <| Evs_cons <| Ev_BinOp <| Ev_Subscript PySem.F.slot_list_getitem.lookup <| Ev_Name <| Ld_ ok (vs r1) <| Ev_Name <| Ld_ ok (vs r4)
    ⟨TyV.list hc, GetI_list hc (by exact Int.natCast_nonneg _) (by exact o_63 hk) (by rw [Int.toNat_natCast]; exact rng_get _ hk) <| Ev_int <| Bin_mod (by decide) ?_⟩
  rw [m1]
  refine Evs_nil <| c_typed (d := 7) K hP ok (ts := tsL u (wd k) (c k)) (by exact Nat.le_trans hts (by decide)) q2 m2 fun H1 hE1 => Ev_str ?_
  rw [blank_tab]
  refine Bin_addS hP (by simp [Str.length]; (clear hk hlen hn b2 b3 b4 b5 b6 q1 q2 m1 m2 hts; omega)) ?_
  rw [str_app]
  refine Evs_nil <| c_prepared (d := 6) K hP ok p1 (by rw [List.length_append]; simp; exact Nat.le_trans p3 (by decide)) ?_
  rw [p2]
  refine St_ ok own ?_
  refine Exs_cons <| Ex_Assign <| Ev_Ws (d := 6) K W hP ok (Ev_Name <| Ld_ ok vz ⟨_, rfl, ?_, fun wa H2 hE2 hwa hW => St_ ok own ?_⟩)
  · unfold lineL textL; simp; exact Nat.le_trans hts (by decide)
  have hl2 := hE2 _ _ (hE1 _ _ hl)
  have ws := hW
  obtain ⟨dd, t1, t2, w1, w2, w3, w4⟩ := hW
  refine Exs_cons <| Ex_If <| Tr_Or2 <| Tr_Compare <| Ev_Name <| Ld_ ok (vs vz) <| Ev_BinOp <| Ev_Name <| Ld_ ok (vs (vs vz)) <| Ev_str ?_
  refine Bin_addS hP (by unfold textL; simp [Str.length]; (clear hk hlen hn p3 b2 b3 b4 b5 b6 q1 q2 m1 m2; omega)) ?_
  rw [str_app]
  refine Cmp_neS <| Tru_bool ?_
  have e0 : ((⟨(lineL u (wd k) (c k)).toArray⟩ : Str) != ⟨(textL u (wd k) (c k) ++ [32, 9]).toArray⟩) = false := by
    rw [bne_eq_false_iff_eq]; rfl
  rw [e0]
  refine Tr_Compare <| Ev_Attr <| Ev_Name <| Ld_ ok vz <| GetA_own (n := "n") W.inn w1 w2 rfl rfl (W.get _) W.dct (W.own _ (by decide)) rfl <| Ev_Call ok K.g (K.bt (n := "len") rfl rfl) trivial <| Evs_cons <| Ev_Subscript PySem.F.slot_list_getitem.lookup <| Ev_Name <| Ld_ ok (vs (vs (vs r3))) <| Ev_Name <| Ld_ ok (vs (vs (vs r4)))
    ⟨TyV.list hl2, GetI_list hl2 (by exact Int.natCast_nonneg _) (by exact o_63 hk) (by rw [Int.toNat_natCast]; exact rng_get _ hk) <| Evs_nil <| Cal_lenS (by simp [Str.length]; exact Int.lt_of_le_of_lt (Int.ofNat_le.mpr hlen) (by decide)) <| Cmp_int (op := .NotEq) (r := false) (by rw [Option.some.injEq, ws_line, hn]; simp [Str.length]) <| Tru_bool ?_⟩
  exact Exs_nil <| h H2 wa _ _ (hE1.trans hE2) (hE1.none hwa) ws
end
end Mine
namespace Mine
noncomputable def rsF (x : Nat) : List Nat := if hiddenL.contains (x : Int) then [] else if 65 ≤ x ∧ x ≤ 90 then [x + 32] else if 119808 ≤ x then [97 + (x - 119808) % 52] else [x]
noncomputable def chk (x : Nat) (r : List Nat) : Bool := !hiddenL.contains (x : Int) && plainL.contains (x : Int) && decide (Txt.lower ⟨#[x]⟩ = ⟨r.toArray⟩) && decide (rsF x = r)
theorem chk_beside : ∀ i, i < 16 → chk (besideL.getD i 0).toNat [(besideL.getD i 0).toNat] = true := by decide +kernel
theorem chk_blank : chk 32 [32] = true ∧ chk 9 [9] = true := by decide +kernel
theorem chk_small : ∀ q, q < 26 → chk (97 + q) [97 + q] = true := by decide +kernel
theorem chk_great : ∀ q, q < 26 → chk (65 + q) [97 + q] = true := by decide +kernel
theorem chk_hid : ∀ i, i < 27 → hiddenL.contains ((hidN.getD i 0 : Nat) : Int) = true := by decide +kernel
theorem chk_math : ∀ b, b < 10 → ∀ q, q < 26 → (!hiddenL.contains ((119808 + 52 * blks.getD b 0 + q : Nat) : Int) && decide (rsF (119808 + 52 * blks.getD b 0 + q) = [97 + q])) = true := by decide +kernel
theorem chk_blks : ∀ b, b < 10 → ((blks.getD b 0 : Nat) : Int) ∈ blockL := by decide +kernel
theorem chk_sign {x y : Nat} (h : chk x [y] = true) : SignR x (rsF x) ∧ rsF x = [y] := by
  unfold chk at h
  simp only [Bool.and_eq_true, Bool.not_eq_true', decide_eq_true_eq] at h
  obtain ⟨⟨⟨h1, h2⟩, h3⟩, h4⟩ := h
  refine ⟨.inr ⟨h1, ?_, .inl ⟨List.contains_iff_mem.mp h2, ?_⟩⟩, h4⟩
  · rw [h4]; exact (by decide : (1 : Nat) ≤ 3)
  · rw [h4]; exact h3
theorem end_sign (q m : Nat) (hq : q < 26) : SignR (typedEnd q m) (rsF (typedEnd q m)) ∧ rsF (typedEnd q m) = [97 + q] := by
  unfold typedEnd
  by_cases h1 : m % 12 = 1
  · rw [if_pos h1]; exact chk_sign (chk_great q hq)
  · rw [if_neg h1]
    by_cases h2 : 1 < m % 12
    · rw [if_pos h2]
      have h := chk_math (m % 12 - 2) (by (clear hq h1; omega)) q hq
      simp only [Bool.and_eq_true, Bool.not_eq_true', decide_eq_true_eq] at h
      refine ⟨.inr ⟨h.1, by rw [h.2]; exact (by decide : (1 : Nat) ≤ 3), .inr ⟨_, chk_blks (m % 12 - 2) (by (clear hq h1 h; omega)), q, hq, ?_, h.2⟩⟩, h.2⟩
      (clear hq h1 h2 h; omega)
    · rw [if_neg h2]; exact chk_sign (chk_small q hq)
theorem lead_in {u : Nat} {w : List Nat} : ∀ x ∈ leadOf u w, x = 32 ∨ x = 9 := by
  intro x hx
  unfold leadOf at hx
  obtain ⟨s, _, hs⟩ := List.mem_flatMap.mp hx
  unfold suf at hs
  split at hs
  · exact .inr (List.mem_singleton.mp hs)
  · split at hs
    · exact .inl (List.eq_of_mem_replicate hs)
    · rcases List.mem_append.mp hs with h | h
      · exact .inl (List.eq_of_mem_replicate h)
      · exact .inr (List.mem_singleton.mp h)
theorem ts_sign (u : Nat) (w : List Nat) (z : Int) : ∀ x ∈ tsL u w z, SignR x (rsF x) ∧ rsF x = [x] := by
  intro x hx
  unfold tsL at hx
  rcases List.mem_append.mp hx with h | h
  · rcases lead_in x h with rfl | rfl
    · exact chk_sign chk_blank.1
    · exact chk_sign chk_blank.2
  · obtain rfl := List.mem_singleton.mp h
    obtain ⟨_, a, b, _⟩ := bN_get z
    exact chk_sign (chk_beside _ (by omega))
theorem flat_id {f : Nat → List Nat} : ∀ l : List Nat, (∀ x ∈ l, f x = [x]) → l.flatMap f = l
  | [], _ => rfl
  | x :: l, h => by
    rw [List.flatMap_cons, h x List.mem_cons_self, flat_id l fun y hy => h y (List.mem_cons_of_mem _ hy)]; rfl
theorem hid_r {x : Nat} (h : hiddenL.contains (x : Int) = true) : SignR x (rsF x) ∧ rsF x = [] := by
  have e : rsF x = [] := by unfold rsF; rw [if_pos h]
  exact ⟨.inl ⟨h, e⟩, e⟩
theorem pl_prep {u : Nat} {wd P : Nat → List Nat} {par : Nat → Nat} (c : Nat → Int) (T : Tree u par wd P) : PrepOk u wd c := by
  refine ⟨rsF, fun k hk => ?_⟩
  obtain ⟨q1, q2⟩ := qN_eq (c k)
  have he := end_sign (qN (c k)) (mN (c k)) q2
  have hts := ts_sign u (wd k) (c k)
  have hh := hid_r (chk_hid (mN (c k) / 12 % 27) (Nat.mod_lt _ (by decide)))
  have hb1 := chk_sign chk_blank.1
  have hb2 := chk_sign chk_blank.2
  have hl : ∀ x ∈ tsL u (wd k) (c k) ++ [typedEnd (qN (c k)) (mN (c k))], SignR x (rsF x) := fun x hx => by
    rcases List.mem_append.mp hx with h | h
    · exact (hts x h).1
    · rw [List.mem_singleton.mp h]; exact he.1
  have hf : (tsL u (wd k) (c k) ++ [typedEnd (qN (c k)) (mN (c k))]).flatMap rsF = textL u (wd k) (c k) := by
    rw [List.flatMap_append, flat_id _ fun x hx => (hts x hx).2]
    show _ ++ ([typedEnd (qN (c k)) (mN (c k))].flatMap rsF) = _
    rw [List.flatMap_singleton, he.2]; rfl
  refine ⟨fun x hx => ?_, ?_, ?_⟩
  · rcases List.mem_append.mp hx with h | h
    · unfold typedL at h
      rcases List.mem_append.mp h with h | h
      · rcases List.mem_append.mp h with h | h
        · exact hl x (List.mem_of_mem_take h)
        · rw [List.mem_singleton.mp h]; exact hh.1
      · exact hl x (List.mem_of_mem_drop h)
    · simp only [List.mem_cons, List.not_mem_nil, or_false] at h
      rcases h with rfl | rfl
      · exact hb1.1
      · exact hb2.1
  · have e2 : [32, 9].flatMap rsF = [32, 9] := by
      rw [List.flatMap_cons, List.flatMap_singleton, hb1.2, hb2.2]; rfl
    unfold typedL lineL
    rw [List.flatMap_append, e2, List.flatMap_append, List.flatMap_append, List.flatMap_singleton, hh.2, List.append_nil, ← List.flatMap_append, List.take_append_drop, hf]
  · obtain ⟨w1, w2⟩ := T.wd_small k hk
    have := (lead_small T.u1 T.u2 w2 w1).2.2.2
    unfold typedL tsL
    simp only [List.length_append, List.length_take, List.length_drop, List.length_singleton]
    (clear hk q1 q2 he hh hb1 hb2 w2; omega)
end Mine
namespace Mine
theorem life_update (h : Heap) (a : Addr) (f : Obj → Obj) : (h.update a f).life = h.life := by
  unfold Heap.update
  first | rfl | (split <;> rfl)
theorem runs_life {M : Model} {Γ : Ctx} {p : Pos} {t : Sem Fin} {fs : List Frame} {s s' : Shared} {e : End} (h : Runs M Γ p t fs s e s') : s'.heap.life = s.heap.life := by
  induction h with
  | done => rfl
  | raise => rfl
  | yield => rfl
  | fresh _ ih => exact ih
  | call _ _ a b => exact b.trans a
  | resumeFresh _ _ _ _ a b => exact b.trans a
  | resumeSuspended _ _ _ _ a b => exact b.trans a
  | segRet _ _ a b => exact b.trans a
  | segGen _ _ a b => exact b.trans a
  | segSuspGen _ _ _ _ a b => exact b.trans a
  | again _ _ ih => exact ih
  | rule _ ih => exact ih
  | «at» _ ih => exact ih
  | load _ _ ih => exact ih
  | update _ _ ih => exact ih.trans (life_update ..)
  | loadIfAlive _ ih => exact ih
  | point _ ih => exact ih
  | alloc _ ih => exact ih.trans (Heap.life_push ..)
  | ask _ ih => exact ih
  | choose _ _ ih => exact ih
  | os _ ih => exact ih
  | handled _ ih => exact ih
  | genState _ _ ih => exact ih
  | stack _ ih => exact ih
  | thread _ ih => exact ih
  | newGen _ ih => exact ih
  | callSusp _ ih => exact ih
  | resumeJustStarted _ _ _ ih => exact ih
  | resumeThrowFresh _ _ ih => exact ih
  | resumeRunning _ _ ih => exact ih
  | resumeFinished _ _ ih => exact ih
  | segSuspOut _ _ ih => exact ih
theorem wakes_life {M : Model} {Γ : Ctx} {p : Pos} {g : Nat} {r : Resume} {s s' : Shared} {res : GenResult} (h : Wakes M Γ p g r s res s') : s'.heap.life = s.heap.life := by
  unfold Wakes at h
  split at h
  · exact h.elim
  · split at h
    · obtain ⟨e₁, s₁, hr, _, _, rfl⟩ := h; have q := runs_life hr; exact q
    · rw [h.2]
    · rw [h.2]; rfl
  · obtain ⟨e₁, s₁, hr, _, _, rfl⟩ := h; have q := runs_life hr; exact q
  · rw [h.2]
  · rw [h.2]
theorem wp_life {α : Type} {M : Model} {Γ : Ctx} (t : Sem α) : ∀ {Q : α → Pos → Shared → Prop} {E : Value → Pos → Shared → Prop} {p : Pos} {s : Shared} {n : Life}, s.heap.life = n → Sem.wp M Γ t Q E p s →
    Sem.wp M Γ t (fun a p' s' => s'.heap.life = n ∧ Q a p' s') (fun e p' s' => s'.heap.life = n ∧ E e p' s') p s := by
  induction t with
  | pure a => intro Q E p s n hn h; unfold Sem.wp at h ⊢; exact ⟨hn, h⟩
  | raise e => intro Q E p s n hn h; unfold Sem.wp at h ⊢; exact ⟨hn, h⟩
  | unsupported w => intro Q E p s n hn h; unfold Sem.wp at h; exact h.elim
  | finish e => intro Q E p s n hn h; unfold Sem.wp at h; exact h.elim
  | rule tag k ih => intro Q E p s n hn h; unfold Sem.wp at h ⊢; exact ih () hn h
  | «at» p' k ih => intro Q E p s n hn h; unfold Sem.wp at h ⊢; exact ih () hn h
  | load a part k ih => intro Q E p s n hn h; unfold Sem.wp at h ⊢; obtain ⟨o, e, h⟩ := h; exact ⟨o, e, ih o hn h⟩
  | update a part f k ih => intro Q E p s n hn h; unfold Sem.wp at h ⊢; exact ⟨h.1, ih () (s := { s with heap := _ }) ((life_update ..).trans hn) h.2⟩
  | loadIfAlive a k ih => intro Q E p s n hn h; unfold Sem.wp at h ⊢; exact ih _ hn h
  | point l k ih => intro Q E p s n hn h; unfold Sem.wp at h ⊢; exact ih () hn h
  | register _ _ => intro Q E p s n hn h; unfold Sem.wp at h; exact h.elim
  | alloc o k ih => intro Q E p s n hn h; unfold Sem.wp at h ⊢; exact ih _ (s := { s with heap := _ }) ((Heap.life_push ..).trans hn) h
  | fresh k ih => intro Q E p s n hn h; unfold Sem.wp at h ⊢; exact ih _ (s := { s with toks := _ }) hn h
  | ask k ih => intro Q E p s n hn h; unfold Sem.wp at h ⊢; exact ih _ hn h
  | choose src m k ih => intro Q E p s n hn h; unfold Sem.wp at h ⊢; exact ⟨h.1, ih _ (s := { s with drawn := _ }) hn h.2⟩
  | os q l k ih => intro Q E p s n hn h; unfold Sem.wp at h ⊢; exact ih _ (s := { s with os := _ }) hn h
  | call c hd g l k ih => intro Q E p s n hn h; unfold Sem.wp at h ⊢; obtain ⟨r, s', hr, h⟩ := h; exact ⟨r, s', hr, ih r ((runs_life hr).trans hn) h⟩
  | handled own k ih => intro Q E p s n hn h; unfold Sem.wp at h ⊢; exact ih _ hn h
  | genState g k ih => intro Q E p s n hn h; unfold Sem.wp at h ⊢; obtain ⟨st, e, h⟩ := h; exact ⟨st, e, ih _ hn h⟩
  | newGen c k ih => intro Q E p s n hn h; unfold Sem.wp at h ⊢; exact ih _ (s := { s with gens := _ }) hn h
  | resume g r l k ih => intro Q E p s n hn h; unfold Sem.wp at h ⊢; obtain ⟨res, s', hw, h⟩ := h; exact ⟨res, s', hw, ih _ ((wakes_life hw).trans hn) h⟩
  | yield => intro Q E p s n hn h; unfold Sem.wp at h; exact h.elim
  | stack k ih => intro Q E p s n hn h; unfold Sem.wp at h ⊢; exact ih _ hn h
  | fork => intro Q E p s n hn h; unfold Sem.wp at h; exact h.elim
  | thread k ih => intro Q E p s n hn h; unfold Sem.wp at h ⊢; exact ih _ hn h
  | await => intro Q E p s n hn h; unfold Sem.wp at h; exact h.elim
theorem wpAny_ofLife {α : Type} {M : Model} {A : Around} {t : Sem α} {Q : α → Shared → Prop} {E : Value → Shared → Prop} {s : Shared} (h : wpAny M A t (fun v s' => s'.heap.life = s.heap.life → Q v s') (fun e s' => s'.heap.life = s.heap.life → E e s') s) : wpAny M A t Q E s := fun Γ p hΓ =>
  Sem.wp_mono M Γ t (fun _ _ _ q => q.2 q.1) (fun _ _ _ q => q.2 q.1) p s (wp_life t rfl (h Γ p hΓ))
end Mine
namespace Mine
inductive LikeB : List (Int × Str) → List (Int × Value) → Prop
  | nil : LikeB [] []
  | cons {i : Int} {x : Str} {t : Nat} {l : List (Int × Str)} {kvs : List (Int × Value)} : 1 ≤ t → t < 2513 → LikeB l kvs → LikeB ((i, x) :: l) ((i, .str x t) :: kvs)
theorem LikeB.append {l l' : List (Int × Str)} {k k' : List (Int × Value)} (h : LikeB l k) (h' : LikeB l' k') : LikeB (l ++ l') (k ++ k') := by
  induction h with
  | nil => exact h'
  | cons a b _ ih => exact .cons a b ih
theorem LikeB.keys {l : List (Int × Str)} {k : List (Int × Value)} (h : LikeB l k) : k.map (·.1) = l.map (·.1) := by
  induction h with
  | nil => rfl
  | cons a b _ ih => simp [ih]
theorem LikeB.len {l : List (Int × Str)} {k : List (Int × Value)} (h : LikeB l k) : k.length = l.length := by simpa using congrArg List.length h.keys
section
variable {prog : Program} {w : World} {A : Around} {E : Value → Shared → Prop} {s : Shared}
structure ItB (prog : Program) (w : World) (i : Int) (x : Str) (it : Sem Value × Sem Value) : Prop where
  k : ∀ {A : Around} {E : Value → Shared → Prop} {s : Shared} {Q : Value → Shared → Prop}, Q (.int i s.toks) { s with toks := s.toks + 1 } → wpAny (model prog w) A it.1 Q E s
  v : ∀ {A : Around} {E : Value → Shared → Prop} {s : Shared} {Q : Value → Shared → Prop}, Q (.str x s.toks) { s with toks := s.toks + 1 } → wpAny (model prog w) A it.2 Q E s
inductive ItsB (prog : Program) (w : World) : List (Int × Str) → List (Sem Value × Sem Value) → Prop
  | nil : ItsB prog w [] []
  | cons {i x it l its} : ItB prog w i x it → ItsB prog w l its → ItsB prog w ((i, x) :: l) (it :: its)
theorem ItsB.len {l : List (Int × Str)} {its : List (Sem Value × Sem Value)} (h : ItsB prog w l its) : its.length = l.length := by
  induction h with
  | nil => rfl
  | cons _ _ ih => simp [ih]
theorem ItsB.append {l l' : List (Int × Str)} {k k' : List (Sem Value × Sem Value)} (h : ItsB prog w l k) (h' : ItsB prog w l' k') : ItsB prog w (l ++ l') (k ++ k') := by
  induction h with
  | nil => exact h'
  | cons a _ ih => exact .cons a ih
theorem stored_new {kvs : List (Int × Value)} {k : Int} {v : Value} (h : k ∉ kvs.map (·.1)) : stored kvs k v = kvs ++ [(k, v)] := by
  unfold stored
  rw [if_neg]
  rw [List.any_eq_true]
  rintro ⟨x, hx, he⟩
  exact h (List.mem_map.mpr ⟨x, hx, of_decide_eq_true he⟩)
theorem long_loop {d : Addr} {f : (Sem Value × Sem Value) → PUnit → Sem (ForInStep PUnit)} (hf : ∀ p u, f p u = (do let kv ← p.1; let vv ← holding [kv] p.2; holding [kv, vv] (dictSet d kv vv); pure (.yield PUnit.unit))) :
    ∀ {l : List (Int × Str)} {its : List (Sem Value × Sem Value)}, ItsB prog w l its → ∀ {s : Shared} {kvs : List (Int × Value)} {Q : PUnit → Shared → Prop}, s.heap.DictOf (intKind prog w) d kvs → ((kvs.map (·.1)) ++ l.map (·.1)).Nodup → kvs.length + l.length ≤ 5000 → 1 ≤ s.toks → s.toks + 3 * l.length ≤ 2513 →
      (∀ h' k2, LikeB l k2 → h'.DictOf (intKind prog w) d (kvs ++ k2) → Heap.SameBut d s.heap h' → Q PUnit.unit { s with heap := h', toks := s.toks + 3 * l.length }) →
      wpAny (model prog w) A (forIn its PUnit.unit f) Q E s := by
  intro l its h
  induction h with
  | nil =>
    intro s kvs Q hd _ _ _ _ hQ
    rw [List.forIn_nil]
    refine wpAny_pure ?_
    have := hQ s.heap [] .nil (by simpa using hd) (Heap.SameBut.refl _ _)
    simpa using this
  | @cons i x it l its hit hits ih =>
    intro s kvs Q hd hn hz h1 h2 hQ
    simp only [List.length_cons] at hz h2 hQ
    have hsl : (5000 : Nat) ≤ sizeLine := by decide
    rw [List.forIn_cons, hf]
    refine wpAny_bind (wpAny_bind (hit.k (wpAny_bind (wpAny_holding (hit.v (wpAny_bind (wpAny_holding ?_)))))))
    have hni : i ∉ kvs.map (·.1) := by
      rw [List.map_cons, List.nodup_append] at hn
      intro hm
      exact hn.2.2 _ hm _ List.mem_cons_self rfl
    refine wpAny_dictSet_pairs (knd := intKind prog w) (k := i) (by simp [intKind, Value.isInt]) hd (fun h' hd' hs' => ?_) (by (clear h1 h2; omega))
    refine wpAny_pure ?_
    rw [stored_new hni] at hd'
    refine ih (s := { s with heap := h', toks := s.toks + 1 + 1 + 1 }) (kvs := kvs ++ [(i, .str x (s.toks + 1))]) hd' ?_ (by rw [List.length_append]; simp; (clear h1 h2 hsl; omega)) (by show 1 ≤ s.toks + 1 + 1 + 1; exact Nat.le_add_left _ _) (by show s.toks + 1 + 1 + 1 + _ ≤ _; (clear hz h1 hsl; omega)) fun h'' k2 hl hd'' hs'' => ?_
    · rw [List.map_append, List.append_assoc]; exact hn
    · have := hQ h'' ((i, .str x (s.toks + 1)) :: k2) (.cons (by exact Nat.le_add_left _ _) (by (clear h1 hsl; omega)) hl) (by simpa using hd'') (hs'.trans hs'')
      rw [show s.toks + 3 * (l.length + 1) = s.toks + 1 + 1 + 1 + 3 * l.length by (clear hz h1 h2 hsl; omega)] at this
      exact this
end
end Mine
namespace Mine
section
variable {prog : Program} {w : World} {A : Around} {E : Value → Shared → Prop} {s : Shared}
theorem pairs_wp : ∀ {l : List (Int × Str)} {its : List (Sem Value × Sem Value)}, ItsB prog w l its → ∀ {s : Shared} {Q : List (Value × Value) → Shared → Prop}, 1 ≤ s.toks → s.toks + 2 * l.length ≤ 2513 →
    (∀ vs k2, LikeB l k2 → Carries (intKind prog w) vs k2 → vs.length = l.length → Q vs { s with toks := s.toks + 2 * l.length }) → wpAny (model prog w) A (evalPairs its) Q E s := by
  intro l its h
  induction h with
  | nil =>
    intro s Q _ _ hQ
    exact wpAny_pure (by simpa using hQ [] [] .nil trivial rfl)
  | @cons i x it l its hit hits ih =>
    intro s Q h1 h2 hQ
    simp only [List.length_cons] at h2 hQ
    unfold evalPairs
    refine wpAny_bind (hit.k (wpAny_bind (wpAny_holding (hit.v (wpAny_bind (wpAny_holding ?_))))))
    refine ih (s := { s with toks := s.toks + 1 + 1 }) (by show 1 ≤ s.toks + 1 + 1; exact Nat.le_add_left _ _) (by show s.toks + 1 + 1 + _ ≤ _; omega) fun vs k2 hl hc hlen => ?_
    refine wpAny_pure ?_
    have := hQ ((.int i s.toks, .str x (s.toks + 1)) :: vs) ((i, .str x (s.toks + 1)) :: k2) (.cons (by exact Nat.le_add_left _ _) (by omega) hl) ⟨by simp [intKind, Value.isInt], rfl, hc⟩ (by simp [hlen])
    rw [show s.toks + 2 * (l.length + 1) = s.toks + 1 + 1 + 2 * l.length by (clear h1 h2 hlen; omega)] at this
    exact this
theorem sub_wp {l : List (Int × Str)} {its : List (Sem Value × Sem Value)} (h : ItsB prog w l its) (hn : (l.map (·.1)).Nodup) (hz : l.length ≤ 17) (h1 : 1 ≤ s.toks) (h2 : s.toks + 3 * l.length ≤ 2513) {Q : Addr → Shared → Prop}
    (hQ : ∀ h' k2, LikeB l k2 → h'.DictOf (intKind prog w) s.heap.objs.size k2 → h'.objs.size = s.heap.objs.size + 1 → (∀ b o, s.heap.get? b = some o → h'.get? b = some o) → Q s.heap.objs.size { s with heap := h', toks := s.toks + 3 * l.length }) :
    wpAny (model prog w) A (subDict its) Q E s := by
  have hlen := h.len
  have keep : ∀ h', Heap.SameBut s.heap.objs.size (s.heap.push { cls := .type "dict", data := .dict #[] }) h' → h'.objs.size = s.heap.objs.size + 1 ∧ ∀ b o, s.heap.get? b = some o → h'.get? b = some o := fun h' hs => by
    refine ⟨?_, fun b o e => ?_⟩
    · rw [hs.1]; simp [Heap.push]
    · have hb : b ≠ s.heap.objs.size := Nat.ne_of_lt (Heap.lt_size e)
      exact (hs.2 b hb).trans (Heap.get?_push_of_some _ e)
  by_cases h15 : its.length ≤ 15
  · refine wpAny_subDict (knd := intKind prog w) h15 (pairs_wp h (s := { s with heap := s.heap.push { cls := .type "dict", data := .dict #[] } }) h1 (by show s.toks + _ ≤ _; omega) fun vs k2 hl hc hlv => ⟨k2, hc, Heap.DictOf.new _, fun h' hd hs => ?_⟩)
    rw [merged_nil_of_nodup k2 (by rw [hl.keys]; exact hn)] at hd
    obtain ⟨e1, e2⟩ := keep h' hs
    have := hQ h' k2 hl hd e1 e2
    rw [show s.toks + 3 * l.length = s.toks + 2 * l.length + l.length by (clear hz h1 h2 hlen h15 hlv e1; omega)] at this
    rw [hlv]
    exact this
  · unfold subDict
    refine wpAny_bind (wpAny_alloc ?_)
    refine wpAny_bind (wpAny_holding ?_)
    rw [if_neg h15]
    refine wpAny_bind (wpAny_rule ?_)
    refine wpAny_bind (long_loop (d := s.heap.objs.size) (fun p u => rfl) h (s := { s with heap := s.heap.push { cls := .type "dict", data := .dict #[] } }) (kvs := []) (Heap.DictOf.new _) (by simpa using hn) (by simp; exact Nat.le_trans hz (by decide)) h1 h2 fun h' k2 hl hd hs => ?_)
    obtain ⟨e1, e2⟩ := keep h' hs
    exact wpAny_pure (wpAny_pure (hQ h' k2 hl (by simpa using hd) e1 e2))
end
end Mine
namespace Mine
section
variable {prog : Program} {w : World} {A : Around} {E : Value → Shared → Prop} {s : Shared}
theorem put_wp {d : Addr} {kvs : List (Int × Value)} {k : Int} {key v : Value} {Q : Unit → Shared → Prop} (hkey : (intKind prog w).is k key = true) (hm : s.heap.DictOf (intKind prog w) d kvs) (hk : k ∉ kvs.map (·.1)) (hz : kvs.length ≤ 5000)
    (hQ : ∀ h', h'.DictOf (intKind prog w) d (kvs ++ [(k, v)]) → Heap.SameBut d s.heap h' → Q () { s with heap := h' }) : wpAny (model prog w) A (dictPut d ((intKind prog w).hash k) key v) Q E s := by
  obtain ⟨o, es, ep, ho, hc, hd, hks, hp, hn⟩ := hm
  have hsl : (5000 : Nat) ≤ sizeLine := by decide
  have hes : es.size ≤ sizeLine := by
    have e1 := hp.length
    have e2 : es.toList.length = es.size := by simp
    omega
  unfold dictPut
  refine wpAny_bind (wpAny_dictFind_of hkey ho hd hks ?_)
  have hidx : (es.findIdx? fun e => (intKind prog w).is k e.key) = kvs.findIdx? fun kv => decide (kv.1 = k) := by
    rw [← hp.findIdx k]; obtain ⟨l⟩ := es; simp
  have hnone : (kvs.findIdx? fun kv => decide (kv.1 = k)) = none := by
    rw [List.findIdx?_eq_none_iff]
    intro x hx
    exact decide_eq_false fun e => hk (List.mem_map.mpr ⟨x, hx, e⟩)
  rw [hidx, hnone]
  refine wpAny_updateDictKeys (hz := hes) ho hd (hQ _ ⟨_, _, ep + 1, Heap.get?_update_self _ ho (Obj.isFreed_of_dict (Obj.data_mapDictKeys hd _)), hc.mapDictKeys _, Obj.data_mapDictKeys hd _, hks.push hkey _, ?_, ?_⟩ (Heap.SameBut.update ..))
  · have := hp.append hkey ((intKind prog w).hash k) v
    obtain ⟨l⟩ := es
    simpa using this
  · rw [List.map_append, List.nodup_append]
    refine ⟨hn, by simp, ?_⟩
    intro a ha b hb
    simp only [List.map_cons, List.map_nil, List.mem_singleton] at hb
    subst hb
    exact fun e => hk (e ▸ ha)
theorem merge_wp {d o : Addr} {kvs more : List (Int × Value)} (hdo : d ≠ o) (hoS : (o == sysModules) = false) (hd : s.heap.DictOf (intKind prog w) d kvs) (ho : s.heap.DictOf (intKind prog w) o more) (hne : kvs ≠ []) (hn : ((kvs ++ more).map (·.1)).Nodup) (hz : kvs.length + more.length ≤ 5000)
    {Q : Unit → Shared → Prop} (hQ : ∀ h', h'.DictOf (intKind prog w) d (kvs ++ more) → Heap.SameBut d s.heap h' → Q () { s with heap := h' }) : wpAny (model prog w) A (mergeMapping d (.ref o) false) Q E s := by
  obtain ⟨od, esd, epd, hod, hcd, hdd, hkd, hpd, hnd⟩ := id hd
  obtain ⟨oo, eso, epo, hoo, hco, hdo', hko, hpo, hno⟩ := id ho
  have hlen : more.length = eso.size := by rw [← hpo.length]; simp
  unfold mergeMapping
  refine wpAny_bind (m := isInstance (.ref o) (.type "dict")) (wpAny_isInstance ho.typeIs isSubtype_dict_dict ?_)
  rw [if_pos rfl]
  refine wpAny_bind (wpAny_specialOf ho.typeIs F.slot_dict_iter.lookup (wpAny_bind (wpAny_pure ?_)))
  simp only [beq_self_eq_true]
  rw [if_neg (by rw [hoS]; decide)]
  refine wpAny_bind (wpAny_dictEntries hod hdd ?_)
  have hesd : esd.isEmpty = false := by
    cases h : esd.isEmpty with
    | false => rfl
    | true =>
      have h0 : esd = #[] := Array.isEmpty_iff.mp h
      have := hpd.length
      rw [h0] at this
      exact absurd (List.length_eq_zero_iff.mp (by simpa using this.symm)) hne
  rw [if_neg (by rw [hesd]; decide)]
  refine wpAny_bind (wpAny_dictEntries hoo hdo' ?_)
  refine wpAny_bind (wpAny_dictEpoch hoo hdo' ?_)
  refine wpAny_bind ?_
  rw [List.range_eq_range']
  refine wpAny_forIn_list _ (fun rest _ s' => ∃ h' i, s' = { s with heap := h' } ∧ rest = List.range' i (eso.size - i) ∧ i ≤ eso.size ∧ h'.DictOf (intKind prog w) d (kvs ++ more.take i) ∧ h'.get? o = some oo ∧ Heap.SameBut d s.heap h') _ ?_ ?_ _ _
    ⟨s.heap, 0, rfl, by simp, Nat.zero_le _, by simpa using hd, hoo, Heap.SameBut.refl _ _⟩
  · rintro x rest b s' ⟨h', i, rfl, hr, hi, hd', hoo', hs'⟩
    have hlt : i < eso.size := by
      rcases Nat.lt_or_ge i eso.size with h | h
      · exact h
      · rw [Nat.sub_eq_zero_of_le h] at hr; simp at hr
    obtain ⟨rfl, hrest⟩ : x = i ∧ rest = List.range' (i + 1) (eso.size - (i + 1)) := by
      have e : eso.size - i = (eso.size - (i + 1)) + 1 := by exact o_ss ‹_›
      rw [e, List.range'_succ] at hr
      injection hr with h1 h2
      exact ⟨h1, h2⟩
    refine wpAny_bind (wpAny_dictEntries hoo' hdo' ?_)
    rw [Array.getElem?_eq_getElem hlt]
    have hxl : x < more.length := by (clear hdo hz hi; omega)
    have hkv : more[x]? = some more[x] := List.getElem?_eq_getElem hxl
    obtain ⟨hkey, hval⟩ := hpo.get? (e := eso[x]) (by simp [hlt]) hkv
    obtain ⟨k', hkey', hhash⟩ := hko eso[x] (Array.getElem_mem hlt)
    obtain rfl : k' = more[x].1 := (intKind prog w).inj _ _ _ hkey' hkey
    dsimp only
    rw [hhash, hval]
    refine wpAny_bind (wpAny_holding ?_)
    rw [if_neg (by decide)]
    have hnk : more[x].1 ∉ (kvs ++ more.take x).map (·.1) := by
      have h2 : kvs ++ more = (kvs ++ more.take x) ++ (more[x] :: more.drop (x + 1)) := by rw [List.append_assoc, List.getElem_cons_drop, List.take_append_drop]
      rw [h2, List.map_append, List.map_cons, List.nodup_append] at hn
      intro hm
      exact hn.2.2 _ hm _ List.mem_cons_self rfl
    refine put_wp hkey hd' hnk (by rw [List.length_append, List.length_take]; (clear hdo hi hhash; omega)) fun h'' hd'' hs'' => ?_
    have hoo'' : h''.get? o = some oo := (hs''.2 o (Ne.symm hdo)).trans hoo'
    refine wpAny_bind (wpAny_dictEpoch hoo'' hdo' ?_)
    rw [if_neg (by simp)]
    refine wpAny_pure ⟨h'', x + 1, rfl, hrest, hlt, ?_, hoo'', hs'.trans hs''⟩
    have h3 : more.take (x + 1) = more.take x ++ [more[x]] := by rw [List.take_add_one, hkv]; rfl
    rw [h3, ← List.append_assoc]
    exact hd''
  · rintro b s' ⟨h', i, rfl, hr, hi, hd', hoo', hs'⟩
    have hin : i = eso.size := by
      rcases Nat.lt_or_ge i eso.size with h | h
      · have e : eso.size - i = (eso.size - (i + 1)) + 1 := by exact o_ss ‹_›
        rw [e, List.range'_succ] at hr; exact nomatch hr
      · exact Nat.le_antisymm hi h
    refine wpAny_pure (hQ h' ?_ hs')
    rw [hin, ← hlen, List.take_length] at hd'; exact hd'
end
end Mine
namespace Mine
structure MainB (prog : Program) (w : World) (s0 : Shared) (l0 : List (Int × Str)) (m : Option Addr) (s : Shared) : Prop where
  eq : s = { s0 with heap := s.heap, toks := s0.toks + 3 * l0.length }
  size : s.heap.objs.size = s0.heap.objs.size + (l0.length + 16) / 17
  keep : ∀ b o, s0.heap.get? b = some o → s.heap.get? b = some o
  main : (m = none ∧ l0 = []) ∨ (m = some s0.heap.objs.size ∧ l0 ≠ [] ∧ ∃ kvs, LikeB l0 kvs ∧ s.heap.DictOf (intKind prog w) s0.heap.objs.size kvs)
section
variable {prog : Program} {w : World} {A : Around} {E : Value → Shared → Prop} {s0 s : Shared}
theorem first_part {lr : List (Int × Str)} {its : List (Sem Value × Sem Value)} (M : MainB prog w s0 [] none s) (h : ItsB prog w lr its) (hn : (lr.map (·.1)).Nodup) (h0 : lr ≠ []) (hz : lr.length ≤ 17) (h1 : 1 ≤ s0.toks) (h2 : s0.toks + 3 * lr.length ≤ 2513)
    {Q : Addr → Shared → Prop} (hQ : ∀ s', MainB prog w s0 lr (some s0.heap.objs.size) s' → Q s0.heap.objs.size s') : wpAny (model prog w) A (subDict its) Q E s := by
  obtain ⟨e1, e2, e3, _⟩ := M
  simp only [List.length_nil] at e1 e2
  have htk : s.toks = s0.toks := by rw [e1]; rfl
  have hlen : 0 < lr.length := List.length_pos_iff.mpr h0
  have e2' : s.heap.objs.size = s0.heap.objs.size := by (clear hz h1 h2 htk hlen; omega)
  refine sub_wp h hn hz (by (clear hz h2 e2 hlen e2'; omega)) (by (clear hz h1 e2 hlen e2'; omega)) fun h' k2 hl hd hs hk => ?_
  rw [e2'] at hd hs ⊢
  refine hQ _ ⟨?_, ?_, fun b o e => hk b o (e3 b o e), .inr ⟨rfl, h0, k2, hl, hd⟩⟩
  · rw [e1]
    show Shared.mk _ _ _ _ _ = Shared.mk _ _ _ _ _
    congr 1
  · show h'.objs.size = _
    rw [hs]; (clear h1 h2 e2 htk e2' hs; omega)
theorem next_part {l0 lr : List (Int × Str)} {its : List (Sem Value × Sem Value)} {dm : Addr} (M : MainB prog w s0 l0 (some dm) s) (hS : s0.heap.objs.size ≠ sysModules ∧ 2 ≤ s0.heap.objs.size) (h : ItsB prog w lr its) (hn : ((l0 ++ lr).map (·.1)).Nodup) (h0 : lr ≠ []) (hz : lr.length ≤ 17) (hm : l0.length % 17 = 0)
    (hz2 : l0.length + lr.length ≤ 5000) (h1 : 1 ≤ s0.toks) (h2 : s0.toks + 3 * (l0.length + lr.length) ≤ 2513)
    {Q : Addr → Shared → Prop} (hQ : ∀ sub s', (∀ E' : Value → Shared → Prop, wpAny (model prog w) A (mergeMapping dm (.ref sub) false) (fun _ s'' => MainB prog w s0 (l0 ++ lr) (some dm) s'') E' s') → Q sub s') : wpAny (model prog w) A (subDict its) Q E s := by
  obtain ⟨e1, e2, e3, e4⟩ := M
  rcases e4 with ⟨e, _⟩ | ⟨e4, e5, kvs, hlk, hdk⟩
  · cases e
  cases e4
  have htk : s.toks = s0.toks + 3 * l0.length := by rw [e1]
  have hlen : 0 < lr.length := List.length_pos_iff.mpr h0
  have hlen0 : 0 < l0.length := List.length_pos_iff.mpr e5
  have hnr : (lr.map (·.1)).Nodup := by
    rw [List.map_append, List.nodup_append] at hn; exact hn.2.1
  refine sub_wp h hnr hz (by (clear hS e2; omega)) (by (clear hS hz hz2 h1 e2 hlen hlen0; omega)) fun h' k2 hl hd hs hk => hQ _ _ fun E' => ?_
  have hdk' : h'.DictOf (intKind prog w) s0.heap.objs.size kvs := by
    obtain ⟨o, es, ep, ho, r⟩ := hdk
    exact ⟨o, es, ep, hk _ _ ho, r⟩
  have hlt : s0.heap.objs.size < s.heap.objs.size := by (clear hS hz hz2 h1 h2 htk hlen hs; omega)
  refine merge_wp (Nat.ne_of_lt hlt) (by
    have : s.heap.objs.size ≠ sysModules := fun e => by
      have e' : (s.heap.objs.size : Nat) = 1 := e
      have := hS.2
      (clear h1 h2 htk hlt this; omega)
    simpa using this) hdk' hd (by
      intro e
      have := hlk.len
      rw [e] at this
      simp at this
      (clear hS hz hz2 h1 h2 e2 htk hlen hs hlt; omega)) (by rw [List.map_append, hlk.keys, hl.keys, ← List.map_append]; exact hn) (by rw [hlk.len, hl.len]; assumption) fun h'' hd'' hs'' => ?_
  refine ⟨?_, ?_, fun b o e => ?_, .inr ⟨rfl, by simp [h0], kvs ++ k2, hlk.append hl, hd''⟩⟩
  · have g1 : s.gens = s0.gens := by rw [e1]
    have g2 : s.drawn = s0.drawn := by rw [e1]
    have g3 : s.os = s0.os := by rw [e1]
    show Shared.mk h'' s.gens s.drawn (s.toks + 3 * lr.length) s.os = Shared.mk h'' s0.gens s0.drawn (s0.toks + 3 * (l0 ++ lr).length) s0.os
    rw [g1, g2, g3, htk, List.length_append, Nat.mul_add, Nat.add_assoc]
  · show h''.objs.size = _
    rw [hs''.1]
    show h'.objs.size = _
    rw [hs, e2, List.length_append]
    (clear hS hz2 h1 h2 e2 htk hlen0 hs hlt; omega)
  · have hb : b ≠ s0.heap.objs.size := Nat.ne_of_lt (Heap.lt_size e)
    exact (hs''.2 b hb).trans (hk b o (e3 b o e))
end
end Mine
namespace Mine
section
variable {prog : Program} {w : World} {A : Around} {E : Value → Shared → Prop} {s0 s : Shared}
theorem display_wp {l : List (Int × Str)} {its : List (Sem Value × Sem Value)} (h : ItsB prog w l its) (hn : (l.map (·.1)).Nodup) (h0 : l ≠ []) (hz : l.length ≤ 5000) (h1 : 1 ≤ s0.toks) (h2 : s0.toks + 3 * l.length ≤ 2513) (hS : s0.heap.objs.size ≠ sysModules ∧ 2 ≤ s0.heap.objs.size) {Q : Value → Shared → Prop}
    (hQ : ∀ s', MainB prog w s0 l (some s0.heap.objs.size) s' → Q (.ref s0.heap.objs.size) s') : wpAny (model prog w) A (dictDisplay (its.map fun p => (some p.1, p.2))) Q E s0 := by
  unfold dictDisplay
  dsimp only
  refine wpAny_bind (wpAny_mono (wpAny_forIn_list _ (fun rest (b : Option Addr × List (Sem Value × Sem Value)) s' => ∃ l0 lr lrest itr, rest = itr.map (fun p => (some p.1, p.2)) ∧ l = l0 ++ lr ++ lrest ∧ ItsB prog w lr b.2 ∧ ItsB prog w lrest itr ∧ lr.length < 17 ∧ l0.length % 17 = 0 ∧ MainB prog w s0 l0 b.1 s')
    (fun b s' => ∃ l0 lr, l = l0 ++ lr ∧ ItsB prog w lr b.2 ∧ lr.length < 17 ∧ l0.length % 17 = 0 ∧ MainB prog w s0 l0 b.1 s') ?_ ?_ _ _ ⟨[], [], l, its, rfl, rfl, .nil, h, by decide, rfl, ⟨rfl, rfl, fun _ _ e => e, .inl ⟨rfl, rfl⟩⟩⟩) (fun b s' ⟨l0, lr, hl, hr, h17, hm, M⟩ => ?_) fun _ _ e => e)
  · rintro x rest ⟨m, run⟩ s' ⟨l0, lr, lrest, itr, hrest, rfl, hr, hit, h17, hm, M⟩
    cases hit with
    | nil => simp at hrest
    | @cons i y p lrest itr hp hit =>
      rw [List.map_cons] at hrest
      injection hrest with hx hrest
      subst hx hrest
      dsimp only
      have hr' : ItsB prog w (lr ++ [(i, y)]) (run ++ [p]) := hr.append (.cons hp .nil)
      have hlr := hr.len
      simp only [List.length_append, List.length_cons] at hz h2
      by_cases h16 : lr.length = 16
      · rw [if_pos (by rw [List.length_append, hlr, h16]; rfl), if_neg (by simp)]
        have hnd : ((l0 ++ (lr ++ [(i, y)])).map (·.1)).Nodup := by
          have e : l0 ++ lr ++ (i, y) :: lrest = (l0 ++ (lr ++ [(i, y)])) ++ lrest := by simp
          rw [e, List.map_append, List.nodup_append] at hn
          exact hn.1
        have fin : ∀ m' s'', MainB prog w s0 (l0 ++ (lr ++ [(i, y)])) m' s'' → ∃ l0' lr' lrest' itr', itr.map (fun p : Sem Value × Sem Value => (some p.1, p.2)) = itr'.map (fun p => (some p.1, p.2)) ∧ l0 ++ lr ++ (i, y) :: lrest = l0' ++ lr' ++ lrest' ∧ ItsB prog w lr' [] ∧ ItsB prog w lrest' itr' ∧ lr'.length < 17 ∧ l0'.length % 17 = 0 ∧ MainB prog w s0 l0' m' s'' := fun m' s'' M' =>
          ⟨l0 ++ (lr ++ [(i, y)]), [], lrest, itr, rfl, by simp, .nil, hit, by decide, by rw [List.length_append, List.length_append, h16]; simp; assumption, M'⟩
        cases m with
        | none =>
          have hl0 : l0 = [] := by
            rcases M.main with ⟨_, e⟩ | ⟨e, _⟩
            · exact e
            · cases e
          subst hl0
          refine wpAny_bind (wpAny_bind (first_part M hr' (by simpa using hnd) (by simp) (by simp; exact Nat.le_of_lt_succ h17) h1 (by simp at h2 ⊢; (clear h1 hS h17 hlr; omega)) fun s'' M' => wpAny_pure (wpAny_pure ?_)))
          exact fin _ _ (by simpa using M')
        | some d =>
          have hd : d = s0.heap.objs.size := by
            rcases M.main with ⟨e, _⟩ | ⟨e, _⟩
            · cases e
            · injection e
          refine wpAny_bind (wpAny_bind (wpAny_holding (next_part M hS hr' hnd (by simp) (by simp; exact Nat.le_of_lt_succ h17) hm (by simp; (clear hS h17 hlr hd; omega)) h1 (by simp; (clear h1 hS h17 hz hlr hd; omega)) fun sub s'' hmerge => wpAny_bind (wpAny_onRaise (wpAny_holding (wpAny_mono (hmerge _) (fun _ s3 M' => wpAny_pure (wpAny_pure ?_)) fun _ _ e => e))))))
          exact fin _ _ M'
      · rw [if_neg (by rw [List.length_append, hlr]; simpa using h16)]
        exact wpAny_pure ⟨l0, lr ++ [(i, y)], lrest, itr, rfl, by simp, hr', hit, by rw [List.length_append]; simp; (clear h1 hS hm hz h2; omega), hm, M⟩
  · rintro ⟨m, run⟩ s' ⟨l0, lr, lrest, itr, hrest, hl, hr, hit, h17, hm, M⟩
    have : itr = [] := by simpa using hrest.symm
    subst this
    cases hit
    exact ⟨l0, lr, by rw [hl]; simp, hr, h17, hm, M⟩
  · obtain ⟨m, run⟩ := b
    dsimp only at M hr ⊢
    have hlr := hr.len
    subst hl
    rw [List.length_append] at hz h2
    by_cases hrun : run = []
    · have hlr0 : lr = [] := List.length_eq_zero_iff.mp (by rw [← hlr, hrun]; rfl)
      subst hlr0 hrun
      rw [List.append_nil] at h0 hn
      rcases M.main with ⟨_, e⟩ | ⟨e, _⟩
      · exact absurd e h0
      · subst e
        rw [if_pos (by rfl)]
        refine wpAny_bind (wpAny_pure ?_)
        exact wpAny_pure (hQ _ (by simpa using M))
    · rw [if_neg (by simpa using hrun)]
      have hlr0 : lr ≠ [] := fun e => hrun (List.length_eq_zero_iff.mp (by rw [hlr, e]; rfl))
      cases m with
      | none =>
        have hl0 : l0 = [] := by
          rcases M.main with ⟨_, e⟩ | ⟨e, _⟩
          · exact e
          · cases e
        subst hl0
        refine wpAny_bind (wpAny_bind (first_part M hr (by simpa using hn) hlr0 (by exact Nat.le_of_lt h17) h1 (by simp at h2; assumption) fun s'' M' => wpAny_pure ?_))
        exact wpAny_pure (hQ _ (by simpa using M'))
      | some d =>
        have hd : d = s0.heap.objs.size := by
          rcases M.main with ⟨e, _⟩ | ⟨e, _⟩
          · cases e
          · injection e
        refine wpAny_bind (wpAny_bind (wpAny_holding (next_part M hS hr hn hlr0 (by exact Nat.le_of_lt h17) hm hz h1 h2 fun sub s'' hmerge => wpAny_bind (wpAny_onRaise (wpAny_holding (wpAny_mono (hmerge _) (fun _ s3 M' => wpAny_pure ?_) fun _ _ e => e))))))
        subst hd
        exact wpAny_pure (hQ _ M')
end
end Mine
namespace Mine
noncomputable def FA (i : Nat) : Arguments := match PySem.Challenge.pw_tc0075_01.main.body[i]? with
  | some (.FunctionDef _ a _ _ _ _ _ _ _ _) => a
  | _ => default
noncomputable def MA (i : Nat) : Arguments := match clsB[i]? with
  | some (.FunctionDef _ a _ _ _ _ _ _ _ _) => a
  | _ => default
noncomputable def hl_z (P : Params) : List Obj := [boot_o_0 P, boot_o_1 P, boot_o_2 P, boot_o_3 P, boot_o_4 P, boot_o_5 P, boot_o_6 P, boot_o_7 P, boot_o_8 P, boot_o_9 P, boot_o_10 P]
noncomputable def ob_11 (P : Params) : Obj := ⟨(.type "tuple"), none, (.seq #[] 0), #[]⟩
noncomputable def ob_12 (P : Params) : Obj := ⟨.none, none, (.fields #[]), #[]⟩
noncomputable def ob_13 (P : Params) : Obj := ⟨(.type "code"), none, (.fields #[(.str ⟨#[60,109,111,100,117,108,101,62]⟩ 182), (.str ⟨#[60,109,111,100,117,108,101,62]⟩ 183), (.str ⟨#[47,99,108,97,105,109,47,99,117,116,46,112,121]⟩ 184), (.int 1 0), (.int 0 0), (.int 0 0), (.int 0 0), (.int 0 0), (.ref 11), (.bool false), (.int 181 0), (.ref 12), .none, .none, .none, .none, (.int 185 0), (.int 1 0), (.str ⟨#[47,99,108,97,105,109,47,99,117,116,46,112,121]⟩ 186)]), #[]⟩
noncomputable def ob_14 (P : Params) : Obj := ⟨(.type "frame"), none, .plain, #[(some (.ref 13)), (some (.ref 3)), (some (.ref 3)), none, (some (.str ⟨#[95,95,109,97,105,110,95,95]⟩ 164)), none, (some (.ref 0))]⟩
noncomputable def hl_a (P : Params) : List Obj := [boot_o_0 P, boot_o_1 P, boot_o_2 P, boot_o_3 P, boot_o_4 P, boot_o_5 P, boot_o_6 P, boot_o_7 P, boot_o_8 P, boot_o_9 P, boot_o_10 P, ob_11 P, ob_12 P, ob_13 P, ob_14 P]
noncomputable def ob_3_0 (P : Params) : Obj := ⟨(.type "dict"), none, (.dict #[⟨PyData.keyHash P ⟨#[95,95,110,97,109,101,95,95]⟩, .str ⟨#[95,95,110,97,109,101,95,95]⟩ 165, (.str ⟨#[95,95,109,97,105,110,95,95]⟩ 164)⟩, ⟨PyData.keyHash P ⟨#[95,95,100,111,99,95,95]⟩, .str ⟨#[95,95,100,111,99,95,95]⟩ 166, .none⟩, ⟨PyData.keyHash P ⟨#[95,95,112,97,99,107,97,103,101,95,95]⟩, .str ⟨#[95,95,112,97,99,107,97,103,101,95,95]⟩ 167, .none⟩, ⟨PyData.keyHash P ⟨#[95,95,108,111,97,100,101,114,95,95]⟩, .str ⟨#[95,95,108,111,97,100,101,114,95,95]⟩ 168, (.builtin "__main__.__loader__#opaque")⟩, ⟨PyData.keyHash P ⟨#[95,95,115,112,101,99,95,95]⟩, .str ⟨#[95,95,115,112,101,99,95,95]⟩ 169, .none⟩, ⟨PyData.keyHash P ⟨#[95,95,97,110,110,111,116,97,116,105,111,110,115,95,95]⟩, .str ⟨#[95,95,97,110,110,111,116,97,116,105,111,110,115,95,95]⟩ 170, (.ref 6)⟩, ⟨PyData.keyHash P ⟨#[95,95,98,117,105,108,116,105,110,115,95,95]⟩, .str ⟨#[95,95,98,117,105,108,116,105,110,115,95,95]⟩ 171, (.ref 4)⟩, ⟨PyData.keyHash P ⟨#[95,95,102,105,108,101,95,95]⟩, .str ⟨#[95,95,102,105,108,101,95,95]⟩ 173, (.str ⟨#[47,99,108,97,105,109,47,99,117,116,46,112,121]⟩ 172)⟩, ⟨PyData.keyHash P ⟨#[95,95,99,97,99,104,101,100,95,95]⟩, .str ⟨#[95,95,99,97,99,104,101,100,95,95]⟩ 174, .none⟩, ⟨PyData.keyHash P ⟨#[95,119,97,108,108]⟩, .str ⟨#[95,119,97,108,108]⟩ 193, (.ref 21)⟩] 10), #[]⟩
noncomputable def ob_12_0 (P : Params) : Obj := ⟨.none, none, (.fields #[(.int 1 0), (.int 0 0), (.ref 20)]), #[]⟩
noncomputable def ob_15 (P : Params) : Obj := ⟨(.type "tuple"), none, (.seq #[] 0), #[]⟩
noncomputable def ob_16 (P : Params) : Obj := ⟨.none, none, (.fields #[]), #[]⟩
noncomputable def ob_17 (P : Params) : Obj := ⟨(.type "tuple"), none, (.seq #[(.str ⟨#[107]⟩ 190)] 0), #[]⟩
noncomputable def ob_18 (P : Params) : Obj := ⟨(.type "tuple"), none, (.seq #[] 0), #[]⟩
noncomputable def ob_19 (P : Params) : Obj := ⟨.none, none, (.func { name := ⟨#[95,119,97,108,108]⟩, qualname := ⟨#[95,119,97,108,108]⟩, params := (FA 0), body := .stmts (FB 0), scope := (FS 0), globals := 0, closure := [], defaults := .none, kwdefaults := .none, doc := .none, pyModule := .none, annotations := none, code := .none, closureTuple := .none, builtins := 0 }), #[]⟩
noncomputable def ob_20 (P : Params) : Obj := ⟨(.type "code"), none, (.fields #[(.str ⟨#[95,119,97,108,108]⟩ 187), (.str ⟨#[95,119,97,108,108]⟩ 188), (.str ⟨#[47,99,108,97,105,109,47,99,117,116,46,112,121]⟩ 189), (.int 1 0), (.int 1 0), (.int 0 0), (.int 0 0), (.int 3 0), (.ref 15), (.bool true), (.int 181 0), (.ref 16), .none, (.ref 17), (.ref 18), (.ref 19), (.int 191 0), (.int 1 0), (.str ⟨#[47,99,108,97,105,109,47,99,117,116,46,112,121]⟩ 192)]), #[]⟩
noncomputable def ob_21 (P : Params) : Obj := ⟨(.type "function"), none, (.func { name := ⟨#[95,119,97,108,108]⟩, qualname := ⟨#[95,119,97,108,108]⟩, params := (FA 0), body := .stmts (FB 0), scope := (FS 0), globals := 3, closure := [], defaults := .none, kwdefaults := .none, doc := .none, pyModule := (.str ⟨#[95,95,109,97,105,110,95,95]⟩ 164), annotations := none, code := (.ref 20), closureTuple := .none, builtins := 0 }), #[]⟩
noncomputable def hl_0 (P : Params) : List Obj := [boot_o_0 P, boot_o_1 P, boot_o_2 P, ob_3_0 P, boot_o_4 P, boot_o_5 P, boot_o_6 P, boot_o_7 P, boot_o_8 P, boot_o_9 P, boot_o_10 P, ob_11 P, ob_12_0 P, ob_13 P, ob_14 P, ob_15 P, ob_16 P, ob_17 P, ob_18 P, ob_19 P, ob_20 P, ob_21 P]
noncomputable def ob_3_1 (P : Params) : Obj := ⟨(.type "dict"), none, (.dict #[⟨PyData.keyHash P ⟨#[95,95,110,97,109,101,95,95]⟩, .str ⟨#[95,95,110,97,109,101,95,95]⟩ 165, (.str ⟨#[99,112,121,51,49,51,46,100,105,115]⟩ 194)⟩, ⟨PyData.keyHash P ⟨#[95,95,100,111,99,95,95]⟩, .str ⟨#[95,95,100,111,99,95,95]⟩ 166, .none⟩, ⟨PyData.keyHash P ⟨#[95,95,112,97,99,107,97,103,101,95,95]⟩, .str ⟨#[95,95,112,97,99,107,97,103,101,95,95]⟩ 167, .none⟩, ⟨PyData.keyHash P ⟨#[95,95,108,111,97,100,101,114,95,95]⟩, .str ⟨#[95,95,108,111,97,100,101,114,95,95]⟩ 168, (.builtin "__main__.__loader__#opaque")⟩, ⟨PyData.keyHash P ⟨#[95,95,115,112,101,99,95,95]⟩, .str ⟨#[95,95,115,112,101,99,95,95]⟩ 169, .none⟩, ⟨PyData.keyHash P ⟨#[95,95,97,110,110,111,116,97,116,105,111,110,115,95,95]⟩, .str ⟨#[95,95,97,110,110,111,116,97,116,105,111,110,115,95,95]⟩ 170, (.ref 6)⟩, ⟨PyData.keyHash P ⟨#[95,95,98,117,105,108,116,105,110,115,95,95]⟩, .str ⟨#[95,95,98,117,105,108,116,105,110,115,95,95]⟩ 171, (.ref 4)⟩, ⟨PyData.keyHash P ⟨#[95,95,102,105,108,101,95,95]⟩, .str ⟨#[95,95,102,105,108,101,95,95]⟩ 173, (.str ⟨#[47,99,108,97,105,109,47,99,117,116,46,112,121]⟩ 172)⟩, ⟨PyData.keyHash P ⟨#[95,95,99,97,99,104,101,100,95,95]⟩, .str ⟨#[95,95,99,97,99,104,101,100,95,95]⟩ 174, .none⟩, ⟨PyData.keyHash P ⟨#[95,119,97,108,108]⟩, .str ⟨#[95,119,97,108,108]⟩ 193, (.ref 21)⟩] 10), #[]⟩
noncomputable def hl_1 (P : Params) : List Obj := [boot_o_0 P, boot_o_1 P, boot_o_2 P, ob_3_1 P, boot_o_4 P, boot_o_5 P, boot_o_6 P, boot_o_7 P, boot_o_8 P, boot_o_9 P, boot_o_10 P, ob_11 P, ob_12_0 P, ob_13 P, ob_14 P, ob_15 P, ob_16 P, ob_17 P, ob_18 P, ob_19 P, ob_20 P, ob_21 P]
noncomputable def ob_3_2 (P : Params) : Obj := ⟨(.type "dict"), none, (.dict #[⟨PyData.keyHash P ⟨#[95,95,110,97,109,101,95,95]⟩, .str ⟨#[95,95,110,97,109,101,95,95]⟩ 165, (.str ⟨#[99,112,121,51,49,51,46,100,105,115]⟩ 194)⟩, ⟨PyData.keyHash P ⟨#[95,95,100,111,99,95,95]⟩, .str ⟨#[95,95,100,111,99,95,95]⟩ 166, .none⟩, ⟨PyData.keyHash P ⟨#[95,95,112,97,99,107,97,103,101,95,95]⟩, .str ⟨#[95,95,112,97,99,107,97,103,101,95,95]⟩ 167, .none⟩, ⟨PyData.keyHash P ⟨#[95,95,108,111,97,100,101,114,95,95]⟩, .str ⟨#[95,95,108,111,97,100,101,114,95,95]⟩ 168, (.builtin "__main__.__loader__#opaque")⟩, ⟨PyData.keyHash P ⟨#[95,95,115,112,101,99,95,95]⟩, .str ⟨#[95,95,115,112,101,99,95,95]⟩ 169, .none⟩, ⟨PyData.keyHash P ⟨#[95,95,97,110,110,111,116,97,116,105,111,110,115,95,95]⟩, .str ⟨#[95,95,97,110,110,111,116,97,116,105,111,110,115,95,95]⟩ 170, (.ref 6)⟩, ⟨PyData.keyHash P ⟨#[95,95,98,117,105,108,116,105,110,115,95,95]⟩, .str ⟨#[95,95,98,117,105,108,116,105,110,115,95,95]⟩ 171, (.ref 4)⟩, ⟨PyData.keyHash P ⟨#[95,95,102,105,108,101,95,95]⟩, .str ⟨#[95,95,102,105,108,101,95,95]⟩ 173, (.str ⟨#[47,99,108,97,105,109,47,99,117,116,46,112,121]⟩ 172)⟩, ⟨PyData.keyHash P ⟨#[95,95,99,97,99,104,101,100,95,95]⟩, .str ⟨#[95,95,99,97,99,104,101,100,95,95]⟩ 174, .none⟩, ⟨PyData.keyHash P ⟨#[95,119,97,108,108]⟩, .str ⟨#[95,119,97,108,108]⟩ 193, (.ref 21)⟩, ⟨PyData.keyHash P ⟨#[67,79,77,80,73,76,69,82,95,70,76,65,71,95,78,65,77,69,83]⟩, .str ⟨#[67,79,77,80,73,76,69,82,95,70,76,65,71,95,78,65,77,69,83]⟩ 226, (.ref 22)⟩] 11), #[]⟩
noncomputable def ob_22 (P : Params) : Obj := ⟨(.type "dict"), none, (.dict #[⟨1, (.int 1 196), (.str ⟨#[79,80,84,73,77,73,90,69,68]⟩ 197)⟩, ⟨2, (.int 2 198), (.str ⟨#[78,69,87,76,79,67,65,76,83]⟩ 199)⟩, ⟨4, (.int 4 200), (.str ⟨#[86,65,82,65,82,71,83]⟩ 201)⟩, ⟨8, (.int 8 202), (.str ⟨#[86,65,82,75,69,89,87,79,82,68,83]⟩ 203)⟩, ⟨16, (.int 16 204), (.str ⟨#[78,69,83,84,69,68]⟩ 205)⟩, ⟨32, (.int 32 206), (.str ⟨#[71,69,78,69,82,65,84,79,82]⟩ 207)⟩, ⟨64, (.int 64 208), (.str ⟨#[78,79,70,82,69,69]⟩ 209)⟩, ⟨128, (.int 128 210), (.str ⟨#[67,79,82,79,85,84,73,78,69]⟩ 211)⟩, ⟨256, (.int 256 212), (.str ⟨#[73,84,69,82,65,66,76,69,95,67,79,82,79,85,84,73,78,69]⟩ 213)⟩, ⟨512, (.int 512 214), (.str ⟨#[65,83,89,78,67,95,71,69,78,69,82,65,84,79,82]⟩ 215)⟩] 10), #[]⟩
noncomputable def hl_2 (P : Params) : List Obj := [boot_o_0 P, boot_o_1 P, boot_o_2 P, ob_3_2 P, boot_o_4 P, boot_o_5 P, boot_o_6 P, boot_o_7 P, boot_o_8 P, boot_o_9 P, boot_o_10 P, ob_11 P, ob_12_0 P, ob_13 P, ob_14 P, ob_15 P, ob_16 P, ob_17 P, ob_18 P, ob_19 P, ob_20 P, ob_21 P, ob_22 P]
noncomputable def ob_3_3 (P : Params) : Obj := ⟨(.type "dict"), none, (.dict #[⟨PyData.keyHash P ⟨#[95,95,110,97,109,101,95,95]⟩, .str ⟨#[95,95,110,97,109,101,95,95]⟩ 165, (.str ⟨#[99,112,121,51,49,51,46,100,105,115]⟩ 194)⟩, ⟨PyData.keyHash P ⟨#[95,95,100,111,99,95,95]⟩, .str ⟨#[95,95,100,111,99,95,95]⟩ 166, .none⟩, ⟨PyData.keyHash P ⟨#[95,95,112,97,99,107,97,103,101,95,95]⟩, .str ⟨#[95,95,112,97,99,107,97,103,101,95,95]⟩ 167, .none⟩, ⟨PyData.keyHash P ⟨#[95,95,108,111,97,100,101,114,95,95]⟩, .str ⟨#[95,95,108,111,97,100,101,114,95,95]⟩ 168, (.builtin "__main__.__loader__#opaque")⟩, ⟨PyData.keyHash P ⟨#[95,95,115,112,101,99,95,95]⟩, .str ⟨#[95,95,115,112,101,99,95,95]⟩ 169, .none⟩, ⟨PyData.keyHash P ⟨#[95,95,97,110,110,111,116,97,116,105,111,110,115,95,95]⟩, .str ⟨#[95,95,97,110,110,111,116,97,116,105,111,110,115,95,95]⟩ 170, (.ref 6)⟩, ⟨PyData.keyHash P ⟨#[95,95,98,117,105,108,116,105,110,115,95,95]⟩, .str ⟨#[95,95,98,117,105,108,116,105,110,115,95,95]⟩ 171, (.ref 4)⟩, ⟨PyData.keyHash P ⟨#[95,95,102,105,108,101,95,95]⟩, .str ⟨#[95,95,102,105,108,101,95,95]⟩ 173, (.str ⟨#[47,99,108,97,105,109,47,99,117,116,46,112,121]⟩ 172)⟩, ⟨PyData.keyHash P ⟨#[95,95,99,97,99,104,101,100,95,95]⟩, .str ⟨#[95,95,99,97,99,104,101,100,95,95]⟩ 174, .none⟩, ⟨PyData.keyHash P ⟨#[95,119,97,108,108]⟩, .str ⟨#[95,119,97,108,108]⟩ 193, (.ref 21)⟩, ⟨PyData.keyHash P ⟨#[67,79,77,80,73,76,69,82,95,70,76,65,71,95,78,65,77,69,83]⟩, .str ⟨#[67,79,77,80,73,76,69,82,95,70,76,65,71,95,78,65,77,69,83]⟩ 226, (.ref 22)⟩, ⟨PyData.keyHash P ⟨#[112,114,101,116,116,121,95,102,108,97,103,115]⟩, .str ⟨#[112,114,101,116,116,121,95,102,108,97,103,115]⟩ 236, (.ref 29)⟩] 12), #[]⟩
noncomputable def ob_12_3 (P : Params) : Obj := ⟨.none, none, (.fields #[(.int 1 0), (.int 0 0), (.ref 20), (.int 6 0), (.int 0 0), (.ref 28)]), #[]⟩
noncomputable def ob_23 (P : Params) : Obj := ⟨(.type "tuple"), none, (.seq #[] 0), #[]⟩
noncomputable def ob_24 (P : Params) : Obj := ⟨.none, none, (.fields #[]), #[]⟩
noncomputable def ob_25 (P : Params) : Obj := ⟨(.type "tuple"), none, (.seq #[(.str ⟨#[102,108,97,103,115]⟩ 230), (.str ⟨#[110,97,109,101,115]⟩ 231), (.str ⟨#[105]⟩ 232), (.str ⟨#[102,108,97,103]⟩ 233)] 0), #[]⟩
noncomputable def ob_26 (P : Params) : Obj := ⟨(.type "tuple"), none, (.seq #[] 0), #[]⟩
noncomputable def ob_27 (P : Params) : Obj := ⟨.none, none, (.func { name := ⟨#[112,114,101,116,116,121,95,102,108,97,103,115]⟩, qualname := ⟨#[112,114,101,116,116,121,95,102,108,97,103,115]⟩, params := (FA 3), body := .stmts (FB 3), scope := (FS 3), globals := 0, closure := [], defaults := .none, kwdefaults := .none, doc := .none, pyModule := .none, annotations := none, code := .none, closureTuple := .none, builtins := 0 }), #[]⟩
noncomputable def ob_28 (P : Params) : Obj := ⟨(.type "code"), none, (.fields #[(.str ⟨#[112,114,101,116,116,121,95,102,108,97,103,115]⟩ 227), (.str ⟨#[112,114,101,116,116,121,95,102,108,97,103,115]⟩ 228), (.str ⟨#[47,99,108,97,105,109,47,99,117,116,46,112,121]⟩ 229), (.int 6 0), (.int 1 0), (.int 0 0), (.int 0 0), (.int 3 0), (.ref 23), (.bool true), (.int 181 0), (.ref 24), .none, (.ref 25), (.ref 26), (.ref 27), (.int 234 0), (.int 6 0), (.str ⟨#[47,99,108,97,105,109,47,99,117,116,46,112,121]⟩ 235)]), #[]⟩
noncomputable def ob_29 (P : Params) : Obj := ⟨(.type "function"), none, (.func { name := ⟨#[112,114,101,116,116,121,95,102,108,97,103,115]⟩, qualname := ⟨#[112,114,101,116,116,121,95,102,108,97,103,115]⟩, params := (FA 3), body := .stmts (FB 3), scope := (FS 3), globals := 3, closure := [], defaults := .none, kwdefaults := .none, doc := .none, pyModule := (.str ⟨#[99,112,121,51,49,51,46,100,105,115]⟩ 194), annotations := none, code := (.ref 28), closureTuple := .none, builtins := 0 }), #[]⟩
noncomputable def hl_3 (P : Params) : List Obj := [boot_o_0 P, boot_o_1 P, boot_o_2 P, ob_3_3 P, boot_o_4 P, boot_o_5 P, boot_o_6 P, boot_o_7 P, boot_o_8 P, boot_o_9 P, boot_o_10 P, ob_11 P, ob_12_3 P, ob_13 P, ob_14 P, ob_15 P, ob_16 P, ob_17 P, ob_18 P, ob_19 P, ob_20 P, ob_21 P, ob_22 P, ob_23 P, ob_24 P, ob_25 P, ob_26 P, ob_27 P, ob_28 P, ob_29 P]
noncomputable def ob_3_4 (P : Params) : Obj := ⟨(.type "dict"), none, (.dict #[⟨PyData.keyHash P ⟨#[95,95,110,97,109,101,95,95]⟩, .str ⟨#[95,95,110,97,109,101,95,95]⟩ 165, (.str ⟨#[99,112,121,51,49,51,46,100,105,115]⟩ 194)⟩, ⟨PyData.keyHash P ⟨#[95,95,100,111,99,95,95]⟩, .str ⟨#[95,95,100,111,99,95,95]⟩ 166, .none⟩, ⟨PyData.keyHash P ⟨#[95,95,112,97,99,107,97,103,101,95,95]⟩, .str ⟨#[95,95,112,97,99,107,97,103,101,95,95]⟩ 167, .none⟩, ⟨PyData.keyHash P ⟨#[95,95,108,111,97,100,101,114,95,95]⟩, .str ⟨#[95,95,108,111,97,100,101,114,95,95]⟩ 168, (.builtin "__main__.__loader__#opaque")⟩, ⟨PyData.keyHash P ⟨#[95,95,115,112,101,99,95,95]⟩, .str ⟨#[95,95,115,112,101,99,95,95]⟩ 169, .none⟩, ⟨PyData.keyHash P ⟨#[95,95,97,110,110,111,116,97,116,105,111,110,115,95,95]⟩, .str ⟨#[95,95,97,110,110,111,116,97,116,105,111,110,115,95,95]⟩ 170, (.ref 6)⟩, ⟨PyData.keyHash P ⟨#[95,95,98,117,105,108,116,105,110,115,95,95]⟩, .str ⟨#[95,95,98,117,105,108,116,105,110,115,95,95]⟩ 171, (.ref 4)⟩, ⟨PyData.keyHash P ⟨#[95,95,102,105,108,101,95,95]⟩, .str ⟨#[95,95,102,105,108,101,95,95]⟩ 173, (.str ⟨#[47,99,108,97,105,109,47,99,117,116,46,112,121]⟩ 172)⟩, ⟨PyData.keyHash P ⟨#[95,95,99,97,99,104,101,100,95,95]⟩, .str ⟨#[95,95,99,97,99,104,101,100,95,95]⟩ 174, .none⟩, ⟨PyData.keyHash P ⟨#[95,119,97,108,108]⟩, .str ⟨#[95,119,97,108,108]⟩ 193, (.ref 21)⟩, ⟨PyData.keyHash P ⟨#[67,79,77,80,73,76,69,82,95,70,76,65,71,95,78,65,77,69,83]⟩, .str ⟨#[67,79,77,80,73,76,69,82,95,70,76,65,71,95,78,65,77,69,83]⟩ 226, (.ref 22)⟩, ⟨PyData.keyHash P ⟨#[112,114,101,116,116,121,95,102,108,97,103,115]⟩, .str ⟨#[112,114,101,116,116,121,95,102,108,97,103,115]⟩ 236, (.ref 29)⟩, ⟨PyData.keyHash P ⟨#[95,112,97,114,115,101,95,118,97,114,105,110,116]⟩, .str ⟨#[95,112,97,114,115,101,95,118,97,114,105,110,116]⟩ 245, (.ref 36)⟩] 13), #[]⟩
noncomputable def ob_12_4 (P : Params) : Obj := ⟨.none, none, (.fields #[(.int 1 0), (.int 0 0), (.ref 20), (.int 6 0), (.int 0 0), (.ref 28), (.int 18 0), (.int 0 0), (.ref 35)]), #[]⟩
noncomputable def ob_30 (P : Params) : Obj := ⟨(.type "tuple"), none, (.seq #[] 0), #[]⟩
noncomputable def ob_31 (P : Params) : Obj := ⟨.none, none, (.fields #[]), #[]⟩
noncomputable def ob_32 (P : Params) : Obj := ⟨(.type "tuple"), none, (.seq #[(.str ⟨#[105,116,101,114,97,116,111,114]⟩ 240), (.str ⟨#[98]⟩ 241), (.str ⟨#[118,97,108]⟩ 242)] 0), #[]⟩
noncomputable def ob_33 (P : Params) : Obj := ⟨(.type "tuple"), none, (.seq #[] 0), #[]⟩
noncomputable def ob_34 (P : Params) : Obj := ⟨.none, none, (.func { name := ⟨#[95,112,97,114,115,101,95,118,97,114,105,110,116]⟩, qualname := ⟨#[95,112,97,114,115,101,95,118,97,114,105,110,116]⟩, params := (FA 4), body := .stmts (FB 4), scope := (FS 4), globals := 0, closure := [], defaults := .none, kwdefaults := .none, doc := .none, pyModule := .none, annotations := none, code := .none, closureTuple := .none, builtins := 0 }), #[]⟩
noncomputable def ob_35 (P : Params) : Obj := ⟨(.type "code"), none, (.fields #[(.str ⟨#[95,112,97,114,115,101,95,118,97,114,105,110,116]⟩ 237), (.str ⟨#[95,112,97,114,115,101,95,118,97,114,105,110,116]⟩ 238), (.str ⟨#[47,99,108,97,105,109,47,99,117,116,46,112,121]⟩ 239), (.int 18 0), (.int 1 0), (.int 0 0), (.int 0 0), (.int 3 0), (.ref 30), (.bool true), (.int 181 0), (.ref 31), .none, (.ref 32), (.ref 33), (.ref 34), (.int 243 0), (.int 18 0), (.str ⟨#[47,99,108,97,105,109,47,99,117,116,46,112,121]⟩ 244)]), #[]⟩
noncomputable def ob_36 (P : Params) : Obj := ⟨(.type "function"), none, (.func { name := ⟨#[95,112,97,114,115,101,95,118,97,114,105,110,116]⟩, qualname := ⟨#[95,112,97,114,115,101,95,118,97,114,105,110,116]⟩, params := (FA 4), body := .stmts (FB 4), scope := (FS 4), globals := 3, closure := [], defaults := .none, kwdefaults := .none, doc := .none, pyModule := (.str ⟨#[99,112,121,51,49,51,46,100,105,115]⟩ 194), annotations := none, code := (.ref 35), closureTuple := .none, builtins := 0 }), #[]⟩
noncomputable def hl_4 (P : Params) : List Obj := [boot_o_0 P, boot_o_1 P, boot_o_2 P, ob_3_4 P, boot_o_4 P, boot_o_5 P, boot_o_6 P, boot_o_7 P, boot_o_8 P, boot_o_9 P, boot_o_10 P, ob_11 P, ob_12_4 P, ob_13 P, ob_14 P, ob_15 P, ob_16 P, ob_17 P, ob_18 P, ob_19 P, ob_20 P, ob_21 P, ob_22 P, ob_23 P, ob_24 P, ob_25 P, ob_26 P, ob_27 P, ob_28 P, ob_29 P, ob_30 P, ob_31 P, ob_32 P, ob_33 P, ob_34 P, ob_35 P, ob_36 P]
noncomputable def ob_3_5 (P : Params) : Obj := ⟨(.type "dict"), none, (.dict #[⟨PyData.keyHash P ⟨#[95,95,110,97,109,101,95,95]⟩, .str ⟨#[95,95,110,97,109,101,95,95]⟩ 165, (.str ⟨#[99,112,121,51,49,51,46,111,112,101,114,97,116,111,114]⟩ 246)⟩, ⟨PyData.keyHash P ⟨#[95,95,100,111,99,95,95]⟩, .str ⟨#[95,95,100,111,99,95,95]⟩ 166, .none⟩, ⟨PyData.keyHash P ⟨#[95,95,112,97,99,107,97,103,101,95,95]⟩, .str ⟨#[95,95,112,97,99,107,97,103,101,95,95]⟩ 167, .none⟩, ⟨PyData.keyHash P ⟨#[95,95,108,111,97,100,101,114,95,95]⟩, .str ⟨#[95,95,108,111,97,100,101,114,95,95]⟩ 168, (.builtin "__main__.__loader__#opaque")⟩, ⟨PyData.keyHash P ⟨#[95,95,115,112,101,99,95,95]⟩, .str ⟨#[95,95,115,112,101,99,95,95]⟩ 169, .none⟩, ⟨PyData.keyHash P ⟨#[95,95,97,110,110,111,116,97,116,105,111,110,115,95,95]⟩, .str ⟨#[95,95,97,110,110,111,116,97,116,105,111,110,115,95,95]⟩ 170, (.ref 6)⟩, ⟨PyData.keyHash P ⟨#[95,95,98,117,105,108,116,105,110,115,95,95]⟩, .str ⟨#[95,95,98,117,105,108,116,105,110,115,95,95]⟩ 171, (.ref 4)⟩, ⟨PyData.keyHash P ⟨#[95,95,102,105,108,101,95,95]⟩, .str ⟨#[95,95,102,105,108,101,95,95]⟩ 173, (.str ⟨#[47,99,108,97,105,109,47,99,117,116,46,112,121]⟩ 172)⟩, ⟨PyData.keyHash P ⟨#[95,95,99,97,99,104,101,100,95,95]⟩, .str ⟨#[95,95,99,97,99,104,101,100,95,95]⟩ 174, .none⟩, ⟨PyData.keyHash P ⟨#[95,119,97,108,108]⟩, .str ⟨#[95,119,97,108,108]⟩ 193, (.ref 21)⟩, ⟨PyData.keyHash P ⟨#[67,79,77,80,73,76,69,82,95,70,76,65,71,95,78,65,77,69,83]⟩, .str ⟨#[67,79,77,80,73,76,69,82,95,70,76,65,71,95,78,65,77,69,83]⟩ 226, (.ref 22)⟩, ⟨PyData.keyHash P ⟨#[112,114,101,116,116,121,95,102,108,97,103,115]⟩, .str ⟨#[112,114,101,116,116,121,95,102,108,97,103,115]⟩ 236, (.ref 29)⟩, ⟨PyData.keyHash P ⟨#[95,112,97,114,115,101,95,118,97,114,105,110,116]⟩, .str ⟨#[95,112,97,114,115,101,95,118,97,114,105,110,116]⟩ 245, (.ref 36)⟩] 13), #[]⟩
noncomputable def hl_5 (P : Params) : List Obj := [boot_o_0 P, boot_o_1 P, boot_o_2 P, ob_3_5 P, boot_o_4 P, boot_o_5 P, boot_o_6 P, boot_o_7 P, boot_o_8 P, boot_o_9 P, boot_o_10 P, ob_11 P, ob_12_4 P, ob_13 P, ob_14 P, ob_15 P, ob_16 P, ob_17 P, ob_18 P, ob_19 P, ob_20 P, ob_21 P, ob_22 P, ob_23 P, ob_24 P, ob_25 P, ob_26 P, ob_27 P, ob_28 P, ob_29 P, ob_30 P, ob_31 P, ob_32 P, ob_33 P, ob_34 P, ob_35 P, ob_36 P]
noncomputable def ob_3_6 (P : Params) : Obj := ⟨(.type "dict"), none, (.dict #[⟨PyData.keyHash P ⟨#[95,95,110,97,109,101,95,95]⟩, .str ⟨#[95,95,110,97,109,101,95,95]⟩ 165, (.str ⟨#[99,112,121,51,49,51,46,111,112,101,114,97,116,111,114]⟩ 246)⟩, ⟨PyData.keyHash P ⟨#[95,95,100,111,99,95,95]⟩, .str ⟨#[95,95,100,111,99,95,95]⟩ 166, .none⟩, ⟨PyData.keyHash P ⟨#[95,95,112,97,99,107,97,103,101,95,95]⟩, .str ⟨#[95,95,112,97,99,107,97,103,101,95,95]⟩ 167, .none⟩, ⟨PyData.keyHash P ⟨#[95,95,108,111,97,100,101,114,95,95]⟩, .str ⟨#[95,95,108,111,97,100,101,114,95,95]⟩ 168, (.builtin "__main__.__loader__#opaque")⟩, ⟨PyData.keyHash P ⟨#[95,95,115,112,101,99,95,95]⟩, .str ⟨#[95,95,115,112,101,99,95,95]⟩ 169, .none⟩, ⟨PyData.keyHash P ⟨#[95,95,97,110,110,111,116,97,116,105,111,110,115,95,95]⟩, .str ⟨#[95,95,97,110,110,111,116,97,116,105,111,110,115,95,95]⟩ 170, (.ref 6)⟩, ⟨PyData.keyHash P ⟨#[95,95,98,117,105,108,116,105,110,115,95,95]⟩, .str ⟨#[95,95,98,117,105,108,116,105,110,115,95,95]⟩ 171, (.ref 4)⟩, ⟨PyData.keyHash P ⟨#[95,95,102,105,108,101,95,95]⟩, .str ⟨#[95,95,102,105,108,101,95,95]⟩ 173, (.str ⟨#[47,99,108,97,105,109,47,99,117,116,46,112,121]⟩ 172)⟩, ⟨PyData.keyHash P ⟨#[95,95,99,97,99,104,101,100,95,95]⟩, .str ⟨#[95,95,99,97,99,104,101,100,95,95]⟩ 174, .none⟩, ⟨PyData.keyHash P ⟨#[95,119,97,108,108]⟩, .str ⟨#[95,119,97,108,108]⟩ 193, (.ref 21)⟩, ⟨PyData.keyHash P ⟨#[67,79,77,80,73,76,69,82,95,70,76,65,71,95,78,65,77,69,83]⟩, .str ⟨#[67,79,77,80,73,76,69,82,95,70,76,65,71,95,78,65,77,69,83]⟩ 226, (.ref 22)⟩, ⟨PyData.keyHash P ⟨#[112,114,101,116,116,121,95,102,108,97,103,115]⟩, .str ⟨#[112,114,101,116,116,121,95,102,108,97,103,115]⟩ 236, (.ref 29)⟩, ⟨PyData.keyHash P ⟨#[95,112,97,114,115,101,95,118,97,114,105,110,116]⟩, .str ⟨#[95,112,97,114,115,101,95,118,97,114,105,110,116]⟩ 245, (.ref 36)⟩, ⟨PyData.keyHash P ⟨#[97,100,100]⟩, .str ⟨#[97,100,100]⟩ 255, (.ref 43)⟩] 14), #[]⟩
noncomputable def ob_12_6 (P : Params) : Obj := ⟨.none, none, (.fields #[(.int 1 0), (.int 0 0), (.ref 20), (.int 6 0), (.int 0 0), (.ref 28), (.int 18 0), (.int 0 0), (.ref 35), (.int 27 0), (.int 0 0), (.ref 42)]), #[]⟩
noncomputable def ob_37 (P : Params) : Obj := ⟨(.type "tuple"), none, (.seq #[] 0), #[]⟩
noncomputable def ob_38 (P : Params) : Obj := ⟨.none, none, (.fields #[]), #[]⟩
noncomputable def ob_39 (P : Params) : Obj := ⟨(.type "tuple"), none, (.seq #[(.str ⟨#[97]⟩ 251), (.str ⟨#[98]⟩ 252)] 0), #[]⟩
noncomputable def ob_40 (P : Params) : Obj := ⟨(.type "tuple"), none, (.seq #[] 0), #[]⟩
noncomputable def ob_41 (P : Params) : Obj := ⟨.none, none, (.func { name := ⟨#[97,100,100]⟩, qualname := ⟨#[97,100,100]⟩, params := (FA 6), body := .stmts (FB 6), scope := (FS 6), globals := 0, closure := [], defaults := .none, kwdefaults := .none, doc := .none, pyModule := .none, annotations := none, code := .none, closureTuple := .none, builtins := 0 }), #[]⟩
noncomputable def ob_42 (P : Params) : Obj := ⟨(.type "code"), none, (.fields #[(.str ⟨#[97,100,100]⟩ 248), (.str ⟨#[97,100,100]⟩ 249), (.str ⟨#[47,99,108,97,105,109,47,99,117,116,46,112,121]⟩ 250), (.int 27 0), (.int 2 0), (.int 0 0), (.int 0 0), (.int 3 0), (.ref 37), (.bool true), (.int 181 0), (.ref 38), .none, (.ref 39), (.ref 40), (.ref 41), (.int 253 0), (.int 27 0), (.str ⟨#[47,99,108,97,105,109,47,99,117,116,46,112,121]⟩ 254)]), #[]⟩
noncomputable def ob_43 (P : Params) : Obj := ⟨(.type "function"), none, (.func { name := ⟨#[97,100,100]⟩, qualname := ⟨#[97,100,100]⟩, params := (FA 6), body := .stmts (FB 6), scope := (FS 6), globals := 3, closure := [], defaults := .none, kwdefaults := .none, doc := .none, pyModule := (.str ⟨#[99,112,121,51,49,51,46,111,112,101,114,97,116,111,114]⟩ 246), annotations := none, code := (.ref 42), closureTuple := .none, builtins := 0 }), #[]⟩
noncomputable def hl_6 (P : Params) : List Obj := [boot_o_0 P, boot_o_1 P, boot_o_2 P, ob_3_6 P, boot_o_4 P, boot_o_5 P, boot_o_6 P, boot_o_7 P, boot_o_8 P, boot_o_9 P, boot_o_10 P, ob_11 P, ob_12_6 P, ob_13 P, ob_14 P, ob_15 P, ob_16 P, ob_17 P, ob_18 P, ob_19 P, ob_20 P, ob_21 P, ob_22 P, ob_23 P, ob_24 P, ob_25 P, ob_26 P, ob_27 P, ob_28 P, ob_29 P, ob_30 P, ob_31 P, ob_32 P, ob_33 P, ob_34 P, ob_35 P, ob_36 P, ob_37 P, ob_38 P, ob_39 P, ob_40 P, ob_41 P, ob_42 P, ob_43 P]
noncomputable def ob_3_7 (P : Params) : Obj := ⟨(.type "dict"), none, (.dict #[⟨PyData.keyHash P ⟨#[95,95,110,97,109,101,95,95]⟩, .str ⟨#[95,95,110,97,109,101,95,95]⟩ 165, (.str ⟨#[99,112,121,51,49,51,46,111,112,101,114,97,116,111,114]⟩ 246)⟩, ⟨PyData.keyHash P ⟨#[95,95,100,111,99,95,95]⟩, .str ⟨#[95,95,100,111,99,95,95]⟩ 166, .none⟩, ⟨PyData.keyHash P ⟨#[95,95,112,97,99,107,97,103,101,95,95]⟩, .str ⟨#[95,95,112,97,99,107,97,103,101,95,95]⟩ 167, .none⟩, ⟨PyData.keyHash P ⟨#[95,95,108,111,97,100,101,114,95,95]⟩, .str ⟨#[95,95,108,111,97,100,101,114,95,95]⟩ 168, (.builtin "__main__.__loader__#opaque")⟩, ⟨PyData.keyHash P ⟨#[95,95,115,112,101,99,95,95]⟩, .str ⟨#[95,95,115,112,101,99,95,95]⟩ 169, .none⟩, ⟨PyData.keyHash P ⟨#[95,95,97,110,110,111,116,97,116,105,111,110,115,95,95]⟩, .str ⟨#[95,95,97,110,110,111,116,97,116,105,111,110,115,95,95]⟩ 170, (.ref 6)⟩, ⟨PyData.keyHash P ⟨#[95,95,98,117,105,108,116,105,110,115,95,95]⟩, .str ⟨#[95,95,98,117,105,108,116,105,110,115,95,95]⟩ 171, (.ref 4)⟩, ⟨PyData.keyHash P ⟨#[95,95,102,105,108,101,95,95]⟩, .str ⟨#[95,95,102,105,108,101,95,95]⟩ 173, (.str ⟨#[47,99,108,97,105,109,47,99,117,116,46,112,121]⟩ 172)⟩, ⟨PyData.keyHash P ⟨#[95,95,99,97,99,104,101,100,95,95]⟩, .str ⟨#[95,95,99,97,99,104,101,100,95,95]⟩ 174, .none⟩, ⟨PyData.keyHash P ⟨#[95,119,97,108,108]⟩, .str ⟨#[95,119,97,108,108]⟩ 193, (.ref 21)⟩, ⟨PyData.keyHash P ⟨#[67,79,77,80,73,76,69,82,95,70,76,65,71,95,78,65,77,69,83]⟩, .str ⟨#[67,79,77,80,73,76,69,82,95,70,76,65,71,95,78,65,77,69,83]⟩ 226, (.ref 22)⟩, ⟨PyData.keyHash P ⟨#[112,114,101,116,116,121,95,102,108,97,103,115]⟩, .str ⟨#[112,114,101,116,116,121,95,102,108,97,103,115]⟩ 236, (.ref 29)⟩, ⟨PyData.keyHash P ⟨#[95,112,97,114,115,101,95,118,97,114,105,110,116]⟩, .str ⟨#[95,112,97,114,115,101,95,118,97,114,105,110,116]⟩ 245, (.ref 36)⟩, ⟨PyData.keyHash P ⟨#[97,100,100]⟩, .str ⟨#[97,100,100]⟩ 255, (.ref 43)⟩, ⟨PyData.keyHash P ⟨#[102,108,111,111,114,100,105,118]⟩, .str ⟨#[102,108,111,111,114,100,105,118]⟩ 263, (.ref 50)⟩] 15), #[]⟩
noncomputable def ob_12_7 (P : Params) : Obj := ⟨.none, none, (.fields #[(.int 1 0), (.int 0 0), (.ref 20), (.int 6 0), (.int 0 0), (.ref 28), (.int 18 0), (.int 0 0), (.ref 35), (.int 27 0), (.int 0 0), (.ref 42), (.int 29 0), (.int 0 0), (.ref 49)]), #[]⟩
noncomputable def ob_44 (P : Params) : Obj := ⟨(.type "tuple"), none, (.seq #[] 0), #[]⟩
noncomputable def ob_45 (P : Params) : Obj := ⟨.none, none, (.fields #[]), #[]⟩
noncomputable def ob_46 (P : Params) : Obj := ⟨(.type "tuple"), none, (.seq #[(.str ⟨#[97]⟩ 259), (.str ⟨#[98]⟩ 260)] 0), #[]⟩
noncomputable def ob_47 (P : Params) : Obj := ⟨(.type "tuple"), none, (.seq #[] 0), #[]⟩
noncomputable def ob_48 (P : Params) : Obj := ⟨.none, none, (.func { name := ⟨#[102,108,111,111,114,100,105,118]⟩, qualname := ⟨#[102,108,111,111,114,100,105,118]⟩, params := (FA 7), body := .stmts (FB 7), scope := (FS 7), globals := 0, closure := [], defaults := .none, kwdefaults := .none, doc := .none, pyModule := .none, annotations := none, code := .none, closureTuple := .none, builtins := 0 }), #[]⟩
noncomputable def ob_49 (P : Params) : Obj := ⟨(.type "code"), none, (.fields #[(.str ⟨#[102,108,111,111,114,100,105,118]⟩ 256), (.str ⟨#[102,108,111,111,114,100,105,118]⟩ 257), (.str ⟨#[47,99,108,97,105,109,47,99,117,116,46,112,121]⟩ 258), (.int 29 0), (.int 2 0), (.int 0 0), (.int 0 0), (.int 3 0), (.ref 44), (.bool true), (.int 181 0), (.ref 45), .none, (.ref 46), (.ref 47), (.ref 48), (.int 261 0), (.int 29 0), (.str ⟨#[47,99,108,97,105,109,47,99,117,116,46,112,121]⟩ 262)]), #[]⟩
noncomputable def ob_50 (P : Params) : Obj := ⟨(.type "function"), none, (.func { name := ⟨#[102,108,111,111,114,100,105,118]⟩, qualname := ⟨#[102,108,111,111,114,100,105,118]⟩, params := (FA 7), body := .stmts (FB 7), scope := (FS 7), globals := 3, closure := [], defaults := .none, kwdefaults := .none, doc := .none, pyModule := (.str ⟨#[99,112,121,51,49,51,46,111,112,101,114,97,116,111,114]⟩ 246), annotations := none, code := (.ref 49), closureTuple := .none, builtins := 0 }), #[]⟩
noncomputable def hl_7 (P : Params) : List Obj := [boot_o_0 P, boot_o_1 P, boot_o_2 P, ob_3_7 P, boot_o_4 P, boot_o_5 P, boot_o_6 P, boot_o_7 P, boot_o_8 P, boot_o_9 P, boot_o_10 P, ob_11 P, ob_12_7 P, ob_13 P, ob_14 P, ob_15 P, ob_16 P, ob_17 P, ob_18 P, ob_19 P, ob_20 P, ob_21 P, ob_22 P, ob_23 P, ob_24 P, ob_25 P, ob_26 P, ob_27 P, ob_28 P, ob_29 P, ob_30 P, ob_31 P, ob_32 P, ob_33 P, ob_34 P, ob_35 P, ob_36 P, ob_37 P, ob_38 P, ob_39 P, ob_40 P, ob_41 P, ob_42 P, ob_43 P, ob_44 P, ob_45 P, ob_46 P, ob_47 P, ob_48 P, ob_49 P, ob_50 P]
noncomputable def ob_3_8 (P : Params) : Obj := ⟨(.type "dict"), none, (.dict #[⟨PyData.keyHash P ⟨#[95,95,110,97,109,101,95,95]⟩, .str ⟨#[95,95,110,97,109,101,95,95]⟩ 165, (.str ⟨#[99,112,121,51,49,51,46,111,112,101,114,97,116,111,114]⟩ 246)⟩, ⟨PyData.keyHash P ⟨#[95,95,100,111,99,95,95]⟩, .str ⟨#[95,95,100,111,99,95,95]⟩ 166, .none⟩, ⟨PyData.keyHash P ⟨#[95,95,112,97,99,107,97,103,101,95,95]⟩, .str ⟨#[95,95,112,97,99,107,97,103,101,95,95]⟩ 167, .none⟩, ⟨PyData.keyHash P ⟨#[95,95,108,111,97,100,101,114,95,95]⟩, .str ⟨#[95,95,108,111,97,100,101,114,95,95]⟩ 168, (.builtin "__main__.__loader__#opaque")⟩, ⟨PyData.keyHash P ⟨#[95,95,115,112,101,99,95,95]⟩, .str ⟨#[95,95,115,112,101,99,95,95]⟩ 169, .none⟩, ⟨PyData.keyHash P ⟨#[95,95,97,110,110,111,116,97,116,105,111,110,115,95,95]⟩, .str ⟨#[95,95,97,110,110,111,116,97,116,105,111,110,115,95,95]⟩ 170, (.ref 6)⟩, ⟨PyData.keyHash P ⟨#[95,95,98,117,105,108,116,105,110,115,95,95]⟩, .str ⟨#[95,95,98,117,105,108,116,105,110,115,95,95]⟩ 171, (.ref 4)⟩, ⟨PyData.keyHash P ⟨#[95,95,102,105,108,101,95,95]⟩, .str ⟨#[95,95,102,105,108,101,95,95]⟩ 173, (.str ⟨#[47,99,108,97,105,109,47,99,117,116,46,112,121]⟩ 172)⟩, ⟨PyData.keyHash P ⟨#[95,95,99,97,99,104,101,100,95,95]⟩, .str ⟨#[95,95,99,97,99,104,101,100,95,95]⟩ 174, .none⟩, ⟨PyData.keyHash P ⟨#[95,119,97,108,108]⟩, .str ⟨#[95,119,97,108,108]⟩ 193, (.ref 21)⟩, ⟨PyData.keyHash P ⟨#[67,79,77,80,73,76,69,82,95,70,76,65,71,95,78,65,77,69,83]⟩, .str ⟨#[67,79,77,80,73,76,69,82,95,70,76,65,71,95,78,65,77,69,83]⟩ 226, (.ref 22)⟩, ⟨PyData.keyHash P ⟨#[112,114,101,116,116,121,95,102,108,97,103,115]⟩, .str ⟨#[112,114,101,116,116,121,95,102,108,97,103,115]⟩ 236, (.ref 29)⟩, ⟨PyData.keyHash P ⟨#[95,112,97,114,115,101,95,118,97,114,105,110,116]⟩, .str ⟨#[95,112,97,114,115,101,95,118,97,114,105,110,116]⟩ 245, (.ref 36)⟩, ⟨PyData.keyHash P ⟨#[97,100,100]⟩, .str ⟨#[97,100,100]⟩ 255, (.ref 43)⟩, ⟨PyData.keyHash P ⟨#[102,108,111,111,114,100,105,118]⟩, .str ⟨#[102,108,111,111,114,100,105,118]⟩ 263, (.ref 50)⟩, ⟨PyData.keyHash P ⟨#[108,115,104,105,102,116]⟩, .str ⟨#[108,115,104,105,102,116]⟩ 271, (.ref 57)⟩] 16), #[]⟩
noncomputable def ob_12_8 (P : Params) : Obj := ⟨.none, none, (.fields #[(.int 1 0), (.int 0 0), (.ref 20), (.int 6 0), (.int 0 0), (.ref 28), (.int 18 0), (.int 0 0), (.ref 35), (.int 27 0), (.int 0 0), (.ref 42), (.int 29 0), (.int 0 0), (.ref 49), (.int 31 0), (.int 0 0), (.ref 56)]), #[]⟩
noncomputable def ob_51 (P : Params) : Obj := ⟨(.type "tuple"), none, (.seq #[] 0), #[]⟩
noncomputable def ob_52 (P : Params) : Obj := ⟨.none, none, (.fields #[]), #[]⟩
noncomputable def ob_53 (P : Params) : Obj := ⟨(.type "tuple"), none, (.seq #[(.str ⟨#[97]⟩ 267), (.str ⟨#[98]⟩ 268)] 0), #[]⟩
noncomputable def ob_54 (P : Params) : Obj := ⟨(.type "tuple"), none, (.seq #[] 0), #[]⟩
noncomputable def ob_55 (P : Params) : Obj := ⟨.none, none, (.func { name := ⟨#[108,115,104,105,102,116]⟩, qualname := ⟨#[108,115,104,105,102,116]⟩, params := (FA 8), body := .stmts (FB 8), scope := (FS 8), globals := 0, closure := [], defaults := .none, kwdefaults := .none, doc := .none, pyModule := .none, annotations := none, code := .none, closureTuple := .none, builtins := 0 }), #[]⟩
noncomputable def ob_56 (P : Params) : Obj := ⟨(.type "code"), none, (.fields #[(.str ⟨#[108,115,104,105,102,116]⟩ 264), (.str ⟨#[108,115,104,105,102,116]⟩ 265), (.str ⟨#[47,99,108,97,105,109,47,99,117,116,46,112,121]⟩ 266), (.int 31 0), (.int 2 0), (.int 0 0), (.int 0 0), (.int 3 0), (.ref 51), (.bool true), (.int 181 0), (.ref 52), .none, (.ref 53), (.ref 54), (.ref 55), (.int 269 0), (.int 31 0), (.str ⟨#[47,99,108,97,105,109,47,99,117,116,46,112,121]⟩ 270)]), #[]⟩
noncomputable def ob_57 (P : Params) : Obj := ⟨(.type "function"), none, (.func { name := ⟨#[108,115,104,105,102,116]⟩, qualname := ⟨#[108,115,104,105,102,116]⟩, params := (FA 8), body := .stmts (FB 8), scope := (FS 8), globals := 3, closure := [], defaults := .none, kwdefaults := .none, doc := .none, pyModule := (.str ⟨#[99,112,121,51,49,51,46,111,112,101,114,97,116,111,114]⟩ 246), annotations := none, code := (.ref 56), closureTuple := .none, builtins := 0 }), #[]⟩
noncomputable def hl_8 (P : Params) : List Obj := [boot_o_0 P, boot_o_1 P, boot_o_2 P, ob_3_8 P, boot_o_4 P, boot_o_5 P, boot_o_6 P, boot_o_7 P, boot_o_8 P, boot_o_9 P, boot_o_10 P, ob_11 P, ob_12_8 P, ob_13 P, ob_14 P, ob_15 P, ob_16 P, ob_17 P, ob_18 P, ob_19 P, ob_20 P, ob_21 P, ob_22 P, ob_23 P, ob_24 P, ob_25 P, ob_26 P, ob_27 P, ob_28 P, ob_29 P, ob_30 P, ob_31 P, ob_32 P, ob_33 P, ob_34 P, ob_35 P, ob_36 P, ob_37 P, ob_38 P, ob_39 P, ob_40 P, ob_41 P, ob_42 P, ob_43 P, ob_44 P, ob_45 P, ob_46 P, ob_47 P, ob_48 P, ob_49 P, ob_50 P, ob_51 P, ob_52 P, ob_53 P, ob_54 P, ob_55 P, ob_56 P, ob_57 P]
noncomputable def ob_3_9 (P : Params) : Obj := ⟨(.type "dict"), none, (.dict #[⟨PyData.keyHash P ⟨#[95,95,110,97,109,101,95,95]⟩, .str ⟨#[95,95,110,97,109,101,95,95]⟩ 165, (.str ⟨#[99,112,121,51,49,51,46,111,112,101,114,97,116,111,114]⟩ 246)⟩, ⟨PyData.keyHash P ⟨#[95,95,100,111,99,95,95]⟩, .str ⟨#[95,95,100,111,99,95,95]⟩ 166, .none⟩, ⟨PyData.keyHash P ⟨#[95,95,112,97,99,107,97,103,101,95,95]⟩, .str ⟨#[95,95,112,97,99,107,97,103,101,95,95]⟩ 167, .none⟩, ⟨PyData.keyHash P ⟨#[95,95,108,111,97,100,101,114,95,95]⟩, .str ⟨#[95,95,108,111,97,100,101,114,95,95]⟩ 168, (.builtin "__main__.__loader__#opaque")⟩, ⟨PyData.keyHash P ⟨#[95,95,115,112,101,99,95,95]⟩, .str ⟨#[95,95,115,112,101,99,95,95]⟩ 169, .none⟩, ⟨PyData.keyHash P ⟨#[95,95,97,110,110,111,116,97,116,105,111,110,115,95,95]⟩, .str ⟨#[95,95,97,110,110,111,116,97,116,105,111,110,115,95,95]⟩ 170, (.ref 6)⟩, ⟨PyData.keyHash P ⟨#[95,95,98,117,105,108,116,105,110,115,95,95]⟩, .str ⟨#[95,95,98,117,105,108,116,105,110,115,95,95]⟩ 171, (.ref 4)⟩, ⟨PyData.keyHash P ⟨#[95,95,102,105,108,101,95,95]⟩, .str ⟨#[95,95,102,105,108,101,95,95]⟩ 173, (.str ⟨#[47,99,108,97,105,109,47,99,117,116,46,112,121]⟩ 172)⟩, ⟨PyData.keyHash P ⟨#[95,95,99,97,99,104,101,100,95,95]⟩, .str ⟨#[95,95,99,97,99,104,101,100,95,95]⟩ 174, .none⟩, ⟨PyData.keyHash P ⟨#[95,119,97,108,108]⟩, .str ⟨#[95,119,97,108,108]⟩ 193, (.ref 21)⟩, ⟨PyData.keyHash P ⟨#[67,79,77,80,73,76,69,82,95,70,76,65,71,95,78,65,77,69,83]⟩, .str ⟨#[67,79,77,80,73,76,69,82,95,70,76,65,71,95,78,65,77,69,83]⟩ 226, (.ref 22)⟩, ⟨PyData.keyHash P ⟨#[112,114,101,116,116,121,95,102,108,97,103,115]⟩, .str ⟨#[112,114,101,116,116,121,95,102,108,97,103,115]⟩ 236, (.ref 29)⟩, ⟨PyData.keyHash P ⟨#[95,112,97,114,115,101,95,118,97,114,105,110,116]⟩, .str ⟨#[95,112,97,114,115,101,95,118,97,114,105,110,116]⟩ 245, (.ref 36)⟩, ⟨PyData.keyHash P ⟨#[97,100,100]⟩, .str ⟨#[97,100,100]⟩ 255, (.ref 43)⟩, ⟨PyData.keyHash P ⟨#[102,108,111,111,114,100,105,118]⟩, .str ⟨#[102,108,111,111,114,100,105,118]⟩ 263, (.ref 50)⟩, ⟨PyData.keyHash P ⟨#[108,115,104,105,102,116]⟩, .str ⟨#[108,115,104,105,102,116]⟩ 271, (.ref 57)⟩, ⟨PyData.keyHash P ⟨#[109,117,108]⟩, .str ⟨#[109,117,108]⟩ 279, (.ref 64)⟩] 17), #[]⟩
noncomputable def ob_12_9 (P : Params) : Obj := ⟨.none, none, (.fields #[(.int 1 0), (.int 0 0), (.ref 20), (.int 6 0), (.int 0 0), (.ref 28), (.int 18 0), (.int 0 0), (.ref 35), (.int 27 0), (.int 0 0), (.ref 42), (.int 29 0), (.int 0 0), (.ref 49), (.int 31 0), (.int 0 0), (.ref 56), (.int 33 0), (.int 0 0), (.ref 63)]), #[]⟩
noncomputable def ob_58 (P : Params) : Obj := ⟨(.type "tuple"), none, (.seq #[] 0), #[]⟩
noncomputable def ob_59 (P : Params) : Obj := ⟨.none, none, (.fields #[]), #[]⟩
noncomputable def ob_60 (P : Params) : Obj := ⟨(.type "tuple"), none, (.seq #[(.str ⟨#[97]⟩ 275), (.str ⟨#[98]⟩ 276)] 0), #[]⟩
noncomputable def ob_61 (P : Params) : Obj := ⟨(.type "tuple"), none, (.seq #[] 0), #[]⟩
noncomputable def ob_62 (P : Params) : Obj := ⟨.none, none, (.func { name := ⟨#[109,117,108]⟩, qualname := ⟨#[109,117,108]⟩, params := (FA 9), body := .stmts (FB 9), scope := (FS 9), globals := 0, closure := [], defaults := .none, kwdefaults := .none, doc := .none, pyModule := .none, annotations := none, code := .none, closureTuple := .none, builtins := 0 }), #[]⟩
noncomputable def ob_63 (P : Params) : Obj := ⟨(.type "code"), none, (.fields #[(.str ⟨#[109,117,108]⟩ 272), (.str ⟨#[109,117,108]⟩ 273), (.str ⟨#[47,99,108,97,105,109,47,99,117,116,46,112,121]⟩ 274), (.int 33 0), (.int 2 0), (.int 0 0), (.int 0 0), (.int 3 0), (.ref 58), (.bool true), (.int 181 0), (.ref 59), .none, (.ref 60), (.ref 61), (.ref 62), (.int 277 0), (.int 33 0), (.str ⟨#[47,99,108,97,105,109,47,99,117,116,46,112,121]⟩ 278)]), #[]⟩
noncomputable def ob_64 (P : Params) : Obj := ⟨(.type "function"), none, (.func { name := ⟨#[109,117,108]⟩, qualname := ⟨#[109,117,108]⟩, params := (FA 9), body := .stmts (FB 9), scope := (FS 9), globals := 3, closure := [], defaults := .none, kwdefaults := .none, doc := .none, pyModule := (.str ⟨#[99,112,121,51,49,51,46,111,112,101,114,97,116,111,114]⟩ 246), annotations := none, code := (.ref 63), closureTuple := .none, builtins := 0 }), #[]⟩
noncomputable def hl_9 (P : Params) : List Obj := [boot_o_0 P, boot_o_1 P, boot_o_2 P, ob_3_9 P, boot_o_4 P, boot_o_5 P, boot_o_6 P, boot_o_7 P, boot_o_8 P, boot_o_9 P, boot_o_10 P, ob_11 P, ob_12_9 P, ob_13 P, ob_14 P, ob_15 P, ob_16 P, ob_17 P, ob_18 P, ob_19 P, ob_20 P, ob_21 P, ob_22 P, ob_23 P, ob_24 P, ob_25 P, ob_26 P, ob_27 P, ob_28 P, ob_29 P, ob_30 P, ob_31 P, ob_32 P, ob_33 P, ob_34 P, ob_35 P, ob_36 P, ob_37 P, ob_38 P, ob_39 P, ob_40 P, ob_41 P, ob_42 P, ob_43 P, ob_44 P, ob_45 P, ob_46 P, ob_47 P, ob_48 P, ob_49 P, ob_50 P, ob_51 P, ob_52 P, ob_53 P, ob_54 P, ob_55 P, ob_56 P, ob_57 P, ob_58 P, ob_59 P, ob_60 P, ob_61 P, ob_62 P, ob_63 P, ob_64 P]
noncomputable def ob_3_10 (P : Params) : Obj := ⟨(.type "dict"), none, (.dict #[⟨PyData.keyHash P ⟨#[95,95,110,97,109,101,95,95]⟩, .str ⟨#[95,95,110,97,109,101,95,95]⟩ 165, (.str ⟨#[99,112,121,51,49,51,46,111,112,101,114,97,116,111,114]⟩ 246)⟩, ⟨PyData.keyHash P ⟨#[95,95,100,111,99,95,95]⟩, .str ⟨#[95,95,100,111,99,95,95]⟩ 166, .none⟩, ⟨PyData.keyHash P ⟨#[95,95,112,97,99,107,97,103,101,95,95]⟩, .str ⟨#[95,95,112,97,99,107,97,103,101,95,95]⟩ 167, .none⟩, ⟨PyData.keyHash P ⟨#[95,95,108,111,97,100,101,114,95,95]⟩, .str ⟨#[95,95,108,111,97,100,101,114,95,95]⟩ 168, (.builtin "__main__.__loader__#opaque")⟩, ⟨PyData.keyHash P ⟨#[95,95,115,112,101,99,95,95]⟩, .str ⟨#[95,95,115,112,101,99,95,95]⟩ 169, .none⟩, ⟨PyData.keyHash P ⟨#[95,95,97,110,110,111,116,97,116,105,111,110,115,95,95]⟩, .str ⟨#[95,95,97,110,110,111,116,97,116,105,111,110,115,95,95]⟩ 170, (.ref 6)⟩, ⟨PyData.keyHash P ⟨#[95,95,98,117,105,108,116,105,110,115,95,95]⟩, .str ⟨#[95,95,98,117,105,108,116,105,110,115,95,95]⟩ 171, (.ref 4)⟩, ⟨PyData.keyHash P ⟨#[95,95,102,105,108,101,95,95]⟩, .str ⟨#[95,95,102,105,108,101,95,95]⟩ 173, (.str ⟨#[47,99,108,97,105,109,47,99,117,116,46,112,121]⟩ 172)⟩, ⟨PyData.keyHash P ⟨#[95,95,99,97,99,104,101,100,95,95]⟩, .str ⟨#[95,95,99,97,99,104,101,100,95,95]⟩ 174, .none⟩, ⟨PyData.keyHash P ⟨#[95,119,97,108,108]⟩, .str ⟨#[95,119,97,108,108]⟩ 193, (.ref 21)⟩, ⟨PyData.keyHash P ⟨#[67,79,77,80,73,76,69,82,95,70,76,65,71,95,78,65,77,69,83]⟩, .str ⟨#[67,79,77,80,73,76,69,82,95,70,76,65,71,95,78,65,77,69,83]⟩ 226, (.ref 22)⟩, ⟨PyData.keyHash P ⟨#[112,114,101,116,116,121,95,102,108,97,103,115]⟩, .str ⟨#[112,114,101,116,116,121,95,102,108,97,103,115]⟩ 236, (.ref 29)⟩, ⟨PyData.keyHash P ⟨#[95,112,97,114,115,101,95,118,97,114,105,110,116]⟩, .str ⟨#[95,112,97,114,115,101,95,118,97,114,105,110,116]⟩ 245, (.ref 36)⟩, ⟨PyData.keyHash P ⟨#[97,100,100]⟩, .str ⟨#[97,100,100]⟩ 255, (.ref 43)⟩, ⟨PyData.keyHash P ⟨#[102,108,111,111,114,100,105,118]⟩, .str ⟨#[102,108,111,111,114,100,105,118]⟩ 263, (.ref 50)⟩, ⟨PyData.keyHash P ⟨#[108,115,104,105,102,116]⟩, .str ⟨#[108,115,104,105,102,116]⟩ 271, (.ref 57)⟩, ⟨PyData.keyHash P ⟨#[109,117,108]⟩, .str ⟨#[109,117,108]⟩ 279, (.ref 64)⟩, ⟨PyData.keyHash P ⟨#[110,101,103]⟩, .str ⟨#[110,101,103]⟩ 286, (.ref 71)⟩] 18), #[]⟩
noncomputable def ob_12_10 (P : Params) : Obj := ⟨.none, none, (.fields #[(.int 1 0), (.int 0 0), (.ref 20), (.int 6 0), (.int 0 0), (.ref 28), (.int 18 0), (.int 0 0), (.ref 35), (.int 27 0), (.int 0 0), (.ref 42), (.int 29 0), (.int 0 0), (.ref 49), (.int 31 0), (.int 0 0), (.ref 56), (.int 33 0), (.int 0 0), (.ref 63), (.int 35 0), (.int 0 0), (.ref 70)]), #[]⟩
noncomputable def ob_65 (P : Params) : Obj := ⟨(.type "tuple"), none, (.seq #[] 0), #[]⟩
noncomputable def ob_66 (P : Params) : Obj := ⟨.none, none, (.fields #[]), #[]⟩
noncomputable def ob_67 (P : Params) : Obj := ⟨(.type "tuple"), none, (.seq #[(.str ⟨#[97]⟩ 283)] 0), #[]⟩
noncomputable def ob_68 (P : Params) : Obj := ⟨(.type "tuple"), none, (.seq #[] 0), #[]⟩
noncomputable def ob_69 (P : Params) : Obj := ⟨.none, none, (.func { name := ⟨#[110,101,103]⟩, qualname := ⟨#[110,101,103]⟩, params := (FA 10), body := .stmts (FB 10), scope := (FS 10), globals := 0, closure := [], defaults := .none, kwdefaults := .none, doc := .none, pyModule := .none, annotations := none, code := .none, closureTuple := .none, builtins := 0 }), #[]⟩
noncomputable def ob_70 (P : Params) : Obj := ⟨(.type "code"), none, (.fields #[(.str ⟨#[110,101,103]⟩ 280), (.str ⟨#[110,101,103]⟩ 281), (.str ⟨#[47,99,108,97,105,109,47,99,117,116,46,112,121]⟩ 282), (.int 35 0), (.int 1 0), (.int 0 0), (.int 0 0), (.int 3 0), (.ref 65), (.bool true), (.int 181 0), (.ref 66), .none, (.ref 67), (.ref 68), (.ref 69), (.int 284 0), (.int 35 0), (.str ⟨#[47,99,108,97,105,109,47,99,117,116,46,112,121]⟩ 285)]), #[]⟩
noncomputable def ob_71 (P : Params) : Obj := ⟨(.type "function"), none, (.func { name := ⟨#[110,101,103]⟩, qualname := ⟨#[110,101,103]⟩, params := (FA 10), body := .stmts (FB 10), scope := (FS 10), globals := 3, closure := [], defaults := .none, kwdefaults := .none, doc := .none, pyModule := (.str ⟨#[99,112,121,51,49,51,46,111,112,101,114,97,116,111,114]⟩ 246), annotations := none, code := (.ref 70), closureTuple := .none, builtins := 0 }), #[]⟩
noncomputable def hl_10 (P : Params) : List Obj := [boot_o_0 P, boot_o_1 P, boot_o_2 P, ob_3_10 P, boot_o_4 P, boot_o_5 P, boot_o_6 P, boot_o_7 P, boot_o_8 P, boot_o_9 P, boot_o_10 P, ob_11 P, ob_12_10 P, ob_13 P, ob_14 P, ob_15 P, ob_16 P, ob_17 P, ob_18 P, ob_19 P, ob_20 P, ob_21 P, ob_22 P, ob_23 P, ob_24 P, ob_25 P, ob_26 P, ob_27 P, ob_28 P, ob_29 P, ob_30 P, ob_31 P, ob_32 P, ob_33 P, ob_34 P, ob_35 P, ob_36 P, ob_37 P, ob_38 P, ob_39 P, ob_40 P, ob_41 P, ob_42 P, ob_43 P, ob_44 P, ob_45 P, ob_46 P, ob_47 P, ob_48 P, ob_49 P, ob_50 P, ob_51 P, ob_52 P, ob_53 P, ob_54 P, ob_55 P, ob_56 P, ob_57 P, ob_58 P, ob_59 P, ob_60 P, ob_61 P, ob_62 P, ob_63 P, ob_64 P, ob_65 P, ob_66 P, ob_67 P, ob_68 P, ob_69 P, ob_70 P, ob_71 P]
noncomputable def ob_3_11 (P : Params) : Obj := ⟨(.type "dict"), none, (.dict #[⟨PyData.keyHash P ⟨#[95,95,110,97,109,101,95,95]⟩, .str ⟨#[95,95,110,97,109,101,95,95]⟩ 165, (.str ⟨#[99,112,121,51,49,51,46,111,112,101,114,97,116,111,114]⟩ 246)⟩, ⟨PyData.keyHash P ⟨#[95,95,100,111,99,95,95]⟩, .str ⟨#[95,95,100,111,99,95,95]⟩ 166, .none⟩, ⟨PyData.keyHash P ⟨#[95,95,112,97,99,107,97,103,101,95,95]⟩, .str ⟨#[95,95,112,97,99,107,97,103,101,95,95]⟩ 167, .none⟩, ⟨PyData.keyHash P ⟨#[95,95,108,111,97,100,101,114,95,95]⟩, .str ⟨#[95,95,108,111,97,100,101,114,95,95]⟩ 168, (.builtin "__main__.__loader__#opaque")⟩, ⟨PyData.keyHash P ⟨#[95,95,115,112,101,99,95,95]⟩, .str ⟨#[95,95,115,112,101,99,95,95]⟩ 169, .none⟩, ⟨PyData.keyHash P ⟨#[95,95,97,110,110,111,116,97,116,105,111,110,115,95,95]⟩, .str ⟨#[95,95,97,110,110,111,116,97,116,105,111,110,115,95,95]⟩ 170, (.ref 6)⟩, ⟨PyData.keyHash P ⟨#[95,95,98,117,105,108,116,105,110,115,95,95]⟩, .str ⟨#[95,95,98,117,105,108,116,105,110,115,95,95]⟩ 171, (.ref 4)⟩, ⟨PyData.keyHash P ⟨#[95,95,102,105,108,101,95,95]⟩, .str ⟨#[95,95,102,105,108,101,95,95]⟩ 173, (.str ⟨#[47,99,108,97,105,109,47,99,117,116,46,112,121]⟩ 172)⟩, ⟨PyData.keyHash P ⟨#[95,95,99,97,99,104,101,100,95,95]⟩, .str ⟨#[95,95,99,97,99,104,101,100,95,95]⟩ 174, .none⟩, ⟨PyData.keyHash P ⟨#[95,119,97,108,108]⟩, .str ⟨#[95,119,97,108,108]⟩ 193, (.ref 21)⟩, ⟨PyData.keyHash P ⟨#[67,79,77,80,73,76,69,82,95,70,76,65,71,95,78,65,77,69,83]⟩, .str ⟨#[67,79,77,80,73,76,69,82,95,70,76,65,71,95,78,65,77,69,83]⟩ 226, (.ref 22)⟩, ⟨PyData.keyHash P ⟨#[112,114,101,116,116,121,95,102,108,97,103,115]⟩, .str ⟨#[112,114,101,116,116,121,95,102,108,97,103,115]⟩ 236, (.ref 29)⟩, ⟨PyData.keyHash P ⟨#[95,112,97,114,115,101,95,118,97,114,105,110,116]⟩, .str ⟨#[95,112,97,114,115,101,95,118,97,114,105,110,116]⟩ 245, (.ref 36)⟩, ⟨PyData.keyHash P ⟨#[97,100,100]⟩, .str ⟨#[97,100,100]⟩ 255, (.ref 43)⟩, ⟨PyData.keyHash P ⟨#[102,108,111,111,114,100,105,118]⟩, .str ⟨#[102,108,111,111,114,100,105,118]⟩ 263, (.ref 50)⟩, ⟨PyData.keyHash P ⟨#[108,115,104,105,102,116]⟩, .str ⟨#[108,115,104,105,102,116]⟩ 271, (.ref 57)⟩, ⟨PyData.keyHash P ⟨#[109,117,108]⟩, .str ⟨#[109,117,108]⟩ 279, (.ref 64)⟩, ⟨PyData.keyHash P ⟨#[110,101,103]⟩, .str ⟨#[110,101,103]⟩ 286, (.ref 71)⟩, ⟨PyData.keyHash P ⟨#[111,114,95]⟩, .str ⟨#[111,114,95]⟩ 294, (.ref 78)⟩] 19), #[]⟩
noncomputable def ob_12_11 (P : Params) : Obj := ⟨.none, none, (.fields #[(.int 1 0), (.int 0 0), (.ref 20), (.int 6 0), (.int 0 0), (.ref 28), (.int 18 0), (.int 0 0), (.ref 35), (.int 27 0), (.int 0 0), (.ref 42), (.int 29 0), (.int 0 0), (.ref 49), (.int 31 0), (.int 0 0), (.ref 56), (.int 33 0), (.int 0 0), (.ref 63), (.int 35 0), (.int 0 0), (.ref 70), (.int 37 0), (.int 0 0), (.ref 77)]), #[]⟩
noncomputable def ob_72 (P : Params) : Obj := ⟨(.type "tuple"), none, (.seq #[] 0), #[]⟩
noncomputable def ob_73 (P : Params) : Obj := ⟨.none, none, (.fields #[]), #[]⟩
noncomputable def ob_74 (P : Params) : Obj := ⟨(.type "tuple"), none, (.seq #[(.str ⟨#[97]⟩ 290), (.str ⟨#[98]⟩ 291)] 0), #[]⟩
noncomputable def ob_75 (P : Params) : Obj := ⟨(.type "tuple"), none, (.seq #[] 0), #[]⟩
noncomputable def ob_76 (P : Params) : Obj := ⟨.none, none, (.func { name := ⟨#[111,114,95]⟩, qualname := ⟨#[111,114,95]⟩, params := (FA 11), body := .stmts (FB 11), scope := (FS 11), globals := 0, closure := [], defaults := .none, kwdefaults := .none, doc := .none, pyModule := .none, annotations := none, code := .none, closureTuple := .none, builtins := 0 }), #[]⟩
noncomputable def ob_77 (P : Params) : Obj := ⟨(.type "code"), none, (.fields #[(.str ⟨#[111,114,95]⟩ 287), (.str ⟨#[111,114,95]⟩ 288), (.str ⟨#[47,99,108,97,105,109,47,99,117,116,46,112,121]⟩ 289), (.int 37 0), (.int 2 0), (.int 0 0), (.int 0 0), (.int 3 0), (.ref 72), (.bool true), (.int 181 0), (.ref 73), .none, (.ref 74), (.ref 75), (.ref 76), (.int 292 0), (.int 37 0), (.str ⟨#[47,99,108,97,105,109,47,99,117,116,46,112,121]⟩ 293)]), #[]⟩
noncomputable def ob_78 (P : Params) : Obj := ⟨(.type "function"), none, (.func { name := ⟨#[111,114,95]⟩, qualname := ⟨#[111,114,95]⟩, params := (FA 11), body := .stmts (FB 11), scope := (FS 11), globals := 3, closure := [], defaults := .none, kwdefaults := .none, doc := .none, pyModule := (.str ⟨#[99,112,121,51,49,51,46,111,112,101,114,97,116,111,114]⟩ 246), annotations := none, code := (.ref 77), closureTuple := .none, builtins := 0 }), #[]⟩
noncomputable def hl_11 (P : Params) : List Obj := [boot_o_0 P, boot_o_1 P, boot_o_2 P, ob_3_11 P, boot_o_4 P, boot_o_5 P, boot_o_6 P, boot_o_7 P, boot_o_8 P, boot_o_9 P, boot_o_10 P, ob_11 P, ob_12_11 P, ob_13 P, ob_14 P, ob_15 P, ob_16 P, ob_17 P, ob_18 P, ob_19 P, ob_20 P, ob_21 P, ob_22 P, ob_23 P, ob_24 P, ob_25 P, ob_26 P, ob_27 P, ob_28 P, ob_29 P, ob_30 P, ob_31 P, ob_32 P, ob_33 P, ob_34 P, ob_35 P, ob_36 P, ob_37 P, ob_38 P, ob_39 P, ob_40 P, ob_41 P, ob_42 P, ob_43 P, ob_44 P, ob_45 P, ob_46 P, ob_47 P, ob_48 P, ob_49 P, ob_50 P, ob_51 P, ob_52 P, ob_53 P, ob_54 P, ob_55 P, ob_56 P, ob_57 P, ob_58 P, ob_59 P, ob_60 P, ob_61 P, ob_62 P, ob_63 P, ob_64 P, ob_65 P, ob_66 P, ob_67 P, ob_68 P, ob_69 P, ob_70 P, ob_71 P, ob_72 P, ob_73 P, ob_74 P, ob_75 P, ob_76 P, ob_77 P, ob_78 P]
noncomputable def ob_3_12 (P : Params) : Obj := ⟨(.type "dict"), none, (.dict #[⟨PyData.keyHash P ⟨#[95,95,110,97,109,101,95,95]⟩, .str ⟨#[95,95,110,97,109,101,95,95]⟩ 165, (.str ⟨#[99,112,121,51,49,51,46,111,112,101,114,97,116,111,114]⟩ 246)⟩, ⟨PyData.keyHash P ⟨#[95,95,100,111,99,95,95]⟩, .str ⟨#[95,95,100,111,99,95,95]⟩ 166, .none⟩, ⟨PyData.keyHash P ⟨#[95,95,112,97,99,107,97,103,101,95,95]⟩, .str ⟨#[95,95,112,97,99,107,97,103,101,95,95]⟩ 167, .none⟩, ⟨PyData.keyHash P ⟨#[95,95,108,111,97,100,101,114,95,95]⟩, .str ⟨#[95,95,108,111,97,100,101,114,95,95]⟩ 168, (.builtin "__main__.__loader__#opaque")⟩, ⟨PyData.keyHash P ⟨#[95,95,115,112,101,99,95,95]⟩, .str ⟨#[95,95,115,112,101,99,95,95]⟩ 169, .none⟩, ⟨PyData.keyHash P ⟨#[95,95,97,110,110,111,116,97,116,105,111,110,115,95,95]⟩, .str ⟨#[95,95,97,110,110,111,116,97,116,105,111,110,115,95,95]⟩ 170, (.ref 6)⟩, ⟨PyData.keyHash P ⟨#[95,95,98,117,105,108,116,105,110,115,95,95]⟩, .str ⟨#[95,95,98,117,105,108,116,105,110,115,95,95]⟩ 171, (.ref 4)⟩, ⟨PyData.keyHash P ⟨#[95,95,102,105,108,101,95,95]⟩, .str ⟨#[95,95,102,105,108,101,95,95]⟩ 173, (.str ⟨#[47,99,108,97,105,109,47,99,117,116,46,112,121]⟩ 172)⟩, ⟨PyData.keyHash P ⟨#[95,95,99,97,99,104,101,100,95,95]⟩, .str ⟨#[95,95,99,97,99,104,101,100,95,95]⟩ 174, .none⟩, ⟨PyData.keyHash P ⟨#[95,119,97,108,108]⟩, .str ⟨#[95,119,97,108,108]⟩ 193, (.ref 21)⟩, ⟨PyData.keyHash P ⟨#[67,79,77,80,73,76,69,82,95,70,76,65,71,95,78,65,77,69,83]⟩, .str ⟨#[67,79,77,80,73,76,69,82,95,70,76,65,71,95,78,65,77,69,83]⟩ 226, (.ref 22)⟩, ⟨PyData.keyHash P ⟨#[112,114,101,116,116,121,95,102,108,97,103,115]⟩, .str ⟨#[112,114,101,116,116,121,95,102,108,97,103,115]⟩ 236, (.ref 29)⟩, ⟨PyData.keyHash P ⟨#[95,112,97,114,115,101,95,118,97,114,105,110,116]⟩, .str ⟨#[95,112,97,114,115,101,95,118,97,114,105,110,116]⟩ 245, (.ref 36)⟩, ⟨PyData.keyHash P ⟨#[97,100,100]⟩, .str ⟨#[97,100,100]⟩ 255, (.ref 43)⟩, ⟨PyData.keyHash P ⟨#[102,108,111,111,114,100,105,118]⟩, .str ⟨#[102,108,111,111,114,100,105,118]⟩ 263, (.ref 50)⟩, ⟨PyData.keyHash P ⟨#[108,115,104,105,102,116]⟩, .str ⟨#[108,115,104,105,102,116]⟩ 271, (.ref 57)⟩, ⟨PyData.keyHash P ⟨#[109,117,108]⟩, .str ⟨#[109,117,108]⟩ 279, (.ref 64)⟩, ⟨PyData.keyHash P ⟨#[110,101,103]⟩, .str ⟨#[110,101,103]⟩ 286, (.ref 71)⟩, ⟨PyData.keyHash P ⟨#[111,114,95]⟩, .str ⟨#[111,114,95]⟩ 294, (.ref 78)⟩, ⟨PyData.keyHash P ⟨#[115,117,98]⟩, .str ⟨#[115,117,98]⟩ 302, (.ref 85)⟩] 20), #[]⟩
noncomputable def ob_12_12 (P : Params) : Obj := ⟨.none, none, (.fields #[(.int 1 0), (.int 0 0), (.ref 20), (.int 6 0), (.int 0 0), (.ref 28), (.int 18 0), (.int 0 0), (.ref 35), (.int 27 0), (.int 0 0), (.ref 42), (.int 29 0), (.int 0 0), (.ref 49), (.int 31 0), (.int 0 0), (.ref 56), (.int 33 0), (.int 0 0), (.ref 63), (.int 35 0), (.int 0 0), (.ref 70), (.int 37 0), (.int 0 0), (.ref 77), (.int 39 0), (.int 0 0), (.ref 84)]), #[]⟩
noncomputable def ob_79 (P : Params) : Obj := ⟨(.type "tuple"), none, (.seq #[] 0), #[]⟩
noncomputable def ob_80 (P : Params) : Obj := ⟨.none, none, (.fields #[]), #[]⟩
noncomputable def ob_81 (P : Params) : Obj := ⟨(.type "tuple"), none, (.seq #[(.str ⟨#[97]⟩ 298), (.str ⟨#[98]⟩ 299)] 0), #[]⟩
noncomputable def ob_82 (P : Params) : Obj := ⟨(.type "tuple"), none, (.seq #[] 0), #[]⟩
noncomputable def ob_83 (P : Params) : Obj := ⟨.none, none, (.func { name := ⟨#[115,117,98]⟩, qualname := ⟨#[115,117,98]⟩, params := (FA 12), body := .stmts (FB 12), scope := (FS 12), globals := 0, closure := [], defaults := .none, kwdefaults := .none, doc := .none, pyModule := .none, annotations := none, code := .none, closureTuple := .none, builtins := 0 }), #[]⟩
noncomputable def ob_84 (P : Params) : Obj := ⟨(.type "code"), none, (.fields #[(.str ⟨#[115,117,98]⟩ 295), (.str ⟨#[115,117,98]⟩ 296), (.str ⟨#[47,99,108,97,105,109,47,99,117,116,46,112,121]⟩ 297), (.int 39 0), (.int 2 0), (.int 0 0), (.int 0 0), (.int 3 0), (.ref 79), (.bool true), (.int 181 0), (.ref 80), .none, (.ref 81), (.ref 82), (.ref 83), (.int 300 0), (.int 39 0), (.str ⟨#[47,99,108,97,105,109,47,99,117,116,46,112,121]⟩ 301)]), #[]⟩
noncomputable def ob_85 (P : Params) : Obj := ⟨(.type "function"), none, (.func { name := ⟨#[115,117,98]⟩, qualname := ⟨#[115,117,98]⟩, params := (FA 12), body := .stmts (FB 12), scope := (FS 12), globals := 3, closure := [], defaults := .none, kwdefaults := .none, doc := .none, pyModule := (.str ⟨#[99,112,121,51,49,51,46,111,112,101,114,97,116,111,114]⟩ 246), annotations := none, code := (.ref 84), closureTuple := .none, builtins := 0 }), #[]⟩
noncomputable def hl_12 (P : Params) : List Obj := [boot_o_0 P, boot_o_1 P, boot_o_2 P, ob_3_12 P, boot_o_4 P, boot_o_5 P, boot_o_6 P, boot_o_7 P, boot_o_8 P, boot_o_9 P, boot_o_10 P, ob_11 P, ob_12_12 P, ob_13 P, ob_14 P, ob_15 P, ob_16 P, ob_17 P, ob_18 P, ob_19 P, ob_20 P, ob_21 P, ob_22 P, ob_23 P, ob_24 P, ob_25 P, ob_26 P, ob_27 P, ob_28 P, ob_29 P, ob_30 P, ob_31 P, ob_32 P, ob_33 P, ob_34 P, ob_35 P, ob_36 P, ob_37 P, ob_38 P, ob_39 P, ob_40 P, ob_41 P, ob_42 P, ob_43 P, ob_44 P, ob_45 P, ob_46 P, ob_47 P, ob_48 P, ob_49 P, ob_50 P, ob_51 P, ob_52 P, ob_53 P, ob_54 P, ob_55 P, ob_56 P, ob_57 P, ob_58 P, ob_59 P, ob_60 P, ob_61 P, ob_62 P, ob_63 P, ob_64 P, ob_65 P, ob_66 P, ob_67 P, ob_68 P, ob_69 P, ob_70 P, ob_71 P, ob_72 P, ob_73 P, ob_74 P, ob_75 P, ob_76 P, ob_77 P, ob_78 P, ob_79 P, ob_80 P, ob_81 P, ob_82 P, ob_83 P, ob_84 P, ob_85 P]
noncomputable def ob_3_13 (P : Params) : Obj := ⟨(.type "dict"), none, (.dict #[⟨PyData.keyHash P ⟨#[95,95,110,97,109,101,95,95]⟩, .str ⟨#[95,95,110,97,109,101,95,95]⟩ 165, (.str ⟨#[99,112,121,51,49,51,46,111,112,101,114,97,116,111,114]⟩ 246)⟩, ⟨PyData.keyHash P ⟨#[95,95,100,111,99,95,95]⟩, .str ⟨#[95,95,100,111,99,95,95]⟩ 166, .none⟩, ⟨PyData.keyHash P ⟨#[95,95,112,97,99,107,97,103,101,95,95]⟩, .str ⟨#[95,95,112,97,99,107,97,103,101,95,95]⟩ 167, .none⟩, ⟨PyData.keyHash P ⟨#[95,95,108,111,97,100,101,114,95,95]⟩, .str ⟨#[95,95,108,111,97,100,101,114,95,95]⟩ 168, (.builtin "__main__.__loader__#opaque")⟩, ⟨PyData.keyHash P ⟨#[95,95,115,112,101,99,95,95]⟩, .str ⟨#[95,95,115,112,101,99,95,95]⟩ 169, .none⟩, ⟨PyData.keyHash P ⟨#[95,95,97,110,110,111,116,97,116,105,111,110,115,95,95]⟩, .str ⟨#[95,95,97,110,110,111,116,97,116,105,111,110,115,95,95]⟩ 170, (.ref 6)⟩, ⟨PyData.keyHash P ⟨#[95,95,98,117,105,108,116,105,110,115,95,95]⟩, .str ⟨#[95,95,98,117,105,108,116,105,110,115,95,95]⟩ 171, (.ref 4)⟩, ⟨PyData.keyHash P ⟨#[95,95,102,105,108,101,95,95]⟩, .str ⟨#[95,95,102,105,108,101,95,95]⟩ 173, (.str ⟨#[47,99,108,97,105,109,47,99,117,116,46,112,121]⟩ 172)⟩, ⟨PyData.keyHash P ⟨#[95,95,99,97,99,104,101,100,95,95]⟩, .str ⟨#[95,95,99,97,99,104,101,100,95,95]⟩ 174, .none⟩, ⟨PyData.keyHash P ⟨#[95,119,97,108,108]⟩, .str ⟨#[95,119,97,108,108]⟩ 193, (.ref 21)⟩, ⟨PyData.keyHash P ⟨#[67,79,77,80,73,76,69,82,95,70,76,65,71,95,78,65,77,69,83]⟩, .str ⟨#[67,79,77,80,73,76,69,82,95,70,76,65,71,95,78,65,77,69,83]⟩ 226, (.ref 22)⟩, ⟨PyData.keyHash P ⟨#[112,114,101,116,116,121,95,102,108,97,103,115]⟩, .str ⟨#[112,114,101,116,116,121,95,102,108,97,103,115]⟩ 236, (.ref 29)⟩, ⟨PyData.keyHash P ⟨#[95,112,97,114,115,101,95,118,97,114,105,110,116]⟩, .str ⟨#[95,112,97,114,115,101,95,118,97,114,105,110,116]⟩ 245, (.ref 36)⟩, ⟨PyData.keyHash P ⟨#[97,100,100]⟩, .str ⟨#[97,100,100]⟩ 255, (.ref 43)⟩, ⟨PyData.keyHash P ⟨#[102,108,111,111,114,100,105,118]⟩, .str ⟨#[102,108,111,111,114,100,105,118]⟩ 263, (.ref 50)⟩, ⟨PyData.keyHash P ⟨#[108,115,104,105,102,116]⟩, .str ⟨#[108,115,104,105,102,116]⟩ 271, (.ref 57)⟩, ⟨PyData.keyHash P ⟨#[109,117,108]⟩, .str ⟨#[109,117,108]⟩ 279, (.ref 64)⟩, ⟨PyData.keyHash P ⟨#[110,101,103]⟩, .str ⟨#[110,101,103]⟩ 286, (.ref 71)⟩, ⟨PyData.keyHash P ⟨#[111,114,95]⟩, .str ⟨#[111,114,95]⟩ 294, (.ref 78)⟩, ⟨PyData.keyHash P ⟨#[115,117,98]⟩, .str ⟨#[115,117,98]⟩ 302, (.ref 85)⟩, ⟨PyData.keyHash P ⟨#[120,111,114]⟩, .str ⟨#[120,111,114]⟩ 310, (.ref 92)⟩] 21), #[]⟩
noncomputable def ob_12_13 (P : Params) : Obj := ⟨.none, none, (.fields #[(.int 1 0), (.int 0 0), (.ref 20), (.int 6 0), (.int 0 0), (.ref 28), (.int 18 0), (.int 0 0), (.ref 35), (.int 27 0), (.int 0 0), (.ref 42), (.int 29 0), (.int 0 0), (.ref 49), (.int 31 0), (.int 0 0), (.ref 56), (.int 33 0), (.int 0 0), (.ref 63), (.int 35 0), (.int 0 0), (.ref 70), (.int 37 0), (.int 0 0), (.ref 77), (.int 39 0), (.int 0 0), (.ref 84), (.int 41 0), (.int 0 0), (.ref 91)]), #[]⟩
noncomputable def ob_86 (P : Params) : Obj := ⟨(.type "tuple"), none, (.seq #[] 0), #[]⟩
noncomputable def ob_87 (P : Params) : Obj := ⟨.none, none, (.fields #[]), #[]⟩
noncomputable def ob_88 (P : Params) : Obj := ⟨(.type "tuple"), none, (.seq #[(.str ⟨#[97]⟩ 306), (.str ⟨#[98]⟩ 307)] 0), #[]⟩
noncomputable def ob_89 (P : Params) : Obj := ⟨(.type "tuple"), none, (.seq #[] 0), #[]⟩
noncomputable def ob_90 (P : Params) : Obj := ⟨.none, none, (.func { name := ⟨#[120,111,114]⟩, qualname := ⟨#[120,111,114]⟩, params := (FA 13), body := .stmts (FB 13), scope := (FS 13), globals := 0, closure := [], defaults := .none, kwdefaults := .none, doc := .none, pyModule := .none, annotations := none, code := .none, closureTuple := .none, builtins := 0 }), #[]⟩
noncomputable def ob_91 (P : Params) : Obj := ⟨(.type "code"), none, (.fields #[(.str ⟨#[120,111,114]⟩ 303), (.str ⟨#[120,111,114]⟩ 304), (.str ⟨#[47,99,108,97,105,109,47,99,117,116,46,112,121]⟩ 305), (.int 41 0), (.int 2 0), (.int 0 0), (.int 0 0), (.int 3 0), (.ref 86), (.bool true), (.int 181 0), (.ref 87), .none, (.ref 88), (.ref 89), (.ref 90), (.int 308 0), (.int 41 0), (.str ⟨#[47,99,108,97,105,109,47,99,117,116,46,112,121]⟩ 309)]), #[]⟩
noncomputable def ob_92 (P : Params) : Obj := ⟨(.type "function"), none, (.func { name := ⟨#[120,111,114]⟩, qualname := ⟨#[120,111,114]⟩, params := (FA 13), body := .stmts (FB 13), scope := (FS 13), globals := 3, closure := [], defaults := .none, kwdefaults := .none, doc := .none, pyModule := (.str ⟨#[99,112,121,51,49,51,46,111,112,101,114,97,116,111,114]⟩ 246), annotations := none, code := (.ref 91), closureTuple := .none, builtins := 0 }), #[]⟩
noncomputable def hl_13 (P : Params) : List Obj := [boot_o_0 P, boot_o_1 P, boot_o_2 P, ob_3_13 P, boot_o_4 P, boot_o_5 P, boot_o_6 P, boot_o_7 P, boot_o_8 P, boot_o_9 P, boot_o_10 P, ob_11 P, ob_12_13 P, ob_13 P, ob_14 P, ob_15 P, ob_16 P, ob_17 P, ob_18 P, ob_19 P, ob_20 P, ob_21 P, ob_22 P, ob_23 P, ob_24 P, ob_25 P, ob_26 P, ob_27 P, ob_28 P, ob_29 P, ob_30 P, ob_31 P, ob_32 P, ob_33 P, ob_34 P, ob_35 P, ob_36 P, ob_37 P, ob_38 P, ob_39 P, ob_40 P, ob_41 P, ob_42 P, ob_43 P, ob_44 P, ob_45 P, ob_46 P, ob_47 P, ob_48 P, ob_49 P, ob_50 P, ob_51 P, ob_52 P, ob_53 P, ob_54 P, ob_55 P, ob_56 P, ob_57 P, ob_58 P, ob_59 P, ob_60 P, ob_61 P, ob_62 P, ob_63 P, ob_64 P, ob_65 P, ob_66 P, ob_67 P, ob_68 P, ob_69 P, ob_70 P, ob_71 P, ob_72 P, ob_73 P, ob_74 P, ob_75 P, ob_76 P, ob_77 P, ob_78 P, ob_79 P, ob_80 P, ob_81 P, ob_82 P, ob_83 P, ob_84 P, ob_85 P, ob_86 P, ob_87 P, ob_88 P, ob_89 P, ob_90 P, ob_91 P, ob_92 P]
noncomputable def ob_3_14 (P : Params) : Obj := ⟨(.type "dict"), none, (.dict #[⟨PyData.keyHash P ⟨#[95,95,110,97,109,101,95,95]⟩, .str ⟨#[95,95,110,97,109,101,95,95]⟩ 165, (.str ⟨#[99,112,121,51,49,51,46,111,112,101,114,97,116,111,114]⟩ 246)⟩, ⟨PyData.keyHash P ⟨#[95,95,100,111,99,95,95]⟩, .str ⟨#[95,95,100,111,99,95,95]⟩ 166, .none⟩, ⟨PyData.keyHash P ⟨#[95,95,112,97,99,107,97,103,101,95,95]⟩, .str ⟨#[95,95,112,97,99,107,97,103,101,95,95]⟩ 167, .none⟩, ⟨PyData.keyHash P ⟨#[95,95,108,111,97,100,101,114,95,95]⟩, .str ⟨#[95,95,108,111,97,100,101,114,95,95]⟩ 168, (.builtin "__main__.__loader__#opaque")⟩, ⟨PyData.keyHash P ⟨#[95,95,115,112,101,99,95,95]⟩, .str ⟨#[95,95,115,112,101,99,95,95]⟩ 169, .none⟩, ⟨PyData.keyHash P ⟨#[95,95,97,110,110,111,116,97,116,105,111,110,115,95,95]⟩, .str ⟨#[95,95,97,110,110,111,116,97,116,105,111,110,115,95,95]⟩ 170, (.ref 6)⟩, ⟨PyData.keyHash P ⟨#[95,95,98,117,105,108,116,105,110,115,95,95]⟩, .str ⟨#[95,95,98,117,105,108,116,105,110,115,95,95]⟩ 171, (.ref 4)⟩, ⟨PyData.keyHash P ⟨#[95,95,102,105,108,101,95,95]⟩, .str ⟨#[95,95,102,105,108,101,95,95]⟩ 173, (.str ⟨#[47,99,108,97,105,109,47,99,117,116,46,112,121]⟩ 172)⟩, ⟨PyData.keyHash P ⟨#[95,95,99,97,99,104,101,100,95,95]⟩, .str ⟨#[95,95,99,97,99,104,101,100,95,95]⟩ 174, .none⟩, ⟨PyData.keyHash P ⟨#[95,119,97,108,108]⟩, .str ⟨#[95,119,97,108,108]⟩ 193, (.ref 21)⟩, ⟨PyData.keyHash P ⟨#[67,79,77,80,73,76,69,82,95,70,76,65,71,95,78,65,77,69,83]⟩, .str ⟨#[67,79,77,80,73,76,69,82,95,70,76,65,71,95,78,65,77,69,83]⟩ 226, (.ref 22)⟩, ⟨PyData.keyHash P ⟨#[112,114,101,116,116,121,95,102,108,97,103,115]⟩, .str ⟨#[112,114,101,116,116,121,95,102,108,97,103,115]⟩ 236, (.ref 29)⟩, ⟨PyData.keyHash P ⟨#[95,112,97,114,115,101,95,118,97,114,105,110,116]⟩, .str ⟨#[95,112,97,114,115,101,95,118,97,114,105,110,116]⟩ 245, (.ref 36)⟩, ⟨PyData.keyHash P ⟨#[97,100,100]⟩, .str ⟨#[97,100,100]⟩ 255, (.ref 43)⟩, ⟨PyData.keyHash P ⟨#[102,108,111,111,114,100,105,118]⟩, .str ⟨#[102,108,111,111,114,100,105,118]⟩ 263, (.ref 50)⟩, ⟨PyData.keyHash P ⟨#[108,115,104,105,102,116]⟩, .str ⟨#[108,115,104,105,102,116]⟩ 271, (.ref 57)⟩, ⟨PyData.keyHash P ⟨#[109,117,108]⟩, .str ⟨#[109,117,108]⟩ 279, (.ref 64)⟩, ⟨PyData.keyHash P ⟨#[110,101,103]⟩, .str ⟨#[110,101,103]⟩ 286, (.ref 71)⟩, ⟨PyData.keyHash P ⟨#[111,114,95]⟩, .str ⟨#[111,114,95]⟩ 294, (.ref 78)⟩, ⟨PyData.keyHash P ⟨#[115,117,98]⟩, .str ⟨#[115,117,98]⟩ 302, (.ref 85)⟩, ⟨PyData.keyHash P ⟨#[120,111,114]⟩, .str ⟨#[120,111,114]⟩ 310, (.ref 92)⟩, ⟨PyData.keyHash P ⟨#[103,101,116,105,116,101,109]⟩, .str ⟨#[103,101,116,105,116,101,109]⟩ 318, (.ref 99)⟩] 22), #[]⟩
noncomputable def ob_12_14 (P : Params) : Obj := ⟨.none, none, (.fields #[(.int 1 0), (.int 0 0), (.ref 20), (.int 6 0), (.int 0 0), (.ref 28), (.int 18 0), (.int 0 0), (.ref 35), (.int 27 0), (.int 0 0), (.ref 42), (.int 29 0), (.int 0 0), (.ref 49), (.int 31 0), (.int 0 0), (.ref 56), (.int 33 0), (.int 0 0), (.ref 63), (.int 35 0), (.int 0 0), (.ref 70), (.int 37 0), (.int 0 0), (.ref 77), (.int 39 0), (.int 0 0), (.ref 84), (.int 41 0), (.int 0 0), (.ref 91), (.int 43 0), (.int 0 0), (.ref 98)]), #[]⟩
noncomputable def ob_93 (P : Params) : Obj := ⟨(.type "tuple"), none, (.seq #[] 0), #[]⟩
noncomputable def ob_94 (P : Params) : Obj := ⟨.none, none, (.fields #[]), #[]⟩
noncomputable def ob_95 (P : Params) : Obj := ⟨(.type "tuple"), none, (.seq #[(.str ⟨#[97]⟩ 314), (.str ⟨#[98]⟩ 315)] 0), #[]⟩
noncomputable def ob_96 (P : Params) : Obj := ⟨(.type "tuple"), none, (.seq #[] 0), #[]⟩
noncomputable def ob_97 (P : Params) : Obj := ⟨.none, none, (.func { name := ⟨#[103,101,116,105,116,101,109]⟩, qualname := ⟨#[103,101,116,105,116,101,109]⟩, params := (FA 14), body := .stmts (FB 14), scope := (FS 14), globals := 0, closure := [], defaults := .none, kwdefaults := .none, doc := .none, pyModule := .none, annotations := none, code := .none, closureTuple := .none, builtins := 0 }), #[]⟩
noncomputable def ob_98 (P : Params) : Obj := ⟨(.type "code"), none, (.fields #[(.str ⟨#[103,101,116,105,116,101,109]⟩ 311), (.str ⟨#[103,101,116,105,116,101,109]⟩ 312), (.str ⟨#[47,99,108,97,105,109,47,99,117,116,46,112,121]⟩ 313), (.int 43 0), (.int 2 0), (.int 0 0), (.int 0 0), (.int 3 0), (.ref 93), (.bool true), (.int 181 0), (.ref 94), .none, (.ref 95), (.ref 96), (.ref 97), (.int 316 0), (.int 43 0), (.str ⟨#[47,99,108,97,105,109,47,99,117,116,46,112,121]⟩ 317)]), #[]⟩
noncomputable def ob_99 (P : Params) : Obj := ⟨(.type "function"), none, (.func { name := ⟨#[103,101,116,105,116,101,109]⟩, qualname := ⟨#[103,101,116,105,116,101,109]⟩, params := (FA 14), body := .stmts (FB 14), scope := (FS 14), globals := 3, closure := [], defaults := .none, kwdefaults := .none, doc := .none, pyModule := (.str ⟨#[99,112,121,51,49,51,46,111,112,101,114,97,116,111,114]⟩ 246), annotations := none, code := (.ref 98), closureTuple := .none, builtins := 0 }), #[]⟩
noncomputable def hl_14 (P : Params) : List Obj := [boot_o_0 P, boot_o_1 P, boot_o_2 P, ob_3_14 P, boot_o_4 P, boot_o_5 P, boot_o_6 P, boot_o_7 P, boot_o_8 P, boot_o_9 P, boot_o_10 P, ob_11 P, ob_12_14 P, ob_13 P, ob_14 P, ob_15 P, ob_16 P, ob_17 P, ob_18 P, ob_19 P, ob_20 P, ob_21 P, ob_22 P, ob_23 P, ob_24 P, ob_25 P, ob_26 P, ob_27 P, ob_28 P, ob_29 P, ob_30 P, ob_31 P, ob_32 P, ob_33 P, ob_34 P, ob_35 P, ob_36 P, ob_37 P, ob_38 P, ob_39 P, ob_40 P, ob_41 P, ob_42 P, ob_43 P, ob_44 P, ob_45 P, ob_46 P, ob_47 P, ob_48 P, ob_49 P, ob_50 P, ob_51 P, ob_52 P, ob_53 P, ob_54 P, ob_55 P, ob_56 P, ob_57 P, ob_58 P, ob_59 P, ob_60 P, ob_61 P, ob_62 P, ob_63 P, ob_64 P, ob_65 P, ob_66 P, ob_67 P, ob_68 P, ob_69 P, ob_70 P, ob_71 P, ob_72 P, ob_73 P, ob_74 P, ob_75 P, ob_76 P, ob_77 P, ob_78 P, ob_79 P, ob_80 P, ob_81 P, ob_82 P, ob_83 P, ob_84 P, ob_85 P, ob_86 P, ob_87 P, ob_88 P, ob_89 P, ob_90 P, ob_91 P, ob_92 P, ob_93 P, ob_94 P, ob_95 P, ob_96 P, ob_97 P, ob_98 P, ob_99 P]
noncomputable def ob_3_15 (P : Params) : Obj := ⟨(.type "dict"), none, (.dict #[⟨PyData.keyHash P ⟨#[95,95,110,97,109,101,95,95]⟩, .str ⟨#[95,95,110,97,109,101,95,95]⟩ 165, (.str ⟨#[99,112,121,51,49,51,46,111,112,101,114,97,116,111,114]⟩ 246)⟩, ⟨PyData.keyHash P ⟨#[95,95,100,111,99,95,95]⟩, .str ⟨#[95,95,100,111,99,95,95]⟩ 166, .none⟩, ⟨PyData.keyHash P ⟨#[95,95,112,97,99,107,97,103,101,95,95]⟩, .str ⟨#[95,95,112,97,99,107,97,103,101,95,95]⟩ 167, .none⟩, ⟨PyData.keyHash P ⟨#[95,95,108,111,97,100,101,114,95,95]⟩, .str ⟨#[95,95,108,111,97,100,101,114,95,95]⟩ 168, (.builtin "__main__.__loader__#opaque")⟩, ⟨PyData.keyHash P ⟨#[95,95,115,112,101,99,95,95]⟩, .str ⟨#[95,95,115,112,101,99,95,95]⟩ 169, .none⟩, ⟨PyData.keyHash P ⟨#[95,95,97,110,110,111,116,97,116,105,111,110,115,95,95]⟩, .str ⟨#[95,95,97,110,110,111,116,97,116,105,111,110,115,95,95]⟩ 170, (.ref 6)⟩, ⟨PyData.keyHash P ⟨#[95,95,98,117,105,108,116,105,110,115,95,95]⟩, .str ⟨#[95,95,98,117,105,108,116,105,110,115,95,95]⟩ 171, (.ref 4)⟩, ⟨PyData.keyHash P ⟨#[95,95,102,105,108,101,95,95]⟩, .str ⟨#[95,95,102,105,108,101,95,95]⟩ 173, (.str ⟨#[47,99,108,97,105,109,47,99,117,116,46,112,121]⟩ 172)⟩, ⟨PyData.keyHash P ⟨#[95,95,99,97,99,104,101,100,95,95]⟩, .str ⟨#[95,95,99,97,99,104,101,100,95,95]⟩ 174, .none⟩, ⟨PyData.keyHash P ⟨#[95,119,97,108,108]⟩, .str ⟨#[95,119,97,108,108]⟩ 193, (.ref 21)⟩, ⟨PyData.keyHash P ⟨#[67,79,77,80,73,76,69,82,95,70,76,65,71,95,78,65,77,69,83]⟩, .str ⟨#[67,79,77,80,73,76,69,82,95,70,76,65,71,95,78,65,77,69,83]⟩ 226, (.ref 22)⟩, ⟨PyData.keyHash P ⟨#[112,114,101,116,116,121,95,102,108,97,103,115]⟩, .str ⟨#[112,114,101,116,116,121,95,102,108,97,103,115]⟩ 236, (.ref 29)⟩, ⟨PyData.keyHash P ⟨#[95,112,97,114,115,101,95,118,97,114,105,110,116]⟩, .str ⟨#[95,112,97,114,115,101,95,118,97,114,105,110,116]⟩ 245, (.ref 36)⟩, ⟨PyData.keyHash P ⟨#[97,100,100]⟩, .str ⟨#[97,100,100]⟩ 255, (.ref 43)⟩, ⟨PyData.keyHash P ⟨#[102,108,111,111,114,100,105,118]⟩, .str ⟨#[102,108,111,111,114,100,105,118]⟩ 263, (.ref 50)⟩, ⟨PyData.keyHash P ⟨#[108,115,104,105,102,116]⟩, .str ⟨#[108,115,104,105,102,116]⟩ 271, (.ref 57)⟩, ⟨PyData.keyHash P ⟨#[109,117,108]⟩, .str ⟨#[109,117,108]⟩ 279, (.ref 64)⟩, ⟨PyData.keyHash P ⟨#[110,101,103]⟩, .str ⟨#[110,101,103]⟩ 286, (.ref 71)⟩, ⟨PyData.keyHash P ⟨#[111,114,95]⟩, .str ⟨#[111,114,95]⟩ 294, (.ref 78)⟩, ⟨PyData.keyHash P ⟨#[115,117,98]⟩, .str ⟨#[115,117,98]⟩ 302, (.ref 85)⟩, ⟨PyData.keyHash P ⟨#[120,111,114]⟩, .str ⟨#[120,111,114]⟩ 310, (.ref 92)⟩, ⟨PyData.keyHash P ⟨#[103,101,116,105,116,101,109]⟩, .str ⟨#[103,101,116,105,116,101,109]⟩ 318, (.ref 99)⟩, ⟨PyData.keyHash P ⟨#[105,110,100,101,120,79,102]⟩, .str ⟨#[105,110,100,101,120,79,102]⟩ 328, (.ref 106)⟩] 23), #[]⟩
noncomputable def ob_12_15 (P : Params) : Obj := ⟨.none, none, (.fields #[(.int 1 0), (.int 0 0), (.ref 20), (.int 6 0), (.int 0 0), (.ref 28), (.int 18 0), (.int 0 0), (.ref 35), (.int 27 0), (.int 0 0), (.ref 42), (.int 29 0), (.int 0 0), (.ref 49), (.int 31 0), (.int 0 0), (.ref 56), (.int 33 0), (.int 0 0), (.ref 63), (.int 35 0), (.int 0 0), (.ref 70), (.int 37 0), (.int 0 0), (.ref 77), (.int 39 0), (.int 0 0), (.ref 84), (.int 41 0), (.int 0 0), (.ref 91), (.int 43 0), (.int 0 0), (.ref 98), (.int 45 0), (.int 0 0), (.ref 105)]), #[]⟩
noncomputable def ob_100 (P : Params) : Obj := ⟨(.type "tuple"), none, (.seq #[] 0), #[]⟩
noncomputable def ob_101 (P : Params) : Obj := ⟨.none, none, (.fields #[]), #[]⟩
noncomputable def ob_102 (P : Params) : Obj := ⟨(.type "tuple"), none, (.seq #[(.str ⟨#[97]⟩ 322), (.str ⟨#[98]⟩ 323), (.str ⟨#[105]⟩ 324), (.str ⟨#[106]⟩ 325)] 0), #[]⟩
noncomputable def ob_103 (P : Params) : Obj := ⟨(.type "tuple"), none, (.seq #[] 0), #[]⟩
noncomputable def ob_104 (P : Params) : Obj := ⟨.none, none, (.func { name := ⟨#[105,110,100,101,120,79,102]⟩, qualname := ⟨#[105,110,100,101,120,79,102]⟩, params := (FA 15), body := .stmts (FB 15), scope := (FS 15), globals := 0, closure := [], defaults := .none, kwdefaults := .none, doc := .none, pyModule := .none, annotations := none, code := .none, closureTuple := .none, builtins := 0 }), #[]⟩
noncomputable def ob_105 (P : Params) : Obj := ⟨(.type "code"), none, (.fields #[(.str ⟨#[105,110,100,101,120,79,102]⟩ 319), (.str ⟨#[105,110,100,101,120,79,102]⟩ 320), (.str ⟨#[47,99,108,97,105,109,47,99,117,116,46,112,121]⟩ 321), (.int 45 0), (.int 2 0), (.int 0 0), (.int 0 0), (.int 3 0), (.ref 100), (.bool true), (.int 181 0), (.ref 101), .none, (.ref 102), (.ref 103), (.ref 104), (.int 326 0), (.int 45 0), (.str ⟨#[47,99,108,97,105,109,47,99,117,116,46,112,121]⟩ 327)]), #[]⟩
noncomputable def ob_106 (P : Params) : Obj := ⟨(.type "function"), none, (.func { name := ⟨#[105,110,100,101,120,79,102]⟩, qualname := ⟨#[105,110,100,101,120,79,102]⟩, params := (FA 15), body := .stmts (FB 15), scope := (FS 15), globals := 3, closure := [], defaults := .none, kwdefaults := .none, doc := .none, pyModule := (.str ⟨#[99,112,121,51,49,51,46,111,112,101,114,97,116,111,114]⟩ 246), annotations := none, code := (.ref 105), closureTuple := .none, builtins := 0 }), #[]⟩
noncomputable def hl_15 (P : Params) : List Obj := [boot_o_0 P, boot_o_1 P, boot_o_2 P, ob_3_15 P, boot_o_4 P, boot_o_5 P, boot_o_6 P, boot_o_7 P, boot_o_8 P, boot_o_9 P, boot_o_10 P, ob_11 P, ob_12_15 P, ob_13 P, ob_14 P, ob_15 P, ob_16 P, ob_17 P, ob_18 P, ob_19 P, ob_20 P, ob_21 P, ob_22 P, ob_23 P, ob_24 P, ob_25 P, ob_26 P, ob_27 P, ob_28 P, ob_29 P, ob_30 P, ob_31 P, ob_32 P, ob_33 P, ob_34 P, ob_35 P, ob_36 P, ob_37 P, ob_38 P, ob_39 P, ob_40 P, ob_41 P, ob_42 P, ob_43 P, ob_44 P, ob_45 P, ob_46 P, ob_47 P, ob_48 P, ob_49 P, ob_50 P, ob_51 P, ob_52 P, ob_53 P, ob_54 P, ob_55 P, ob_56 P, ob_57 P, ob_58 P, ob_59 P, ob_60 P, ob_61 P, ob_62 P, ob_63 P, ob_64 P, ob_65 P, ob_66 P, ob_67 P, ob_68 P, ob_69 P, ob_70 P, ob_71 P, ob_72 P, ob_73 P, ob_74 P, ob_75 P, ob_76 P, ob_77 P, ob_78 P, ob_79 P, ob_80 P, ob_81 P, ob_82 P, ob_83 P, ob_84 P, ob_85 P, ob_86 P, ob_87 P, ob_88 P, ob_89 P, ob_90 P, ob_91 P, ob_92 P, ob_93 P, ob_94 P, ob_95 P, ob_96 P, ob_97 P, ob_98 P, ob_99 P, ob_100 P, ob_101 P, ob_102 P, ob_103 P, ob_104 P, ob_105 P, ob_106 P]
noncomputable def ob_3_16 (P : Params) : Obj := ⟨(.type "dict"), none, (.dict #[⟨PyData.keyHash P ⟨#[95,95,110,97,109,101,95,95]⟩, .str ⟨#[95,95,110,97,109,101,95,95]⟩ 165, (.str ⟨#[99,112,121,51,49,51,46,115,116,114,105,110,103,112,114,101,112]⟩ 329)⟩, ⟨PyData.keyHash P ⟨#[95,95,100,111,99,95,95]⟩, .str ⟨#[95,95,100,111,99,95,95]⟩ 166, .none⟩, ⟨PyData.keyHash P ⟨#[95,95,112,97,99,107,97,103,101,95,95]⟩, .str ⟨#[95,95,112,97,99,107,97,103,101,95,95]⟩ 167, .none⟩, ⟨PyData.keyHash P ⟨#[95,95,108,111,97,100,101,114,95,95]⟩, .str ⟨#[95,95,108,111,97,100,101,114,95,95]⟩ 168, (.builtin "__main__.__loader__#opaque")⟩, ⟨PyData.keyHash P ⟨#[95,95,115,112,101,99,95,95]⟩, .str ⟨#[95,95,115,112,101,99,95,95]⟩ 169, .none⟩, ⟨PyData.keyHash P ⟨#[95,95,97,110,110,111,116,97,116,105,111,110,115,95,95]⟩, .str ⟨#[95,95,97,110,110,111,116,97,116,105,111,110,115,95,95]⟩ 170, (.ref 6)⟩, ⟨PyData.keyHash P ⟨#[95,95,98,117,105,108,116,105,110,115,95,95]⟩, .str ⟨#[95,95,98,117,105,108,116,105,110,115,95,95]⟩ 171, (.ref 4)⟩, ⟨PyData.keyHash P ⟨#[95,95,102,105,108,101,95,95]⟩, .str ⟨#[95,95,102,105,108,101,95,95]⟩ 173, (.str ⟨#[47,99,108,97,105,109,47,99,117,116,46,112,121]⟩ 172)⟩, ⟨PyData.keyHash P ⟨#[95,95,99,97,99,104,101,100,95,95]⟩, .str ⟨#[95,95,99,97,99,104,101,100,95,95]⟩ 174, .none⟩, ⟨PyData.keyHash P ⟨#[95,119,97,108,108]⟩, .str ⟨#[95,119,97,108,108]⟩ 193, (.ref 21)⟩, ⟨PyData.keyHash P ⟨#[67,79,77,80,73,76,69,82,95,70,76,65,71,95,78,65,77,69,83]⟩, .str ⟨#[67,79,77,80,73,76,69,82,95,70,76,65,71,95,78,65,77,69,83]⟩ 226, (.ref 22)⟩, ⟨PyData.keyHash P ⟨#[112,114,101,116,116,121,95,102,108,97,103,115]⟩, .str ⟨#[112,114,101,116,116,121,95,102,108,97,103,115]⟩ 236, (.ref 29)⟩, ⟨PyData.keyHash P ⟨#[95,112,97,114,115,101,95,118,97,114,105,110,116]⟩, .str ⟨#[95,112,97,114,115,101,95,118,97,114,105,110,116]⟩ 245, (.ref 36)⟩, ⟨PyData.keyHash P ⟨#[97,100,100]⟩, .str ⟨#[97,100,100]⟩ 255, (.ref 43)⟩, ⟨PyData.keyHash P ⟨#[102,108,111,111,114,100,105,118]⟩, .str ⟨#[102,108,111,111,114,100,105,118]⟩ 263, (.ref 50)⟩, ⟨PyData.keyHash P ⟨#[108,115,104,105,102,116]⟩, .str ⟨#[108,115,104,105,102,116]⟩ 271, (.ref 57)⟩, ⟨PyData.keyHash P ⟨#[109,117,108]⟩, .str ⟨#[109,117,108]⟩ 279, (.ref 64)⟩, ⟨PyData.keyHash P ⟨#[110,101,103]⟩, .str ⟨#[110,101,103]⟩ 286, (.ref 71)⟩, ⟨PyData.keyHash P ⟨#[111,114,95]⟩, .str ⟨#[111,114,95]⟩ 294, (.ref 78)⟩, ⟨PyData.keyHash P ⟨#[115,117,98]⟩, .str ⟨#[115,117,98]⟩ 302, (.ref 85)⟩, ⟨PyData.keyHash P ⟨#[120,111,114]⟩, .str ⟨#[120,111,114]⟩ 310, (.ref 92)⟩, ⟨PyData.keyHash P ⟨#[103,101,116,105,116,101,109]⟩, .str ⟨#[103,101,116,105,116,101,109]⟩ 318, (.ref 99)⟩, ⟨PyData.keyHash P ⟨#[105,110,100,101,120,79,102]⟩, .str ⟨#[105,110,100,101,120,79,102]⟩ 328, (.ref 106)⟩] 23), #[]⟩
noncomputable def hl_16 (P : Params) : List Obj := [boot_o_0 P, boot_o_1 P, boot_o_2 P, ob_3_16 P, boot_o_4 P, boot_o_5 P, boot_o_6 P, boot_o_7 P, boot_o_8 P, boot_o_9 P, boot_o_10 P, ob_11 P, ob_12_15 P, ob_13 P, ob_14 P, ob_15 P, ob_16 P, ob_17 P, ob_18 P, ob_19 P, ob_20 P, ob_21 P, ob_22 P, ob_23 P, ob_24 P, ob_25 P, ob_26 P, ob_27 P, ob_28 P, ob_29 P, ob_30 P, ob_31 P, ob_32 P, ob_33 P, ob_34 P, ob_35 P, ob_36 P, ob_37 P, ob_38 P, ob_39 P, ob_40 P, ob_41 P, ob_42 P, ob_43 P, ob_44 P, ob_45 P, ob_46 P, ob_47 P, ob_48 P, ob_49 P, ob_50 P, ob_51 P, ob_52 P, ob_53 P, ob_54 P, ob_55 P, ob_56 P, ob_57 P, ob_58 P, ob_59 P, ob_60 P, ob_61 P, ob_62 P, ob_63 P, ob_64 P, ob_65 P, ob_66 P, ob_67 P, ob_68 P, ob_69 P, ob_70 P, ob_71 P, ob_72 P, ob_73 P, ob_74 P, ob_75 P, ob_76 P, ob_77 P, ob_78 P, ob_79 P, ob_80 P, ob_81 P, ob_82 P, ob_83 P, ob_84 P, ob_85 P, ob_86 P, ob_87 P, ob_88 P, ob_89 P, ob_90 P, ob_91 P, ob_92 P, ob_93 P, ob_94 P, ob_95 P, ob_96 P, ob_97 P, ob_98 P, ob_99 P, ob_100 P, ob_101 P, ob_102 P, ob_103 P, ob_104 P, ob_105 P, ob_106 P]
noncomputable def ob_3_17 (P : Params) : Obj := ⟨(.type "dict"), none, (.dict #[⟨PyData.keyHash P ⟨#[95,95,110,97,109,101,95,95]⟩, .str ⟨#[95,95,110,97,109,101,95,95]⟩ 165, (.str ⟨#[99,112,121,51,49,51,46,115,116,114,105,110,103,112,114,101,112]⟩ 329)⟩, ⟨PyData.keyHash P ⟨#[95,95,100,111,99,95,95]⟩, .str ⟨#[95,95,100,111,99,95,95]⟩ 166, .none⟩, ⟨PyData.keyHash P ⟨#[95,95,112,97,99,107,97,103,101,95,95]⟩, .str ⟨#[95,95,112,97,99,107,97,103,101,95,95]⟩ 167, .none⟩, ⟨PyData.keyHash P ⟨#[95,95,108,111,97,100,101,114,95,95]⟩, .str ⟨#[95,95,108,111,97,100,101,114,95,95]⟩ 168, (.builtin "__main__.__loader__#opaque")⟩, ⟨PyData.keyHash P ⟨#[95,95,115,112,101,99,95,95]⟩, .str ⟨#[95,95,115,112,101,99,95,95]⟩ 169, .none⟩, ⟨PyData.keyHash P ⟨#[95,95,97,110,110,111,116,97,116,105,111,110,115,95,95]⟩, .str ⟨#[95,95,97,110,110,111,116,97,116,105,111,110,115,95,95]⟩ 170, (.ref 6)⟩, ⟨PyData.keyHash P ⟨#[95,95,98,117,105,108,116,105,110,115,95,95]⟩, .str ⟨#[95,95,98,117,105,108,116,105,110,115,95,95]⟩ 171, (.ref 4)⟩, ⟨PyData.keyHash P ⟨#[95,95,102,105,108,101,95,95]⟩, .str ⟨#[95,95,102,105,108,101,95,95]⟩ 173, (.str ⟨#[47,99,108,97,105,109,47,99,117,116,46,112,121]⟩ 172)⟩, ⟨PyData.keyHash P ⟨#[95,95,99,97,99,104,101,100,95,95]⟩, .str ⟨#[95,95,99,97,99,104,101,100,95,95]⟩ 174, .none⟩, ⟨PyData.keyHash P ⟨#[95,119,97,108,108]⟩, .str ⟨#[95,119,97,108,108]⟩ 193, (.ref 21)⟩, ⟨PyData.keyHash P ⟨#[67,79,77,80,73,76,69,82,95,70,76,65,71,95,78,65,77,69,83]⟩, .str ⟨#[67,79,77,80,73,76,69,82,95,70,76,65,71,95,78,65,77,69,83]⟩ 226, (.ref 22)⟩, ⟨PyData.keyHash P ⟨#[112,114,101,116,116,121,95,102,108,97,103,115]⟩, .str ⟨#[112,114,101,116,116,121,95,102,108,97,103,115]⟩ 236, (.ref 29)⟩, ⟨PyData.keyHash P ⟨#[95,112,97,114,115,101,95,118,97,114,105,110,116]⟩, .str ⟨#[95,112,97,114,115,101,95,118,97,114,105,110,116]⟩ 245, (.ref 36)⟩, ⟨PyData.keyHash P ⟨#[97,100,100]⟩, .str ⟨#[97,100,100]⟩ 255, (.ref 43)⟩, ⟨PyData.keyHash P ⟨#[102,108,111,111,114,100,105,118]⟩, .str ⟨#[102,108,111,111,114,100,105,118]⟩ 263, (.ref 50)⟩, ⟨PyData.keyHash P ⟨#[108,115,104,105,102,116]⟩, .str ⟨#[108,115,104,105,102,116]⟩ 271, (.ref 57)⟩, ⟨PyData.keyHash P ⟨#[109,117,108]⟩, .str ⟨#[109,117,108]⟩ 279, (.ref 64)⟩, ⟨PyData.keyHash P ⟨#[110,101,103]⟩, .str ⟨#[110,101,103]⟩ 286, (.ref 71)⟩, ⟨PyData.keyHash P ⟨#[111,114,95]⟩, .str ⟨#[111,114,95]⟩ 294, (.ref 78)⟩, ⟨PyData.keyHash P ⟨#[115,117,98]⟩, .str ⟨#[115,117,98]⟩ 302, (.ref 85)⟩, ⟨PyData.keyHash P ⟨#[120,111,114]⟩, .str ⟨#[120,111,114]⟩ 310, (.ref 92)⟩, ⟨PyData.keyHash P ⟨#[103,101,116,105,116,101,109]⟩, .str ⟨#[103,101,116,105,116,101,109]⟩ 318, (.ref 99)⟩, ⟨PyData.keyHash P ⟨#[105,110,100,101,120,79,102]⟩, .str ⟨#[105,110,100,101,120,79,102]⟩ 328, (.ref 106)⟩, ⟨PyData.keyHash P ⟨#[98,49,95,115,101,116]⟩, .str ⟨#[98,49,95,115,101,116]⟩ 390, (.ref 114)⟩] 24), #[]⟩
noncomputable def ob_107 (P : Params) : Obj := ⟨(.type "list"), none, (.seq #[(.int 173 331), (.int 847 332), (.int 6150 333), (.int 6155 334), (.int 6156 335), (.int 6157 336), (.int 8203 337), (.int 8204 338), (.int 8205 339), (.int 8288 340), (.int 65279 341)] 0), #[]⟩
noncomputable def ob_108 (P : Params) : Obj := ⟨(.type "range"), none, (.fields #[(.int 65024 342), (.int 65040 343), (.int 1 344)]), #[]⟩
noncomputable def ob_109 (P : Params) : Obj := ⟨(.type "list"), none, (.seq #[(.int 65024 347), (.int 65025 348), (.int 65026 349), (.int 65027 350), (.int 65028 351), (.int 65029 352), (.int 65030 353), (.int 65031 354), (.int 65032 355), (.int 65033 356), (.int 65034 357), (.int 65035 358), (.int 65036 359), (.int 65037 360), (.int 65038 361), (.int 65039 362)] 18), #[]⟩
noncomputable def ob_110 (P : Params) : Obj := ⟨(.type "range_iterator"), none, (.fields #[(.int 65040 0), (.int 0 0), (.int 1 0)]), #[]⟩
noncomputable def ob_111 (P : Params) : Obj := ⟨(.type "tuple"), none, (.seq #[] 0), #[]⟩
noncomputable def ob_112 (P : Params) : Obj := ⟨(.type "StopIteration"), none, (.fields #[(.ref 111), .none, .none, .none, (.bool false), .none]), #[]⟩
noncomputable def ob_113 (P : Params) : Obj := ⟨(.type "list"), none, (.seq #[(.int 173 331), (.int 847 332), (.int 6150 333), (.int 6155 334), (.int 6156 335), (.int 6157 336), (.int 8203 337), (.int 8204 338), (.int 8205 339), (.int 8288 340), (.int 65279 341), (.int 65024 347), (.int 65025 348), (.int 65026 349), (.int 65027 350), (.int 65028 351), (.int 65029 352), (.int 65030 353), (.int 65031 354), (.int 65032 355), (.int 65033 356), (.int 65034 357), (.int 65035 358), (.int 65036 359), (.int 65037 360), (.int 65038 361), (.int 65039 362)] 0), #[]⟩
noncomputable def ob_114 (P : Params) : Obj := ⟨(.type "set"), none, (.set #[(65024, (.int 65024 347)), (65025, (.int 65025 348)), (65026, (.int 65026 349)), (65027, (.int 65027 350)), (65028, (.int 65028 351)), (65029, (.int 65029 352)), (6150, (.int 6150 333)), (65030, (.int 65030 353)), (65031, (.int 65031 354)), (65032, (.int 65032 355)), (65033, (.int 65033 356)), (6155, (.int 6155 334)), (6156, (.int 6156 335)), (6157, (.int 6157 336)), (8203, (.int 8203 337)), (8204, (.int 8204 338)), (8205, (.int 8205 339)), (65034, (.int 65034 357)), (65035, (.int 65035 358)), (65036, (.int 65036 359)), (65037, (.int 65037 360)), (65038, (.int 65038 361)), (65039, (.int 65039 362)), (173, (.int 173 331)), (847, (.int 847 332)), (8288, (.int 8288 340)), (65279, (.int 65279 341))] 29 ⟨127, #[0,1,2,3,4,5,6,7,8,9,10,11,12,13,14,15,16,17,18,19,20,21,22,45,79,96,127], #[], 0, (!P.followText "set-order"), 2, true⟩), #[]⟩
noncomputable def ob_115 (P : Params) : Obj := ⟨(.type "list_iterator"), none, (.fields #[.none, (.int 27 0)]), #[]⟩
noncomputable def ob_116 (P : Params) : Obj := ⟨(.type "tuple"), none, (.seq #[] 0), #[]⟩
noncomputable def ob_117 (P : Params) : Obj := ⟨(.type "StopIteration"), none, (.fields #[(.ref 116), .none, .none, .none, (.bool false), .none]), #[]⟩
noncomputable def hl_17 (P : Params) : List Obj := [boot_o_0 P, boot_o_1 P, boot_o_2 P, ob_3_17 P, boot_o_4 P, boot_o_5 P, boot_o_6 P, boot_o_7 P, boot_o_8 P, boot_o_9 P, boot_o_10 P, ob_11 P, ob_12_15 P, ob_13 P, ob_14 P, ob_15 P, ob_16 P, ob_17 P, ob_18 P, ob_19 P, ob_20 P, ob_21 P, ob_22 P, ob_23 P, ob_24 P, ob_25 P, ob_26 P, ob_27 P, ob_28 P, ob_29 P, ob_30 P, ob_31 P, ob_32 P, ob_33 P, ob_34 P, ob_35 P, ob_36 P, ob_37 P, ob_38 P, ob_39 P, ob_40 P, ob_41 P, ob_42 P, ob_43 P, ob_44 P, ob_45 P, ob_46 P, ob_47 P, ob_48 P, ob_49 P, ob_50 P, ob_51 P, ob_52 P, ob_53 P, ob_54 P, ob_55 P, ob_56 P, ob_57 P, ob_58 P, ob_59 P, ob_60 P, ob_61 P, ob_62 P, ob_63 P, ob_64 P, ob_65 P, ob_66 P, ob_67 P, ob_68 P, ob_69 P, ob_70 P, ob_71 P, ob_72 P, ob_73 P, ob_74 P, ob_75 P, ob_76 P, ob_77 P, ob_78 P, ob_79 P, ob_80 P, ob_81 P, ob_82 P, ob_83 P, ob_84 P, ob_85 P, ob_86 P, ob_87 P, ob_88 P, ob_89 P, ob_90 P, ob_91 P, ob_92 P, ob_93 P, ob_94 P, ob_95 P, ob_96 P, ob_97 P, ob_98 P, ob_99 P, ob_100 P, ob_101 P, ob_102 P, ob_103 P, ob_104 P, ob_105 P, ob_106 P, ob_107 P, ob_108 P, ob_109 P, ob_110 P, ob_111 P, ob_112 P, ob_113 P, ob_114 P, ob_115 P, ob_116 P, ob_117 P]
noncomputable def ob_3_18 (P : Params) : Obj := ⟨(.type "dict"), none, (.dict #[⟨PyData.keyHash P ⟨#[95,95,110,97,109,101,95,95]⟩, .str ⟨#[95,95,110,97,109,101,95,95]⟩ 165, (.str ⟨#[99,112,121,51,49,51,46,115,116,114,105,110,103,112,114,101,112]⟩ 329)⟩, ⟨PyData.keyHash P ⟨#[95,95,100,111,99,95,95]⟩, .str ⟨#[95,95,100,111,99,95,95]⟩ 166, .none⟩, ⟨PyData.keyHash P ⟨#[95,95,112,97,99,107,97,103,101,95,95]⟩, .str ⟨#[95,95,112,97,99,107,97,103,101,95,95]⟩ 167, .none⟩, ⟨PyData.keyHash P ⟨#[95,95,108,111,97,100,101,114,95,95]⟩, .str ⟨#[95,95,108,111,97,100,101,114,95,95]⟩ 168, (.builtin "__main__.__loader__#opaque")⟩, ⟨PyData.keyHash P ⟨#[95,95,115,112,101,99,95,95]⟩, .str ⟨#[95,95,115,112,101,99,95,95]⟩ 169, .none⟩, ⟨PyData.keyHash P ⟨#[95,95,97,110,110,111,116,97,116,105,111,110,115,95,95]⟩, .str ⟨#[95,95,97,110,110,111,116,97,116,105,111,110,115,95,95]⟩ 170, (.ref 6)⟩, ⟨PyData.keyHash P ⟨#[95,95,98,117,105,108,116,105,110,115,95,95]⟩, .str ⟨#[95,95,98,117,105,108,116,105,110,115,95,95]⟩ 171, (.ref 4)⟩, ⟨PyData.keyHash P ⟨#[95,95,102,105,108,101,95,95]⟩, .str ⟨#[95,95,102,105,108,101,95,95]⟩ 173, (.str ⟨#[47,99,108,97,105,109,47,99,117,116,46,112,121]⟩ 172)⟩, ⟨PyData.keyHash P ⟨#[95,95,99,97,99,104,101,100,95,95]⟩, .str ⟨#[95,95,99,97,99,104,101,100,95,95]⟩ 174, .none⟩, ⟨PyData.keyHash P ⟨#[95,119,97,108,108]⟩, .str ⟨#[95,119,97,108,108]⟩ 193, (.ref 21)⟩, ⟨PyData.keyHash P ⟨#[67,79,77,80,73,76,69,82,95,70,76,65,71,95,78,65,77,69,83]⟩, .str ⟨#[67,79,77,80,73,76,69,82,95,70,76,65,71,95,78,65,77,69,83]⟩ 226, (.ref 22)⟩, ⟨PyData.keyHash P ⟨#[112,114,101,116,116,121,95,102,108,97,103,115]⟩, .str ⟨#[112,114,101,116,116,121,95,102,108,97,103,115]⟩ 236, (.ref 29)⟩, ⟨PyData.keyHash P ⟨#[95,112,97,114,115,101,95,118,97,114,105,110,116]⟩, .str ⟨#[95,112,97,114,115,101,95,118,97,114,105,110,116]⟩ 245, (.ref 36)⟩, ⟨PyData.keyHash P ⟨#[97,100,100]⟩, .str ⟨#[97,100,100]⟩ 255, (.ref 43)⟩, ⟨PyData.keyHash P ⟨#[102,108,111,111,114,100,105,118]⟩, .str ⟨#[102,108,111,111,114,100,105,118]⟩ 263, (.ref 50)⟩, ⟨PyData.keyHash P ⟨#[108,115,104,105,102,116]⟩, .str ⟨#[108,115,104,105,102,116]⟩ 271, (.ref 57)⟩, ⟨PyData.keyHash P ⟨#[109,117,108]⟩, .str ⟨#[109,117,108]⟩ 279, (.ref 64)⟩, ⟨PyData.keyHash P ⟨#[110,101,103]⟩, .str ⟨#[110,101,103]⟩ 286, (.ref 71)⟩, ⟨PyData.keyHash P ⟨#[111,114,95]⟩, .str ⟨#[111,114,95]⟩ 294, (.ref 78)⟩, ⟨PyData.keyHash P ⟨#[115,117,98]⟩, .str ⟨#[115,117,98]⟩ 302, (.ref 85)⟩, ⟨PyData.keyHash P ⟨#[120,111,114]⟩, .str ⟨#[120,111,114]⟩ 310, (.ref 92)⟩, ⟨PyData.keyHash P ⟨#[103,101,116,105,116,101,109]⟩, .str ⟨#[103,101,116,105,116,101,109]⟩ 318, (.ref 99)⟩, ⟨PyData.keyHash P ⟨#[105,110,100,101,120,79,102]⟩, .str ⟨#[105,110,100,101,120,79,102]⟩ 328, (.ref 106)⟩, ⟨PyData.keyHash P ⟨#[98,49,95,115,101,116]⟩, .str ⟨#[98,49,95,115,101,116]⟩ 390, (.ref 114)⟩, ⟨PyData.keyHash P ⟨#[105,110,95,116,97,98,108,101,95,98,49]⟩, .str ⟨#[105,110,95,116,97,98,108,101,95,98,49]⟩ 397, (.ref 124)⟩] 25), #[]⟩
noncomputable def ob_12_18 (P : Params) : Obj := ⟨.none, none, (.fields #[(.int 1 0), (.int 0 0), (.ref 20), (.int 6 0), (.int 0 0), (.ref 28), (.int 18 0), (.int 0 0), (.ref 35), (.int 27 0), (.int 0 0), (.ref 42), (.int 29 0), (.int 0 0), (.ref 49), (.int 31 0), (.int 0 0), (.ref 56), (.int 33 0), (.int 0 0), (.ref 63), (.int 35 0), (.int 0 0), (.ref 70), (.int 37 0), (.int 0 0), (.ref 77), (.int 39 0), (.int 0 0), (.ref 84), (.int 41 0), (.int 0 0), (.ref 91), (.int 43 0), (.int 0 0), (.ref 98), (.int 45 0), (.int 0 0), (.ref 105), (.int 53 0), (.int 0 0), (.ref 123)]), #[]⟩
noncomputable def ob_118 (P : Params) : Obj := ⟨(.type "tuple"), none, (.seq #[] 0), #[]⟩
noncomputable def ob_119 (P : Params) : Obj := ⟨.none, none, (.fields #[]), #[]⟩
noncomputable def ob_120 (P : Params) : Obj := ⟨(.type "tuple"), none, (.seq #[(.str ⟨#[99,111,100,101]⟩ 394)] 0), #[]⟩
noncomputable def ob_121 (P : Params) : Obj := ⟨(.type "tuple"), none, (.seq #[] 0), #[]⟩
noncomputable def ob_122 (P : Params) : Obj := ⟨.none, none, (.func { name := ⟨#[105,110,95,116,97,98,108,101,95,98,49]⟩, qualname := ⟨#[105,110,95,116,97,98,108,101,95,98,49]⟩, params := (FA 18), body := .stmts (FB 18), scope := (FS 18), globals := 0, closure := [], defaults := .none, kwdefaults := .none, doc := .none, pyModule := .none, annotations := none, code := .none, closureTuple := .none, builtins := 0 }), #[]⟩
noncomputable def ob_123 (P : Params) : Obj := ⟨(.type "code"), none, (.fields #[(.str ⟨#[105,110,95,116,97,98,108,101,95,98,49]⟩ 391), (.str ⟨#[105,110,95,116,97,98,108,101,95,98,49]⟩ 392), (.str ⟨#[47,99,108,97,105,109,47,99,117,116,46,112,121]⟩ 393), (.int 53 0), (.int 1 0), (.int 0 0), (.int 0 0), (.int 3 0), (.ref 118), (.bool true), (.int 181 0), (.ref 119), .none, (.ref 120), (.ref 121), (.ref 122), (.int 395 0), (.int 53 0), (.str ⟨#[47,99,108,97,105,109,47,99,117,116,46,112,121]⟩ 396)]), #[]⟩
noncomputable def ob_124 (P : Params) : Obj := ⟨(.type "function"), none, (.func { name := ⟨#[105,110,95,116,97,98,108,101,95,98,49]⟩, qualname := ⟨#[105,110,95,116,97,98,108,101,95,98,49]⟩, params := (FA 18), body := .stmts (FB 18), scope := (FS 18), globals := 3, closure := [], defaults := .none, kwdefaults := .none, doc := .none, pyModule := (.str ⟨#[99,112,121,51,49,51,46,115,116,114,105,110,103,112,114,101,112]⟩ 329), annotations := none, code := (.ref 123), closureTuple := .none, builtins := 0 }), #[]⟩
noncomputable def hl_18 (P : Params) : List Obj := [boot_o_0 P, boot_o_1 P, boot_o_2 P, ob_3_18 P, boot_o_4 P, boot_o_5 P, boot_o_6 P, boot_o_7 P, boot_o_8 P, boot_o_9 P, boot_o_10 P, ob_11 P, ob_12_18 P, ob_13 P, ob_14 P, ob_15 P, ob_16 P, ob_17 P, ob_18 P, ob_19 P, ob_20 P, ob_21 P, ob_22 P, ob_23 P, ob_24 P, ob_25 P, ob_26 P, ob_27 P, ob_28 P, ob_29 P, ob_30 P, ob_31 P, ob_32 P, ob_33 P, ob_34 P, ob_35 P, ob_36 P, ob_37 P, ob_38 P, ob_39 P, ob_40 P, ob_41 P, ob_42 P, ob_43 P, ob_44 P, ob_45 P, ob_46 P, ob_47 P, ob_48 P, ob_49 P, ob_50 P, ob_51 P, ob_52 P, ob_53 P, ob_54 P, ob_55 P, ob_56 P, ob_57 P, ob_58 P, ob_59 P, ob_60 P, ob_61 P, ob_62 P, ob_63 P, ob_64 P, ob_65 P, ob_66 P, ob_67 P, ob_68 P, ob_69 P, ob_70 P, ob_71 P, ob_72 P, ob_73 P, ob_74 P, ob_75 P, ob_76 P, ob_77 P, ob_78 P, ob_79 P, ob_80 P, ob_81 P, ob_82 P, ob_83 P, ob_84 P, ob_85 P, ob_86 P, ob_87 P, ob_88 P, ob_89 P, ob_90 P, ob_91 P, ob_92 P, ob_93 P, ob_94 P, ob_95 P, ob_96 P, ob_97 P, ob_98 P, ob_99 P, ob_100 P, ob_101 P, ob_102 P, ob_103 P, ob_104 P, ob_105 P, ob_106 P, ob_107 P, ob_108 P, ob_109 P, ob_110 P, ob_111 P, ob_112 P, ob_113 P, ob_114 P, ob_115 P, ob_116 P, ob_117 P, ob_118 P, ob_119 P, ob_120 P, ob_121 P, ob_122 P, ob_123 P, ob_124 P]
noncomputable def ob_3_19 (P : Params) : Obj := ⟨(.type "dict"), none, (.dict #[⟨PyData.keyHash P ⟨#[95,95,110,97,109,101,95,95]⟩, .str ⟨#[95,95,110,97,109,101,95,95]⟩ 165, (.str ⟨#[99,112,121,51,49,51,46,115,116,114,105,110,103,112,114,101,112]⟩ 329)⟩, ⟨PyData.keyHash P ⟨#[95,95,100,111,99,95,95]⟩, .str ⟨#[95,95,100,111,99,95,95]⟩ 166, .none⟩, ⟨PyData.keyHash P ⟨#[95,95,112,97,99,107,97,103,101,95,95]⟩, .str ⟨#[95,95,112,97,99,107,97,103,101,95,95]⟩ 167, .none⟩, ⟨PyData.keyHash P ⟨#[95,95,108,111,97,100,101,114,95,95]⟩, .str ⟨#[95,95,108,111,97,100,101,114,95,95]⟩ 168, (.builtin "__main__.__loader__#opaque")⟩, ⟨PyData.keyHash P ⟨#[95,95,115,112,101,99,95,95]⟩, .str ⟨#[95,95,115,112,101,99,95,95]⟩ 169, .none⟩, ⟨PyData.keyHash P ⟨#[95,95,97,110,110,111,116,97,116,105,111,110,115,95,95]⟩, .str ⟨#[95,95,97,110,110,111,116,97,116,105,111,110,115,95,95]⟩ 170, (.ref 6)⟩, ⟨PyData.keyHash P ⟨#[95,95,98,117,105,108,116,105,110,115,95,95]⟩, .str ⟨#[95,95,98,117,105,108,116,105,110,115,95,95]⟩ 171, (.ref 4)⟩, ⟨PyData.keyHash P ⟨#[95,95,102,105,108,101,95,95]⟩, .str ⟨#[95,95,102,105,108,101,95,95]⟩ 173, (.str ⟨#[47,99,108,97,105,109,47,99,117,116,46,112,121]⟩ 172)⟩, ⟨PyData.keyHash P ⟨#[95,95,99,97,99,104,101,100,95,95]⟩, .str ⟨#[95,95,99,97,99,104,101,100,95,95]⟩ 174, .none⟩, ⟨PyData.keyHash P ⟨#[95,119,97,108,108]⟩, .str ⟨#[95,119,97,108,108]⟩ 193, (.ref 21)⟩, ⟨PyData.keyHash P ⟨#[67,79,77,80,73,76,69,82,95,70,76,65,71,95,78,65,77,69,83]⟩, .str ⟨#[67,79,77,80,73,76,69,82,95,70,76,65,71,95,78,65,77,69,83]⟩ 226, (.ref 22)⟩, ⟨PyData.keyHash P ⟨#[112,114,101,116,116,121,95,102,108,97,103,115]⟩, .str ⟨#[112,114,101,116,116,121,95,102,108,97,103,115]⟩ 236, (.ref 29)⟩, ⟨PyData.keyHash P ⟨#[95,112,97,114,115,101,95,118,97,114,105,110,116]⟩, .str ⟨#[95,112,97,114,115,101,95,118,97,114,105,110,116]⟩ 245, (.ref 36)⟩, ⟨PyData.keyHash P ⟨#[97,100,100]⟩, .str ⟨#[97,100,100]⟩ 255, (.ref 43)⟩, ⟨PyData.keyHash P ⟨#[102,108,111,111,114,100,105,118]⟩, .str ⟨#[102,108,111,111,114,100,105,118]⟩ 263, (.ref 50)⟩, ⟨PyData.keyHash P ⟨#[108,115,104,105,102,116]⟩, .str ⟨#[108,115,104,105,102,116]⟩ 271, (.ref 57)⟩, ⟨PyData.keyHash P ⟨#[109,117,108]⟩, .str ⟨#[109,117,108]⟩ 279, (.ref 64)⟩, ⟨PyData.keyHash P ⟨#[110,101,103]⟩, .str ⟨#[110,101,103]⟩ 286, (.ref 71)⟩, ⟨PyData.keyHash P ⟨#[111,114,95]⟩, .str ⟨#[111,114,95]⟩ 294, (.ref 78)⟩, ⟨PyData.keyHash P ⟨#[115,117,98]⟩, .str ⟨#[115,117,98]⟩ 302, (.ref 85)⟩, ⟨PyData.keyHash P ⟨#[120,111,114]⟩, .str ⟨#[120,111,114]⟩ 310, (.ref 92)⟩, ⟨PyData.keyHash P ⟨#[103,101,116,105,116,101,109]⟩, .str ⟨#[103,101,116,105,116,101,109]⟩ 318, (.ref 99)⟩, ⟨PyData.keyHash P ⟨#[105,110,100,101,120,79,102]⟩, .str ⟨#[105,110,100,101,120,79,102]⟩ 328, (.ref 106)⟩, ⟨PyData.keyHash P ⟨#[98,49,95,115,101,116]⟩, .str ⟨#[98,49,95,115,101,116]⟩ 390, (.ref 114)⟩, ⟨PyData.keyHash P ⟨#[105,110,95,116,97,98,108,101,95,98,49]⟩, .str ⟨#[105,110,95,116,97,98,108,101,95,98,49]⟩ 397, (.ref 124)⟩, ⟨PyData.keyHash P ⟨#[98,51,95,101,120,99,101,112,116,105,111,110,115]⟩, .str ⟨#[98,51,95,101,120,99,101,112,116,105,111,110,115]⟩ 2348, (.ref 125)⟩] 26), #[]⟩
noncomputable def hl_19 (P : Params) (x : Nat → Obj) : List Obj := [boot_o_0 P, boot_o_1 P, boot_o_2 P, ob_3_19 P, boot_o_4 P, boot_o_5 P, boot_o_6 P, boot_o_7 P, boot_o_8 P, boot_o_9 P, boot_o_10 P, ob_11 P, ob_12_18 P, ob_13 P, ob_14 P, ob_15 P, ob_16 P, ob_17 P, ob_18 P, ob_19 P, ob_20 P, ob_21 P, ob_22 P, ob_23 P, ob_24 P, ob_25 P, ob_26 P, ob_27 P, ob_28 P, ob_29 P, ob_30 P, ob_31 P, ob_32 P, ob_33 P, ob_34 P, ob_35 P, ob_36 P, ob_37 P, ob_38 P, ob_39 P, ob_40 P, ob_41 P, ob_42 P, ob_43 P, ob_44 P, ob_45 P, ob_46 P, ob_47 P, ob_48 P, ob_49 P, ob_50 P, ob_51 P, ob_52 P, ob_53 P, ob_54 P, ob_55 P, ob_56 P, ob_57 P, ob_58 P, ob_59 P, ob_60 P, ob_61 P, ob_62 P, ob_63 P, ob_64 P, ob_65 P, ob_66 P, ob_67 P, ob_68 P, ob_69 P, ob_70 P, ob_71 P, ob_72 P, ob_73 P, ob_74 P, ob_75 P, ob_76 P, ob_77 P, ob_78 P, ob_79 P, ob_80 P, ob_81 P, ob_82 P, ob_83 P, ob_84 P, ob_85 P, ob_86 P, ob_87 P, ob_88 P, ob_89 P, ob_90 P, ob_91 P, ob_92 P, ob_93 P, ob_94 P, ob_95 P, ob_96 P, ob_97 P, ob_98 P, ob_99 P, ob_100 P, ob_101 P, ob_102 P, ob_103 P, ob_104 P, ob_105 P, ob_106 P, ob_107 P, ob_108 P, ob_109 P, ob_110 P, ob_111 P, ob_112 P, ob_113 P, ob_114 P, ob_115 P, ob_116 P, ob_117 P, ob_118 P, ob_119 P, ob_120 P, ob_121 P, ob_122 P, ob_123 P, ob_124 P, x 0, x 1, x 2, x 3, x 4, x 5, x 6, x 7, x 8, x 9, x 10, x 11, x 12, x 13, x 14, x 15, x 16, x 17, x 18, x 19, x 20, x 21, x 22, x 23, x 24, x 25, x 26, x 27, x 28, x 29, x 30, x 31, x 32, x 33, x 34, x 35, x 36, x 37, x 38]
noncomputable def ob_3_20 (P : Params) : Obj := ⟨(.type "dict"), none, (.dict #[⟨PyData.keyHash P ⟨#[95,95,110,97,109,101,95,95]⟩, .str ⟨#[95,95,110,97,109,101,95,95]⟩ 165, (.str ⟨#[99,112,121,51,49,51,46,115,116,114,105,110,103,112,114,101,112]⟩ 329)⟩, ⟨PyData.keyHash P ⟨#[95,95,100,111,99,95,95]⟩, .str ⟨#[95,95,100,111,99,95,95]⟩ 166, .none⟩, ⟨PyData.keyHash P ⟨#[95,95,112,97,99,107,97,103,101,95,95]⟩, .str ⟨#[95,95,112,97,99,107,97,103,101,95,95]⟩ 167, .none⟩, ⟨PyData.keyHash P ⟨#[95,95,108,111,97,100,101,114,95,95]⟩, .str ⟨#[95,95,108,111,97,100,101,114,95,95]⟩ 168, (.builtin "__main__.__loader__#opaque")⟩, ⟨PyData.keyHash P ⟨#[95,95,115,112,101,99,95,95]⟩, .str ⟨#[95,95,115,112,101,99,95,95]⟩ 169, .none⟩, ⟨PyData.keyHash P ⟨#[95,95,97,110,110,111,116,97,116,105,111,110,115,95,95]⟩, .str ⟨#[95,95,97,110,110,111,116,97,116,105,111,110,115,95,95]⟩ 170, (.ref 6)⟩, ⟨PyData.keyHash P ⟨#[95,95,98,117,105,108,116,105,110,115,95,95]⟩, .str ⟨#[95,95,98,117,105,108,116,105,110,115,95,95]⟩ 171, (.ref 4)⟩, ⟨PyData.keyHash P ⟨#[95,95,102,105,108,101,95,95]⟩, .str ⟨#[95,95,102,105,108,101,95,95]⟩ 173, (.str ⟨#[47,99,108,97,105,109,47,99,117,116,46,112,121]⟩ 172)⟩, ⟨PyData.keyHash P ⟨#[95,95,99,97,99,104,101,100,95,95]⟩, .str ⟨#[95,95,99,97,99,104,101,100,95,95]⟩ 174, .none⟩, ⟨PyData.keyHash P ⟨#[95,119,97,108,108]⟩, .str ⟨#[95,119,97,108,108]⟩ 193, (.ref 21)⟩, ⟨PyData.keyHash P ⟨#[67,79,77,80,73,76,69,82,95,70,76,65,71,95,78,65,77,69,83]⟩, .str ⟨#[67,79,77,80,73,76,69,82,95,70,76,65,71,95,78,65,77,69,83]⟩ 226, (.ref 22)⟩, ⟨PyData.keyHash P ⟨#[112,114,101,116,116,121,95,102,108,97,103,115]⟩, .str ⟨#[112,114,101,116,116,121,95,102,108,97,103,115]⟩ 236, (.ref 29)⟩, ⟨PyData.keyHash P ⟨#[95,112,97,114,115,101,95,118,97,114,105,110,116]⟩, .str ⟨#[95,112,97,114,115,101,95,118,97,114,105,110,116]⟩ 245, (.ref 36)⟩, ⟨PyData.keyHash P ⟨#[97,100,100]⟩, .str ⟨#[97,100,100]⟩ 255, (.ref 43)⟩, ⟨PyData.keyHash P ⟨#[102,108,111,111,114,100,105,118]⟩, .str ⟨#[102,108,111,111,114,100,105,118]⟩ 263, (.ref 50)⟩, ⟨PyData.keyHash P ⟨#[108,115,104,105,102,116]⟩, .str ⟨#[108,115,104,105,102,116]⟩ 271, (.ref 57)⟩, ⟨PyData.keyHash P ⟨#[109,117,108]⟩, .str ⟨#[109,117,108]⟩ 279, (.ref 64)⟩, ⟨PyData.keyHash P ⟨#[110,101,103]⟩, .str ⟨#[110,101,103]⟩ 286, (.ref 71)⟩, ⟨PyData.keyHash P ⟨#[111,114,95]⟩, .str ⟨#[111,114,95]⟩ 294, (.ref 78)⟩, ⟨PyData.keyHash P ⟨#[115,117,98]⟩, .str ⟨#[115,117,98]⟩ 302, (.ref 85)⟩, ⟨PyData.keyHash P ⟨#[120,111,114]⟩, .str ⟨#[120,111,114]⟩ 310, (.ref 92)⟩, ⟨PyData.keyHash P ⟨#[103,101,116,105,116,101,109]⟩, .str ⟨#[103,101,116,105,116,101,109]⟩ 318, (.ref 99)⟩, ⟨PyData.keyHash P ⟨#[105,110,100,101,120,79,102]⟩, .str ⟨#[105,110,100,101,120,79,102]⟩ 328, (.ref 106)⟩, ⟨PyData.keyHash P ⟨#[98,49,95,115,101,116]⟩, .str ⟨#[98,49,95,115,101,116]⟩ 390, (.ref 114)⟩, ⟨PyData.keyHash P ⟨#[105,110,95,116,97,98,108,101,95,98,49]⟩, .str ⟨#[105,110,95,116,97,98,108,101,95,98,49]⟩ 397, (.ref 124)⟩, ⟨PyData.keyHash P ⟨#[98,51,95,101,120,99,101,112,116,105,111,110,115]⟩, .str ⟨#[98,51,95,101,120,99,101,112,116,105,111,110,115]⟩ 2348, (.ref 125)⟩, ⟨PyData.keyHash P ⟨#[109,97,112,95,116,97,98,108,101,95,98,51]⟩, .str ⟨#[109,97,112,95,116,97,98,108,101,95,98,51]⟩ 2356, (.ref 170)⟩] 27), #[]⟩
noncomputable def ob_12_20 (P : Params) : Obj := ⟨.none, none, (.fields #[(.int 1 0), (.int 0 0), (.ref 20), (.int 6 0), (.int 0 0), (.ref 28), (.int 18 0), (.int 0 0), (.ref 35), (.int 27 0), (.int 0 0), (.ref 42), (.int 29 0), (.int 0 0), (.ref 49), (.int 31 0), (.int 0 0), (.ref 56), (.int 33 0), (.int 0 0), (.ref 63), (.int 35 0), (.int 0 0), (.ref 70), (.int 37 0), (.int 0 0), (.ref 77), (.int 39 0), (.int 0 0), (.ref 84), (.int 41 0), (.int 0 0), (.ref 91), (.int 43 0), (.int 0 0), (.ref 98), (.int 45 0), (.int 0 0), (.ref 105), (.int 53 0), (.int 0 0), (.ref 123), (.int 56 0), (.int 0 0), (.ref 169)]), #[]⟩
noncomputable def ob_164 (P : Params) : Obj := ⟨(.type "tuple"), none, (.seq #[] 0), #[]⟩
noncomputable def ob_165 (P : Params) : Obj := ⟨.none, none, (.fields #[]), #[]⟩
noncomputable def ob_166 (P : Params) : Obj := ⟨(.type "tuple"), none, (.seq #[(.str ⟨#[99,111,100,101]⟩ 2352), (.str ⟨#[114]⟩ 2353)] 0), #[]⟩
noncomputable def ob_167 (P : Params) : Obj := ⟨(.type "tuple"), none, (.seq #[] 0), #[]⟩
noncomputable def ob_168 (P : Params) : Obj := ⟨.none, none, (.func { name := ⟨#[109,97,112,95,116,97,98,108,101,95,98,51]⟩, qualname := ⟨#[109,97,112,95,116,97,98,108,101,95,98,51]⟩, params := (FA 20), body := .stmts (FB 20), scope := (FS 20), globals := 0, closure := [], defaults := .none, kwdefaults := .none, doc := .none, pyModule := .none, annotations := none, code := .none, closureTuple := .none, builtins := 0 }), #[]⟩
noncomputable def ob_169 (P : Params) : Obj := ⟨(.type "code"), none, (.fields #[(.str ⟨#[109,97,112,95,116,97,98,108,101,95,98,51]⟩ 2349), (.str ⟨#[109,97,112,95,116,97,98,108,101,95,98,51]⟩ 2350), (.str ⟨#[47,99,108,97,105,109,47,99,117,116,46,112,121]⟩ 2351), (.int 56 0), (.int 1 0), (.int 0 0), (.int 0 0), (.int 3 0), (.ref 164), (.bool true), (.int 181 0), (.ref 165), .none, (.ref 166), (.ref 167), (.ref 168), (.int 2354 0), (.int 56 0), (.str ⟨#[47,99,108,97,105,109,47,99,117,116,46,112,121]⟩ 2355)]), #[]⟩
noncomputable def ob_170 (P : Params) : Obj := ⟨(.type "function"), none, (.func { name := ⟨#[109,97,112,95,116,97,98,108,101,95,98,51]⟩, qualname := ⟨#[109,97,112,95,116,97,98,108,101,95,98,51]⟩, params := (FA 20), body := .stmts (FB 20), scope := (FS 20), globals := 3, closure := [], defaults := .none, kwdefaults := .none, doc := .none, pyModule := (.str ⟨#[99,112,121,51,49,51,46,115,116,114,105,110,103,112,114,101,112]⟩ 329), annotations := none, code := (.ref 169), closureTuple := .none, builtins := 0 }), #[]⟩
noncomputable def hl_20 (P : Params) (x : Nat → Obj) : List Obj := [boot_o_0 P, boot_o_1 P, boot_o_2 P, ob_3_20 P, boot_o_4 P, boot_o_5 P, boot_o_6 P, boot_o_7 P, boot_o_8 P, boot_o_9 P, boot_o_10 P, ob_11 P, ob_12_20 P, ob_13 P, ob_14 P, ob_15 P, ob_16 P, ob_17 P, ob_18 P, ob_19 P, ob_20 P, ob_21 P, ob_22 P, ob_23 P, ob_24 P, ob_25 P, ob_26 P, ob_27 P, ob_28 P, ob_29 P, ob_30 P, ob_31 P, ob_32 P, ob_33 P, ob_34 P, ob_35 P, ob_36 P, ob_37 P, ob_38 P, ob_39 P, ob_40 P, ob_41 P, ob_42 P, ob_43 P, ob_44 P, ob_45 P, ob_46 P, ob_47 P, ob_48 P, ob_49 P, ob_50 P, ob_51 P, ob_52 P, ob_53 P, ob_54 P, ob_55 P, ob_56 P, ob_57 P, ob_58 P, ob_59 P, ob_60 P, ob_61 P, ob_62 P, ob_63 P, ob_64 P, ob_65 P, ob_66 P, ob_67 P, ob_68 P, ob_69 P, ob_70 P, ob_71 P, ob_72 P, ob_73 P, ob_74 P, ob_75 P, ob_76 P, ob_77 P, ob_78 P, ob_79 P, ob_80 P, ob_81 P, ob_82 P, ob_83 P, ob_84 P, ob_85 P, ob_86 P, ob_87 P, ob_88 P, ob_89 P, ob_90 P, ob_91 P, ob_92 P, ob_93 P, ob_94 P, ob_95 P, ob_96 P, ob_97 P, ob_98 P, ob_99 P, ob_100 P, ob_101 P, ob_102 P, ob_103 P, ob_104 P, ob_105 P, ob_106 P, ob_107 P, ob_108 P, ob_109 P, ob_110 P, ob_111 P, ob_112 P, ob_113 P, ob_114 P, ob_115 P, ob_116 P, ob_117 P, ob_118 P, ob_119 P, ob_120 P, ob_121 P, ob_122 P, ob_123 P, ob_124 P, x 0, x 1, x 2, x 3, x 4, x 5, x 6, x 7, x 8, x 9, x 10, x 11, x 12, x 13, x 14, x 15, x 16, x 17, x 18, x 19, x 20, x 21, x 22, x 23, x 24, x 25, x 26, x 27, x 28, x 29, x 30, x 31, x 32, x 33, x 34, x 35, x 36, x 37, x 38, ob_164 P, ob_165 P, ob_166 P, ob_167 P, ob_168 P, ob_169 P, ob_170 P]
noncomputable def ob_3_21 (P : Params) : Obj := ⟨(.type "dict"), none, (.dict #[⟨PyData.keyHash P ⟨#[95,95,110,97,109,101,95,95]⟩, .str ⟨#[95,95,110,97,109,101,95,95]⟩ 165, (.str ⟨#[99,112,121,51,49,51,46,116,97,98,110,97,110,110,121]⟩ 2357)⟩, ⟨PyData.keyHash P ⟨#[95,95,100,111,99,95,95]⟩, .str ⟨#[95,95,100,111,99,95,95]⟩ 166, .none⟩, ⟨PyData.keyHash P ⟨#[95,95,112,97,99,107,97,103,101,95,95]⟩, .str ⟨#[95,95,112,97,99,107,97,103,101,95,95]⟩ 167, .none⟩, ⟨PyData.keyHash P ⟨#[95,95,108,111,97,100,101,114,95,95]⟩, .str ⟨#[95,95,108,111,97,100,101,114,95,95]⟩ 168, (.builtin "__main__.__loader__#opaque")⟩, ⟨PyData.keyHash P ⟨#[95,95,115,112,101,99,95,95]⟩, .str ⟨#[95,95,115,112,101,99,95,95]⟩ 169, .none⟩, ⟨PyData.keyHash P ⟨#[95,95,97,110,110,111,116,97,116,105,111,110,115,95,95]⟩, .str ⟨#[95,95,97,110,110,111,116,97,116,105,111,110,115,95,95]⟩ 170, (.ref 6)⟩, ⟨PyData.keyHash P ⟨#[95,95,98,117,105,108,116,105,110,115,95,95]⟩, .str ⟨#[95,95,98,117,105,108,116,105,110,115,95,95]⟩ 171, (.ref 4)⟩, ⟨PyData.keyHash P ⟨#[95,95,102,105,108,101,95,95]⟩, .str ⟨#[95,95,102,105,108,101,95,95]⟩ 173, (.str ⟨#[47,99,108,97,105,109,47,99,117,116,46,112,121]⟩ 172)⟩, ⟨PyData.keyHash P ⟨#[95,95,99,97,99,104,101,100,95,95]⟩, .str ⟨#[95,95,99,97,99,104,101,100,95,95]⟩ 174, .none⟩, ⟨PyData.keyHash P ⟨#[95,119,97,108,108]⟩, .str ⟨#[95,119,97,108,108]⟩ 193, (.ref 21)⟩, ⟨PyData.keyHash P ⟨#[67,79,77,80,73,76,69,82,95,70,76,65,71,95,78,65,77,69,83]⟩, .str ⟨#[67,79,77,80,73,76,69,82,95,70,76,65,71,95,78,65,77,69,83]⟩ 226, (.ref 22)⟩, ⟨PyData.keyHash P ⟨#[112,114,101,116,116,121,95,102,108,97,103,115]⟩, .str ⟨#[112,114,101,116,116,121,95,102,108,97,103,115]⟩ 236, (.ref 29)⟩, ⟨PyData.keyHash P ⟨#[95,112,97,114,115,101,95,118,97,114,105,110,116]⟩, .str ⟨#[95,112,97,114,115,101,95,118,97,114,105,110,116]⟩ 245, (.ref 36)⟩, ⟨PyData.keyHash P ⟨#[97,100,100]⟩, .str ⟨#[97,100,100]⟩ 255, (.ref 43)⟩, ⟨PyData.keyHash P ⟨#[102,108,111,111,114,100,105,118]⟩, .str ⟨#[102,108,111,111,114,100,105,118]⟩ 263, (.ref 50)⟩, ⟨PyData.keyHash P ⟨#[108,115,104,105,102,116]⟩, .str ⟨#[108,115,104,105,102,116]⟩ 271, (.ref 57)⟩, ⟨PyData.keyHash P ⟨#[109,117,108]⟩, .str ⟨#[109,117,108]⟩ 279, (.ref 64)⟩, ⟨PyData.keyHash P ⟨#[110,101,103]⟩, .str ⟨#[110,101,103]⟩ 286, (.ref 71)⟩, ⟨PyData.keyHash P ⟨#[111,114,95]⟩, .str ⟨#[111,114,95]⟩ 294, (.ref 78)⟩, ⟨PyData.keyHash P ⟨#[115,117,98]⟩, .str ⟨#[115,117,98]⟩ 302, (.ref 85)⟩, ⟨PyData.keyHash P ⟨#[120,111,114]⟩, .str ⟨#[120,111,114]⟩ 310, (.ref 92)⟩, ⟨PyData.keyHash P ⟨#[103,101,116,105,116,101,109]⟩, .str ⟨#[103,101,116,105,116,101,109]⟩ 318, (.ref 99)⟩, ⟨PyData.keyHash P ⟨#[105,110,100,101,120,79,102]⟩, .str ⟨#[105,110,100,101,120,79,102]⟩ 328, (.ref 106)⟩, ⟨PyData.keyHash P ⟨#[98,49,95,115,101,116]⟩, .str ⟨#[98,49,95,115,101,116]⟩ 390, (.ref 114)⟩, ⟨PyData.keyHash P ⟨#[105,110,95,116,97,98,108,101,95,98,49]⟩, .str ⟨#[105,110,95,116,97,98,108,101,95,98,49]⟩ 397, (.ref 124)⟩, ⟨PyData.keyHash P ⟨#[98,51,95,101,120,99,101,112,116,105,111,110,115]⟩, .str ⟨#[98,51,95,101,120,99,101,112,116,105,111,110,115]⟩ 2348, (.ref 125)⟩, ⟨PyData.keyHash P ⟨#[109,97,112,95,116,97,98,108,101,95,98,51]⟩, .str ⟨#[109,97,112,95,116,97,98,108,101,95,98,51]⟩ 2356, (.ref 170)⟩] 27), #[]⟩
noncomputable def hl_21 (P : Params) (x : Nat → Obj) : List Obj := [boot_o_0 P, boot_o_1 P, boot_o_2 P, ob_3_21 P, boot_o_4 P, boot_o_5 P, boot_o_6 P, boot_o_7 P, boot_o_8 P, boot_o_9 P, boot_o_10 P, ob_11 P, ob_12_20 P, ob_13 P, ob_14 P, ob_15 P, ob_16 P, ob_17 P, ob_18 P, ob_19 P, ob_20 P, ob_21 P, ob_22 P, ob_23 P, ob_24 P, ob_25 P, ob_26 P, ob_27 P, ob_28 P, ob_29 P, ob_30 P, ob_31 P, ob_32 P, ob_33 P, ob_34 P, ob_35 P, ob_36 P, ob_37 P, ob_38 P, ob_39 P, ob_40 P, ob_41 P, ob_42 P, ob_43 P, ob_44 P, ob_45 P, ob_46 P, ob_47 P, ob_48 P, ob_49 P, ob_50 P, ob_51 P, ob_52 P, ob_53 P, ob_54 P, ob_55 P, ob_56 P, ob_57 P, ob_58 P, ob_59 P, ob_60 P, ob_61 P, ob_62 P, ob_63 P, ob_64 P, ob_65 P, ob_66 P, ob_67 P, ob_68 P, ob_69 P, ob_70 P, ob_71 P, ob_72 P, ob_73 P, ob_74 P, ob_75 P, ob_76 P, ob_77 P, ob_78 P, ob_79 P, ob_80 P, ob_81 P, ob_82 P, ob_83 P, ob_84 P, ob_85 P, ob_86 P, ob_87 P, ob_88 P, ob_89 P, ob_90 P, ob_91 P, ob_92 P, ob_93 P, ob_94 P, ob_95 P, ob_96 P, ob_97 P, ob_98 P, ob_99 P, ob_100 P, ob_101 P, ob_102 P, ob_103 P, ob_104 P, ob_105 P, ob_106 P, ob_107 P, ob_108 P, ob_109 P, ob_110 P, ob_111 P, ob_112 P, ob_113 P, ob_114 P, ob_115 P, ob_116 P, ob_117 P, ob_118 P, ob_119 P, ob_120 P, ob_121 P, ob_122 P, ob_123 P, ob_124 P, x 0, x 1, x 2, x 3, x 4, x 5, x 6, x 7, x 8, x 9, x 10, x 11, x 12, x 13, x 14, x 15, x 16, x 17, x 18, x 19, x 20, x 21, x 22, x 23, x 24, x 25, x 26, x 27, x 28, x 29, x 30, x 31, x 32, x 33, x 34, x 35, x 36, x 37, x 38, ob_164 P, ob_165 P, ob_166 P, ob_167 P, ob_168 P, ob_169 P, ob_170 P]
noncomputable def ob_3_22 (P : Params) : Obj := ⟨(.type "dict"), none, (.dict #[⟨PyData.keyHash P ⟨#[95,95,110,97,109,101,95,95]⟩, .str ⟨#[95,95,110,97,109,101,95,95]⟩ 165, (.str ⟨#[99,112,121,51,49,51,46,116,97,98,110,97,110,110,121]⟩ 2357)⟩, ⟨PyData.keyHash P ⟨#[95,95,100,111,99,95,95]⟩, .str ⟨#[95,95,100,111,99,95,95]⟩ 166, .none⟩, ⟨PyData.keyHash P ⟨#[95,95,112,97,99,107,97,103,101,95,95]⟩, .str ⟨#[95,95,112,97,99,107,97,103,101,95,95]⟩ 167, .none⟩, ⟨PyData.keyHash P ⟨#[95,95,108,111,97,100,101,114,95,95]⟩, .str ⟨#[95,95,108,111,97,100,101,114,95,95]⟩ 168, (.builtin "__main__.__loader__#opaque")⟩, ⟨PyData.keyHash P ⟨#[95,95,115,112,101,99,95,95]⟩, .str ⟨#[95,95,115,112,101,99,95,95]⟩ 169, .none⟩, ⟨PyData.keyHash P ⟨#[95,95,97,110,110,111,116,97,116,105,111,110,115,95,95]⟩, .str ⟨#[95,95,97,110,110,111,116,97,116,105,111,110,115,95,95]⟩ 170, (.ref 6)⟩, ⟨PyData.keyHash P ⟨#[95,95,98,117,105,108,116,105,110,115,95,95]⟩, .str ⟨#[95,95,98,117,105,108,116,105,110,115,95,95]⟩ 171, (.ref 4)⟩, ⟨PyData.keyHash P ⟨#[95,95,102,105,108,101,95,95]⟩, .str ⟨#[95,95,102,105,108,101,95,95]⟩ 173, (.str ⟨#[47,99,108,97,105,109,47,99,117,116,46,112,121]⟩ 172)⟩, ⟨PyData.keyHash P ⟨#[95,95,99,97,99,104,101,100,95,95]⟩, .str ⟨#[95,95,99,97,99,104,101,100,95,95]⟩ 174, .none⟩, ⟨PyData.keyHash P ⟨#[95,119,97,108,108]⟩, .str ⟨#[95,119,97,108,108]⟩ 193, (.ref 21)⟩, ⟨PyData.keyHash P ⟨#[67,79,77,80,73,76,69,82,95,70,76,65,71,95,78,65,77,69,83]⟩, .str ⟨#[67,79,77,80,73,76,69,82,95,70,76,65,71,95,78,65,77,69,83]⟩ 226, (.ref 22)⟩, ⟨PyData.keyHash P ⟨#[112,114,101,116,116,121,95,102,108,97,103,115]⟩, .str ⟨#[112,114,101,116,116,121,95,102,108,97,103,115]⟩ 236, (.ref 29)⟩, ⟨PyData.keyHash P ⟨#[95,112,97,114,115,101,95,118,97,114,105,110,116]⟩, .str ⟨#[95,112,97,114,115,101,95,118,97,114,105,110,116]⟩ 245, (.ref 36)⟩, ⟨PyData.keyHash P ⟨#[97,100,100]⟩, .str ⟨#[97,100,100]⟩ 255, (.ref 43)⟩, ⟨PyData.keyHash P ⟨#[102,108,111,111,114,100,105,118]⟩, .str ⟨#[102,108,111,111,114,100,105,118]⟩ 263, (.ref 50)⟩, ⟨PyData.keyHash P ⟨#[108,115,104,105,102,116]⟩, .str ⟨#[108,115,104,105,102,116]⟩ 271, (.ref 57)⟩, ⟨PyData.keyHash P ⟨#[109,117,108]⟩, .str ⟨#[109,117,108]⟩ 279, (.ref 64)⟩, ⟨PyData.keyHash P ⟨#[110,101,103]⟩, .str ⟨#[110,101,103]⟩ 286, (.ref 71)⟩, ⟨PyData.keyHash P ⟨#[111,114,95]⟩, .str ⟨#[111,114,95]⟩ 294, (.ref 78)⟩, ⟨PyData.keyHash P ⟨#[115,117,98]⟩, .str ⟨#[115,117,98]⟩ 302, (.ref 85)⟩, ⟨PyData.keyHash P ⟨#[120,111,114]⟩, .str ⟨#[120,111,114]⟩ 310, (.ref 92)⟩, ⟨PyData.keyHash P ⟨#[103,101,116,105,116,101,109]⟩, .str ⟨#[103,101,116,105,116,101,109]⟩ 318, (.ref 99)⟩, ⟨PyData.keyHash P ⟨#[105,110,100,101,120,79,102]⟩, .str ⟨#[105,110,100,101,120,79,102]⟩ 328, (.ref 106)⟩, ⟨PyData.keyHash P ⟨#[98,49,95,115,101,116]⟩, .str ⟨#[98,49,95,115,101,116]⟩ 390, (.ref 114)⟩, ⟨PyData.keyHash P ⟨#[105,110,95,116,97,98,108,101,95,98,49]⟩, .str ⟨#[105,110,95,116,97,98,108,101,95,98,49]⟩ 397, (.ref 124)⟩, ⟨PyData.keyHash P ⟨#[98,51,95,101,120,99,101,112,116,105,111,110,115]⟩, .str ⟨#[98,51,95,101,120,99,101,112,116,105,111,110,115]⟩ 2348, (.ref 125)⟩, ⟨PyData.keyHash P ⟨#[109,97,112,95,116,97,98,108,101,95,98,51]⟩, .str ⟨#[109,97,112,95,116,97,98,108,101,95,98,51]⟩ 2356, (.ref 170)⟩, ⟨PyData.keyHash P ⟨#[87,104,105,116,101,115,112,97,99,101]⟩, .str ⟨#[87,104,105,116,101,115,112,97,99,101]⟩ 2458, (.ref 232)⟩] 28), #[]⟩
noncomputable def ob_12_22 (P : Params) : Obj := ⟨.none, none, (.fields #[(.int 1 0), (.int 0 0), (.ref 20), (.int 6 0), (.int 0 0), (.ref 28), (.int 18 0), (.int 0 0), (.ref 35), (.int 27 0), (.int 0 0), (.ref 42), (.int 29 0), (.int 0 0), (.ref 49), (.int 31 0), (.int 0 0), (.ref 56), (.int 33 0), (.int 0 0), (.ref 63), (.int 35 0), (.int 0 0), (.ref 70), (.int 37 0), (.int 0 0), (.ref 77), (.int 39 0), (.int 0 0), (.ref 84), (.int 41 0), (.int 0 0), (.ref 91), (.int 43 0), (.int 0 0), (.ref 98), (.int 45 0), (.int 0 0), (.ref 105), (.int 53 0), (.int 0 0), (.ref 123), (.int 56 0), (.int 0 0), (.ref 169), (.int 62 0), (.int 0 0), (.ref 176)]), #[]⟩
noncomputable def ob_171 (P : Params) : Obj := ⟨(.type "tuple"), none, (.seq #[] 0), #[]⟩
noncomputable def ob_172 (P : Params) : Obj := ⟨(.type "builtin_function_or_method"), none, (.fields #[(.builtin "type.__prepare__"), (.type "type")]), #[]⟩
noncomputable def ob_173 (P : Params) : Obj := ⟨(.type "dict"), none, (.dict #[⟨PyData.keyHash P ⟨#[95,95,109,111,100,117,108,101,95,95]⟩, .str ⟨#[95,95,109,111,100,117,108,101,95,95]⟩ 2366, (.str ⟨#[99,112,121,51,49,51,46,116,97,98,110,97,110,110,121]⟩ 2357)⟩, ⟨PyData.keyHash P ⟨#[95,95,113,117,97,108,110,97,109,101,95,95]⟩, .str ⟨#[95,95,113,117,97,108,110,97,109,101,95,95]⟩ 2368, (.str ⟨#[87,104,105,116,101,115,112,97,99,101]⟩ 2367)⟩, ⟨PyData.keyHash P ⟨#[95,95,102,105,114,115,116,108,105,110,101,110,111,95,95]⟩, .str ⟨#[95,95,102,105,114,115,116,108,105,110,101,110,111,95,95]⟩ 2370, (.int 62 2369)⟩, ⟨PyData.keyHash P ⟨#[83]⟩, .str ⟨#[83]⟩ 2374, (.str ⟨#[32]⟩ 2372)⟩, ⟨PyData.keyHash P ⟨#[84]⟩, .str ⟨#[84]⟩ 2375, (.str ⟨#[9]⟩ 2373)⟩, ⟨PyData.keyHash P ⟨#[95,95,105,110,105,116,95,95]⟩, .str ⟨#[95,95,105,110,105,116,95,95]⟩ 2390, (.ref 187)⟩, ⟨PyData.keyHash P ⟨#[108,111,110,103,101,115,116,95,114,117,110,95,111,102,95,115,112,97,99,101,115]⟩, .str ⟨#[108,111,110,103,101,115,116,95,114,117,110,95,111,102,95,115,112,97,99,101,115]⟩ 2399, (.ref 194)⟩, ⟨PyData.keyHash P ⟨#[105,110,100,101,110,116,95,108,101,118,101,108]⟩, .str ⟨#[105,110,100,101,110,116,95,108,101,118,101,108]⟩ 2411, (.ref 201)⟩, ⟨PyData.keyHash P ⟨#[101,113,117,97,108]⟩, .str ⟨#[101,113,117,97,108]⟩ 2419, (.ref 208)⟩, ⟨PyData.keyHash P ⟨#[110,111,116,95,101,113,117,97,108,95,119,105,116,110,101,115,115]⟩, .str ⟨#[110,111,116,95,101,113,117,97,108,95,119,105,116,110,101,115,115]⟩ 2427, (.ref 215)⟩, ⟨PyData.keyHash P ⟨#[108,101,115,115]⟩, .str ⟨#[108,101,115,115]⟩ 2437, (.ref 222)⟩, ⟨PyData.keyHash P ⟨#[110,111,116,95,108,101,115,115,95,119,105,116,110,101,115,115]⟩, .str ⟨#[110,111,116,95,108,101,115,115,95,119,105,116,110,101,115,115]⟩ 2445, (.ref 229)⟩, ⟨PyData.keyHash P ⟨#[95,95,115,116,97,116,105,99,95,97,116,116,114,105,98,117,116,101,115,95,95]⟩, .str ⟨#[95,95,115,116,97,116,105,99,95,97,116,116,114,105,98,117,116,101,115,95,95]⟩ 2451, (.ref 230)⟩] 13), #[]⟩
noncomputable def ob_174 (P : Params) : Obj := ⟨(.type "tuple"), none, (.seq #[] 0), #[]⟩
noncomputable def ob_175 (P : Params) : Obj := ⟨.none, none, (.fields #[(.int 65 0), (.int 4 0), (.ref 186), (.int 88 0), (.int 4 0), (.ref 193), (.int 92 0), (.int 4 0), (.ref 200), (.int 99 0), (.int 4 0), (.ref 207), (.int 102 0), (.int 4 0), (.ref 214), (.int 105 0), (.int 4 0), (.ref 221), (.int 116 0), (.int 4 0), (.ref 228)]), #[]⟩
noncomputable def ob_176 (P : Params) : Obj := ⟨(.type "code"), none, (.fields #[(.str ⟨#[87,104,105,116,101,115,112,97,99,101]⟩ 2361), (.str ⟨#[87,104,105,116,101,115,112,97,99,101]⟩ 2362), (.str ⟨#[47,99,108,97,105,109,47,99,117,116,46,112,121]⟩ 2363), (.int 62 0), (.int 0 0), (.int 0 0), (.int 0 0), (.int 0 0), (.ref 174), (.bool false), (.int 181 0), (.ref 175), .none, .none, .none, .none, (.int 2364 0), (.int 62 0), (.str ⟨#[47,99,108,97,105,109,47,99,117,116,46,112,121]⟩ 2365)]), #[]⟩
noncomputable def ob_177 (P : Params) : Obj := ⟨(.type "frame"), none, .plain, #[(some (.ref 176)), (some (.ref 3)), (some (.ref 173)), none, (some (.str ⟨#[99,112,121,51,49,51,46,116,97,98,110,97,110,110,121]⟩ 2357)), none, (some (.ref 0))]⟩
noncomputable def ob_178 (P : Params) : Obj := ⟨(.type "str_ascii_iterator"), none, (.fields #[.none, (.int 2 0)]), #[]⟩
noncomputable def ob_179 (P : Params) : Obj := ⟨(.type "tuple"), none, (.seq #[] 0), #[]⟩
noncomputable def ob_180 (P : Params) : Obj := ⟨(.type "StopIteration"), none, (.fields #[(.ref 179), .none, .none, .none, (.bool false), .none]), #[]⟩
noncomputable def ob_181 (P : Params) : Obj := ⟨(.type "tuple"), none, (.seq #[] 0), #[]⟩
noncomputable def ob_182 (P : Params) : Obj := ⟨.none, none, (.fields #[]), #[]⟩
noncomputable def ob_183 (P : Params) : Obj := ⟨(.type "tuple"), none, (.seq #[(.str ⟨#[115,101,108,102]⟩ 2379), (.str ⟨#[119,115]⟩ 2380), (.str ⟨#[83]⟩ 2381), (.str ⟨#[84]⟩ 2382), (.str ⟨#[99,111,117,110,116]⟩ 2383), (.str ⟨#[98]⟩ 2384), (.str ⟨#[110]⟩ 2385), (.str ⟨#[110,116]⟩ 2386), (.str ⟨#[99,104]⟩ 2387)] 0), #[]⟩
noncomputable def ob_184 (P : Params) : Obj := ⟨(.type "tuple"), none, (.seq #[] 0), #[]⟩
noncomputable def ob_185 (P : Params) : Obj := ⟨.none, none, (.func { name := ⟨#[95,95,105,110,105,116,95,95]⟩, qualname := ⟨#[87,104,105,116,101,115,112,97,99,101,46,95,95,105,110,105,116,95,95]⟩, params := (MA 1), body := .stmts (MB 1), scope := (MS 1), globals := 0, closure := [], defaults := .none, kwdefaults := .none, doc := .none, pyModule := .none, annotations := none, code := .none, closureTuple := .none, builtins := 0 }), #[]⟩
noncomputable def ob_186 (P : Params) : Obj := ⟨(.type "code"), none, (.fields #[(.str ⟨#[95,95,105,110,105,116,95,95]⟩ 2376), (.str ⟨#[87,104,105,116,101,115,112,97,99,101,46,95,95,105,110,105,116,95,95]⟩ 2377), (.str ⟨#[47,99,108,97,105,109,47,99,117,116,46,112,121]⟩ 2378), (.int 65 0), (.int 2 0), (.int 0 0), (.int 0 0), (.int 3 0), (.ref 181), (.bool true), (.int 181 0), (.ref 182), .none, (.ref 183), (.ref 184), (.ref 185), (.int 2388 0), (.int 65 0), (.str ⟨#[47,99,108,97,105,109,47,99,117,116,46,112,121]⟩ 2389)]), #[]⟩
noncomputable def ob_187 (P : Params) : Obj := ⟨(.type "function"), none, (.func { name := ⟨#[95,95,105,110,105,116,95,95]⟩, qualname := ⟨#[87,104,105,116,101,115,112,97,99,101,46,95,95,105,110,105,116,95,95]⟩, params := (MA 1), body := .stmts (MB 1), scope := (MS 1), globals := 3, closure := [], defaults := .none, kwdefaults := .none, doc := .none, pyModule := (.str ⟨#[99,112,121,51,49,51,46,116,97,98,110,97,110,110,121]⟩ 2357), annotations := none, code := (.ref 186), closureTuple := .none, builtins := 0 }), #[]⟩
noncomputable def ob_188 (P : Params) : Obj := ⟨(.type "tuple"), none, (.seq #[] 0), #[]⟩
noncomputable def ob_189 (P : Params) : Obj := ⟨.none, none, (.fields #[]), #[]⟩
noncomputable def ob_190 (P : Params) : Obj := ⟨(.type "tuple"), none, (.seq #[(.str ⟨#[115,101,108,102]⟩ 2394), (.str ⟨#[99,111,117,110,116]⟩ 2395), (.str ⟨#[116,114,97,105,108,105,110,103]⟩ 2396)] 0), #[]⟩
noncomputable def ob_191 (P : Params) : Obj := ⟨(.type "tuple"), none, (.seq #[] 0), #[]⟩
noncomputable def ob_192 (P : Params) : Obj := ⟨.none, none, (.func { name := ⟨#[108,111,110,103,101,115,116,95,114,117,110,95,111,102,95,115,112,97,99,101,115]⟩, qualname := ⟨#[87,104,105,116,101,115,112,97,99,101,46,108,111,110,103,101,115,116,95,114,117,110,95,111,102,95,115,112,97,99,101,115]⟩, params := (MA 2), body := .stmts (MB 2), scope := (MS 2), globals := 0, closure := [], defaults := .none, kwdefaults := .none, doc := .none, pyModule := .none, annotations := none, code := .none, closureTuple := .none, builtins := 0 }), #[]⟩
noncomputable def ob_193 (P : Params) : Obj := ⟨(.type "code"), none, (.fields #[(.str ⟨#[108,111,110,103,101,115,116,95,114,117,110,95,111,102,95,115,112,97,99,101,115]⟩ 2391), (.str ⟨#[87,104,105,116,101,115,112,97,99,101,46,108,111,110,103,101,115,116,95,114,117,110,95,111,102,95,115,112,97,99,101,115]⟩ 2392), (.str ⟨#[47,99,108,97,105,109,47,99,117,116,46,112,121]⟩ 2393), (.int 88 0), (.int 1 0), (.int 0 0), (.int 0 0), (.int 3 0), (.ref 188), (.bool true), (.int 181 0), (.ref 189), .none, (.ref 190), (.ref 191), (.ref 192), (.int 2397 0), (.int 88 0), (.str ⟨#[47,99,108,97,105,109,47,99,117,116,46,112,121]⟩ 2398)]), #[]⟩
noncomputable def ob_194 (P : Params) : Obj := ⟨(.type "function"), none, (.func { name := ⟨#[108,111,110,103,101,115,116,95,114,117,110,95,111,102,95,115,112,97,99,101,115]⟩, qualname := ⟨#[87,104,105,116,101,115,112,97,99,101,46,108,111,110,103,101,115,116,95,114,117,110,95,111,102,95,115,112,97,99,101,115]⟩, params := (MA 2), body := .stmts (MB 2), scope := (MS 2), globals := 3, closure := [], defaults := .none, kwdefaults := .none, doc := .none, pyModule := (.str ⟨#[99,112,121,51,49,51,46,116,97,98,110,97,110,110,121]⟩ 2357), annotations := none, code := (.ref 193), closureTuple := .none, builtins := 0 }), #[]⟩
noncomputable def ob_195 (P : Params) : Obj := ⟨(.type "tuple"), none, (.seq #[] 0), #[]⟩
noncomputable def ob_196 (P : Params) : Obj := ⟨.none, none, (.fields #[]), #[]⟩
noncomputable def ob_197 (P : Params) : Obj := ⟨(.type "tuple"), none, (.seq #[(.str ⟨#[115,101,108,102]⟩ 2403), (.str ⟨#[116,97,98,115,105,122,101]⟩ 2404), (.str ⟨#[99,111,117,110,116]⟩ 2405), (.str ⟨#[116,114,97,105,108,105,110,103]⟩ 2406), (.str ⟨#[105,108]⟩ 2407), (.str ⟨#[105]⟩ 2408)] 0), #[]⟩
noncomputable def ob_198 (P : Params) : Obj := ⟨(.type "tuple"), none, (.seq #[] 0), #[]⟩
noncomputable def ob_199 (P : Params) : Obj := ⟨.none, none, (.func { name := ⟨#[105,110,100,101,110,116,95,108,101,118,101,108]⟩, qualname := ⟨#[87,104,105,116,101,115,112,97,99,101,46,105,110,100,101,110,116,95,108,101,118,101,108]⟩, params := (MA 3), body := .stmts (MB 3), scope := (MS 3), globals := 0, closure := [], defaults := .none, kwdefaults := .none, doc := .none, pyModule := .none, annotations := none, code := .none, closureTuple := .none, builtins := 0 }), #[]⟩
noncomputable def ob_200 (P : Params) : Obj := ⟨(.type "code"), none, (.fields #[(.str ⟨#[105,110,100,101,110,116,95,108,101,118,101,108]⟩ 2400), (.str ⟨#[87,104,105,116,101,115,112,97,99,101,46,105,110,100,101,110,116,95,108,101,118,101,108]⟩ 2401), (.str ⟨#[47,99,108,97,105,109,47,99,117,116,46,112,121]⟩ 2402), (.int 92 0), (.int 2 0), (.int 0 0), (.int 0 0), (.int 3 0), (.ref 195), (.bool true), (.int 181 0), (.ref 196), .none, (.ref 197), (.ref 198), (.ref 199), (.int 2409 0), (.int 92 0), (.str ⟨#[47,99,108,97,105,109,47,99,117,116,46,112,121]⟩ 2410)]), #[]⟩
noncomputable def ob_201 (P : Params) : Obj := ⟨(.type "function"), none, (.func { name := ⟨#[105,110,100,101,110,116,95,108,101,118,101,108]⟩, qualname := ⟨#[87,104,105,116,101,115,112,97,99,101,46,105,110,100,101,110,116,95,108,101,118,101,108]⟩, params := (MA 3), body := .stmts (MB 3), scope := (MS 3), globals := 3, closure := [], defaults := .none, kwdefaults := .none, doc := .none, pyModule := (.str ⟨#[99,112,121,51,49,51,46,116,97,98,110,97,110,110,121]⟩ 2357), annotations := none, code := (.ref 200), closureTuple := .none, builtins := 0 }), #[]⟩
noncomputable def ob_202 (P : Params) : Obj := ⟨(.type "tuple"), none, (.seq #[] 0), #[]⟩
noncomputable def ob_203 (P : Params) : Obj := ⟨.none, none, (.fields #[]), #[]⟩
noncomputable def ob_204 (P : Params) : Obj := ⟨(.type "tuple"), none, (.seq #[(.str ⟨#[115,101,108,102]⟩ 2415), (.str ⟨#[111,116,104,101,114]⟩ 2416)] 0), #[]⟩
noncomputable def ob_205 (P : Params) : Obj := ⟨(.type "tuple"), none, (.seq #[] 0), #[]⟩
noncomputable def ob_206 (P : Params) : Obj := ⟨.none, none, (.func { name := ⟨#[101,113,117,97,108]⟩, qualname := ⟨#[87,104,105,116,101,115,112,97,99,101,46,101,113,117,97,108]⟩, params := (MA 4), body := .stmts (MB 4), scope := (MS 4), globals := 0, closure := [], defaults := .none, kwdefaults := .none, doc := .none, pyModule := .none, annotations := none, code := .none, closureTuple := .none, builtins := 0 }), #[]⟩
noncomputable def ob_207 (P : Params) : Obj := ⟨(.type "code"), none, (.fields #[(.str ⟨#[101,113,117,97,108]⟩ 2412), (.str ⟨#[87,104,105,116,101,115,112,97,99,101,46,101,113,117,97,108]⟩ 2413), (.str ⟨#[47,99,108,97,105,109,47,99,117,116,46,112,121]⟩ 2414), (.int 99 0), (.int 2 0), (.int 0 0), (.int 0 0), (.int 3 0), (.ref 202), (.bool true), (.int 181 0), (.ref 203), .none, (.ref 204), (.ref 205), (.ref 206), (.int 2417 0), (.int 99 0), (.str ⟨#[47,99,108,97,105,109,47,99,117,116,46,112,121]⟩ 2418)]), #[]⟩
noncomputable def ob_208 (P : Params) : Obj := ⟨(.type "function"), none, (.func { name := ⟨#[101,113,117,97,108]⟩, qualname := ⟨#[87,104,105,116,101,115,112,97,99,101,46,101,113,117,97,108]⟩, params := (MA 4), body := .stmts (MB 4), scope := (MS 4), globals := 3, closure := [], defaults := .none, kwdefaults := .none, doc := .none, pyModule := (.str ⟨#[99,112,121,51,49,51,46,116,97,98,110,97,110,110,121]⟩ 2357), annotations := none, code := (.ref 207), closureTuple := .none, builtins := 0 }), #[]⟩
noncomputable def ob_209 (P : Params) : Obj := ⟨(.type "tuple"), none, (.seq #[] 0), #[]⟩
noncomputable def ob_210 (P : Params) : Obj := ⟨.none, none, (.fields #[]), #[]⟩
noncomputable def ob_211 (P : Params) : Obj := ⟨(.type "tuple"), none, (.seq #[(.str ⟨#[115,101,108,102]⟩ 2423), (.str ⟨#[111,116,104,101,114]⟩ 2424)] 0), #[]⟩
noncomputable def ob_212 (P : Params) : Obj := ⟨(.type "tuple"), none, (.seq #[] 0), #[]⟩
noncomputable def ob_213 (P : Params) : Obj := ⟨.none, none, (.func { name := ⟨#[110,111,116,95,101,113,117,97,108,95,119,105,116,110,101,115,115]⟩, qualname := ⟨#[87,104,105,116,101,115,112,97,99,101,46,110,111,116,95,101,113,117,97,108,95,119,105,116,110,101,115,115]⟩, params := (MA 5), body := .stmts (MB 5), scope := (MS 5), globals := 0, closure := [], defaults := .none, kwdefaults := .none, doc := .none, pyModule := .none, annotations := none, code := .none, closureTuple := .none, builtins := 0 }), #[]⟩
noncomputable def ob_214 (P : Params) : Obj := ⟨(.type "code"), none, (.fields #[(.str ⟨#[110,111,116,95,101,113,117,97,108,95,119,105,116,110,101,115,115]⟩ 2420), (.str ⟨#[87,104,105,116,101,115,112,97,99,101,46,110,111,116,95,101,113,117,97,108,95,119,105,116,110,101,115,115]⟩ 2421), (.str ⟨#[47,99,108,97,105,109,47,99,117,116,46,112,121]⟩ 2422), (.int 102 0), (.int 2 0), (.int 0 0), (.int 0 0), (.int 3 0), (.ref 209), (.bool true), (.int 181 0), (.ref 210), .none, (.ref 211), (.ref 212), (.ref 213), (.int 2425 0), (.int 102 0), (.str ⟨#[47,99,108,97,105,109,47,99,117,116,46,112,121]⟩ 2426)]), #[]⟩
noncomputable def ob_215 (P : Params) : Obj := ⟨(.type "function"), none, (.func { name := ⟨#[110,111,116,95,101,113,117,97,108,95,119,105,116,110,101,115,115]⟩, qualname := ⟨#[87,104,105,116,101,115,112,97,99,101,46,110,111,116,95,101,113,117,97,108,95,119,105,116,110,101,115,115]⟩, params := (MA 5), body := .stmts (MB 5), scope := (MS 5), globals := 3, closure := [], defaults := .none, kwdefaults := .none, doc := .none, pyModule := (.str ⟨#[99,112,121,51,49,51,46,116,97,98,110,97,110,110,121]⟩ 2357), annotations := none, code := (.ref 214), closureTuple := .none, builtins := 0 }), #[]⟩
noncomputable def ob_216 (P : Params) : Obj := ⟨(.type "tuple"), none, (.seq #[] 0), #[]⟩
noncomputable def ob_217 (P : Params) : Obj := ⟨.none, none, (.fields #[]), #[]⟩
noncomputable def ob_218 (P : Params) : Obj := ⟨(.type "tuple"), none, (.seq #[(.str ⟨#[115,101,108,102]⟩ 2431), (.str ⟨#[111,116,104,101,114]⟩ 2432), (.str ⟨#[110]⟩ 2433), (.str ⟨#[116,115]⟩ 2434)] 0), #[]⟩
noncomputable def ob_219 (P : Params) : Obj := ⟨(.type "tuple"), none, (.seq #[] 0), #[]⟩
noncomputable def ob_220 (P : Params) : Obj := ⟨.none, none, (.func { name := ⟨#[108,101,115,115]⟩, qualname := ⟨#[87,104,105,116,101,115,112,97,99,101,46,108,101,115,115]⟩, params := (MA 6), body := .stmts (MB 6), scope := (MS 6), globals := 0, closure := [], defaults := .none, kwdefaults := .none, doc := .none, pyModule := .none, annotations := none, code := .none, closureTuple := .none, builtins := 0 }), #[]⟩
noncomputable def ob_221 (P : Params) : Obj := ⟨(.type "code"), none, (.fields #[(.str ⟨#[108,101,115,115]⟩ 2428), (.str ⟨#[87,104,105,116,101,115,112,97,99,101,46,108,101,115,115]⟩ 2429), (.str ⟨#[47,99,108,97,105,109,47,99,117,116,46,112,121]⟩ 2430), (.int 105 0), (.int 2 0), (.int 0 0), (.int 0 0), (.int 3 0), (.ref 216), (.bool true), (.int 181 0), (.ref 217), .none, (.ref 218), (.ref 219), (.ref 220), (.int 2435 0), (.int 105 0), (.str ⟨#[47,99,108,97,105,109,47,99,117,116,46,112,121]⟩ 2436)]), #[]⟩
noncomputable def ob_222 (P : Params) : Obj := ⟨(.type "function"), none, (.func { name := ⟨#[108,101,115,115]⟩, qualname := ⟨#[87,104,105,116,101,115,112,97,99,101,46,108,101,115,115]⟩, params := (MA 6), body := .stmts (MB 6), scope := (MS 6), globals := 3, closure := [], defaults := .none, kwdefaults := .none, doc := .none, pyModule := (.str ⟨#[99,112,121,51,49,51,46,116,97,98,110,97,110,110,121]⟩ 2357), annotations := none, code := (.ref 221), closureTuple := .none, builtins := 0 }), #[]⟩
noncomputable def ob_223 (P : Params) : Obj := ⟨(.type "tuple"), none, (.seq #[] 0), #[]⟩
noncomputable def ob_224 (P : Params) : Obj := ⟨.none, none, (.fields #[]), #[]⟩
noncomputable def ob_225 (P : Params) : Obj := ⟨(.type "tuple"), none, (.seq #[(.str ⟨#[115,101,108,102]⟩ 2441), (.str ⟨#[111,116,104,101,114]⟩ 2442)] 0), #[]⟩
noncomputable def ob_226 (P : Params) : Obj := ⟨(.type "tuple"), none, (.seq #[] 0), #[]⟩
noncomputable def ob_227 (P : Params) : Obj := ⟨.none, none, (.func { name := ⟨#[110,111,116,95,108,101,115,115,95,119,105,116,110,101,115,115]⟩, qualname := ⟨#[87,104,105,116,101,115,112,97,99,101,46,110,111,116,95,108,101,115,115,95,119,105,116,110,101,115,115]⟩, params := (MA 7), body := .stmts (MB 7), scope := (MS 7), globals := 0, closure := [], defaults := .none, kwdefaults := .none, doc := .none, pyModule := .none, annotations := none, code := .none, closureTuple := .none, builtins := 0 }), #[]⟩
noncomputable def ob_228 (P : Params) : Obj := ⟨(.type "code"), none, (.fields #[(.str ⟨#[110,111,116,95,108,101,115,115,95,119,105,116,110,101,115,115]⟩ 2438), (.str ⟨#[87,104,105,116,101,115,112,97,99,101,46,110,111,116,95,108,101,115,115,95,119,105,116,110,101,115,115]⟩ 2439), (.str ⟨#[47,99,108,97,105,109,47,99,117,116,46,112,121]⟩ 2440), (.int 116 0), (.int 2 0), (.int 0 0), (.int 0 0), (.int 3 0), (.ref 223), (.bool true), (.int 181 0), (.ref 224), .none, (.ref 225), (.ref 226), (.ref 227), (.int 2443 0), (.int 116 0), (.str ⟨#[47,99,108,97,105,109,47,99,117,116,46,112,121]⟩ 2444)]), #[]⟩
noncomputable def ob_229 (P : Params) : Obj := ⟨(.type "function"), none, (.func { name := ⟨#[110,111,116,95,108,101,115,115,95,119,105,116,110,101,115,115]⟩, qualname := ⟨#[87,104,105,116,101,115,112,97,99,101,46,110,111,116,95,108,101,115,115,95,119,105,116,110,101,115,115]⟩, params := (MA 7), body := .stmts (MB 7), scope := (MS 7), globals := 3, closure := [], defaults := .none, kwdefaults := .none, doc := .none, pyModule := (.str ⟨#[99,112,121,51,49,51,46,116,97,98,110,97,110,110,121]⟩ 2357), annotations := none, code := (.ref 228), closureTuple := .none, builtins := 0 }), #[]⟩
noncomputable def ob_230 (P : Params) : Obj := ⟨(.type "tuple"), none, (.seq #[(.str ⟨#[105,115,95,115,105,109,112,108,101]⟩ 2446), (.str ⟨#[110]⟩ 2447), (.str ⟨#[110,111,114,109]⟩ 2448), (.str ⟨#[110,116]⟩ 2449), (.str ⟨#[114,97,119]⟩ 2450)] 0), #[]⟩
noncomputable def ob_231 (P : Params) : Obj := ⟨(.type "dict"), none, (.dict #[⟨PyData.keyHash P ⟨#[95,95,109,111,100,117,108,101,95,95]⟩, .str ⟨#[95,95,109,111,100,117,108,101,95,95]⟩ 2366, (.str ⟨#[99,112,121,51,49,51,46,116,97,98,110,97,110,110,121]⟩ 2357)⟩, ⟨PyData.keyHash P ⟨#[95,95,102,105,114,115,116,108,105,110,101,110,111,95,95]⟩, .str ⟨#[95,95,102,105,114,115,116,108,105,110,101,110,111,95,95]⟩ 2370, (.int 62 2369)⟩, ⟨PyData.keyHash P ⟨#[83]⟩, .str ⟨#[83]⟩ 2374, (.str ⟨#[32]⟩ 2372)⟩, ⟨PyData.keyHash P ⟨#[84]⟩, .str ⟨#[84]⟩ 2375, (.str ⟨#[9]⟩ 2373)⟩, ⟨PyData.keyHash P ⟨#[95,95,105,110,105,116,95,95]⟩, .str ⟨#[95,95,105,110,105,116,95,95]⟩ 2390, (.ref 187)⟩, ⟨PyData.keyHash P ⟨#[108,111,110,103,101,115,116,95,114,117,110,95,111,102,95,115,112,97,99,101,115]⟩, .str ⟨#[108,111,110,103,101,115,116,95,114,117,110,95,111,102,95,115,112,97,99,101,115]⟩ 2399, (.ref 194)⟩, ⟨PyData.keyHash P ⟨#[105,110,100,101,110,116,95,108,101,118,101,108]⟩, .str ⟨#[105,110,100,101,110,116,95,108,101,118,101,108]⟩ 2411, (.ref 201)⟩, ⟨PyData.keyHash P ⟨#[101,113,117,97,108]⟩, .str ⟨#[101,113,117,97,108]⟩ 2419, (.ref 208)⟩, ⟨PyData.keyHash P ⟨#[110,111,116,95,101,113,117,97,108,95,119,105,116,110,101,115,115]⟩, .str ⟨#[110,111,116,95,101,113,117,97,108,95,119,105,116,110,101,115,115]⟩ 2427, (.ref 215)⟩, ⟨PyData.keyHash P ⟨#[108,101,115,115]⟩, .str ⟨#[108,101,115,115]⟩ 2437, (.ref 222)⟩, ⟨PyData.keyHash P ⟨#[110,111,116,95,108,101,115,115,95,119,105,116,110,101,115,115]⟩, .str ⟨#[110,111,116,95,108,101,115,115,95,119,105,116,110,101,115,115]⟩ 2445, (.ref 229)⟩, ⟨PyData.keyHash P ⟨#[95,95,115,116,97,116,105,99,95,97,116,116,114,105,98,117,116,101,115,95,95]⟩, .str ⟨#[95,95,115,116,97,116,105,99,95,97,116,116,114,105,98,117,116,101,115,95,95]⟩ 2451, (.ref 230)⟩, ⟨PyData.keyHash P ⟨#[95,95,100,105,99,116,95,95]⟩, .str ⟨#[95,95,100,105,99,116,95,95]⟩ 2453, (.ref 233)⟩, ⟨PyData.keyHash P ⟨#[95,95,119,101,97,107,114,101,102,95,95]⟩, .str ⟨#[95,95,119,101,97,107,114,101,102,95,95]⟩ 2455, (.ref 234)⟩, ⟨PyData.keyHash P ⟨#[95,95,100,111,99,95,95]⟩, .str ⟨#[95,95,100,111,99,95,95]⟩ 2456, .none⟩] 4), #[]⟩
noncomputable def ob_232 (P : Params) : Obj := ⟨(.type "type"), none, (.cls { name := ⟨#[87,104,105,116,101,115,112,97,99,101]⟩, bases := [(.type "object")], mro := [(.ref 232), (.type "object")], ns := 231, qualname := ⟨#[87,104,105,116,101,115,112,97,99,101]⟩, hasDict := true, slotNames := [], subclasses := [], abstract := false, collection := none, hasDel := false }), #[none, none, (some (.str ⟨#[87,104,105,116,101,115,112,97,99,101]⟩ 2359)), (some (.str ⟨#[87,104,105,116,101,115,112,97,99,101]⟩ 2367)), (some (.builtin "object.__new__")), (some (.bool true))]⟩
noncomputable def ob_233 (P : Params) : Obj := ⟨(.type "getset_descriptor"), none, (.fields #[(.str ⟨#[95,95,100,105,99,116,95,95]⟩ 2452), (.ref 232), (.builtin "function.__dict__"), (.builtin "function.__dict__#set")]), #[]⟩
noncomputable def ob_234 (P : Params) : Obj := ⟨(.type "getset_descriptor"), none, (.fields #[(.str ⟨#[95,95,119,101,97,107,114,101,102,95,95]⟩ 2454), (.ref 232), (.builtin "ExceptionGroup.__weakref__"), .none]), #[]⟩
noncomputable def ob_235 (P : Params) : Obj := ⟨(.type "super"), none, (.fields #[(.ref 232), (.ref 232), (.ref 232)]), #[]⟩
noncomputable def ob_236 (P : Params) : Obj := ⟨(.type "builtin_function_or_method"), none, (.fields #[(.builtin "object.__init_subclass__"), (.ref 232)]), #[]⟩
noncomputable def hl_22 (P : Params) (x : Nat → Obj) : List Obj := [boot_o_0 P, boot_o_1 P, boot_o_2 P, ob_3_22 P, boot_o_4 P, boot_o_5 P, boot_o_6 P, boot_o_7 P, boot_o_8 P, boot_o_9 P, boot_o_10 P, ob_11 P, ob_12_22 P, ob_13 P, ob_14 P, ob_15 P, ob_16 P, ob_17 P, ob_18 P, ob_19 P, ob_20 P, ob_21 P, ob_22 P, ob_23 P, ob_24 P, ob_25 P, ob_26 P, ob_27 P, ob_28 P, ob_29 P, ob_30 P, ob_31 P, ob_32 P, ob_33 P, ob_34 P, ob_35 P, ob_36 P, ob_37 P, ob_38 P, ob_39 P, ob_40 P, ob_41 P, ob_42 P, ob_43 P, ob_44 P, ob_45 P, ob_46 P, ob_47 P, ob_48 P, ob_49 P, ob_50 P, ob_51 P, ob_52 P, ob_53 P, ob_54 P, ob_55 P, ob_56 P, ob_57 P, ob_58 P, ob_59 P, ob_60 P, ob_61 P, ob_62 P, ob_63 P, ob_64 P, ob_65 P, ob_66 P, ob_67 P, ob_68 P, ob_69 P, ob_70 P, ob_71 P, ob_72 P, ob_73 P, ob_74 P, ob_75 P, ob_76 P, ob_77 P, ob_78 P, ob_79 P, ob_80 P, ob_81 P, ob_82 P, ob_83 P, ob_84 P, ob_85 P, ob_86 P, ob_87 P, ob_88 P, ob_89 P, ob_90 P, ob_91 P, ob_92 P, ob_93 P, ob_94 P, ob_95 P, ob_96 P, ob_97 P, ob_98 P, ob_99 P, ob_100 P, ob_101 P, ob_102 P, ob_103 P, ob_104 P, ob_105 P, ob_106 P, ob_107 P, ob_108 P, ob_109 P, ob_110 P, ob_111 P, ob_112 P, ob_113 P, ob_114 P, ob_115 P, ob_116 P, ob_117 P, ob_118 P, ob_119 P, ob_120 P, ob_121 P, ob_122 P, ob_123 P, ob_124 P, x 0, x 1, x 2, x 3, x 4, x 5, x 6, x 7, x 8, x 9, x 10, x 11, x 12, x 13, x 14, x 15, x 16, x 17, x 18, x 19, x 20, x 21, x 22, x 23, x 24, x 25, x 26, x 27, x 28, x 29, x 30, x 31, x 32, x 33, x 34, x 35, x 36, x 37, x 38, ob_164 P, ob_165 P, ob_166 P, ob_167 P, ob_168 P, ob_169 P, ob_170 P, ob_171 P, ob_172 P, ob_173 P, ob_174 P, ob_175 P, ob_176 P, ob_177 P, ob_178 P, ob_179 P, ob_180 P, ob_181 P, ob_182 P, ob_183 P, ob_184 P, ob_185 P, ob_186 P, ob_187 P, ob_188 P, ob_189 P, ob_190 P, ob_191 P, ob_192 P, ob_193 P, ob_194 P, ob_195 P, ob_196 P, ob_197 P, ob_198 P, ob_199 P, ob_200 P, ob_201 P, ob_202 P, ob_203 P, ob_204 P, ob_205 P, ob_206 P, ob_207 P, ob_208 P, ob_209 P, ob_210 P, ob_211 P, ob_212 P, ob_213 P, ob_214 P, ob_215 P, ob_216 P, ob_217 P, ob_218 P, ob_219 P, ob_220 P, ob_221 P, ob_222 P, ob_223 P, ob_224 P, ob_225 P, ob_226 P, ob_227 P, ob_228 P, ob_229 P, ob_230 P, ob_231 P, ob_232 P, ob_233 P, ob_234 P, ob_235 P, ob_236 P]
noncomputable def ob_3_23 (P : Params) : Obj := ⟨(.type "dict"), none, (.dict #[⟨PyData.keyHash P ⟨#[95,95,110,97,109,101,95,95]⟩, .str ⟨#[95,95,110,97,109,101,95,95]⟩ 165, (.str ⟨#[108,97,119,95,116,99,48,48,55,53,95,48,49]⟩ 2459)⟩, ⟨PyData.keyHash P ⟨#[95,95,100,111,99,95,95]⟩, .str ⟨#[95,95,100,111,99,95,95]⟩ 166, .none⟩, ⟨PyData.keyHash P ⟨#[95,95,112,97,99,107,97,103,101,95,95]⟩, .str ⟨#[95,95,112,97,99,107,97,103,101,95,95]⟩ 167, .none⟩, ⟨PyData.keyHash P ⟨#[95,95,108,111,97,100,101,114,95,95]⟩, .str ⟨#[95,95,108,111,97,100,101,114,95,95]⟩ 168, (.builtin "__main__.__loader__#opaque")⟩, ⟨PyData.keyHash P ⟨#[95,95,115,112,101,99,95,95]⟩, .str ⟨#[95,95,115,112,101,99,95,95]⟩ 169, .none⟩, ⟨PyData.keyHash P ⟨#[95,95,97,110,110,111,116,97,116,105,111,110,115,95,95]⟩, .str ⟨#[95,95,97,110,110,111,116,97,116,105,111,110,115,95,95]⟩ 170, (.ref 6)⟩, ⟨PyData.keyHash P ⟨#[95,95,98,117,105,108,116,105,110,115,95,95]⟩, .str ⟨#[95,95,98,117,105,108,116,105,110,115,95,95]⟩ 171, (.ref 4)⟩, ⟨PyData.keyHash P ⟨#[95,95,102,105,108,101,95,95]⟩, .str ⟨#[95,95,102,105,108,101,95,95]⟩ 173, (.str ⟨#[47,99,108,97,105,109,47,99,117,116,46,112,121]⟩ 172)⟩, ⟨PyData.keyHash P ⟨#[95,95,99,97,99,104,101,100,95,95]⟩, .str ⟨#[95,95,99,97,99,104,101,100,95,95]⟩ 174, .none⟩, ⟨PyData.keyHash P ⟨#[95,119,97,108,108]⟩, .str ⟨#[95,119,97,108,108]⟩ 193, (.ref 21)⟩, ⟨PyData.keyHash P ⟨#[67,79,77,80,73,76,69,82,95,70,76,65,71,95,78,65,77,69,83]⟩, .str ⟨#[67,79,77,80,73,76,69,82,95,70,76,65,71,95,78,65,77,69,83]⟩ 226, (.ref 22)⟩, ⟨PyData.keyHash P ⟨#[112,114,101,116,116,121,95,102,108,97,103,115]⟩, .str ⟨#[112,114,101,116,116,121,95,102,108,97,103,115]⟩ 236, (.ref 29)⟩, ⟨PyData.keyHash P ⟨#[95,112,97,114,115,101,95,118,97,114,105,110,116]⟩, .str ⟨#[95,112,97,114,115,101,95,118,97,114,105,110,116]⟩ 245, (.ref 36)⟩, ⟨PyData.keyHash P ⟨#[97,100,100]⟩, .str ⟨#[97,100,100]⟩ 255, (.ref 43)⟩, ⟨PyData.keyHash P ⟨#[102,108,111,111,114,100,105,118]⟩, .str ⟨#[102,108,111,111,114,100,105,118]⟩ 263, (.ref 50)⟩, ⟨PyData.keyHash P ⟨#[108,115,104,105,102,116]⟩, .str ⟨#[108,115,104,105,102,116]⟩ 271, (.ref 57)⟩, ⟨PyData.keyHash P ⟨#[109,117,108]⟩, .str ⟨#[109,117,108]⟩ 279, (.ref 64)⟩, ⟨PyData.keyHash P ⟨#[110,101,103]⟩, .str ⟨#[110,101,103]⟩ 286, (.ref 71)⟩, ⟨PyData.keyHash P ⟨#[111,114,95]⟩, .str ⟨#[111,114,95]⟩ 294, (.ref 78)⟩, ⟨PyData.keyHash P ⟨#[115,117,98]⟩, .str ⟨#[115,117,98]⟩ 302, (.ref 85)⟩, ⟨PyData.keyHash P ⟨#[120,111,114]⟩, .str ⟨#[120,111,114]⟩ 310, (.ref 92)⟩, ⟨PyData.keyHash P ⟨#[103,101,116,105,116,101,109]⟩, .str ⟨#[103,101,116,105,116,101,109]⟩ 318, (.ref 99)⟩, ⟨PyData.keyHash P ⟨#[105,110,100,101,120,79,102]⟩, .str ⟨#[105,110,100,101,120,79,102]⟩ 328, (.ref 106)⟩, ⟨PyData.keyHash P ⟨#[98,49,95,115,101,116]⟩, .str ⟨#[98,49,95,115,101,116]⟩ 390, (.ref 114)⟩, ⟨PyData.keyHash P ⟨#[105,110,95,116,97,98,108,101,95,98,49]⟩, .str ⟨#[105,110,95,116,97,98,108,101,95,98,49]⟩ 397, (.ref 124)⟩, ⟨PyData.keyHash P ⟨#[98,51,95,101,120,99,101,112,116,105,111,110,115]⟩, .str ⟨#[98,51,95,101,120,99,101,112,116,105,111,110,115]⟩ 2348, (.ref 125)⟩, ⟨PyData.keyHash P ⟨#[109,97,112,95,116,97,98,108,101,95,98,51]⟩, .str ⟨#[109,97,112,95,116,97,98,108,101,95,98,51]⟩ 2356, (.ref 170)⟩, ⟨PyData.keyHash P ⟨#[87,104,105,116,101,115,112,97,99,101]⟩, .str ⟨#[87,104,105,116,101,115,112,97,99,101]⟩ 2458, (.ref 232)⟩] 28), #[]⟩
noncomputable def hl_23 (P : Params) (x : Nat → Obj) : List Obj := [boot_o_0 P, boot_o_1 P, boot_o_2 P, ob_3_23 P, boot_o_4 P, boot_o_5 P, boot_o_6 P, boot_o_7 P, boot_o_8 P, boot_o_9 P, boot_o_10 P, ob_11 P, ob_12_22 P, ob_13 P, ob_14 P, ob_15 P, ob_16 P, ob_17 P, ob_18 P, ob_19 P, ob_20 P, ob_21 P, ob_22 P, ob_23 P, ob_24 P, ob_25 P, ob_26 P, ob_27 P, ob_28 P, ob_29 P, ob_30 P, ob_31 P, ob_32 P, ob_33 P, ob_34 P, ob_35 P, ob_36 P, ob_37 P, ob_38 P, ob_39 P, ob_40 P, ob_41 P, ob_42 P, ob_43 P, ob_44 P, ob_45 P, ob_46 P, ob_47 P, ob_48 P, ob_49 P, ob_50 P, ob_51 P, ob_52 P, ob_53 P, ob_54 P, ob_55 P, ob_56 P, ob_57 P, ob_58 P, ob_59 P, ob_60 P, ob_61 P, ob_62 P, ob_63 P, ob_64 P, ob_65 P, ob_66 P, ob_67 P, ob_68 P, ob_69 P, ob_70 P, ob_71 P, ob_72 P, ob_73 P, ob_74 P, ob_75 P, ob_76 P, ob_77 P, ob_78 P, ob_79 P, ob_80 P, ob_81 P, ob_82 P, ob_83 P, ob_84 P, ob_85 P, ob_86 P, ob_87 P, ob_88 P, ob_89 P, ob_90 P, ob_91 P, ob_92 P, ob_93 P, ob_94 P, ob_95 P, ob_96 P, ob_97 P, ob_98 P, ob_99 P, ob_100 P, ob_101 P, ob_102 P, ob_103 P, ob_104 P, ob_105 P, ob_106 P, ob_107 P, ob_108 P, ob_109 P, ob_110 P, ob_111 P, ob_112 P, ob_113 P, ob_114 P, ob_115 P, ob_116 P, ob_117 P, ob_118 P, ob_119 P, ob_120 P, ob_121 P, ob_122 P, ob_123 P, ob_124 P, x 0, x 1, x 2, x 3, x 4, x 5, x 6, x 7, x 8, x 9, x 10, x 11, x 12, x 13, x 14, x 15, x 16, x 17, x 18, x 19, x 20, x 21, x 22, x 23, x 24, x 25, x 26, x 27, x 28, x 29, x 30, x 31, x 32, x 33, x 34, x 35, x 36, x 37, x 38, ob_164 P, ob_165 P, ob_166 P, ob_167 P, ob_168 P, ob_169 P, ob_170 P, ob_171 P, ob_172 P, ob_173 P, ob_174 P, ob_175 P, ob_176 P, ob_177 P, ob_178 P, ob_179 P, ob_180 P, ob_181 P, ob_182 P, ob_183 P, ob_184 P, ob_185 P, ob_186 P, ob_187 P, ob_188 P, ob_189 P, ob_190 P, ob_191 P, ob_192 P, ob_193 P, ob_194 P, ob_195 P, ob_196 P, ob_197 P, ob_198 P, ob_199 P, ob_200 P, ob_201 P, ob_202 P, ob_203 P, ob_204 P, ob_205 P, ob_206 P, ob_207 P, ob_208 P, ob_209 P, ob_210 P, ob_211 P, ob_212 P, ob_213 P, ob_214 P, ob_215 P, ob_216 P, ob_217 P, ob_218 P, ob_219 P, ob_220 P, ob_221 P, ob_222 P, ob_223 P, ob_224 P, ob_225 P, ob_226 P, ob_227 P, ob_228 P, ob_229 P, ob_230 P, ob_231 P, ob_232 P, ob_233 P, ob_234 P, ob_235 P, ob_236 P]
noncomputable def ob_3_24 (P : Params) : Obj := ⟨(.type "dict"), none, (.dict #[⟨PyData.keyHash P ⟨#[95,95,110,97,109,101,95,95]⟩, .str ⟨#[95,95,110,97,109,101,95,95]⟩ 165, (.str ⟨#[108,97,119,95,116,99,48,48,55,53,95,48,49]⟩ 2459)⟩, ⟨PyData.keyHash P ⟨#[95,95,100,111,99,95,95]⟩, .str ⟨#[95,95,100,111,99,95,95]⟩ 166, .none⟩, ⟨PyData.keyHash P ⟨#[95,95,112,97,99,107,97,103,101,95,95]⟩, .str ⟨#[95,95,112,97,99,107,97,103,101,95,95]⟩ 167, .none⟩, ⟨PyData.keyHash P ⟨#[95,95,108,111,97,100,101,114,95,95]⟩, .str ⟨#[95,95,108,111,97,100,101,114,95,95]⟩ 168, (.builtin "__main__.__loader__#opaque")⟩, ⟨PyData.keyHash P ⟨#[95,95,115,112,101,99,95,95]⟩, .str ⟨#[95,95,115,112,101,99,95,95]⟩ 169, .none⟩, ⟨PyData.keyHash P ⟨#[95,95,97,110,110,111,116,97,116,105,111,110,115,95,95]⟩, .str ⟨#[95,95,97,110,110,111,116,97,116,105,111,110,115,95,95]⟩ 170, (.ref 6)⟩, ⟨PyData.keyHash P ⟨#[95,95,98,117,105,108,116,105,110,115,95,95]⟩, .str ⟨#[95,95,98,117,105,108,116,105,110,115,95,95]⟩ 171, (.ref 4)⟩, ⟨PyData.keyHash P ⟨#[95,95,102,105,108,101,95,95]⟩, .str ⟨#[95,95,102,105,108,101,95,95]⟩ 173, (.str ⟨#[47,99,108,97,105,109,47,99,117,116,46,112,121]⟩ 172)⟩, ⟨PyData.keyHash P ⟨#[95,95,99,97,99,104,101,100,95,95]⟩, .str ⟨#[95,95,99,97,99,104,101,100,95,95]⟩ 174, .none⟩, ⟨PyData.keyHash P ⟨#[95,119,97,108,108]⟩, .str ⟨#[95,119,97,108,108]⟩ 193, (.ref 21)⟩, ⟨PyData.keyHash P ⟨#[67,79,77,80,73,76,69,82,95,70,76,65,71,95,78,65,77,69,83]⟩, .str ⟨#[67,79,77,80,73,76,69,82,95,70,76,65,71,95,78,65,77,69,83]⟩ 226, (.ref 22)⟩, ⟨PyData.keyHash P ⟨#[112,114,101,116,116,121,95,102,108,97,103,115]⟩, .str ⟨#[112,114,101,116,116,121,95,102,108,97,103,115]⟩ 236, (.ref 29)⟩, ⟨PyData.keyHash P ⟨#[95,112,97,114,115,101,95,118,97,114,105,110,116]⟩, .str ⟨#[95,112,97,114,115,101,95,118,97,114,105,110,116]⟩ 245, (.ref 36)⟩, ⟨PyData.keyHash P ⟨#[97,100,100]⟩, .str ⟨#[97,100,100]⟩ 255, (.ref 43)⟩, ⟨PyData.keyHash P ⟨#[102,108,111,111,114,100,105,118]⟩, .str ⟨#[102,108,111,111,114,100,105,118]⟩ 263, (.ref 50)⟩, ⟨PyData.keyHash P ⟨#[108,115,104,105,102,116]⟩, .str ⟨#[108,115,104,105,102,116]⟩ 271, (.ref 57)⟩, ⟨PyData.keyHash P ⟨#[109,117,108]⟩, .str ⟨#[109,117,108]⟩ 279, (.ref 64)⟩, ⟨PyData.keyHash P ⟨#[110,101,103]⟩, .str ⟨#[110,101,103]⟩ 286, (.ref 71)⟩, ⟨PyData.keyHash P ⟨#[111,114,95]⟩, .str ⟨#[111,114,95]⟩ 294, (.ref 78)⟩, ⟨PyData.keyHash P ⟨#[115,117,98]⟩, .str ⟨#[115,117,98]⟩ 302, (.ref 85)⟩, ⟨PyData.keyHash P ⟨#[120,111,114]⟩, .str ⟨#[120,111,114]⟩ 310, (.ref 92)⟩, ⟨PyData.keyHash P ⟨#[103,101,116,105,116,101,109]⟩, .str ⟨#[103,101,116,105,116,101,109]⟩ 318, (.ref 99)⟩, ⟨PyData.keyHash P ⟨#[105,110,100,101,120,79,102]⟩, .str ⟨#[105,110,100,101,120,79,102]⟩ 328, (.ref 106)⟩, ⟨PyData.keyHash P ⟨#[98,49,95,115,101,116]⟩, .str ⟨#[98,49,95,115,101,116]⟩ 390, (.ref 114)⟩, ⟨PyData.keyHash P ⟨#[105,110,95,116,97,98,108,101,95,98,49]⟩, .str ⟨#[105,110,95,116,97,98,108,101,95,98,49]⟩ 397, (.ref 124)⟩, ⟨PyData.keyHash P ⟨#[98,51,95,101,120,99,101,112,116,105,111,110,115]⟩, .str ⟨#[98,51,95,101,120,99,101,112,116,105,111,110,115]⟩ 2348, (.ref 125)⟩, ⟨PyData.keyHash P ⟨#[109,97,112,95,116,97,98,108,101,95,98,51]⟩, .str ⟨#[109,97,112,95,116,97,98,108,101,95,98,51]⟩ 2356, (.ref 170)⟩, ⟨PyData.keyHash P ⟨#[87,104,105,116,101,115,112,97,99,101]⟩, .str ⟨#[87,104,105,116,101,115,112,97,99,101]⟩ 2458, (.ref 232)⟩, ⟨PyData.keyHash P ⟨#[95,108,97,119,95,116,121,112,101,100]⟩, .str ⟨#[95,108,97,119,95,116,121,112,101,100]⟩ 2473, (.ref 243)⟩] 29), #[]⟩
noncomputable def ob_12_24 (P : Params) : Obj := ⟨.none, none, (.fields #[(.int 1 0), (.int 0 0), (.ref 20), (.int 6 0), (.int 0 0), (.ref 28), (.int 18 0), (.int 0 0), (.ref 35), (.int 27 0), (.int 0 0), (.ref 42), (.int 29 0), (.int 0 0), (.ref 49), (.int 31 0), (.int 0 0), (.ref 56), (.int 33 0), (.int 0 0), (.ref 63), (.int 35 0), (.int 0 0), (.ref 70), (.int 37 0), (.int 0 0), (.ref 77), (.int 39 0), (.int 0 0), (.ref 84), (.int 41 0), (.int 0 0), (.ref 91), (.int 43 0), (.int 0 0), (.ref 98), (.int 45 0), (.int 0 0), (.ref 105), (.int 53 0), (.int 0 0), (.ref 123), (.int 56 0), (.int 0 0), (.ref 169), (.int 62 0), (.int 0 0), (.ref 176), (.int 119 0), (.int 0 0), (.ref 242)]), #[]⟩
noncomputable def ob_237 (P : Params) : Obj := ⟨(.type "tuple"), none, (.seq #[] 0), #[]⟩
noncomputable def ob_238 (P : Params) : Obj := ⟨.none, none, (.fields #[]), #[]⟩
noncomputable def ob_239 (P : Params) : Obj := ⟨(.type "tuple"), none, (.seq #[(.str ⟨#[116,101,120,116]⟩ 2464), (.str ⟨#[110,117,109,98,101,114]⟩ 2465), (.str ⟨#[104,105,100,100,101,110]⟩ 2466), (.str ⟨#[102,111,114,109]⟩ 2467), (.str ⟨#[101,110,100]⟩ 2468), (.str ⟨#[116,121,112,101,100]⟩ 2469), (.str ⟨#[115,112,111,116]⟩ 2470)] 0), #[]⟩
noncomputable def ob_240 (P : Params) : Obj := ⟨(.type "tuple"), none, (.seq #[] 0), #[]⟩
noncomputable def ob_241 (P : Params) : Obj := ⟨.none, none, (.func { name := ⟨#[95,108,97,119,95,116,121,112,101,100]⟩, qualname := ⟨#[95,108,97,119,95,116,121,112,101,100]⟩, params := (FA 24), body := .stmts (FB 24), scope := (FS 24), globals := 0, closure := [], defaults := .none, kwdefaults := .none, doc := .none, pyModule := .none, annotations := none, code := .none, closureTuple := .none, builtins := 0 }), #[]⟩
noncomputable def ob_242 (P : Params) : Obj := ⟨(.type "code"), none, (.fields #[(.str ⟨#[95,108,97,119,95,116,121,112,101,100]⟩ 2461), (.str ⟨#[95,108,97,119,95,116,121,112,101,100]⟩ 2462), (.str ⟨#[47,99,108,97,105,109,47,99,117,116,46,112,121]⟩ 2463), (.int 119 0), (.int 2 0), (.int 0 0), (.int 0 0), (.int 3 0), (.ref 237), (.bool true), (.int 181 0), (.ref 238), .none, (.ref 239), (.ref 240), (.ref 241), (.int 2471 0), (.int 119 0), (.str ⟨#[47,99,108,97,105,109,47,99,117,116,46,112,121]⟩ 2472)]), #[]⟩
noncomputable def ob_243 (P : Params) : Obj := ⟨(.type "function"), none, (.func { name := ⟨#[95,108,97,119,95,116,121,112,101,100]⟩, qualname := ⟨#[95,108,97,119,95,116,121,112,101,100]⟩, params := (FA 24), body := .stmts (FB 24), scope := (FS 24), globals := 3, closure := [], defaults := .none, kwdefaults := .none, doc := .none, pyModule := (.str ⟨#[108,97,119,95,116,99,48,48,55,53,95,48,49]⟩ 2459), annotations := none, code := (.ref 242), closureTuple := .none, builtins := 0 }), #[]⟩
noncomputable def hl_24 (P : Params) (x : Nat → Obj) : List Obj := [boot_o_0 P, boot_o_1 P, boot_o_2 P, ob_3_24 P, boot_o_4 P, boot_o_5 P, boot_o_6 P, boot_o_7 P, boot_o_8 P, boot_o_9 P, boot_o_10 P, ob_11 P, ob_12_24 P, ob_13 P, ob_14 P, ob_15 P, ob_16 P, ob_17 P, ob_18 P, ob_19 P, ob_20 P, ob_21 P, ob_22 P, ob_23 P, ob_24 P, ob_25 P, ob_26 P, ob_27 P, ob_28 P, ob_29 P, ob_30 P, ob_31 P, ob_32 P, ob_33 P, ob_34 P, ob_35 P, ob_36 P, ob_37 P, ob_38 P, ob_39 P, ob_40 P, ob_41 P, ob_42 P, ob_43 P, ob_44 P, ob_45 P, ob_46 P, ob_47 P, ob_48 P, ob_49 P, ob_50 P, ob_51 P, ob_52 P, ob_53 P, ob_54 P, ob_55 P, ob_56 P, ob_57 P, ob_58 P, ob_59 P, ob_60 P, ob_61 P, ob_62 P, ob_63 P, ob_64 P, ob_65 P, ob_66 P, ob_67 P, ob_68 P, ob_69 P, ob_70 P, ob_71 P, ob_72 P, ob_73 P, ob_74 P, ob_75 P, ob_76 P, ob_77 P, ob_78 P, ob_79 P, ob_80 P, ob_81 P, ob_82 P, ob_83 P, ob_84 P, ob_85 P, ob_86 P, ob_87 P, ob_88 P, ob_89 P, ob_90 P, ob_91 P, ob_92 P, ob_93 P, ob_94 P, ob_95 P, ob_96 P, ob_97 P, ob_98 P, ob_99 P, ob_100 P, ob_101 P, ob_102 P, ob_103 P, ob_104 P, ob_105 P, ob_106 P, ob_107 P, ob_108 P, ob_109 P, ob_110 P, ob_111 P, ob_112 P, ob_113 P, ob_114 P, ob_115 P, ob_116 P, ob_117 P, ob_118 P, ob_119 P, ob_120 P, ob_121 P, ob_122 P, ob_123 P, ob_124 P, x 0, x 1, x 2, x 3, x 4, x 5, x 6, x 7, x 8, x 9, x 10, x 11, x 12, x 13, x 14, x 15, x 16, x 17, x 18, x 19, x 20, x 21, x 22, x 23, x 24, x 25, x 26, x 27, x 28, x 29, x 30, x 31, x 32, x 33, x 34, x 35, x 36, x 37, x 38, ob_164 P, ob_165 P, ob_166 P, ob_167 P, ob_168 P, ob_169 P, ob_170 P, ob_171 P, ob_172 P, ob_173 P, ob_174 P, ob_175 P, ob_176 P, ob_177 P, ob_178 P, ob_179 P, ob_180 P, ob_181 P, ob_182 P, ob_183 P, ob_184 P, ob_185 P, ob_186 P, ob_187 P, ob_188 P, ob_189 P, ob_190 P, ob_191 P, ob_192 P, ob_193 P, ob_194 P, ob_195 P, ob_196 P, ob_197 P, ob_198 P, ob_199 P, ob_200 P, ob_201 P, ob_202 P, ob_203 P, ob_204 P, ob_205 P, ob_206 P, ob_207 P, ob_208 P, ob_209 P, ob_210 P, ob_211 P, ob_212 P, ob_213 P, ob_214 P, ob_215 P, ob_216 P, ob_217 P, ob_218 P, ob_219 P, ob_220 P, ob_221 P, ob_222 P, ob_223 P, ob_224 P, ob_225 P, ob_226 P, ob_227 P, ob_228 P, ob_229 P, ob_230 P, ob_231 P, ob_232 P, ob_233 P, ob_234 P, ob_235 P, ob_236 P, ob_237 P, ob_238 P, ob_239 P, ob_240 P, ob_241 P, ob_242 P, ob_243 P]
noncomputable def ob_3_25 (P : Params) : Obj := ⟨(.type "dict"), none, (.dict #[⟨PyData.keyHash P ⟨#[95,95,110,97,109,101,95,95]⟩, .str ⟨#[95,95,110,97,109,101,95,95]⟩ 165, (.str ⟨#[108,97,119,95,116,99,48,48,55,53,95,48,49]⟩ 2459)⟩, ⟨PyData.keyHash P ⟨#[95,95,100,111,99,95,95]⟩, .str ⟨#[95,95,100,111,99,95,95]⟩ 166, .none⟩, ⟨PyData.keyHash P ⟨#[95,95,112,97,99,107,97,103,101,95,95]⟩, .str ⟨#[95,95,112,97,99,107,97,103,101,95,95]⟩ 167, .none⟩, ⟨PyData.keyHash P ⟨#[95,95,108,111,97,100,101,114,95,95]⟩, .str ⟨#[95,95,108,111,97,100,101,114,95,95]⟩ 168, (.builtin "__main__.__loader__#opaque")⟩, ⟨PyData.keyHash P ⟨#[95,95,115,112,101,99,95,95]⟩, .str ⟨#[95,95,115,112,101,99,95,95]⟩ 169, .none⟩, ⟨PyData.keyHash P ⟨#[95,95,97,110,110,111,116,97,116,105,111,110,115,95,95]⟩, .str ⟨#[95,95,97,110,110,111,116,97,116,105,111,110,115,95,95]⟩ 170, (.ref 6)⟩, ⟨PyData.keyHash P ⟨#[95,95,98,117,105,108,116,105,110,115,95,95]⟩, .str ⟨#[95,95,98,117,105,108,116,105,110,115,95,95]⟩ 171, (.ref 4)⟩, ⟨PyData.keyHash P ⟨#[95,95,102,105,108,101,95,95]⟩, .str ⟨#[95,95,102,105,108,101,95,95]⟩ 173, (.str ⟨#[47,99,108,97,105,109,47,99,117,116,46,112,121]⟩ 172)⟩, ⟨PyData.keyHash P ⟨#[95,95,99,97,99,104,101,100,95,95]⟩, .str ⟨#[95,95,99,97,99,104,101,100,95,95]⟩ 174, .none⟩, ⟨PyData.keyHash P ⟨#[95,119,97,108,108]⟩, .str ⟨#[95,119,97,108,108]⟩ 193, (.ref 21)⟩, ⟨PyData.keyHash P ⟨#[67,79,77,80,73,76,69,82,95,70,76,65,71,95,78,65,77,69,83]⟩, .str ⟨#[67,79,77,80,73,76,69,82,95,70,76,65,71,95,78,65,77,69,83]⟩ 226, (.ref 22)⟩, ⟨PyData.keyHash P ⟨#[112,114,101,116,116,121,95,102,108,97,103,115]⟩, .str ⟨#[112,114,101,116,116,121,95,102,108,97,103,115]⟩ 236, (.ref 29)⟩, ⟨PyData.keyHash P ⟨#[95,112,97,114,115,101,95,118,97,114,105,110,116]⟩, .str ⟨#[95,112,97,114,115,101,95,118,97,114,105,110,116]⟩ 245, (.ref 36)⟩, ⟨PyData.keyHash P ⟨#[97,100,100]⟩, .str ⟨#[97,100,100]⟩ 255, (.ref 43)⟩, ⟨PyData.keyHash P ⟨#[102,108,111,111,114,100,105,118]⟩, .str ⟨#[102,108,111,111,114,100,105,118]⟩ 263, (.ref 50)⟩, ⟨PyData.keyHash P ⟨#[108,115,104,105,102,116]⟩, .str ⟨#[108,115,104,105,102,116]⟩ 271, (.ref 57)⟩, ⟨PyData.keyHash P ⟨#[109,117,108]⟩, .str ⟨#[109,117,108]⟩ 279, (.ref 64)⟩, ⟨PyData.keyHash P ⟨#[110,101,103]⟩, .str ⟨#[110,101,103]⟩ 286, (.ref 71)⟩, ⟨PyData.keyHash P ⟨#[111,114,95]⟩, .str ⟨#[111,114,95]⟩ 294, (.ref 78)⟩, ⟨PyData.keyHash P ⟨#[115,117,98]⟩, .str ⟨#[115,117,98]⟩ 302, (.ref 85)⟩, ⟨PyData.keyHash P ⟨#[120,111,114]⟩, .str ⟨#[120,111,114]⟩ 310, (.ref 92)⟩, ⟨PyData.keyHash P ⟨#[103,101,116,105,116,101,109]⟩, .str ⟨#[103,101,116,105,116,101,109]⟩ 318, (.ref 99)⟩, ⟨PyData.keyHash P ⟨#[105,110,100,101,120,79,102]⟩, .str ⟨#[105,110,100,101,120,79,102]⟩ 328, (.ref 106)⟩, ⟨PyData.keyHash P ⟨#[98,49,95,115,101,116]⟩, .str ⟨#[98,49,95,115,101,116]⟩ 390, (.ref 114)⟩, ⟨PyData.keyHash P ⟨#[105,110,95,116,97,98,108,101,95,98,49]⟩, .str ⟨#[105,110,95,116,97,98,108,101,95,98,49]⟩ 397, (.ref 124)⟩, ⟨PyData.keyHash P ⟨#[98,51,95,101,120,99,101,112,116,105,111,110,115]⟩, .str ⟨#[98,51,95,101,120,99,101,112,116,105,111,110,115]⟩ 2348, (.ref 125)⟩, ⟨PyData.keyHash P ⟨#[109,97,112,95,116,97,98,108,101,95,98,51]⟩, .str ⟨#[109,97,112,95,116,97,98,108,101,95,98,51]⟩ 2356, (.ref 170)⟩, ⟨PyData.keyHash P ⟨#[87,104,105,116,101,115,112,97,99,101]⟩, .str ⟨#[87,104,105,116,101,115,112,97,99,101]⟩ 2458, (.ref 232)⟩, ⟨PyData.keyHash P ⟨#[95,108,97,119,95,116,121,112,101,100]⟩, .str ⟨#[95,108,97,119,95,116,121,112,101,100]⟩ 2473, (.ref 243)⟩, ⟨PyData.keyHash P ⟨#[95,108,97,119,95,112,114,101,112,97,114,101,100]⟩, .str ⟨#[95,108,97,119,95,112,114,101,112,97,114,101,100]⟩ 2483, (.ref 250)⟩] 30), #[]⟩
noncomputable def ob_12_25 (P : Params) : Obj := ⟨.none, none, (.fields #[(.int 1 0), (.int 0 0), (.ref 20), (.int 6 0), (.int 0 0), (.ref 28), (.int 18 0), (.int 0 0), (.ref 35), (.int 27 0), (.int 0 0), (.ref 42), (.int 29 0), (.int 0 0), (.ref 49), (.int 31 0), (.int 0 0), (.ref 56), (.int 33 0), (.int 0 0), (.ref 63), (.int 35 0), (.int 0 0), (.ref 70), (.int 37 0), (.int 0 0), (.ref 77), (.int 39 0), (.int 0 0), (.ref 84), (.int 41 0), (.int 0 0), (.ref 91), (.int 43 0), (.int 0 0), (.ref 98), (.int 45 0), (.int 0 0), (.ref 105), (.int 53 0), (.int 0 0), (.ref 123), (.int 56 0), (.int 0 0), (.ref 169), (.int 62 0), (.int 0 0), (.ref 176), (.int 119 0), (.int 0 0), (.ref 242), (.int 130 0), (.int 0 0), (.ref 249)]), #[]⟩
noncomputable def ob_244 (P : Params) : Obj := ⟨(.type "tuple"), none, (.seq #[] 0), #[]⟩
noncomputable def ob_245 (P : Params) : Obj := ⟨.none, none, (.fields #[]), #[]⟩
noncomputable def ob_246 (P : Params) : Obj := ⟨(.type "tuple"), none, (.seq #[(.str ⟨#[116,101,120,116]⟩ 2477), (.str ⟨#[111,117,116]⟩ 2478), (.str ⟨#[115,105,103,110]⟩ 2479), (.str ⟨#[104,101,108,100]⟩ 2480)] 0), #[]⟩
noncomputable def ob_247 (P : Params) : Obj := ⟨(.type "tuple"), none, (.seq #[] 0), #[]⟩
noncomputable def ob_248 (P : Params) : Obj := ⟨.none, none, (.func { name := ⟨#[95,108,97,119,95,112,114,101,112,97,114,101,100]⟩, qualname := ⟨#[95,108,97,119,95,112,114,101,112,97,114,101,100]⟩, params := (FA 25), body := .stmts (FB 25), scope := (FS 25), globals := 0, closure := [], defaults := .none, kwdefaults := .none, doc := .none, pyModule := .none, annotations := none, code := .none, closureTuple := .none, builtins := 0 }), #[]⟩
noncomputable def ob_249 (P : Params) : Obj := ⟨(.type "code"), none, (.fields #[(.str ⟨#[95,108,97,119,95,112,114,101,112,97,114,101,100]⟩ 2474), (.str ⟨#[95,108,97,119,95,112,114,101,112,97,114,101,100]⟩ 2475), (.str ⟨#[47,99,108,97,105,109,47,99,117,116,46,112,121]⟩ 2476), (.int 130 0), (.int 1 0), (.int 0 0), (.int 0 0), (.int 3 0), (.ref 244), (.bool true), (.int 181 0), (.ref 245), .none, (.ref 246), (.ref 247), (.ref 248), (.int 2481 0), (.int 130 0), (.str ⟨#[47,99,108,97,105,109,47,99,117,116,46,112,121]⟩ 2482)]), #[]⟩
noncomputable def ob_250 (P : Params) : Obj := ⟨(.type "function"), none, (.func { name := ⟨#[95,108,97,119,95,112,114,101,112,97,114,101,100]⟩, qualname := ⟨#[95,108,97,119,95,112,114,101,112,97,114,101,100]⟩, params := (FA 25), body := .stmts (FB 25), scope := (FS 25), globals := 3, closure := [], defaults := .none, kwdefaults := .none, doc := .none, pyModule := (.str ⟨#[108,97,119,95,116,99,48,48,55,53,95,48,49]⟩ 2459), annotations := none, code := (.ref 249), closureTuple := .none, builtins := 0 }), #[]⟩
noncomputable def hl_25 (P : Params) (x : Nat → Obj) : List Obj := [boot_o_0 P, boot_o_1 P, boot_o_2 P, ob_3_25 P, boot_o_4 P, boot_o_5 P, boot_o_6 P, boot_o_7 P, boot_o_8 P, boot_o_9 P, boot_o_10 P, ob_11 P, ob_12_25 P, ob_13 P, ob_14 P, ob_15 P, ob_16 P, ob_17 P, ob_18 P, ob_19 P, ob_20 P, ob_21 P, ob_22 P, ob_23 P, ob_24 P, ob_25 P, ob_26 P, ob_27 P, ob_28 P, ob_29 P, ob_30 P, ob_31 P, ob_32 P, ob_33 P, ob_34 P, ob_35 P, ob_36 P, ob_37 P, ob_38 P, ob_39 P, ob_40 P, ob_41 P, ob_42 P, ob_43 P, ob_44 P, ob_45 P, ob_46 P, ob_47 P, ob_48 P, ob_49 P, ob_50 P, ob_51 P, ob_52 P, ob_53 P, ob_54 P, ob_55 P, ob_56 P, ob_57 P, ob_58 P, ob_59 P, ob_60 P, ob_61 P, ob_62 P, ob_63 P, ob_64 P, ob_65 P, ob_66 P, ob_67 P, ob_68 P, ob_69 P, ob_70 P, ob_71 P, ob_72 P, ob_73 P, ob_74 P, ob_75 P, ob_76 P, ob_77 P, ob_78 P, ob_79 P, ob_80 P, ob_81 P, ob_82 P, ob_83 P, ob_84 P, ob_85 P, ob_86 P, ob_87 P, ob_88 P, ob_89 P, ob_90 P, ob_91 P, ob_92 P, ob_93 P, ob_94 P, ob_95 P, ob_96 P, ob_97 P, ob_98 P, ob_99 P, ob_100 P, ob_101 P, ob_102 P, ob_103 P, ob_104 P, ob_105 P, ob_106 P, ob_107 P, ob_108 P, ob_109 P, ob_110 P, ob_111 P, ob_112 P, ob_113 P, ob_114 P, ob_115 P, ob_116 P, ob_117 P, ob_118 P, ob_119 P, ob_120 P, ob_121 P, ob_122 P, ob_123 P, ob_124 P, x 0, x 1, x 2, x 3, x 4, x 5, x 6, x 7, x 8, x 9, x 10, x 11, x 12, x 13, x 14, x 15, x 16, x 17, x 18, x 19, x 20, x 21, x 22, x 23, x 24, x 25, x 26, x 27, x 28, x 29, x 30, x 31, x 32, x 33, x 34, x 35, x 36, x 37, x 38, ob_164 P, ob_165 P, ob_166 P, ob_167 P, ob_168 P, ob_169 P, ob_170 P, ob_171 P, ob_172 P, ob_173 P, ob_174 P, ob_175 P, ob_176 P, ob_177 P, ob_178 P, ob_179 P, ob_180 P, ob_181 P, ob_182 P, ob_183 P, ob_184 P, ob_185 P, ob_186 P, ob_187 P, ob_188 P, ob_189 P, ob_190 P, ob_191 P, ob_192 P, ob_193 P, ob_194 P, ob_195 P, ob_196 P, ob_197 P, ob_198 P, ob_199 P, ob_200 P, ob_201 P, ob_202 P, ob_203 P, ob_204 P, ob_205 P, ob_206 P, ob_207 P, ob_208 P, ob_209 P, ob_210 P, ob_211 P, ob_212 P, ob_213 P, ob_214 P, ob_215 P, ob_216 P, ob_217 P, ob_218 P, ob_219 P, ob_220 P, ob_221 P, ob_222 P, ob_223 P, ob_224 P, ob_225 P, ob_226 P, ob_227 P, ob_228 P, ob_229 P, ob_230 P, ob_231 P, ob_232 P, ob_233 P, ob_234 P, ob_235 P, ob_236 P, ob_237 P, ob_238 P, ob_239 P, ob_240 P, ob_241 P, ob_242 P, ob_243 P, ob_244 P, ob_245 P, ob_246 P, ob_247 P, ob_248 P, ob_249 P, ob_250 P]
noncomputable def ob_3_26 (P : Params) : Obj := ⟨(.type "dict"), none, (.dict #[⟨PyData.keyHash P ⟨#[95,95,110,97,109,101,95,95]⟩, .str ⟨#[95,95,110,97,109,101,95,95]⟩ 165, (.str ⟨#[108,97,119,95,116,99,48,48,55,53,95,48,49]⟩ 2459)⟩, ⟨PyData.keyHash P ⟨#[95,95,100,111,99,95,95]⟩, .str ⟨#[95,95,100,111,99,95,95]⟩ 166, .none⟩, ⟨PyData.keyHash P ⟨#[95,95,112,97,99,107,97,103,101,95,95]⟩, .str ⟨#[95,95,112,97,99,107,97,103,101,95,95]⟩ 167, .none⟩, ⟨PyData.keyHash P ⟨#[95,95,108,111,97,100,101,114,95,95]⟩, .str ⟨#[95,95,108,111,97,100,101,114,95,95]⟩ 168, (.builtin "__main__.__loader__#opaque")⟩, ⟨PyData.keyHash P ⟨#[95,95,115,112,101,99,95,95]⟩, .str ⟨#[95,95,115,112,101,99,95,95]⟩ 169, .none⟩, ⟨PyData.keyHash P ⟨#[95,95,97,110,110,111,116,97,116,105,111,110,115,95,95]⟩, .str ⟨#[95,95,97,110,110,111,116,97,116,105,111,110,115,95,95]⟩ 170, (.ref 6)⟩, ⟨PyData.keyHash P ⟨#[95,95,98,117,105,108,116,105,110,115,95,95]⟩, .str ⟨#[95,95,98,117,105,108,116,105,110,115,95,95]⟩ 171, (.ref 4)⟩, ⟨PyData.keyHash P ⟨#[95,95,102,105,108,101,95,95]⟩, .str ⟨#[95,95,102,105,108,101,95,95]⟩ 173, (.str ⟨#[47,99,108,97,105,109,47,99,117,116,46,112,121]⟩ 172)⟩, ⟨PyData.keyHash P ⟨#[95,95,99,97,99,104,101,100,95,95]⟩, .str ⟨#[95,95,99,97,99,104,101,100,95,95]⟩ 174, .none⟩, ⟨PyData.keyHash P ⟨#[95,119,97,108,108]⟩, .str ⟨#[95,119,97,108,108]⟩ 193, (.ref 21)⟩, ⟨PyData.keyHash P ⟨#[67,79,77,80,73,76,69,82,95,70,76,65,71,95,78,65,77,69,83]⟩, .str ⟨#[67,79,77,80,73,76,69,82,95,70,76,65,71,95,78,65,77,69,83]⟩ 226, (.ref 22)⟩, ⟨PyData.keyHash P ⟨#[112,114,101,116,116,121,95,102,108,97,103,115]⟩, .str ⟨#[112,114,101,116,116,121,95,102,108,97,103,115]⟩ 236, (.ref 29)⟩, ⟨PyData.keyHash P ⟨#[95,112,97,114,115,101,95,118,97,114,105,110,116]⟩, .str ⟨#[95,112,97,114,115,101,95,118,97,114,105,110,116]⟩ 245, (.ref 36)⟩, ⟨PyData.keyHash P ⟨#[97,100,100]⟩, .str ⟨#[97,100,100]⟩ 255, (.ref 43)⟩, ⟨PyData.keyHash P ⟨#[102,108,111,111,114,100,105,118]⟩, .str ⟨#[102,108,111,111,114,100,105,118]⟩ 263, (.ref 50)⟩, ⟨PyData.keyHash P ⟨#[108,115,104,105,102,116]⟩, .str ⟨#[108,115,104,105,102,116]⟩ 271, (.ref 57)⟩, ⟨PyData.keyHash P ⟨#[109,117,108]⟩, .str ⟨#[109,117,108]⟩ 279, (.ref 64)⟩, ⟨PyData.keyHash P ⟨#[110,101,103]⟩, .str ⟨#[110,101,103]⟩ 286, (.ref 71)⟩, ⟨PyData.keyHash P ⟨#[111,114,95]⟩, .str ⟨#[111,114,95]⟩ 294, (.ref 78)⟩, ⟨PyData.keyHash P ⟨#[115,117,98]⟩, .str ⟨#[115,117,98]⟩ 302, (.ref 85)⟩, ⟨PyData.keyHash P ⟨#[120,111,114]⟩, .str ⟨#[120,111,114]⟩ 310, (.ref 92)⟩, ⟨PyData.keyHash P ⟨#[103,101,116,105,116,101,109]⟩, .str ⟨#[103,101,116,105,116,101,109]⟩ 318, (.ref 99)⟩, ⟨PyData.keyHash P ⟨#[105,110,100,101,120,79,102]⟩, .str ⟨#[105,110,100,101,120,79,102]⟩ 328, (.ref 106)⟩, ⟨PyData.keyHash P ⟨#[98,49,95,115,101,116]⟩, .str ⟨#[98,49,95,115,101,116]⟩ 390, (.ref 114)⟩, ⟨PyData.keyHash P ⟨#[105,110,95,116,97,98,108,101,95,98,49]⟩, .str ⟨#[105,110,95,116,97,98,108,101,95,98,49]⟩ 397, (.ref 124)⟩, ⟨PyData.keyHash P ⟨#[98,51,95,101,120,99,101,112,116,105,111,110,115]⟩, .str ⟨#[98,51,95,101,120,99,101,112,116,105,111,110,115]⟩ 2348, (.ref 125)⟩, ⟨PyData.keyHash P ⟨#[109,97,112,95,116,97,98,108,101,95,98,51]⟩, .str ⟨#[109,97,112,95,116,97,98,108,101,95,98,51]⟩ 2356, (.ref 170)⟩, ⟨PyData.keyHash P ⟨#[87,104,105,116,101,115,112,97,99,101]⟩, .str ⟨#[87,104,105,116,101,115,112,97,99,101]⟩ 2458, (.ref 232)⟩, ⟨PyData.keyHash P ⟨#[95,108,97,119,95,116,121,112,101,100]⟩, .str ⟨#[95,108,97,119,95,116,121,112,101,100]⟩ 2473, (.ref 243)⟩, ⟨PyData.keyHash P ⟨#[95,108,97,119,95,112,114,101,112,97,114,101,100]⟩, .str ⟨#[95,108,97,119,95,112,114,101,112,97,114,101,100]⟩ 2483, (.ref 250)⟩, ⟨PyData.keyHash P ⟨#[95,108,97,119,95,111,99,116,101,116,115]⟩, .str ⟨#[95,108,97,119,95,111,99,116,101,116,115]⟩ 2494, (.ref 257)⟩] 31), #[]⟩
noncomputable def ob_12_26 (P : Params) : Obj := ⟨.none, none, (.fields #[(.int 1 0), (.int 0 0), (.ref 20), (.int 6 0), (.int 0 0), (.ref 28), (.int 18 0), (.int 0 0), (.ref 35), (.int 27 0), (.int 0 0), (.ref 42), (.int 29 0), (.int 0 0), (.ref 49), (.int 31 0), (.int 0 0), (.ref 56), (.int 33 0), (.int 0 0), (.ref 63), (.int 35 0), (.int 0 0), (.ref 70), (.int 37 0), (.int 0 0), (.ref 77), (.int 39 0), (.int 0 0), (.ref 84), (.int 41 0), (.int 0 0), (.ref 91), (.int 43 0), (.int 0 0), (.ref 98), (.int 45 0), (.int 0 0), (.ref 105), (.int 53 0), (.int 0 0), (.ref 123), (.int 56 0), (.int 0 0), (.ref 169), (.int 62 0), (.int 0 0), (.ref 176), (.int 119 0), (.int 0 0), (.ref 242), (.int 130 0), (.int 0 0), (.ref 249), (.int 139 0), (.int 0 0), (.ref 256)]), #[]⟩
noncomputable def ob_251 (P : Params) : Obj := ⟨(.type "tuple"), none, (.seq #[] 0), #[]⟩
noncomputable def ob_252 (P : Params) : Obj := ⟨.none, none, (.fields #[]), #[]⟩
noncomputable def ob_253 (P : Params) : Obj := ⟨(.type "tuple"), none, (.seq #[(.str ⟨#[119,101,105,103,104,116,115]⟩ 2487), (.str ⟨#[116,97,112,101]⟩ 2488), (.str ⟨#[107]⟩ 2489), (.str ⟨#[100,105,103,105,116,115]⟩ 2490), (.str ⟨#[108,101,102,116]⟩ 2491)] 0), #[]⟩
noncomputable def ob_254 (P : Params) : Obj := ⟨(.type "tuple"), none, (.seq #[] 0), #[]⟩
noncomputable def ob_255 (P : Params) : Obj := ⟨.none, none, (.func { name := ⟨#[95,108,97,119,95,111,99,116,101,116,115]⟩, qualname := ⟨#[95,108,97,119,95,111,99,116,101,116,115]⟩, params := (FA 26), body := .stmts (FB 26), scope := (FS 26), globals := 0, closure := [], defaults := .none, kwdefaults := .none, doc := .none, pyModule := .none, annotations := none, code := .none, closureTuple := .none, builtins := 0 }), #[]⟩
noncomputable def ob_256 (P : Params) : Obj := ⟨(.type "code"), none, (.fields #[(.str ⟨#[95,108,97,119,95,111,99,116,101,116,115]⟩ 2484), (.str ⟨#[95,108,97,119,95,111,99,116,101,116,115]⟩ 2485), (.str ⟨#[47,99,108,97,105,109,47,99,117,116,46,112,121]⟩ 2486), (.int 139 0), (.int 1 0), (.int 0 0), (.int 0 0), (.int 3 0), (.ref 251), (.bool true), (.int 181 0), (.ref 252), .none, (.ref 253), (.ref 254), (.ref 255), (.int 2492 0), (.int 139 0), (.str ⟨#[47,99,108,97,105,109,47,99,117,116,46,112,121]⟩ 2493)]), #[]⟩
noncomputable def ob_257 (P : Params) : Obj := ⟨(.type "function"), none, (.func { name := ⟨#[95,108,97,119,95,111,99,116,101,116,115]⟩, qualname := ⟨#[95,108,97,119,95,111,99,116,101,116,115]⟩, params := (FA 26), body := .stmts (FB 26), scope := (FS 26), globals := 3, closure := [], defaults := .none, kwdefaults := .none, doc := .none, pyModule := (.str ⟨#[108,97,119,95,116,99,48,48,55,53,95,48,49]⟩ 2459), annotations := none, code := (.ref 256), closureTuple := .none, builtins := 0 }), #[]⟩
noncomputable def hl_26 (P : Params) (x : Nat → Obj) : List Obj := [boot_o_0 P, boot_o_1 P, boot_o_2 P, ob_3_26 P, boot_o_4 P, boot_o_5 P, boot_o_6 P, boot_o_7 P, boot_o_8 P, boot_o_9 P, boot_o_10 P, ob_11 P, ob_12_26 P, ob_13 P, ob_14 P, ob_15 P, ob_16 P, ob_17 P, ob_18 P, ob_19 P, ob_20 P, ob_21 P, ob_22 P, ob_23 P, ob_24 P, ob_25 P, ob_26 P, ob_27 P, ob_28 P, ob_29 P, ob_30 P, ob_31 P, ob_32 P, ob_33 P, ob_34 P, ob_35 P, ob_36 P, ob_37 P, ob_38 P, ob_39 P, ob_40 P, ob_41 P, ob_42 P, ob_43 P, ob_44 P, ob_45 P, ob_46 P, ob_47 P, ob_48 P, ob_49 P, ob_50 P, ob_51 P, ob_52 P, ob_53 P, ob_54 P, ob_55 P, ob_56 P, ob_57 P, ob_58 P, ob_59 P, ob_60 P, ob_61 P, ob_62 P, ob_63 P, ob_64 P, ob_65 P, ob_66 P, ob_67 P, ob_68 P, ob_69 P, ob_70 P, ob_71 P, ob_72 P, ob_73 P, ob_74 P, ob_75 P, ob_76 P, ob_77 P, ob_78 P, ob_79 P, ob_80 P, ob_81 P, ob_82 P, ob_83 P, ob_84 P, ob_85 P, ob_86 P, ob_87 P, ob_88 P, ob_89 P, ob_90 P, ob_91 P, ob_92 P, ob_93 P, ob_94 P, ob_95 P, ob_96 P, ob_97 P, ob_98 P, ob_99 P, ob_100 P, ob_101 P, ob_102 P, ob_103 P, ob_104 P, ob_105 P, ob_106 P, ob_107 P, ob_108 P, ob_109 P, ob_110 P, ob_111 P, ob_112 P, ob_113 P, ob_114 P, ob_115 P, ob_116 P, ob_117 P, ob_118 P, ob_119 P, ob_120 P, ob_121 P, ob_122 P, ob_123 P, ob_124 P, x 0, x 1, x 2, x 3, x 4, x 5, x 6, x 7, x 8, x 9, x 10, x 11, x 12, x 13, x 14, x 15, x 16, x 17, x 18, x 19, x 20, x 21, x 22, x 23, x 24, x 25, x 26, x 27, x 28, x 29, x 30, x 31, x 32, x 33, x 34, x 35, x 36, x 37, x 38, ob_164 P, ob_165 P, ob_166 P, ob_167 P, ob_168 P, ob_169 P, ob_170 P, ob_171 P, ob_172 P, ob_173 P, ob_174 P, ob_175 P, ob_176 P, ob_177 P, ob_178 P, ob_179 P, ob_180 P, ob_181 P, ob_182 P, ob_183 P, ob_184 P, ob_185 P, ob_186 P, ob_187 P, ob_188 P, ob_189 P, ob_190 P, ob_191 P, ob_192 P, ob_193 P, ob_194 P, ob_195 P, ob_196 P, ob_197 P, ob_198 P, ob_199 P, ob_200 P, ob_201 P, ob_202 P, ob_203 P, ob_204 P, ob_205 P, ob_206 P, ob_207 P, ob_208 P, ob_209 P, ob_210 P, ob_211 P, ob_212 P, ob_213 P, ob_214 P, ob_215 P, ob_216 P, ob_217 P, ob_218 P, ob_219 P, ob_220 P, ob_221 P, ob_222 P, ob_223 P, ob_224 P, ob_225 P, ob_226 P, ob_227 P, ob_228 P, ob_229 P, ob_230 P, ob_231 P, ob_232 P, ob_233 P, ob_234 P, ob_235 P, ob_236 P, ob_237 P, ob_238 P, ob_239 P, ob_240 P, ob_241 P, ob_242 P, ob_243 P, ob_244 P, ob_245 P, ob_246 P, ob_247 P, ob_248 P, ob_249 P, ob_250 P, ob_251 P, ob_252 P, ob_253 P, ob_254 P, ob_255 P, ob_256 P, ob_257 P]
noncomputable def ob_3_27 (P : Params) : Obj := ⟨(.type "dict"), none, (.dict #[⟨PyData.keyHash P ⟨#[95,95,110,97,109,101,95,95]⟩, .str ⟨#[95,95,110,97,109,101,95,95]⟩ 165, (.str ⟨#[108,97,119,95,116,99,48,48,55,53,95,48,49]⟩ 2459)⟩, ⟨PyData.keyHash P ⟨#[95,95,100,111,99,95,95]⟩, .str ⟨#[95,95,100,111,99,95,95]⟩ 166, .none⟩, ⟨PyData.keyHash P ⟨#[95,95,112,97,99,107,97,103,101,95,95]⟩, .str ⟨#[95,95,112,97,99,107,97,103,101,95,95]⟩ 167, .none⟩, ⟨PyData.keyHash P ⟨#[95,95,108,111,97,100,101,114,95,95]⟩, .str ⟨#[95,95,108,111,97,100,101,114,95,95]⟩ 168, (.builtin "__main__.__loader__#opaque")⟩, ⟨PyData.keyHash P ⟨#[95,95,115,112,101,99,95,95]⟩, .str ⟨#[95,95,115,112,101,99,95,95]⟩ 169, .none⟩, ⟨PyData.keyHash P ⟨#[95,95,97,110,110,111,116,97,116,105,111,110,115,95,95]⟩, .str ⟨#[95,95,97,110,110,111,116,97,116,105,111,110,115,95,95]⟩ 170, (.ref 6)⟩, ⟨PyData.keyHash P ⟨#[95,95,98,117,105,108,116,105,110,115,95,95]⟩, .str ⟨#[95,95,98,117,105,108,116,105,110,115,95,95]⟩ 171, (.ref 4)⟩, ⟨PyData.keyHash P ⟨#[95,95,102,105,108,101,95,95]⟩, .str ⟨#[95,95,102,105,108,101,95,95]⟩ 173, (.str ⟨#[47,99,108,97,105,109,47,99,117,116,46,112,121]⟩ 172)⟩, ⟨PyData.keyHash P ⟨#[95,95,99,97,99,104,101,100,95,95]⟩, .str ⟨#[95,95,99,97,99,104,101,100,95,95]⟩ 174, .none⟩, ⟨PyData.keyHash P ⟨#[95,119,97,108,108]⟩, .str ⟨#[95,119,97,108,108]⟩ 193, (.ref 21)⟩, ⟨PyData.keyHash P ⟨#[67,79,77,80,73,76,69,82,95,70,76,65,71,95,78,65,77,69,83]⟩, .str ⟨#[67,79,77,80,73,76,69,82,95,70,76,65,71,95,78,65,77,69,83]⟩ 226, (.ref 22)⟩, ⟨PyData.keyHash P ⟨#[112,114,101,116,116,121,95,102,108,97,103,115]⟩, .str ⟨#[112,114,101,116,116,121,95,102,108,97,103,115]⟩ 236, (.ref 29)⟩, ⟨PyData.keyHash P ⟨#[95,112,97,114,115,101,95,118,97,114,105,110,116]⟩, .str ⟨#[95,112,97,114,115,101,95,118,97,114,105,110,116]⟩ 245, (.ref 36)⟩, ⟨PyData.keyHash P ⟨#[97,100,100]⟩, .str ⟨#[97,100,100]⟩ 255, (.ref 43)⟩, ⟨PyData.keyHash P ⟨#[102,108,111,111,114,100,105,118]⟩, .str ⟨#[102,108,111,111,114,100,105,118]⟩ 263, (.ref 50)⟩, ⟨PyData.keyHash P ⟨#[108,115,104,105,102,116]⟩, .str ⟨#[108,115,104,105,102,116]⟩ 271, (.ref 57)⟩, ⟨PyData.keyHash P ⟨#[109,117,108]⟩, .str ⟨#[109,117,108]⟩ 279, (.ref 64)⟩, ⟨PyData.keyHash P ⟨#[110,101,103]⟩, .str ⟨#[110,101,103]⟩ 286, (.ref 71)⟩, ⟨PyData.keyHash P ⟨#[111,114,95]⟩, .str ⟨#[111,114,95]⟩ 294, (.ref 78)⟩, ⟨PyData.keyHash P ⟨#[115,117,98]⟩, .str ⟨#[115,117,98]⟩ 302, (.ref 85)⟩, ⟨PyData.keyHash P ⟨#[120,111,114]⟩, .str ⟨#[120,111,114]⟩ 310, (.ref 92)⟩, ⟨PyData.keyHash P ⟨#[103,101,116,105,116,101,109]⟩, .str ⟨#[103,101,116,105,116,101,109]⟩ 318, (.ref 99)⟩, ⟨PyData.keyHash P ⟨#[105,110,100,101,120,79,102]⟩, .str ⟨#[105,110,100,101,120,79,102]⟩ 328, (.ref 106)⟩, ⟨PyData.keyHash P ⟨#[98,49,95,115,101,116]⟩, .str ⟨#[98,49,95,115,101,116]⟩ 390, (.ref 114)⟩, ⟨PyData.keyHash P ⟨#[105,110,95,116,97,98,108,101,95,98,49]⟩, .str ⟨#[105,110,95,116,97,98,108,101,95,98,49]⟩ 397, (.ref 124)⟩, ⟨PyData.keyHash P ⟨#[98,51,95,101,120,99,101,112,116,105,111,110,115]⟩, .str ⟨#[98,51,95,101,120,99,101,112,116,105,111,110,115]⟩ 2348, (.ref 125)⟩, ⟨PyData.keyHash P ⟨#[109,97,112,95,116,97,98,108,101,95,98,51]⟩, .str ⟨#[109,97,112,95,116,97,98,108,101,95,98,51]⟩ 2356, (.ref 170)⟩, ⟨PyData.keyHash P ⟨#[87,104,105,116,101,115,112,97,99,101]⟩, .str ⟨#[87,104,105,116,101,115,112,97,99,101]⟩ 2458, (.ref 232)⟩, ⟨PyData.keyHash P ⟨#[95,108,97,119,95,116,121,112,101,100]⟩, .str ⟨#[95,108,97,119,95,116,121,112,101,100]⟩ 2473, (.ref 243)⟩, ⟨PyData.keyHash P ⟨#[95,108,97,119,95,112,114,101,112,97,114,101,100]⟩, .str ⟨#[95,108,97,119,95,112,114,101,112,97,114,101,100]⟩ 2483, (.ref 250)⟩, ⟨PyData.keyHash P ⟨#[95,108,97,119,95,111,99,116,101,116,115]⟩, .str ⟨#[95,108,97,119,95,111,99,116,101,116,115]⟩ 2494, (.ref 257)⟩, ⟨PyData.keyHash P ⟨#[95,108,97,119,95,97,112,97,114,116]⟩, .str ⟨#[95,108,97,119,95,97,112,97,114,116]⟩ 2500, (.ref 262)⟩] 32), #[]⟩
noncomputable def ob_12_27 (P : Params) : Obj := ⟨.none, none, (.fields #[(.int 1 0), (.int 0 0), (.ref 20), (.int 6 0), (.int 0 0), (.ref 28), (.int 18 0), (.int 0 0), (.ref 35), (.int 27 0), (.int 0 0), (.ref 42), (.int 29 0), (.int 0 0), (.ref 49), (.int 31 0), (.int 0 0), (.ref 56), (.int 33 0), (.int 0 0), (.ref 63), (.int 35 0), (.int 0 0), (.ref 70), (.int 37 0), (.int 0 0), (.ref 77), (.int 39 0), (.int 0 0), (.ref 84), (.int 41 0), (.int 0 0), (.ref 91), (.int 43 0), (.int 0 0), (.ref 98), (.int 45 0), (.int 0 0), (.ref 105), (.int 53 0), (.int 0 0), (.ref 123), (.int 56 0), (.int 0 0), (.ref 169), (.int 62 0), (.int 0 0), (.ref 176), (.int 119 0), (.int 0 0), (.ref 242), (.int 130 0), (.int 0 0), (.ref 249), (.int 139 0), (.int 0 0), (.ref 256), (.int 149 0), (.int 0 0), (.ref 261)]), #[]⟩
noncomputable def ob_258 (P : Params) : Obj := ⟨(.type "tuple"), none, (.seq #[] 0), #[]⟩
noncomputable def ob_259 (P : Params) : Obj := ⟨.none, none, (.fields #[]), #[]⟩
noncomputable def ob_260 (P : Params) : Obj := ⟨.none, none, (.func { name := ⟨#[95,108,97,119,95,97,112,97,114,116]⟩, qualname := ⟨#[95,108,97,119,95,97,112,97,114,116]⟩, params := (FA 27), body := .stmts (FB 27), scope := (FS 27), globals := 0, closure := [], defaults := .none, kwdefaults := .none, doc := .none, pyModule := .none, annotations := none, code := .none, closureTuple := .none, builtins := 0 }), #[]⟩
noncomputable def ob_261 (P : Params) : Obj := ⟨(.type "code"), none, (.fields #[(.str ⟨#[95,108,97,119,95,97,112,97,114,116]⟩ 2495), (.str ⟨#[95,108,97,119,95,97,112,97,114,116]⟩ 2496), (.str ⟨#[47,99,108,97,105,109,47,99,117,116,46,112,121]⟩ 2497), (.int 149 0), (.int 5 0), (.int 0 0), (.int 0 0), (.int 3 0), (.ref 258), (.bool true), (.int 181 0), (.ref 259), .none, .none, .none, (.ref 260), (.int 2498 0), (.int 149 0), (.str ⟨#[47,99,108,97,105,109,47,99,117,116,46,112,121]⟩ 2499)]), #[]⟩
noncomputable def ob_262 (P : Params) : Obj := ⟨(.type "function"), none, (.func { name := ⟨#[95,108,97,119,95,97,112,97,114,116]⟩, qualname := ⟨#[95,108,97,119,95,97,112,97,114,116]⟩, params := (FA 27), body := .stmts (FB 27), scope := (FS 27), globals := 3, closure := [], defaults := .none, kwdefaults := .none, doc := .none, pyModule := (.str ⟨#[108,97,119,95,116,99,48,48,55,53,95,48,49]⟩ 2459), annotations := none, code := (.ref 261), closureTuple := .none, builtins := 0 }), #[]⟩
noncomputable def hl_27 (P : Params) (x : Nat → Obj) : List Obj := [boot_o_0 P, boot_o_1 P, boot_o_2 P, ob_3_27 P, boot_o_4 P, boot_o_5 P, boot_o_6 P, boot_o_7 P, boot_o_8 P, boot_o_9 P, boot_o_10 P, ob_11 P, ob_12_27 P, ob_13 P, ob_14 P, ob_15 P, ob_16 P, ob_17 P, ob_18 P, ob_19 P, ob_20 P, ob_21 P, ob_22 P, ob_23 P, ob_24 P, ob_25 P, ob_26 P, ob_27 P, ob_28 P, ob_29 P, ob_30 P, ob_31 P, ob_32 P, ob_33 P, ob_34 P, ob_35 P, ob_36 P, ob_37 P, ob_38 P, ob_39 P, ob_40 P, ob_41 P, ob_42 P, ob_43 P, ob_44 P, ob_45 P, ob_46 P, ob_47 P, ob_48 P, ob_49 P, ob_50 P, ob_51 P, ob_52 P, ob_53 P, ob_54 P, ob_55 P, ob_56 P, ob_57 P, ob_58 P, ob_59 P, ob_60 P, ob_61 P, ob_62 P, ob_63 P, ob_64 P, ob_65 P, ob_66 P, ob_67 P, ob_68 P, ob_69 P, ob_70 P, ob_71 P, ob_72 P, ob_73 P, ob_74 P, ob_75 P, ob_76 P, ob_77 P, ob_78 P, ob_79 P, ob_80 P, ob_81 P, ob_82 P, ob_83 P, ob_84 P, ob_85 P, ob_86 P, ob_87 P, ob_88 P, ob_89 P, ob_90 P, ob_91 P, ob_92 P, ob_93 P, ob_94 P, ob_95 P, ob_96 P, ob_97 P, ob_98 P, ob_99 P, ob_100 P, ob_101 P, ob_102 P, ob_103 P, ob_104 P, ob_105 P, ob_106 P, ob_107 P, ob_108 P, ob_109 P, ob_110 P, ob_111 P, ob_112 P, ob_113 P, ob_114 P, ob_115 P, ob_116 P, ob_117 P, ob_118 P, ob_119 P, ob_120 P, ob_121 P, ob_122 P, ob_123 P, ob_124 P, x 0, x 1, x 2, x 3, x 4, x 5, x 6, x 7, x 8, x 9, x 10, x 11, x 12, x 13, x 14, x 15, x 16, x 17, x 18, x 19, x 20, x 21, x 22, x 23, x 24, x 25, x 26, x 27, x 28, x 29, x 30, x 31, x 32, x 33, x 34, x 35, x 36, x 37, x 38, ob_164 P, ob_165 P, ob_166 P, ob_167 P, ob_168 P, ob_169 P, ob_170 P, ob_171 P, ob_172 P, ob_173 P, ob_174 P, ob_175 P, ob_176 P, ob_177 P, ob_178 P, ob_179 P, ob_180 P, ob_181 P, ob_182 P, ob_183 P, ob_184 P, ob_185 P, ob_186 P, ob_187 P, ob_188 P, ob_189 P, ob_190 P, ob_191 P, ob_192 P, ob_193 P, ob_194 P, ob_195 P, ob_196 P, ob_197 P, ob_198 P, ob_199 P, ob_200 P, ob_201 P, ob_202 P, ob_203 P, ob_204 P, ob_205 P, ob_206 P, ob_207 P, ob_208 P, ob_209 P, ob_210 P, ob_211 P, ob_212 P, ob_213 P, ob_214 P, ob_215 P, ob_216 P, ob_217 P, ob_218 P, ob_219 P, ob_220 P, ob_221 P, ob_222 P, ob_223 P, ob_224 P, ob_225 P, ob_226 P, ob_227 P, ob_228 P, ob_229 P, ob_230 P, ob_231 P, ob_232 P, ob_233 P, ob_234 P, ob_235 P, ob_236 P, ob_237 P, ob_238 P, ob_239 P, ob_240 P, ob_241 P, ob_242 P, ob_243 P, ob_244 P, ob_245 P, ob_246 P, ob_247 P, ob_248 P, ob_249 P, ob_250 P, ob_251 P, ob_252 P, ob_253 P, ob_254 P, ob_255 P, ob_256 P, ob_257 P, ob_258 P, ob_259 P, ob_260 P, ob_261 P, ob_262 P]
noncomputable def ob_3_28 (P : Params) : Obj := ⟨(.type "dict"), none, (.dict #[⟨PyData.keyHash P ⟨#[95,95,110,97,109,101,95,95]⟩, .str ⟨#[95,95,110,97,109,101,95,95]⟩ 165, (.str ⟨#[108,97,119,95,116,99,48,48,55,53,95,48,49]⟩ 2459)⟩, ⟨PyData.keyHash P ⟨#[95,95,100,111,99,95,95]⟩, .str ⟨#[95,95,100,111,99,95,95]⟩ 166, .none⟩, ⟨PyData.keyHash P ⟨#[95,95,112,97,99,107,97,103,101,95,95]⟩, .str ⟨#[95,95,112,97,99,107,97,103,101,95,95]⟩ 167, .none⟩, ⟨PyData.keyHash P ⟨#[95,95,108,111,97,100,101,114,95,95]⟩, .str ⟨#[95,95,108,111,97,100,101,114,95,95]⟩ 168, (.builtin "__main__.__loader__#opaque")⟩, ⟨PyData.keyHash P ⟨#[95,95,115,112,101,99,95,95]⟩, .str ⟨#[95,95,115,112,101,99,95,95]⟩ 169, .none⟩, ⟨PyData.keyHash P ⟨#[95,95,97,110,110,111,116,97,116,105,111,110,115,95,95]⟩, .str ⟨#[95,95,97,110,110,111,116,97,116,105,111,110,115,95,95]⟩ 170, (.ref 6)⟩, ⟨PyData.keyHash P ⟨#[95,95,98,117,105,108,116,105,110,115,95,95]⟩, .str ⟨#[95,95,98,117,105,108,116,105,110,115,95,95]⟩ 171, (.ref 4)⟩, ⟨PyData.keyHash P ⟨#[95,95,102,105,108,101,95,95]⟩, .str ⟨#[95,95,102,105,108,101,95,95]⟩ 173, (.str ⟨#[47,99,108,97,105,109,47,99,117,116,46,112,121]⟩ 172)⟩, ⟨PyData.keyHash P ⟨#[95,95,99,97,99,104,101,100,95,95]⟩, .str ⟨#[95,95,99,97,99,104,101,100,95,95]⟩ 174, .none⟩, ⟨PyData.keyHash P ⟨#[95,119,97,108,108]⟩, .str ⟨#[95,119,97,108,108]⟩ 193, (.ref 21)⟩, ⟨PyData.keyHash P ⟨#[67,79,77,80,73,76,69,82,95,70,76,65,71,95,78,65,77,69,83]⟩, .str ⟨#[67,79,77,80,73,76,69,82,95,70,76,65,71,95,78,65,77,69,83]⟩ 226, (.ref 22)⟩, ⟨PyData.keyHash P ⟨#[112,114,101,116,116,121,95,102,108,97,103,115]⟩, .str ⟨#[112,114,101,116,116,121,95,102,108,97,103,115]⟩ 236, (.ref 29)⟩, ⟨PyData.keyHash P ⟨#[95,112,97,114,115,101,95,118,97,114,105,110,116]⟩, .str ⟨#[95,112,97,114,115,101,95,118,97,114,105,110,116]⟩ 245, (.ref 36)⟩, ⟨PyData.keyHash P ⟨#[97,100,100]⟩, .str ⟨#[97,100,100]⟩ 255, (.ref 43)⟩, ⟨PyData.keyHash P ⟨#[102,108,111,111,114,100,105,118]⟩, .str ⟨#[102,108,111,111,114,100,105,118]⟩ 263, (.ref 50)⟩, ⟨PyData.keyHash P ⟨#[108,115,104,105,102,116]⟩, .str ⟨#[108,115,104,105,102,116]⟩ 271, (.ref 57)⟩, ⟨PyData.keyHash P ⟨#[109,117,108]⟩, .str ⟨#[109,117,108]⟩ 279, (.ref 64)⟩, ⟨PyData.keyHash P ⟨#[110,101,103]⟩, .str ⟨#[110,101,103]⟩ 286, (.ref 71)⟩, ⟨PyData.keyHash P ⟨#[111,114,95]⟩, .str ⟨#[111,114,95]⟩ 294, (.ref 78)⟩, ⟨PyData.keyHash P ⟨#[115,117,98]⟩, .str ⟨#[115,117,98]⟩ 302, (.ref 85)⟩, ⟨PyData.keyHash P ⟨#[120,111,114]⟩, .str ⟨#[120,111,114]⟩ 310, (.ref 92)⟩, ⟨PyData.keyHash P ⟨#[103,101,116,105,116,101,109]⟩, .str ⟨#[103,101,116,105,116,101,109]⟩ 318, (.ref 99)⟩, ⟨PyData.keyHash P ⟨#[105,110,100,101,120,79,102]⟩, .str ⟨#[105,110,100,101,120,79,102]⟩ 328, (.ref 106)⟩, ⟨PyData.keyHash P ⟨#[98,49,95,115,101,116]⟩, .str ⟨#[98,49,95,115,101,116]⟩ 390, (.ref 114)⟩, ⟨PyData.keyHash P ⟨#[105,110,95,116,97,98,108,101,95,98,49]⟩, .str ⟨#[105,110,95,116,97,98,108,101,95,98,49]⟩ 397, (.ref 124)⟩, ⟨PyData.keyHash P ⟨#[98,51,95,101,120,99,101,112,116,105,111,110,115]⟩, .str ⟨#[98,51,95,101,120,99,101,112,116,105,111,110,115]⟩ 2348, (.ref 125)⟩, ⟨PyData.keyHash P ⟨#[109,97,112,95,116,97,98,108,101,95,98,51]⟩, .str ⟨#[109,97,112,95,116,97,98,108,101,95,98,51]⟩ 2356, (.ref 170)⟩, ⟨PyData.keyHash P ⟨#[87,104,105,116,101,115,112,97,99,101]⟩, .str ⟨#[87,104,105,116,101,115,112,97,99,101]⟩ 2458, (.ref 232)⟩, ⟨PyData.keyHash P ⟨#[95,108,97,119,95,116,121,112,101,100]⟩, .str ⟨#[95,108,97,119,95,116,121,112,101,100]⟩ 2473, (.ref 243)⟩, ⟨PyData.keyHash P ⟨#[95,108,97,119,95,112,114,101,112,97,114,101,100]⟩, .str ⟨#[95,108,97,119,95,112,114,101,112,97,114,101,100]⟩ 2483, (.ref 250)⟩, ⟨PyData.keyHash P ⟨#[95,108,97,119,95,111,99,116,101,116,115]⟩, .str ⟨#[95,108,97,119,95,111,99,116,101,116,115]⟩ 2494, (.ref 257)⟩, ⟨PyData.keyHash P ⟨#[95,108,97,119,95,97,112,97,114,116]⟩, .str ⟨#[95,108,97,119,95,97,112,97,114,116]⟩ 2500, (.ref 262)⟩, ⟨PyData.keyHash P ⟨#[95,108,97,119,95,100,101,116,101,114,109,105,110,97,110,116]⟩, .str ⟨#[95,108,97,119,95,100,101,116,101,114,109,105,110,97,110,116]⟩ 2506, (.ref 267)⟩] 33), #[]⟩
noncomputable def ob_12_28 (P : Params) : Obj := ⟨.none, none, (.fields #[(.int 1 0), (.int 0 0), (.ref 20), (.int 6 0), (.int 0 0), (.ref 28), (.int 18 0), (.int 0 0), (.ref 35), (.int 27 0), (.int 0 0), (.ref 42), (.int 29 0), (.int 0 0), (.ref 49), (.int 31 0), (.int 0 0), (.ref 56), (.int 33 0), (.int 0 0), (.ref 63), (.int 35 0), (.int 0 0), (.ref 70), (.int 37 0), (.int 0 0), (.ref 77), (.int 39 0), (.int 0 0), (.ref 84), (.int 41 0), (.int 0 0), (.ref 91), (.int 43 0), (.int 0 0), (.ref 98), (.int 45 0), (.int 0 0), (.ref 105), (.int 53 0), (.int 0 0), (.ref 123), (.int 56 0), (.int 0 0), (.ref 169), (.int 62 0), (.int 0 0), (.ref 176), (.int 119 0), (.int 0 0), (.ref 242), (.int 130 0), (.int 0 0), (.ref 249), (.int 139 0), (.int 0 0), (.ref 256), (.int 149 0), (.int 0 0), (.ref 261), (.int 169 0), (.int 0 0), (.ref 266)]), #[]⟩
noncomputable def ob_263 (P : Params) : Obj := ⟨(.type "tuple"), none, (.seq #[] 0), #[]⟩
noncomputable def ob_264 (P : Params) : Obj := ⟨.none, none, (.fields #[]), #[]⟩
noncomputable def ob_265 (P : Params) : Obj := ⟨.none, none, (.func { name := ⟨#[95,108,97,119,95,100,101,116,101,114,109,105,110,97,110,116]⟩, qualname := ⟨#[95,108,97,119,95,100,101,116,101,114,109,105,110,97,110,116]⟩, params := (FA 28), body := .stmts (FB 28), scope := (FS 28), globals := 0, closure := [], defaults := .none, kwdefaults := .none, doc := .none, pyModule := .none, annotations := none, code := .none, closureTuple := .none, builtins := 0 }), #[]⟩
noncomputable def ob_266 (P : Params) : Obj := ⟨(.type "code"), none, (.fields #[(.str ⟨#[95,108,97,119,95,100,101,116,101,114,109,105,110,97,110,116]⟩ 2501), (.str ⟨#[95,108,97,119,95,100,101,116,101,114,109,105,110,97,110,116]⟩ 2502), (.str ⟨#[47,99,108,97,105,109,47,99,117,116,46,112,121]⟩ 2503), (.int 169 0), (.int 1 0), (.int 0 0), (.int 0 0), (.int 3 0), (.ref 263), (.bool true), (.int 181 0), (.ref 264), .none, .none, .none, (.ref 265), (.int 2504 0), (.int 169 0), (.str ⟨#[47,99,108,97,105,109,47,99,117,116,46,112,121]⟩ 2505)]), #[]⟩
noncomputable def ob_267 (P : Params) : Obj := ⟨(.type "function"), none, (.func { name := ⟨#[95,108,97,119,95,100,101,116,101,114,109,105,110,97,110,116]⟩, qualname := ⟨#[95,108,97,119,95,100,101,116,101,114,109,105,110,97,110,116]⟩, params := (FA 28), body := .stmts (FB 28), scope := (FS 28), globals := 3, closure := [], defaults := .none, kwdefaults := .none, doc := .none, pyModule := (.str ⟨#[108,97,119,95,116,99,48,48,55,53,95,48,49]⟩ 2459), annotations := none, code := (.ref 266), closureTuple := .none, builtins := 0 }), #[]⟩
noncomputable def hl_28 (P : Params) (x : Nat → Obj) : List Obj := [boot_o_0 P, boot_o_1 P, boot_o_2 P, ob_3_28 P, boot_o_4 P, boot_o_5 P, boot_o_6 P, boot_o_7 P, boot_o_8 P, boot_o_9 P, boot_o_10 P, ob_11 P, ob_12_28 P, ob_13 P, ob_14 P, ob_15 P, ob_16 P, ob_17 P, ob_18 P, ob_19 P, ob_20 P, ob_21 P, ob_22 P, ob_23 P, ob_24 P, ob_25 P, ob_26 P, ob_27 P, ob_28 P, ob_29 P, ob_30 P, ob_31 P, ob_32 P, ob_33 P, ob_34 P, ob_35 P, ob_36 P, ob_37 P, ob_38 P, ob_39 P, ob_40 P, ob_41 P, ob_42 P, ob_43 P, ob_44 P, ob_45 P, ob_46 P, ob_47 P, ob_48 P, ob_49 P, ob_50 P, ob_51 P, ob_52 P, ob_53 P, ob_54 P, ob_55 P, ob_56 P, ob_57 P, ob_58 P, ob_59 P, ob_60 P, ob_61 P, ob_62 P, ob_63 P, ob_64 P, ob_65 P, ob_66 P, ob_67 P, ob_68 P, ob_69 P, ob_70 P, ob_71 P, ob_72 P, ob_73 P, ob_74 P, ob_75 P, ob_76 P, ob_77 P, ob_78 P, ob_79 P, ob_80 P, ob_81 P, ob_82 P, ob_83 P, ob_84 P, ob_85 P, ob_86 P, ob_87 P, ob_88 P, ob_89 P, ob_90 P, ob_91 P, ob_92 P, ob_93 P, ob_94 P, ob_95 P, ob_96 P, ob_97 P, ob_98 P, ob_99 P, ob_100 P, ob_101 P, ob_102 P, ob_103 P, ob_104 P, ob_105 P, ob_106 P, ob_107 P, ob_108 P, ob_109 P, ob_110 P, ob_111 P, ob_112 P, ob_113 P, ob_114 P, ob_115 P, ob_116 P, ob_117 P, ob_118 P, ob_119 P, ob_120 P, ob_121 P, ob_122 P, ob_123 P, ob_124 P, x 0, x 1, x 2, x 3, x 4, x 5, x 6, x 7, x 8, x 9, x 10, x 11, x 12, x 13, x 14, x 15, x 16, x 17, x 18, x 19, x 20, x 21, x 22, x 23, x 24, x 25, x 26, x 27, x 28, x 29, x 30, x 31, x 32, x 33, x 34, x 35, x 36, x 37, x 38, ob_164 P, ob_165 P, ob_166 P, ob_167 P, ob_168 P, ob_169 P, ob_170 P, ob_171 P, ob_172 P, ob_173 P, ob_174 P, ob_175 P, ob_176 P, ob_177 P, ob_178 P, ob_179 P, ob_180 P, ob_181 P, ob_182 P, ob_183 P, ob_184 P, ob_185 P, ob_186 P, ob_187 P, ob_188 P, ob_189 P, ob_190 P, ob_191 P, ob_192 P, ob_193 P, ob_194 P, ob_195 P, ob_196 P, ob_197 P, ob_198 P, ob_199 P, ob_200 P, ob_201 P, ob_202 P, ob_203 P, ob_204 P, ob_205 P, ob_206 P, ob_207 P, ob_208 P, ob_209 P, ob_210 P, ob_211 P, ob_212 P, ob_213 P, ob_214 P, ob_215 P, ob_216 P, ob_217 P, ob_218 P, ob_219 P, ob_220 P, ob_221 P, ob_222 P, ob_223 P, ob_224 P, ob_225 P, ob_226 P, ob_227 P, ob_228 P, ob_229 P, ob_230 P, ob_231 P, ob_232 P, ob_233 P, ob_234 P, ob_235 P, ob_236 P, ob_237 P, ob_238 P, ob_239 P, ob_240 P, ob_241 P, ob_242 P, ob_243 P, ob_244 P, ob_245 P, ob_246 P, ob_247 P, ob_248 P, ob_249 P, ob_250 P, ob_251 P, ob_252 P, ob_253 P, ob_254 P, ob_255 P, ob_256 P, ob_257 P, ob_258 P, ob_259 P, ob_260 P, ob_261 P, ob_262 P, ob_263 P, ob_264 P, ob_265 P, ob_266 P, ob_267 P]
noncomputable def ob_3_29 (P : Params) : Obj := ⟨(.type "dict"), none, (.dict #[⟨PyData.keyHash P ⟨#[95,95,110,97,109,101,95,95]⟩, .str ⟨#[95,95,110,97,109,101,95,95]⟩ 165, (.str ⟨#[108,97,119,95,116,99,48,48,55,53,95,48,49]⟩ 2459)⟩, ⟨PyData.keyHash P ⟨#[95,95,100,111,99,95,95]⟩, .str ⟨#[95,95,100,111,99,95,95]⟩ 166, .none⟩, ⟨PyData.keyHash P ⟨#[95,95,112,97,99,107,97,103,101,95,95]⟩, .str ⟨#[95,95,112,97,99,107,97,103,101,95,95]⟩ 167, .none⟩, ⟨PyData.keyHash P ⟨#[95,95,108,111,97,100,101,114,95,95]⟩, .str ⟨#[95,95,108,111,97,100,101,114,95,95]⟩ 168, (.builtin "__main__.__loader__#opaque")⟩, ⟨PyData.keyHash P ⟨#[95,95,115,112,101,99,95,95]⟩, .str ⟨#[95,95,115,112,101,99,95,95]⟩ 169, .none⟩, ⟨PyData.keyHash P ⟨#[95,95,97,110,110,111,116,97,116,105,111,110,115,95,95]⟩, .str ⟨#[95,95,97,110,110,111,116,97,116,105,111,110,115,95,95]⟩ 170, (.ref 6)⟩, ⟨PyData.keyHash P ⟨#[95,95,98,117,105,108,116,105,110,115,95,95]⟩, .str ⟨#[95,95,98,117,105,108,116,105,110,115,95,95]⟩ 171, (.ref 4)⟩, ⟨PyData.keyHash P ⟨#[95,95,102,105,108,101,95,95]⟩, .str ⟨#[95,95,102,105,108,101,95,95]⟩ 173, (.str ⟨#[47,99,108,97,105,109,47,99,117,116,46,112,121]⟩ 172)⟩, ⟨PyData.keyHash P ⟨#[95,95,99,97,99,104,101,100,95,95]⟩, .str ⟨#[95,95,99,97,99,104,101,100,95,95]⟩ 174, .none⟩, ⟨PyData.keyHash P ⟨#[95,119,97,108,108]⟩, .str ⟨#[95,119,97,108,108]⟩ 193, (.ref 21)⟩, ⟨PyData.keyHash P ⟨#[67,79,77,80,73,76,69,82,95,70,76,65,71,95,78,65,77,69,83]⟩, .str ⟨#[67,79,77,80,73,76,69,82,95,70,76,65,71,95,78,65,77,69,83]⟩ 226, (.ref 22)⟩, ⟨PyData.keyHash P ⟨#[112,114,101,116,116,121,95,102,108,97,103,115]⟩, .str ⟨#[112,114,101,116,116,121,95,102,108,97,103,115]⟩ 236, (.ref 29)⟩, ⟨PyData.keyHash P ⟨#[95,112,97,114,115,101,95,118,97,114,105,110,116]⟩, .str ⟨#[95,112,97,114,115,101,95,118,97,114,105,110,116]⟩ 245, (.ref 36)⟩, ⟨PyData.keyHash P ⟨#[97,100,100]⟩, .str ⟨#[97,100,100]⟩ 255, (.ref 43)⟩, ⟨PyData.keyHash P ⟨#[102,108,111,111,114,100,105,118]⟩, .str ⟨#[102,108,111,111,114,100,105,118]⟩ 263, (.ref 50)⟩, ⟨PyData.keyHash P ⟨#[108,115,104,105,102,116]⟩, .str ⟨#[108,115,104,105,102,116]⟩ 271, (.ref 57)⟩, ⟨PyData.keyHash P ⟨#[109,117,108]⟩, .str ⟨#[109,117,108]⟩ 279, (.ref 64)⟩, ⟨PyData.keyHash P ⟨#[110,101,103]⟩, .str ⟨#[110,101,103]⟩ 286, (.ref 71)⟩, ⟨PyData.keyHash P ⟨#[111,114,95]⟩, .str ⟨#[111,114,95]⟩ 294, (.ref 78)⟩, ⟨PyData.keyHash P ⟨#[115,117,98]⟩, .str ⟨#[115,117,98]⟩ 302, (.ref 85)⟩, ⟨PyData.keyHash P ⟨#[120,111,114]⟩, .str ⟨#[120,111,114]⟩ 310, (.ref 92)⟩, ⟨PyData.keyHash P ⟨#[103,101,116,105,116,101,109]⟩, .str ⟨#[103,101,116,105,116,101,109]⟩ 318, (.ref 99)⟩, ⟨PyData.keyHash P ⟨#[105,110,100,101,120,79,102]⟩, .str ⟨#[105,110,100,101,120,79,102]⟩ 328, (.ref 106)⟩, ⟨PyData.keyHash P ⟨#[98,49,95,115,101,116]⟩, .str ⟨#[98,49,95,115,101,116]⟩ 390, (.ref 114)⟩, ⟨PyData.keyHash P ⟨#[105,110,95,116,97,98,108,101,95,98,49]⟩, .str ⟨#[105,110,95,116,97,98,108,101,95,98,49]⟩ 397, (.ref 124)⟩, ⟨PyData.keyHash P ⟨#[98,51,95,101,120,99,101,112,116,105,111,110,115]⟩, .str ⟨#[98,51,95,101,120,99,101,112,116,105,111,110,115]⟩ 2348, (.ref 125)⟩, ⟨PyData.keyHash P ⟨#[109,97,112,95,116,97,98,108,101,95,98,51]⟩, .str ⟨#[109,97,112,95,116,97,98,108,101,95,98,51]⟩ 2356, (.ref 170)⟩, ⟨PyData.keyHash P ⟨#[87,104,105,116,101,115,112,97,99,101]⟩, .str ⟨#[87,104,105,116,101,115,112,97,99,101]⟩ 2458, (.ref 232)⟩, ⟨PyData.keyHash P ⟨#[95,108,97,119,95,116,121,112,101,100]⟩, .str ⟨#[95,108,97,119,95,116,121,112,101,100]⟩ 2473, (.ref 243)⟩, ⟨PyData.keyHash P ⟨#[95,108,97,119,95,112,114,101,112,97,114,101,100]⟩, .str ⟨#[95,108,97,119,95,112,114,101,112,97,114,101,100]⟩ 2483, (.ref 250)⟩, ⟨PyData.keyHash P ⟨#[95,108,97,119,95,111,99,116,101,116,115]⟩, .str ⟨#[95,108,97,119,95,111,99,116,101,116,115]⟩ 2494, (.ref 257)⟩, ⟨PyData.keyHash P ⟨#[95,108,97,119,95,97,112,97,114,116]⟩, .str ⟨#[95,108,97,119,95,97,112,97,114,116]⟩ 2500, (.ref 262)⟩, ⟨PyData.keyHash P ⟨#[95,108,97,119,95,100,101,116,101,114,109,105,110,97,110,116]⟩, .str ⟨#[95,108,97,119,95,100,101,116,101,114,109,105,110,97,110,116]⟩ 2506, (.ref 267)⟩, ⟨PyData.keyHash P ⟨#[108,97,119]⟩, .str ⟨#[108,97,119]⟩ 2512, (.ref 272)⟩] 34), #[]⟩
noncomputable def ob_12_29 (P : Params) : Obj := ⟨.none, none, (.fields #[(.int 1 0), (.int 0 0), (.ref 20), (.int 6 0), (.int 0 0), (.ref 28), (.int 18 0), (.int 0 0), (.ref 35), (.int 27 0), (.int 0 0), (.ref 42), (.int 29 0), (.int 0 0), (.ref 49), (.int 31 0), (.int 0 0), (.ref 56), (.int 33 0), (.int 0 0), (.ref 63), (.int 35 0), (.int 0 0), (.ref 70), (.int 37 0), (.int 0 0), (.ref 77), (.int 39 0), (.int 0 0), (.ref 84), (.int 41 0), (.int 0 0), (.ref 91), (.int 43 0), (.int 0 0), (.ref 98), (.int 45 0), (.int 0 0), (.ref 105), (.int 53 0), (.int 0 0), (.ref 123), (.int 56 0), (.int 0 0), (.ref 169), (.int 62 0), (.int 0 0), (.ref 176), (.int 119 0), (.int 0 0), (.ref 242), (.int 130 0), (.int 0 0), (.ref 249), (.int 139 0), (.int 0 0), (.ref 256), (.int 149 0), (.int 0 0), (.ref 261), (.int 169 0), (.int 0 0), (.ref 266), (.int 185 0), (.int 0 0), (.ref 271)]), #[]⟩
noncomputable def ob_268 (P : Params) : Obj := ⟨(.type "tuple"), none, (.seq #[] 0), #[]⟩
noncomputable def ob_269 (P : Params) : Obj := ⟨.none, none, (.fields #[]), #[]⟩
noncomputable def ob_270 (P : Params) : Obj := ⟨.none, none, (.func { name := ⟨#[108,97,119]⟩, qualname := ⟨#[108,97,119]⟩, params := (FA 29), body := .stmts (FB 29), scope := (FS 29), globals := 0, closure := [], defaults := .none, kwdefaults := .none, doc := .none, pyModule := .none, annotations := none, code := .none, closureTuple := .none, builtins := 0 }), #[]⟩
noncomputable def ob_271 (P : Params) : Obj := ⟨(.type "code"), none, (.fields #[(.str ⟨#[108,97,119]⟩ 2507), (.str ⟨#[108,97,119]⟩ 2508), (.str ⟨#[47,99,108,97,105,109,47,99,117,116,46,112,121]⟩ 2509), (.int 185 0), (.int 1 0), (.int 0 0), (.int 0 0), (.int 3 0), (.ref 268), (.bool true), (.int 181 0), (.ref 269), .none, .none, .none, (.ref 270), (.int 2510 0), (.int 185 0), (.str ⟨#[47,99,108,97,105,109,47,99,117,116,46,112,121]⟩ 2511)]), #[]⟩
noncomputable def ob_272 (P : Params) : Obj := ⟨(.type "function"), none, (.func { name := ⟨#[108,97,119]⟩, qualname := ⟨#[108,97,119]⟩, params := (FA 29), body := .stmts (FB 29), scope := (FS 29), globals := 3, closure := [], defaults := .none, kwdefaults := .none, doc := .none, pyModule := (.str ⟨#[108,97,119,95,116,99,48,48,55,53,95,48,49]⟩ 2459), annotations := none, code := (.ref 271), closureTuple := .none, builtins := 0 }), #[]⟩
noncomputable def hl_29 (P : Params) (x : Nat → Obj) : List Obj := [boot_o_0 P, boot_o_1 P, boot_o_2 P, ob_3_29 P, boot_o_4 P, boot_o_5 P, boot_o_6 P, boot_o_7 P, boot_o_8 P, boot_o_9 P, boot_o_10 P, ob_11 P, ob_12_29 P, ob_13 P, ob_14 P, ob_15 P, ob_16 P, ob_17 P, ob_18 P, ob_19 P, ob_20 P, ob_21 P, ob_22 P, ob_23 P, ob_24 P, ob_25 P, ob_26 P, ob_27 P, ob_28 P, ob_29 P, ob_30 P, ob_31 P, ob_32 P, ob_33 P, ob_34 P, ob_35 P, ob_36 P, ob_37 P, ob_38 P, ob_39 P, ob_40 P, ob_41 P, ob_42 P, ob_43 P, ob_44 P, ob_45 P, ob_46 P, ob_47 P, ob_48 P, ob_49 P, ob_50 P, ob_51 P, ob_52 P, ob_53 P, ob_54 P, ob_55 P, ob_56 P, ob_57 P, ob_58 P, ob_59 P, ob_60 P, ob_61 P, ob_62 P, ob_63 P, ob_64 P, ob_65 P, ob_66 P, ob_67 P, ob_68 P, ob_69 P, ob_70 P, ob_71 P, ob_72 P, ob_73 P, ob_74 P, ob_75 P, ob_76 P, ob_77 P, ob_78 P, ob_79 P, ob_80 P, ob_81 P, ob_82 P, ob_83 P, ob_84 P, ob_85 P, ob_86 P, ob_87 P, ob_88 P, ob_89 P, ob_90 P, ob_91 P, ob_92 P, ob_93 P, ob_94 P, ob_95 P, ob_96 P, ob_97 P, ob_98 P, ob_99 P, ob_100 P, ob_101 P, ob_102 P, ob_103 P, ob_104 P, ob_105 P, ob_106 P, ob_107 P, ob_108 P, ob_109 P, ob_110 P, ob_111 P, ob_112 P, ob_113 P, ob_114 P, ob_115 P, ob_116 P, ob_117 P, ob_118 P, ob_119 P, ob_120 P, ob_121 P, ob_122 P, ob_123 P, ob_124 P, x 0, x 1, x 2, x 3, x 4, x 5, x 6, x 7, x 8, x 9, x 10, x 11, x 12, x 13, x 14, x 15, x 16, x 17, x 18, x 19, x 20, x 21, x 22, x 23, x 24, x 25, x 26, x 27, x 28, x 29, x 30, x 31, x 32, x 33, x 34, x 35, x 36, x 37, x 38, ob_164 P, ob_165 P, ob_166 P, ob_167 P, ob_168 P, ob_169 P, ob_170 P, ob_171 P, ob_172 P, ob_173 P, ob_174 P, ob_175 P, ob_176 P, ob_177 P, ob_178 P, ob_179 P, ob_180 P, ob_181 P, ob_182 P, ob_183 P, ob_184 P, ob_185 P, ob_186 P, ob_187 P, ob_188 P, ob_189 P, ob_190 P, ob_191 P, ob_192 P, ob_193 P, ob_194 P, ob_195 P, ob_196 P, ob_197 P, ob_198 P, ob_199 P, ob_200 P, ob_201 P, ob_202 P, ob_203 P, ob_204 P, ob_205 P, ob_206 P, ob_207 P, ob_208 P, ob_209 P, ob_210 P, ob_211 P, ob_212 P, ob_213 P, ob_214 P, ob_215 P, ob_216 P, ob_217 P, ob_218 P, ob_219 P, ob_220 P, ob_221 P, ob_222 P, ob_223 P, ob_224 P, ob_225 P, ob_226 P, ob_227 P, ob_228 P, ob_229 P, ob_230 P, ob_231 P, ob_232 P, ob_233 P, ob_234 P, ob_235 P, ob_236 P, ob_237 P, ob_238 P, ob_239 P, ob_240 P, ob_241 P, ob_242 P, ob_243 P, ob_244 P, ob_245 P, ob_246 P, ob_247 P, ob_248 P, ob_249 P, ob_250 P, ob_251 P, ob_252 P, ob_253 P, ob_254 P, ob_255 P, ob_256 P, ob_257 P, ob_258 P, ob_259 P, ob_260 P, ob_261 P, ob_262 P, ob_263 P, ob_264 P, ob_265 P, ob_266 P, ob_267 P, ob_268 P, ob_269 P, ob_270 P, ob_271 P, ob_272 P]
end Mine
namespace Mine
noncomputable abbrev PW := PySem.Challenge.pw_tc0075_01
noncomputable def tenv : Env := { scope := PW.main.scope, locals := mainNs, globals := mainNs, cells := [], code := .ref 13, frame := some 14 }
noncomputable def tcode : Code := .body (behindTheImports PW) tenv
noncomputable def leafR : Result → Sem Fin
  | .ok f => .pure (.done f)
  | .error e => .raise e
noncomputable def tfr (q : Pos) : Frame := .ret leafR none false [] (.builtin "claim.caller" {}) q []
noncomputable def stT (i : Nat) : Sem Fin := match PW.main.body[i]? with
  | some st => (exec st tenv).bind fun f => .pure (.done f)
  | none => .unsupported ""
noncomputable def hpS (l : List Obj) (k : Nat) (os : OsState) : Shared := ⟨⟨l.toArray, {}⟩, #[], ⟨0, 0, 0, 0⟩, k, os⟩
theorem ev_0 (w : World) (os : OsState) (p q : Pos) : runNI (denote treeTable) PW w 60 (hpS (hl_a w.params) 187 os) ⟨stT 0, tcode, p, [tfr q]⟩ = .halted (.done .next) (hpS (hl_0 w.params) 194 os) := by kernel_rfl
end Mine
namespace Mine
noncomputable def behindStack (t : Sem Fin) (st : List (Code × Pos)) : Sem Fin := match t with
  | .stack k => k st
  | t => t
theorem behind_bind (K : List (Code × Pos) → Sem Fin) (st : List (Code × Pos)) : behindStack (stack >>= K) st = K st := rfl
theorem list_new_tree (v : Value) (a : Args) (p : Pos) (rest : List (Code × Pos)) : behindStack (Builtin.«list.__new__» ⟨[.type "list", v], []⟩) ((.builtin "list.__new__" a, p) :: rest) = (do ret (← newObj (.type "list") (.seq #[]))) := by
  unfold Builtin.«list.__new__»
  rw [behind_bind]
  dsimp only
  rw [owner_list_new]
  kernel_rfl
noncomputable def listNewX : Builtin := fun args => match args with
  | ⟨[.type T, v], []⟩ => .stack fun st => match st with
    | (.builtin id a, p) :: rest => bif Nat.beq (PySem.code T) (PySem.code "list") && Nat.beq (PySem.code id) (PySem.code "list.__new__") then (do ret (← newObj (.type "list") (.seq #[]))) else behindStack (Builtin.«list.__new__» ⟨[.type T, v], []⟩) st
    | st => behindStack (Builtin.«list.__new__» ⟨[.type T, v], []⟩) st
  | args => Builtin.«list.__new__» args
theorem list_new_stack (args : Args) : Builtin.«list.__new__» args = .stack fun st => behindStack (Builtin.«list.__new__» args) st := rfl
theorem of_code {a b : String} (h : Nat.beq (PySem.code a) (PySem.code b) = true) : a = b := by
  rw [← PySem.W.Fast.beq_code] at h
  exact beq_iff_eq.mp h
theorem listNewX_eq : listNewX = Builtin.«list.__new__» := by
  funext args
  unfold listNewX
  split
  · rename_i T v
    rw [list_new_stack]
    congr 1
    funext st
    split
    · rename_i id a p rest
      cases h : (Nat.beq (PySem.code T) (PySem.code "list") && Nat.beq (PySem.code id) (PySem.code "list.__new__")) with
      | false => rfl
      | true =>
        obtain ⟨h1, h2⟩ := Bool.and_eq_true_iff.mp h
        obtain rfl := of_code h1
        obtain rfl := of_code h2
        exact (list_new_tree v a p rest).symm
    · rfl
  · rfl
noncomputable def tableX (id : String) : Option Builtin := bif Nat.beq (PySem.code id) (PySem.code "list.__new__") then some listNewX else treeTable id
theorem tree_list_new : treeTable "list.__new__" = some Builtin.«list.__new__» := by kernel_rfl
theorem tableX_eq : tableX = treeTable := by
  funext id
  unfold tableX
  cases h : Nat.beq (PySem.code id) (PySem.code "list.__new__") with
  | false => rfl
  | true =>
    obtain rfl := of_code h
    rw [listNewX_eq, tree_list_new]; rfl
end Mine
namespace Mine
noncomputable def b3Ks : List (Option PySem.Expr) := match PW.main.body[(19 : Nat)]? with
  | some (.Assign _ (.Dict ks _ _) _) => ks
  | _ => []
noncomputable def b3Vs : List PySem.Expr := match PW.main.body[(19 : Nat)]? with
  | some (.Assign _ (.Dict _ vs _) _) => vs
  | _ => []
noncomputable def cI : Option PySem.Expr → Option Int
  | some (.Constant (.int i) _ _) => some i
  | _ => none
noncomputable def cS : PySem.Expr → Option Str
  | .Constant (.str s) _ _ => some s
  | _ => none
noncomputable def b3Of : List (Option PySem.Expr) → List PySem.Expr → List (Int × Str)
  | k :: ks, v :: vs => ((cI k).getD 0, (cS v).getD Str.empty) :: b3Of ks vs
  | _, _ => []
noncomputable def cIq : (k : Option PySem.Expr) → Option ((i : Int) ×' (kk : Nat) ×' (kp : Pos) ×' k = some (.Constant (.int i) kk kp))
  | some (.Constant (.int i) kk kp) => some ⟨i, kk, kp, rfl⟩
  | _ => none
noncomputable def cSq : (v : PySem.Expr) → Option ((x : Str) ×' (kk : Nat) ×' (kp : Pos) ×' v = .Constant (.str x) kk kp)
  | .Constant (.str x) kk kp => some ⟨x, kk, kp, rfl⟩
  | _ => none
noncomputable def b3Fit : List (Option PySem.Expr) → List PySem.Expr → Bool
  | k :: ks, v :: vs => (cIq k).isSome && (cSq v).isSome && b3Fit ks vs
  | [], [] => true
  | _, _ => false
noncomputable def b3L : List (Int × Str) := b3Of b3Ks b3Vs
noncomputable def rises : List Int → Bool
  | a :: b :: l => decide (a < b) && rises (b :: l)
  | _ => true
theorem rises_lt : ∀ (l : List Int) (a : Int), rises (a :: l) = true → ∀ x ∈ l, a < x
  | [], a, _, x, h => by cases h
  | b :: l, a, hr, x, h => by
    simp only [rises, Bool.and_eq_true, decide_eq_true_eq] at hr
    rcases List.mem_cons.mp h with rfl | h
    · exact hr.1
    · exact Int.lt_trans hr.1 (rises_lt l b hr.2 x h)
theorem rises_nodup : ∀ l : List Int, rises l = true → l.Nodup
  | [], _ => List.nodup_nil
  | a :: l, h => by
    refine List.nodup_cons.mpr ⟨fun hm => Int.lt_irrefl _ (rises_lt l a h a hm), ?_⟩
    cases l with
    | nil => exact List.nodup_nil
    | cons b l =>
      simp only [rises, Bool.and_eq_true] at h
      exact rises_nodup (b :: l) h.2
theorem b3_fit : b3Fit b3Ks b3Vs = true := by kernel_rfl
theorem b3_len : b3L.length = 650 := by kernel_rfl
theorem b3_rises : rises (b3L.map (·.1)) = true := by kernel_rfl
theorem its_of {prog : Program} {w : World} (env : Env) (pos : Pos) : ∀ (ks : List (Option PySem.Expr)) (vs : List PySem.Expr), b3Fit ks vs = true → ∃ its, (evalEachOpt ks env).zip ((evalEach vs env).map fun v => do let x ← v; standAt pos; pure x) = its.map (fun p => (some p.1, p.2)) ∧ ItsB prog w (b3Of ks vs) its
  | [], [], _ => ⟨[], rfl, .nil⟩
  | k :: ks, v :: vs, h => by
    have h : ((cIq k).isSome && (cSq v).isSome && b3Fit ks vs) = true := h
    rw [Bool.and_eq_true, Bool.and_eq_true] at h
    obtain ⟨its, e, hi⟩ := its_of env pos ks vs h.2
    obtain ⟨⟨i, kk, kp, rfl⟩, _⟩ := Option.isSome_iff_exists.mp h.1.1
    obtain ⟨⟨x, vk, vp, rfl⟩, _⟩ := Option.isSome_iff_exists.mp h.1.2
    refine ⟨(eval (.Constant (.int i) kk kp) env, do let y ← eval (.Constant (.str x) vk vp) env; standAt pos; pure y) :: its, ?_, .cons ⟨fun h => wpAny_Constant_int (env := env) (k := kk) (pos := kp) h, fun h => wpAny_bind (wpAny_Constant_str (env := env) (k := vk) (pos := vp) (wpAny_bind (wpAny_standAt (wpAny_pure h))))⟩ hi⟩
    rw [List.map_cons, ← e]
    rfl
  | [], v :: vs, h => by cases h
  | k :: ks, [], h => by cases h
noncomputable def b3D : Pos := match PW.main.body[(19 : Nat)]? with
  | some (.Assign _ (.Dict _ _ p) _) => p
  | _ => default
theorem b3_wp {prog : Program} {w : World} {A : Around} {E : Value → Shared → Prop} {s0 : Shared} (env : Env) (h1 : 1 ≤ s0.toks) (h2 : s0.toks + 1950 ≤ 2513) (hS : 2 ≤ s0.heap.objs.size) {Q : Value → Shared → Prop}
    (hQ : ∀ s', MainB prog w s0 b3L (some s0.heap.objs.size) s' → s'.heap.life = s0.heap.life → Q (.ref s0.heap.objs.size) s') (t : Sem Value) (ht : t = eval (.Dict b3Ks b3Vs b3D) env) : wpAny (model prog w) A t Q E s0 := by
  subst ht
  obtain ⟨its, e, hi⟩ := its_of (prog := prog) (w := w) env b3D b3Ks b3Vs b3_fit
  refine wpAny_ofLife ?_
  rw [arm_eval_Dict, e]
  refine wpAny_bind (wpAny_standAt ?_)
  have hlen := b3_len
  exact display_wp (l := b3L) hi (rises_nodup _ b3_rises) (by intro h; rw [h] at hlen; cases hlen) (by rw [hlen]; decide) h1 (by rw [hlen]; (clear h1 hS hlen; omega)) ⟨fun e => by
    have e' : (s0.heap.objs.size : Nat) = 1 := e
    (clear h1 h2 hlen; omega), hS⟩ fun s' M hl => hQ s' M hl
end Mine
namespace Mine
theorem ev_1 (w : World) (os : OsState) (p q : Pos) : runNI (denote treeTable) PW w 39 (hpS (hl_0 w.params) 194 os) ⟨stT 1, tcode, p, [tfr q]⟩ = .halted (.done .next) (hpS (hl_1 w.params) 196 os) := by kernel_rfl
noncomputable def EV_2 (w : World) : Prop := ∀ (os : OsState) (p q : Pos), runNI (denote treeTable) PW w 170 (hpS (hl_1 w.params) 196 os) ⟨stT 2, tcode, p, [tfr q]⟩ = .halted (.done .next) (hpS (hl_2 w.params) 227 os)
theorem ev_2f (w : World) (os : OsState) (p q : Pos) : runNI (denote treeTable) PW (World.withFollow w "special-get-raises" false) 170 (hpS (hl_1 (World.withFollow w "special-get-raises" false).params) 196 os) ⟨stT 2, tcode, p, [tfr q]⟩ = .halted (.done .next) (hpS (hl_2 (World.withFollow w "special-get-raises" false).params) 227 os) := by kernel_rfl
theorem ev_2t (w : World) (os : OsState) (p q : Pos) : runNI (denote treeTable) PW (World.withFollow w "special-get-raises" true) 170 (hpS (hl_1 (World.withFollow w "special-get-raises" true).params) 196 os) ⟨stT 2, tcode, p, [tfr q]⟩ = .halted (.done .next) (hpS (hl_2 (World.withFollow w "special-get-raises" true).params) 227 os) := by kernel_rfl
theorem ev_2 (w : World) : EV_2 w := byRow2 "special-get-raises" (P := EV_2) (fun w os p q => ev_2f w os p q) (fun w os p q => ev_2t w os p q) w
theorem ev_3 (w : World) (os : OsState) (p q : Pos) : runNI (denote treeTable) PW w 62 (hpS (hl_2 w.params) 227 os) ⟨stT 3, tcode, p, [tfr q]⟩ = .halted (.done .next) (hpS (hl_3 w.params) 237 os) := by kernel_rfl
theorem ev_4 (w : World) (os : OsState) (p q : Pos) : runNI (denote treeTable) PW w 61 (hpS (hl_3 w.params) 237 os) ⟨stT 4, tcode, p, [tfr q]⟩ = .halted (.done .next) (hpS (hl_4 w.params) 246 os) := by kernel_rfl
theorem ev_5 (w : World) (os : OsState) (p q : Pos) : runNI (denote treeTable) PW w 39 (hpS (hl_4 w.params) 246 os) ⟨stT 5, tcode, p, [tfr q]⟩ = .halted (.done .next) (hpS (hl_5 w.params) 248 os) := by kernel_rfl
theorem ev_6 (w : World) (os : OsState) (p q : Pos) : runNI (denote treeTable) PW w 60 (hpS (hl_5 w.params) 248 os) ⟨stT 6, tcode, p, [tfr q]⟩ = .halted (.done .next) (hpS (hl_6 w.params) 256 os) := by kernel_rfl
theorem ev_7 (w : World) (os : OsState) (p q : Pos) : runNI (denote treeTable) PW w 60 (hpS (hl_6 w.params) 256 os) ⟨stT 7, tcode, p, [tfr q]⟩ = .halted (.done .next) (hpS (hl_7 w.params) 264 os) := by kernel_rfl
theorem ev_8 (w : World) (os : OsState) (p q : Pos) : runNI (denote treeTable) PW w 60 (hpS (hl_7 w.params) 264 os) ⟨stT 8, tcode, p, [tfr q]⟩ = .halted (.done .next) (hpS (hl_8 w.params) 272 os) := by kernel_rfl
theorem ev_9 (w : World) (os : OsState) (p q : Pos) : runNI (denote treeTable) PW w 60 (hpS (hl_8 w.params) 272 os) ⟨stT 9, tcode, p, [tfr q]⟩ = .halted (.done .next) (hpS (hl_9 w.params) 280 os) := by kernel_rfl
theorem ev_10 (w : World) (os : OsState) (p q : Pos) : runNI (denote treeTable) PW w 59 (hpS (hl_9 w.params) 280 os) ⟨stT 10, tcode, p, [tfr q]⟩ = .halted (.done .next) (hpS (hl_10 w.params) 287 os) := by kernel_rfl
theorem ev_11 (w : World) (os : OsState) (p q : Pos) : runNI (denote treeTable) PW w 60 (hpS (hl_10 w.params) 287 os) ⟨stT 11, tcode, p, [tfr q]⟩ = .halted (.done .next) (hpS (hl_11 w.params) 295 os) := by kernel_rfl
theorem ev_12 (w : World) (os : OsState) (p q : Pos) : runNI (denote treeTable) PW w 60 (hpS (hl_11 w.params) 295 os) ⟨stT 12, tcode, p, [tfr q]⟩ = .halted (.done .next) (hpS (hl_12 w.params) 303 os) := by kernel_rfl
theorem ev_13 (w : World) (os : OsState) (p q : Pos) : runNI (denote treeTable) PW w 60 (hpS (hl_12 w.params) 303 os) ⟨stT 13, tcode, p, [tfr q]⟩ = .halted (.done .next) (hpS (hl_13 w.params) 311 os) := by kernel_rfl
theorem ev_14 (w : World) (os : OsState) (p q : Pos) : runNI (denote treeTable) PW w 60 (hpS (hl_13 w.params) 311 os) ⟨stT 14, tcode, p, [tfr q]⟩ = .halted (.done .next) (hpS (hl_14 w.params) 319 os) := by kernel_rfl
theorem ev_15 (w : World) (os : OsState) (p q : Pos) : runNI (denote treeTable) PW w 62 (hpS (hl_14 w.params) 319 os) ⟨stT 15, tcode, p, [tfr q]⟩ = .halted (.done .next) (hpS (hl_15 w.params) 329 os) := by kernel_rfl
theorem ev_16 (w : World) (os : OsState) (p q : Pos) : runNI (denote treeTable) PW w 39 (hpS (hl_15 w.params) 329 os) ⟨stT 16, tcode, p, [tfr q]⟩ = .halted (.done .next) (hpS (hl_16 w.params) 331 os) := by kernel_rfl
theorem ev_18 (w : World) (os : OsState) (p q : Pos) : runNI (denote treeTable) PW w 59 (hpS (hl_17 w.params) 391 os) ⟨stT 18, tcode, p, [tfr q]⟩ = .halted (.done .next) (hpS (hl_18 w.params) 398 os) := by kernel_rfl
end Mine
namespace Mine
theorem ev_17f (w : World) (os : OsState) (p q : Pos) : runNI (denote tableX) PW (World.withFollow w "special-get-raises" false) 1040 (hpS (hl_16 (World.withFollow w "special-get-raises" false).params) 331 os) ⟨stT 17, tcode, p, [tfr q]⟩ = .halted (.done .next) (hpS (hl_17 (World.withFollow w "special-get-raises" false).params) 391 os) := by kernel_rfl
theorem ev_17t (w : World) (os : OsState) (p q : Pos) : runNI (denote tableX) PW (World.withFollow w "special-get-raises" true) 1040 (hpS (hl_16 (World.withFollow w "special-get-raises" true).params) 331 os) ⟨stT 17, tcode, p, [tfr q]⟩ = .halted (.done .next) (hpS (hl_17 (World.withFollow w "special-get-raises" true).params) 391 os) := by kernel_rfl
noncomputable def EV_17 (w : World) : Prop := ∀ (os : OsState) (p q : Pos), runNI (denote tableX) PW w 1040 (hpS (hl_16 w.params) 331 os) ⟨stT 17, tcode, p, [tfr q]⟩ = .halted (.done .next) (hpS (hl_17 w.params) 391 os)
theorem ev_17 (w : World) : EV_17 w := byRow2 "special-get-raises" (P := EV_17) (fun w os p q => ev_17f w os p q) (fun w os p q => ev_17t w os p q) w
end Mine
namespace Mine
theorem ev_20 (w : World) (x : Nat → Obj) (os : OsState) (p q : Pos) : runNI (denote treeTable) PW w 60 (hpS (hl_19 w.params x) 2349 os) ⟨stT 20, tcode, p, [tfr q]⟩ = .halted (.done .next) (hpS (hl_20 w.params x) 2357 os) := by kernel_rfl
theorem ev_21 (w : World) (x : Nat → Obj) (os : OsState) (p q : Pos) : runNI (denote treeTable) PW w 39 (hpS (hl_20 w.params x) 2357 os) ⟨stT 21, tcode, p, [tfr q]⟩ = .halted (.done .next) (hpS (hl_21 w.params x) 2359 os) := by kernel_rfl
theorem ev_23 (w : World) (x : Nat → Obj) (os : OsState) (p q : Pos) : runNI (denote treeTable) PW w 39 (hpS (hl_22 w.params x) 2459 os) ⟨stT 23, tcode, p, [tfr q]⟩ = .halted (.done .next) (hpS (hl_23 w.params x) 2461 os) := by kernel_rfl
theorem ev_24 (w : World) (x : Nat → Obj) (os : OsState) (p q : Pos) : runNI (denote treeTable) PW w 65 (hpS (hl_23 w.params x) 2461 os) ⟨stT 24, tcode, p, [tfr q]⟩ = .halted (.done .next) (hpS (hl_24 w.params x) 2474 os) := by kernel_rfl
theorem ev_25 (w : World) (x : Nat → Obj) (os : OsState) (p q : Pos) : runNI (denote treeTable) PW w 62 (hpS (hl_24 w.params x) 2474 os) ⟨stT 25, tcode, p, [tfr q]⟩ = .halted (.done .next) (hpS (hl_25 w.params x) 2484 os) := by kernel_rfl
theorem ev_26 (w : World) (x : Nat → Obj) (os : OsState) (p q : Pos) : runNI (denote treeTable) PW w 63 (hpS (hl_25 w.params x) 2484 os) ⟨stT 26, tcode, p, [tfr q]⟩ = .halted (.done .next) (hpS (hl_26 w.params x) 2495 os) := by kernel_rfl
theorem ev_27 (w : World) (x : Nat → Obj) (os : OsState) (p q : Pos) : runNI (denote treeTable) PW w 56 (hpS (hl_26 w.params x) 2495 os) ⟨stT 27, tcode, p, [tfr q]⟩ = .halted (.done .next) (hpS (hl_27 w.params x) 2501 os) := by kernel_rfl
theorem ev_28 (w : World) (x : Nat → Obj) (os : OsState) (p q : Pos) : runNI (denote treeTable) PW w 56 (hpS (hl_27 w.params x) 2501 os) ⟨stT 28, tcode, p, [tfr q]⟩ = .halted (.done .next) (hpS (hl_28 w.params x) 2507 os) := by kernel_rfl
theorem ev_29 (w : World) (x : Nat → Obj) (os : OsState) (p q : Pos) : runNI (denote treeTable) PW w 56 (hpS (hl_28 w.params x) 2507 os) ⟨stT 29, tcode, p, [tfr q]⟩ = .halted (.done .next) (hpS (hl_29 w.params x) 2513 os) := by kernel_rfl
end Mine
namespace Mine
noncomputable def EV_22 (w : World) : Prop := ∀ (x : Nat → Obj) (os : OsState) (p q : Pos), runNI (denote treeTable) PW w 522 (hpS (hl_21 w.params x) 2359 os) ⟨stT 22, tcode, p, [tfr q]⟩ = .halted (.done .next) (hpS (hl_22 w.params x) 2459 os)
theorem ev_22f (w : World) (x : Nat → Obj) (os : OsState) (p q : Pos) : runNI (denote treeTable) PW (World.withFollow w "special-get-raises" false) 522 (hpS (hl_21 (World.withFollow w "special-get-raises" false).params x) 2359 os) ⟨stT 22, tcode, p, [tfr q]⟩ = .halted (.done .next) (hpS (hl_22 (World.withFollow w "special-get-raises" false).params x) 2459 os) := by kernel_rfl
theorem ev_22t (w : World) (x : Nat → Obj) (os : OsState) (p q : Pos) : runNI (denote treeTable) PW (World.withFollow w "special-get-raises" true) 522 (hpS (hl_21 (World.withFollow w "special-get-raises" true).params x) 2359 os) ⟨stT 22, tcode, p, [tfr q]⟩ = .halted (.done .next) (hpS (hl_22 (World.withFollow w "special-get-raises" true).params x) 2459 os) := by kernel_rfl
theorem ev_22 (w : World) : EV_22 w := byRow2 "special-get-raises" (P := EV_22) (fun w x os p q => ev_22f w x os p q) (fun w x os p q => ev_22t w x os p q) w
end Mine
namespace Mine
noncomputable def G0 : Ctx := ⟨.builtin "claim.caller" {}, none, none, [], none⟩
noncomputable def Gb (q : Pos) : Ctx := G0.enter tcode none q
noncomputable def Inv1 (M : Model) (Γ : Ctx) (p : Pos) (t : Sem Fin) (s s' : Shared) : List Frame → End → Prop
  | [.ret k hd g l c p1 kp], .ret r => ∃ r1 s1, Runs M (Γ.over [.ret k hd g l c p1 kp]) p t [] s (.ret r1) s1 ∧ Runs M (Γ.goto c) p1 (k r1) [] s1 (.ret r) s'
  | _, _ => True
noncomputable def InvL (s s' : Shared) : List Frame → Sem Fin → End → Prop
  | [], .pure (.done g), e => e = .ret (.ok g) ∧ s' = s
  | [], .raise x, e => e = .ret (.error x) ∧ s' = s
  | _, _, _ => True
noncomputable def InvB (M : Model) (Γ : Ctx) (p : Pos) (t : Sem Fin) (s s' : Shared) (fs : List Frame) (e : End) : Prop := Inv1 M Γ p t s s' fs e ∧ InvL s s' fs t e
theorem inv_both {M : Model} {Γ : Ctx} {p : Pos} {t : Sem Fin} {fs : List Frame} {s s' : Shared} {e : End} (h : Runs M Γ p t fs s e s') : InvB M Γ p t s s' fs e := by
  cases h with
  | @segRet _ _ _ k hd g l c p1 kp fs _ r s1 e _ a b => exact ⟨match fs, e, a, b with
    | [], .ret r, a, b => ⟨_, _, a, b⟩
    | [], .susp .., _, _ => trivial
    | _ :: _, _, _, _ => trivial, trivial⟩
  | @segSuspGen _ _ _ F fs _ _ _ _ _ _ _ _ _ _ _ _ _ _ _ e _ hsp => exact ⟨match F, fs, e, hsp with
    | .ret .., [], .ret r, hsp => nomatch hsp
    | .ret .., [], .susp .., _ => trivial
    | .ret .., _ :: _, _, _ => trivial
    | .gen .., _, _, _ => trivial, trivial⟩
  | @segSuspOut _ _ _ F fs => exact ⟨match F, fs with
    | .ret .., [] => trivial
    | .ret .., _ :: _ => trivial
    | .gen .., _ => trivial, trivial⟩
  | done => exact ⟨trivial, rfl, rfl⟩
  | raise => exact ⟨trivial, rfl, rfl⟩
  | _ => exact ⟨trivial, trivial⟩
theorem runs_of {w : World} {N : Nat} {s s' : Shared} {t : Sem Fin} {p q : Pos} {f : Flow} (h : runNI (denote treeTable) PW w N s ⟨t, tcode, p, [tfr q]⟩ = .halted (.done f) s') : Runs (model PW w) (Gb q) p t [] s (.ret (.ok f)) s' := by
  have h' : (model PW w).runN N s ⟨t, tcode, p, [tfr q]⟩ = .halted (outcomeOf (.ok f)) s' := by
    rw [← table_eq_tree] at h; exact h
  obtain ⟨hr, _⟩ := halts_iff.mp ⟨N, h'⟩
  obtain ⟨r, s1, a, b⟩ : ∃ r1 s1, Runs (model PW w) ((⟨tcode, none, none, [], none⟩ : Ctx).over [tfr q]) p t [] s (.ret r1) s1 ∧ _ := (inv_both hr).1
  cases r with
  | ok g =>
    obtain ⟨e, e2⟩ : _ = End.ret (.ok g) ∧ s' = s1 := (inv_both b).2
    cases e
    subst e2
    exact a
  | error x =>
    obtain ⟨e, e2⟩ : _ = End.ret (.error x) ∧ s' = s1 := (inv_both b).2
    cases e
theorem wp_of_runs {w : World} {i : Nat} {st : Stmt} {s s' : Shared} {p q : Pos} (hst : PW.main.body[i]? = some st) (h : Runs (model PW w) (Gb q) p (stT i) [] s (.ret (.ok .next)) s') {Q : Flow → Pos → Shared → Prop} {E : Value → Pos → Shared → Prop} (hQ : ∀ p', Q .next p' s') :
    Sem.wp (model PW w) (Gb q) (exec st tenv) Q E p s := by
  have hw := (Sem.wp_iff_runs (model PW w) (Gb q) (stT i) (fun r s'' => r = .ok .next ∧ s'' = s') p s).mpr ⟨_, _, h, rfl, rfl⟩
  unfold stT at hw
  rw [hst] at hw
  rw [Sem.wp_bind] at hw
  refine Sem.wp_mono _ _ _ (fun f p' s'' h' => ?_) (fun e p' s'' h' => ?_) p s hw
  · have h' : (Except.ok f : Result) = .ok .next ∧ s'' = s' := h'
    obtain ⟨e, rfl⟩ := h'
    injection e with e
    subst e
    exact hQ p'
  · exact absurd h'.1 (by intro e; cases e)
structure Rest (w : World) (q : Pos) (Qf : Shared → Prop) (i : Nat) (s : Shared) : Prop where
  run : ∀ p, Sem.wp (model PW w) (Gb q) (execs (PW.main.body.drop i) tenv) (fun f _ s' => f = .next ∧ Qf s') (fun _ _ _ => False) p s
theorem rest_of {w : World} {q : Pos} {Qf : Shared → Prop} {i : Nat} {s : Shared} (hi : i < 30) (h : ∀ st, PW.main.body[i]? = some st → ∀ p, Sem.wp (model PW w) (Gb q) (exec st tenv) (fun f p' s' => f = .next ∧ Rest w q Qf (i + 1) s') (fun _ _ _ => False) p s) : Rest w q Qf i s := .mk fun p => by
  have hl : PW.main.body.length = 30 := by kernel_rfl
  have hi' : i < PW.main.body.length := by exact Nat.lt_of_lt_of_le hi (by decide)
  rw [← List.getElem_cons_drop (h := hi'), execs_cons, Sem.wp_bind']
  refine Sem.wp_mono _ _ _ (fun f p' s' ⟨e, hr⟩ => ?_) (fun _ _ _ e => e) p s (h _ (List.getElem?_eq_getElem hi') p)
  subst e
  exact hr.run p'
theorem rest_step {w : World} {q : Pos} {Qf : Shared → Prop} {i j : Nat} {s s' : Shared} (hj : j = i + 1) (hi : i < 30) (hr : ∀ p, Runs (model PW w) (Gb q) p (stT i) [] s (.ret (.ok .next)) s') (h : Rest w q Qf j s') : Rest w q Qf i s := by
  subst hj
  exact rest_of hi fun st hst p => wp_of_runs hst (hr p) fun p' => ⟨rfl, h⟩
theorem gb_in (q : Pos) : (Gb q).In ((callerA.mark none).under tcode) := (caller_in.enter tcode none q (by intro x; cases x)).in
end Mine
namespace Mine
theorem rest_30 {w : World} {q : Pos} {Qf : Shared → Prop} {s : Shared} (hQ : Qf s) : Rest w q Qf 30 s := .mk fun p => by
  have hl : PW.main.body.length = 30 := by kernel_rfl
  rw [List.drop_of_length_le (by exact Nat.le_of_eq hl)]
  exact ⟨rfl, hQ⟩
theorem ev_17' (w : World) (os : OsState) (p q : Pos) : runNI (denote treeTable) PW w 1040 (hpS (hl_16 w.params) 331 os) ⟨stT 17, tcode, p, [tfr q]⟩ = .halted (.done .next) (hpS (hl_17 w.params) 391 os) := by
  have := ev_17 w os p q
  rw [tableX_eq] at this
  exact this
theorem rest_20 {w : World} {q : Pos} {Qf : Shared → Prop} {os : OsState} (x : Nat → Obj) (hQ : Qf (hpS (hl_29 w.params x) 2513 os)) : Rest w q Qf 20 (hpS (hl_19 w.params x) 2349 os) := by
  refine rest_step (i := 20) (j := 21) (s' := hpS (hl_20 w.params x) 2357 os) rfl (by decide) (fun p => ?_) ?_
  · exact runs_of (ev_20 w x os p q)
  refine rest_step (i := 21) (j := 22) (s' := hpS (hl_21 w.params x) 2359 os) rfl (by decide) (fun p => ?_) ?_
  · exact runs_of (ev_21 w x os p q)
  refine rest_step (i := 22) (j := 23) (s' := hpS (hl_22 w.params x) 2459 os) rfl (by decide) (fun p => ?_) ?_
  · exact runs_of (ev_22 w x os p q)
  refine rest_step (i := 23) (j := 24) (s' := hpS (hl_23 w.params x) 2461 os) rfl (by decide) (fun p => ?_) ?_
  · exact runs_of (ev_23 w x os p q)
  refine rest_step (i := 24) (j := 25) (s' := hpS (hl_24 w.params x) 2474 os) rfl (by decide) (fun p => ?_) ?_
  · exact runs_of (ev_24 w x os p q)
  refine rest_step (i := 25) (j := 26) (s' := hpS (hl_25 w.params x) 2484 os) rfl (by decide) (fun p => ?_) ?_
  · exact runs_of (ev_25 w x os p q)
  refine rest_step (i := 26) (j := 27) (s' := hpS (hl_26 w.params x) 2495 os) rfl (by decide) (fun p => ?_) ?_
  · exact runs_of (ev_26 w x os p q)
  refine rest_step (i := 27) (j := 28) (s' := hpS (hl_27 w.params x) 2501 os) rfl (by decide) (fun p => ?_) ?_
  · exact runs_of (ev_27 w x os p q)
  refine rest_step (i := 28) (j := 29) (s' := hpS (hl_28 w.params x) 2507 os) rfl (by decide) (fun p => ?_) ?_
  · exact runs_of (ev_28 w x os p q)
  refine rest_step (i := 29) (j := 30) (s' := hpS (hl_29 w.params x) 2513 os) rfl (by decide) (fun p => ?_) ?_
  · exact runs_of (ev_29 w x os p q)
  exact rest_30 hQ
theorem rest_0 {w : World} {q : Pos} {Qf : Shared → Prop} {os : OsState} (h : Rest w q Qf 19 (hpS (hl_18 w.params) 398 os)) : Rest w q Qf 0 (hpS (hl_a w.params) 187 os) := by
  refine rest_step (i := 0) (j := 1) (s' := hpS (hl_0 w.params) 194 os) rfl (by decide) (fun p => ?_) ?_
  · exact runs_of (ev_0 w os p q)
  refine rest_step (i := 1) (j := 2) (s' := hpS (hl_1 w.params) 196 os) rfl (by decide) (fun p => ?_) ?_
  · exact runs_of (ev_1 w os p q)
  refine rest_step (i := 2) (j := 3) (s' := hpS (hl_2 w.params) 227 os) rfl (by decide) (fun p => ?_) ?_
  · exact runs_of (ev_2 w os p q)
  refine rest_step (i := 3) (j := 4) (s' := hpS (hl_3 w.params) 237 os) rfl (by decide) (fun p => ?_) ?_
  · exact runs_of (ev_3 w os p q)
  refine rest_step (i := 4) (j := 5) (s' := hpS (hl_4 w.params) 246 os) rfl (by decide) (fun p => ?_) ?_
  · exact runs_of (ev_4 w os p q)
  refine rest_step (i := 5) (j := 6) (s' := hpS (hl_5 w.params) 248 os) rfl (by decide) (fun p => ?_) ?_
  · exact runs_of (ev_5 w os p q)
  refine rest_step (i := 6) (j := 7) (s' := hpS (hl_6 w.params) 256 os) rfl (by decide) (fun p => ?_) ?_
  · exact runs_of (ev_6 w os p q)
  refine rest_step (i := 7) (j := 8) (s' := hpS (hl_7 w.params) 264 os) rfl (by decide) (fun p => ?_) ?_
  · exact runs_of (ev_7 w os p q)
  refine rest_step (i := 8) (j := 9) (s' := hpS (hl_8 w.params) 272 os) rfl (by decide) (fun p => ?_) ?_
  · exact runs_of (ev_8 w os p q)
  refine rest_step (i := 9) (j := 10) (s' := hpS (hl_9 w.params) 280 os) rfl (by decide) (fun p => ?_) ?_
  · exact runs_of (ev_9 w os p q)
  refine rest_step (i := 10) (j := 11) (s' := hpS (hl_10 w.params) 287 os) rfl (by decide) (fun p => ?_) ?_
  · exact runs_of (ev_10 w os p q)
  refine rest_step (i := 11) (j := 12) (s' := hpS (hl_11 w.params) 295 os) rfl (by decide) (fun p => ?_) ?_
  · exact runs_of (ev_11 w os p q)
  refine rest_step (i := 12) (j := 13) (s' := hpS (hl_12 w.params) 303 os) rfl (by decide) (fun p => ?_) ?_
  · exact runs_of (ev_12 w os p q)
  refine rest_step (i := 13) (j := 14) (s' := hpS (hl_13 w.params) 311 os) rfl (by decide) (fun p => ?_) ?_
  · exact runs_of (ev_13 w os p q)
  refine rest_step (i := 14) (j := 15) (s' := hpS (hl_14 w.params) 319 os) rfl (by decide) (fun p => ?_) ?_
  · exact runs_of (ev_14 w os p q)
  refine rest_step (i := 15) (j := 16) (s' := hpS (hl_15 w.params) 329 os) rfl (by decide) (fun p => ?_) ?_
  · exact runs_of (ev_15 w os p q)
  refine rest_step (i := 16) (j := 17) (s' := hpS (hl_16 w.params) 331 os) rfl (by decide) (fun p => ?_) ?_
  · exact runs_of (ev_16 w os p q)
  refine rest_step (i := 17) (j := 18) (s' := hpS (hl_17 w.params) 391 os) rfl (by decide) (fun p => ?_) ?_
  · exact runs_of (ev_17' w os p q)
  refine rest_step (i := 18) (j := 19) (s' := hpS (hl_18 w.params) 398 os) rfl (by decide) (fun p => ?_) ?_
  · exact runs_of (ev_18 w os p q)
  exact h
end Mine
namespace Mine
noncomputable def stB : Sem Fin := (storeName tenv (Str.ofString "b3_exceptions") (.ref 125)).bind fun _ => .pure (.done .next)
theorem ev_19 (w : World) (x : Nat → Obj) (os : OsState) (p q : Pos) : runNI (denote treeTable) PW w 40 (hpS (hl_18 w.params ++ (List.range 39).map x) 2348 os) ⟨stB, tcode, p, [tfr q]⟩ = .halted (.done .next) (hpS (hl_19 w.params x) 2349 os) := by kernel_rfl
noncomputable def b3N : Pos := match PW.main.body[(19 : Nat)]? with
  | some (.Assign [.Name _ p] _ _) => p
  | _ => default
noncomputable def b3A : Pos := match PW.main.body[(19 : Nat)]? with
  | some (.Assign _ _ p) => p
  | _ => default
theorem st_19 : PW.main.body[(19 : Nat)]? = some (.Assign [.Name (Str.ofString "b3_exceptions") b3N] (.Dict b3Ks b3Vs b3D) b3A) := by kernel_rfl
theorem list_tail {l : List Obj} {h : Heap} (n : Nat) (hlen : h.objs.size = l.length + n) (hk : ∀ i, (hi : i < l.length) → h.get? i = some l[i]) : ∃ x : Nat → Obj, h.objs = (l ++ (List.range n).map x).toArray := by
  refine ⟨fun i => h.objs.getD (l.length + i) default, ?_⟩
  apply Array.ext'
  rw [List.toList_toArray]
  apply List.ext_getElem?
  intro i
  rw [Array.getElem?_toList]
  by_cases hi : i < l.length
  · rw [List.getElem?_append_left hi, List.getElem?_eq_getElem hi]
    exact (Heap.get?_some_iff.mp (hk i hi)).1
  · rw [List.getElem?_append_right (by exact Nat.le_of_not_lt hi), List.getElem?_map]
    by_cases h2 : i < l.length + n
    · rw [List.getElem?_range (by omega), Option.map_some, Array.getD_eq_getD_getElem?, show l.length + (i - l.length) = i by (clear hlen h2; omega), Array.getElem?_eq_getElem (show i < h.objs.size from Nat.lt_of_lt_of_eq h2 hlen.symm)]
      rfl
    · rw [List.getElem?_eq_none (by simp; omega), Array.getElem?_eq_none (show h.objs.size ≤ i from Nat.le_trans (Nat.le_of_eq hlen) (Nat.not_lt.mp h2))]
      rfl
theorem hl18_alive (P : Params) : (hl_18 P).all (fun o => !o.isFreed) = true := by kernel_rfl
theorem hl18_len (P : Params) : (hl_18 P).length = 125 := by kernel_rfl
theorem get_of_list {l : List Obj} {lf : Life} (h : l.all (fun o => !o.isFreed) = true) (i : Nat) (hi : i < l.length) : (⟨l.toArray, lf⟩ : Heap).get? i = some l[i] := by
  refine Heap.get?_some_iff.mpr ⟨by simp [hi], ?_⟩
  have := List.all_eq_true.mp h _ (List.getElem_mem hi)
  simpa using this
noncomputable def B3At (w : World) (os : OsState) (x : Nat → Obj) : Prop := ∃ kvs, LikeB b3L kvs ∧ (⟨(hl_18 w.params ++ (List.range 39).map x).toArray, {}⟩ : Heap).DictOf (intKind PW w) 125 kvs
theorem sw_19 : swapsWith (.Dict b3Ks b3Vs b3D) (some (.Name (Str.ofString "b3_exceptions") b3N)) b3A.line tenv = pure false := by kernel_rfl
end Mine
namespace Mine
theorem hp18_size (w : World) (os : OsState) : (hpS (hl_18 w.params) 398 os).heap.objs.size = 125 := by
  show (hl_18 w.params).toArray.size = 125
  rw [List.size_toArray, hl18_len]
theorem b3_gen {w : World} {s0 : Shared} (env : Env) (hd : s0.toks = 398) (hsz : s0.heap.objs.size = 125) (t : Sem Value) (ht : t = eval (.Dict b3Ks b3Vs b3D) env) :
   wpAny (model PW w) ((callerA.mark none).under tcode) t (fun v s' => v = .ref 125 ∧ MainB PW w s0 b3L (some 125) s' ∧ s'.heap.life = s0.heap.life) (fun _ _ => False) s0 := by
  refine b3_wp env (by omega) (by omega) (by omega) (fun s' M hl => ?_) t ht
  rw [hsz] at M ⊢
  exact ⟨rfl, M, hl⟩
theorem b3_tail {w : World} {s0 s' : Shared} {l : List Obj} {os : OsState} (hs0 : s0 = hpS l 398 os) (hlen : l.length = 125) (hal : l.all (fun o => !o.isFreed) = true) (M : MainB PW w s0 b3L (some 125) s') (hl : s'.heap.life = s0.heap.life) :
   ∃ x : Nat → Obj, (∃ kvs, LikeB b3L kvs ∧ (⟨(l ++ (List.range 39).map x).toArray, {}⟩ : Heap).DictOf (intKind PW w) 125 kvs) ∧ s' = hpS (l ++ (List.range 39).map x) 2348 os := by
  subst hs0
  have hsz : (hpS l 398 os).heap.objs.size = 125 := by
    show l.toArray.size = 125
    rw [List.size_toArray, hlen]
  obtain ⟨e1, e2, e3, e4⟩ := M
  rw [hsz] at e2 e4
  rw [b3_len] at e1 e2
  obtain ⟨x, hx⟩ := list_tail (l := l) (h := s'.heap) 39 (by rw [e2, hlen]) fun i hi => e3 _ _ (get_of_list hal i hi)
  have hh : s'.heap = ⟨(l ++ (List.range 39).map x).toArray, {}⟩ := by
    cases hs : s'.heap with
    | mk objs life =>
      rw [hs] at hx hl
      have hx : objs = _ := hx
      have hl : life = _ := hl
      rw [hx, hl]; rfl
  rcases e4 with ⟨e, _⟩ | ⟨_, _, kvs, hk, hd⟩
  · cases e
  · rw [hh] at hd
    refine ⟨x, ⟨kvs, hk, hd⟩, ?_⟩
    rw [e1, hh]; rfl
structure B3Dict (w : World) (t : Sem Value) : Prop where
  run : ∀ (s0 : Shared), s0.toks = 398 → s0.heap.objs.size = 125 → wpAny (model PW w) ((callerA.mark none).under tcode) t (fun v s' => v = .ref 125 ∧ MainB PW w s0 b3L (some 125) s' ∧ s'.heap.life = s0.heap.life) (fun _ _ => False) s0
theorem b3_dict (w : World) : ∀ t, t = eval (.Dict b3Ks b3Vs b3D) tenv → B3Dict w t := fun t ht => ⟨fun s0 hd hsz => b3_gen tenv hd hsz t ht⟩
theorem b3_use {w : World} {t : Sem Value} (T : B3Dict w t) (os : OsState) (q p : Pos) : Sem.wp (model PW w) (Gb q) t (fun v _ s' => v = .ref 125 ∧ ∃ x, B3At w os x ∧ s' = hpS (hl_18 w.params ++ (List.range 39).map x) 2348 os) (fun _ _ _ => False) p (hpS (hl_18 w.params) 398 os) := by
  have h := T.run (hpS (hl_18 w.params) 398 os) rfl (hp18_size w os) (Gb q) p (gb_in q)
  refine Sem.wp_mono _ _ _ (fun v p' s' h' => ?_) (fun e p' s' h' => h'.elim) _ _ h
  obtain ⟨rfl, M, hl⟩ := h'
  obtain ⟨x, hb, hs⟩ := b3_tail rfl (hl18_len _) (hl18_alive _) M hl
  exact ⟨rfl, x, hb, hs⟩
structure St19 (w : World) (q : Pos) (os : OsState) (st : Stmt) : Prop where
  run : ∀ p (Q : Flow → Pos → Shared → Prop) (E : Value → Pos → Shared → Prop), (∀ x p', B3At w os x → Q .next p' (hpS (hl_19 w.params x) 2349 os)) → Sem.wp (model PW w) (Gb q) (exec st tenv) Q E p (hpS (hl_18 w.params) 398 os)
theorem st19_gen (w : World) (os : OsState) (q : Pos) (e : PySem.Expr) (T : B3Dict w (eval e tenv)) (hs : swapsWith e (some (.Name (Str.ofString "b3_exceptions") b3N)) b3A.line tenv = pure false) : St19 w q os (.Assign [.Name (Str.ofString "b3_exceptions") b3N] e b3A) := by
  refine ⟨fun p Q E hQ => ?_⟩
  rw [exec_Assign_Name tenv (Str.ofString "b3_exceptions") b3N e b3A hs]
  generalize eval e tenv = t at T
  simp only [Sem.wp_bind', Sem.wp_cmd_standAt, Sem.wp_bindName, Sem.wp_pure']
  refine Sem.wp_mono _ _ _ (fun v p' s' h' => ?_) (fun e p' s' h' => h'.elim) _ _ (b3_use T os q _)
  obtain ⟨rfl, x, hb, rfl⟩ := h'
  have hr := runs_of (ev_19 w x os b3N q)
  have hw := (Sem.wp_iff_runs (model PW w) (Gb q) stB (fun r s'' => r = .ok .next ∧ s'' = hpS (hl_19 w.params x) 2349 os) b3N _).mpr ⟨_, _, hr, rfl, rfl⟩
  unfold stB at hw
  rw [Sem.wp_bind] at hw
  refine Sem.wp_mono _ _ _ (fun u p'' s'' h' => ?_) (fun e p'' s'' h' => ?_) b3N _ hw
  · obtain ⟨_, rfl⟩ := h'
    exact hQ x p'' hb
  · exact absurd h'.1 (by intro e; cases e)
theorem st19_all (w : World) (os : OsState) (q : Pos) : ∀ st, PW.main.body[(19 : Nat)]? = some st → St19 w q os st := fun st hst => by
  rw [st_19] at hst
  obtain rfl := Option.some.inj hst
  exact st19_gen w os q _ (b3_dict w _ rfl) sw_19
theorem rest_19 {w : World} {q : Pos} {Qf : Shared → Prop} {os : OsState} (hQ : ∀ x, B3At w os x → Qf (hpS (hl_29 w.params x) 2513 os)) : Rest w q Qf 19 (hpS (hl_18 w.params) 398 os) := by
  refine rest_of (by decide) fun st hst p => ?_
  exact (st19_all w os q st hst).run p _ _ fun x p' hb => ⟨rfl, rest_20 x (hQ x hb)⟩
theorem rest_all {w : World} {q : Pos} {Qf : Shared → Prop} {os : OsState} (hQ : ∀ x, B3At w os x → Qf (hpS (hl_29 w.params x) 2513 os)) : Rest w q Qf 0 (hpS (hl_a w.params) 187 os) := rest_0 (rest_19 hQ)
end Mine
namespace Mine
theorem runNI_add {den : Code → Sem Fin} {prog : Program} {w : World} : ∀ (n m : Nat) {s s' : Shared} {t t' : Thread}, runNI den prog w n s t = .running s' t' → runNI den prog w (n + m) s t = runNI den prog w m s' t'
  | 0, m, s, s', t, t', h => by
    injection h with h1 h2
    subst h1 h2
    rw [Nat.zero_add]
  | n + 1, m, s, s', t, t', h => by
    rw [show n + 1 + m = (n + m) + 1 by omega]
    simp only [runNI] at h ⊢
    cases hs : stepI den prog w s t with
    | go s₁ t₁ => rw [hs] at h; exact runNI_add n m h
    | halt o s₁ => rw [hs] at h; cases h
theorem runNI_K {den : Code → Sem Fin} {prog : Program} {w : World} : ∀ (n : Nat) {s s' : Shared} {t t' : Thread}, runNI den prog w n s t = .running s' t' → runNK den prog w n s t = .running s' t'
  | 0, s, s', t, t', h => h
  | n + 1, s, s', t, t', h => by
    simp only [runNI, runNK] at h ⊢
    cases hl : t.loud with
    | true => rw [stepI_loud den prog w hl] at h; cases h
    | false =>
      rw [stepI_quiet den prog w hl] at h
      cases hs : stepK den prog w s t with
      | go s₁ t₁ => rw [hs] at h; exact runNI_K n h
      | halt o s₁ => rw [hs] at h; cases h
theorem through_of {prog : Program} {w : World} {n : Nat} {s s' : Shared} {t : Thread} {f : Flow} {c : Code} {p : Pos} (hz : s.asleep) (hg : s'.gens = #[])
    (h : runNI (denote table) prog w n s t = .running s' ⟨.pure (.done f), c, p, []⟩) : ∃ n t', schedN (denote table) prog w n (.single s t) = .running (.single s' t') ∧ through t' = true := by
  have h2 : runNI (denote table) prog w (n + 1) s t = .halted (outcomeOf (.ok f)) s' := by
    rw [runNI_add n 1 h]
    show (match (model prog w).step s' ⟨leafOf (.ok f), c, p, []⟩ with | .go s'' t'' => Run.running s'' t'' | .halt o s'' => .halted o s'') = _
    rw [step_leaf_nil]
    have hl : leftWithCleanup s'.gens = false := by rw [hg]; simp [leftWithCleanup]
    simp only [finish, hl, Bool.false_eq_true, if_false]
  obtain ⟨s'', hn, hf, hc⟩ := runNI_real _ _ _ h2 (outcomeOf_ends _)
  have hne : ∀ k s₂, runN (denote table) prog w k s t ≠ .halted (.unsupported "lifetime:generator-with-cleanup-left-suspended") s₂ := by
    intro k s₂ hk
    have a := runN_mono (denote table) prog w (n + 1) k s t _ s'' hn
    have b := runN_mono (denote table) prog w k (n + 1) s t _ s₂ hk
    rw [Nat.add_comm, b] at a
    injection a with a1 _
    cases a1
  have e := schedN_eq_runN (denote table) prog w s t hz ⟨hc, hne⟩ n
  have hk := runNK_same (denote table) prog w n (s₁ := s) (s₂ := s) (t₁ := t) (t₂ := t) rfl rfl
  rw [runNI_K n h] at hk
  cases hr : runN (denote table) prog w n s t with
  | halted o s₂ => rw [hr] at hk; cases hk
  | running s₂ t₂ =>
    rw [hr] at hk e
    simp only [Run.forget] at hk
    injection hk with k1 k2
    have : s₂ = s' := Shared.eq_of_forget_eq k1.symm hg
    subst this
    refine ⟨n, t₂, e, ?_⟩
    obtain ⟨cur, code, pos, stack⟩ := t₂
    simp only [Thread.forget, Thread.mk.injEq] at k2
    obtain ⟨rfl, rfl, rfl, k2⟩ := k2
    cases stack with
    | nil => rfl
    | cons a l => cases k2
theorem ev_pre (w : World) (os : OsState) : runNI (denote treeTable) PW w 12 (hpS (hl_z w.params) 181 os) (topStub PW) = .running (hpS (hl_a w.params) 187 os) ⟨denote treeTable tcode, tcode, default, [topFrame default]⟩ := by kernel_rfl
theorem blk (w : World) : blockStart (behindTheImports PW) tenv = Sem.pure () := by kernel_rfl
theorem body_eq : behindTheImports PW = PW.main.body.drop 0 := by kernel_rfl
theorem body_runs {w : World} {q p : Pos} {Qf : Shared → Prop} {s : Shared} (h : Rest w q Qf 0 s) : ∃ s', Runs (model PW w) (Gb q) p (denote table tcode) [] s (.ret (.ok .next)) s' ∧ Qf s' := by
  have e : denote table tcode = (blockStart (behindTheImports PW) tenv).bind (fun _ => ((execs (behindTheImports PW) tenv).onRaise (leaving tenv)).bind fun f => (Sem.pure (Fin.done f) : Sem Fin)) := rfl
  have hw : Sem.wp (model PW w) (Gb q) (denote table tcode) (Sem.finPost (model PW w) (Gb q) (fun r s' => r = .ok .next ∧ Qf s')) (fun e _ s' => (Except.error e : Result) = .ok .next ∧ Qf s') p s := by
    rw [e, blk w]
    show Sem.wp (model PW w) (Gb q) (((execs (behindTheImports PW) tenv).onRaise (leaving tenv)).bind fun f => (Sem.pure (Fin.done f) : Sem Fin)) _ _ p s
    rw [Sem.wp_bind, Sem.wp_onRaise, body_eq]
    refine Sem.wp_mono _ _ _ (fun f p' s' ⟨e, hr⟩ => ?_) (fun _ _ _ e => e.elim) p s (h.run p)
    subst e
    exact ⟨rfl, hr⟩
  obtain ⟨r, s', hr, rfl, hq⟩ := (Sem.wp_iff_runs (model PW w) (Gb q) _ _ p s).mp hw
  exact ⟨s', hr, hq⟩
theorem top_runs (w : World) (os : OsState) : ∃ x, B3At w os x ∧ ∃ n c p, runNI (denote table) PW w n (hpS (hl_z w.params) 181 os) (topStub PW) = .running (hpS (hl_29 w.params x) 2513 os) ⟨.pure (.done (.ret .none)), c, p, []⟩ := by
  obtain ⟨s', hr, x, hb, rfl⟩ := body_runs (w := w) (q := default) (p := default) (Qf := fun s' => ∃ x, B3At w os x ∧ s' = hpS (hl_29 w.params x) 2513 os) (rest_all fun x hx => ⟨x, hx, rfl⟩)
  have h2 : Runs (model PW w) ⟨tcode, none, none, [], none⟩ default (denote table tcode) [topFrame default] (hpS (hl_a w.params) 187 os) (.ret (.ok (.ret .none))) (hpS (hl_29 w.params x) 2513 os) := .segRet hr .done
  obtain ⟨n, t', c', p', pre', hn, rfl, rfl⟩ := (runs_reach h2 [] ⟨rfl, rfl, rfl, rfl⟩).runN
  have e := ev_pre w os
  rw [← table_eq_tree] at e
  exact ⟨x, hb, 12 + n, c', p', by rw [runNI_add 12 n e]; exact hn⟩
end Mine
namespace Mine
noncomputable def hpEnd (P : Params) (x : Nat → Obj) : Heap := ⟨(hl_29 P x).toArray, {}⟩
noncomputable def hpBoot (P : Params) : Heap := ⟨(hl_z P).toArray, {}⟩
theorem hb_eq (P : Params) : boot_heap P = hpBoot P := by kernel_rfl
theorem hd_eq : boot_drawn = ⟨0, 0, 0, 0⟩ := by kernel_rfl
theorem open_eq : opening PW = plainProg PW.main.scope.names := by kernel_rfl
theorem fence_eq (s : Shared) : fenceModules? PW s = some s := by kernel_rfl
theorem mods_eq : importedModules PW.main.body = [] := by kernel_rfl
theorem st_ok (P : Params) (x : Nat → Obj) : staticsOk [] (hpBoot P) (hpEnd P x) = true := by kernel_rfl
theorem nm_ok (P : Params) (x : Nat → Obj) : namesBound PW (hpEnd P x) = true := by kernel_rfl
theorem ld_ok (P : Params) (x : Nat → Obj) : laidKept (hpBoot P) (hpEnd P x) = true := by kernel_rfl
theorem ac_ok (P : Params) (x : Nat → Obj) : (hpEnd P x).accountedOkI [] = true := by kernel_rfl
theorem gl_ok (P : Params) (x : Nat → Obj) : (hpEnd P x).isNs mainGlobals = true := by kernel_rfl
theorem bn_ok (P : Params) (x : Nat → Obj) : (hpEnd P x).isNs builtinsNs = true := by kernel_rfl
theorem bm_ok (P : Params) (x : Nat → Obj) : (hpEnd P x).bmainOk = true := by kernel_rfl
theorem bv_ok (P : Params) (x : Nat → Obj) : (hpEnd P x).bltView = bltViewBooted := by kernel_rfl
theorem same_ok (P : Params) (x : Nat → Obj) : ∀ b < 11, b ≠ 3 → (hl_29 P x)[b]? = (hl_z P)[b]?
  | 0, _, _ | 1, _, _ | 2, _, _ | 4, _, _ | 5, _, _ | 6, _, _ | 7, _, _ | 8, _, _ | 9, _, _ | 10, _, _ => rfl
  | 3, _, h => absurd rfl h
  | n + 11, h, _ => absurd h (by omega)
end Mine
namespace Mine
theorem kept_top (P : Params) (x : Nat → Obj) (b : Addr) (o : Obj) (h : (hpBoot P).get? b = some o) (hn : ¬ theTopsOwn (hpBoot P) b) : (hpEnd P x).get? b = some o := by
  obtain ⟨h1, h2⟩ := Heap.get?_some_iff.mp h
  have hb : b < 11 := by
    have := (Array.getElem?_eq_some_iff.mp h1).1
    exact this
  refine Heap.get?_some_iff.mpr ⟨?_, h2⟩
  have h3 : b ≠ 3 := fun e => hn (.inl e)
  have h4 : (hl_z P)[b]? = some o := by
    rw [← h1]; exact List.getElem?_toArray.symm
  show (hl_29 P x).toArray[b]? = some o
  rw [List.getElem?_toArray, same_ok P x b hb h3, h4]
theorem top_ran (w : World) (s₀ : Shared) (h1 : s₀.heap = hpBoot w.params) (h2 : s₀.gens = #[]) (h3 : s₀.drawn = ⟨0, 0, 0, 0⟩) (h4 : s₀.toks = 181) (hz : s₀.asleep) :
    ∃ x, B3At w s₀.os x ∧ TopRan PW w s₀ ⟨hpEnd w.params x, #[], ⟨0, 0, 0, 0⟩, 2513, s₀.os⟩ := by
  obtain ⟨x, hb, n, c, p, hr⟩ := top_runs w s₀.os
  refine ⟨x, hb, ?_⟩
  have e : s₀ = hpS (hl_z w.params) 181 s₀.os := by
    obtain ⟨heap, gens, drawn, toks, os⟩ := s₀
    cases h1; cases h2; cases h3; cases h4; rfl
  have hT := through_of (s := hpS (hl_z w.params) 181 s₀.os) (e ▸ hz) rfl hr
  have hg := gl_ok w.params x
  have hbn := bn_ok w.params x
  refine ⟨?_, ?_, Shared.rest_eq rfl, fun b o hb hn => ?_, ?_, ?_, Pin.keysAreStrs_of hg, fun y hy => (Pin.builtinOf_eq hbn y).trans (Heap.of_bltView hbn (bv_ok w.params x) y hy), ?_, ?_, names_of_bound (nm_ok w.params x), ?_⟩
  · rw [← e] at hT; exact hT
  · rw [h1]; rfl
  · rw [h1] at hb hn; exact kept_top _ _ _ _ hb hn
  · rw [mods_eq]; exact Heap.accountedI_of_ok (ac_ok w.params x)
  · rw [mods_eq, h1]; exact statics_of_ok (st_ok w.params x)
  · obtain ⟨bm, ob, a, _, b, c, d, _⟩ := Heap.bmainOk_spec (bm_ok w.params x)
    exact ⟨bm, ob, (Pin.globalOf_eq hg _).trans a, b, c, d⟩
  · intro g hg; exact absurd hg (Array.not_mem_empty g)
  · rw [h1]; exact laid_of_kept (ld_ok w.params x)
theorem top_all (w : World) : (∃ s, AfterRun (opening PW) w s) ∧ ∀ s, AfterRun (opening PW) w s → ∃ s₀, fenceModules? PW s = some s₀ ∧ s₀.gens = #[] ∧
    ∃ os x, B3At w os x ∧ TopRan PW w s₀ ⟨hpEnd w.params x, #[], ⟨0, 0, 0, 0⟩, 2513, os⟩ ∧ Shared.asleep ⟨hpEnd w.params x, #[], ⟨0, 0, 0, 0⟩, 2513, os⟩ := by
  have h := boot_open (p := PW) (N := 600) open_eq (by decide) fence_eq w
  rw [← table_eq_tree] at h
  obtain ⟨s₀, h1, h2⟩ := Option.map_eq_some_iff.mp h
  obtain ⟨s, h4, h5⟩ := Option.bind_eq_some_iff.mp h1
  have A := AfterImport.of_importEnds h4
  refine ⟨⟨s, A⟩, fun s' hs' => ?_⟩
  obtain rfl : s' = s := AfterImport.unique hs' A
  have z : s₀.asleep := Shared.asleep_of_life (fence_lifeW h5) A.life
  injection h2 with e1 e2
  injection e2 with e2 e3
  injection e3 with e3 e4
  obtain ⟨x, hb, hT⟩ := top_ran w s₀ (e1.trans (hb_eq _)) e2 (e3.trans hd_eq) e4 z
  exact ⟨s₀, h5, e2, s₀.os, x, hb, hT, Shared.asleep_of_life (s := s₀) hT.2.1 z⟩
end Mine
namespace Mine
noncomputable def GE (w : World) (os : OsState) (x : Nat → Obj) : Glb := ⟨PW, w, hpEnd w.params x, os, (hpEnd w.params x).nsMap mainGlobals, (hpEnd w.params x).nsMap builtinsNs⟩
theorem ge_size (w : World) (os : OsState) (x : Nat → Obj) : (GE w os x).B.objs.size = 273 := by kernel_rfl
theorem ge_ok (w : World) (os : OsState) (x : Nat → Obj) : GOk (GE w os x) where
  g := .of_isNs (gl_ok _ _)
  b := .of_isNs (bn_ok _ _)
  bl := fun y hy => Heap.of_bltView (bn_ok w.params x) (bv_ok w.params x) y hy
  lim := ⟨_, .of_isNs (by kernel_rfl), by kernel_rfl⟩
  last := ⟨ob_272 w.params, by rw [ge_size]; kernel_rfl⟩
theorem names_ok {l : List (Str × NameKind)} (h : l.all (fun p => p.2 != .cell || l.lookup p.1 != some .local) = true) : NamesOk l := fun n hl hm => by
  have q := List.all_eq_true.mp h _ hm
  rw [Bool.or_eq_true] at q
  rcases q with q | q
  · exact absurd (show (NameKind.cell != NameKind.cell) = true from q) (by decide)
  · dsimp only at q
    rw [hl] at q
    exact absurd q (by decide)
theorem cons_of {n : Nat} : ∀ l : List Value, l.length = n + 1 → ∃ a t, l = a :: t ∧ t.length = n
  | a :: t, h => ⟨a, t, rfl, Nat.succ.inj h⟩
  | [], h => absurd h (Nat.succ_ne_zero n).symm
theorem bind1 {fd : FuncData} {a : String} (h : ∀ x : Value, bindArgs fd ⟨[x], []⟩ = pure [(Str.ofString a, x)]) : ∀ cs : List Value, cs.length = 1 → bindArgs fd ⟨cs, []⟩ = pure (([a].map Str.ofString).zip cs) := by
  intro cs hc
  obtain ⟨x, rfl⟩ := List.length_eq_one_iff.mp hc
  exact h x
theorem bind2 {fd : FuncData} {a b : String} (h : ∀ x y : Value, bindArgs fd ⟨[x, y], []⟩ = pure [(Str.ofString a, x), (Str.ofString b, y)]) : ∀ cs : List Value, cs.length = 2 → bindArgs fd ⟨cs, []⟩ = pure (([a, b].map Str.ofString).zip cs) := by
  intro cs hc
  obtain ⟨x, _, rfl, h1⟩ := cons_of cs hc
  obtain ⟨y, _, rfl, h2⟩ := cons_of _ h1
  obtain rfl := List.eq_nil_of_length_eq_zero h2
  exact h x y
theorem bind5 {fd : FuncData} {a b c d e : String} (h : ∀ x y z u v : Value, bindArgs fd ⟨[x, y, z, u, v], []⟩ = pure [(Str.ofString a, x), (Str.ofString b, y), (Str.ofString c, z), (Str.ofString d, u), (Str.ofString e, v)]) : ∀ cs : List Value, cs.length = 5 → bindArgs fd ⟨cs, []⟩ = pure (([a, b, c, d, e].map Str.ofString).zip cs) := by
  intro cs hc
  obtain ⟨x, _, rfl, h1⟩ := cons_of _ hc
  obtain ⟨y, _, rfl, h2⟩ := cons_of _ h1
  obtain ⟨z, _, rfl, h3⟩ := cons_of _ h2
  obtain ⟨u, _, rfl, h4⟩ := cons_of _ h3
  obtain ⟨v, _, rfl, h5⟩ := cons_of _ h4
  obtain rfl := List.eq_nil_of_length_eq_zero h5
  exact h x y z u v
noncomputable def fdOf (o : Obj) : FuncData := match o.data with
  | .func fd => fd
  | _ => default
theorem mkDef {G : Glb} {f c : Addr} {o oc : Obj} {fd : FuncData} {vs : Array Value} {t : Tok} {ns : List String} {sc : Scope} {body : List Stmt} (h1 : G.B.get? f = some o) (h2 : o.data = .func fd) (h3 : G.B.get? c = some oc) (h4 : oc.data = .fields vs) (h5 : fd.code = .ref c) (h6 : vs[1]? = some (.str fd.qualname t))
    (h7 : fd.body = .stmts body) (h8 : fd.closure = []) (h9 : fd.globals = mainGlobals) (h10 : fd.builtins = builtinsNs) (h11 : fd.scope = sc) (h12 : ∀ cs : List Value, cs.length = ns.length → bindArgs fd ⟨cs, []⟩ = pure ((ns.map Str.ofString).zip cs))
    (h13 : (ns.all fun n => lc (sc.names.lookup (Str.ofString n))) = true) (h14 : sc.names.all (fun p => p.2 != .cell || sc.names.lookup p.1 != some .local) = true) (h15 : (!sc.isCoroutine && !sc.isGenerator && decide (sc.kind = .function)) = true) : Def G f ns sc body := by
  simp only [Bool.and_eq_true, Bool.not_eq_true', decide_eq_true_eq] at h15
  exact ⟨⟨o, fd, h1, h2, ⟨c, oc, vs, t, h5, h3, h4, h6⟩, h7, h8, h9, h10, h11, h12⟩, fun n hn => List.all_eq_true.mp h13 n hn, names_ok h14, h15.1.1, h15.1.2, h15.2⟩
theorem kd_add (w : World) (os : OsState) (x : Nat → Obj) : Def (GE w os x) 43 ["a", "b"] (FS 6) (FB 6) :=
  mkDef (c := 42) (o := ob_43 w.params) (oc := ob_42 w.params) (fd := fdOf (ob_43 w.params)) (by kernel_rfl) rfl (by kernel_rfl) rfl rfl rfl rfl rfl rfl rfl rfl (bind2 (by intros; rfl)) (by kernel_rfl) (by kernel_rfl) (by kernel_rfl)
theorem kd_floordiv (w : World) (os : OsState) (x : Nat → Obj) : Def (GE w os x) 50 ["a", "b"] (FS 7) (FB 7) :=
  mkDef (c := 49) (o := ob_50 w.params) (oc := ob_49 w.params) (fd := fdOf (ob_50 w.params)) (by kernel_rfl) rfl (by kernel_rfl) rfl rfl rfl rfl rfl rfl rfl rfl (bind2 (by intros; rfl)) (by kernel_rfl) (by kernel_rfl) (by kernel_rfl)
theorem kd_lshift (w : World) (os : OsState) (x : Nat → Obj) : Def (GE w os x) 57 ["a", "b"] (FS 8) (FB 8) :=
  mkDef (c := 56) (o := ob_57 w.params) (oc := ob_56 w.params) (fd := fdOf (ob_57 w.params)) (by kernel_rfl) rfl (by kernel_rfl) rfl rfl rfl rfl rfl rfl rfl rfl (bind2 (by intros; rfl)) (by kernel_rfl) (by kernel_rfl) (by kernel_rfl)
theorem kd_mul (w : World) (os : OsState) (x : Nat → Obj) : Def (GE w os x) 64 ["a", "b"] (FS 9) (FB 9) :=
  mkDef (c := 63) (o := ob_64 w.params) (oc := ob_63 w.params) (fd := fdOf (ob_64 w.params)) (by kernel_rfl) rfl (by kernel_rfl) rfl rfl rfl rfl rfl rfl rfl rfl (bind2 (by intros; rfl)) (by kernel_rfl) (by kernel_rfl) (by kernel_rfl)
theorem kd_neg (w : World) (os : OsState) (x : Nat → Obj) : Def (GE w os x) 71 ["a"] (FS 10) (FB 10) :=
  mkDef (c := 70) (o := ob_71 w.params) (oc := ob_70 w.params) (fd := fdOf (ob_71 w.params)) (by kernel_rfl) rfl (by kernel_rfl) rfl rfl rfl rfl rfl rfl rfl rfl (bind1 (by intros; rfl)) (by kernel_rfl) (by kernel_rfl) (by kernel_rfl)
theorem kd_or (w : World) (os : OsState) (x : Nat → Obj) : Def (GE w os x) 78 ["a", "b"] (FS 11) (FB 11) :=
  mkDef (c := 77) (o := ob_78 w.params) (oc := ob_77 w.params) (fd := fdOf (ob_78 w.params)) (by kernel_rfl) rfl (by kernel_rfl) rfl rfl rfl rfl rfl rfl rfl rfl (bind2 (by intros; rfl)) (by kernel_rfl) (by kernel_rfl) (by kernel_rfl)
theorem kd_sub (w : World) (os : OsState) (x : Nat → Obj) : Def (GE w os x) 85 ["a", "b"] (FS 12) (FB 12) :=
  mkDef (c := 84) (o := ob_85 w.params) (oc := ob_84 w.params) (fd := fdOf (ob_85 w.params)) (by kernel_rfl) rfl (by kernel_rfl) rfl rfl rfl rfl rfl rfl rfl rfl (bind2 (by intros; rfl)) (by kernel_rfl) (by kernel_rfl) (by kernel_rfl)
theorem kd_xor (w : World) (os : OsState) (x : Nat → Obj) : Def (GE w os x) 92 ["a", "b"] (FS 13) (FB 13) :=
  mkDef (c := 91) (o := ob_92 w.params) (oc := ob_91 w.params) (fd := fdOf (ob_92 w.params)) (by kernel_rfl) rfl (by kernel_rfl) rfl rfl rfl rfl rfl rfl rfl rfl (bind2 (by intros; rfl)) (by kernel_rfl) (by kernel_rfl) (by kernel_rfl)
theorem kd_getitem (w : World) (os : OsState) (x : Nat → Obj) : Def (GE w os x) 99 ["a", "b"] (FS 14) (FB 14) :=
  mkDef (c := 98) (o := ob_99 w.params) (oc := ob_98 w.params) (fd := fdOf (ob_99 w.params)) (by kernel_rfl) rfl (by kernel_rfl) rfl rfl rfl rfl rfl rfl rfl rfl (bind2 (by intros; rfl)) (by kernel_rfl) (by kernel_rfl) (by kernel_rfl)
theorem kd_indexOf (w : World) (os : OsState) (x : Nat → Obj) : Def (GE w os x) 106 ["a", "b"] (FS 15) (FB 15) :=
  mkDef (c := 105) (o := ob_106 w.params) (oc := ob_105 w.params) (fd := fdOf (ob_106 w.params)) (by kernel_rfl) rfl (by kernel_rfl) rfl rfl rfl rfl rfl rfl rfl rfl (bind2 (by intros; rfl)) (by kernel_rfl) (by kernel_rfl) (by kernel_rfl)
theorem kd_flags (w : World) (os : OsState) (x : Nat → Obj) : Def (GE w os x) 29 ["flags"] (FS 3) (FB 3) :=
  mkDef (c := 28) (o := ob_29 w.params) (oc := ob_28 w.params) (fd := fdOf (ob_29 w.params)) (by kernel_rfl) rfl (by kernel_rfl) rfl rfl rfl rfl rfl rfl rfl rfl (bind1 (by intros; rfl)) (by kernel_rfl) (by kernel_rfl) (by kernel_rfl)
theorem kd_varint (w : World) (os : OsState) (x : Nat → Obj) : Def (GE w os x) 36 ["iterator"] (FS 4) (FB 4) :=
  mkDef (c := 35) (o := ob_36 w.params) (oc := ob_35 w.params) (fd := fdOf (ob_36 w.params)) (by kernel_rfl) rfl (by kernel_rfl) rfl rfl rfl rfl rfl rfl rfl rfl (bind1 (by intros; rfl)) (by kernel_rfl) (by kernel_rfl) (by kernel_rfl)
theorem kd_b1 (w : World) (os : OsState) (x : Nat → Obj) : Def (GE w os x) 124 ["code"] (FS 18) (FB 18) :=
  mkDef (c := 123) (o := ob_124 w.params) (oc := ob_123 w.params) (fd := fdOf (ob_124 w.params)) (by kernel_rfl) rfl (by kernel_rfl) rfl rfl rfl rfl rfl rfl rfl rfl (bind1 (by intros; rfl)) (by kernel_rfl) (by kernel_rfl) (by kernel_rfl)
theorem kd_b3 (w : World) (os : OsState) (x : Nat → Obj) : Def (GE w os x) 170 ["code"] (FS 20) (FB 20) :=
  mkDef (c := 169) (o := ob_170 w.params) (oc := ob_169 w.params) (fd := fdOf (ob_170 w.params)) (by kernel_rfl) rfl (by kernel_rfl) rfl rfl rfl rfl rfl rfl rfl rfl (bind1 (by intros; rfl)) (by kernel_rfl) (by kernel_rfl) (by kernel_rfl)
theorem kd_typed (w : World) (os : OsState) (x : Nat → Obj) : Def (GE w os x) 243 ["text", "number"] (FS 24) (FB 24) :=
  mkDef (c := 242) (o := ob_243 w.params) (oc := ob_242 w.params) (fd := fdOf (ob_243 w.params)) (by kernel_rfl) rfl (by kernel_rfl) rfl rfl rfl rfl rfl rfl rfl rfl (bind2 (by intros; rfl)) (by kernel_rfl) (by kernel_rfl) (by kernel_rfl)
theorem kd_prepared (w : World) (os : OsState) (x : Nat → Obj) : Def (GE w os x) 250 ["text"] (FS 25) (FB 25) :=
  mkDef (c := 249) (o := ob_250 w.params) (oc := ob_249 w.params) (fd := fdOf (ob_250 w.params)) (by kernel_rfl) rfl (by kernel_rfl) rfl rfl rfl rfl rfl rfl rfl rfl (bind1 (by intros; rfl)) (by kernel_rfl) (by kernel_rfl) (by kernel_rfl)
theorem kd_octets (w : World) (os : OsState) (x : Nat → Obj) : Def (GE w os x) 257 ["weights"] (FS 26) (FB 26) :=
  mkDef (c := 256) (o := ob_257 w.params) (oc := ob_256 w.params) (fd := fdOf (ob_257 w.params)) (by kernel_rfl) rfl (by kernel_rfl) rfl rfl rfl rfl rfl rfl rfl rfl (bind1 (by intros; rfl)) (by kernel_rfl) (by kernel_rfl) (by kernel_rfl)
theorem kd_apart (w : World) (os : OsState) (x : Nat → Obj) : Def (GE w os x) 262 ["ways", "trails", "weights", "base", "least"] (FS 27) (FB 27) :=
  mkDef (c := 261) (o := ob_262 w.params) (oc := ob_261 w.params) (fd := fdOf (ob_262 w.params)) (by kernel_rfl) rfl (by kernel_rfl) rfl rfl rfl rfl rfl rfl rfl rfl (bind5 (by intros; rfl)) (by kernel_rfl) (by kernel_rfl) (by kernel_rfl)
theorem kd_det (w : World) (os : OsState) (x : Nat → Obj) : Def (GE w os x) 267 ["table"] (FS 28) (FB 28) :=
  mkDef (c := 266) (o := ob_267 w.params) (oc := ob_266 w.params) (fd := fdOf (ob_267 w.params)) (by kernel_rfl) rfl (by kernel_rfl) rfl rfl rfl rfl rfl rfl rfl rfl (bind1 (by intros; rfl)) (by kernel_rfl) (by kernel_rfl) (by kernel_rfl)
theorem kd_law (w : World) (os : OsState) (x : Nat → Obj) : Def (GE w os x) 272 ["script"] (FS 29) (FB 29) :=
  mkDef (c := 271) (o := ob_272 w.params) (oc := ob_271 w.params) (fd := fdOf (ob_272 w.params)) (by kernel_rfl) rfl (by kernel_rfl) rfl rfl rfl rfl rfl rfl rfl rfl (bind1 (by intros; rfl)) (by kernel_rfl) (by kernel_rfl) (by kernel_rfl)
theorem kd_init (w : World) (os : OsState) (x : Nat → Obj) : Def (GE w os x) 187 ["self", "ws"] (MS 1) (MB 1) :=
  mkDef (c := 186) (o := ob_187 w.params) (oc := ob_186 w.params) (fd := fdOf (ob_187 w.params)) (by kernel_rfl) rfl (by kernel_rfl) rfl rfl rfl rfl rfl rfl rfl rfl (bind2 (by intros; rfl)) (by kernel_rfl) (by kernel_rfl) (by kernel_rfl)
theorem kd_longest (w : World) (os : OsState) (x : Nat → Obj) : Def (GE w os x) 194 ["self"] (MS 2) (MB 2) :=
  mkDef (c := 193) (o := ob_194 w.params) (oc := ob_193 w.params) (fd := fdOf (ob_194 w.params)) (by kernel_rfl) rfl (by kernel_rfl) rfl rfl rfl rfl rfl rfl rfl rfl (bind1 (by intros; rfl)) (by kernel_rfl) (by kernel_rfl) (by kernel_rfl)
theorem kd_indent (w : World) (os : OsState) (x : Nat → Obj) : Def (GE w os x) 201 ["self", "tabsize"] (MS 3) (MB 3) :=
  mkDef (c := 200) (o := ob_201 w.params) (oc := ob_200 w.params) (fd := fdOf (ob_201 w.params)) (by kernel_rfl) rfl (by kernel_rfl) rfl rfl rfl rfl rfl rfl rfl rfl (bind2 (by intros; rfl)) (by kernel_rfl) (by kernel_rfl) (by kernel_rfl)
theorem kd_less (w : World) (os : OsState) (x : Nat → Obj) : Def (GE w os x) 222 ["self", "other"] (MS 6) (MB 6) :=
  mkDef (c := 221) (o := ob_222 w.params) (oc := ob_221 w.params) (fd := fdOf (ob_222 w.params)) (by kernel_rfl) rfl (by kernel_rfl) rfl rfl rfl rfl rfl rfl rfl rfl (bind2 (by intros; rfl)) (by kernel_rfl) (by kernel_rfl) (by kernel_rfl)
end Mine
namespace Mine
theorem kmgs (w : World) (os : OsState) (x : Nat → Obj) : ∀ p ∈ mgL, (GE w os x).mg (Str.ofString p.1) = p.2 := by
  have h : mgL.map (fun p => (GE w os x).mg (Str.ofString p.1)) = mgL.map (·.2) := by kernel_rfl
  intro p hp
  exact List.map_inj_left.mp h p hp
theorem kbooked (w : World) (os : OsState) (x : Nat → Obj) : NoneBooked (GE w os x).B := ⟨_, .of_isNs (by kernel_rfl), by kernel_rfl⟩
theorem ik_is {prog : Program} {w : World} (i : Int) (t : Tok) : (intKind prog w).is i (.int i t) = true := by
  unfold intKind
  exact beq_self_eq_true i
theorem ik_is' {prog : Program} {w : World} {k i : Int} {t : Tok} (h : (intKind prog w).is k (.int i t) = true) : i = k := by
  unfold intKind at h
  exact beq_iff_eq.mp h
theorem LikeB.at {l : List (Int × Str)} {kvs : List (Int × Value)} (h : LikeB l kvs) (k : Int) : match l.lookup k with
    | none => valueAt kvs k = none
    | some y => ∃ t, 1 ≤ t ∧ t < 2513 ∧ valueAt kvs k = some (.str y t) := by
  induction h with
  | nil => exact rfl
  | @cons i y t l kvs h1 h2 _ ih =>
    rw [List.lookup_cons]
    by_cases e : i = k
    · subst e
      rw [beq_self_eq_true]
      exact ⟨t, h1, h2, by simp [valueAt]⟩
    · have e1 : (k == i) = false := beq_eq_false_iff_ne.mpr fun q => e q.symm
      rw [e1]
      have e2 : valueAt ((i, .str y t) :: kvs) k = valueAt kvs k := by simp [valueAt, List.find?_cons, e]
      rw [e2]
      exact ih
noncomputable def entsOf : List (Int × Str × Tok × Tok) → List DictEntry
  | [] => []
  | (i, x, t, u) :: l => ⟨hashInt i, .int i t, .str x u⟩ :: entsOf l
noncomputable def kvsOf (l : List (Int × Str × Tok × Tok)) : List (Int × Value) := l.map fun p => (p.1, .str p.2.1 p.2.2.2)
theorem ents_keys {prog : Program} {w : World} : ∀ (l : List (Int × Str × Tok × Tok)) (e : DictEntry), e ∈ entsOf l → ∃ k, (intKind prog w).is k e.key = true ∧ e.hash = (intKind prog w).hash k
  | [], e, h => by cases h
  | p :: l, e, h => by
    rcases List.mem_cons.mp h with rfl | h
    · exact ⟨p.1, ik_is _ _, rfl⟩
    · exact ents_keys l e h
theorem dictOf_ents {prog : Program} {w : World} {h : Heap} {a : Addr} {o : Obj} {n : Nat} (l : List (Int × Str × Tok × Tok)) (h1 : h.get? a = some o) (h2 : o.ExactDict) (h3 : o.data = .dict (entsOf l).toArray n) (h4 : (l.map (·.1)).Nodup) : h.DictOf (intKind prog w) a (kvsOf l) := by
  refine ⟨o, _, n, h1, h2, h3, ?_, ?_, ?_⟩
  · intro e he
    have he : e ∈ entsOf l := by simpa using he
    exact ents_keys l e he
  · rw [List.toList_toArray]
    clear h3 h4
    induction l with
    | nil => exact .nil
    | cons p l ih => exact .cons (ik_is _ _) rfl ih
  · unfold kvsOf
    rw [List.map_map]
    exact h4
noncomputable def cfnL : List (Int × Str × Tok × Tok) := [(1, Str.ofString "OPTIMIZED", 196, 197), (2, Str.ofString "NEWLOCALS", 198, 199), (4, Str.ofString "VARARGS", 200, 201), (8, Str.ofString "VARKEYWORDS", 202, 203), (16, Str.ofString "NESTED", 204, 205), (32, Str.ofString "GENERATOR", 206, 207), (64, Str.ofString "NOFREE", 208, 209), (128, Str.ofString "COROUTINE", 210, 211), (256, Str.ofString "ITERABLE_COROUTINE", 212, 213), (512, Str.ofString "ASYNC_GENERATOR", 214, 215)]
theorem lookup_map {α β : Type} (f : α → β) : ∀ (l : List (Int × α)) (k : Int), (l.map fun p => (p.1, f p.2)).lookup k = (l.lookup k).map f
  | [], _ => rfl
  | (i, a) :: l, k => by
    rw [List.map_cons, List.lookup_cons, List.lookup_cons]
    cases k == i with
    | true => rfl
    | false => exact lookup_map f l k
theorem kflags (w : World) (os : OsState) (x : Nat → Obj) : ∃ f, (GE w os x).B.MapOf (intKind (GE w os x).p (GE w os x).w) 22 f ∧ ∀ k, match cfn k with
    | none => f k = none
    | some nm => ∃ t, 1 ≤ t ∧ t < 2513 ∧ f k = some (.str nm t) := by
  have hd : (GE w os x).B.DictOf (intKind (GE w os x).p (GE w os x).w) 22 (kvsOf cfnL) := dictOf_ents (o := ob_22 w.params) (n := 10) cfnL (by kernel_rfl) ⟨rfl, rfl, rfl⟩ (by kernel_rfl) (by decide)
  refine ⟨_, hd.mapOf, fun k => ?_⟩
  have hl : LikeB (cfnL.map fun p => (p.1, p.2.1)) (kvsOf cfnL) := by
    unfold cfnL kvsOf
    simp only [List.map_cons, List.map_nil]
    repeat (refine .cons (by decide) (by decide) ?_)
    exact .nil
  have := hl.at k
  have e : (cfnL.map fun p => (p.1, p.2.1)).lookup k = cfn k := lookup_map Str.ofString [(1, "OPTIMIZED"), (2, "NEWLOCALS"), (4, "VARARGS"), (8, "VARKEYWORDS"), (16, "NESTED"), (32, "GENERATOR"), (64, "NOFREE"), (128, "COROUTINE"), (256, "ITERABLE_COROUTINE"), (512, "ASYNC_GENERATOR")] k
  rw [e] at this
  cases e2 : cfn k with
  | none => rw [e2] at this; exact this
  | some nm => rw [e2] at this; exact this
noncomputable def subB : List (Int × Str) → List (Int × Str) → Bool
  | _, [] => true
  | [], _ :: _ => false
  | b :: bs, s :: ss => if b.1 = s.1 then decide (b.2 = s.2) && subB bs ss else subB bs (s :: ss)
theorem subB_mem : ∀ (l s : List (Int × Str)), subB l s = true → ∀ p ∈ s, p ∈ l
  | _, [], _, p, hp => by cases hp
  | [], a :: ss, h, p, hp => by cases h
  | b :: bs, a :: ss, h, p, hp => by
    unfold subB at h
    split at h
    · rename_i e
      obtain ⟨h1, h2⟩ := Bool.and_eq_true_iff.mp h
      have h1 := of_decide_eq_true h1
      rcases List.mem_cons.mp hp with rfl | hp
      · rw [show p = b from Prod.ext e.symm h1.symm]; exact List.mem_cons_self
      · exact List.mem_cons_of_mem _ (subB_mem bs ss h2 p hp)
    · exact List.mem_cons_of_mem _ (subB_mem bs (a :: ss) h p hp)
noncomputable def apartB : List (Int × Str) → List Int → Bool
  | [], _ => true
  | b :: bs, s => let s' := s.dropWhile fun k => decide (k < b.1); (match s' with | [] => true | k :: _ => decide (b.1 < k)) && apartB bs s'
theorem rises_tail {a : Int} {l : List Int} (h : rises (a :: l) = true) : rises l = true := by
  cases l with
  | nil => rfl
  | cons b l => simp only [rises, Bool.and_eq_true] at h; exact h.2
theorem rises_drop (f : Int → Bool) : ∀ l : List Int, rises l = true → rises (l.dropWhile f) = true
  | [], h => h
  | a :: l, h => by
    rw [List.dropWhile_cons]
    split
    · exact rises_drop f l (rises_tail h)
    · exact h
theorem mem_tw (f : Int → Bool) : ∀ (l : List Int) (k : Int), k ∈ l.takeWhile f → f k = true
  | [], k, h => by cases h
  | a :: l, k, h => by
    rw [List.takeWhile_cons] at h
    split at h
    · rename_i e
      rcases List.mem_cons.mp h with rfl | h
      · exact e
      · exact mem_tw f l k h
    · cases h
theorem apartB_not : ∀ (l : List (Int × Str)) (s : List Int), rises (l.map (·.1)) = true → rises s = true → apartB l s = true → ∀ k ∈ s, k ∉ l.map (·.1)
  | [], s, _, _, _, k, hk => by simp
  | b :: bs, s, hl, hs, h, k, hk => by
    unfold apartB at h
    obtain ⟨h1, h2⟩ := Bool.and_eq_true_iff.mp h
    have ih := apartB_not bs _ (rises_tail hl) (rises_drop _ s hs) h2
    rw [List.map_cons, List.mem_cons, not_or]
    rw [← List.takeWhile_append_dropWhile (p := fun k => decide (k < b.1)) (l := s)] at hk
    rcases List.mem_append.mp hk with hk | hk
    · have hlt : k < b.1 := of_decide_eq_true (mem_tw (fun k => decide (k < b.1)) s k hk)
      exact ⟨by omega, fun hm => by have : b.1 < k := rises_lt _ _ hl k hm; omega⟩
    · refine ⟨?_, ih k hk⟩
      have hr := rises_drop (fun k => decide (k < b.1)) s hs
      generalize s.dropWhile (fun k => decide (k < b.1)) = s' at h1 hk hr
      cases s' with
      | nil => cases hk
      | cons c r =>
        have h1 : b.1 < c := of_decide_eq_true h1
        rcases List.mem_cons.mp hk with rfl | hk
        · omega
        · have := rises_lt _ _ hr k hk; omega
theorem lookup_mem : ∀ (l : List (Int × Str)), (l.map (·.1)).Nodup → ∀ p ∈ l, l.lookup p.1 = some p.2
  | [], _, p, hp => by cases hp
  | a :: l, h, p, hp => by
    rw [List.map_cons, List.nodup_cons] at h
    rw [List.lookup_cons]
    rcases List.mem_cons.mp hp with rfl | hp
    · rw [beq_self_eq_true]
    · have : (p.1 == a.1) = false := beq_eq_false_iff_ne.mpr fun e => h.1 (e ▸ List.mem_map_of_mem hp)
      rw [this]
      exact lookup_mem l h.2 p hp
theorem lookup_not : ∀ (l : List (Int × Str)) (k : Int), k ∉ l.map (·.1) → l.lookup k = none
  | [], k, _ => rfl
  | a :: l, k, h => by
    rw [List.map_cons, List.mem_cons, not_or] at h
    rw [List.lookup_cons, beq_eq_false_iff_ne.mpr h.1]
    exact lookup_not l k h.2
noncomputable def blockB : List (Int × Str) := blockL.flatMap fun t => (List.range 26).map fun i : Nat => (119808 + 52 * t + (i : Int), (⟨#[97 + i]⟩ : Str))
theorem b3_block : subB b3L blockB = true := by kernel_rfl
theorem b3_plain : apartB b3L plainL = true := by kernel_rfl
theorem kb3 (w : World) (os : OsState) (x : Nat → Obj) (hb : B3At w os x) : ∃ f, (GE w os x).B.MapOf (intKind (GE w os x).p (GE w os x).w) 125 f ∧ (∀ k ∈ plainL, f k = none) ∧ ∀ t ∈ blockL, ∀ i : Nat, i < 26 → ∃ tk, 1 ≤ tk ∧ tk < 2513 ∧ f (119808 + 52 * t + i) = some (.str ⟨#[97 + i]⟩ tk) := by
  obtain ⟨kvs, hl, hd⟩ := hb
  have hd' : (GE w os x).B.DictOf (intKind (GE w os x).p (GE w os x).w) 125 kvs := by
    obtain ⟨o, es, ep, h1, r⟩ := hd
    refine ⟨o, es, ep, Eq.trans ?_ h1, r⟩
    kernel_rfl
  refine ⟨_, hd'.mapOf, fun k hk => ?_, fun t ht i hi => ?_⟩
  · have h1 := lookup_not b3L k (apartB_not b3L plainL b3_rises (by decide +kernel) b3_plain k hk)
    have h2 := hl.at k
    rw [h1] at h2
    exact h2
  · have hm : ((119808 + 52 * t + (i : Int), (⟨#[97 + i]⟩ : Str)) : Int × Str) ∈ blockB := List.mem_flatMap.mpr ⟨t, ht, List.mem_map.mpr ⟨i, List.mem_range.mpr hi, rfl⟩⟩
    have h1 := lookup_mem b3L (rises_nodup _ b3_rises) _ (subB_mem _ _ b3_block _ hm)
    have h2 := hl.at (119808 + 52 * t + i)
    rw [h1] at h2
    exact h2
theorem setOf_ints {prog : Program} {w : World} {h : Heap} {a : Addr} {o : Obj} {n : Nat} {t : SetTable} {S : Int → Bool} (l : List (Int × Tok)) (h1 : h.get? a = some o) (h2 : o.ExactSet) (h3 : o.data = .set (l.map fun p => (hashInt p.1, Value.int p.1 p.2)).toArray n t)
    (h4 : ∀ k, S k = true ↔ k ∈ l.map (·.1)) (h5 : l.length < scanBound) (h6 : t.fits l.length = true) : h.SetOf (intKind prog w) a S l.length := by
  refine ⟨o, _, n, t, h1, h2, h3, ?_, fun k => ?_, by simpa using h5, by simpa using h6, by simp⟩
  · intro e he
    rw [List.toList_toArray] at he
    obtain ⟨p, hp, rfl⟩ := List.mem_map.mp he
    exact ⟨⟨p.1, ik_is _ _, rfl⟩, rfl⟩
  · rw [h4, List.toList_toArray]
    constructor
    · intro hk
      obtain ⟨p, hp, rfl⟩ := List.mem_map.mp hk
      exact ⟨_, List.mem_map_of_mem hp, ik_is _ _⟩
    · rintro ⟨e, he, hk⟩
      obtain ⟨p, hp, rfl⟩ := List.mem_map.mp he
      exact ik_is' hk ▸ List.mem_map_of_mem hp
noncomputable def b1L : List (Int × Tok) := [(65024, 347), (65025, 348), (65026, 349), (65027, 350), (65028, 351), (65029, 352), (6150, 333), (65030, 353), (65031, 354), (65032, 355), (65033, 356), (6155, 334), (6156, 335), (6157, 336), (8203, 337), (8204, 338), (8205, 339), (65034, 357), (65035, 358), (65036, 359), (65037, 360), (65038, 361), (65039, 362), (173, 331), (847, 332), (8288, 340), (65279, 341)]
theorem kb1 (w : World) (os : OsState) (x : Nat → Obj) : ∃ n, (GE w os x).B.SetOf (intKind (GE w os x).p (GE w os x).w) 114 (fun k => hiddenL.contains k) n := by
  refine ⟨_, setOf_ints (o := ob_114 w.params) (n := 29) (t := ⟨127, #[0,1,2,3,4,5,6,7,8,9,10,11,12,13,14,15,16,17,18,19,20,21,22,45,79,96,127], #[], 0, (!w.params.followText "set-order"), 2, true⟩) b1L (by kernel_rfl) ⟨rfl, rfl, rfl⟩ (by kernel_rfl) (fun k => ?_) (by decide) (by kernel_rfl)⟩
  have h1 : hiddenL.all (fun k => (b1L.map (·.1)).contains k) = true := by decide +kernel
  have h2 : (b1L.map (·.1)).all (fun k => hiddenL.contains k) = true := by decide +kernel
  constructor
  · intro h
    exact List.contains_iff_mem.mp (List.all_eq_true.mp h1 k (List.contains_iff_mem.mp h))
  · intro h
    exact List.all_eq_true.mp h2 k h
end Mine
namespace Mine
noncomputable def toldV (par : Nat → Nat) (i : Nat) : V := .int (if i = 0 then -1 else (par i : Int))
noncomputable def intL (l : List Nat) : List V := l.map fun n : Nat => V.int n
theorem intL_int (l : List Nat) : intL l = (l.map fun n : Nat => (n : Int)).map V.int := by unfold intL; rw [List.map_map]; rfl
variable [HasP]
section
variable {G : Glb} {F : Fm} {ρ : Vars} {H : HA} {sc : Scope} {d : Nat} {Q : V → Prop} {Kf : Frag}
structure Told (H H' : HA) (td wh : Addr) (par : Nat → Nat) (wa : Nat → Addr) (x : Nat → Str) (i : Nat) : Prop where
  ext : Ext H H'
  td0 : H td = none
  wh0 : H wh = none
  told : H' td = some (.list ((List.range i).map (toldV par)))
  whites : H' wh = some (.list ((List.range i).map fun j => .ref (wa j)))
  ws : ∀ j, j < i → WsI H' (wa j) (x j)
theorem Told.mono {H H' H'' : HA} {td wh : Addr} {par : Nat → Nat} {wa : Nat → Addr} {x : Nat → Str} {i : Nat} (t : Told H H' td wh par wa x i) (e : Ext H' H'') : Told H H'' td wh par wa x i :=
  ⟨t.ext.trans e, t.td0, t.wh0, e _ _ t.told, e _ _ t.whites, fun j hj => (t.ws j hj).ext e⟩
theorem Told.push {H H' : HA} {td wh : Addr} {par : Nat → Nat} {wa : Nat → Addr} {x : Nat → Str} {i : Nat} {w0 : Addr} (t : Told H H' td wh par wa x i) (hne : td ≠ wh) (hW : WsI H' w0 (x i)) :
    Told H ((H'.set td (.list ((List.range (i + 1)).map (toldV par)))).set wh (.list (((List.range i).map fun j => V.ref (wa j)) ++ [.ref w0]))) td wh par (fam wa i w0) x (i + 1) := by
  refine ⟨(t.ext.set t.td0).set t.wh0, t.td0, t.wh0, ?_, ?_, fun j hj => ?_⟩
  · rw [HA.set_ne hne, HA.set_self]
  · rw [HA.set_self, List.range_succ, List.map_append, List.map_singleton, fam_self]
    congr 2
    congr 1
    refine List.map_congr_left fun j hj => ?_
    have := List.mem_range.mp hj
    rw [fam_ne (by exact Nat.ne_of_lt this)]
  · have hwh : (H'.set td (.list ((List.range (i + 1)).map (toldV par)))) wh = some (.list ((List.range i).map fun j => V.ref (wa j))) := by rw [HA.set_ne (Ne.symm hne)]; exact t.whites
    by_cases e : j = i
    · subst e; rw [fam_self]
      exact (hW.set t.told).set hwh
    · rw [fam_ne e]
      exact ((t.ws j (by exact o_ne hj e)).set t.told).set hwh
structure OlI (H H' : HA) (P : Nat → List Nat) (k : Nat) (td wh : Addr) (n : Nat) (ol' : Addr) (ρ ρ' : Vars) : Prop where
  r : ∀ y, y ≠ "open_lines" → ρ' y = ρ y
  o : ρ' "open_lines" = some (.ref ol')
  l : H' ol' = some (.list (intL ((openL P k).take n)))
  e : Ext H H'
  n1 : ol' ≠ td
  n2 : ol' ≠ wh
theorem law_rest (K : Kn G) (W : WsK G Kf) (ok : FOk G F (FS 29) 8) (own : F.own = true) {u k : Nat} {par : Nat → Nat} {wd P : Nat → List Nat} (t : Tree u par wd P) {c : Nat → Int} (hk : k < 6) {td wh w0 ol : Addr} {wa : Nat → Addr} {H0 : HA}
    (hT : Told H0 H td wh par wa (fun j => ⟨(lineL u (wd j) (c j)).toArray⟩) k) (hne : td ≠ wh) (hW : WsI H w0 ⟨(lineL u (wd k) (c k)).toArray⟩) (hol : H ol = some (.list (intL (openL P k)))) (ho1 : ol ≠ td) (ho2 : ol ≠ wh)
    (r1 : ρ "told" = some (.ref td)) (r2 : ρ "whites" = some (.ref wh)) (r3 : ρ "open_lines" = some (.ref ol)) (r4 : ρ "k" = some (.int k)) (r5 : ρ "white" = some (.ref w0)) {Q3 : Fl → Vars → HA → Prop}
    (h : ∀ (H' : HA) (ol' : Addr) (ρ' : Vars), (∀ y, y ≠ "open_lines" → ρ' y = ρ y) → ρ' "open_lines" = some (.ref ol') → Told H0 H' td wh par (fam wa k w0) (fun j => ⟨(lineL u (wd j) (c j)).toArray⟩) (k + 1) → H' ol' = some (.list (intL (P k))) → ol' ≠ td → ol' ≠ wh → Q3 .next ρ' H') : Exs G F (lawB1.drop 4) ρ H Q3 := by
  obtain ⟨pb, p1, p2, p3, p4, p5, p6, p7⟩ := t.turn k hk
  have hsz : (1000 : Nat) ≤ sizeLine := by decide
  refine Exs_cons <| Ex_While (fun n ρ' H' => pb ≤ n ∧ n ≤ (openL P k).length ∧ ∃ ol', OlI H H' P k td wh n ol' ρ ρ') (openL P k).length ⟨p1, Nat.le_refl _, ol, fun _ _ => rfl, r3, by rw [List.take_length]; exact hol, Ext.rfl, ho1, ho2⟩ ?_
  rintro n ρ1 H1 ⟨n1, n2, ol1, hρ, r3, hol1, hE1, ho1, ho2⟩
  have r1 : ρ1 "told" = some (.ref td) := (hρ _ (by decide)).trans r1
  have r2 : ρ1 "whites" = some (.ref wh) := (hρ _ (by decide)).trans r2
  have r4 : ρ1 "k" = some (.int k) := (hρ _ (by decide)).trans r4
  have r5 : ρ1 "white" = some (.ref w0) := (hρ _ (by decide)).trans r5
  have hT1 := hT.mono hE1
  have hlen : ((openL P k).take n).length = n := by rw [List.length_take]; exact Nat.min_eq_left n2
  have hlen2 : (intL ((openL P k).take n)).length = n := by unfold intL; rw [List.length_map, hlen]
  have tail : pb = n → ∀ H2, Ext H1 H2 → Exs G F ((lawB1.drop 4).drop 1) ρ1 H2 Q3 := by
    rintro hpn H2 hE2
    have hT2 := hT1.mono hE2
    have hol2 := hE2 _ _ hol1
    have hWk := (hW.ext hE1).ext hE2
    have hapd : ∀ (v : V) (H3 : HA), Ext H2 H3 → v = toldV par k → Exs G F ((lawB1.drop 4).drop 2) ρ1 (H3.set td (.list ((List.range k).map (toldV par) ++ [v]))) Q3 := by
      rintro v H3 hE3 rfl
      have hT3 := hT2.mono hE3
      have hol3 := hE3 _ _ hol2
      have hW3 := hWk.ext hE3
      have e1 : (List.range k).map (toldV par) ++ [toldV par k] = (List.range (k + 1)).map (toldV par) := by rw [List.range_succ, List.map_append]; rfl
      rw [e1]
      refine Exs_cons <| Ex_Assign <| Ev_BinOp <| Ev_Name <| Ld_ ok r3 <| Ev_List <| Evs_cons <| Ev_Name <| Ld_ ok r4 <| Evs_nil ⟨show 1 ≤ sizeLine by decide, fun B hB => Bin_addL ok (HA.set_old hB (by rw [HA.set_ne ho1]; exact hol3)) (HA.set_self _ _ _) (by rw [hlen2]; simp; (clear hk hne p1 n1 ho1 ho2 hpn; omega)) fun C hC => St_ ok own ?_⟩
      have hp4 : intL ((openL P k).take n) ++ [V.int (k : Nat)] = intL (P k) := by rw [p4, hpn]; unfold intL; rw [List.map_append]; rfl
      have e3 : ∀ a, a ≠ td → (H3.set td (.list ((List.range (k + 1)).map (toldV par)))) a = H3 a := fun a ha => HA.set_ne ha
      have hX : Told H0 (((H3.set B (.list [.int k])).set C (.list (intL (P k))))) td wh par wa (fun j => ⟨(lineL u (wd j) (c j)).toArray⟩) k := by
        have hB3 : H3 B = none := by
          by_cases e : B = td
          · subst e; rw [HA.set_self] at hB; cases hB
          · rw [HA.set_ne e] at hB; exact hB
        have hC3 : (H3.set B (.list [.int k])) C = none := by
          by_cases e : C = B
          · subst e; rw [HA.set_self] at hC; cases hC
          · rw [HA.set_ne e] at hC ⊢
            by_cases e2 : C = td
            · subst e2; rw [HA.set_self] at hC; cases hC
            · rw [HA.set_ne e2] at hC; exact hC
        exact hT3.mono ((Ext.rfl.new hB3).new hC3)
      have hBtd : B ≠ td := by rintro rfl; rw [HA.set_self] at hB; cases hB
      have hCtd : C ≠ td := by
        rintro rfl
        rw [HA.set_ne (Ne.symm hBtd), HA.set_self] at hC; cases hC
      have hwh3 := hT3.whites
      have hBwh : B ≠ wh := by rintro rfl; rw [HA.set_ne hBtd, hwh3] at hB; cases hB
      have hCB : C ≠ B := by rintro rfl; rw [HA.set_self] at hC; cases hC
      have hCwh : C ≠ wh := by rintro rfl; rw [HA.set_ne hCB, HA.set_ne hCtd, hwh3] at hC; cases hC
      have hcomm : (((H3.set td (.list ((List.range (k + 1)).map (toldV par)))).set B (.list [.int k])).set C (.list (intL (P k)))) = ((H3.set B (.list [.int k])).set C (.list (intL (P k)))).set td (.list ((List.range (k + 1)).map (toldV par))) := by
        funext a
        by_cases a1 : a = td
        · subst a1; rw [HA.set_self, HA.set_ne (Ne.symm hCtd), HA.set_ne (Ne.symm hBtd), HA.set_self]
        · rw [HA.set_ne a1]
          by_cases a2 : a = C
          · subst a2; rw [HA.set_self, HA.set_self]
          · rw [HA.set_ne a2, HA.set_ne a2]
            by_cases a3 : a = B
            · subst a3; rw [HA.set_self, HA.set_self]
            · rw [HA.set_ne a3, HA.set_ne a3, HA.set_ne a1]
      rw [hp4, hcomm]
      have hWX : WsI ((H3.set B (.list [.int k])).set C (.list (intL (P k)))) w0 ⟨(lineL u (wd k) (c k)).toArray⟩ := by
        have hB3 : H3 B = none := by rw [← e3 B hBtd]; exact hB
        have hC3 : (H3.set B (.list [.int k])) C = none := by
          rw [HA.set_ne hCB] at hC ⊢
          rw [e3 C hCtd] at hC; exact hC
        exact hW3.ext ((Ext.rfl.new hB3).new hC3)
      have hCC : ((H3.set B (.list [.int k])).set C (.list (intL (P k)))) C = some (.list (intL (P k))) := HA.set_self _ _ _
      generalize ((H3.set B (.list [.int k])).set C (.list (intL (P k)))) = HX at hX hWX hCC
      have hwX : (HX.set td (.list ((List.range (k + 1)).map (toldV par)))) wh = some (O.list ((List.range k).map fun j => V.ref (wa j))) := by rw [HA.set_ne (Ne.symm hne)]; exact hX.whites
      refine Exs_cons <| Ex_Expr ok <| Ev_Method PySem.F.plainAttrs_list PySem.F.slot_list_append PySem.F.type_list_append <| Ev_Name <| Ld_ ok (vs r2) ⟨TyV.list hwX, Evs_cons <| Ev_Name <| Ld_ ok (vs r5) <| Evs_nil <|
        Cal_append hwX (by rw [List.length_map, List.length_range]; exact Nat.le_trans (Nat.le_of_lt hk) (by decide)) <| Exs_nil ?_⟩
      refine h _ C _ (fun y hy => ?_) vz (hX.push hne hWX) ?_ hCtd hCwh
      · unfold Vars.set; rw [if_neg hy]; exact hρ y hy
      · rw [HA.set_ne hCwh, HA.set_ne hCtd]; exact hCC
    have hsz2 : ((List.range k).map (toldV par)).length ≤ sizeLine := by rw [List.length_map, List.length_range]; exact Nat.le_trans (Nat.le_of_lt hk) (by decide)
    refine Exs_cons <| Ex_Expr ok <| Ev_Method PySem.F.plainAttrs_list PySem.F.slot_list_append PySem.F.type_list_append <| Ev_Name <| Ld_ ok r1 ⟨TyV.list hT2.told, Evs_cons <| Ev_IfExp <| Tr_Compare <| Ev_Name <| Ld_ ok r3 <| Ev_List <| Evs_nil ⟨by decide, fun E hE =>
      Cmp_neInts ok (by decide) (xs := ((openL P k).take n).map fun n : Nat => (n : Int)) (ys := []) (by rw [← intL_int]; exact HA.set_old hE hol2) (HA.set_self _ _ _) <| Tru_bool ?_⟩⟩
    have hEE : Ext H2 (H2.set E (.list [])) := Ext.rfl.new hE
    by_cases hk0 : k = 0
    · have hn0 : n = 0 := by have := p5 hk0; (clear hk hne p1 p2 hsz n1 ho1 ho2 hpn hsz2 hk0; omega)
      have e0 : (!decide ((((openL P k).take n).map fun n : Nat => (n : Int)) = [])) = false := by rw [hn0]; rfl
      rw [e0]
      refine Ev_UnaryOp <| Ev_int <| Un_neg <| Evs_nil <| Cal_append (hEE _ _ hT2.told) hsz2 <| hapd _ _ hEE ?_
      unfold toldV; rw [if_pos hk0]
    · obtain ⟨g1, g2, g3⟩ := p6 hk0
      have hlast : (intL ((openL P k).take n))[n - 1]? = some (.int (par k)) := by
        unfold intL
        rw [List.getElem?_map, List.getElem?_take_of_lt (by (clear hk hne p1 p2 hsz n1 n2 ho1 ho2 hsz2 hk0; omega)), ← hpn, g2]; rfl
      have e0 : (!decide ((((openL P k).take n).map fun n : Nat => (n : Int)) = [])) = true := by
        have : (((openL P k).take n).map fun n : Nat => (n : Int)) ≠ [] := by
          intro e
          have := congrArg List.length e
          rw [List.length_map, hlen] at this
          simp at this; (clear hk hne p1 p2 hsz n1 n2 ho1 ho2 hsz2 hk0; omega)
        rw [decide_eq_false this]; rfl
      rw [e0]
      refine Ev_Subscript PySem.F.slot_list_getitem.lookup <| Ev_Name <| Ld_ ok r3 <| Ev_UnaryOp <| Ev_int <| Un_neg ⟨TyV.list (hEE _ _ hol2), GetI_listNeg (hEE _ _ hol2) (by decide) (by rw [hlen2]; (clear hk hne p1 p2 hsz n1 n2 ho1 ho2 hsz2 hk0; omega)) (by decide) (v := .int (par k)) (by rw [hlen2, show (-1 + (n : Int)).toNat = n - 1 from o_pn]; exact hlast) <| Evs_nil <| Cal_append (hEE _ _ hT2.told) hsz2 <| hapd _ _ hEE ?_⟩
      unfold toldV; rw [if_neg hk0]
  refine Tr_And2 <| Tr_Compare <| Ev_Name <| Ld_ ok r3 <| Ev_List <| Evs_nil ⟨by decide, fun E hE =>
    Cmp_neInts ok (by decide) (xs := ((openL P k).take n).map fun n : Nat => (n : Int)) (ys := []) (by rw [← intL_int]; exact HA.set_old hE hol1) (HA.set_self _ _ _) <| Tru_bool ?_⟩
  have hEE : Ext H1 (H1.set E (.list [])) := Ext.rfl.new hE
  by_cases hn0 : n = 0
  · have e0 : (!decide ((((openL P k).take n).map fun n : Nat => (n : Int)) = [])) = false := by rw [hn0]; rfl
    rw [e0]
    exact Exs_nil <| tail (by (clear hk hne p1 p2 hsz n2 ho1 ho2; omega)) _ hEE
  have e0 : (!decide ((((openL P k).take n).map fun n : Nat => (n : Int)) = [])) = true := by
    have : (((openL P k).take n).map fun n : Nat => (n : Int)) ≠ [] := by
      intro e
      have := congrArg List.length e
      rw [List.length_map, hlen] at this
      simp at this; contradiction
    rw [decide_eq_false this]; rfl
  rw [e0]
  have hne2 : n - 1 < (openL P k).length := by (clear hk hne p1 p2 hsz n1 ho1 ho2; omega)
  obtain ⟨e, he⟩ : ∃ e, (openL P k)[n - 1]? = some e := ⟨_, List.getElem?_eq_getElem hne2⟩
  have hek := p3 e (List.mem_of_getElem? he)
  have hlast : (intL ((openL P k).take n))[n - 1]? = some (.int e) := by
    unfold intL
    rw [List.getElem?_map, List.getElem?_take_of_lt (by (clear hk hne p1 p2 hsz n1 n2 ho1 ho2 hne2 hek; omega)), he]; rfl
  have hW1 := hT1.ws e hek
  obtain ⟨dd, t1, t2, w1, w2, w3, w4⟩ := hW1.ext hEE
  obtain ⟨s1, s2, s3, s4⟩ := lead_small t.u1 t.u2 (t.wd_small e (by (clear hne p1 p2 hsz n1 n2 ho1 ho2 hlen hlen2 hn0 hne2; omega))).2 (t.wd_small e (by (clear hne p1 p2 hsz n1 n2 ho1 ho2 hlen hlen2 hn0 hne2; omega))).1
  obtain ⟨y1, y2, y3, y4⟩ := lead_small t.u1 t.u2 (t.wd_small k hk).2 (t.wd_small k hk).1
  refine Tr_Compare <| Ev_MethodK W.inn (W.get _) W.m3 W.f3 K.d_less.callee <| Ev_Subscript PySem.F.slot_list_getitem.lookup <| Ev_Name <| Ld_ ok r2 <| Ev_Subscript PySem.F.slot_list_getitem.lookup <| Ev_Name <| Ld_ ok r3 <| Ev_UnaryOp <| Ev_int <| Un_neg
    ⟨TyV.list (hEE _ _ hol1), GetI_listNeg (hEE _ _ hol1) (by decide) (by rw [hlen2]; (clear hk hne p1 p2 hsz n1 n2 ho1 ho2 hne2 hek s1 s2 s3 s4 y1 y2 y3 y4; omega)) (by decide) (v := .int e) (by rw [hlen2, show (-1 + (n : Int)).toNat = n - 1 from o_pn]; exact hlast)
      ⟨TyV.list (hEE _ _ hT1.whites), GetI_list (hEE _ _ hT1.whites) (by exact Int.natCast_nonneg _) (by (clear hne p1 p2 hsz n1 n2 ho1 ho2 hlen hlen2 hn0 hne2 s1 s2 s3 s4 y1 y2 y3 y4; omega)) (by rw [Int.toNat_natCast]; exact rng_get _ hek)
        ⟨wa e, dd, _, "less", rfl, w1, w2, rfl, rfl, Evs_cons <| Ev_Name <| Ld_ ok r5 <| Evs_nil <| c_less (d := 4) K W ok (hW1.ext hEE) ((hW.ext hE1).ext hEE) (by rw [ws_line]; exact s1) (by rw [ws_line]; exact y1) (by rw [ws_line]; exact s2) (by rw [ws_line]; exact y2) fun H2 hE2 => Ev_bool <| Cmp_isNotBool <| Tru_bool ?_⟩⟩⟩
  rw [ws_line, ws_line]
  by_cases hpn : pb = n
  · have hk0 : k ≠ 0 := by
      intro h0
      have := p5 h0
      (clear hk hne p1 p2 hsz n1 n2 ho1 ho2 hlen hlen2 hn0 hne2 s1 s2 s3 s4 y1 y2 y3 y4 hpn this; omega)
    obtain ⟨g1, g2, g3⟩ := p6 hk0
    rw [hpn, he] at g2
    cases g2
    rw [g3]
    exact Exs_nil <| tail hpn _ (hEE.trans hE2)
  · rw [p7 (n - 1) e (by (clear hk hne hsz n2 ho1 ho2 hn0 hne2 hek s1 s2 s3 s4 y1 y2 y3 y4; omega)) he]
    have hol3 := hE2 _ _ (hEE _ _ hol1)
    have hE3 := hEE.trans hE2
    refine Exs_cons <| Ex_Assign <| Ev_Subscript PySem.F.slot_list_getitem.lookup <| Ev_Name <| Ld_ ok r3 <| Ev_Slice (l := none) (u := some _) (st := none) <| Ev_UnaryOp <| Ev_int <| Un_neg fun s1 hs1 => ⟨TyV.list (HA.set_old hs1 hol3), GetI_listSlice (lo := none) (hi := some (-1)) (HA.set_old hs1 hol3) (HA.set_self _ _ _) .no (.at _) (by rw [hlen2]; (clear hk hne p1 n1 ho1 ho2 hn0 hne2 hek s2 s3 s4 y1 y2 y3 y4 hpn; omega)) fun D hD => St_ ok own <| Exs_nil ?_⟩
    have hDn : H2 D = none := by
      by_cases q : D = s1
      · rw [q]; exact hs1
      · rw [HA.set_ne q] at hD; exact hD
    have hE4 : Ext H (((H2.set s1 (.slice .none (.int (-1)) .none)).set D (.list ((openL P k).take (n - 1) |> intL)))) := ((hE1.trans hE3).new hs1).new hD
    have eS := slice_butL (intL ((openL P k).take n)) (by rw [hlen2]; (clear hk hne p1 p2 hsz n2 ho1 ho2 hn0 hne2 hek s2 s3 s4 y1 y2 y3 y4; omega))
    refine ⟨n - 1, by (clear hk hne p1 p2 hsz n2 ho1 ho2 hn0 hne2 hek s2 s3 s4 y1 y2 y3 y4; omega), by (clear hk hne hsz n2 ho1 ho2 hn0 hne2 hek s2 s3 s4 y1 y2 y3 y4; omega), by exact Nat.le_of_lt hne2, D, fun y hy => ?_, vz, ?_, ?_, ?_, ?_⟩
    · unfold Vars.set; rw [if_neg hy]; exact hρ y hy
    · rw [HA.set_self]
      congr 2
      rw [eS, hlen2]
      unfold intL
      rw [← List.map_take, List.take_take, Nat.min_eq_left (by exact Nat.sub_le _ _)]
    · exact ((hE1.trans hE3).new hs1).new hD
    · rintro rfl
      rw [hE3 _ _ hT1.told] at hDn; cases hDn
    · rintro rfl
      rw [hE3 _ _ hT1.whites] at hDn; cases hDn
end
end Mine
namespace Mine
structure LinI (c : Nat → Int) (u : Nat) (par : Nat → Nat) (wd P : Nat → List Nat) (H H' : HA) (td wh ca ba la aa ta : Addr) (i : Nat) (wa : Nat → Addr) (ol' : Addr) (ρ' : Vars) : Prop where
  t : Told H H' td wh par wa (fun j => ⟨(lineL u (wd j) (c j)).toArray⟩) i
  ol : H' ol' = some (.list (intL (openL P i)))
  o1 : ol' ≠ td
  o2 : ol' ≠ wh
  q1 : ρ' "cells" = some (.ref ca)
  q2 : ρ' "beside" = some (.ref ba)
  q3 : ρ' "leads" = some (.ref la)
  q4 : ρ' "above" = some (.ref aa)
  q5 : ρ' "trails" = some (.ref ta)
  q6 : ρ' "told" = some (.ref td)
  q7 : ρ' "whites" = some (.ref wh)
  q8 : ρ' "open_lines" = some (.ref ol')
structure Pl (c : Nat → Int) (u : Nat) (par : Nat → Nat) (wd P : Nat → List Nat) (T : Nat → List Int) (W : Nat → Int) (base : Nat) : Prop where
  tree : Tree u par wd P
  prep : PrepOk u wd c
  b8 : base < 8
  base_ : (c 0).fmod 8 = (base : Int)
  W0 : W 0 = 0
  W_ : ∀ k, 1 ≤ k → k < 6 → W k = Builtin.bitOr (W (par k)) (2 ^ (base + k - 1))
  ap : ApOk W T base
  bd : ∀ i j, (apV T (fun i => (wOf (c (i + 1)) : Int)) (xOf (c 0)) i j).natAbs < 2 ^ 24
  pr : (prd (fun i => (wOf (c (i + 1)) : Int)) 5).natAbs < 2 ^ 100
  x_ : (xOf (c 0)).natAbs < 2 ^ 18
  s_ : (((List.range 5).map fun i => (wOf (c (i + 1)) : Int)).sum).natAbs < 2 ^ 22
  det : detF (apV T (fun i => (wOf (c (i + 1)) : Int)) (xOf (c 0))) = -16 * prd (fun i => (wOf (c (i + 1)) : Int)) 5 * (((List.range 5).map fun i => (wOf (c (i + 1)) : Int)).sum + 2 * xOf (c 0))
variable [HasP]
section
variable {G : Glb} {F : Fm} {ρ : Vars} {H : HA} {Q : V → Prop} {Kf : Frag}
theorem law_A2 (K : Kn G) (Wk : WsK G Kf) (hP : ∀ t, HasP.K t = 0) (ok : FOk G F (FS 29) 8) (own : F.own = true) (hclk : 2513 ≤ HasP.clk) (hfr : F.A.frames = some [F.env]) (hfm : F.env.frame = some F.env.locals) {ca ba la aa ta : Addr} {tr : Nat → Addr} {c W : Nat → Int} {T : Nat → List Int} {par : Nat → Nat} {wd P : Nat → List Nat} {u base : Nat}
    (pl : Pl c u par wd P T W base)
    (hc : H ca = some (.list ((List.range 6).map fun i => .int (c i)))) (hbs : H ba = some (.list (besideL.map V.int))) (hl : H la = some (.list ((List.range 6).map fun i => .str ⟨(leadOf u (wd i)).toArray⟩))) (hab : H aa = some (.list ((List.range 6).map (toldV par))))
    (htr : H ta = some (.list ((List.range 6).map fun i => .ref (tr i)))) (htr2 : ∀ i, i < 6 → H (tr i) = some (.list ((T i).map V.int)))
    (r1 : ρ "cells" = some (.ref ca)) (r2 : ρ "beside" = some (.ref ba)) (r3 : ρ "leads" = some (.ref la)) (r4 : ρ "above" = some (.ref aa)) (r5 : ρ "trails" = some (.ref ta)) (h : Q (.bool true)) :
    Exs G F ((FB 29).drop 9) ρ H fun fl _ _ => Q (match fl with | .ret v => v | _ => .none) := by
  refine Exs_cons <| Ex_Assign <| Ev_List <| Evs_nil ⟨by decide, fun wh hwh => St_ ok own ?_⟩
  refine Exs_cons <| Ex_Assign <| Ev_List <| Evs_nil ⟨by decide, fun td htd => St_ ok own ?_⟩
  refine Exs_cons <| Ex_Assign <| Ev_List <| Evs_nil ⟨by decide, fun ol hol => St_ ok own ?_⟩
  refine Exs_cons <| Ex_For <| Ev_Call ok K.g (K.bt (n := "range") rfl rfl) trivial <| Evs_cons <| Ev_int <| Evs_nil <| Cal_range1 fun r hr => ?_
  have hit := Iter.rng (G := G) (A := F.A) ok.hd (H := (((H.set wh (.list [])).set td (.list [])).set ol (.list [])).set r (.range 0 6 1)) (HA.set_self _ _ _) (by decide) (by decide) (by decide) (by decide)
  have hE0 : Ext H ((((H.set wh (.list [])).set td (.list [])).set ol (.list [])).set r (.range 0 6 1)) := (((Ext.rfl.new hwh).new htd).new hol).new hr
  have htd0 : H td = none := Ext.none (Ext.rfl.new hwh) htd
  have hne : td ≠ wh := by rintro rfl; rw [HA.set_self] at htd; cases htd
  have ho1 : ol ≠ td := by rintro rfl; rw [HA.set_self] at hol; cases hol
  have ho2 : ol ≠ wh := by rintro rfl; rw [HA.set_ne ho1, HA.set_self] at hol; cases hol
  have k1 : ((((H.set wh (.list [])).set td (.list [])).set ol (.list [])).set r (.range 0 6 1)) td = some (.list []) := HA.set_old hr (HA.set_old hol (HA.set_self _ _ _))
  have k2 : ((((H.set wh (.list [])).set td (.list [])).set ol (.list [])).set r (.range 0 6 1)) wh = some (.list []) := HA.set_old hr (HA.set_old hol (HA.set_old htd (HA.set_self _ _ _)))
  have k3 : ((((H.set wh (.list [])).set td (.list [])).set ol (.list [])).set r (.range 0 6 1)) ol = some (.list []) := HA.set_old hr (HA.set_self _ _ _)
  generalize ((((H.set wh (.list [])).set td (.list [])).set ol (.list [])).set r (.range 0 6 1)) = H1 at hit hE0 k1 k2 k3
  refine ⟨_, _, _, fun i ρ' H' => ∃ (wa : Nat → Addr) (ol' : Addr), LinI c u par wd P H H' td wh ca ba la aa ta i wa ol' ρ', hit, ?_, fun _ _ _ _ => trivial, ?_, ?_⟩
  · exact ⟨fun _ => 0, ol, ⟨hE0, htd0, hwh, k1, k2, fun j hj => absurd hj (Nat.not_lt_zero _)⟩, k3, ho1, ho2, vs (vs (vs r1)), vs (vs (vs r2)), vs (vs (vs r3)), vs (vs (vs r4)), vs (vs (vs r5)), vs vz, vs (vs vz), vz⟩
  · intro i hi ρ1 H2 hI
    refine As_gen fun Qa hQa => ?_
    obtain ⟨wa, ol', hT, hol', o1, o2, q1, q2, q3, q4, q5, q6, q7, q8⟩ := hI
    have hi : i < 6 := hi
    first | rw [show (0 : Int) + (i : Int) * 1 = (i : Int) by omega] | rw [show (0 : Int) + (i : Int) = (i : Int) by exact o_z0]
    refine As_Name (St_ ok own ?_)
    obtain ⟨s1, s2, s3, s4⟩ := lead_small pl.tree.u1 pl.tree.u2 (pl.tree.wd_small i hi).2 (pl.tree.wd_small i hi).1
    refine law_line (k := i) K Wk hP ok own hi (hT.ext _ _ hc) (hT.ext _ _ hbs) (hT.ext _ _ hl) pl.prep s4 s3 (vs q1) (vs q2) (vs q3) vz fun H3 w0 t1 l1 hE3 hw0 hW0 => ?_
    refine law_rest K Wk ok own pl.tree hi (hT.mono hE3) hne hW0 (hE3 _ _ hol') o1 o2 (vs (vs (vs (vs q6)))) (vs (vs (vs (vs q7)))) (vs (vs (vs (vs q8)))) (vs (vs (vs vz))) vz fun H4 ol2 ρ4 hρ hρ2 hT4 hol4 o3 o4 => ?_
    refine hQa _ _ _ ⟨_, ol2, hT4, ?_, o3, o4, (hρ _ (by decide)).trans (vs (vs (vs (vs q1)))), (hρ _ (by decide)).trans (vs (vs (vs (vs q2)))), (hρ _ (by decide)).trans (vs (vs (vs (vs q3)))), (hρ _ (by decide)).trans (vs (vs (vs (vs q4)))), (hρ _ (by decide)).trans (vs (vs (vs (vs q5)))),
      (hρ _ (by decide)).trans (vs (vs (vs (vs q6)))), (hρ _ (by decide)).trans (vs (vs (vs (vs q7)))), hρ2⟩
    rw [hol4]; unfold openL; rw [if_neg (by exact Nat.succ_ne_zero _)]; rfl
  · rintro ρ1 H2 ⟨wa, ol', hT, hol', o1, o2, q1, q2, q3, q4, q5, q6, q7, q8⟩
    have hT : Told H H2 td wh par wa (fun j => ⟨(lineL u (wd j) (c j)).toArray⟩) 6 := hT
    have hti : ∀ (l : List Nat), l.map (toldV par) = (l.map fun i => (if i = 0 then -1 else (par i : Int))).map V.int := fun l => by rw [List.map_map]; rfl
    refine Exs_nil <| Exs_cons <| Ex_If <| Tr_Compare <| Ev_Name <| Ld_ ok q6 <| Ev_Name <| Ld_ ok q4 <| Cmp_neInts ok (by decide) (by rw [hT.told, hti]) (by rw [hT.ext _ _ hab, hti]) <| Tru_bool ?_
    rw [decide_eq_true rfl]
    refine Exs_nil ?_
    exact law_B K ok own hclk hfr hfm (hT.ext _ _ hc) hT.told (hT.ext _ _ htr) (fun i hi => hT.ext _ _ (htr2 i hi)) pl.b8 pl.base_ (fun k h1 h2 => pl.tree.par_lt k h1 h2) pl.W0 pl.W_ pl.ap pl.bd pl.pr pl.x_ pl.s_ q1 q6 q5 pl.det h
end
end Mine
namespace Mine
theorem mul_blank : ∀ u : Nat, u < 5 → Txt.mul (Str.ofString " ") (u : Int) = ⟨(List.replicate u 32).toArray⟩ := by decide +kernel
theorem mul_ok : ∀ u : Nat, u < 5 → MulOk (Str.ofString " ") (u : Int) := by
  intro u hu
  unfold MulOk
  revert u
  decide +kernel
theorem blank_eq : (Str.ofString "" : Str) = ⟨([] : List Nat).toArray⟩ := by decide +kernel
theorem tab_eq2 : (Str.ofString "\t" : Str) = ⟨[9].toArray⟩ := by decide +kernel
structure GS (H H' : HA) (la aa ta : Addr) (lv av tv : List V) (n : Nat) (tr : Nat → Addr) (T : Nat → List Int) : Prop where
  ext : Ext H H'
  l0 : H la = none
  a0 : H aa = none
  t0 : H ta = none
  la_ : H' la = some (.list lv)
  aa_ : H' aa = some (.list av)
  ta_ : H' ta = some (.list tv)
  n1 : la ≠ aa
  n2 : la ≠ ta
  n3 : aa ≠ ta
  tr_ : ∀ j, j < n → H' (tr j) = some (.list ((T j).map V.int)) ∧ tr j ≠ la ∧ tr j ≠ aa ∧ tr j ≠ ta
section
variable {H H' H'' : HA} {la aa ta : Addr} {lv av tv : List V} {n : Nat} {tr : Nat → Addr} {T : Nat → List Int}
theorem GS.mono (g : GS H H' la aa ta lv av tv n tr T) (e : Ext H' H'') : GS H H'' la aa ta lv av tv n tr T :=
  ⟨g.ext.trans e, g.l0, g.a0, g.t0, e _ _ g.la_, e _ _ g.aa_, e _ _ g.ta_, g.n1, g.n2, g.n3, fun j hj => ⟨e _ _ (g.tr_ j hj).1, (g.tr_ j hj).2⟩⟩
theorem GS.setL (g : GS H H' la aa ta lv av tv n tr T) (lv' : List V) : GS H (H'.set la (.list lv')) la aa ta lv' av tv n tr T :=
  ⟨g.ext.set g.l0, g.l0, g.a0, g.t0, HA.set_self _ _ _, (HA.set_ne (Ne.symm g.n1)).trans g.aa_, (HA.set_ne (Ne.symm g.n2)).trans g.ta_, g.n1, g.n2, g.n3, fun j hj => ⟨(HA.set_ne (g.tr_ j hj).2.1).trans (g.tr_ j hj).1, (g.tr_ j hj).2⟩⟩
theorem GS.setA (g : GS H H' la aa ta lv av tv n tr T) (av' : List V) : GS H (H'.set aa (.list av')) la aa ta lv av' tv n tr T :=
  ⟨g.ext.set g.a0, g.l0, g.a0, g.t0, (HA.set_ne g.n1).trans g.la_, HA.set_self _ _ _, (HA.set_ne (Ne.symm g.n3)).trans g.ta_, g.n1, g.n2, g.n3, fun j hj => ⟨(HA.set_ne (g.tr_ j hj).2.2.1).trans (g.tr_ j hj).1, (g.tr_ j hj).2⟩⟩
theorem GS.setT (g : GS H H' la aa ta lv av tv n tr T) (tv' : List V) : GS H (H'.set ta (.list tv')) la aa ta lv av tv' n tr T :=
  ⟨g.ext.set g.t0, g.l0, g.a0, g.t0, (HA.set_ne g.n2).trans g.la_, (HA.set_ne g.n3).trans g.aa_, HA.set_self _ _ _, g.n1, g.n2, g.n3, fun j hj => ⟨(HA.set_ne (g.tr_ j hj).2.2.2).trans (g.tr_ j hj).1, (g.tr_ j hj).2⟩⟩
theorem GS.grow (g : GS H H' la aa ta lv av tv n tr T) {q : Addr} (hq : H' q = some (.list ((T n).map V.int))) (h1 : q ≠ la) (h2 : q ≠ aa) (h3 : q ≠ ta) : GS H H' la aa ta lv av tv (n + 1) (fam tr n q) T :=
  ⟨g.ext, g.l0, g.a0, g.t0, g.la_, g.aa_, g.ta_, g.n1, g.n2, g.n3, fun j hj => by
    by_cases e : j = n
    · subst e; rw [fam_self]; exact ⟨hq, h1, h2, h3⟩
    · rw [fam_ne e]; exact g.tr_ j (by exact o_ne hj e)⟩
end
theorem range_snoc {α : Type} (f : Nat → α) (n : Nat) : (List.range (n + 1)).map f = (List.range n).map f ++ [f n] := by rw [List.range_succ, List.map_append]; rfl
noncomputable def lawB0 : List Stmt := match (FB 29)[(8 : Nat)]? with
  | some (.For _ _ b _ _) => b
  | _ => []
noncomputable def leadV (c : Nat → Int) (i : Nat) : V := .str ⟨(leadOf (uN (c 0)) (wdN c i)).toArray⟩
variable [HasP]
section
variable {G : Glb} {F : Fm} {ρ : Vars} {H : HA} {Q : V → Prop} {Kf : Frag}
theorem law_turn (K : Kn G) (hP : ∀ t, HasP.K t = 0) (ok : FOk G F (FS 29) 8) (own : F.own = true) {ca la aa ta pa : Addr} {tr : Nat → Addr} {c : Nat → Int} {i : Nat} (hi : i < 5) {H0 : HA}
    (g : GS H0 H la aa ta ((List.range (i + 1)).map (leadV c)) ((List.range (i + 1)).map (toldV (parN c))) ((List.range (i + 1)).map fun j => .ref (tr j)) (i + 1) tr (trI c))
    (hc : H0 ca = some (.list ((List.range 6).map fun i => .int (c i)))) (hp : H pa = some (.list (intL (PL c i)))) (p1 : pa ≠ la) (p2 : pa ≠ aa) (p3 : pa ≠ ta)
    (r1 : ρ "cells" = some (.ref ca)) (r2 : ρ "leads" = some (.ref la)) (r3 : ρ "above" = some (.ref aa)) (r4 : ρ "trails" = some (.ref ta)) (r5 : ρ "path" = some (.ref pa)) (r6 : ρ "unit" = some (.int (uN (c 0)))) (r7 : ρ "k" = some (.int (i + 1 : Nat))) {Q3 : Fl → Vars → HA → Prop}
    (h : ∀ H' pa' q t1 t2, GS H0 H' la aa ta ((List.range (i + 2)).map (leadV c)) ((List.range (i + 2)).map (toldV (parN c))) ((List.range (i + 2)).map fun j => .ref (fam tr (i + 1) q j)) (i + 2) (fam tr (i + 1) q) (trI c) → H' pa' = some (.list (intL (PL c (i + 1)))) → pa' ≠ la → pa' ≠ aa → pa' ≠ ta →
      Q3 .next (((ρ.set "turn" t1).set "place" t2).set "path" (.ref pa')) H') : Exs G F lawB0 ρ H Q3 := by
  have hsz : (1000 : Nat) ≤ sizeLine := by decide
  obtain ⟨t1, t2⟩ := tN_eq (c (i + 1))
  obtain ⟨u1, u2, u3⟩ := uN_eq (c 0)
  have hplt := place_lt c i
  have hPlen : (PL c i).length ≤ 6 := by
    obtain ⟨X, _, _, _, h3, _⟩ := (treeN c).chain i (by exact Nat.lt_succ_of_lt hi)
    (clear p1 p2 p3 hsz t1 t2 u1 u2 u3 hplt h3; omega)
  have hpar := par_get c i
  have hple := parN_le c i
  generalize hpl : tN (c (i + 1)) % (PL c i).length = pl at hplt hpar
  have hc1 := g.ext _ _ hc
  have hIl : (intL (PL c i)).length = (PL c i).length := by unfold intL; rw [List.length_map]
  refine Exs_cons <| Ex_Assign <| Ev_BinOp <| Ev_BinOp <| Ev_Subscript PySem.F.slot_list_getitem.lookup <| Ev_Name <| Ld_ ok r1 <| Ev_Name <| Ld_ ok r7 ⟨TyV.list hc1, GetI_list hc1 (by exact Int.natCast_nonneg _) (by exact Int.lt_of_le_of_lt (Int.ofNat_le.mpr hi) (by decide)) (by rw [Int.toNat_natCast]; exact rng_get _ (show i + 1 < 6 by exact Nat.succ_lt_succ hi)) <|
    Ev_int <| Bin_floordiv (by decide) (PyProof.noPylong_small (by decide)) <| Ev_int <| Bin_mod (by decide) <| St_ ok own ?_⟩
  rw [t1]
  refine Exs_cons <| Ex_Assign <| Ev_BinOp <| Ev_Name <| Ld_ ok vz <| Ev_Call ok K.g (K.bt (n := "len") rfl rfl) trivial <| Evs_cons <| Ev_Name <| Ld_ ok (vs r5) <| Evs_nil <| Cal_len hp (by rw [hIl]; exact Int.lt_of_le_of_lt (Int.ofNat_le.mpr hPlen) (by decide)) <| Bin_mod (by rw [hIl]; have := PL_pos c i; (clear hi p1 p2 p3 hsz t1 t2 u1 u2 u3 hple hpl hplt; omega)) <| St_ ok own ?_
  rw [hIl, fmodN, hpl]
  have hg : (intL (PL c i))[((pl : Nat) : Int).toNat]? = some (.int (parN c (i + 1))) := by
    rw [Int.toNat_natCast]; unfold intL; rw [List.getElem?_map, hpar]; rfl
  have s5 : ∀ {t1 t2 : V}, ((ρ.set "turn" t1).set "place" t2) "path" = some (.ref pa) := vs (vs r5)
  refine Exs_cons <| Ex_Expr ok <| Ev_Method PySem.F.plainAttrs_list PySem.F.slot_list_append PySem.F.type_list_append <| Ev_Name <| Ld_ ok (vs (vs r3)) ⟨TyV.list g.aa_, Evs_cons <| Ev_Subscript PySem.F.slot_list_getitem.lookup <| Ev_Name <| Ld_ ok s5 <| Ev_Name <| Ld_ ok vz ⟨TyV.list hp, GetI_list hp (by exact Int.natCast_nonneg _) (by (clear hi p1 p2 p3 hsz t1 t2 u1 u2 u3 hple hpl; omega)) hg <| Evs_nil <|
    Cal_append g.aa_ (by rw [List.length_map, List.length_range]; exact Nat.le_trans hi (by decide)) ?_⟩⟩
  have ea : ((List.range (i + 1)).map (toldV (parN c))) ++ [V.int (parN c (i + 1))] = (List.range (i + 2)).map (toldV (parN c)) := by
    rw [range_snoc _ (i + 1)]
    congr 2
  rw [ea]
  have g2 := g.setA ((List.range (i + 2)).map (toldV (parN c)))
  have hp2 : (H.set aa (.list ((List.range (i + 2)).map (toldV (parN c))))) pa = some (.list (intL (PL c i))) := (HA.set_ne p2).trans hp
  generalize (H.set aa (.list ((List.range (i + 2)).map (toldV (parN c))))) = H2 at g2 hp2
  have h60 : Int.fdiv (tN (c (i + 1)) : Int) 60 = ((tN (c (i + 1)) / 60 : Nat) : Int) := fdivN _ 60
  have hs3 : tN (c (i + 1)) / 60 < 3 := by (clear hi p1 p2 p3 hsz t1 u1 u2 u3 hPlen hple hpl hplt hIl h60; omega)
  have hlv : ((List.range (i + 1)).map (leadV c))[((parN c (i + 1) : Nat) : Int).toNat]? = some (leadV c (parN c (i + 1))) := by rw [Int.toNat_natCast]; exact rng_get _ (by exact Nat.lt_succ_of_le hple)
  have hsuf : ∀ s, s < 3 → ([V.str ⟨[9].toArray⟩, V.str ⟨(List.replicate (uN (c 0) + 1) 32).toArray⟩, V.str ⟨(List.replicate (uN (c 0)) 32 ++ [9]).toArray⟩] : List V)[((s : Nat) : Int).toNat]? = some (.str ⟨(suf (uN (c 0)) s).toArray⟩) := by
    intro s hs
    rw [Int.toNat_natCast]
    unfold suf
    match s, hs with
    | 0, _ => rfl
    | 1, _ => rfl
    | 2, _ => rfl
  have hwd : wdN c (i + 1) = wdN c (parN c (i + 1)) ++ [tN (c (i + 1)) / 60] := atPar_step c _ _ i
  have hld : leadOf (uN (c 0)) (wdN c (parN c (i + 1))) ++ suf (uN (c 0)) (tN (c (i + 1)) / 60) = leadOf (uN (c 0)) (wdN c (i + 1)) := by rw [hwd]; unfold leadOf; rw [List.flatMap_append]; simp
  obtain ⟨z1, z2, z3, z4⟩ := lead_small u2 u3 ((treeN c).wd_small (parN c (i + 1)) (by (clear p1 p2 p3 hsz t1 t2 u1 u2 u3 hPlen hpl hplt hIl h60 hs3; omega))).2 ((treeN c).wd_small (parN c (i + 1)) (by (clear p1 p2 p3 hsz t1 t2 u1 u2 u3 hPlen hpl hplt hIl h60 hs3; omega))).1
  obtain ⟨y1, y2, y3, y4⟩ := lead_small u2 u3 ((treeN c).wd_small (i + 1) (by exact Nat.succ_lt_succ hi)).2 ((treeN c).wd_small (i + 1) (by exact Nat.succ_lt_succ hi)).1
  have hsl : (suf (uN (c 0)) (tN (c (i + 1)) / 60)).length ≤ 5 := by
    unfold suf
    (repeat' split) <;> simp <;> exact Nat.le_of_lt u2
  refine Exs_cons <| Ex_Expr ok <| Ev_Method PySem.F.plainAttrs_list PySem.F.slot_list_append PySem.F.type_list_append <| Ev_Name <| Ld_ ok (vs (vs r2)) ⟨TyV.list g2.la_, Evs_cons <| Ev_BinOp <| Ev_Subscript PySem.F.slot_list_getitem.lookup <| Ev_Name <| Ld_ ok (vs (vs r2)) <| Ev_Subscript PySem.F.slot_list_getitem.lookup <| Ev_Name <| Ld_ ok s5 <| Ev_Name <| Ld_ ok vz
    ⟨TyV.list hp2, GetI_list hp2 (by exact Int.natCast_nonneg _) (by (clear hi p1 p2 p3 hsz t1 t2 u1 u2 u3 hple hpl h60 hs3 z1 z2 z3 z4 y1 y2 y3 y4 hsl; omega)) hg ⟨TyV.list g2.la_, GetI_list g2.la_ (by exact Int.natCast_nonneg _) (by (clear p1 p2 p3 hsz t1 t2 u1 u2 u3 hPlen hpl hplt hIl h60 hs3 z1 z2 z3 z4 y1 y2 y3 y4 hsl; omega)) hlv <| Ev_Subscript PySem.F.slot_tuple_getitem.lookup <| Ev_Tuple <| Evs_cons <| Ev_str <| Evs_cons <| Ev_BinOp <| Ev_str <| Ev_BinOp <| Ev_Name <| Ld_ ok (vs (vs r6)) <| Ev_int <| Bin_add ?_⟩⟩⟩
  rw [show ((uN (c 0) : Nat) : Int) + 1 = ((uN (c 0) + 1 : Nat) : Int) by (clear hi p1 p2 p3 hsz t1 t2 u1 u2 u3 hPlen hple hpl hplt hIl h60 hs3 z1 z2 z3 z4 y1 y2 y3 y4 hsl; omega)]
  refine Bin_mulS hP (mul_ok _ (by exact Nat.succ_lt_succ u2)) <| Evs_cons <| Ev_BinOp <| Ev_BinOp <| Ev_str <| Ev_Name <| Ld_ ok (vs (vs r6)) <| Bin_mulS hP (mul_ok _ (by exact Nat.lt_succ_of_lt u2)) ?_
  rw [mul_blank _ (by exact Nat.succ_lt_succ u2), mul_blank _ (by exact Nat.lt_succ_of_lt u2), tab_eq2]
  refine Ev_str <| Bin_addS hP (by simp [Str.length]; exact Nat.le_trans u2 (by decide)) ?_
  rw [str_app]
  refine Evs_nil ⟨show 3 ≤ sizeLine by decide, fun U hU => Ev_BinOp <| Ev_Name <| Ld_ ok (vs vz) <| Ev_int <| Bin_floordiv (by decide) (PyProof.noPylong_small (by decide)) ?_⟩
  rw [h60]
  have gU := g2.mono (Ext.rfl.new (o := .tup [V.str ⟨[9].toArray⟩, V.str ⟨(List.replicate (uN (c 0) + 1) 32).toArray⟩, V.str ⟨(List.replicate (uN (c 0)) 32 ++ [9]).toArray⟩]) hU)
  refine ⟨TyV.tup (HA.set_self _ _ _), GetI_tup (HA.set_self _ _ _) (by exact Int.natCast_nonneg _) (by exact Int.lt_of_lt_of_le (Int.ofNat_lt.mpr hs3) (by decide)) (hsuf _ hs3) <| Bin_addS hP (by simp [Str.length]; (clear hi p1 p2 p3 t1 t2 u1 u2 u3 hPlen hple hpl hplt hIl h60 hs3 z1 z2 y1 y2 y3 y4; omega)) ?_⟩
  rw [str_app, hld]
  refine Evs_nil <| Cal_append gU.la_ (by rw [List.length_map, List.length_range]; exact Nat.le_trans hi (by decide)) ?_
  have el : ((List.range (i + 1)).map (leadV c)) ++ [V.str ⟨(leadOf (uN (c 0)) (wdN c (i + 1))).toArray⟩] = (List.range (i + 2)).map (leadV c) := by
    rw [range_snoc _ (i + 1)]; rfl
  rw [el]
  have g3 := gU.setL ((List.range (i + 2)).map (leadV c))
  have hp3 : ((H2.set U (.tup [V.str ⟨[9].toArray⟩, V.str ⟨(List.replicate (uN (c 0) + 1) 32).toArray⟩, V.str ⟨(List.replicate (uN (c 0)) 32 ++ [9]).toArray⟩])).set la (.list ((List.range (i + 2)).map (leadV c)))) pa = some (.list (intL (PL c i))) := (HA.set_ne p1).trans (HA.set_old hU hp2)
  generalize ((H2.set U (.tup [V.str ⟨[9].toArray⟩, V.str ⟨(List.replicate (uN (c 0) + 1) 32).toArray⟩, V.str ⟨(List.replicate (uN (c 0)) 32 ++ [9]).toArray⟩])).set la (.list ((List.range (i + 2)).map (leadV c)))) = H3 at g3 hp3
  have htv : ((List.range (i + 1)).map fun j => V.ref (tr j))[((parN c (i + 1) : Nat) : Int).toNat]? = some (.ref (tr (parN c (i + 1)))) := by rw [Int.toNat_natCast]; exact rng_get _ (by exact Nat.lt_succ_of_le hple)
  obtain ⟨x1, x2, x3, x4⟩ := g3.tr_ (parN c (i + 1)) (by exact Nat.lt_succ_of_le hple)
  have htl : trI c (parN c (i + 1)) ++ [((i + 1 : Nat) : Int)] = trI c (i + 1) := by
    have : trN c (i + 1) = trN c (parN c (i + 1)) ++ [i + 1] := atPar_step c _ _ i
    unfold trI; rw [this, List.map_append]; rfl
  have htlen : (trI c (parN c (i + 1))).length ≤ 7 := by
    have : ∀ k j, j ≤ k → (trN c j).length ≤ k := by
      intro k
      induction k with
      | zero => intro j hj; have : j = 0 := by exact Nat.eq_zero_of_le_zero hj
                subst this; exact Nat.le_refl _
      | succ k ih =>
        intro j hj
        cases j with
        | zero => exact Nat.zero_le _
        | succ j =>
          have e : trN c (j + 1) = trN c (parN c (j + 1)) ++ [j + 1] := atPar_step c _ _ j
          rw [e, List.length_append, List.length_singleton]
          have := ih (parN c (j + 1)) (by have := parN_le c j; (clear hi p1 p2 p3 hsz t1 t2 u1 u2 u3 hPlen hple hpl hplt hIl h60 hs3 z1 z2 z3 z4 y1 y2 y3 y4 hsl x2 x3 x4; omega))
          exact Nat.succ_le_succ this
    have := this i _ hple
    unfold trI; rw [List.length_map]; (clear p1 p2 p3 hsz t1 t2 u1 u2 u3 hPlen hple hpl hplt hIl h60 hs3 z1 z2 z3 z4 y1 y2 y3 y4 hsl x2 x3 x4; omega)
  refine Exs_cons <| Ex_Expr ok <| Ev_Method PySem.F.plainAttrs_list PySem.F.slot_list_append PySem.F.type_list_append <| Ev_Name <| Ld_ ok (vs (vs r4)) ⟨TyV.list g3.ta_, Evs_cons <| Ev_BinOp <| Ev_Subscript PySem.F.slot_list_getitem.lookup <| Ev_Name <| Ld_ ok (vs (vs r4)) <| Ev_Subscript PySem.F.slot_list_getitem.lookup <| Ev_Name <| Ld_ ok s5 <| Ev_Name <| Ld_ ok vz
    ⟨TyV.list hp3, GetI_list hp3 (by exact Int.natCast_nonneg _) (by (clear hi p1 p2 p3 hsz t1 t2 u1 u2 u3 hple hpl h60 hs3 z1 z2 z3 z4 y1 y2 y3 y4 hsl x2 x3 x4 htlen; omega)) hg ⟨TyV.list g3.ta_, GetI_list g3.ta_ (by exact Int.natCast_nonneg _) (by (clear p1 p2 p3 hsz t1 t2 u1 u2 u3 hPlen hpl hplt hIl h60 hs3 z1 z2 z3 z4 y1 y2 y3 y4 hsl x2 x3 x4 htlen; omega)) htv <| Ev_List <| Evs_cons <| Ev_Name <| Ld_ ok (vs (vs r7)) <| Evs_nil ⟨show 1 ≤ sizeLine by decide, fun B hB => Bin_addL ok (HA.set_old hB x1) (HA.set_self _ _ _) (by rw [List.length_map]; simp; (clear hi p1 p2 p3 t1 t2 u1 u2 u3 hPlen hple hpl hplt hIl h60 hs3 z1 z2 z3 z4 y1 y2 y3 y4 hsl x2 x3 x4; omega)) fun C hC => Evs_nil ?_⟩⟩⟩⟩
  have eC : (trI c (parN c (i + 1))).map V.int ++ [V.int ((i + 1 : Nat) : Int)] = (trI c (i + 1)).map V.int := by rw [← htl, List.map_append]; rfl
  rw [eC]
  have hEC : Ext H3 ((H3.set B (.list [.int ((i + 1 : Nat) : Int)])).set C (.list ((trI c (i + 1)).map V.int))) := (Ext.rfl.new hB).new hC
  have hCC : ((H3.set B (.list [.int ((i + 1 : Nat) : Int)])).set C (.list ((trI c (i + 1)).map V.int))) C = some (.list ((trI c (i + 1)).map V.int)) := HA.set_self _ _ _
  have hC3 : H3 C = none := Ext.none (Ext.rfl.new hB) hC
  generalize ((H3.set B (.list [.int ((i + 1 : Nat) : Int)])).set C (.list ((trI c (i + 1)).map V.int))) = H4 at hEC hCC
  have g4 := (g3.mono hEC).grow (q := C) hCC (by rintro rfl; rw [g3.la_] at hC3; cases hC3) (by rintro rfl; rw [g3.aa_] at hC3; cases hC3) (by rintro rfl; rw [g3.ta_] at hC3; cases hC3)
  refine Cal_append g4.ta_ (by rw [List.length_map, List.length_range]; exact Nat.le_trans hi (by decide)) ?_
  have et : ((List.range (i + 1)).map fun j => V.ref (tr j)) ++ [V.ref C] = (List.range (i + 2)).map fun j => V.ref (fam tr (i + 1) C j) := by
    rw [range_snoc _ (i + 1), fam_self]
    congr 1
    refine List.map_congr_left fun j hj => ?_
    have := List.mem_range.mp hj
    rw [fam_ne (by exact Nat.ne_of_lt this)]
  rw [et]
  have g5 := g4.setT ((List.range (i + 2)).map fun j => V.ref (fam tr (i + 1) C j))
  have hp5 : (H4.set ta (.list ((List.range (i + 2)).map fun j => V.ref (fam tr (i + 1) C j)))) pa = some (.list (intL (PL c i))) := (HA.set_ne p3).trans (hEC _ _ hp3)
  generalize (H4.set ta (.list ((List.range (i + 2)).map fun j => V.ref (fam tr (i + 1) C j)))) = H5 at g5 hp5
  refine Exs_cons <| Ex_Assign <| Ev_BinOp <| Ev_Subscript PySem.F.slot_list_getitem.lookup <| Ev_Name <| Ld_ ok s5 <| Ev_Slice (l := none) (u := some _) (st := none) <| Ev_BinOp <| Ev_Name <| Ld_ ok vz <| Ev_int <| Bin_add fun s1 hs1 => ⟨TyV.list (HA.set_old hs1 hp5), ?_⟩
  have e1 : ((pl : Nat) : Int) + 1 = ((pl + 1 : Nat) : Int) := by (clear hi p1 p2 p3 hsz t1 t2 u1 u2 u3 hPlen hple hpl hplt hIl h60 hs3 z1 z2 z3 z4 y1 y2 y3 y4 hsl x2 x3 x4 htlen; omega)
  rw [e1]
  refine GetI_listSlice (lo := none) (hi := some ((pl + 1 : Nat) : Int)) (HA.set_old hs1 hp5) (HA.set_self _ _ _) .no (.at _) (by rw [hIl]; exact Nat.le_trans hPlen (by decide)) fun D hD => ?_
  rw [slice_uptoL (intL (PL c i)) (pl + 1) (by rw [hIl]; exact Nat.succ_le_of_lt hplt)]
  have eI : (intL (PL c i)).take (pl + 1) = intL ((PL c i).take (pl + 1)) := by unfold intL; rw [List.map_take]
  rw [eI]
  refine Ev_List <| Evs_cons <| Ev_Name <| Ld_ ok (vs (vs r7)) <| Evs_nil ⟨show 1 ≤ sizeLine by decide, fun B2 hB2 => Bin_addL ok (HA.set_old hB2 (HA.set_self _ _ _)) (HA.set_self _ _ _) (by unfold intL; rw [List.length_map, List.length_take]; simp; (clear hi p1 p2 p3 t1 t2 u1 u2 u3 hple hpl h60 hs3 z1 z2 z3 z4 y1 y2 y3 y4 hsl x2 x3 x4 htlen e1; omega)) fun C2 hC2 => St_ ok own <| Exs_nil ?_⟩
  have hE6 := (((Ext.rfl.new hs1).new hD).new (o := .list [.int ((i + 1 : Nat) : Int)]) hB2)
  have hC20 : H5 C2 = none := Ext.none hE6 hC2
  refine h _ C2 C _ _ (g5.mono (hE6.new hC2)) ?_ (by rintro rfl; rw [g5.la_] at hC20; cases hC20) (by rintro rfl; rw [g5.aa_] at hC20; cases hC20) (by rintro rfl; rw [g5.ta_] at hC20; cases hC20)
  rw [HA.set_self]
  congr 2
  have : PL c (i + 1) = (PL c i).take (pl + 1) ++ [i + 1] := by rw [← hpl]; rfl
  rw [this]; unfold intL; rw [List.map_append]; rfl
end
end Mine
namespace Mine
noncomputable def firstL : List Int := [111785, 36391693, 853315627, 68839415, 28459640, 20264894]
noncomputable def sixth (ns : List Int) (k : Nat) : List Int := (sliceRange (sliceBounds (some (k : Int)) none (some 6) ns.length).1 (sliceBounds (some (k : Int)) none (some 6) ns.length).2.1 (sliceBounds (some (k : Int)) none (some 6) ns.length).2.2).filterMap (ns[·]?)
noncomputable def cellN (ns : List Int) (k : Nat) : Int := firstL.getD k 0 + (sixth ns k).sum
variable [HasP]
section
variable {G : Glb} {F : Fm} {ρ : Vars} {H : HA} {sc : Scope} {d : Nat} {Q : V → Prop} {Kf : Frag}
theorem GetI_listStepB {a l : Addr} {xs : List V} {lv uv sv : V} {lo hi st : Option Int} {Q : V → HA → Prop} (hl : ∃ vs n, G.B.get? l = some { cls := .type "list", data := .seq vs n } ∧ vs.toList.map ab = xs) (hs : H a = some (.slice lv uv sv)) (hlo : Pt lv lo) (hhi : Pt uv hi) (hst : Pt sv st) (h0 : st ≠ some 0) (hz : xs.length ≤ sizeLine)
    (h : ∀ c, H c = none → Q (.ref c) (H.set c (.list ((sliceRange (sliceBounds lo hi st xs.length).1 (sliceBounds lo hi st xs.length).2.1 (sliceBounds lo hi st xs.length).2.2).filterMap (xs[·]?))))) : GetI G F (.ref l) (.ref a) H Q := fun x y ex ey => by
  obtain rfl := ab_ref ex; obtain rfl := ab_ref ey
  refine FT.of fun Z s X => ?_
  obtain ⟨vs, n, e0, q⟩ := hl
  have lv : s.heap.IsList l vs := ⟨_, X.base _ _ e0, rfl, ⟨n, rfl⟩⟩
  obtain ⟨p, q', r, e, e1, e2, e3⟩ := X.trk _ _ hs
  refine wpAny_getItem_list_slice lv ⟨_, e, rfl, rfl⟩ (hlo.ofL e1) (hhi.ofL e2) (hst.ofL e3) h0 ?_ (by rw [size_ab q]; exact hz)
  refine ⟨_, X.alloc (o := .list ((sliceRange (sliceBounds lo hi st xs.length).1 (sliceBounds lo hi st xs.length).2.1 (sliceBounds lo hi st xs.length).2.2).filterMap (xs[·]?))) (fun _ _ e => Heap.get?_push_of_some _ e) (Nat.le_refl _) ⟨_, _, Heap.get?_push_size _ rfl, ?_⟩ rfl rfl, h _ (X.fresh (Nat.le_refl _))⟩
  unfold slicePick
  rw [size_ab q]
  simp only [List.map_filterMap]
  congr 1
  funext i
  exact getElem?_ab q i
theorem sixth_map (ns : List Int) (k : Nat) : (sliceRange (sliceBounds (some (k : Int)) none (some 6) (ns.map V.int).length).1 (sliceBounds (some (k : Int)) none (some 6) (ns.map V.int).length).2.1 (sliceBounds (some (k : Int)) none (some 6) (ns.map V.int).length).2.2).filterMap ((ns.map V.int)[·]?) = (sixth ns k).map V.int := by
  unfold sixth
  rw [List.map_filterMap, List.length_map]
  congr 1
  funext i
  exact List.getElem?_map
structure TrnI (c : Nat → Int) (H4 H' : HA) (la aa ta ca ba : Addr) (i : Nat) (tr : Nat → Addr) (pa' : Addr) (ρ' : Vars) : Prop where
  g : GS H4 H' la aa ta ((List.range (i + 1)).map (leadV c)) ((List.range (i + 1)).map (toldV (parN c))) ((List.range (i + 1)).map fun j => .ref (tr j)) (i + 1) tr (trI c)
  hp : H' pa' = some (.list (intL (PL c i)))
  o1 : pa' ≠ la
  o2 : pa' ≠ aa
  o3 : pa' ≠ ta
  q1 : ρ' "cells" = some (.ref ca)
  q2 : ρ' "beside" = some (.ref ba)
  q3 : ρ' "leads" = some (.ref la)
  q4 : ρ' "above" = some (.ref aa)
  q5 : ρ' "trails" = some (.ref ta)
  q6 : ρ' "path" = some (.ref pa')
  q7 : ρ' "unit" = some (.int (uN (c 0)))
theorem law_all (K : Kn G) (Wk : WsK G Kf) (hP : ∀ t, HasP.K t = 0) (ok : FOk G F (FS 29) 8) (own : F.own = true) (hclk : 2513 ≤ HasP.clk) (hfr : F.A.frames = some [F.env]) (hfm : F.env.frame = some F.env.locals) {sl : Addr} {ns : List Int} {W : Nat → Int} {base : Nat}
    (pl : Pl (cellN ns) (uN (cellN ns 0)) (parN (cellN ns)) (wdN (cellN ns)) (PL (cellN ns)) (trI (cellN ns)) W base) (hn : ns.length ≤ 63)
    (hs : ∃ vs n, G.B.get? sl = some { cls := .type "list", data := .seq vs n } ∧ vs.toList.map ab = ns.map V.int) (r0 : ρ "script" = some (.ref sl)) (h : Q (.bool true)) :
    Exs G F (FB 29) ρ H fun fl _ _ => Q (match fl with | .ret v => v | _ => .none) := by
  have hsz : (1000 : Nat) ≤ sizeLine := by decide
  refine Exs_cons <| Ex_Assign <| Ev_List <| Evs_cons <| Ev_int <| Evs_cons <| Ev_int <| Evs_cons <| Ev_int <| Evs_cons <| Ev_int <| Evs_cons <| Ev_int <| Evs_cons <| Ev_int <| Evs_nil ⟨show 6 ≤ sizeLine by decide, fun fa hfa => St_ ok own ?_⟩
  have hf1 : (H.set fa (.list (firstL.map V.int))) fa = some (.list (firstL.map V.int)) := HA.set_self _ _ _
  have hE1 : Ext H (H.set fa (.list (firstL.map V.int))) := Ext.rfl.new hfa
  change Exs G F _ _ (H.set fa (.list (firstL.map V.int))) _
  generalize (H.set fa (.list (firstL.map V.int))) = H1 at hf1 hE1
  refine Exs_cons <| Ex_Comp ok K.g <| Ev_Call ok K.g (K.bt (n := "range") rfl rfl) trivial <| Evs_cons <| Ev_int <| Evs_nil <| Cal_range1 fun r hr => ?_
  have hit := Iter.rng (G := G) (A := F.A) ok.hd (H := H1.set r (.range 0 6 1)) (HA.set_self _ _ _) (by decide) (by decide) (by decide) (by decide)
  refine ⟨_, _, _, fun i ys H' => Ext H1 H' ∧ ys = (List.range i).map fun i => V.int (cellN ns i), hit, by decide, ⟨Ext.rfl.new hr, rfl⟩, fun _ _ _ _ => trivial, ?_, ?_⟩
  · rintro Fc okc i hi ys H2 ⟨hE2, rfl⟩
    have hi : i < 6 := hi
    first | rw [show (0 : Int) + (i : Int) * 1 = (i : Int) by omega] | rw [show (0 : Int) + (i : Int) = (i : Int) by exact o_z0]
    have hfg : (firstL.map V.int)[((i : Nat) : Int).toNat]? = some (.int (firstL.getD i 0)) := by
      rw [Int.toNat_natCast, List.getElem?_map]
      have : ∀ i, i < 6 → firstL[i]? = some (firstL.getD i 0) := by decide
      rw [this i hi]; rfl
    have ty : ∀ H', TyV G H' (.ref sl) "list" := fun H' => let ⟨_, _, e0, _⟩ := hs; TyV.base e0 rfl rfl
    refine Ev_BinOp <| Ev_Subscript PySem.F.slot_list_getitem.lookup <| Ev_Name <| Ld_ okc (vs (show hideL _ _ "first" = some (.ref fa) from vz)) <| Ev_Name <| Ld_ okc vz ⟨TyV.list (hE2 _ _ hf1), GetI_list (hE2 _ _ hf1) (by exact Int.natCast_nonneg _) (by exact o_63 hi) hfg <|
      Ev_Call okc K.g (K.bt (n := "sum") rfl rfl) trivial <| Evs_cons <| Ev_Subscript PySem.F.slot_list_getitem.lookup <| Ev_Name <| Ld_ okc (vs (show hideL _ _ "script" = some (.ref sl) from vs r0)) <| Ev_Slice (l := some _) (u := none) (st := some _) <| Ev_Name <| Ld_ okc vz <| Ev_int fun s1 hs1 =>
        ⟨ty _, GetI_listStepB (lo := some (i : Int)) (hi := none) (st := some 6) hs (HA.set_self _ _ _) (.at _) .no (.at _) (by decide) (by rw [List.length_map]; exact Nat.le_trans hn (by decide)) fun D hD => ?_⟩⟩
    rw [sixth_map]
    refine Evs_nil <| Cal_sum okc (HA.set_self _ _ _) <| Bin_add ⟨(hE2.new hs1).new hD, ?_⟩
    rw [range_snoc]; rfl
  · rintro ys H2 ⟨hE2, rfl⟩ ca hca
    refine St_ ok own ?_
    have hc : (H2.set ca (.list ((List.range 6).map fun i => V.int (cellN ns i)))) ca = some (.list ((List.range 6).map fun i => V.int (cellN ns i))) := HA.set_self _ _ _
    change Exs G F _ _ (H2.set ca (.list ((List.range 6).map fun i => V.int (cellN ns i)))) _
    generalize (H2.set ca (.list ((List.range 6).map fun i => V.int (cellN ns i)))) = H3 at hc
    generalize cellN ns = c at pl hc
    obtain ⟨u1, u2, u3⟩ := uN_eq (c 0)
    refine Exs_cons <| Ex_Assign <| Ev_List <| Evs_cons <| Ev_int <| Evs_cons <| Ev_int <| Evs_cons <| Ev_int <| Evs_cons <| Ev_int <| Evs_cons <| Ev_int <| Evs_cons <| Ev_int <| Evs_cons <| Ev_int <| Evs_cons <| Ev_int <| Evs_cons <| Ev_int <| Evs_cons <| Ev_int <| Evs_cons <| Ev_int <| Evs_cons <| Ev_int <| Evs_cons <| Ev_int <| Evs_cons <| Ev_int <| Evs_cons <| Ev_int <| Evs_cons <| Ev_int <| Evs_nil ⟨show 16 ≤ sizeLine by decide, fun ba hba => St_ ok own ?_⟩
    have hb4 : (H3.set ba (.list (besideL.map V.int))) ba = some (.list (besideL.map V.int)) := HA.set_self _ _ _
    have hc4 := HA.set_old (o := .list (besideL.map V.int)) hba hc
    change Exs G F _ _ (H3.set ba (.list (besideL.map V.int))) _
    generalize (H3.set ba (.list (besideL.map V.int))) = H4 at hb4 hc4
    refine Exs_cons <| Ex_Assign <| Ev_BinOp <| Ev_BinOp <| Ev_BinOp <| Ev_Subscript PySem.F.slot_list_getitem.lookup <| Ev_Name <| Ld_ ok (vs vz) <| Ev_int ⟨TyV.list hc4, GetI_list hc4 (by decide) (by decide) (v := .int (c 0)) rfl <| Ev_int <| Bin_floordiv (by decide) (PyProof.noPylong_small (by decide)) <| Ev_int <| Bin_mod (by decide) <| Ev_int <| Bin_add <| St_ ok own ?_⟩
    rw [u1]
    refine Exs_cons <| Ex_Assign <| Ev_List <| Evs_cons <| Ev_str <| Evs_nil ⟨show 1 ≤ sizeLine by decide, fun la hla => St_ ok own ?_⟩
    refine Exs_cons <| Ex_Assign <| Ev_List <| Evs_cons <| Ev_UnaryOp <| Ev_int <| Un_neg <| Evs_nil ⟨show 1 ≤ sizeLine by decide, fun aa haa => St_ ok own ?_⟩
    refine Exs_cons <| Ex_Assign <| Ev_List <| Evs_cons <| Ev_List <| Evs_nil ⟨by decide, fun t0 ht0 => Evs_nil ⟨show 1 ≤ sizeLine by decide, fun ta hta => St_ ok own ?_⟩⟩
    refine Exs_cons <| Ex_Assign <| Ev_List <| Evs_cons <| Ev_int <| Evs_nil ⟨show 1 ≤ sizeLine by decide, fun pa hpa => St_ ok own ?_⟩
    refine Exs_cons <| Ex_For <| Ev_Call ok K.g (K.bt (n := "range") rfl rfl) trivial <| Evs_cons <| Ev_int <| Evs_cons <| Ev_int <| Evs_nil <| Cal_range2 fun r2 hr2 => ?_
    have hit2 := Iter.rng (G := G) (A := F.A) ok.hd (H := (((((H4.set la (.list [.str (Str.ofString "")])).set aa (.list [.int (-1)])).set t0 (.list [])).set ta (.list [.ref t0])).set pa (.list [.int 0])).set r2 (.range 1 6 1)) (HA.set_self _ _ _) (by decide) (by decide) (by decide) (by decide)
    have n1 : la ≠ aa := by rintro rfl; rw [HA.set_self] at haa; cases haa
    have n2 : la ≠ t0 := by rintro rfl; rw [HA.set_ne n1, HA.set_self] at ht0; cases ht0
    have n3 : aa ≠ t0 := by rintro rfl; rw [HA.set_self] at ht0; cases ht0
    have n4 : la ≠ ta := by rintro rfl; rw [HA.set_ne n2, HA.set_ne n1, HA.set_self] at hta; cases hta
    have n5 : aa ≠ ta := by rintro rfl; rw [HA.set_ne n3, HA.set_self] at hta; cases hta
    have n6 : t0 ≠ ta := by rintro rfl; rw [HA.set_self] at hta; cases hta
    have k1 := HA.set_old (o := .range 1 6 1) hr2 (HA.set_old (o := .list [.int 0]) hpa (HA.set_old (o := .list [.ref t0]) hta (HA.set_old (o := .list []) ht0 (HA.set_old (o := .list [.int (-1)]) haa (HA.set_self H4 la (.list [.str (Str.ofString "")]))))))
    have k2 := HA.set_old (o := .range 1 6 1) hr2 (HA.set_old (o := .list [.int 0]) hpa (HA.set_old (o := .list [.ref t0]) hta (HA.set_old (o := .list []) ht0 (HA.set_self (H4.set la (.list [.str (Str.ofString "")])) aa (.list [.int (-1)])))))
    have k3 := HA.set_old (o := .range 1 6 1) hr2 (HA.set_old (o := .list [.int 0]) hpa (HA.set_old (o := .list [.ref t0]) hta (HA.set_self ((H4.set la (.list [.str (Str.ofString "")])).set aa (.list [.int (-1)])) t0 (.list []))))
    have k4 := HA.set_old (o := .range 1 6 1) hr2 (HA.set_old (o := .list [.int 0]) hpa (HA.set_self (((H4.set la (.list [.str (Str.ofString "")])).set aa (.list [.int (-1)])).set t0 (.list [])) ta (.list [.ref t0])))
    have k5 := HA.set_old (o := .range 1 6 1) hr2 (HA.set_self ((((H4.set la (.list [.str (Str.ofString "")])).set aa (.list [.int (-1)])).set t0 (.list [])).set ta (.list [.ref t0])) pa (.list [.int 0]))
    have p4 : pa ≠ ta := by rintro rfl; rw [HA.set_self] at hpa; cases hpa
    have p3 : pa ≠ t0 := by rintro rfl; rw [HA.set_ne n6, HA.set_self] at hpa; cases hpa
    have p2 : pa ≠ aa := by rintro rfl; rw [HA.set_ne n5, HA.set_ne n3, HA.set_self] at hpa; cases hpa
    have p1 : pa ≠ la := by rintro rfl; rw [HA.set_ne n4, HA.set_ne n2, HA.set_ne n1, HA.set_self] at hpa; cases hpa
    have hE5 : Ext H4 ((((((H4.set la (.list [.str (Str.ofString "")])).set aa (.list [.int (-1)])).set t0 (.list [])).set ta (.list [.ref t0])).set pa (.list [.int 0])).set r2 (.range 1 6 1)) := (((((Ext.rfl.new hla).new haa).new ht0).new hta).new hpa).new hr2
    have a0 : H4 aa = none := Ext.none (Ext.rfl.new hla) haa
    have t00 : H4 ta = none := Ext.none (((Ext.rfl.new hla).new haa).new ht0) hta
    generalize ((((((H4.set la (.list [.str (Str.ofString "")])).set aa (.list [.int (-1)])).set t0 (.list [])).set ta (.list [.ref t0])).set pa (.list [.int 0])).set r2 (.range 1 6 1)) = H5 at hit2 k1 k2 k3 k4 k5 hE5
    refine ⟨_, _, _, fun i ρ' H' => ∃ (tr : Nat → Addr) (pa' : Addr), TrnI c H4 H' la aa ta ca ba i tr pa' ρ', hit2, ?_, fun _ _ _ _ => trivial, ?_, ?_⟩
    · refine ⟨fun _ => t0, pa, ⟨hE5, hla, a0, t00, k1.trans ?_, k2, k4, n1, n4, n5, fun j hj => ?_⟩, k5, p1, p2, p4, vs (vs (vs (vs (vs (vs vz))))), vs (vs (vs (vs (vs vz)))), vs (vs (vs vz)), vs (vs vz), vs vz, vz, vs (vs (vs (vs vz)))⟩
      · rw [blank_eq]; rfl
      · have : j = 0 := by (clear hclk hn hsz u1 u2 u3 n1 n2 n3 n4 n5 n6 p4 p3 p2 p1; omega)
        subst this
        exact ⟨k3, Ne.symm n2, Ne.symm n3, n6⟩
    · rintro i hi ρ1 H6 ⟨tr, pa', g, hp, o1, o2, o3, q1, q2, q3, q4, q5, q6, q7⟩
      have hi : i < 5 := hi
      first | rw [show (1 : Int) + (i : Int) * 1 = ((i + 1 : Nat) : Int) by omega] | rw [show (1 : Int) + (i : Int) = ((i + 1 : Nat) : Int) by (clear hclk hn hsz u1 u2 u3 n1 n2 n3 n4 n5 n6 p4 p3 p2 p1 o1 o2 o3 hi; omega)]
      refine As_Name (St_ ok own ?_)
      exact law_turn K hP ok own hi g hc4 hp o1 o2 o3 (vs q1) (vs q3) (vs q4) (vs q5) (vs q6) (vs q7) vz fun H7 pa2 q t1 t2 g2 hp2 m1 m2 m3 =>
        ⟨fam tr (i + 1) q, pa2, g2, hp2, m1, m2, m3, vs (vs (vs (vs q1))), vs (vs (vs (vs q2))), vs (vs (vs (vs q3))), vs (vs (vs (vs q4))), vs (vs (vs (vs q5))), vz, vs (vs (vs (vs q7)))⟩
    · rintro ρ1 H6 ⟨tr, pa', g, hp, o1, o2, o3, q1, q2, q3, q4, q5, q6, q7⟩
      refine Exs_nil ?_
      exact law_A2 K Wk hP ok own hclk hfr hfm pl (g.ext _ _ hc4) (g.ext _ _ hb4) g.la_ g.aa_ g.ta_ (fun i hi => (g.tr_ i hi).1) q1 q2 q3 q4 q5 h
end
end Mine
namespace Mine
noncomputable def KfE (P : Params) : Frag := [(0, boot_o_0 P), (2, boot_o_2 P), (3, ob_3_29 P), (231, ob_231 P), (232, ob_232 P), (187, ob_187 P), (194, ob_194 P), (201, ob_201 P), (222, ob_222 P)]
theorem kf_in (w : World) (os : OsState) (x : Nat → Obj) : (KfE w.params).In (GE w os x).B := Frag.in_of (as := [0, 2, 3, 231, 232, 187, 194, 201, 222]) rfl (by kernel_rfl)
theorem kf_get (P : Params) : (findIn (KfE P) (.ref 232) "__getattribute__" == some (some (.builtin "object.__getattribute__")) && findIn (KfE P) (.ref 232) "__getattr__" == some none) = true := by kernel_rfl
theorem kf_all (P : Params) : (hasDictIn (KfE P) 232 && plainOver (KfE P) 232 && isFn (KfE P) (.ref 194) && isFn (KfE P) (.ref 201) && isFn (KfE P) (.ref 222) && keepIn (KfE P) (.ref 232) && makesIn (KfE P) 232 && readsIn (KfE P) 232 (.type "type")) = true := by kernel_rfl
theorem kf_own (P : Params) : ∀ n ∈ attrL, findIn (KfE P) (.ref 232) (Str.ofString n) = some none := by
  have h : attrL.map (fun n => findIn (KfE P) (.ref 232) (Str.ofString n)) = attrL.map fun _ => some none := by kernel_rfl
  exact fun n hn => List.map_inj_left.mp h n hn
theorem kf_tk (P : Params) : ∀ n ∈ attrL, takerIn (KfE P) 232 (Str.ofString n) = some none := by
  have h : attrL.map (fun n => takerIn (KfE P) 232 (Str.ofString n)) = attrL.map fun _ => some none := by kernel_rfl
  exact fun n hn => List.map_inj_left.mp h n hn
theorem kws (w : World) (os : OsState) (x : Nat → Obj) : WsK (GE w os x) (KfE w.params) := by
  have h := kf_all w.params
  simp only [Bool.and_eq_true] at h
  obtain ⟨⟨⟨⟨⟨⟨⟨a1, a2⟩, a3⟩, a4⟩, a5⟩, a6⟩, a7⟩, a8⟩ := h
  exact {
    inn := kf_in w os x
    get := fun n => kf_get w.params
    dct := a1
    own := kf_own w.params
    sa := by kernel_rfl
    ov := a2
    tk := kf_tk w.params
    m1 := by kernel_rfl
    m2 := by kernel_rfl
    m3 := by kernel_rfl
    f1 := a3
    f2 := a4
    f3 := a5
    keep := a6
    makes := a7
    ini := by kernel_rfl
    inif := by kernel_rfl
    rd := a8
    cS := by kernel_rfl
    cT := by kernel_rfl }
theorem kkn (w : World) (os : OsState) (x : Nat → Obj) (hb : B3At w os x) : Kn (GE w os x) where
  g := ge_ok w os x
  mgs := kmgs w os x
  d_add := kd_add w os x
  d_floordiv := kd_floordiv w os x
  d_lshift := kd_lshift w os x
  d_mul := kd_mul w os x
  d_neg := kd_neg w os x
  d_or := kd_or w os x
  d_sub := kd_sub w os x
  d_xor := kd_xor w os x
  d_getitem := kd_getitem w os x
  d_indexOf := kd_indexOf w os x
  d_flags := kd_flags w os x
  d_varint := kd_varint w os x
  d_b1 := kd_b1 w os x
  d_b3 := kd_b3 w os x
  d_typed := kd_typed w os x
  d_prepared := kd_prepared w os x
  d_octets := kd_octets w os x
  d_apart := kd_apart w os x
  d_det := kd_det w os x
  d_law := kd_law w os x
  d_init := kd_init w os x
  d_longest := kd_longest w os x
  d_indent := kd_indent w os x
  d_less := kd_less w os x
  flags := kflags w os x
  b3 := kb3 w os x hb
  booked := kbooked w os x
  b1 := kb1 w os x
end Mine
namespace Mine
section
variable {G : Glb} {h : Heap}
noncomputable def Glb.up (G : Glb) (h : Heap) : Glb := { G with B := h }
theorem Def.up {f : Addr} {ns : List String} {sc : Scope} {body : List Stmt} (D : Def G f ns sc body) (k : ∀ b o, G.B.get? b = some o → h.get? b = some o) : Def (G.up h) f ns sc body := by
  obtain ⟨⟨o, fd, h1, h2, h3, r⟩, a, b, c, d, e⟩ := D
  exact ⟨⟨o, fd, k _ _ h1, h2, h3.keeps k, r⟩, a, b, c, d, e⟩
theorem GOk.up (g : GOk G) (k : ∀ b o, G.B.get? b = some o → h.get? b = some o) (hl : ∃ o, h.get? (h.objs.size - 1) = some o) : GOk (G.up h) :=
  ⟨g.g.keeps k, g.b.keeps k, g.bl, g.lim.keeps k, hl⟩
theorem Kn.up (K : Kn G) (k : ∀ b o, G.B.get? b = some o → h.get? b = some o) (hl : ∃ o, h.get? (h.objs.size - 1) = some o) : Kn (G.up h) where
  g := K.g.up k hl
  mgs := K.mgs
  d_add := K.d_add.up k
  d_floordiv := K.d_floordiv.up k
  d_lshift := K.d_lshift.up k
  d_mul := K.d_mul.up k
  d_neg := K.d_neg.up k
  d_or := K.d_or.up k
  d_sub := K.d_sub.up k
  d_xor := K.d_xor.up k
  d_getitem := K.d_getitem.up k
  d_indexOf := K.d_indexOf.up k
  d_flags := K.d_flags.up k
  d_varint := K.d_varint.up k
  d_b1 := K.d_b1.up k
  d_b3 := K.d_b3.up k
  d_typed := K.d_typed.up k
  d_prepared := K.d_prepared.up k
  d_octets := K.d_octets.up k
  d_apart := K.d_apart.up k
  d_det := K.d_det.up k
  d_law := K.d_law.up k
  d_init := K.d_init.up k
  d_longest := K.d_longest.up k
  d_indent := K.d_indent.up k
  d_less := K.d_less.up k
  flags := let ⟨f, ⟨o, es, ep, h1, r⟩, q⟩ := K.flags; ⟨f, ⟨o, es, ep, k _ _ h1, r⟩, q⟩
  b3 := let ⟨f, ⟨o, es, ep, h1, r⟩, q⟩ := K.b3; ⟨f, ⟨o, es, ep, k _ _ h1, r⟩, q⟩
  booked := let ⟨mc, a, b⟩ := K.booked; ⟨mc, a.keeps k, b⟩
  b1 := let ⟨n, o, es, ep, t, h1, r⟩ := K.b1; ⟨n, o, es, ep, t, k _ _ h1, r⟩
theorem WsK.up {Kf : Frag} (W : WsK G Kf) (k : ∀ b o, G.B.get? b = some o → h.get? b = some o) : WsK (G.up h) Kf :=
  { W with inn := W.inn.keeps k }
end
noncomputable def PlOk : Prop := ∀ ns : List Int, ∃ W base, Pl (cellN ns) (uN (cellN ns 0)) (parN (cellN ns)) (wdN (cellN ns)) (PL (cellN ns)) (trI (cellN ns)) W base
theorem law_code (hPl : PlOk) (w : World) (os : OsState) (x : Nat → Obj) (hb : B3At w os x) {s₁ : Shared} (k : ∀ b o, (hpEnd w.params x).get? b = some o → s₁.heap.get? b = some o) (hg : s₁.gens = #[]) (hos : s₁.os = os) (ht : 2513 ≤ s₁.toks)
    {sl : Addr} {vs : Array Value} {n : Nat} {ns : List Int} (hl : s₁.heap.get? sl = some { cls := .type "list", data := .seq vs n }) (hv : ∀ [HasP], vs.toList.map ab = ns.map V.int) (hlast : ∃ o, s₁.heap.get? (s₁.heap.objs.size - 1) = some o) (hn : ns.length ≤ 63) :
    codeAny (model PW w) callerA (.call (.ref 272) ⟨[.ref sl], []⟩) (fun r s' => r = .ok (.ret (.bool true)) ∧ (∀ b o, s₁.heap.get? b = some o → s'.heap.get? b = some o) ∧ s'.gens = #[] ∧ s'.os = os) s₁ := by
  letI : HasP := ⟨fun _ => 0, 2513, fun _ h => absurd rfl h, fun _ _ _ => rfl⟩
  obtain ⟨W, base, pl⟩ := hPl ns
  have K : Kn ((GE w os x).up s₁.heap) := (kkn w os x hb).up k hlast
  have Wk : WsK ((GE w os x).up s₁.heap) (KfE w.params) := (kws w os x).up k
  have X : Hp ((GE w os x).up s₁.heap) s₁.heap.get? (fun _ => none) s₁ := ⟨fun b o e => e, fun b o e => e, fun _ _ _ => rfl, (fun _ _ e => by cases e), hg, hos, ht⟩
  refine Code_defE (d := 8) (Z := s₁.heap.get?) (H := fun _ => none) K.d_law K.g X rfl (by decide) (by decide) rfl fun F ok own hA hfm hloc s₂ _ I => ?_
  have L := law_all (ρ := argV ["script"] ([Value.ref sl].map ab) noV) (H := fun _ => none) (Q := fun v => v = .bool true) K Wk (fun _ => rfl) ok own (Nat.le_refl _) (by rw [hA]; rfl) hfm pl hn ⟨vs, n, hl, hv⟩ rfl rfl
  refine wpAny_mono (L.run _ _ I) (fun fl s' hM => ?_) fun _ _ e => e.elim
  obtain ⟨ρ', H', I', q⟩ := hM
  refine ⟨?_, fun b o e => I'.hp.fz b o ?_, I'.hp.gens, I'.hp.os⟩
  · cases fl with
    | ret v =>
      have q : ab v = .bool true := q
      rw [ab_bool q]
    | _ => cases q
  · exact e
end Mine
namespace Mine
noncomputable abbrev RL : OpenLaw := PySem.Challenge.rw_tc0075_01
theorem int_of (R : WRecords) : ∀ d : WData, WShape.has R d .int = true → ∃ i, d = .int i
  | .int i, _ => ⟨i, rfl⟩
  | .none, h | .bool _, h | .str _, h | .list _, h | .tuple _, h | .dict _, h | .float _, h | .bytes _, h | .bytearray _, h | .set _, h | .frozenset _, h | .obj _ _, h => absurd (show false = true from h) Bool.false_ne_true
theorem ints_of (R : WRecords) : ∀ xs : List WData, WShape.hasItems R xs .int = true → ∃ ns : List Int, xs = ns.map WData.int
  | [], _ => ⟨[], rfl⟩
  | x :: xs, h => by
    have h : (WShape.has R x .int && WShape.hasItems R xs .int) = true := h
    rw [Bool.and_eq_true] at h
    obtain ⟨i, rfl⟩ := int_of R x h.1
    obtain ⟨ns, rfl⟩ := ints_of R xs h.2
    exact ⟨i :: ns, rfl⟩
theorem list_of (R : WRecords) : ∀ d : WData, WShape.has R d (.list .int) = true → ∃ ns : List Int, d = .list (ns.map WData.int)
  | .list xs, h => by
    have h : (WShape.hasItems R xs .int || false) = true := h
    rw [Bool.or_false] at h
    obtain ⟨ns, rfl⟩ := ints_of R xs h
    exact ⟨ns, rfl⟩
  | .int _, h | .none, h | .bool _, h | .str _, h | .tuple _, h | .dict _, h | .float _, h | .bytes _, h | .bytearray _, h | .set _, h | .frozenset _, h | .obj _ _, h => absurd (show false = true from h) Bool.false_ne_true
theorem args_of (args : List WData) (h : RL.row.toRowW.claim.pre args = true) : ∃ ns : List Int, args = [.list (ns.map WData.int)] ∧ ns.length ≤ 63 := by
  obtain ⟨h1, h2⟩ := pre_splitW (r := RL.row.toRowW) h
  have h1 : WShape.hasAll [] args [.list .int] = true := h1
  match args, h1 with
  | [d], h1 =>
    have h1 : (WShape.has [] d (.list .int) && true) = true := h1
    rw [Bool.and_true] at h1
    obtain ⟨ns, rfl⟩ := list_of _ d h1
    refine ⟨ns, rfl, ?_⟩
    have h3 : WTm.holds [] RL.pre { args := [.list (ns.map WData.int)] } = true := h2
    by_cases q : 63 < (ns.length : Int)
    · exfalso
      simp [WTm.holds, OpenLaw.pre, RL, PySem.Challenge.rw_tc0075_01, WTm.value, less?, Num.less?, q] at h3
      done
    · omega
  | [], h1 => exact absurd (show false = true from h1) Bool.false_ne_true
  | d :: _ :: _, h1 =>
    have h1 : (WShape.has [] d (.list .int) && false) = true := h1
    rw [Bool.and_false] at h1
    cases h1
theorem lay_ints {R : WRecords} {cl : Str → Option Addr} {P : Params} {ord : List DictEntry → List DictEntry} : ∀ (ns : List Int) (s : Shared), ∃ vs, layAllW R cl P ord (ns.map WData.int) s = some (vs, { s with toks := s.toks + ns.length }) ∧ ∀ [HasP], vs.map ab = ns.map V.int
  | [], s => ⟨[], rfl, rfl⟩
  | n :: ns, s => by
    obtain ⟨vs, h, q⟩ := lay_ints (R := R) (cl := cl) (P := P) (ord := ord) ns { s with toks := s.toks + 1 }
    refine ⟨.int n s.toks :: vs, ?_, by intro _; rw [List.map_cons, List.map_cons, q]; rfl⟩
    rw [List.map_cons, layAllW]
    simp only [layW, h]
    refine congrArg some (Prod.ext rfl ?_)
    show ({ s with toks := s.toks + 1 + ns.length } : Shared) = { s with toks := s.toks + (ns.length + 1) }
    rw [Nat.add_assoc, Nat.add_comm 1]
theorem lay_arg {R : WRecords} {cl : Str → Option Addr} {P : Params} {ord : List DictEntry → List DictEntry} (ns : List Int) (s : Shared) : ∃ vs : List Value, layAllW R cl P ord [.list (ns.map WData.int)] s = some ([.ref s.heap.objs.size], { s with toks := s.toks + ns.length, heap := s.heap.push { cls := .type "list", data := .seq vs.toArray } }) ∧ ∀ [HasP], vs.map ab = ns.map V.int := by
  obtain ⟨vs, h, q⟩ := lay_ints (R := R) (cl := cl) (P := P) (ord := ord) ns s
  refine ⟨vs, ?_, q⟩
  simp only [layAllW, layW, h]
end Mine
namespace Mine
theorem law_is (w : World) (x : Nat → Obj) : isTheDefsW PW (hpEnd w.params x) "law" :=
  ⟨272, ob_272 w.params, fdOf (ob_272 w.params), (fdOf (ob_272 w.params)).params, FB 29, FS 29, by kernel_rfl, by kernel_rfl, rfl, by kernel_rfl, rfl, rfl, rfl, rfl, rfl, rfl, rfl, rfl,
    .inl ⟨rfl, rfl⟩, [], rfl, .inl ⟨rfl, rfl⟩⟩
theorem law_mg (w : World) (x : Nat → Obj) : (hpEnd w.params x).nsMap mainGlobals (Str.ofString "law") = some (.ref 272) := by kernel_rfl
theorem post_ok (args ds : List WData) : RL.row.toRowW.claim.post args (.bool true) ds = true := by
  show (true && WTm.holds [] (.eq .res (.lit (.bool true))) { args := args, res := some (.bool true), after := ds }) = true
  simp [WTm.holds, WTm.value, same]
theorem promised : RL.row.toRowW.promised := by w_witness
theorem call_from (hPl : PlOk) (w : World) (os : OsState) (x : Nat → Obj) (hb : B3At w os x) (hz : Shared.asleep ⟨hpEnd w.params x, #[], ⟨0, 0, 0, 0⟩, 2513, os⟩) {free : Addr → Prop} {gens : Prop} {kept : Heap → Prop} (hk : ∀ h, kept h) :
    RL.row.toRowW.claim.CallFrom (callStub "law") w free gens kept ⟨hpEnd w.params x, #[], ⟨0, 0, 0, 0⟩, 2513, os⟩ := by
  refine ClaimW.callFrom_of_specG (c := RL.row.toRowW.claim) hz rfl fun args hpre hlay ord hord => ?_
  obtain ⟨ns, rfl, hn⟩ := args_of args hpre
  obtain ⟨vs, hlaid, hv⟩ := lay_arg (R := RL.row.toRowW.claim.records) (cl := classAt (hpEnd w.params x)) (P := w.params) (ord := ord) ns ⟨hpEnd w.params x, #[], ⟨0, 0, 0, 0⟩, 2513, os⟩
  have keeps := layAllW_keeps _ _ _ hlaid
  obtain ⟨as, hrd, hin, hold⟩ := reads_layAllW hord _ _ _ hlaid hlay _ (fun _ _ e => e)
  have L : Laid RL.row.toRowW.claim.records w _ _ _ _ as := ⟨⟨ord, hord, hlaid⟩, hrd, hin, hold, keeps, rfl, rfl⟩
  refine ⟨_, _, hlaid, wpAny_bind (wpAny_nsGet ((Heap.Ns.of_isNs (gl_ok w.params x)).keeps keeps) ?_)⟩
  rw [law_mg]
  have hp := Heap.get?_push_size (hpEnd w.params x) (o := { cls := .type "list", data := .seq vs.toArray }) rfl
  have hp2 : ∃ o, ((hpEnd w.params x).push { cls := .type "list", data := .seq vs.toArray }).get? (((hpEnd w.params x).push { cls := .type "list", data := .seq vs.toArray }).objs.size - 1) = some o := ⟨_, by rw [show ((hpEnd w.params x).push { cls := .type "list", data := .seq vs.toArray }).objs.size - 1 = (hpEnd w.params x).objs.size by simp [Heap.push]]; exact hp⟩
  refine wpAny_bind (wpAny_call (codeAny_mono (law_code hPl w os x hb keeps rfl rfl (Nat.le_add_right _ _) hp (by intro _; rw [List.toList_toArray]; exact hv) hp2 hn) ?_))
  rintro r s' ⟨rfl, hK, hg, hos⟩
  refine wpAny_pure ⟨_, rfl, ?_⟩
  have g : GoodW RL.row.toRowW.claim (classAt (hpEnd w.params x)) (ExcName.means (hpEnd w.params x)) [.list (ns.map WData.int)] _ (.ok (.ret (.bool true))) s' := ⟨.inl ⟨.bool true, .bool true, [], rfl, fun _ => rfl, .bool true, post_ok _ _, fun _ => ⟨List.nodup_nil, fun a ha => absurd ha List.not_mem_nil⟩⟩, hK, hos, hg⟩
  have z := g.toG.laid (c := RL.row.toRowW.claim) rfl rfl (ident_freeW rfl rfl rfl) L
  exact ⟨z.1, z.2.1, z.2.2, hk _⟩
theorem holds_of (hPl : PlOk) : RL.row.wellSaid = true → RL.row.Holds := fun said => by
  refine ⟨said, promised, ⟨⟨?_, ?_, rfl⟩, promised.witness, fun w => ⟨(top_all w).1, fun s hs => ?_⟩⟩⟩
  · exact ⟨rfl, rfl, rfl, rfl, rfl, by decide +kernel⟩
  · decide +kernel
  · obtain ⟨s₀, h1, h2, os, x, hb, hT, hz⟩ := (top_all w).2 s hs
    refine ⟨s₀, h1, h2, _, hT, ?_, fun _ h => absurd h List.not_mem_nil, fun _ h => absurd h List.not_mem_nil, call_from hPl w os x hb hz fun _ q => by cases q⟩
    intro n hn
    obtain rfl := List.mem_singleton.mp hn
    exact law_is w x
theorem and_i {a b : Bool} (x : a = true) (y : b = true) : (a && b) = true := by rw [x, y]; rfl
theorem looks_ok : looksOpen RL.row.prog = true := by
  unfold looksOpen
  repeat' (with_reducible apply and_i)
  all_goals decide +kernel
theorem part_ok : RL.row.partSaid = true := by
  unfold OpenRow.partSaid
  repeat' (with_reducible apply and_i)
  · exact looks_ok
  all_goals decide +kernel
theorem row_ok : RL.row.wellSaid = true := by
  unfold OpenRow.wellSaid
  repeat' (with_reducible apply and_i)
  · exact part_ok
  all_goals decide +kernel
theorem said_ok : RL.wellSaid = true := by
  unfold OpenLaw.wellSaid
  repeat' (with_reducible apply and_i)
  · exact row_ok
  all_goals decide +kernel
theorem holds_all (hPl : PlOk) : PySem.Challenge.rw_tc0075_01.Holds := holds_law said_ok (holds_of hPl)
end Mine
namespace Mine
theorem pl_ok : PlOk := fun ns => ⟨WN (cellN ns), bs (cellN ns), {
  tree := treeN _
  prep := pl_prep _ (treeN _)
  b8 := (bs_ok _).1
  base_ := (bs_ok _).2
  W0 := by unfold WN mk; rfl
  W_ := fun k h1 h2 => WN_s _ k h1 h2
  ap := pl_ap _
  bd := fun i j => pl_bd _ _ (pl_x _) i j
  pr := pl_pr _
  x_ := pl_x _
  s_ := pl_s _
  det := pl_det _ }⟩
theorem the_law : PySem.Challenge.rw_tc0075_01.Holds := holds_all pl_ok
end Mine
theorem PySem.Challenge.cw_tc0075_01_holds : PySem.Challenge.rw_tc0075_01.Holds :=
  Mine.the_law
