import PyProof.Rows.All
import Wide.All
import OpenK.AllK
import Wide.FinOn
import KE.KxBytes
import KE.KxPercent
import KE.KxPercentT
import KE.KSuper
import KE.KPar
import KE.KTryMore
import PyProof.NsDelKeeps
import PyProof.ExcClass
import Lean
import PySem.Challenge.RW_ku0036_02
set_option Elab.async false
set_option maxRecDepth 10000
namespace Mine
open PySem PySem.W PySem.Calls PySem.Spec PyProof.Rows

/-! abstract values, the frozen part of a heap, what a value stands for -/
inductive PV where
  | none | bool (b : Bool) | int (i : Int) | str (s : List Nat) | bytes (b : List UInt8) | list (l : List PV)
  deriving Inhabited

noncomputable abbrev PH := Addr → Option Obj
noncomputable def PH.le (φ φ' : PH) : Prop := ∀ a o, φ a = some o → φ' a = some o
theorem PH.le.refl (φ : PH) : φ.le φ := fun _ _ e => e
theorem PH.le.trans {φ₁ φ₂ φ₃ : PH} (x : φ₁.le φ₂) (y : φ₂.le φ₃) : φ₁.le φ₃ := fun a o e => y a o (x a o e)

noncomputable abbrev lobj (vs : List Value) (n : Nat) : Obj := { cls := .type "list", data := .seq vs.toArray n }

mutual
noncomputable def Rep (φ : PH) : PV → Value → Prop
  | .none, v => v = .none
  | .bool b, v => v = .bool b
  | .int i, v => ∃ t, v = .int i t
  | .str x, v => ∃ t, v = .str ⟨x.toArray⟩ t
  | .bytes x, v => ∃ t, v = .bytes x.toArray t
  | .list l, v => ∃ a vs n, v = .ref a ∧ φ a = some (lobj vs n) ∧ Reps φ l vs
noncomputable def Reps (φ : PH) : List PV → List Value → Prop
  | [], vs => vs = []
  | p :: ps, vs => ∃ v r, vs = v :: r ∧ Rep φ p v ∧ Reps φ ps r
end

mutual
theorem Rep.mono {φ φ' : PH} (h : φ.le φ') : ∀ (p : PV) (v : Value), Rep φ p v → Rep φ' p v
  | .none, _, r => r
  | .bool _, _, r => r
  | .int _, _, r => r
  | .str _, _, r => r
  | .bytes _, _, r => r
  | .list l, _, ⟨a, vs, n, e, f, r⟩ => ⟨a, vs, n, e, h _ _ f, Reps.mono h l vs r⟩
theorem Reps.mono {φ φ' : PH} (h : φ.le φ') : ∀ (ps : List PV) (vs : List Value), Reps φ ps vs → Reps φ' ps vs
  | [], _, r => r
  | p :: ps, _, ⟨v, r, e, x, y⟩ => ⟨v, r, e, Rep.mono h p v x, Reps.mono h ps r y⟩
end

theorem Reps.length {φ : PH} : ∀ {ps : List PV} {vs : List Value}, Reps φ ps vs → vs.length = ps.length
  | [], _, r => by rw [show _ = [] from r]; rfl
  | _ :: ps, _, ⟨v, r, e, _, y⟩ => by rw [e, List.length_cons, List.length_cons, Reps.length y]
theorem Reps.append {φ : PH} : ∀ {ps qs : List PV} {vs ws : List Value}, Reps φ ps vs → Reps φ qs ws → Reps φ (ps ++ qs) (vs ++ ws)
  | [], _, _, _, r, y => by rw [show _ = [] from r]; exact y
  | _ :: ps, _, _, _, ⟨v, r, e, x, z⟩, y => ⟨v, r ++ _, by rw [e]; rfl, x, Reps.append z y⟩
theorem Reps.get {φ : PH} : ∀ {ps : List PV} {vs : List Value} {i : Nat} {p : PV}, Reps φ ps vs → ps[i]? = some p → ∃ v, vs[i]? = some v ∧ Rep φ p v
  | [], _, _, _, _, h => by simp at h
  | q :: ps, _, 0, _, ⟨v, r, e, x, z⟩, h => by
    simp only [List.getElem?_cons_zero, Option.some.injEq] at h
    subst h
    exact ⟨v, by rw [e]; rfl, x⟩
  | q :: ps, _, i + 1, p, ⟨v, r, e, x, z⟩, h => by
    rw [List.getElem?_cons_succ] at h
    obtain ⟨w, h1, h2⟩ := Reps.get z h
    exact ⟨w, by rw [e, List.getElem?_cons_succ]; exact h1, h2⟩
theorem Reps.take {φ : PH} : ∀ {ps : List PV} {vs : List Value} (n : Nat), Reps φ ps vs → Reps φ (ps.take n) (vs.take n)
  | [], _, n, r => by rw [show _ = [] from r]; simp [Reps]
  | _ :: ps, _, 0, _ => by simp [Reps]
  | _ :: ps, _, n + 1, ⟨v, r, e, x, z⟩ => ⟨v, r.take n, by rw [e]; rfl, x, Reps.take n z⟩
theorem Reps.drop {φ : PH} : ∀ {ps : List PV} {vs : List Value} (n : Nat), Reps φ ps vs → Reps φ (ps.drop n) (vs.drop n)
  | [], _, n, r => by rw [show _ = [] from r]; simp [Reps]
  | p :: ps, vs, 0, r => by simpa using r
  | _ :: ps, _, n + 1, ⟨v, r, e, x, z⟩ => by rw [e]; exact Reps.drop n z

/-! abstract environments -/
/-- the fields of an object -/
noncomputable abbrev Fs := List (String × PV)
noncomputable def fget (x : String) : Fs → Option PV
  | [] => none
  | (y, v) :: r => if y = x then some v else fget x r
noncomputable def fset (x : String) (v : PV) : Fs → Fs
  | [] => [(x, v)]
  | (y, u) :: r => if y = x then (x, v) :: r else (y, u) :: fset x v r

inductive Slot where
  | val (v : PV)
  | own (a : Addr) (l : List PV)
  | obj (C a d : Addr) (fs : Fs)
  /-- an object of the class at 53; raw: nothing was noted on it yet -/
  | exc (raw : Bool) (a : Addr) (d : Option Addr) (fs : Fs)

noncomputable abbrev Rho := List (String × Slot)
noncomputable def get (x : String) : Rho → Option Slot
  | [] => none
  | (y, s) :: r => if y = x then some s else get x r
noncomputable def del (x : String) : Rho → Rho
  | [] => []
  | (y, s) :: r => if y = x then del x r else (y, s) :: del x r
noncomputable def upd (x : String) (s : Slot) : Rho → Rho
  | [] => [(x, s)]
  | (y, t) :: r => if y = x then (x, s) :: del x r else (y, t) :: upd x s r

noncomputable def foot1 : Slot → List Addr
  | .val _ => []
  | .own a _ => [a]
  | .obj _ a d _ => [a, d]
  | .exc _ a d _ => a :: d.toList
noncomputable def foot : Rho → List Addr
  | [] => []
  | (_, s) :: r => foot1 s ++ foot r

theorem mem_of_get {x : String} {s : Slot} : ∀ {ρ : Rho}, get x ρ = some s → (x, s) ∈ ρ
  | (y, t) :: r, h => by
    unfold get at h
    split at h
    · rename_i e; subst e; cases h; exact .head _
    · exact .tail _ (mem_of_get h)
theorem mem_del {x y : String} {s : Slot} : ∀ {ρ : Rho}, (y, s) ∈ del x ρ → y ≠ x ∧ (y, s) ∈ ρ
  | (z, t) :: r, h => by
    unfold del at h
    split at h
    · exact ⟨(mem_del h).1, .tail _ (mem_del h).2⟩
    · rename_i ne
      cases h with
      | head => exact ⟨ne, .head _⟩
      | tail _ h => exact ⟨(mem_del h).1, .tail _ (mem_del h).2⟩
theorem mem_upd {x y : String} {s t : Slot} : ∀ {ρ : Rho}, (y, t) ∈ upd x s ρ → (y = x ∧ t = s) ∨ (y ≠ x ∧ (y, t) ∈ ρ)
  | [], h => by
    cases h with
    | head => exact .inl ⟨rfl, rfl⟩
    | tail _ h => exact nomatch h
  | (z, u) :: r, h => by
    unfold upd at h
    split at h
    · cases h with
      | head => exact .inl ⟨rfl, rfl⟩
      | tail _ h => exact .inr ⟨(mem_del h).1, .tail _ (mem_del h).2⟩
    · rename_i ne
      cases h with
      | head => exact .inr ⟨ne, .head _⟩
      | tail _ h => exact (mem_upd h).imp id fun q => ⟨q.1, .tail _ q.2⟩
theorem foot_mem {x : String} {s : Slot} {a : Addr} : ∀ {ρ : Rho}, (x, s) ∈ ρ → a ∈ foot1 s → a ∈ foot ρ
  | (_, _) :: r, .head _, h => List.mem_append_left _ h
  | (_, _) :: r, .tail _ m, h => List.mem_append_right _ (foot_mem m h)
theorem foot_del_sub (x : String) : ∀ ρ : Rho, (foot (del x ρ)).Sublist (foot ρ)
  | [] => .slnil
  | (y, s) :: r => by
    unfold del
    split
    · exact (foot_del_sub x r).trans (List.sublist_append_right _ _)
    · exact (List.Sublist.refl _).append (foot_del_sub x r)
/-- the footprint behind a store of a plain value -/
theorem foot_upd_val (x : String) (v : PV) : ∀ ρ : Rho, (foot (upd x (.val v) ρ)).Sublist (foot ρ)
  | [] => .slnil
  | (y, s) :: r => by
    unfold upd
    split
    · exact (foot_del_sub x r).trans (List.sublist_append_right _ _)
    · exact (List.Sublist.refl _).append (foot_upd_val x v r)
/-- the footprint behind a store of anything: the new addresses and some of the old -/
theorem foot_upd (x : String) (s : Slot) : ∀ ρ : Rho, ∃ l, (foot (upd x s ρ)).Perm (foot1 s ++ l) ∧ l.Sublist (foot ρ)
  | [] => ⟨[], by simp [upd, foot], .slnil⟩
  | (y, t) :: r => by
    unfold upd
    split
    · exact ⟨_, .refl _, (foot_del_sub x r).trans (List.sublist_append_right _ _)⟩
    · obtain ⟨l, h1, h2⟩ := foot_upd x s r
      refine ⟨foot1 t ++ l, ?_, (List.Sublist.refl _).append h2⟩
      show (foot1 t ++ foot (upd x s r)).Perm _
      refine (h1.append_left _).trans ?_
      rw [← List.append_assoc, ← List.append_assoc]
      exact List.perm_append_comm.append_right _
/-- a slot that keeps its addresses -/
theorem foot_upd_same {x : String} {s s' : Slot} (hs : foot1 s' = foot1 s) : ∀ {ρ : Rho}, get x ρ = some s → ((foot (upd x s' ρ)).Sublist (foot ρ))
  | (y, t) :: r, h => by
    unfold get at h
    unfold upd
    split at h
    · rename_i e
      rw [if_pos e]
      cases h
      show (foot1 s' ++ foot (del x r)).Sublist _
      rw [hs]
      exact (List.Sublist.refl _).append (foot_del_sub x r)
    · rename_i e
      rw [if_neg e]
      exact (List.Sublist.refl _).append (foot_upd_same hs h)
end Mine
set_option Elab.async false
set_option maxRecDepth 10000
set_option linter.unusedVariables false
namespace Mine
open PySem PySem.W PySem.Calls PySem.Spec PyProof.Rows

theorem fget_fset (x y : String) (v : PV) : ∀ fs : Fs, fget y (fset x v fs) = if y = x then some v else fget y fs
  | [] => by
    unfold fset fget
    by_cases h : y = x
    · subst h; simp
    · rw [if_neg h, if_neg (Ne.symm h)]; rfl
  | (z, u) :: r => by
    unfold fset
    by_cases h : z = x
    · rw [if_pos h]
      subst h
      by_cases h' : y = z
      · subst h'; simp [fget]
      · simp [fget, h', Ne.symm h']
    · rw [if_neg h]
      unfold fget
      by_cases h' : z = y
      · rw [if_pos h', if_pos h', if_neg (h' ▸ h)]
      · rw [if_neg h', if_neg h', fget_fset x y v r]
/-! the state of an activation -/
structure Lo where
  env : Env
  lw : List Addr
  κ : PH
  FS : List Addr
  fd : Addr → Data
  ban : Addr → Prop

noncomputable def VarAt (env : Env) (m : Str → Option Value) (h : Heap) (x : Str) (w : Value) : Prop :=
  (env.kindOf x = some .local ∧ m x = some w) ∨
  ((env.kindOf x = some .cell ∨ env.kindOf x = some .free) ∧ ∃ c, env.cells.lookup x = some c ∧ h.IsCell c (some w))

noncomputable def FieldsAre (φ : PH) (es : List DictEntry) (fs : Fs) : Prop :=
  es.length ≤ fs.length ∧ ∀ x : String, (fget x fs = none → getL (Str.ofString x) es = some none) ∧
    ∀ p, fget x fs = some p → ∃ w, getL (Str.ofString x) es = some (some w) ∧ Rep φ p w

noncomputable abbrev excObj (d : Option Addr) (vs : Array Value) : Obj := { cls := .ref 53, dict := d, data := .fields vs }
noncomputable def DictAt (φ : PH) (h : Heap) (fs : Fs) : Option Addr → Prop
  | none => fs = []
  | some d => ∃ es n, h.get? d = some (dictOf es n) ∧ FieldsAre φ es fs
noncomputable def RawF (vs : Array Value) : Prop := ∃ t, vs = #[t, .none, .none, .none, .bool false, .none]

noncomputable def SlotRep (φ : PH) (h : Heap) : Slot → Value → Prop
  | .val v, w => Rep φ v w
  | .own a l, w => w = .ref a ∧ ∃ vs n, h.get? a = some (lobj vs n) ∧ Reps φ l vs
  | .obj C a d fs, w => w = .ref a ∧ h.get? a = some (instObj C d) ∧ ∃ es n, h.get? d = some (dictOf es n) ∧ FieldsAre φ es fs
  | .exc raw a d fs, w => w = .ref a ∧ ∃ vs, h.get? a = some (excObj d vs) ∧ vs.size = 6 ∧ (raw = true → RawF vs) ∧ DictAt φ h fs d

structure St (Y : Lo) (ρ : Rho) (φ : PH) (h : Heap) : Prop where
  kk : ∀ a o, Y.κ a = some o → h.get? a = some o
  ff : ∀ a ∈ Y.FS, ∃ o, h.get? a = some o ∧ o.data = Y.fd a
  fz : ∀ a o, φ a = some o → h.get? a = some o
  fr : ∀ a o, φ a = some o → ¬ Y.ban a
  bz : ∀ a, Y.ban a → ∃ o, h.get? a = some o
  ob : ∀ x a l, (x, Slot.own a l) ∈ ρ → ¬ Y.ban a
  vars : ∃ m, h.Ns Y.env.locals m ∧ ∀ x sl, (x, sl) ∈ ρ → ∃ w, VarAt Y.env m h (Str.ofString x) w ∧ SlotRep φ h sl w
  cells : ∀ x c, Y.env.cells.lookup x = some c → ∃ v, h.IsCell c v
  lws : ∀ a ∈ Y.lw, ∃ o, h.get? a = some o
  apart : (Y.lw ++ foot ρ).Nodup
  off : ∀ a ∈ Y.lw ++ foot ρ, Y.κ a = none ∧ φ a = none ∧ a ∉ Y.FS
  offF : ∀ a ∈ Y.FS, Y.κ a = none ∧ φ a = none

theorem FieldsAre.mono {φ φ' : PH} (h : φ.le φ') {es : List DictEntry} {fs : Fs} (x : FieldsAre φ es fs) : FieldsAre φ' es fs := by
  exact ⟨x.1, fun y => ⟨(x.2 y).1, fun p e => let ⟨w, a, b⟩ := (x.2 y).2 p e; ⟨w, a, Rep.mono h _ _ b⟩⟩⟩
theorem DictAt.mono {φ φ' : PH} {h : Heap} (hl : φ.le φ') {fs : Fs} : ∀ {d : Option Addr}, DictAt φ h fs d → DictAt φ' h fs d
  | none, x => x
  | some _, ⟨es, n, a, b⟩ => ⟨es, n, a, b.mono hl⟩
theorem DictAt.keep {φ : PH} {h h' : Heap} {fs : Fs} : ∀ {d : Option Addr}, (∀ a ∈ d.toList, ∀ o, h.get? a = some o → h'.get? a = some o) → DictAt φ h fs d → DictAt φ h' fs d
  | none, _, x => x
  | some _, k, ⟨es, n, a, b⟩ => ⟨es, n, k _ (.head _) _ a, b⟩
theorem SlotRep.mono {φ φ' : PH} {h : Heap} (hl : φ.le φ') : ∀ {sl : Slot} {w : Value}, SlotRep φ h sl w → SlotRep φ' h sl w
  | .val v, w, x => Rep.mono hl _ _ x
  | .own a l, w, ⟨e, vs, n, a1, a2⟩ => ⟨e, vs, n, a1, Reps.mono hl _ _ a2⟩
  | .obj C a d fs, w, ⟨e, a0, es, n, a1, a2⟩ => ⟨e, a0, es, n, a1, a2.mono hl⟩
  | .exc raw a d fs, w, ⟨e, vs, a0, a1, a2, a3⟩ => ⟨e, vs, a0, a1, a2, a3.mono hl⟩
/-- a slot reads its own objects alone -/
theorem SlotRep.keep {φ : PH} {h h' : Heap} : ∀ {sl : Slot} {w : Value}, (∀ a ∈ foot1 sl, ∀ o, h.get? a = some o → h'.get? a = some o) → SlotRep φ h sl w → SlotRep φ h' sl w
  | .val v, w, _, x => x
  | .own a l, w, k, ⟨e, vs, n, a1, a2⟩ => ⟨e, vs, n, k a (.head _) _ a1, a2⟩
  | .obj C a d fs, w, k, ⟨e, a0, es, n, a1, a2⟩ => ⟨e, k a (.head _) _ a0, es, n, k d (.tail _ (.head _)) _ a1, a2⟩
  | .exc raw a d fs, w, k, ⟨e, vs, a0, a1, a2, a3⟩ => ⟨e, vs, k a (.head _) _ a0, a1, a2, a3.keep fun b hb => k b (.tail _ hb)⟩
theorem VarAt.keep {env : Env} {m : Str → Option Value} {h h' : Heap} {x : Str} {w : Value} (k : ∀ c o, env.cells.lookup x = some c → h.get? c = some o → h'.get? c = some o) (v : VarAt env m h x w) : VarAt env m h' x w :=
  v.imp id fun ⟨a, c, b, o, d, e⟩ => ⟨a, c, b, o, k c o b d, e⟩
theorem SlotRep.live {φ : PH} {h : Heap} : ∀ {sl : Slot} {w : Value}, SlotRep φ h sl w → ∀ a ∈ foot1 sl, ∃ o, h.get? a = some o
  | .own a l, w, ⟨e, vs, n, a1, a2⟩, b, hb => by
    rw [List.mem_singleton.mp hb]; exact ⟨_, a1⟩
  | .obj C a d fs, w, ⟨e, a0, es, n, a1, a2⟩, b, hb => by
    rcases List.mem_cons.mp hb with rfl | hb
    · exact ⟨_, a0⟩
    · rw [List.mem_singleton.mp hb]; exact ⟨_, a1⟩
  | .exc raw a none fs, w, ⟨e, vs, a0, _⟩, b, hb => by
    rw [List.mem_singleton.mp hb]; exact ⟨_, a0⟩
  | .exc raw a (some d) fs, w, ⟨e, vs, a0, _, _, es, n, a1, _⟩, b, hb => by
    rcases List.mem_cons.mp hb with rfl | hb
    · exact ⟨_, a0⟩
    · rw [List.mem_singleton.mp hb]; exact ⟨_, a1⟩

theorem foot_inv {a : Addr} : ∀ {ρ : Rho}, a ∈ foot ρ → ∃ x sl, (x, sl) ∈ ρ ∧ a ∈ foot1 sl
  | (x, sl) :: r, h => by
    rcases List.mem_append.mp h with h | h
    · exact ⟨x, sl, .head _, h⟩
    · obtain ⟨y, t, m, k⟩ := foot_inv h
      exact ⟨y, t, .tail _ m, k⟩

section
variable {Y : Lo} {ρ : Rho} {φ : PH} {h h' : Heap}
theorem St.foot_live (S : St Y ρ φ h) {a : Addr} (ha : a ∈ Y.lw ++ foot ρ) : ∃ o, h.get? a = some o := by
  rcases List.mem_append.mp ha with ha | ha
  · exact S.lws a ha
  · obtain ⟨x, sl, m, k⟩ := foot_inv ha
    obtain ⟨mm, hn, hv⟩ := S.vars
    obtain ⟨w, _, r⟩ := hv x sl m
    exact r.live a k
theorem St.fresh (S : St Y ρ φ h) {a : Addr} (ha : h.get? a = none) : Y.κ a = none ∧ φ a = none ∧ a ∉ Y.FS ∧ a ∉ Y.lw ++ foot ρ ∧ ¬ Y.ban a := by
  refine ⟨?_, ?_, fun hm => ?_, fun hm => ?_, fun hm => ?_⟩
  · cases e : Y.κ a with
    | none => rfl
    | some o => have := S.kk a o e; rw [ha] at this; cases this
  · cases e : φ a with
    | none => rfl
    | some o => have := S.fz a o e; rw [ha] at this; cases this
  · obtain ⟨o, e, _⟩ := S.ff a hm; rw [ha] at e; cases e
  · obtain ⟨o, e⟩ := S.foot_live hm; rw [ha] at e; cases e
  · obtain ⟨o, e⟩ := S.bz a hm; rw [ha] at e; cases e

/-- a heap that keeps all -/
theorem St.keeps (S : St Y ρ φ h) (k : ∀ b o, h.get? b = some o → h'.get? b = some o) : St Y ρ φ h' where
  kk := fun a o e => k _ _ (S.kk a o e)
  ff := fun a m => let ⟨o, e, d⟩ := S.ff a m; ⟨o, k _ _ e, d⟩
  fz := fun a o e => k _ _ (S.fz a o e)
  fr := S.fr
  bz := fun a e => let ⟨o, q⟩ := S.bz a e; ⟨o, k _ _ q⟩
  ob := S.ob
  vars := let ⟨m, hn, hv⟩ := S.vars; ⟨m, hn.keeps k, fun x sl q => let ⟨w, a, b⟩ := hv x sl q; ⟨w, a.keep fun c o _ => k c o, b.keep fun a _ o => k a o⟩⟩
  cells := fun x c e => let ⟨v, q⟩ := S.cells x c e; ⟨v, q.keeps k⟩
  lws := fun a m => let ⟨o, e⟩ := S.lws a m; ⟨o, k _ _ e⟩
  apart := S.apart
  off := S.off
  offF := S.offF
theorem St.push (S : St Y ρ φ h) (o : Obj) : St Y ρ φ (h.push o) := S.keeps (fun _ _ e => Heap.get?_push_of_some o e)

/-- one new address is frozen -/
noncomputable def PH.add (φ : PH) (a : Addr) (o : Obj) : PH := fun b => if b = a then some o else φ b
theorem PH.add_le {φ : PH} {a : Addr} {o : Obj} (h : φ a = none) : φ.le (φ.add a o) := fun b p e => by
  unfold PH.add
  split
  · rename_i q; rw [q, h] at e; cases e
  · exact e
theorem PH.add_self (φ : PH) (a : Addr) (o : Obj) : φ.add a o a = some o := if_pos rfl
theorem St.freeze (S : St Y ρ φ h) {a : Addr} {o : Obj} (ha : h.get? a = some o) (hn : φ a = none) (hw : a ∉ Y.lw ++ foot ρ) (hf : a ∉ Y.FS) (hz : ¬ Y.ban a) : St Y ρ (φ.add a o) h where
  kk := S.kk
  ff := S.ff
  fz := fun b p e => by
    unfold PH.add at e
    split at e
    · rename_i q; subst q; cases e; exact ha
    · exact S.fz b p e
  fr := fun b p e => by
    unfold PH.add at e
    split at e
    · rename_i q; subst q; exact hz
    · exact S.fr b p e
  bz := S.bz
  ob := S.ob
  vars := let ⟨m, hn', hv⟩ := S.vars; ⟨m, hn', fun x sl q => let ⟨w, a1, b⟩ := hv x sl q; ⟨w, a1, b.mono (PH.add_le hn)⟩⟩
  cells := S.cells
  lws := S.lws
  apart := S.apart
  off := fun b hb => by
    refine ⟨(S.off b hb).1, ?_, (S.off b hb).2.2⟩
    unfold PH.add
    rw [if_neg (fun (q : b = a) => hw (q ▸ hb))]
    exact (S.off b hb).2.1
  offF := fun b hb => by
    refine ⟨(S.offF b hb).1, ?_⟩
    unfold PH.add
    rw [if_neg (fun (q : b = a) => hf (q ▸ hb))]
    exact (S.offF b hb).2

/-- a variable's value of a smaller footprint: forget or replace slots -/
theorem St.sub {ρ' : Rho} (S : St Y ρ φ h) (hs : (foot ρ').Sublist (foot ρ)) (hv : ∀ m x sl, h.Ns Y.env.locals m → (∀ x sl, (x, sl) ∈ ρ → ∃ w, VarAt Y.env m h (Str.ofString x) w ∧ SlotRep φ h sl w) → (x, sl) ∈ ρ' → ∃ w, VarAt Y.env m h (Str.ofString x) w ∧ SlotRep φ h sl w) (hb : ∀ x a l, (x, Slot.own a l) ∈ ρ' → ¬ Y.ban a) : St Y ρ' φ h where
  kk := S.kk
  ff := S.ff
  fz := S.fz
  fr := S.fr
  bz := S.bz
  ob := hb
  vars := let ⟨m, hn, v⟩ := S.vars; ⟨m, hn, fun x sl q => hv m x sl hn v q⟩
  cells := S.cells
  lws := S.lws
  apart := S.apart.sublist ((List.Sublist.refl _).append hs)
  off := fun a ha => S.off a (((List.Sublist.refl _).append hs).subset ha)
  offF := S.offF
end

theorem foot_upd_off {x : String} {sl : Slot} {v : PV} {a : Addr} : ∀ {ρ : Rho}, get x ρ = some sl → a ∈ foot1 sl → (foot ρ).Nodup → a ∉ foot (upd x (.val v) ρ)
  | (y, t) :: r, hg, ha, hn => by
    unfold get at hg
    unfold upd
    have hn' := List.nodup_append.mp (show (foot1 t ++ foot r).Nodup from hn)
    split at hg
    · rename_i e
      cases hg
      rw [if_pos e]
      intro hm
      exact hn'.2.2 a ha a ((foot_del_sub x r).subset hm) rfl
    · rename_i e
      rw [if_neg e]
      intro hm
      rcases List.mem_append.mp (show a ∈ foot1 t ++ foot (upd x (.val v) r) from hm) with hm | hm
      · exact hn'.2.2 a hm a (foot_mem (mem_of_get hg) ha) rfl
      · exact foot_upd_off hg ha hn'.2.1 hm

theorem foot_del_upd (x : String) (v : PV) : ∀ ρ : Rho, (foot (del x ρ)).Sublist (foot (upd x (.val v) ρ))
  | [] => .slnil
  | (y, t) :: r => by
    unfold del upd
    split
    · exact List.Sublist.refl _
    · exact (List.Sublist.refl _).append (foot_del_upd x v r)
theorem foot_upd_del (x : String) (v : PV) : ∀ ρ : Rho, (foot (upd x (.val v) ρ)).Sublist (foot (del x ρ))
  | [] => .slnil
  | (y, t) :: r => by
    unfold del upd
    split
    · exact List.Sublist.refl _
    · exact (List.Sublist.refl _).append (foot_upd_del x v r)
theorem mem_del_of {x y : String} {s : Slot} (h : y ≠ x) : ∀ {ρ : Rho}, (y, s) ∈ ρ → (y, s) ∈ del x ρ
  | (z, t) :: r, m => by
    unfold del
    rcases List.mem_cons.mp m with e | m
    · cases e
      rw [if_neg h]
      exact .head _
    · split
      · exact mem_del_of h m
      · exact .tail _ (mem_del_of h m)
theorem Ns_unique {h : Heap} {a : Addr} {m m' : Str → Option Value} (x : h.Ns a m) (y : h.Ns a m') : m = m' := by
  obtain ⟨o, es, ep, e, d, _, f⟩ := x
  obtain ⟨o', es', ep', e', d', _, f'⟩ := y
  rw [e] at e'
  cases e'
  rw [d] at d'
  cases d'
  funext n
  rw [← f n, ← f' n]

theorem ofString_inj {a b : String} (h : Str.ofString a = Str.ofString b) : a = b := by
  rw [Str.ofString_eq_toList, Str.ofString_eq_toList] at h
  have h1 : a.toList.map Char.toNat = b.toList.map Char.toNat := by simpa using h
  have inj : ∀ l m : List Char, l.map Char.toNat = m.map Char.toNat → l = m := by
    intro l
    induction l with
    | nil => intro m e; cases m with
      | nil => rfl
      | cons _ _ => cases e
    | cons c r ih =>
      intro m e
      cases m with
      | nil => cases e
      | cons d t =>
        simp only [List.map_cons, List.cons.injEq] at e
        rw [ih t e.2, show c = d from Char.ext (UInt32.toNat_inj.mp e.1)]
  have h2 := inj _ _ h1
  rw [← String.ofList_toList (s := a), ← String.ofList_toList (s := b), h2]
end Mine
set_option Elab.async false
set_option maxRecDepth 10000
set_option linter.unusedVariables false
namespace Mine
open PySem PySem.W PySem.Calls PySem.Spec PyProof.Rows

section
variable {Y : Lo} {ρ : Rho} {φ : PH} {h h' : Heap}
theorem St.alter (S : St Y ρ φ h) {a₀ : Addr} (hs : Heap.SameBut a₀ h h') (hw : a₀ ∈ Y.lw ++ foot ρ) (hex : ∃ o, h'.get? a₀ = some o) {ρ' : Rho}
    (hv : ∃ m, h'.Ns Y.env.locals m ∧ ∀ x sl, (x, sl) ∈ ρ' → ∃ w, VarAt Y.env m h' (Str.ofString x) w ∧ SlotRep φ h' sl w)
    (hc : ∀ x c, Y.env.cells.lookup x = some c → ∃ v, h'.IsCell c v)
    (hp : (Y.lw ++ foot ρ').Nodup) (ho : ∀ a ∈ foot ρ', Y.κ a = none ∧ φ a = none ∧ a ∉ Y.FS) (hb : ∀ x a l, (x, Slot.own a l) ∈ ρ' → ¬ Y.ban a) : St Y ρ' φ h' where
  kk := fun a o e => (hs.2 a fun q => by rw [q, (S.off a₀ hw).1] at e; cases e).trans (S.kk a o e)
  ff := fun a m => let ⟨o, e, d⟩ := S.ff a m; ⟨o, (hs.2 a fun q => (S.off a₀ hw).2.2 (q ▸ m)).trans e, d⟩
  fz := fun a o e => (hs.2 a fun q => by rw [q, (S.off a₀ hw).2.1] at e; cases e).trans (S.fz a o e)
  fr := S.fr
  bz := fun a e => by
    by_cases q : a = a₀
    · rw [q]; exact hex
    · obtain ⟨o, z⟩ := S.bz a e; exact ⟨o, (hs.2 a q).trans z⟩
  ob := hb
  vars := hv
  cells := hc
  lws := fun a m => by
    by_cases q : a = a₀
    · rw [q]; exact hex
    · obtain ⟨o, e⟩ := S.lws a m; exact ⟨o, (hs.2 a q).trans e⟩
  apart := hp
  off := fun a ha => (List.mem_append.mp ha).elim (fun hm => S.off a (List.mem_append_left _ hm)) (ho a)
  offF := S.offF

theorem cell_ne_ns {c : Addr} {v : Option Value} {a : Addr} {m : Str → Option Value} (x : h.IsCell c v) (y : h.Ns a m) : c ≠ a := by
  rintro rfl
  obtain ⟨o, e, d⟩ := x
  obtain ⟨o', es, ep, e', d', _⟩ := y
  rw [e] at e'
  cases e'
  rw [d] at d'; cases d'

/-- a name is stored: what stands for it lies apart from all that can be written -/
theorem store_rule {M : Model} {A : Around} {E : Value → Shared → Prop} {s : Shared} {x : String} {sl : Slot} {w : Value} {Q : Unit → Shared → Prop} (S : St Y ρ φ s.heap)
    (hfk : Y.env.scope.kind = .function) (hci : ∀ x y c, Y.env.cells.lookup x = some c → Y.env.cells.lookup y = some c → x = y)
    (hkind : (Y.env.kindOf (Str.ofString x) = some .local ∧ Y.env.locals ∈ Y.lw) ∨ (Y.env.kindOf (Str.ofString x) = some .cell ∧ ∃ c, Y.env.cells.lookup (Str.ofString x) = some c ∧ c ∈ Y.lw))
    (hr : SlotRep φ s.heap sl w) (hp : (Y.lw ++ foot (upd x sl ρ)).Nodup) (ho : ∀ a ∈ foot1 sl, Y.κ a = none ∧ φ a = none ∧ a ∉ Y.FS) (hb : ∀ a l, sl = .own a l → ¬ Y.ban a)
    (h : ∀ h' tk, St Y (upd x sl ρ) φ h' → Q () { s with heap := h', toks := tk }) : wpAny M A (storeName Y.env (Str.ofString x) w) Q E s := by
  obtain ⟨m, hn, hv⟩ := S.vars
  have off' : ∀ a ∈ foot (upd x sl ρ), Y.κ a = none ∧ φ a = none ∧ a ∉ Y.FS := fun a ha => by
    obtain ⟨y, t, hm, hf⟩ := foot_inv ha
    rcases mem_upd hm with ⟨_, rfl⟩ | ⟨_, hm⟩
    · exact ho a hf
    · exact S.off a (List.mem_append_right _ (foot_mem hm hf))
  have hp' := List.nodup_append.mp hp
  have hb' : ∀ y a l, (y, Slot.own a l) ∈ upd x sl ρ → ¬ Y.ban a := fun y a l hm => by
    rcases mem_upd hm with ⟨_, e⟩ | ⟨_, hm⟩
    · exact hb a l e.symm
    · exact S.ob y a l hm
  -- the slots lie off the address that is written
  have offl : ∀ {a₀ : Addr}, a₀ ∈ Y.lw → ∀ {h' : Heap}, Heap.SameBut a₀ s.heap h' → ∀ y t v, (y, t) ∈ upd x sl ρ → SlotRep φ s.heap t v → SlotRep φ h' t v := fun {a₀} hl {h'} hs y t v hm hrep =>
    hrep.keep fun a ha o e => (hs.2 a fun q => hp'.2.2 a₀ hl a (foot_mem hm ha) q.symm).trans e
  rcases hkind with ⟨hk, hl⟩ | ⟨hk, c, hc, hl⟩
  · refine wpAny_storeName_local hk hn (fun h' hn' hs => h h' _ (S.alter hs (List.mem_append_left _ hl) (let ⟨o, _, _, e, _⟩ := hn'; ⟨o, e⟩) ⟨_, hn', fun y t hm => ?_⟩ (fun y c e => ?_) hp off' hb')) (by rw [hfk]; rfl)
    · rcases mem_upd hm with ⟨rfl, rfl⟩ | ⟨ne, hm'⟩
      · exact ⟨w, .inl ⟨hk, if_pos rfl⟩, offl hl hs _ _ _ hm hr⟩
      · obtain ⟨v, a, b⟩ := hv y t hm'
        refine ⟨v, ?_, offl hl hs _ _ _ hm b⟩
        rcases a with ⟨a1, a2⟩ | ⟨a1, c, a2, a3⟩
        · exact .inl ⟨a1, by show (if Str.ofString y = Str.ofString x then some w else m (Str.ofString y)) = some v; rw [if_neg fun q => ne (ofString_inj q)]; exact a2⟩
        · exact .inr ⟨a1, c, a2, a3.sameBut hs (cell_ne_ns a3 hn)⟩
    · obtain ⟨v, q⟩ := S.cells y c e
      exact ⟨v, q.sameBut hs (cell_ne_ns q hn)⟩
  · obtain ⟨v₀, hv₀⟩ := S.cells _ c hc
    refine wpAny_storeName_cell hfk hk hc hv₀ fun h' hc' hs => ?_
    refine h h' _ (S.alter hs (List.mem_append_left _ hl) (let ⟨o, e, _⟩ := hc'; ⟨o, e⟩) ⟨m, hn.sameBut hs (Ne.symm (cell_ne_ns hv₀ hn)), fun y t hm => ?_⟩ (fun y c' e => ?_) hp off' hb')
    · rcases mem_upd hm with ⟨rfl, rfl⟩ | ⟨ne, hm'⟩
      · exact ⟨w, .inr ⟨.inl hk, c, hc, hc'⟩, offl hl hs _ _ _ hm hr⟩
      · obtain ⟨v, a, b⟩ := hv y t hm'
        refine ⟨v, ?_, offl hl hs _ _ _ hm b⟩
        rcases a with ⟨a1, a2⟩ | ⟨a1, c', a2, a3⟩
        · exact .inl ⟨a1, a2⟩
        · exact .inr ⟨a1, c', a2, a3.sameBut hs fun q => ne (ofString_inj (hci _ _ _ a2 (q ▸ hc)))⟩
    · by_cases q : c' = c
      · exact ⟨some w, q ▸ hc'⟩
      · obtain ⟨v, z⟩ := S.cells y c' e
        exact ⟨v, z.sameBut hs q⟩
end

/-! the law's world, an activation, what it may lean on -/
structure Gx where
  prog : Program
  w : World
  p : Program
  loose : List Str
  mean : ExcName → Option Value
  mg : Str → Option Value
  mb : Str → Option Value
  K : Frag
  hB : Heap
  kin : K.In hB
  top : Top p loose mean mg mb hB

structure Va where
  A : Around
  env : Env
  lw : List Addr
  st : Bool
  d : Nat
  im : Bool := false
  hm : Bool := false
  hd : Option Addr := none

structure Frs (Γ : Gx) (V : Va) (FS : List Addr) (fd : Addr → Data) (outer : List Env) : Prop where
  fr : V.A.frames = some (V.env :: outer)
  own : V.env.frame = some V.env.locals
  new : Γ.hB.get? V.env.locals = none
  st : V.st = true
  FS : FS = outer.filterMap (·.frame)
  out : ∀ env ∈ outer, env.scope.kind ≠ .module ∧ ∃ L, env.frame = some L ∧ Γ.hB.get? L = none ∧ ∀ vs, fd L ≠ .fields vs

structure Ok (Γ : Gx) (V : Va) (Y : Lo) : Prop where
  ee : Y.env = V.env
  ll : Y.lw = V.lw
  gb : ∀ a o, Γ.hB.get? a = some o → Y.κ a = some o
  fk : V.env.scope.kind = .function
  glb : V.env.globals = mainGlobals
  bns : V.env.builtins = builtinsNs
  hh : V.hm = false → V.A.handled = none
  dep : V.A.depth + V.d ≤ 700
  uni : V.A.units + 10 * V.d ≤ 5000
  ci : ∀ x y c, V.env.cells.lookup x = some c → V.env.cells.lookup y = some c → x = y
  wr : V.st = true → V.env.locals ∈ V.lw ∧ ∀ x c, V.env.cells.lookup x = some c → c ∈ V.lw ∨ (V.env.kindOf x = some .free ∧ ∃ o, Y.κ c = some o)
  hx : ∀ e, V.hd = some e → V.A.handled = some (.ref e) ∧ ∃ o vs, Y.κ e = some o ∧ o.data = .fields vs ∧ vs[2]? = some .none
  fx : V.im = true → ∃ outer, Frs Γ V Y.FS Y.fd outer

/-- exceptions that may pass -/
inductive Exn where
  | pat (msg : List Nat) (pattern : PV) (pos : Int)
/-- an address that the state does not speak of -/
structure Off (Y : Lo) (ρ : Rho) (φ : PH) (I : Addr) : Prop where
  κ : Y.κ I = none
  φ : φ I = none
  FS : I ∉ Y.FS
  foot : I ∉ Y.lw ++ foot ρ
  loc : I ≠ Y.env.locals
  cells : ∀ x c, Y.env.cells.lookup x = some c → c ≠ I
  ban : ¬ Y.ban I
noncomputable def patFs (msg : List Nat) (pat : PV) (pos : Int) (ln cn : PV) : Fs := [("msg", .str msg), ("pattern", pat), ("pos", .int pos), ("lineno", ln), ("colno", cn)]
/-- an exception of the class at 53, its dict, its newest entry of the trace -/
structure FlyAt (h : Heap) (φ : PH) (x : Exn) (e d : Addr) (T : Option Addr) : Prop where
  ne : e ≠ d
  neT : ∀ t ∈ T, t ≠ e ∧ t ≠ d
  obj : ∃ vs, h.get? e = some (excObj (some d) vs) ∧ vs.size = 6 ∧ vs[1]? = some (T.elim .none .ref)
  tb : ∀ t ∈ T, ∃ oT ts, h.get? t = some oT ∧ oT.data = .fields ts ∧ ts[3]? = some .none
  dict : ∃ es n ln cn, h.get? d = some (dictOf es n) ∧ (match x with | .pat m p i => FieldsAre φ es (patFs m p i ln cn))
noncomputable def ExnAt (Y : Lo) (ρ : Rho) (φ : PH) (x : Exn) (e : Value) (s : Shared) : Prop :=
  ∃ a d T, e = .ref a ∧ FlyAt s.heap φ x a d T ∧ Off Y ρ φ a ∧ Off Y ρ φ d ∧ ∀ t ∈ T, Off Y ρ φ t

noncomputable def Nx (Y : Lo) (φ : PH) (ρ' : Rho) (φ' : PH) (s s' : Shared) : Prop := (∃ h' tk, s' = { s with heap := h', toks := tk }) ∧ φ.le φ' ∧ St Y ρ' φ' s'.heap

theorem Nx.trans {Y : Lo} {φ φ₁ φ₂ : PH} {ρ₁ ρ₂ : Rho} {s s₁ s₂ : Shared} (x : Nx Y φ ρ₁ φ₁ s s₁) (y : Nx Y φ₁ ρ₂ φ₂ s₁ s₂) : Nx Y φ ρ₂ φ₂ s s₂ := by
  obtain ⟨⟨h', tk, rfl⟩, l, _⟩ := x
  obtain ⟨⟨h'', tk', rfl⟩, l', S⟩ := y
  exact ⟨⟨h'', tk', rfl⟩, l.trans l', S⟩
theorem Nx.of {Y : Lo} {φ : PH} {ρ : Rho} {s : Shared} (S : St Y ρ φ s.heap) (tk : Nat) : Nx Y φ ρ φ s { s with toks := tk } := ⟨⟨s.heap, tk, rfl⟩, .refl _, S⟩
theorem Nx.refl {Y : Lo} {φ : PH} {ρ : Rho} {s : Shared} (S : St Y ρ φ s.heap) : Nx Y φ ρ φ s s := ⟨⟨s.heap, s.toks, rfl⟩, .refl _, S⟩

structure PostE (Y : Lo) (φ : PH) (s : Shared) (P : PV → Rho → Prop) (X : Exn → Rho → Prop) (Q E : Value → Shared → Prop) : Prop where
  ok : ∀ v val ρ' φ' s', P v ρ' → Rep φ' v val → Nx Y φ ρ' φ' s s' → Q val s'
  er : ∀ x e ρ' φ' s', X x ρ' → ExnAt Y ρ' φ' x e s' → Nx Y φ ρ' φ' s s' → E e s'

noncomputable def Ev (Γ : Gx) (V : Va) (ρ : Rho) (e : Expr) (P : PV → Rho → Prop) (X : Exn → Rho → Prop) : Prop :=
  ∀ Y, Ok Γ V Y → ∀ φ s Q E, St Y ρ φ s.heap → PostE Y φ s P X Q E → wpAny (model Γ.prog Γ.w) V.A (eval e V.env) Q E s

structure PostT (Y : Lo) (φ : PH) (s : Shared) (P : Bool → Rho → Prop) (X : Exn → Rho → Prop) (Q : Bool → Shared → Prop) (E : Value → Shared → Prop) : Prop where
  ok : ∀ b ρ' φ' s', P b ρ' → Nx Y φ ρ' φ' s s' → Q b s'
  er : ∀ x e ρ' φ' s', X x ρ' → ExnAt Y ρ' φ' x e s' → Nx Y φ ρ' φ' s s' → E e s'

noncomputable def Et (Γ : Gx) (V : Va) (ρ : Rho) (e : Expr) (P : Bool → Rho → Prop) (X : Exn → Rho → Prop) : Prop :=
  ∀ Y, Ok Γ V Y → ∀ φ s Q E, St Y ρ φ s.heap → PostT Y φ s P X Q E → wpAny (model Γ.prog Γ.w) V.A (isTrue e V.env (eval e V.env)) Q E s

/-- an expression that makes a list that nothing else holds -/
structure PostN (Y : Lo) (φ : PH) (s : Shared) (P : List PV → Rho → Prop) (X : Exn → Rho → Prop) (Q E : Value → Shared → Prop) : Prop where
  ok : ∀ l a vs n ρ' φ' s', P l ρ' → Nx Y φ ρ' φ' s s' → s'.heap.get? a = some (lobj vs n) → Reps φ' l vs → Y.κ a = none → φ' a = none → a ∉ Y.FS → a ∉ Y.lw ++ foot ρ' → ¬ Y.ban a → Q (.ref a) s'
  er : ∀ x e ρ' φ' s', X x ρ' → ExnAt Y ρ' φ' x e s' → Nx Y φ ρ' φ' s s' → E e s'
noncomputable def En (Γ : Gx) (V : Va) (ρ : Rho) (e : Expr) (P : List PV → Rho → Prop) (X : Exn → Rho → Prop) : Prop :=
  ∀ Y, Ok Γ V Y → ∀ φ s Q E, St Y ρ φ s.heap → PostN Y φ s P X Q E → wpAny (model Γ.prog Γ.w) V.A (eval e V.env) Q E s

inductive Out where
  | next (ρ : Rho) | ret (v : PV) (ρ : Rho) | brk (ρ : Rho) | cont (ρ : Rho)

/-- what may be left at the end of a block holds whatever note of this frame lies between -/
noncomputable def PassesAll (M : Model) (A : Around) (env : Env) (E : Value → Shared → Prop) : Prop := ∀ A' A'', SameStack A' A → PassesOwnAt M A' A'' env E
theorem PassesAll.own {M : Model} {A : Around} {env : Env} {E : Value → Shared → Prop} (h : PassesAll M A env E) : PassesOwn M A env E := h A A (SameStack.refl A)
theorem PassesAll.never {M : Model} {A : Around} {env : Env} : PassesAll M A env (fun _ _ => False) := fun _ _ _ => PassesOwnAt.never
theorem PassesAll.leaving {M : Model} {A : Around} {env : Env} {Q₁ : Value → Shared → Prop} {E₁ : Value → Shared → Prop} : PassesAll M A env (fun e s' => wpAny M A (leaving env e) (fun _ s'' => Q₁ e s'') E₁ s') := fun _ _ h => PassesOwnAt.leavingOf h
theorem PassesAll.looking {M : Model} {A : Around} {env : Env} {K : Value → Shared → Prop} {E₁ : Value → Shared → Prop} : PassesAll M A env (fun e s' => wpAny M A (noteFrame e env) (fun _ s'' => K e s'') E₁ s') := fun _ _ h => PassesOwnAt.lookingOf h
theorem PassesAll.mark {M : Model} {A : Around} {env : Env} {E : Value → Shared → Prop} (h : PassesAll M A env E) (hd : Option Value) : PassesAll M (A.mark hd) env E := fun A' A'' hs => h A' A'' fun Γ' hΓ => by
  obtain ⟨Γ₁, a, b, c⟩ := hs Γ' hΓ
  obtain ⟨Γ₂, a', b', c'⟩ := SameStack.mark A hd Γ₁ a
  exact ⟨Γ₂, a', b'.trans b, c'.trans c⟩

structure PostS (Y : Lo) (φ : PH) (s : Shared) (P : Out → Prop) (X : Exn → Rho → Prop) (Q : Flow → Shared → Prop) (E : Value → Shared → Prop) : Prop where
  nx : ∀ ρ' φ' s', P (.next ρ') → Nx Y φ ρ' φ' s s' → Q .next s'
  bk : ∀ ρ' φ' s', P (.brk ρ') → Nx Y φ ρ' φ' s s' → Q .brk s'
  ct : ∀ ρ' φ' s', P (.cont ρ') → Nx Y φ ρ' φ' s s' → Q .cont s'
  rt : ∀ v val ρ' φ' s', P (.ret v ρ') → Rep φ' v val → Nx Y φ ρ' φ' s s' → Q (.ret val) s'
  er : ∀ x e ρ' φ' s', X x ρ' → ExnAt Y ρ' φ' x e s' → Nx Y φ ρ' φ' s s' → E e s'

noncomputable def Ex (Γ : Gx) (V : Va) (ρ : Rho) (ss : List Stmt) (P : Out → Prop) (X : Exn → Rho → Prop) : Prop :=
  ∀ Y, Ok Γ V Y → ∀ φ s Q E, PassesAll (model Γ.prog Γ.w) V.A V.env E → St Y ρ φ s.heap → PostS Y φ s P X Q E → wpAny (model Γ.prog Γ.w) V.A (execs ss V.env) Q E s
noncomputable def E1 (Γ : Gx) (V : Va) (ρ : Rho) (st : Stmt) (P : Out → Prop) (X : Exn → Rho → Prop) : Prop :=
  ∀ Y, Ok Γ V Y → ∀ φ s Q E, PassesAll (model Γ.prog Γ.w) V.A V.env E → St Y ρ φ s.heap → PostS Y φ s P X Q E → wpAny (model Γ.prog Γ.w) V.A (exec st V.env) Q E s

noncomputable def nothing : Exn → Rho → Prop := fun _ _ => False

section
variable {Γ : Gx} {V : Va} {ρ : Rho} {X : Exn → Rho → Prop}

theorem PostE.after {Y : Lo} {φ φ₁ : PH} {ρ₁ : Rho} {s s₁ : Shared} {P : PV → Rho → Prop} {Q E : Value → Shared → Prop} (p : PostE Y φ s P X Q E) (n : Nx Y φ ρ₁ φ₁ s s₁) : PostE Y φ₁ s₁ P X Q E :=
  ⟨fun v val ρ' φ' s' a b c => p.ok v val ρ' φ' s' a b (n.trans c), fun x e ρ' φ' s' a b c => p.er x e ρ' φ' s' a b (n.trans c)⟩
theorem PostS.after {Y : Lo} {φ φ₁ : PH} {ρ₁ : Rho} {s s₁ : Shared} {P : Out → Prop} {Q : Flow → Shared → Prop} {E : Value → Shared → Prop} (p : PostS Y φ s P X Q E) (n : Nx Y φ ρ₁ φ₁ s s₁) : PostS Y φ₁ s₁ P X Q E :=
  ⟨fun ρ' φ' s' a c => p.nx ρ' φ' s' a (n.trans c), fun ρ' φ' s' a c => p.bk ρ' φ' s' a (n.trans c), fun ρ' φ' s' a c => p.ct ρ' φ' s' a (n.trans c),
    fun v val ρ' φ' s' a b c => p.rt v val ρ' φ' s' a b (n.trans c), fun x e ρ' φ' s' a b c => p.er x e ρ' φ' s' a b (n.trans c)⟩

/-- sequences -/
theorem ex_nil {P : Out → Prop} (h : P (.next ρ)) : Ex Γ V ρ [] P X := fun Y ok φ s Q E hE S p => wpAny_execs_nil (p.nx ρ φ s h (.refl S))
theorem ex_cons {st : Stmt} {rest : List Stmt} {P : Out → Prop} (h : E1 Γ V ρ st (fun o => match o with | .next ρ' => Ex Γ V ρ' rest P X | o => P o) X) : Ex Γ V ρ (st :: rest) P X := fun Y ok φ s Q E hE S p =>
  wpAny_execs_cons (h Y ok φ s _ E hE S ⟨fun ρ' φ' s' a n => a Y ok φ' s' Q E hE n.2.2 (p.after n), fun ρ' φ' s' a n => p.bk ρ' φ' s' a n, fun ρ' φ' s' a n => p.ct ρ' φ' s' a n,
    fun v val ρ' φ' s' a b n => p.rt v val ρ' φ' s' a b n, p.er⟩)
theorem ex_last {st : Stmt} {P : Out → Prop} (h : E1 Γ V ρ st P X) : Ex Γ V ρ [st] P X :=
  ex_cons (fun Y ok φ s Q E hE S p => h Y ok φ s Q E hE S ⟨fun ρ' φ' s' a n => p.nx ρ' φ' s' (ex_nil a) n, p.bk, p.ct, p.rt, p.er⟩)

theorem ev_mono {e : Expr} {P P' : PV → Rho → Prop} (h : Ev Γ V ρ e P X) (hp : ∀ v ρ', P v ρ' → P' v ρ') : Ev Γ V ρ e P' X := fun Y ok φ s Q E S p => h Y ok φ s Q E S ⟨fun v val ρ' φ' s' a => p.ok v val ρ' φ' s' (hp _ _ a), p.er⟩
theorem ex_mono {ss : List Stmt} {P P' : Out → Prop} (h : Ex Γ V ρ ss P X) (hp : ∀ o, P o → P' o) : Ex Γ V ρ ss P' X := fun Y ok φ s Q E hE S p => h Y ok φ s Q E hE S
  ⟨fun ρ' φ' s' a => p.nx ρ' φ' s' (hp _ a), fun ρ' φ' s' a => p.bk ρ' φ' s' (hp _ a), fun ρ' φ' s' a => p.ct ρ' φ' s' (hp _ a), fun v val ρ' φ' s' a => p.rt v val ρ' φ' s' (hp _ a), p.er⟩

/-- literals -/
theorem ev_int {i : Int} {k : Nat} {pos : Pos} {P : PV → Rho → Prop} (h : P (.int i) ρ) : Ev Γ V ρ (.Constant (.int i) k pos) P X := fun Y ok φ s Q E S p =>
  wpAny_Constant_int (p.ok _ _ ρ φ _ h ⟨_, rfl⟩ (.of S _))
theorem ev_str {x : Str} {k : Nat} {pos : Pos} {P : PV → Rho → Prop} (h : P (.str x.cps.toList) ρ) : Ev Γ V ρ (.Constant (.str x) k pos) P X := fun Y ok φ s Q E S p =>
  Constant_str (p.ok _ _ ρ φ _ h ⟨_, rfl⟩ (.of S _))
theorem ev_bool {b : Bool} {k : Nat} {pos : Pos} {P : PV → Rho → Prop} (h : P (.bool b) ρ) : Ev Γ V ρ (.Constant (.bool b) k pos) P X := fun Y ok φ s Q E S p => by
  rw [eval_Constant]
  exact wpAny_pure (p.ok _ _ ρ φ _ h rfl (.refl S))
theorem ev_none {k : Nat} {pos : Pos} {P : PV → Rho → Prop} (h : P .none ρ) : Ev Γ V ρ (.Constant .none k pos) P X := fun Y ok φ s Q E S p => by
  rw [eval_Constant]
  exact wpAny_pure (p.ok _ _ ρ φ _ h rfl (.refl S))

/-- a variable that is read -/
theorem load_rule {M : Model} {A : Around} {E : Value → Shared → Prop} {s : Shared} {env : Env} {m : Str → Option Value} {x : Str} {w : Value} {Q : Value → Shared → Prop} (hfk : env.scope.kind = .function) (hn : s.heap.Ns env.locals m) (hv : VarAt env m s.heap x w) (h : Q w s)
    (hcd : (x == ("__classdict__" : Str)) = false) : wpAny M A (loadName env x) Q E s := by
  rcases hv with ⟨hk, e⟩ | ⟨hk | hk, c, hc, hcell⟩
  · exact wpAny_loadName_local hfk hk hn e h
  · exact wpAny_loadName_cell hfk hk hc hcell h
  · exact wpAny_loadName_free hfk hk hc hcell h hcd
noncomputable def plainName (x : String) : Bool := !(Str.ofString x == ("__classdict__" : Str)) && !(Str.ofString x == ("__debug__" : Str))
theorem plainName_of {x : String} (h : plainName x = true) : (Str.ofString x == ("__classdict__" : Str)) = false ∧ (Str.ofString x == ("__debug__" : Str)) = false := by
  unfold plainName at h
  simpa using h
theorem ev_name {x : String} {v : PV} {pos : Pos} {P : PV → Rho → Prop} (hg : get x ρ = some (.val v)) (h : P v ρ) (hd : plainName x = true := by decide +kernel) : Ev Γ V ρ (.Name (Str.ofString x) pos) P X := fun Y ok φ s Q E S p => by
  obtain ⟨m, hn, hv⟩ := S.vars
  obtain ⟨w, a, b⟩ := hv x _ (mem_of_get hg)
  rw [ok.ee] at hn a
  exact wpAny_Name (load_rule ok.fk hn a (p.ok v w ρ φ s h b (.refl S)) (plainName_of hd).1) (plainName_of hd).2
end
end Mine
set_option Elab.async false
set_option maxRecDepth 10000
set_option linter.unusedVariables false
namespace Mine
open PySem PySem.W PySem.Calls PySem.Spec PyProof.Rows

/-! flat operations -/
noncomputable def rep (a : List Nat) (n : Nat) : List Nat := (List.replicate n a).flatten

noncomputable def BinII (op : Operator) (i j : Int) (P : PV → Prop) : Prop := match op with
  | .Add => P (.int (i + j))
  | .Sub => P (.int (i - j))
  | .Mult => (-(2 ^ 63) ≤ i ∧ i < 2 ^ 63) ∧ P (.int (i * j))
  | .FloorDiv => (0 < j ∧ j < 1073741824) ∧ P (.int (i / j))
  | .Mod => 0 < j ∧ P (.int (i % j))
  | .Pow => (2 ≤ i ∧ i ≤ 10 ∧ 0 ≤ j ∧ j ≤ 64) ∧ P (.int (i ^ j.toNat))
  | _ => False
noncomputable def BinSS (op : Operator) (a b : List Nat) (P : PV → Prop) : Prop := match op with
  | .Add => a.length + b.length ≤ 1000000 ∧ P (.str (a ++ b))
  | _ => False
noncomputable def BinSI (op : Operator) (a : List Nat) (n : Int) (P : PV → Prop) : Prop := match op with
  | .Mult => (0 ≤ n ∧ n ≤ 1000000 ∧ a.length * n.toNat ≤ 1000000) ∧ P (.str (rep a n.toNat))
  | _ => False
noncomputable def Bin (op : Operator) (x y : PV) (P : PV → Prop) : Prop := match x with
  | .int i => (match y with
    | .int j => BinII op i j P
    | _ => False)
  | .str a => (match y with
    | .str b => BinSS op a b P
    | .int n => BinSI op a n P
    | _ => False)
  | _ => False

theorem flat_fold (l : List (Array Nat)) (acc : Array Nat) : l.foldl (· ++ ·) acc = acc ++ (l.map Array.toList).flatten.toArray := by
  induction l generalizing acc with
  | nil => simp
  | cons a r ih => rw [List.foldl_cons, ih]; apply Array.ext'; simp

theorem txt_mul (a : List Nat) (n : Int) (h0 : 0 ≤ n) : Txt.mul ⟨a.toArray⟩ n = ⟨(rep a n.toNat).toArray⟩ := by
  unfold Txt.mul
  by_cases h1 : n < 1
  · rw [if_pos h1]
    have : n = 0 := by omega
    subst this
    rfl
  · rw [if_neg h1]
    by_cases h2 : n = 1
    · subst h2
      simp [rep]
    · by_cases h3 : a = []
      · subst h3
        simp [rep, Str.length]
      · have hn : (n == 1 || (⟨a.toArray⟩ : Str).length == 0) = false := by simp [h2, Str.length, h3]
        rw [hn]
        simp only [Bool.false_eq_true, if_false]
        rw [flat_fold]
        unfold rep
        simp
theorem line_is : sizeLine = 16777216 := by decide
theorem tooLong_no {n : Nat} (h : n ≤ 1000000) : Builtin.Str.tooLong n = false := by
  unfold Builtin.Str.tooLong
  exact decide_eq_false (by rw [line_is]; omega)
theorem beq_dec {α : Type} [BEq α] [LawfulBEq α] [DecidableEq α] (a b : α) : (a == b) = decide (a = b) := by
  by_cases h : a = b
  · subst h; simp
  · rw [decide_eq_false h]; exact beq_false_of_ne h
theorem bne_dec {α : Type} [BEq α] [LawfulBEq α] [DecidableEq α] (a b : α) : (a != b) = decide (a ≠ b) := by
  rw [bne, beq_dec]; simp
theorem str_add (a b : List Nat) : (⟨a.toArray⟩ : Str) ++ ⟨b.toArray⟩ = ⟨(a ++ b).toArray⟩ := by
  show Str.append _ _ = _
  simp [Str.append]

section
variable {prog : Program} {w : World} {A : Around} {E : Value → Shared → Prop} {s : Shared} {Q : Value → Shared → Prop}
theorem intBits_small {a : Int} (h : 2 ≤ a ∧ a ≤ 10) : Builtin.Int.intBits a ≤ 4 := by
  obtain ⟨h1, h2⟩ := h
  have : a = 2 ∨ a = 3 ∨ a = 4 ∨ a = 5 ∨ a = 6 ∨ a = 7 ∨ a = 8 ∨ a = 9 ∨ a = 10 := by omega
  rcases this with h | h | h | h | h | h | h | h | h <;> subst h <;> decide +kernel
theorem bin_sound {op : Operator} {x y : PV} {φ : PH} {vx vy : Value} {P : PV → Prop} (hh : A.handled = none ∨ (op ≠ .Mod ∧ op ≠ .FloorDiv)) (hb : Bin op x y P) (hx : Rep φ x vx) (hy : Rep φ y vy)
    (h : ∀ z v tk, P z → Rep φ z v → Q v { s with toks := tk }) : wpAny (model prog w) A (binaryOp op vx vy) Q E s := by
  cases x with
  | int i =>
    cases y with
    | int j =>
      obtain ⟨t, rfl⟩ := hx; obtain ⟨u, rfl⟩ := hy
      cases op with
      | Add =>
        exact add_int (h _ _ _ hb ⟨_, rfl⟩)
      | Sub =>
        exact sub_int (h _ _ _ hb ⟨_, rfl⟩)
      | Mult =>
        exact mul_int (h _ _ _ hb.2 ⟨_, rfl⟩) (.of_left (intBits_le_64 (by have := hb.1.1; omega) (by have := hb.1.2; omega)))
      | FloorDiv =>
        obtain ⟨⟨h1, h2⟩, h3⟩ := hb
        refine floordiv_int_or (hh.resolve_right fun q => q.2 rfl) (fun e => by omega) (fun _ => ?_) (fun _ => .inl (PyProof.noPylong_small (by omega)))
        rw [Int.fdiv_eq_ediv_of_nonneg _ (by omega)]
        exact h _ _ _ h3 ⟨_, rfl⟩
      | Mod =>
        obtain ⟨h1, h3⟩ := hb
        refine mod_int_or (hh.resolve_right fun q => q.1 rfl) (fun e => by omega) (fun _ => ?_)
        rw [Int.fmod_eq_emod_of_nonneg _ (by omega)]
        exact h _ _ _ h3 ⟨_, rfl⟩
      | Pow =>
        obtain ⟨⟨h1, h2, h3, h4⟩, h5⟩ := hb
        refine PySem.AutoIntOpsIf.pow ?_
        rw [if_pos (show j ≥ 0 from h3)]
        by_cases hj : (j == 0) = true
        · rw [if_pos hj]
          have : j = 0 := by simpa using hj
          subst this
          exact h _ _ _ h5 ⟨_, by rw [show Int.toNat 0 = 0 from rfl, Int.pow_zero]⟩
        · rw [if_neg hj, if_neg (by simp; omega), if_neg (by simp; omega), if_neg ?_]
          · exact h _ _ _ h5 ⟨_, rfl⟩
          · have hb := intBits_small (a := i) ⟨h1, h2⟩
            have hle : ((Builtin.Int.intBits i : Nat) : Int) * j ≤ 256 := by
              have h6 : ((Builtin.Int.intBits i : Nat) : Int) ≤ 4 := by omega
              calc ((Builtin.Int.intBits i : Nat) : Int) * j ≤ 4 * j := Int.mul_le_mul_of_nonneg_right h6 h3
                _ ≤ 256 := by omega
            unfold Builtin.Int.intTooBig
            have hbl : bitsLine = 134217728 := by decide
            simp only [hbl, decide_eq_true_eq]
            omega
      | _ => exact False.elim hb
    | _ => exact False.elim hb
  | str a =>
    cases y with
    | str b =>
      obtain ⟨t, rfl⟩ := hx; obtain ⟨u, rfl⟩ := hy
      cases op with
      | Add =>
        refine add_str (fun t' tk => ?_) (by rw [line_is]; have := hb.1; simp only [Str.length, List.size_toArray]; omega)
        rw [str_add]
        exact h _ _ _ hb.2 ⟨_, rfl⟩
      | _ => exact False.elim hb
    | int n =>
      obtain ⟨t, rfl⟩ := hx; obtain ⟨u, rfl⟩ := hy
      cases op with
      | Mult =>
        obtain ⟨⟨h1, h2, h3⟩, h4⟩ := hb
        refine SB.mul ⟨by rw [decide_eq_false (by omega), decide_eq_false (by omega)]; rfl, fun q1 q2 q3 => ?_, fun _ _ => tooLong_no (by have e : (⟨a.toArray⟩ : Str).length = a.length := List.size_toArray; rw [e]; exact h3)⟩ (fun t' k => ?_)
        · have e : (⟨a.toArray⟩ : Str).length = a.length := List.size_toArray
          rw [e] at q3
          have h5 : (a.length : Int) * n ≤ 1000000 := by
            have : ((a.length * n.toNat : Nat) : Int) ≤ 1000000 := Int.ofNat_le.mpr h3
            rw [Int.natCast_mul, Int.toNat_of_nonneg h1] at this
            exact this
          have h6 : (a.length : Int) ≤ (2 ^ 63 - 1) / n := by
            apply Int.le_ediv_of_mul_le (by omega)
            omega
          omega
        · rw [txt_mul _ _ h1]
          exact h _ _ _ h4 ⟨_, rfl⟩
      | _ => exact False.elim hb
    | _ => exact False.elim hb
  | _ => exact False.elim hb

noncomputable def InpII (op : Operator) (i j : Int) (P : PV → Prop) : Prop := match op with
  | .Add => P (.int (i + j))
  | .Sub => P (.int (i - j))
  | _ => False
noncomputable def Inp (op : Operator) (x y : PV) (P : PV → Prop) : Prop := match x with
  | .int i => (match y with
    | .int j => InpII op i j P
    | _ => False)
  | .str a => (match y with
    | .str b => BinSS op a b P
    | _ => False)
  | _ => False
theorem inp_sound {op : Operator} {x y : PV} {φ : PH} {vx vy : Value} {P : PV → Prop} (hb : Inp op x y P) (hx : Rep φ x vx) (hy : Rep φ y vy)
    (h : ∀ z v tk, P z → Rep φ z v → Q v { s with toks := tk }) : wpAny (model prog w) A (inplaceOp op vx vy) Q E s := by
  cases x with
  | int i =>
    cases y with
    | int j =>
      obtain ⟨t, rfl⟩ := hx; obtain ⟨u, rfl⟩ := hy
      cases op with
      | Add => exact iadd_int (h _ _ _ hb ⟨_, rfl⟩)
      | Sub => exact isub_int (h _ _ _ hb ⟨_, rfl⟩)
      | _ => exact False.elim hb
    | _ => exact False.elim hb
  | str a =>
    cases y with
    | str b =>
      obtain ⟨t, rfl⟩ := hx; obtain ⟨u, rfl⟩ := hy
      cases op with
      | Add =>
        refine iadd_str (fun t' tk => ?_) (by rw [line_is]; have := hb.1; simp only [Str.length, List.size_toArray]; omega)
        rw [str_add]
        exact h _ _ _ hb.2 ⟨_, rfl⟩
      | _ => exact False.elim hb
    | _ => exact False.elim hb
  | _ => exact False.elim hb

noncomputable def CmpII (op : CmpOp) (i j : Int) (P : PV → Prop) : Prop := match op with
  | .Eq => P (.bool (decide (i = j)))
  | .NotEq => P (.bool (decide (i ≠ j)))
  | .Lt => P (.bool (decide (i < j)))
  | .LtE => P (.bool (decide (i ≤ j)))
  | .Gt => P (.bool (decide (j < i)))
  | .GtE => P (.bool (decide (j ≤ i)))
  | _ => False
noncomputable def CmpSS (op : CmpOp) (a b : List Nat) (P : PV → Prop) : Prop := match op with
  | .Eq => P (.bool (decide (a = b)))
  | .NotEq => P (.bool (decide (a ≠ b)))
  | .Lt => P (.bool (decide (a < b)))
  | _ => False
noncomputable def CmpBB (op : CmpOp) (a b : List UInt8) (P : PV → Prop) : Prop := match op with
  | .Lt => P (.bool (decide (a.map (·.toNat) < b.map (·.toNat))))
  | .Eq => P (.bool (decide (a = b)))
  | .NotEq => P (.bool (decide (a ≠ b)))
  | _ => False
noncomputable def CmpOO (op : CmpOp) (a b : Bool) (P : PV → Prop) : Prop := match op with
  | .Eq => P (.bool (decide (a = b)))
  | .NotEq => P (.bool (decide (a ≠ b)))
  | _ => False
noncomputable def CmpVN (op : CmpOp) (P : PV → Prop) : Prop := match op with
  | .Is => P (.bool false)
  | .IsNot => P (.bool true)
  | _ => False
noncomputable def CmpSN (op : CmpOp) (P : PV → Prop) : Prop := match op with
  | .Is => P (.bool false)
  | .IsNot => P (.bool true)
  | .Eq => P (.bool false)
  | _ => False
noncomputable def CmpNN (op : CmpOp) (P : PV → Prop) : Prop := match op with
  | .Is => P (.bool true)
  | .IsNot => P (.bool false)
  | _ => False
noncomputable def Cmp (op : CmpOp) (x y : PV) (P : PV → Prop) : Prop := match x with
  | .int i => (match y with
    | .int j => CmpII op i j P
    | .none => CmpVN op P
    | _ => False)
  | .str a => (match y with
    | .str b => CmpSS op a b P
    | .none => CmpSN op P
    | _ => False)
  | .bytes a => (match y with
    | .bytes b => CmpBB op a b P
    | .none => CmpVN op P
    | _ => False)
  | .bool a => (match y with
    | .bool b => CmpOO op a b P
    | _ => False)
  | .none => (match y with
    | .none => CmpNN op P
    | _ => False)
  | _ => False

theorem strs_eq (a b : List Nat) : ((⟨a.toArray⟩ : Str) == ⟨b.toArray⟩) = decide (a = b) := by
  by_cases h : a = b
  · subst h; simp
  · rw [decide_eq_false h]
    apply Bool.eq_false_iff.mpr
    intro e
    have e' := eq_of_beq e
    simp only [Str.mk.injEq] at e'
    exact h (by simpa using congrArg Array.toList e')
theorem slot_bytes_lt : PySem.Slot "bytes" (cmpInfo .Lt).2.1 "bytes.__lt__" :=
  .of (owner := "bytes") (n := "__lt__") (by rw [typeLookup_type, builtinLookup_eq_fast]; kernel_rfl) (by decide +kernel) (by decide +kernel) (by decide +kernel)
    (by first | exact .inl (by decide +kernel) | exact .inr (by decide +kernel)) (by rw [isSubtype_type]; kernel_rfl)
theorem entry_bytes_lt : entryFor table "bytes.__lt__" = some Builtin.«bytes.__lt__» := entryFor_of_tree (by kernel_rfl)
theorem args_bytes_lt_2 (a b : Value) : argsOk "bytes.__lt__" ⟨[a, b], []⟩ := by
  unfold argsOk; rw [signature?_of (id := "bytes.__lt__") (n := ['_', '_', 't', 'l', '_', '_']) (o := ['s', 'e', 't', 'y', 'b']) (by kernel_rfl) FB.owner_bytes]; kernel_rfl
theorem order_lt : ∀ a b : List UInt8, (Builtin.Bytes.order a b == .lt) = decide (a.map (·.toNat) < b.map (·.toNat))
  | [], [] => rfl
  | [], _ :: _ => by simp [Builtin.Bytes.order]
  | _ :: _, [] => by simp [Builtin.Bytes.order]
  | x :: a, y :: b => by
    have ih := order_lt a b
    simp only [Builtin.Bytes.order, List.map_cons, List.cons_lt_cons_iff]
    by_cases h1 : x < y
    · have : x.toNat < y.toNat := UInt8.lt_iff_toNat_lt.mp h1
      simp [h1, this]
    · have n1 : ¬ x.toNat < y.toNat := fun q => h1 (UInt8.lt_iff_toNat_lt.mpr q)
      by_cases h2 : x > y
      · have : y.toNat < x.toNat := UInt8.lt_iff_toNat_lt.mp h2
        have ne : x.toNat ≠ y.toNat := by omega
        simp [h1, h2, n1, ne]
      · have : ¬ y.toNat < x.toNat := fun q => h2 (UInt8.lt_iff_toNat_lt.mpr q)
        have e : x.toNat = y.toNat := by omega
        simp [h1, h2, e, ih]
theorem gives_bytes_lt (b c : Array UInt8) (t u : Tok) : Gives (Builtin.«bytes.__lt__» ⟨[.bytes b t, .bytes c u], []⟩) (.val (.bool (decide (b.toList.map (·.toNat) < c.toList.map (·.toNat))))) := by
  refine .of_wp fun M A E s Q hq => ?_
  show wpAny M A (isInstance (.bytes c u) (.type "bytes") >>= fun r => _) _ E s
  refine wpAny_bind (wpAny_isInstance (typeIs_bytes s c u) F.sub_bytes_bytes ?_)
  exact wpAny_pure ⟨_, rfl, by rw [← order_lt] at hq; exact hq⟩
theorem lt_bytes {prog : Program} {w : World} {A : Around} {E : Value → Shared → Prop} {s : Shared} {b c : Array UInt8} {t u : Tok} {Q : Value → Shared → Prop} (h : Q (.bool (decide (b.toList.map (·.toNat) < c.toList.map (·.toNat)))) s) : wpAny (model prog w) A (compareOp .Lt (.bytes b t) (.bytes c u)) Q E s :=
  compareOp_gives (op := .Lt) (typeIs_bytes s b t) (typeIs_bytes s c u) slot_bytes_lt entry_bytes_lt (args_bytes_lt_2 _ _) (gives_bytes_lt b c t u) (fun e => nomatch e) h

theorem cmp_sound {op : CmpOp} {x y : PV} {φ : PH} {vx vy : Value} {P : PV → Prop} (hb : Cmp op x y P) (hx : Rep φ x vx) (hy : Rep φ y vy)
    (h : ∀ z v, P z → Rep φ z v → Q v s) : wpAny (model prog w) A (compareOp op vx vy) Q E s := by
  cases x with
  | int i =>
    obtain ⟨t, rfl⟩ := hx
    cases y with
    | int j =>
      obtain ⟨u, rfl⟩ := hy
      cases op with
      | Eq => exact PyProof.Rows.eq_int (h _ _ hb (by rw [Rep, beq_dec]))
      | NotEq => exact PyProof.Rows.ne_int (h _ _ hb (by rw [Rep, bne_dec]))
      | Lt => exact PyProof.Rows.lt_int (h _ _ hb rfl)
      | LtE => exact PySem.P.le_int (h _ _ hb rfl)
      | Gt => exact PyProof.Rows.gt_int (h _ _ hb rfl)
      | GtE => exact PySem.P.ge_int (h _ _ hb rfl)
      | _ => exact False.elim hb
    | none =>
      rw [show vy = _ from hy]
      cases op with
      | Is => exact wpAny_is_plain rfl (h _ _ hb rfl)
      | IsNot => exact wpAny_isNot_plain rfl (h _ _ hb rfl)
      | _ => exact False.elim hb
    | _ => exact False.elim hb
  | str a =>
    obtain ⟨t, rfl⟩ := hx
    cases y with
    | str b =>
      obtain ⟨u, rfl⟩ := hy
      cases op with
      | Eq => exact PyProof.Rows.eq_str (h _ _ hb (by rw [Rep, strs_eq]))
      | NotEq => exact PyProof.Rows.ne_str (h _ _ hb (by rw [Rep, bne, strs_eq]; simp))
      | Lt => exact PyProof.Rows.lt_str (h _ _ hb rfl)
      | _ => exact False.elim hb
    | none =>
      rw [show vy = _ from hy]
      cases op with
      | Is => exact wpAny_is_plain rfl (h _ _ hb rfl)
      | IsNot => exact wpAny_isNot_plain rfl (h _ _ hb rfl)
      | Eq => exact PySem.EqNone.eq_str_none (h _ _ hb rfl)
      | _ => exact False.elim hb
    | _ => exact False.elim hb
  | bytes a =>
    obtain ⟨t, rfl⟩ := hx
    cases y with
    | bytes b =>
      obtain ⟨u, rfl⟩ := hy
      cases op with
      | Lt => exact lt_bytes (h _ _ hb rfl)
      | Eq => exact PySem.W.eq_bytes (h _ _ hb (by rw [Rep]; exact congrArg _ (beq_dec _ _)))
      | NotEq => exact PySem.W.ne_bytes (h _ _ hb (by rw [Rep]; exact congrArg _ (bne_dec _ _)))
      | _ => exact False.elim hb
    | none =>
      rw [show vy = _ from hy]
      cases op with
      | Is => exact wpAny_is_plain rfl (h _ _ hb rfl)
      | IsNot => exact wpAny_isNot_plain rfl (h _ _ hb rfl)
      | _ => exact False.elim hb
    | _ => exact False.elim hb
  | bool a =>
    rw [show vx = _ from hx]
    cases y with
    | bool b =>
      rw [show vy = _ from hy]
      cases op with
      | Eq => exact PyProof.Rows.eq_bool (h _ _ hb (by rw [Rep, beq_dec]))
      | NotEq => exact PyProof.Rows.ne_bool (h _ _ hb (by rw [Rep, bne_dec]))
      | _ => exact False.elim hb
    | _ => exact False.elim hb
  | none =>
    rw [show vx = _ from hx]
    cases y with
    | none =>
      rw [show vy = _ from hy]
      cases op with
      | Is => exact wpAny_is_plain rfl (h _ _ hb rfl)
      | IsNot => exact wpAny_isNot_plain rfl (h _ _ hb rfl)
      | _ => exact False.elim hb
    | _ => exact False.elim hb
  | _ => exact False.elim hb
end
theorem len1 {α : Type} : ∀ {l : List α} {n : Nat}, l.length = n → n = 1 → ∃ a, l = [a]
  | [a], _, _, _ => ⟨a, rfl⟩
  | [], _, rfl, h => by cases h
  | _ :: _ :: _, _, rfl, h => by simp at h
theorem len2 {α : Type} {l : List α} {n : Nat} (h : l.length = n) (hn : n = 2) : ∃ a b, l = [a, b] := by
  cases l with
  | nil => subst h; cases hn
  | cons a r =>
    obtain ⟨b, rfl⟩ := len1 (l := r) (n := 1) (by rw [List.length_cons] at h; omega) rfl
    exact ⟨a, b, rfl⟩
theorem len4 {α : Type} {l : List α} {n : Nat} (h : l.length = n) (hn : n = 4) : ∃ a b c d, l = [a, b, c, d] := by
  cases l with
  | nil => subst h; cases hn
  | cons a r =>
    cases r with
    | nil => subst h; cases hn
    | cons b r =>
      obtain ⟨c, d, rfl⟩ := len2 (l := r) (n := 2) (by rw [List.length_cons, List.length_cons] at h; omega) rfl
      exact ⟨a, b, c, d, rfl⟩
end Mine
set_option Elab.async false
set_option maxRecDepth 10000
set_option linter.unusedVariables false
namespace Mine
open PySem PySem.W PySem.Calls PySem.Spec PyProof.Rows

section
variable {Γ : Gx} {V : Va} {ρ : Rho} {X : Exn → Rho → Prop}

theorem ev_bin {op : Operator} {a b : Expr} {pos : Pos} {P : PV → Rho → Prop} (h : Ev Γ V ρ a (fun x ρ₁ => Ev Γ V ρ₁ b (fun y ρ₂ => Bin op x y (fun z => P z ρ₂)) X) X) (hm : V.hm = false ∨ (op ≠ .Mod ∧ op ≠ .FloorDiv) := by first | exact .inl rfl | exact .inr ⟨nofun, nofun⟩) : Ev Γ V ρ (.BinOp a op b pos) P X :=
  fun Y ok φ s Q E S p => wpAny_BinOp (h Y ok φ s _ E S ⟨fun x vx ρ₁ φ₁ s₁ hb rx n₁ => hb Y ok φ₁ s₁ _ E n₁.2.2
    ⟨fun y vy ρ₂ φ₂ s₂ hb₂ ry n₂ => bin_sound (hm.imp ok.hh id) hb₂ (rx.mono n₂.2.1) ry fun z v tk hp rz => p.ok z v ρ₂ φ₂ _ hp rz (n₁.trans (n₂.trans (.of n₂.2.2 tk))), (p.after n₁).er⟩, p.er⟩)

theorem ev_cmp {op : CmpOp} {a b : Expr} {pos : Pos} {P : PV → Rho → Prop} (h : Ev Γ V ρ a (fun x ρ₁ => Ev Γ V ρ₁ b (fun y ρ₂ => Cmp op x y (fun z => P z ρ₂)) X) X) (hm : behindInMarks op b = false := by rfl) :
    Ev Γ V ρ (.Compare a [op] [b] pos) P X :=
  fun Y ok φ s Q E S p => wpAny_Compare1 (h Y ok φ s _ E S ⟨fun x vx ρ₁ φ₁ s₁ hb rx n₁ => hb Y ok φ₁ s₁ _ E n₁.2.2
    ⟨fun y vy ρ₂ φ₂ s₂ hb₂ ry n₂ => cmp_sound hb₂ (rx.mono n₂.2.1) ry fun z v hp rz => p.ok z v ρ₂ φ₂ _ hp rz (n₁.trans n₂), (p.after n₁).er⟩, p.er⟩) hm

/-- tests -/
theorem et_cmp {op : CmpOp} {a b : Expr} {pos : Pos} {P : Bool → Rho → Prop} (h : Ev Γ V ρ a (fun x ρ₁ => Ev Γ V ρ₁ b (fun y ρ₂ => Cmp op x y (fun z => ∃ c, z = .bool c ∧ P c ρ₂)) X) X) (hm : behindInMarks op b = false := by rfl) :
    Et Γ V ρ (.Compare a [op] [b] pos) P X :=
  fun Y ok φ s Q E S p => wpAny_isTrue_Compare1 (h Y ok φ s _ E S ⟨fun x vx ρ₁ φ₁ s₁ hb rx n₁ => hb Y ok φ₁ s₁ _ E n₁.2.2
    ⟨fun y vy ρ₂ φ₂ s₂ hb₂ ry n₂ => cmp_sound hb₂ (rx.mono n₂.2.1) ry fun z v hp rz => by
      obtain ⟨c, rfl, hc⟩ := hp
      rw [show v = _ from rz]
      exact wpAny_truthy_bool (p.ok c ρ₂ φ₂ _ hc (n₁.trans n₂)), fun x e ρ' φ' s' a b c => p.er x e ρ' φ' s' a b (n₁.trans c)⟩, p.er⟩) hm

/-- a test by the value of an expression of any other kind -/
noncomputable def plainTest : Expr → Bool
  | .UnaryOp .Not _ _ | .BoolOp .. | .IfExp .. | .Compare .. => false
  | _ => true
theorem isTrue_of_plain {e : Expr} {env : Env} {whole : Sem Value} (h : plainTest e = true) : isTrue e env whole = (do let v ← whole; standAt e.pos; holding [v] (truthy v)) := by
  cases e with
  | UnaryOp op x p => cases op <;> first | rfl | cases h
  | BoolOp _ _ _ => cases h
  | IfExp _ _ _ _ => cases h
  | Compare _ _ _ _ => cases h
  | _ => rfl
theorem et_val {e : Expr} {P : Bool → Rho → Prop} (h : Ev Γ V ρ e (fun x ρ₁ => ∃ b, x = .bool b ∧ P b ρ₁) X) (hp : plainTest e = true := by rfl) : Et Γ V ρ e P X := fun Y ok φ s Q E S p => by
  rw [isTrue_of_plain hp]
  refine wpAny_bind (h Y ok φ s _ E S ⟨fun x vx ρ₁ φ₁ s₁ hb rx n₁ => ?_, p.er⟩)
  obtain ⟨b, rfl, hb⟩ := hb
  rw [show vx = _ from rx]
  exact wpAny_bind (wpAny_standAt (wpAny_holding (wpAny_truthy_bool (p.ok b ρ₁ φ₁ _ hb n₁))))
theorem et_not {e : Expr} {pos : Pos} {P : Bool → Rho → Prop} (h : Et Γ V ρ e (fun b ρ₁ => P (!b) ρ₁) X) : Et Γ V ρ (.UnaryOp .Not e pos) P X := fun Y ok φ s Q E S p => by
  show wpAny _ _ (do return !(← isTrue e V.env (eval e V.env))) _ _ _
  exact wpAny_bind (h Y ok φ s _ E S ⟨fun b ρ₁ φ₁ s₁ hb n₁ => wpAny_pure (p.ok _ ρ₁ φ₁ _ hb n₁), p.er⟩)
theorem et_and {a b : Expr} {pos : Pos} {P : Bool → Rho → Prop} (h : Et Γ V ρ a (fun c ρ₁ => (c = false → P false ρ₁) ∧ (c = true → Et Γ V ρ₁ b P X)) X) : Et Γ V ρ (.BoolOp .And [a, b] pos) P X := fun Y ok φ s Q E S p => by
  show wpAny _ _ (allTrue .And [a, b] V.env) _ _ _
  unfold allTrue
  refine wpAny_bind (h Y ok φ s _ E S ⟨fun c ρ₁ φ₁ s₁ hb n₁ => ?_, p.er⟩)
  cases c with
  | false => exact wpAny_pure (p.ok _ ρ₁ φ₁ _ (hb.1 rfl) n₁)
  | true =>
    unfold allTrue
    refine wpAny_bind (hb.2 rfl Y ok φ₁ s₁ _ E n₁.2.2 ⟨fun c ρ₂ φ₂ s₂ hb₂ n₂ => ?_, fun x e ρ' φ' s' a b c => p.er x e ρ' φ' s' a b (n₁.trans c)⟩)
    cases c with
    | false => exact wpAny_pure (p.ok _ ρ₂ φ₂ _ hb₂ (n₁.trans n₂))
    | true => unfold allTrue; exact wpAny_pure (p.ok _ ρ₂ φ₂ _ hb₂ (n₁.trans n₂))
theorem et_or {a b : Expr} {pos : Pos} {P : Bool → Rho → Prop} (h : Et Γ V ρ a (fun c ρ₁ => (c = true → P true ρ₁) ∧ (c = false → Et Γ V ρ₁ b P X)) X) : Et Γ V ρ (.BoolOp .Or [a, b] pos) P X := fun Y ok φ s Q E S p => by
  show wpAny _ _ (allTrue .Or [a, b] V.env) _ _ _
  unfold allTrue
  refine wpAny_bind (h Y ok φ s _ E S ⟨fun c ρ₁ φ₁ s₁ hb n₁ => ?_, p.er⟩)
  cases c with
  | true => exact wpAny_pure (p.ok _ ρ₁ φ₁ _ (hb.1 rfl) n₁)
  | false =>
    unfold allTrue
    refine wpAny_bind (hb.2 rfl Y ok φ₁ s₁ _ E n₁.2.2 ⟨fun c ρ₂ φ₂ s₂ hb₂ n₂ => ?_, fun x e ρ' φ' s' a b c => p.er x e ρ' φ' s' a b (n₁.trans c)⟩)
    cases c with
    | true => exact wpAny_pure (p.ok _ ρ₂ φ₂ _ hb₂ (n₁.trans n₂))
    | false => unfold allTrue; exact wpAny_pure (p.ok _ ρ₂ φ₂ _ hb₂ (n₁.trans n₂))
theorem ev_ifexp {t a b : Expr} {pos : Pos} {P : PV → Rho → Prop} (h : Et Γ V ρ t (fun c ρ₁ => (c = true → Ev Γ V ρ₁ a P X) ∧ (c = false → Ev Γ V ρ₁ b P X)) X) : Ev Γ V ρ (.IfExp t a b pos) P X := fun Y ok φ s Q E S p => by
  show wpAny _ _ (do if ← isTrue t V.env (eval t V.env) then eval a V.env else eval b V.env) _ _ _
  refine wpAny_bind (h Y ok φ s _ E S ⟨fun c ρ₁ φ₁ s₁ hb n₁ => ?_, p.er⟩)
  cases c with
  | true => exact hb.1 rfl Y ok φ₁ s₁ _ E n₁.2.2 (p.after n₁)
  | false => exact hb.2 rfl Y ok φ₁ s₁ _ E n₁.2.2 (p.after n₁)
theorem ev_neg {i : Int} {k : Nat} {pos pos' : Pos} {P : PV → Rho → Prop} (h : P (.int (-i)) ρ) : Ev Γ V ρ (.UnaryOp .USub (.Constant (.int i) k pos) pos') P X := fun Y ok φ s Q E S p => by
  show wpAny _ _ (do let v ← eval (.Constant (.int i) k pos) V.env; standAt pos'; holding [v] (unaryOp .USub v)) _ _ _
  refine wpAny_bind (wpAny_Constant_int (wpAny_bind (wpAny_standAt (wpAny_holding (PySem.P.neg_int ?_)))))
  exact p.ok _ _ ρ φ _ h ⟨_, rfl⟩ ((Nx.of S _).trans (.of (s := { s with toks := s.toks + 1 }) S _))

/-- a list that nothing holds becomes a value -/
theorem ev_of_en {e : Expr} {P : PV → Rho → Prop} (h : En Γ V ρ e (fun l ρ' => P (.list l) ρ') X) : Ev Γ V ρ e P X := fun Y ok φ s Q E S p =>
  h Y ok φ s Q E S ⟨fun l a vs n ρ' φ' s' hp nx ha hr h1 h2 h3 h4 h5 =>
    p.ok (.list l) (.ref a) ρ' (φ'.add a (lobj vs n)) s' hp ⟨a, vs, n, rfl, PH.add_self _ _ _, Reps.mono (PH.add_le h2) _ _ hr⟩ ⟨nx.1, nx.2.1.trans (PH.add_le h2), nx.2.2.freeze ha h2 h4 h3 h5⟩, p.er⟩

/-- many expressions, one behind the other -/
noncomputable def Evs (Γ : Gx) (V : Va) (X : Exn → Rho → Prop) : List Expr → Rho → (List PV → Rho → Prop) → Prop
  | [], ρ, P => P [] ρ
  | e :: es, ρ, P => Ev Γ V ρ e (fun v ρ₁ => Evs Γ V X es ρ₁ fun vs ρ₂ => P (v :: vs) ρ₂) X
noncomputable def isStar : Expr → Bool
  | .Starred .. => true
  | _ => false
theorem starEach_cons {e : Expr} {r : List Expr} {env : Env} (h : isStar e = false) : starEach (e :: r) env = (false, eval e env) :: starEach r env := by
  cases e <;> first | rfl | cases h
theorem spliced_sound {pos : Pos} {Y : Lo} {E : Value → Shared → Prop} (ok : Ok Γ V Y) : ∀ (es : List Expr) (ρ : Rho) (P : List PV → Rho → Prop) (φ : PH) (s : Shared) (Q : List Value → Shared → Prop), es.all (fun e => !isStar e) = true → Evs Γ V X es ρ P → St Y ρ φ s.heap →
    (∀ l vs ρ' φ' s', P l ρ' → Reps φ' l vs → Nx Y φ ρ' φ' s s' → Q vs s') → (∀ x e ρ' φ' s', X x ρ' → ExnAt Y ρ' φ' x e s' → Nx Y φ ρ' φ' s s' → E e s') →
    wpAny (model Γ.prog Γ.w) V.A (spliced (backTo pos (starEach es V.env))) Q E s
  | [], ρ, P, φ, s, Q, _, h, S, k, _ => spliced_nil (k [] [] ρ φ s h rfl (.refl S))
  | e :: es, ρ, P, φ, s, Q, hs, h, S, k, ke => by
    simp only [List.all_cons, Bool.and_eq_true, Bool.not_eq_true'] at hs
    rw [starEach_cons hs.1]
    refine spliced_cons (h Y ok φ s _ E S ⟨fun v val ρ₁ φ₁ s₁ h₁ r₁ n₁ => ?_, ke⟩)
    refine spliced_sound ok es ρ₁ _ φ₁ s₁ _ (by simpa using hs.2) h₁ n₁.2.2 (fun l vs ρ₂ φ₂ s₂ h₂ r₂ n₂ => ?_) fun x e ρ' φ' s' a b c => ke x e ρ' φ' s' a b (n₁.trans c)
    exact k (v :: l) (val :: vs) ρ₂ φ₂ s₂ h₂ ⟨val, vs, rfl, r₁.mono n₂.2.1, r₂⟩ (n₁.trans n₂)

theorem lobj_push_get (h : Heap) (vs : List Value) (n : Nat) : (h.push (lobj vs n)).get? h.objs.size = some (lobj vs n) := Heap.get?_push_size h rfl

/-- the end of a rule that makes a list behind the heap's end -/
theorem PostN.made {Y : Lo} {φ : PH} {s s₁ : Shared} {P : List PV → Rho → Prop} {Q E : Value → Shared → Prop} (p : PostN Y φ s P X Q E) {ρ₁ : Rho} {φ₁ : PH} (n₁ : Nx Y φ ρ₁ φ₁ s s₁) {l : List PV} {vs : List Value} {a : Addr} {h' : Heap} {n tk : Nat} (hp : P l ρ₁) (hr : Reps φ₁ l vs)
    (hk : ∀ b o, s₁.heap.get? b = some o → h'.get? b = some o) (ha : h'.get? a = some (lobj vs n)) (hnew : s₁.heap.get? a = none) : Q (.ref a) { s₁ with heap := h', toks := tk } := by
  have F := n₁.2.2.fresh hnew
  refine p.ok l a vs n ρ₁ φ₁ _ hp (n₁.trans ⟨⟨h', tk, rfl⟩, .refl _, n₁.2.2.keeps hk⟩) ha hr F.1 F.2.1 F.2.2.1 F.2.2.2.1 F.2.2.2.2
theorem none_at_end (h : Heap) (k : Nat) : h.get? (h.objs.size + k) = none := by
  cases e : h.get? (h.objs.size + k) with
  | none => rfl
  | some o => exact absurd (Heap.lt_size e) (Nat.not_lt.mpr (Nat.le_add_right _ _))

theorem en_list {es : List Expr} {pos : Pos} {P : List PV → Rho → Prop} (h : Evs Γ V X es ρ (fun l ρ' => l.length ≤ 1000000 ∧ P l ρ')) (hs : es.all (fun e => !isStar e) = true := by rfl) : En Γ V ρ (.List es pos) P X := fun Y ok φ s Q E S p => by
  refine List_ (spliced_sound ok es ρ _ φ s _ hs h S (fun l vs ρ' φ' s' hp hr nx => ?_) p.er)
  have hlen := hr.length
  refine wpAny_newObj_type (PostN.made (tk := s'.toks) p nx hp.2 hr (fun b o e => Heap.get?_push_of_some _ e) (lobj_push_get s'.heap vs 0) (none_at_end s'.heap 0)) ?_
  show vs.toArray.size ≤ sizeLine
  rw [List.size_toArray, hlen, line_is]
  have := hp.1
  omega
end
end Mine
set_option Elab.async false
set_option maxRecDepth 10000
set_option linter.unusedVariables false
namespace Mine
open PySem PySem.W PySem.Calls PySem.Spec PyProof.Rows

noncomputable def pidx {α : Type} (l : List α) (i : Int) : Option α := (seqIndex? i l.length).bind (l[·]?)
theorem seqIndex_nn {k : Int} {n : Nat} (h : 0 ≤ k) : seqIndex? k n = if k < n then some k.toNat else none := by
  show (if (decide (0 ≤ (if k < 0 then k + (n : Int) else k)) && decide ((if k < 0 then k + (n : Int) else k) < (n : Int))) = true then some ((if k < 0 then k + (n : Int) else k).toNat) else none) = _
  rw [if_neg (show ¬ k < 0 by omega)]
  by_cases h2 : k < (n : Int)
  · simp [h, h2]
  · simp [h, h2]
theorem seqIndex_ng {k : Int} {n : Nat} (h : k < 0) : seqIndex? k n = if -(n : Int) ≤ k then some (k + n).toNat else none := by
  show (if (decide (0 ≤ (if k < 0 then k + (n : Int) else k)) && decide ((if k < 0 then k + (n : Int) else k) < (n : Int))) = true then some ((if k < 0 then k + (n : Int) else k).toNat) else none) = _
  rw [if_pos h]
  have h3 : k + (n : Int) < n := by omega
  by_cases h2 : -(n : Int) ≤ k
  · have h4 : 0 ≤ k + (n : Int) := by omega
    simp [h2, h3, h4]
  · have h4 : ¬ 0 ≤ k + (n : Int) := by omega
    simp [h2, h4]
theorem pidx_nn {α : Type} {l : List α} {i : Int} (h : 0 ≤ i) : pidx l i = l[i.toNat]? := by
  unfold pidx
  rw [seqIndex_nn h]
  split
  · rfl
  · rename_i q
    simp only [Option.bind_none]
    rw [List.getElem?_eq_none (by omega)]
theorem pidx_ng {α : Type} {l : List α} {i : Int} (h : i < 0) (h' : -(l.length : Int) ≤ i) : pidx l i = l[(i + l.length).toNat]? := by
  unfold pidx
  rw [seqIndex_ng h, if_pos h']; rfl
noncomputable def Sub (x i : PV) (P : PV → Prop) : Prop := match x, i with
  | .str s, .int i => (-1000000 ≤ i ∧ i ≤ 1000000) ∧ ∃ c, pidx s i = some c ∧ P (.str [c])
  | .list l, .int i => (-1000000 ≤ i ∧ i ≤ 1000000) ∧ ∃ v, pidx l i = some v ∧ P v
  | _, _ => False

noncomputable def pslice {α : Type} (l : List α) (lo hi : Option Int) : List α := (l.drop (lo.elim 0 (clipAt l.length))).take (hi.elim l.length (clipAt l.length) - lo.elim 0 (clipAt l.length))

section
variable {Γ : Gx} {V : Va} {ρ : Rho} {X : Exn → Rho → Prop}
theorem isList_of {h : Heap} {a : Addr} {vs : List Value} {n : Nat} (e : h.get? a = some (lobj vs n)) : h.IsList a vs.toArray := ⟨_, e, rfl, n, rfl⟩

theorem sub_sound {prog : Program} {w : World} {A : Around} {E : Value → Shared → Prop} {s : Shared} {Q : Value → Shared → Prop} {x i : PV} {φ : PH} {vx vi : Value} {P : PV → Prop} {value slice : Expr}
    (hb : Sub x i P) (hx : Rep φ x vx) (hi : Rep φ i vi) (hφ : ∀ a o, φ a = some o → s.heap.get? a = some o) (hsub : ∀ o i, subscripted slice false o i = operate [o, i] (getItem o i))
    (h : ∀ z v tk, P z → Rep φ z v → Q v { s with toks := tk }) : wpAny (model prog w) A (subscriptTail value slice vx vi) Q E s := by
  unfold Sub at hb
  split at hb
  · obtain ⟨t, rfl⟩ := hx; obtain ⟨u, rfl⟩ := hi
    rename_i l k
    obtain ⟨⟨h1, h2⟩, c, hc, hp⟩ := hb
    refine tail_any (T := "str") (typeIs_str _ _ _) PySem.F.slot_str_getitem.lookup (PyProof.Rows.getItem_str (c := c) (by rw [decide_eq_false (by omega), decide_eq_false (by omega)]; rfl) ?_ (h _ _ _ hp ⟨_, rfl⟩)) (hsub _ _)
    unfold pidx at hc
    simpa [Str.length] using hc
  · obtain ⟨a, vs, n, rfl, ha, hr⟩ := hx; obtain ⟨u, rfl⟩ := hi
    rename_i l k
    obtain ⟨⟨h1, h2⟩, v, hc, hp⟩ := hb
    have hl := isList_of (hφ _ _ ha)
    unfold pidx at hc
    obtain ⟨j, hj, hv⟩ := Option.bind_eq_some_iff.mp hc
    obtain ⟨w', hw, hrv⟩ := hr.get hv
    refine tail_any hl.typeIs PySem.F.slot_list_getitem.lookup ?_ (hsub _ _)
    by_cases h0 : 0 ≤ k
    · rw [seqIndex_nn h0] at hj
      split at hj
      · cases hj
        exact wpAny_getItem_list (x := w') hl h0 (by omega) (by simpa using hw) (h v w' s.toks hp hrv)
      · cases hj
    · rw [seqIndex_ng (by omega)] at hj
      have hlen := hr.length
      split at hj
      · cases hj
        refine wpAny_getItem_list_neg (x := w') hl (by omega) (by rw [List.size_toArray, hlen]; omega) (by omega) ?_ (h v w' s.toks hp hrv)
        rw [List.size_toArray, hlen]
        simpa using hw
      · cases hj
  · cases hb

theorem ev_sub {value slice : Expr} {pos : Pos} {P : PV → Rho → Prop} (h : Ev Γ V ρ value (fun x ρ₁ => Ev Γ V ρ₁ slice (fun i ρ₂ => Sub x i (fun z => P z ρ₂)) X) X)
    (hsub : ∀ o i, subscripted slice false o i = operate [o, i] (getItem o i) := by intro _ _; rfl) : Ev Γ V ρ (.Subscript value slice pos) P X := fun Y ok φ s Q E S p =>
  Subscript_ (h Y ok φ s _ E S ⟨fun x vx ρ₁ φ₁ s₁ hb rx n₁ => hb Y ok φ₁ s₁ _ E n₁.2.2
    ⟨fun i vi ρ₂ φ₂ s₂ hb₂ ri n₂ => sub_sound hb₂ (rx.mono n₂.2.1) ri n₂.2.2.fz hsub fun z v tk hp rz => p.ok z v ρ₂ φ₂ _ hp rz (n₁.trans (n₂.trans (.of n₂.2.2 tk))), (p.after n₁).er⟩, p.er⟩)

/-- a slice's part -/
noncomputable def Evp (Γ : Gx) (V : Va) (ρ : Rho) (e : Option Expr) (P : Option Int → Rho → Prop) (X : Exn → Rho → Prop) : Prop := match e with
  | none => P none ρ
  | some e => Ev Γ V ρ e (fun v ρ' => ∃ i, v = .int i ∧ P (some i) ρ') X
theorem evp_sound {Y : Lo} (ok : Ok Γ V Y) {e : Option Expr} {P : Option Int → Rho → Prop} (h : Evp Γ V ρ e P X) {φ : PH} {s : Shared} {Q E : Value → Shared → Prop} (S : St Y ρ φ s.heap)
    (k : ∀ i v ρ' φ' s', P i ρ' → IsPart v i → Nx Y φ ρ' φ' s s' → Q v s') (ke : ∀ x e ρ' φ' s', X x ρ' → ExnAt Y ρ' φ' x e s' → Nx Y φ ρ' φ' s s' → E e s') : wpAny (model Γ.prog Γ.w) V.A (evalPart e V.env) Q E s := by
  cases e with
  | none => exact wpAny_evalPart_none (k _ _ ρ φ s h .none (.refl S))
  | some e =>
    show wpAny _ _ (eval e V.env) _ _ _
    refine h Y ok φ s _ E S ⟨fun v val ρ' φ' s' hp hr n => ?_, ke⟩
    obtain ⟨i, rfl, hi⟩ := hp
    obtain ⟨t, rfl⟩ := hr
    exact k _ _ ρ' φ' s' hi (.int i t) n

theorem Reps.slice {φ : PH} {l : List PV} {vs : List Value} (hr : Reps φ l vs) (lo hi : Option Int) : Reps φ (pslice l lo hi) (slicePick vs.toArray lo hi none).toList := by
  rw [slicePick_plain]
  unfold pslice
  have hl := hr.length
  simp only [List.size_toArray, hl]
  exact (hr.drop _).take _
theorem en_slice {value : Expr} {lower upper : Option Expr} {q pos : Pos} {P : List PV → Rho → Prop}
    (h : Ev Γ V ρ value (fun x ρ₁ => ∃ l, x = .list l ∧ l.length ≤ 1000000 ∧ Evp Γ V ρ₁ lower (fun lo ρ₂ => Evp Γ V ρ₂ upper (fun hi ρ₃ => P (pslice l lo hi) ρ₃) X) X) X) :
    En Γ V ρ (.Subscript value (.Slice lower upper none q) pos) P X := fun Y ok φ s Q E S p => by
  refine Subscript_ (h Y ok φ s _ E S ⟨fun x vx ρ₁ φ₁ s₁ hb rx n₁ => ?_, p.er⟩)
  obtain ⟨l, rfl, hlen, hb⟩ := hb
  refine wpAny_Slice (evp_sound ok hb n₁.2.2 (fun lo vl ρ₂ φ₂ s₂ hb₂ pl n₂ => ?_) fun x e ρ' φ' s' a b c => p.er x e ρ' φ' s' a b (n₁.trans c))
  refine evp_sound ok hb₂ n₂.2.2 (fun hi vu ρ₃ φ₃ s₃ hb₃ pu n₃ => ?_) fun x e ρ' φ' s' a b c => p.er x e ρ' φ' s' a b (n₁.trans (n₂.trans c))
  refine wpAny_evalPart_none ?_
  obtain ⟨a, vs, n, rfl, ha, hr⟩ := rx.mono (n₂.2.1.trans n₃.2.1)
  have hg := n₃.2.2.fz _ _ ha
  have hl₃ := isList_of hg
  have n' := n₁.trans (n₂.trans n₃)
  have S₃ := n₃.2.2
  have hl₄ := hl₃.push { cls := .type "slice", data := .fields #[vl, vu, .none] }
  refine tail_any hl₄.typeIs PySem.F.slot_list_getitem.lookup (wpAny_getItem_list_slice hl₄ (Heap.IsSliceOf.new _ _ _ _) pl pu .none (by simp) ?_ (by rw [List.size_toArray, hr.length, line_is]; omega)) rfl
  have hsz := Heap.size_push s₃.heap { cls := .type "slice", data := .fields #[vl, vu, .none] }
  show Q (.ref (s₃.heap.push _).objs.size) _
  refine PostN.made (s₁ := s₃) (tk := s₃.toks) p n' (n := 0) hb₃ (hr.slice lo hi) (fun b o e => Heap.get?_push_of_some _ (Heap.get?_push_of_some _ e)) ?_ (by rw [hsz]; exact none_at_end _ 1)
  exact Heap.get?_push_size _ rfl

theorem en_add {a b : Expr} {pos : Pos} {P : List PV → Rho → Prop}
    (h : Ev Γ V ρ a (fun x ρ₁ => ∃ l, x = .list l ∧ Ev Γ V ρ₁ b (fun y ρ₂ => ∃ r, y = .list r ∧ l.length + r.length ≤ 1000000 ∧ P (l ++ r) ρ₂) X) X) : En Γ V ρ (.BinOp a .Add b pos) P X := fun Y ok φ s Q E S p => by
  refine wpAny_BinOp (h Y ok φ s _ E S ⟨fun x vx ρ₁ φ₁ s₁ hb rx n₁ => ?_, p.er⟩)
  obtain ⟨l, rfl, hb⟩ := hb
  refine hb Y ok φ₁ s₁ _ E n₁.2.2 ⟨fun y vy ρ₂ φ₂ s₂ hb₂ ry n₂ => ?_, fun x e ρ' φ' s' a b c => p.er x e ρ' φ' s' a b (n₁.trans c)⟩
  obtain ⟨r, rfl, hlen, hp⟩ := hb₂
  obtain ⟨aa, vs, n, rfl, ha, hr⟩ := rx.mono n₂.2.1
  obtain ⟨bb, ws, k, rfl, hb, hs⟩ := ry
  have n' := n₁.trans n₂
  refine PySem.P.add_list (n2 := k) (n := n) (items := vs.toArray) (items2 := ws.toArray) (n₂.2.2.fz _ _ ha) (n₂.2.2.fz _ _ hb) ?_ (by rw [List.size_toArray, List.size_toArray, hr.length, hs.length, line_is]; omega)
  refine PostN.made (s₁ := s₂) (tk := s₂.toks) p n' (n := 0) hp (hr.append hs) (fun b o e => Heap.get?_push_of_some _ e) ?_ (none_at_end _ 0)
  have e : vs.toArray ++ ws.toArray = (vs ++ ws).toArray := by simp
  rw [e]
  exact Heap.get?_push_size _ rfl
end
end Mine
set_option Elab.async false
set_option maxRecDepth 10000
set_option linter.unusedVariables false
namespace Mine
open PySem PySem.W PySem.Calls PySem.Spec PyProof.Rows

noncomputable def canStore (env : Env) (x : String) : Bool := env.kindOf (Str.ofString x) == some .local || (env.kindOf (Str.ofString x) == some .cell && (env.cells.lookup (Str.ofString x)).isSome)

section
variable {Γ : Gx} {V : Va} {ρ : Rho} {X : Exn → Rho → Prop}
theorem hkind_of {Y : Lo} (ok : Ok Γ V Y) {x : String} (hst : V.st = true) (hc : canStore V.env x = true) :
    (Y.env.kindOf (Str.ofString x) = some .local ∧ Y.env.locals ∈ Y.lw) ∨ (Y.env.kindOf (Str.ofString x) = some .cell ∧ ∃ c, Y.env.cells.lookup (Str.ofString x) = some c ∧ c ∈ Y.lw) := by
  rw [ok.ee, ok.ll]
  obtain ⟨w1, w2⟩ := ok.wr hst
  unfold canStore at hc
  simp only [Bool.or_eq_true, Bool.and_eq_true, beq_iff_eq] at hc
  rcases hc with hc | ⟨hc, hl⟩
  · exact .inl ⟨hc, w1⟩
  · obtain ⟨c, e⟩ := Option.isSome_iff_exists.mp hl
    exact .inr ⟨hc, c, e, (w2 _ _ e).elim id fun q => by rw [hc] at q; cases q.1⟩

theorem store_val {Y : Lo} (ok : Ok Γ V Y) {M : Model} {A : Around} {E : Value → Shared → Prop} {φ φ₁ : PH} {s s₁ : Shared} {x : String} {v : PV} {w : Value} {Q : Unit → Shared → Prop} (n : Nx Y φ ρ φ₁ s s₁) (hst : V.st = true) (hc : canStore V.env x = true)
    (hr : Rep φ₁ v w) (h : ∀ s', Nx Y φ (upd x (.val v) ρ) φ₁ s s' → Q () s') : wpAny M A (storeName V.env (Str.ofString x) w) Q E s₁ := by
  have S := n.2.2
  rw [← ok.ee]
  refine store_rule S (by rw [ok.ee]; exact ok.fk) (by rw [ok.ee]; exact ok.ci) (hkind_of ok hst hc) (sl := .val v) hr (S.apart.sublist ((List.Sublist.refl _).append (foot_upd_val x v ρ))) (fun _ h => nomatch h) (fun _ _ e => nomatch e) fun h' tk S' => h _ ?_
  obtain ⟨⟨h₁, tk₁, rfl⟩, l, _⟩ := n
  exact ⟨⟨h', tk, rfl⟩, l, S'⟩
theorem store_own {Y : Lo} (ok : Ok Γ V Y) {M : Model} {A : Around} {E : Value → Shared → Prop} {φ φ₁ : PH} {s s₁ : Shared} {x : String} {l : List PV} {a : Addr} {vs : List Value} {k : Nat} {Q : Unit → Shared → Prop} (n : Nx Y φ ρ φ₁ s s₁) (hst : V.st = true) (hc : canStore V.env x = true)
    (ha : s₁.heap.get? a = some (lobj vs k)) (hr : Reps φ₁ l vs) (h1 : Y.κ a = none) (h2 : φ₁ a = none) (h3 : a ∉ Y.FS) (h4 : a ∉ Y.lw ++ foot ρ) (h5 : ¬ Y.ban a) (h : ∀ s', Nx Y φ (upd x (.own a l) ρ) φ₁ s s' → Q () s') : wpAny M A (storeName V.env (Str.ofString x) (.ref a)) Q E s₁ := by
  have S := n.2.2
  rw [← ok.ee]
  refine store_rule S (by rw [ok.ee]; exact ok.fk) (by rw [ok.ee]; exact ok.ci) (hkind_of ok hst hc) (sl := .own a l) ⟨rfl, vs, k, ha, hr⟩ ?_ (fun b hb => by rw [List.mem_singleton.mp hb]; exact ⟨h1, h2, h3⟩) (fun _ _ e => by cases e; exact h5) fun h' tk S' => h _ ?_
  · obtain ⟨r, hp, hs⟩ := foot_upd x (.own a l) ρ
    have hp' : (Y.lw ++ foot (upd x (.own a l) ρ)).Perm (a :: (Y.lw ++ r)) := (hp.append_left Y.lw).trans List.perm_middle
    refine hp'.nodup_iff.mpr (List.nodup_cons.mpr ⟨fun hm => h4 ?_, S.apart.sublist ((List.Sublist.refl _).append hs)⟩)
    exact ((List.Sublist.refl _).append hs).subset hm
  · obtain ⟨⟨h₁, tk₁, rfl⟩, l', _⟩ := n
    exact ⟨⟨h', tk, rfl⟩, l', S'⟩

theorem e1_assign {x : String} {e : Expr} {pos pos' : Pos} {P : Out → Prop} (h : Ev Γ V ρ e (fun v ρ' => P (.next (upd x (.val v) ρ'))) X) (hs : swapsWith e (some (.Name (Str.ofString x) pos')) pos.line V.env = pure false := by rfl)
    (hst : V.st = true := by rfl) (hc : canStore V.env x = true := by kernel_rfl) : E1 Γ V ρ (.Assign [.Name (Str.ofString x) pos'] e pos) P X := fun Y ok φ s Q E hE S p =>
  wpAny_Assign_Name (h Y ok φ s _ E S ⟨fun v val ρ' φ' s' hp hr n => store_val ok n hst hc hr fun s'' n' => p.nx _ _ _ hp n', p.er⟩) hs
theorem e1_assign_own {x : String} {e : Expr} {pos pos' : Pos} {P : Out → Prop} (h : En Γ V ρ e (fun l ρ' => ∀ a, P (.next (upd x (.own a l) ρ'))) X) (hs : swapsWith e (some (.Name (Str.ofString x) pos')) pos.line V.env = pure false := by rfl)
    (hst : V.st = true := by rfl) (hc : canStore V.env x = true := by kernel_rfl) : E1 Γ V ρ (.Assign [.Name (Str.ofString x) pos'] e pos) P X := fun Y ok φ s Q E hE S p =>
  wpAny_Assign_Name (h Y ok φ s _ E S ⟨fun l a vs k ρ' φ' s' hp n ha hr h1 h2 h3 h4 h5 => store_own ok n hst hc ha hr h1 h2 h3 h4 h5 fun s'' n' => p.nx _ _ _ (hp a) n', p.er⟩) hs

theorem e1_aug {x : String} {op : Operator} {e : Expr} {pos pos' : Pos} {v₀ : PV} {P : Out → Prop} (hg : get x ρ = some (.val v₀)) (h : Ev Γ V ρ e (fun v ρ' => Inp op v₀ v (fun z => P (.next (upd x (.val z) ρ')))) X)
    (hst : V.st = true := by rfl) (hc : canStore V.env x = true := by kernel_rfl) (hd : plainName x = true := by decide +kernel) : E1 Γ V ρ (.AugAssign (.Name (Str.ofString x) pos') op e pos) P X := fun Y ok φ s Q E hE S p => by
  obtain ⟨m, hn, hv⟩ := S.vars
  obtain ⟨w, a, b⟩ := hv x _ (mem_of_get hg)
  rw [ok.ee] at hn a
  refine wpAny_AugAssign_Name (load_rule ok.fk hn a (h Y ok φ s _ E S ⟨fun v val ρ' φ' s' hp hr n => ?_, p.er⟩) (plainName_of hd).1)
  refine inp_sound hp (Rep.mono n.2.1 _ _ b) hr fun z vz tk hz rz => ?_
  exact store_val ok (n.trans (.of n.2.2 tk)) hst hc rz fun s'' n' => p.nx _ _ _ hz n'

theorem e1_return {e : Expr} {pos : Pos} {P : Out → Prop} (h : Ev Γ V ρ e (fun v ρ' => P (.ret v ρ')) X) : E1 Γ V ρ (.Return (some e) pos) P X := fun Y ok φ s Q E hE S p =>
  wpAny_Return_some (h Y ok φ s _ E S ⟨fun v val ρ' φ' s' hp hr n => p.rt v val ρ' φ' s' hp hr n, p.er⟩)
theorem e1_return_none {pos : Pos} {P : Out → Prop} (h : P (.ret .none ρ)) : E1 Γ V ρ (.Return none pos) P X := fun Y ok φ s Q E hE S p =>
  wpAny_Return_none (p.rt .none _ ρ φ s h rfl (.refl S))
theorem e1_break {pos : Pos} {P : Out → Prop} (h : P (.brk ρ)) : E1 Γ V ρ (.Break pos) P X := fun Y ok φ s Q E hE S p => by
  show wpAny _ _ (do standAt pos; pure Flow.brk) _ _ _
  exact wpAny_bind (wpAny_standAt (wpAny_pure (p.bk ρ φ s h (.refl S))))
theorem e1_if {t : Expr} {body orelse : List Stmt} {pos : Pos} {P : Out → Prop} (h : Et Γ V ρ t (fun c ρ₁ => (c = true → Ex Γ V ρ₁ body P X) ∧ (c = false → Ex Γ V ρ₁ orelse P X)) X) : E1 Γ V ρ (.If t body orelse pos) P X := fun Y ok φ s Q E hE S p =>
  wpAny_If (h Y ok φ s _ E S ⟨fun c ρ₁ φ₁ s₁ hb n₁ => by
    cases c with
    | true => exact hb.1 rfl Y ok φ₁ s₁ Q E hE n₁.2.2 (p.after n₁)
    | false => exact hb.2 rfl Y ok φ₁ s₁ Q E hE n₁.2.2 (p.after n₁), p.er⟩)

/-- an own list that will not be changed any more -/
theorem ex_freeze {x : String} {a : Addr} {l : List PV} {ss : List Stmt} {P : Out → Prop} (hg : get x ρ = some (.own a l)) (h : Ex Γ V (upd x (.val (.list l)) ρ) ss P X) : Ex Γ V ρ ss P X := fun Y ok φ s Q E hE S p => by
  obtain ⟨m, hns, hv⟩ := S.vars
  obtain ⟨w, hw, rfl, vs, k, ha, hr⟩ := hv x _ (mem_of_get hg)
  have hm : a ∈ foot ρ := foot_mem (mem_of_get hg) (.head _)
  have O := S.off a (List.mem_append_right _ hm)
  have hnd := List.nodup_append.mp S.apart
  have hoff := foot_upd_off (v := .list l) hg (a := a) (.head _) hnd.2.1
  have S₁ : St Y (del x ρ) φ s.heap := S.sub (foot_del_sub x ρ) (fun m' y sl _ hv' hm' => hv' y sl (mem_del hm').2) fun y b l' hm' => S.ob y b l' (mem_del hm').2
  have hoff' : a ∉ Y.lw ++ foot (del x ρ) := fun hq => by
    rcases List.mem_append.mp hq with hq | hq
    · exact hnd.2.2 a hq a hm rfl
    · refine hoff ?_
      obtain ⟨y, t, hm', hf⟩ := foot_inv hq
      exact (foot_del_upd x (.list l) ρ).subset hq
  have S₂ := S₁.freeze ha O.2.1 hoff' O.2.2 (S.ob _ _ _ (mem_of_get hg))
  have S₃ : St Y (upd x (.val (.list l)) ρ) (φ.add a (lobj vs k)) s.heap := by
    refine S₂.sub (foot_upd_del x (.list l) ρ) (fun m' y sl hn' hv' hm' => ?_) fun y b l' hm' => ?_
    · rcases mem_upd hm' with ⟨rfl, rfl⟩ | ⟨ne, hm'⟩
      · obtain ⟨w', hw', r'⟩ := hv y (.own a l) (mem_of_get hg)
        exact ⟨.ref a, by rw [Ns_unique hn' hns]; exact hw, a, vs, k, rfl, PH.add_self _ _ _, Reps.mono (PH.add_le O.2.1) _ _ hr⟩
      · exact hv' y sl (mem_del_of ne hm')
    · rcases mem_upd hm' with ⟨_, e⟩ | ⟨ne, hm'⟩
      · cases e
      · exact S.ob y b l' hm'
  exact h Y ok _ s Q E hE S₃ (p.after (ρ₁ := upd x (.val (.list l)) ρ) ⟨⟨s.heap, s.toks, rfl⟩, PH.add_le O.2.1, S₃⟩)
end
end Mine
set_option Elab.async false
set_option maxRecDepth 10000
set_option linter.unusedVariables false
namespace Mine
open PySem PySem.W PySem.Calls PySem.Spec PyProof.Rows

section
variable {Y : Lo} {ρ : Rho} {φ : PH} {h h' : Heap}
/-- an object that the state does not speak of is written -/
theorem St.other (S : St Y ρ φ h) {J : Addr} (hs : ∀ b o, b ≠ J → h.get? b = some o → h'.get? b = some o) (h1 : Y.κ J = none) (h2 : φ J = none) (h3 : J ∉ Y.FS) (h4 : J ∉ Y.lw ++ foot ρ) (h5 : J ≠ Y.env.locals) (h6 : ∀ x c, Y.env.cells.lookup x = some c → c ≠ J) (h7 : ¬ Y.ban J) : St Y ρ φ h' where
  kk := fun a o e => hs a o (fun q => by rw [q, h1] at e; cases e) (S.kk a o e)
  ff := fun a m => let ⟨o, e, d⟩ := S.ff a m; ⟨o, hs a o (fun q => h3 (q ▸ m)) e, d⟩
  fz := fun a o e => hs a o (fun q => by rw [q, h2] at e; cases e) (S.fz a o e)
  fr := S.fr
  bz := fun a e => let ⟨o, q⟩ := S.bz a e; ⟨o, hs a o (fun z => h7 (z ▸ e)) q⟩
  ob := S.ob
  vars := by
    obtain ⟨m, hn, hv⟩ := S.vars
    refine ⟨m, hn.at' fun o e => hs _ o (Ne.symm h5) e, fun x sl q => ?_⟩
    obtain ⟨w, a, b⟩ := hv x sl q
    exact ⟨w, a.keep fun c o e k => hs c o (h6 _ _ e) k, b.keep fun c hc o k => hs c o (fun z => h4 (z ▸ List.mem_append_right _ (foot_mem q hc))) k⟩
  cells := fun x c e => let ⟨v, o, q, d⟩ := S.cells x c e; ⟨v, o, hs c o (h6 _ _ e) q, d⟩
  lws := fun a m => let ⟨o, e⟩ := S.lws a m; ⟨o, hs a o (fun z => h4 (z ▸ List.mem_append_left _ m)) e⟩
  apart := S.apart
  off := S.off
  offF := S.offF

/-- an object that a body must leave alone -/
noncomputable def Lo.shield (Y : Lo) (J : Addr) (o : Obj) : Lo := { Y with κ := fun a => if a = J then some o else Y.κ a, ban := fun a => a = J ∨ Y.ban a }
theorem St.shield (S : St Y ρ φ h) {J : Addr} {o : Obj} (hJ : h.get? J = some o) (h2 : φ J = none) (h3 : J ∉ Y.FS) (h4 : J ∉ Y.lw ++ foot ρ) : St (Y.shield J o) ρ φ h where
  kk := fun a p e => by
    by_cases q : a = J
    · subst q
      rw [show (Y.shield a o).κ a = some o from if_pos rfl] at e
      cases e; exact hJ
    · rw [show (Y.shield J o).κ a = Y.κ a from if_neg q] at e
      exact S.kk a p e
  ff := S.ff
  fz := S.fz
  fr := fun a p e => by
    rintro (rfl | q)
    · rw [h2] at e; cases e
    · exact S.fr a p e q
  bz := fun a e => by
    rcases e with rfl | e
    · exact ⟨_, hJ⟩
    · exact S.bz a e
  ob := fun x a l m => by
    rintro (rfl | q)
    · exact h4 (List.mem_append_right _ (foot_mem m (.head _)))
    · exact S.ob x a l m q
  vars := S.vars
  cells := S.cells
  lws := S.lws
  apart := S.apart
  off := fun a ha => ⟨by rw [show (Y.shield J o).κ a = Y.κ a from if_neg fun (q : a = J) => h4 (q ▸ ha)]; exact (S.off a ha).1, (S.off a ha).2⟩
  offF := fun a ha => ⟨by rw [show (Y.shield J o).κ a = Y.κ a from if_neg fun (q : a = J) => h3 (q ▸ ha)]; exact (S.offF a ha).1, (S.offF a ha).2⟩
theorem St.unshield {J : Addr} {o : Obj} (S : St (Y.shield J o) ρ φ h) (h1 : Y.κ J = none) : St Y ρ φ h ∧ h.get? J = some o ∧ φ J = none ∧ J ∉ Y.lw ++ foot ρ := by
  have hJ : J ∉ Y.lw ++ foot ρ := fun hm => by
    have := (S.off J hm).1
    rw [show (Y.shield J o).κ J = some o from if_pos rfl] at this
    cases this
  have hF : J ∉ Y.FS := fun hm => by
    have := (S.offF J hm).1
    rw [show (Y.shield J o).κ J = some o from if_pos rfl] at this
    cases this
  refine ⟨⟨fun a p e => ?_, S.ff, S.fz, fun a p e q => S.fr a p e (.inr q), fun a e => S.bz a (.inr e), fun x a l m q => S.ob x a l m (.inr q), S.vars, S.cells, S.lws, S.apart, fun a ha => ⟨?_, (S.off a ha).2⟩, fun a ha => ⟨?_, (S.offF a ha).2⟩⟩, S.kk J o (if_pos rfl), ?_, hJ⟩
  · refine S.kk a p ?_
    rw [show (Y.shield J o).κ a = Y.κ a from if_neg fun q => by rw [q, h1] at e; cases e]
    exact e
  · have := (S.off a ha).1
    rwa [show (Y.shield J o).κ a = Y.κ a from if_neg fun (q : a = J) => hJ (q ▸ ha)] at this
  · have := (S.offF a ha).1
    rwa [show (Y.shield J o).κ a = Y.κ a from if_neg fun (q : a = J) => hF (q ▸ ha)] at this
  · cases e : φ J with
    | none => rfl
    | some p => exact absurd (Or.inl rfl) (S.fr J p e)
end

section
variable {Γ : Gx} {V : Va} {ρ : Rho} {X : Exn → Rho → Prop}
theorem Ok.shield {Y : Lo} (ok : Ok Γ V Y) {J : Addr} {o : Obj} (h1 : Y.κ J = none) : Ok Γ V (Y.shield J o) :=
  have kp : ∀ {a p}, Y.κ a = some p → (Y.shield J o).κ a = some p := fun {a p} e => (show (Y.shield J o).κ a = Y.κ a from if_neg fun (q : a = J) => (by rw [q, h1] at e; cases e)).trans e
  { ok with
    gb := fun a p e => kp (ok.gb a p e)
    wr := fun q => ⟨(ok.wr q).1, fun x c e => ((ok.wr q).2 x c e).imp id fun z => ⟨z.1, z.2.imp fun _ => kp⟩⟩
    hx := fun e q => ⟨(ok.hx e q).1, let ⟨o, vs, a, b⟩ := (ok.hx e q).2; ⟨o, vs, kp a, b⟩⟩ }
theorem Off.unshield {Y : Lo} {ρ : Rho} {φ : PH} {J I : Addr} {o : Obj} (h : Off (Y.shield J o) ρ φ I) : Off Y ρ φ I :=
  ⟨(by
    have k := h.κ
    by_cases q : I = J
    · rw [show (Y.shield J o).κ I = some o from if_pos q] at k; cases k
    · rwa [show (Y.shield J o).κ I = Y.κ I from if_neg q] at k), h.φ, h.FS, h.foot, h.loc, h.cells, fun q => h.ban (.inr q)⟩
theorem ExnAt.unshield {Y : Lo} {ρ : Rho} {φ : PH} {x : Exn} {e : Value} {s : Shared} {J : Addr} {o : Obj} (h : ExnAt (Y.shield J o) ρ φ x e s) : ExnAt Y ρ φ x e s :=
  let ⟨a, d, T, e1, f, o1, o2, o3⟩ := h; ⟨a, d, T, e1, f, o1.unshield, o2.unshield, fun t ht => (o3 t ht).unshield⟩
theorem Nx.unshield {Y : Lo} {φ φ' φ₀ : PH} {ρ' ρ₁ : Rho} {s₀ s s' : Shared} {J : Addr} {o : Obj} (n₀ : Nx Y φ₀ ρ₁ φ s₀ s) (n : Nx (Y.shield J o) φ ρ' φ' s s') (h1 : Y.κ J = none) : Nx Y φ₀ ρ' φ' s₀ s' := by
  obtain ⟨⟨h', tk, rfl⟩, l, S⟩ := n
  obtain ⟨⟨h'', tk', rfl⟩, l', _⟩ := n₀
  exact ⟨⟨h', tk, rfl⟩, l'.trans l, (S.unshield h1).1⟩

/-- a for loop over written values, turn by turn -/
noncomputable def For (Γ : Gx) (V : Va) (X : Exn → Rho → Prop) (x : String) (body : List Stmt) (P : Out → Prop) : List PV → Rho → Prop
  | [], ρ => P (.next ρ)
  | v :: vs, ρ => Ex Γ V (upd x (.val v) ρ) body (fun o => match o with
      | .next ρ' => For Γ V X x body P vs ρ'
      | .cont ρ' => For Γ V X x body P vs ρ'
      | .brk ρ' => P (.next ρ')
      | .ret v ρ' => P (.ret v ρ')) X

theorem for_sound {x : String} {px : Pos} {body : List Stmt} {P : Out → Prop} {Y : Lo} (ok : Ok Γ V Y) {I : Addr} {fp : List Addr} {n : Nat} {PW : Nat → Value → Prop} {StW : Nat → Heap → Prop} (W : Walks Γ.prog Γ.w V.A I fp [I] n PW StW)
    {l : List PV} (hn : n = l.length) {φ φ₀ : PH} {s s₀ : Shared} {Q : Flow → Shared → Prop} {E : Value → Shared → Prop} (hE : PassesAll (model Γ.prog Γ.w) V.A V.env E)
    (nx : Nx Y φ₀ ρ φ s₀ s) (hP : ∀ i v p, PW i v → l[i]? = some p → Rep φ p v) (hst : StW 0 s.heap) (hfp : ∀ b ∈ fp, b = I ∨ ∃ o, φ b = some o)
    (h1 : Y.κ I = none) (h2 : φ I = none) (h3 : I ∉ Y.FS) (h4 : I ∉ Y.lw ++ foot ρ) (h5 : I ≠ Y.env.locals) (h6 : ∀ x c, Y.env.cells.lookup x = some c → c ≠ I) (h7 : ¬ Y.ban I) (hex : ∀ i h, StW i h → ∃ o, h.get? I = some o)
    (hst' : V.st = true) (hcs : canStore V.env x = true)
    (hf : For Γ V X x body P l ρ) (p : PostS Y φ₀ s₀ P X Q E) :
    codeAny (model Γ.prog Γ.w) V.A (.forLoop (.Name (Str.ofString x) px) (.ref I) body [] V.env) (fun r s' => match r with | .ok f => Q f s' | .error e => cameBackBy (model Γ.prog Γ.w) V.A V.env E e s') s := by
  subst hn
  refine codeAny_forLoop (fun k s' => ∃ i ρ' φ', k = l.length + 1 - i ∧ i ≤ l.length ∧ For Γ V X x body P (l.drop i) ρ' ∧ Nx Y φ₀ ρ' φ' s₀ s' ∧ φ.le φ' ∧ StW i s'.heap ∧ φ' I = none ∧ I ∉ Y.lw ++ foot ρ') ?_ (l.length + 1)
    ⟨0, ρ, φ, rfl, Nat.zero_le _, hf, nx, .refl _, hst, h2, h4⟩
  rintro k s' ⟨i, ρ', φ', rfl, hi, hfor, n', hle, hst₁, hI2, hI4⟩
  have S' := n'.2.2
  have next : ∀ h₁ tk, (∀ b o, b ∉ [I] → s'.heap.get? b = some o → h₁.get? b = some o) → Nx Y φ₀ ρ' φ' s₀ { s' with heap := h₁, toks := tk } := fun h₁ tk hk => by
    obtain ⟨⟨hh, tt, rfl⟩, le, _⟩ := n'
    exact ⟨⟨h₁, tk, rfl⟩, le, S'.other (fun b o ne e => hk b o (fun hm => ne (List.mem_singleton.mp hm)) e) h1 hI2 h3 hI4 h5 h6 h7⟩
  by_cases hlt : i < l.length
  · refine W.item i _ _ _ hlt hst₁ fun v h₁ tk₁ hPv hst₂ hk₁ => ?_
    have n₁ := next h₁ tk₁ hk₁
    have e : l.drop i = l[i] :: l.drop (i + 1) := List.drop_eq_getElem_cons hlt
    rw [e] at hfor
    have hr : Rep φ' l[i] v := Rep.mono hle _ _ (hP i v l[i] hPv (by simp [hlt]))
    obtain ⟨o₁, ho₁⟩ := hex _ _ hst₂
    have S₁ : St (Y.shield I o₁) ρ' φ' h₁ := n₁.2.2.shield ho₁ hI2 h3 hI4
    refine wpAny_assign_Name (store_val (ok.shield h1) (φ := φ') (s := { s' with heap := h₁, toks := tk₁ }) (.refl S₁) hst' hcs hr fun s₂ n₂ => ?_)
    -- the body leaves the iterator alone
    have back : ∀ {ρ'' : Rho} {φ'' : PH} {s₃ : Shared}, Nx (Y.shield I o₁) φ' ρ'' φ'' s₂ s₃ → Nx Y φ₀ ρ'' φ'' s₀ s₃ := fun n₃ => Nx.unshield n₁ (n₂.trans n₃) h1
    have again : ∀ {ρ'' : Rho} {φ'' : PH} {s₃ : Shared}, For Γ V X x body P (l.drop (i + 1)) ρ'' → Nx (Y.shield I o₁) φ' ρ'' φ'' s₂ s₃ →
        ∃ m, m < l.length + 1 - i ∧ ∃ j ρ' φ', m = l.length + 1 - j ∧ j ≤ l.length ∧ For Γ V X x body P (l.drop j) ρ' ∧ Nx Y φ₀ ρ' φ' s₀ s₃ ∧ φ.le φ' ∧ StW j s₃.heap ∧ φ' I = none ∧ I ∉ Y.lw ++ foot ρ' := fun {ρ'' φ'' s₃} hf n₃ => by
      obtain ⟨u1, u2, u3, u4⟩ := St.unshield n₃.2.2 h1
      refine ⟨l.length + 1 - (i + 1), by omega, i + 1, ρ'', φ'', rfl, hlt, hf, back n₃, hle.trans n₃.2.1, W.frame _ _ _ hst₂ (fun b hb o e => ?_), u3, u4⟩
      rcases hfp b hb with rfl | ⟨o', eo⟩
      · rw [ho₁] at e; cases e; exact u2
      · have e1 := n₁.2.2.fz b o' (hle _ _ eo)
        rw [show ({ s' with heap := h₁, toks := tk₁ } : Shared).heap = h₁ from rfl, e] at e1
        cases e1
        exact n₃.2.2.fz b o (n₃.2.1 _ _ (hle _ _ eo))
    refine wpAny_passesOwn hE.own (hfor (Y.shield I o₁) (ok.shield h1) φ' s₂ _ E hE n₂.2.2 ⟨fun ρ'' φ'' s₃ a n₃ => again a n₃, fun ρ'' φ'' s₃ a n₃ => p.nx _ _ _ a (back n₃), fun ρ'' φ'' s₃ a n₃ => again a n₃,
      fun v val ρ'' φ'' s₃ a b n₃ => p.rt _ _ _ _ _ a b (back n₃), fun x e ρ'' φ'' s₃ a b n₃ => p.er _ _ _ _ _ a b.unshield (back n₃)⟩)
  · have hin : i = l.length := by omega
    subst hin
    rw [List.drop_length] at hfor
    refine W.done _ _ _ hst₁ fun h₁ tk₁ hk₁ => wpAny_execs_nil ?_
    exact p.nx _ _ _ hfor (next h₁ tk₁ hk₁)
end
end Mine
set_option Elab.async false
set_option maxRecDepth 10000
set_option linter.unusedVariables false
namespace Mine
open PySem PySem.W PySem.Calls PySem.Spec PyProof.Rows

noncomputable def NameIs (Γ : Gx) (x : String) (v : Value) : Prop :=
  nsIn Γ.K mainGlobals (Str.ofString x) = some (some v) ∨ (nsIn Γ.K mainGlobals (Str.ofString x) = some none ∧ bootBuiltins (Str.ofString x) = some v ∧ Str.ofString x ≠ "__name__")

section
variable {Γ : Gx} {V : Va} {ρ : Rho} {X : Exn → Rho → Prop}
theorem St.base {Y : Lo} {φ : PH} {h : Heap} (ok : Ok Γ V Y) (S : St Y ρ φ h) : ∀ b o, Γ.hB.get? b = some o → h.get? b = some o := fun b o e => S.kk b o (ok.gb b o e)
theorem name_sound {Y : Lo} {φ : PH} {s : Shared} {Q E : Value → Shared → Prop} {x : String} {v : Value} {pos : Pos} (ok : Ok Γ V Y) (S : St Y ρ φ s.heap) (hN : NameIs Γ x v) (hk : V.env.kindOf (Str.ofString x) = some .globalImplicit) (h : Q v s) (hd : plainName x = true) :
    wpAny (model Γ.prog Γ.w) V.A (eval (.Name (Str.ofString x) pos) V.env) Q E s := by
  have k := S.base ok
  have g : s.heap.Ns V.env.globals Γ.mg := by rw [ok.glb]; exact Γ.top.g.keeps k
  have b : s.heap.Ns V.env.builtins Γ.mb := by rw [ok.bns]; exact Γ.top.b.keeps k
  refine Name_function_global ok.fk hk ?_ (plainName_of hd).2
  rcases hN with e | ⟨e, hb, hn⟩
  · exact loadGlobal_global g (mg_of Γ.kin Γ.top.g e) h
  · exact loadGlobal_builtin g (mg_none_of Γ.kin Γ.top.g e) b ((Γ.top.builtins _ hn).trans hb) h

/-- a call of a built-in function or type by its name -/
noncomputable def plainCallee : Value → Bool
  | .builtin _ => true
  | .type _ => true
  | _ => false
theorem keeper_plain {f : Value} (h : plainCallee f = true) : keeperOf f = pure .machine := by
  cases f <;> first | rfl | cases h
theorem callWith_plain {M : Model} {A : Around} {E : Value → Shared → Prop} {s : Shared} {pos : Pos} {f : Value} {args : List (Bool × Sem Value)} {Q : Value → Shared → Prop} (hf : plainCallee f = true) (hplain : args.any (·.1) = false)
    (h : wpAny M A (evalArgs f true args []) (fun a s₁ => wpAny M A (call f ([] ++ a.pos) a.kw) Q E s₁) E s) : wpAny M A (callWith pos f [] args []) Q E s :=
  callWith_of (P := fun _ => True) (by rw [hplain]; rfl) (fun h _ => ⟨.machine, .inr (.inl rfl), Looks.of_pure (keeper_plain hf)⟩) (wpAny_mono h (fun _ _ z => ⟨trivial, z⟩) fun _ _ z => z)
theorem backTo_plain {pos : Pos} {env : Env} : ∀ {es : List Expr}, es.all (fun e => !isStar e) = true → (backTo pos (starEach es env)).any (·.1) = false
  | [], _ => rfl
  | e :: es, h => by
    simp only [List.all_cons, Bool.and_eq_true, Bool.not_eq_true'] at h
    rw [starEach_cons h.1]
    have := backTo_plain (pos := pos) (env := env) (es := es) (by simpa using h.2)
    unfold backTo at this ⊢
    rw [List.map_cons, List.any_cons, this]
    rfl
theorem arm_call {f : Expr} {args : List Expr} {kws : List Keyword} {pos : Pos} {env : Env} (h : (match f with | .Attribute .. => false | _ => true) = true) :
    eval (.Call f args kws pos) env = (do callWith pos (← eval f env) [] (backTo pos (starEach args env)) (backToKw pos (keywordEach kws env))) := by
  cases f <;> first | rfl | cases h
/-- a call with positional arguments, by the callee's own rule -/
theorem call_sound {Y : Lo} {φ : PH} {s : Shared} {Q E : Value → Shared → Prop} {x : String} {f : Value} {e : Expr} {es : List Expr} {npos pos : Pos} {P : List PV → Rho → Prop} (ok : Ok Γ V Y) (S : St Y ρ φ s.heap) (hN : NameIs Γ x f) (hk : V.env.kindOf (Str.ofString x) = some .globalImplicit) (hf : plainCallee f = true)
    (hs : (e :: es).all (fun e => !isStar e) = true) (hargs : Evs Γ V X (e :: es) ρ P) (hd : plainName x = true)
    (k : ∀ l vs ρ' φ' s', P l ρ' → Reps φ' l vs → Nx Y φ ρ' φ' s s' → wpAny (model Γ.prog Γ.w) V.A (call f vs) Q E s') (ke : ∀ x e ρ' φ' s', X x ρ' → ExnAt Y ρ' φ' x e s' → Nx Y φ ρ' φ' s s' → E e s') :
    wpAny (model Γ.prog Γ.w) V.A (eval (.Call (.Name (Str.ofString x) npos) (e :: es) [] pos) V.env) Q E s := by
  rw [arm_call rfl]
  refine wpAny_bind (name_sound ok S hN hk ?_ hd)
  show wpAny _ _ (callWith pos f [] (backTo pos (starEach (e :: es) V.env)) []) _ _ _
  refine callWith_plain hf (backTo_plain hs) ?_
  have sp := spliced_sound (pos := pos) ok (e :: es) ρ P φ s (fun vs s' => wpAny (model Γ.prog Γ.w) V.A (call f vs) Q E s') hs hargs S (fun l vs ρ' φ' s' a b c => k l vs ρ' φ' s' a b c) ke
  simp only [List.all_cons, Bool.and_eq_true, Bool.not_eq_true'] at hs
  rw [starEach_cons hs.1] at sp ⊢
  exact evalArgs_plain sp

/-- built-in functions of one plain argument -/
noncomputable def sumOf : List PV → Option Int
  | [] => some 0
  | .int i :: r => (sumOf r).map (i + ·)
  | _ :: _ => none
noncomputable def Call1 (f : Value) (x : PV) (P : PV → Prop) : Prop := match f, x with
  | .builtin "len", .str s => s.length ≤ 1000000 ∧ P (.int s.length)
  | .builtin "len", .bytes s => s.length ≤ 1000000 ∧ P (.int s.length)
  | .builtin "len", .list s => s.length ≤ 1000000 ∧ P (.int s.length)
  | .builtin "chr", .int i => (0 ≤ i ∧ i < 55296) ∧ P (.str [i.toNat])
  | .builtin "ord", .str [c] => P (.int c)
  | _, _ => False
theorem call1_sound {prog : Program} {w : World} {A : Around} {E : Value → Shared → Prop} {s : Shared} {Q : Value → Shared → Prop} {f : Value} {x : PV} {φ : PH} {vx : Value} {P : PV → Prop} (hb : Call1 f x P) (hx : Rep φ x vx) (hφ : ∀ a o, φ a = some o → s.heap.get? a = some o)
    (h : ∀ z v tk, P z → Rep φ z v → Q v { s with toks := tk }) : wpAny (model prog w) A (call f [vx]) Q E s := by
  unfold Call1 at hb
  split at hb
  · obtain ⟨t, rfl⟩ := hx
    refine PySem.P.len_str (by simp only [Str.length, List.size_toArray]; omega) ?_
    exact h _ _ _ hb.2 ⟨s.toks + 1, by simp [Str.length]⟩
  · obtain ⟨t, rfl⟩ := hx
    refine PySem.W.len_bytes (by rw [List.size_toArray]; omega) ?_
    exact h _ _ _ hb.2 ⟨s.toks + 1, by simp⟩
  · obtain ⟨a, vs, n, rfl, ha, hr⟩ := hx
    refine call_len_list (isList_of (hφ _ _ ha)) (by rw [List.size_toArray, hr.length]; omega) ?_
    exact h _ _ _ hb.2 ⟨_, by rw [List.size_toArray, hr.length]⟩
  · obtain ⟨t, rfl⟩ := hx
    obtain ⟨⟨h1, h2⟩, hp⟩ := hb
    exact PySem.P.chr_of_int (by rw [decide_eq_false (by omega), decide_eq_false (by omega)]; rfl) (h _ _ _ hp ⟨_, rfl⟩)
  · obtain ⟨t, rfl⟩ := hx
    exact PySem.P.ord_of_char (h _ _ _ hb ⟨_, rfl⟩)
  · cases hb
theorem ev_call1 {x : String} {f : Value} {e : Expr} {npos pos : Pos} {P : PV → Rho → Prop} (hN : NameIs Γ x f) (h : Ev Γ V ρ e (fun v ρ' => Call1 f v (fun z => P z ρ')) X) (hk : V.env.kindOf (Str.ofString x) = some .globalImplicit := by kernel_rfl)
    (hf : plainCallee f = true := by rfl) (hs : isStar e = false := by rfl) (hd : plainName x = true := by decide +kernel) : Ev Γ V ρ (.Call (.Name (Str.ofString x) npos) [e] [] pos) P X := fun Y ok φ s Q E S p =>
  call_sound (P := fun l ρ' => ∃ v, l = [v] ∧ Call1 f v (fun z => P z ρ')) ok S hN hk hf (by simp [hs]) (ev_mono h fun v ρ' a => ⟨v, rfl, a⟩) hd (fun l vs ρ' φ' s' a r n => by
    obtain ⟨v, rfl, hv⟩ := a
    obtain ⟨w, _, rfl, r1, r2⟩ := r
    rw [show _ = [] from r2]
    exact call1_sound hv r1 n.2.2.fz fun z v tk hp rz => p.ok z v ρ' φ' _ hp rz (n.trans (.of n.2.2 tk))) p.er

/-- what a for or a comprehension goes over -/
theorem St.offNew {Y : Lo} {φ : PH} {h : Heap} (S : St Y ρ φ h) {I : Addr} (hI : h.get? I = none) : Off Y ρ φ I := by
  have F := S.fresh hI
  refine ⟨F.1, F.2.1, F.2.2.1, F.2.2.2.1, fun q => ?_, fun x c e q => ?_, F.2.2.2.2⟩
  · obtain ⟨m, ⟨o, _, _, e, _⟩, _⟩ := S.vars
    rw [← q, hI] at e; cases e
  · obtain ⟨v, o, z, _⟩ := S.cells x c e
    rw [q, hI] at z; cases z

structure PostI (Γ : Gx) (V : Va) (Y : Lo) (φ : PH) (s : Shared) (P : List PV → Rho → Prop) (X : Exn → Rho → Prop) (Q E : Value → Shared → Prop) : Prop where
  ok : ∀ l ρ' φ' s' I fp PW StW, P l ρ' → Nx Y φ ρ' φ' s s' → (∀ A', A'.handled = none → Walks Γ.prog Γ.w A' I fp [I] l.length PW StW) → (∀ i v p, PW i v → l[i]? = some p → Rep φ' p v) → StW 0 s'.heap → (∀ b ∈ fp, b = I ∨ ∃ o, φ' b = some o) → Off Y ρ' φ' I →
    (∀ i h, StW i h → ∃ o, h.get? I = some o) → l.length ≤ 1000000 → Q (.ref I) s'
  er : ∀ x e ρ' φ' s', X x ρ' → ExnAt Y ρ' φ' x e s' → Nx Y φ ρ' φ' s s' → E e s'
noncomputable def Iter (Γ : Gx) (V : Va) (ρ : Rho) (e : Expr) (P : List PV → Rho → Prop) (X : Exn → Rho → Prop) : Prop :=
  ∀ Y, Ok Γ V Y → ∀ φ s Q E, St Y ρ φ s.heap → PostI Γ V Y φ s P X Q E → wpAny (model Γ.prog Γ.w) V.A (eval e V.env) (fun xv s₁ => wpAny (model Γ.prog Γ.w) V.A (pyIter xv) Q E s₁) E s

noncomputable def itemsOf : PV → Option (List PV)
  | .list l => some l
  | .str s => some (s.map fun c => .str [c])
  | _ => none
theorem iter_val {e : Expr} {P : List PV → Rho → Prop} (h : Ev Γ V ρ e (fun v ρ' => ∃ l, itemsOf v = some l ∧ l.length ≤ 1000000 ∧ P l ρ') X) : Iter Γ V ρ e P X := fun Y ok φ s Q E S p => by
  refine h Y ok φ s _ E S ⟨fun v val ρ' φ' s' a r n => ?_, p.er⟩
  obtain ⟨l, hl, hlen, hp⟩ := a
  have S' := n.2.2
  cases v with
  | list l' =>
    cases hl
    obtain ⟨a, vs, k, rfl, ha, hr⟩ := r
    have hg := S'.fz _ _ ha
    have hlist := isList_of hg
    refine wpAny_pyIter_list hlist ?_
    have hne : a ≠ s'.heap.objs.size := Nat.ne_of_lt (Heap.lt_size hg)
    have W := fun A' (hA : A'.handled = none) => Walks.list (prog := Γ.prog) (w := Γ.w) (A := A') hA s'.heap.objs.size a hne vs.toArray
    have hsz : vs.toArray.size = l.length := by rw [List.size_toArray, hr.length]
    rw [hsz] at W
    have S₂ := S'.push { cls := .type "list_iterator", data := .fields #[.ref a, .int 0 0] }
    refine p.ok l ρ' φ' _ s'.heap.objs.size [s'.heap.objs.size, a] _ _ hp (n.trans ⟨⟨_, s'.toks, rfl⟩, .refl _, S₂⟩) W (fun i v q hv hq => ?_) ⟨⟨_, Heap.get?_push_size _ rfl, rfl, rfl⟩, hlist.push _⟩ (fun b hb => ?_) ?_ (fun i h st => let ⟨⟨o, e, _⟩, _⟩ := st; ⟨o, e⟩) hlen
    · obtain ⟨w, hw, hrw⟩ := hr.get hq
      have hv' : vs[i]? = some v := by simpa using hv
      rw [hw] at hv'
      cases hv'
      exact hrw
    · rcases List.mem_cons.mp hb with rfl | hb
      · exact .inl rfl
      · rw [List.mem_singleton.mp hb]; exact .inr ⟨_, ha⟩
    · exact S'.offNew (none_at_end _ 0)
  | str x =>
    cases hl
    obtain ⟨t, rfl⟩ := r
    have hsz : (⟨x.toArray⟩ : Str).cps.size = (x.map fun c => PV.str [c]).length := by simp
    have fin : ∀ (o : Obj) (StW : Nat → Heap → Prop), (∀ A', A'.handled = none → Walks Γ.prog Γ.w A' s'.heap.objs.size [s'.heap.objs.size] [s'.heap.objs.size] (x.map fun c => PV.str [c]).length (SignAt ⟨x.toArray⟩) StW) → StW 0 (s'.heap.push o) →
        (∀ i h, StW i h → ∃ o, h.get? s'.heap.objs.size = some o) → Q (.ref s'.heap.objs.size) { s' with heap := s'.heap.push o } := fun o StW W hst hex => by
      refine p.ok _ ρ' φ' _ s'.heap.objs.size [s'.heap.objs.size] _ _ hp (n.trans ⟨⟨_, s'.toks, rfl⟩, .refl _, S'.push o⟩) W (fun i v q hv hq => ?_) hst (fun b hb => .inl (List.mem_singleton.mp hb)) (S'.offNew (none_at_end _ 0)) hex hlen
      obtain ⟨c, u, hc, rfl⟩ := hv
      rw [List.getElem?_map] at hq
      have hc' : x[i]? = some c := by simpa using hc
      rw [hc'] at hq
      cases hq
      exact ⟨u, rfl⟩
    cases ha : (⟨x.toArray⟩ : Str).cps.all (· < 128) with
    | false => exact wpAny_pyIter_wide ha (fin _ _ (fun A' hA => hsz ▸ Walks.strWide hA _ _ t) ⟨_, Heap.get?_push_size _ rfl, rfl, rfl⟩ fun i h st => let ⟨o, e, _⟩ := st; ⟨o, e⟩)
    | true => exact wpAny_pyIter_ascii ha (fin _ _ (fun A' hA => hsz ▸ Walks.strAscii hA _ _ t) ⟨_, Heap.get?_push_size _ rfl, rfl, rfl⟩ fun i h st => let ⟨o, e, _⟩ := st; ⟨o, e⟩)
  | _ => cases hl
end
end Mine
set_option Elab.async false
set_option maxRecDepth 10000
set_option linter.unusedVariables false
namespace Mine
open PySem PySem.W PySem.Calls PySem.Spec PyProof.Rows

section
variable {Γ : Gx} {V : Va} {ρ : Rho} {X : Exn → Rho → Prop}

theorem small_ok {a b : Int} (h : -1000000 ≤ a ∧ a ≤ 1000000 ∧ -1000000 ≤ b ∧ b ≤ 1000000) : Builtin.Range.small a b 1 = true ∧ Builtin.Range.rangeSize a b 1 = ((b - a).toNat : Int) := by
  obtain ⟨h1, h2, h3, h4⟩ := h
  have hs : Builtin.Range.rangeSize a b 1 = ((b - a).toNat : Int) := by
    unfold Builtin.Range.rangeSize
    rw [if_pos (by omega)]
    by_cases h : a < b
    · rw [if_pos h]; omega
    · rw [if_neg h]; omega
  refine ⟨?_, hs⟩
  unfold Builtin.Range.small
  rw [hs]
  simp only [Builtin.Range.rangeFitsLong, Bool.and_eq_true, Bool.or_eq_true, decide_eq_true_eq, beq_iff_eq]
  refine ⟨⟨⟨⟨?_, ?_⟩, ?_⟩, ?_⟩, .inr ?_⟩
  all_goals first | (constructor <;> omega) | (rw [if_pos (by omega)]; simp only [Bool.and_eq_true, decide_eq_true_eq]; constructor <;> omega)

theorem range_sound {Y : Lo} {φ φ₀ : PH} {s s₀ : Shared} {Q E : Value → Shared → Prop} {P : List PV → Rho → Prop} (ok : Ok Γ V Y) (n : Nx Y φ₀ ρ φ s₀ s) (p : PostI Γ V Y φ₀ s₀ P X Q E) {a b : Int} {t u v : Tok} {r : Addr} {h' : Heap}
    (hk : ∀ b o, s.heap.get? b = some o → h'.get? b = some o) (hr : IsRange h' r a b 1 t u v) {tk : Nat} (hb : -1000000 ≤ a ∧ a ≤ 1000000 ∧ -1000000 ≤ b ∧ b ≤ 1000000) (hlen : (b - a).toNat ≤ 1000000) (hp : P ((List.range (b - a).toNat).map fun (i : Nat) => PV.int (a + i)) ρ) :
    wpAny (model Γ.prog Γ.w) V.A (pyIter (.ref r)) Q E { s with heap := h', toks := tk } := by
  obtain ⟨hs, hsz⟩ := small_ok hb
  refine wpAny_pyIter_range hr hs ?_
  have S' : St Y ρ φ h' := n.2.2.keeps hk
  have W := fun A' (hA : A'.handled = none) => Walks.range (prog := Γ.prog) (w := Γ.w) (A := A') hA h'.objs.size a 1 (b - a).toNat
  have hl : ((List.range (b - a).toNat).map fun (i : Nat) => PV.int (a + i)).length = (b - a).toNat := by simp
  rw [← hl] at W
  refine p.ok _ ρ φ _ h'.objs.size [h'.objs.size] _ _ hp (n.trans ⟨⟨_, tk, rfl⟩, .refl _, S'.push _⟩) W (fun i v q hv hq => ?_) ?_ (fun b hb => .inl (List.mem_singleton.mp hb)) (S'.offNew (none_at_end _ 0)) (fun i h st => ⟨_, st⟩) (by rw [hl]; exact hlen)
  · obtain ⟨t, rfl⟩ := hv
    rw [List.getElem?_map] at hq
    obtain ⟨j, hj, rfl⟩ := Option.map_eq_some_iff.mp hq
    have : j = i := by
      have := List.getElem?_eq_some_iff.mp hj
      obtain ⟨h1, h2⟩ := this
      simpa using h2.symm
    subst this
    exact ⟨t, by rw [Int.mul_one]⟩
  · show IsRangeIter _ _ _ _ _
    rw [hsz]
    have := Heap.get?_push_size h' (o := { cls := .type "range_iterator", data := .fields #[rawInt a, rawInt ((b - a).toNat : Int), rawInt 1] }) rfl
    rw [hl]
    simpa using this

theorem iter_range1 {e : Expr} {npos pos : Pos} {P : List PV → Rho → Prop} (hN : NameIs Γ "range" (.type "range")) (h : Ev Γ V ρ e (fun v ρ' => ∃ n : Int, v = .int n ∧ (0 ≤ n ∧ n ≤ 1000000) ∧ P ((List.range n.toNat).map fun (i : Nat) => PV.int i) ρ') X)
    (hk : V.env.kindOf (Str.ofString "range") = some .globalImplicit := by kernel_rfl) (hs : isStar e = false := by rfl) : Iter Γ V ρ (.Call (.Name (Str.ofString "range") npos) [e] [] pos) P X := fun Y ok φ s Q E S p => by
  refine call_sound (P := fun l ρ' => ∃ n : Int, l = [.int n] ∧ (0 ≤ n ∧ n ≤ 1000000) ∧ P ((List.range n.toNat).map fun (i : Nat) => PV.int i) ρ') ok S hN hk rfl (by simp [hs]) (ev_mono h fun v ρ' a => ?_) (by decide +kernel) (fun l vs ρ' φ' s' a r n => ?_) p.er
  · obtain ⟨n, rfl, a, b⟩ := a; exact ⟨n, rfl, a, b⟩
  · obtain ⟨k, rfl, hb, hp⟩ := a
    obtain ⟨w, _, rfl, ⟨t, rfl⟩, r2⟩ := r
    rw [show _ = [] from r2]
    refine call_range_1 ?_
    refine range_sound ok n p (fun b o e => Heap.get?_push_of_some _ e) (IsRange.new s'.heap 0 k 1 _ _ _) (by omega) (by omega) ?_
    simpa using hp
theorem e1_for {x : String} {px pos : Pos} {iter : Expr} {body : List Stmt} {P : Out → Prop} (h : Iter Γ V ρ iter (fun l ρ' => For Γ V X x body P l ρ') X) (hs : ∀ x, foldedSetIterable iter V.env x = pure x := by intro _; rfl)
    (hst : V.st = true := by rfl) (hc : canStore V.env x = true := by kernel_rfl) (hm : V.hm = false := by rfl) : E1 Γ V ρ (.For (.Name (Str.ofString x) px) iter body [] pos) P X := fun Y ok φ s Q E hE S p => by
  refine wpAny_For (h Y ok φ s _ E S ⟨fun l ρ' φ' s' I fp PW StW a n W hP h0 hfp off hex hlen => ?_, p.er⟩) hs
  exact for_sound ok (W V.A (ok.hh hm)) rfl hE n hP h0 hfp off.κ off.φ off.FS off.foot off.loc off.cells off.ban hex hst hc a p

theorem e1_while {t : Expr} {body : List Stmt} {pos : Pos} {P : Out → Prop} (I : Nat → Rho → Prop) (n : Nat) (h0 : I n ρ)
    (turn : ∀ n ρ, I n ρ → Et Γ V ρ t (fun c ρ₁ => (c = true → Ex Γ V ρ₁ body (fun o => match o with
      | .next ρ' => ∃ m, m < n ∧ I m ρ'
      | .cont ρ' => ∃ m, m < n ∧ I m ρ'
      | .brk ρ' => P (.next ρ')
      | .ret v ρ' => P (.ret v ρ')) X) ∧ (c = false → P (.next ρ₁))) X) : E1 Γ V ρ (.While t body [] pos) P X := fun Y ok φ s Q E hE S p => by
  refine wpAny_While (codeAny_whileLoop (fun k s' => ∃ ρ' φ', I k ρ' ∧ Nx Y φ ρ' φ' s s') (fun k s' hI => ?_) n ⟨ρ, φ, h0, .refl S⟩)
  obtain ⟨ρ', φ', hI, n'⟩ := hI
  refine wpAny_passesOwn hE.own (turn k ρ' hI Y ok φ' s' _ E n'.2.2 ⟨fun c ρ₁ φ₁ s₁ hc n₁ => ?_, fun x e ρ'' φ'' s'' a b c => p.er x e ρ'' φ'' s'' a b (n'.trans c)⟩)
  cases c with
  | true =>
    refine wpAny_passesOwn hE.own (hc.1 rfl Y ok φ₁ s₁ _ E hE n₁.2.2 ⟨fun ρ₂ φ₂ s₂ a n₂ => ?_, fun ρ₂ φ₂ s₂ a n₂ => ?_, fun ρ₂ φ₂ s₂ a n₂ => ?_, fun v val ρ₂ φ₂ s₂ a b n₂ => ?_, fun x e ρ'' φ'' s'' a b c => p.er x e ρ'' φ'' s'' a b ((n'.trans n₁).trans c)⟩)
    · obtain ⟨m, hm, hI⟩ := a
      exact ⟨m, hm, ρ₂, φ₂, hI, (n'.trans n₁).trans n₂⟩
    · exact p.nx _ _ _ a ((n'.trans n₁).trans n₂)
    · obtain ⟨m, hm, hI⟩ := a
      exact ⟨m, hm, ρ₂, φ₂, hI, (n'.trans n₁).trans n₂⟩
    · exact p.rt _ _ _ _ _ a b ((n'.trans n₁).trans n₂)
  | false => exact wpAny_execs_nil (p.nx _ _ _ (hc.2 rfl) (n'.trans n₁))
end
end Mine
set_option Elab.async false
set_option maxRecDepth 10000
set_option linter.unusedVariables false
namespace Mine
open PySem PySem.W PySem.Calls PySem.Spec PyProof.Rows

/-! functions of the text that keep all that stood -/
noncomputable def Spec (Γ : Gx) (f : Addr) (d : Nat) (vs : List PV) (P : PV → Prop) : Prop :=
  ∀ (A : Around) (φ : PH) (s : Shared) (Q E : Value → Shared → Prop) (ws : List Value), A.handled = none → A.depth + (d + 1) ≤ 700 → A.units + 10 * (d + 1) ≤ 5000 → (∀ b o, Γ.hB.get? b = some o → s.heap.get? b = some o) → (∀ a o, φ a = some o → s.heap.get? a = some o) → Reps φ vs ws →
    (∀ v val φ' h' tk, P v → Rep φ' v val → φ.le φ' → (∀ b o, s.heap.get? b = some o → h'.get? b = some o) → (∀ a o, φ' a = some o → h'.get? a = some o) → (∀ a o, φ' a = some o → φ a = some o ∨ s.heap.get? a = none) → Q val { s with heap := h', toks := tk }) →
    wpAny (model Γ.prog Γ.w) A (call (.ref f) ws) Q E s

theorem St.grow {Y : Lo} {ρ : Rho} {φ φ' : PH} {h h' : Heap} (S : St Y ρ φ h) (k : ∀ b o, h.get? b = some o → h'.get? b = some o) (le : φ.le φ') (sub : ∀ a o, φ' a = some o → h'.get? a = some o) (new : ∀ a o, φ' a = some o → φ a = some o ∨ h.get? a = none) : St Y ρ φ' h' := by
  have S' := S.keeps k
  have off : ∀ a o, φ' a = some o → φ a = some o ∨ (Y.κ a = none ∧ a ∉ Y.FS ∧ a ∉ Y.lw ++ foot ρ ∧ ¬ Y.ban a) := fun a o e => (new a o e).imp id fun q => let F := S.fresh q; ⟨F.1, F.2.2.1, F.2.2.2.1, F.2.2.2.2⟩
  exact
    { kk := S'.kk, ff := S'.ff, fz := sub
      fr := fun a o e q => (off a o e).elim (fun z => S.fr a o z q) fun z => z.2.2.2 q
      bz := S'.bz, ob := S'.ob
      vars := let ⟨m, hn, hv⟩ := S'.vars; ⟨m, hn, fun x sl q => let ⟨w, a, b⟩ := hv x sl q; ⟨w, a, b.mono le⟩⟩
      cells := S'.cells, lws := S'.lws, apart := S'.apart
      off := fun a ha => ⟨(S'.off a ha).1, by
        cases e : φ' a with
        | none => rfl
        | some o => exact (off a o e).elim (fun z => by rw [(S.off a ha).2.1] at z; cases z) fun z => absurd ha z.2.2.1, (S'.off a ha).2.2⟩
      offF := fun a ha => ⟨(S'.offF a ha).1, by
        cases e : φ' a with
        | none => rfl
        | some o => exact (off a o e).elim (fun z => by rw [(S.offF a ha).2] at z; cases z) fun z => absurd ha z.2.1⟩ }

theorem Reps.zip_mem {φ : PH} : ∀ {names : List String} {vs : List PV} {ws : List Value} {x : String} {sl : Slot}, Reps φ vs ws → (x, sl) ∈ (names.zip vs).map (fun p => (p.1, Slot.val p.2)) → ∃ v w, sl = .val v ∧ (x, w) ∈ names.zip ws ∧ Rep φ v w
  | [], _, _, _, _, _, h => by simp at h
  | _ :: _, [], _, _, _, _, h => by simp at h
  | n :: ns, v :: vs, _, x, sl, ⟨w, r, rfl, h1, h2⟩, h => by
    simp only [List.zip_cons_cons, List.map_cons, List.mem_cons] at h
    rcases h with e | h
    · cases e
      exact ⟨v, w, rfl, .head _, h1⟩
    · obtain ⟨v', w', a, b, c⟩ := Reps.zip_mem h2 h
      exact ⟨v', w', a, .tail _ b, c⟩

theorem bindL_off {kd : Str → Option NameKind} {x : Str} : ∀ {binds : List (Str × Value)} {m : Str → Option Value}, (∀ p ∈ binds, p.1 ≠ x) → bindL kd binds m x = m x
  | [], _, _ => rfl
  | (n, v) :: r, m, h => by
    unfold bindL
    rw [bindL_off fun p hp => h p (.tail _ hp)]
    have : x ≠ n := fun q => h _ (.head _) q.symm
    split
    · exact if_neg this
    · rfl
theorem bindC_off {kd : Str → Option NameKind} {x : Str} : ∀ {binds : List (Str × Value)} {m : Str → Option Value}, (∀ p ∈ binds, p.1 ≠ x) → bindC kd binds m x = m x
  | [], _, _ => rfl
  | (n, v) :: r, m, h => by
    unfold bindC
    rw [bindC_off fun p hp => h p (.tail _ hp)]
    have : x ≠ n := fun q => h _ (.head _) q.symm
    split
    · rfl
    · exact if_neg this
theorem bind_at {kd : Str → Option NameKind} {x : Str} {w : Value} : ∀ {binds : List (Str × Value)} {m mc : Str → Option Value}, (x, w) ∈ binds → (binds.map (·.1)).Nodup → (kd x = some .local → bindL kd binds m x = some w) ∧ (kd x ≠ some .local → bindC kd binds mc x = some w)
  | (n, v) :: r, m, mc, h, hn => by
    rw [List.map_cons, List.nodup_cons] at hn
    rcases List.mem_cons.mp h with e | h
    · cases e
      have off : ∀ p ∈ r, p.1 ≠ x := fun p hp q => hn.1 (List.mem_map.mpr ⟨p, hp, q⟩)
      constructor
      · intro hk
        unfold bindL
        rw [bindL_off off, if_pos hk]
        exact if_pos rfl
      · intro hk
        unfold bindC
        rw [bindC_off off, if_neg hk]
        exact if_pos rfl
    · unfold bindL bindC
      exact bind_at h hn.2

theorem foot_vals : ∀ l : List (String × PV), foot (l.map fun p => (p.1, Slot.val p.2)) = []
  | [] => rfl
  | _ :: r => by
    show [] ++ foot _ = []
    rw [foot_vals r]; rfl

noncomputable abbrev fenv (fd : FuncData) (L f : Addr) : Env := callEnvC fd L f
noncomputable def cellNames (names : List (Str × NameKind)) : List Str := (names.filter fun p => p.2 == .cell).map (·.1)
theorem cellsFrom_fst : ∀ (names : List (Str × NameKind)) (n : Nat) (acc : List (Str × Addr)), (cellsFrom n names acc).map (·.1) = (cellNames names).reverse ++ acc.map (·.1)
  | [], _, acc => by simp [cellsFrom, cellNames]
  | (x, k) :: r, n, acc => by
    unfold cellsFrom
    split
    · rename_i h
      rw [cellsFrom_fst r]
      have : cellNames ((x, k) :: r) = x :: cellNames r := by unfold cellNames; rw [List.filter_cons_of_pos (by simpa using h)]; rfl
      rw [this]
      simp
    · rename_i h
      rw [cellsFrom_fst r]
      have : cellNames ((x, k) :: r) = cellNames r := by unfold cellNames; rw [List.filter_cons_of_neg (by simpa using h)]
      rw [this]

theorem spec_of_body {Γ : Gx} {f : Addr} {d : Nat} {names : List String} {vs : List PV} {P : PV → Prop} {fd : FuncData} {body : List Stmt} {oc : Value} {od : Option Addr} {osl : Array (Option Value)}
    (ho : Γ.K.lookup f = some ⟨oc, od, .func fd, osl⟩) (hcd : codeIn Γ.K fd.code fd.qualname = true) (hbody : fd.body = .stmts body) (hclo : fd.closure = [])
    (hglob : fd.globals = mainGlobals) (hblt : fd.builtins = builtinsNs) (hco : fd.scope.isCoroutine = false) (hgen : fd.scope.isGenerator = false) (hk : fd.scope.kind = .function)
    (hbind : ∀ ws : List Value, ws.length = names.length → bindArgs fd ⟨ws, []⟩ = pure ((names.map Str.ofString).zip ws))
    (hkinds : (names.all fun x => fd.scope.names.lookup (Str.ofString x) == some .local || (fd.scope.names.lookup (Str.ofString x) == some .cell && (cellNames fd.scope.names).contains (Str.ofString x))) = true)
    (hnd : names.Nodup) (hcn : (cellNames fd.scope.names).Nodup) (hlen : vs.length = names.length)
    (h : ∀ (A : Around) (L : Addr), Ex Γ ⟨A, fenv fd L f, L :: (fenv fd L f).cells.map (·.2), true, d, false, false, none⟩ ((names.zip vs).map fun p => (p.1, Slot.val p.2)) body (fun o => match o with | .ret v _ => P v | .next _ => P .none | _ => False) nothing) : Spec Γ f d vs P := by
  intro A φ s Q E ws hh hd hu hB hφ hr k
  have hws : ws.length = names.length := by rw [hr.length, hlen]
  have ho' := hB _ _ (Γ.kin _ _ ho)
  have hlim : s.heap.NoLimit := Γ.top.nolimit.keeps hB
  have hcl := cellsFrom_fst fd.scope.names (s.heap.objs.size + 1) []
  have hsome : ∀ x, (cellNames fd.scope.names).contains x = true → ((cellsFrom (s.heap.objs.size + 1) fd.scope.names []).lookup x).isSome = true := fun x hx => by
    have hm : x ∈ (cellsFrom (s.heap.objs.size + 1) fd.scope.names []).map (·.1) := by
      rw [hcl]; simpa using hx
    obtain ⟨p, hp, rfl⟩ := List.mem_map.mp hm
    cases e : (cellsFrom (s.heap.objs.size + 1) fd.scope.names []).lookup p.1 with
    | some _ => rfl
    | none =>
      have := List.lookup_eq_none_iff.mp e p hp
      simp at this
  have hk2 : ∀ x ∈ (names.map Str.ofString).zip ws, fd.scope.names.lookup x.1 = some .local ∨ (fd.scope.names.lookup x.1 = some .cell ∧ ((cellsFrom (s.heap.objs.size + 1) fd.scope.names []).lookup x.1).isSome = true) := fun x hx => by
    obtain ⟨n, hn, e⟩ := List.mem_map.mp (List.of_mem_zip hx).1
    have := List.all_eq_true.mp hkinds n hn
    rw [← e]
    simp only [Bool.or_eq_true, Bool.and_eq_true, beq_iff_eq] at this
    exact this.imp id fun q => ⟨q.1, hsome _ q.2⟩
  refine wpAny_call (codeAny_call_cells (fd := fd) (body := body) (by show A.depth < 1000; omega) ho' rfl hlim (codeRec_of (Γ.kin.keeps hB) hcd) hbody (hbind ws hws) hclo hk2 (fun s₁ I => ?_) hco hgen hk)
  obtain ⟨hsame, hns, hkeep, hfresh⟩ := I.toInCall
  have hcells := I.cell
  have habove := I.above
  have hapart := I.apart
  obtain ⟨h₁, tk₁, rfl⟩ := hsame
  dsimp only at hns hkeep hcells
  have hfr : ∀ a, s.heap.objs.size ≤ a → s.heap.get? a = none := fun a ha => by
    cases e : s.heap.get? a with
    | none => rfl
    | some o => exact absurd (Heap.lt_size e) (Nat.not_lt.mpr ha)
  have hcellm : ∀ x c, (callEnvC fd s.heap.objs.size f).cells.lookup x = some c → (x, c) ∈ (callEnvC fd s.heap.objs.size f).cells := fun x c e => mem_of_lookup e
  have hci : ∀ x y c, (callEnvC fd s.heap.objs.size f).cells.lookup x = some c → (callEnvC fd s.heap.objs.size f).cells.lookup y = some c → x = y := fun x y c e e' => name_of_addr hapart (mem_of_lookup e) (mem_of_lookup e')
  have hkeys : ((callEnvC fd s.heap.objs.size f).cells.map (·.1)).Nodup := by
    show ((cellsFrom (s.heap.objs.size + 1) fd.scope.names []).map (·.1)).Nodup
    rw [hcl, List.map_nil, List.append_nil]
    exact (List.reverse_perm _).nodup_iff.mpr hcn
  have hlw : ∀ a ∈ (callEnvC fd s.heap.objs.size f).locals :: (callEnvC fd s.heap.objs.size f).cells.map (·.2), s.heap.objs.size ≤ a ∧ ∃ o, h₁.get? a = some o := fun a ha => by
    rcases List.mem_cons.mp ha with rfl | ha
    · obtain ⟨o, _, _, e, _⟩ := hns
      exact ⟨hfresh, o, e⟩
    · obtain ⟨⟨n, c⟩, hp, rfl⟩ := List.mem_map.mp ha
      have := habove n c hp
      obtain ⟨o, e, _⟩ := hcells n c (lookup_of_mem_nodup hkeys hp)
      exact ⟨Nat.le_trans hfresh (Nat.le_of_lt this), o, e⟩
  let Y : Lo := ⟨callEnvC fd s.heap.objs.size f, (callEnvC fd s.heap.objs.size f).locals :: (callEnvC fd s.heap.objs.size f).cells.map (·.2), fun a => s.heap.get? a, [], fun _ => .plain, fun a => (∃ o, s.heap.get? a = some o) ∧ φ a = none⟩
  have ok : Ok Γ ⟨A.deeper (callEnvC fd s.heap.objs.size f), fenv fd s.heap.objs.size f, s.heap.objs.size :: (fenv fd s.heap.objs.size f).cells.map (·.2), true, d, false, false, none⟩ Y :=
    { ee := rfl, ll := rfl, gb := hB, fk := hk, glb := hglob, bns := hblt, hh := fun _ => hh, dep := (by show A.depth + 1 + d ≤ 700; omega), uni := (by show A.units + 3 + 10 * d ≤ 5000; omega), ci := hci, wr := fun _ => ⟨.head _, fun x c e => .inl (.tail _ (List.mem_map.mpr ⟨_, mem_of_lookup e, rfl⟩))⟩, hx := (fun _ h => nomatch h), fx := fun h => (by cases h) }
  have S : St Y ((names.zip vs).map fun p => (p.1, Slot.val p.2)) φ h₁ :=
    { kk := hkeep, ff := (fun _ h => nomatch h), fz := fun a o e => hkeep _ _ (hφ a o e), fr := fun a o e q => (by rw [q.2] at e; cases e), bz := fun a q => (let ⟨o, e⟩ := q.1; ⟨o, hkeep _ _ e⟩)
      ob := fun x a l m => (by
        obtain ⟨v, w, e, _⟩ := hr.zip_mem m
        cases e)
      vars := ⟨_, hns, fun x sl m => by
        obtain ⟨v, w, rfl, hm, hrep⟩ := hr.zip_mem m
        refine ⟨w, ?_, hrep⟩
        have hm' : (Str.ofString x, w) ∈ (names.map Str.ofString).zip ws := by
          rw [List.zip_map_left]
          exact List.mem_map.mpr ⟨_, hm, rfl⟩
        have hn' : (((names.map Str.ofString).zip ws).map (·.1)).Nodup := by
          rw [List.map_fst_zip (by simp [hws])]
          exact hnd.map _ fun a b ne e => ne (ofString_inj e)
        have B := bind_at (kd := (callEnvC fd s.heap.objs.size f).kindOf) (m := fun _ => none) (mc := fun _ => none) hm' hn'
        rcases hk2 _ hm' with q | ⟨q, hs⟩
        · exact .inl ⟨q, B.1 q⟩
        · obtain ⟨c, e⟩ := Option.isSome_iff_exists.mp hs
          refine .inr ⟨.inl q, c, e, ?_⟩
          rw [← B.2 (fun z => by rw [show (callEnvC fd s.heap.objs.size f).kindOf (Str.ofString x) = some .cell from q] at z; cases z)]
          exact hcells _ c e⟩
      cells := fun x c e => ⟨_, hcells x c e⟩
      lws := fun a ha => (hlw a ha).2
      apart := (by
        rw [foot_vals, List.append_nil]
        refine List.nodup_cons.mpr ⟨fun hm => ?_, ?_⟩
        · obtain ⟨⟨n, c⟩, hp, e⟩ := List.mem_map.mp hm
          have hlt : (callEnvC fd s.heap.objs.size f).locals < c := habove n c hp
          have e' : c = (callEnvC fd s.heap.objs.size f).locals := e
          rw [e'] at hlt
          exact absurd hlt (Nat.lt_irrefl _)
        · exact List.pairwise_map.mpr hapart)
      off := fun a ha => (by
        rw [foot_vals, List.append_nil] at ha
        have := hfr a (hlw a ha).1
        refine ⟨this, ?_, (fun h => nomatch h)⟩
        cases e : φ a with
        | none => rfl
        | some o => have := hφ a o e; rw [hfr a (hlw a ha).1] at this; cases this)
      offF := (fun _ h => nomatch h) }
  refine h (A.deeper (callEnvC fd s.heap.objs.size f)) s.heap.objs.size Y ok φ { s with heap := h₁, toks := tk₁ } _ _ PassesAll.leaving S ⟨fun ρ' φ' s' a n => ?_, fun ρ' φ' s' a n => a.elim, fun ρ' φ' s' a n => a.elim, fun v val ρ' φ' s' a b n => ?_, fun x e ρ' φ' s' a b n => a.elim⟩
  · obtain ⟨⟨h', tk, rfl⟩, le, S'⟩ := n
    exact k .none .none φ' h' tk a rfl le S'.kk S'.fz fun b o e => (S'.fr b o e |> fun q => by
      cases z : φ b with
      | some o' => rw [le _ _ z] at e; exact .inl e
      | none =>
        right
        cases y : s.heap.get? b with
        | none => rfl
        | some o' => exact absurd ⟨⟨_, y⟩, z⟩ q)
  · obtain ⟨⟨h', tk, rfl⟩, le, S'⟩ := n
    exact k v val φ' h' tk a b le S'.kk S'.fz fun b o e => (S'.fr b o e |> fun q => by
      cases z : φ b with
      | some o' => rw [le _ _ z] at e; exact .inl e
      | none =>
        right
        cases y : s.heap.get? b with
        | none => rfl
        | some o' => exact absurd ⟨⟨_, y⟩, z⟩ q)
end Mine
set_option Elab.async false
set_option maxRecDepth 10000
set_option linter.unusedVariables false
namespace Mine
open PySem PySem.W PySem.Calls PySem.Spec PyProof.Rows

section
variable {Γ : Gx} {V : Va} {ρ : Rho} {X : Exn → Rho → Prop}

theorem ev_call {x : String} {f : Addr} {e : Expr} {es : List Expr} {npos pos : Pos} {P : PV → Rho → Prop} (hN : NameIs Γ x (.ref f)) (hkp : keepIn Γ.K (.ref f) = true)
    (h : Evs Γ V X (e :: es) ρ (fun l ρ' => ∃ d P', d + 1 ≤ V.d ∧ Spec Γ f d l P' ∧ ∀ v, P' v → P v ρ')) (hk : V.env.kindOf (Str.ofString x) = some .globalImplicit := by kernel_rfl)
    (hs : (e :: es).all (fun e => !isStar e) = true := by rfl) (hd : plainName x = true := by decide +kernel) (hm : V.hm = false := by rfl) : Ev Γ V ρ (.Call (.Name (Str.ofString x) npos) (e :: es) [] pos) P X := fun Y ok φ s Q E S p => by
  rw [arm_call rfl]
  refine wpAny_bind (name_sound ok S hN hk ?_ hd)
  show wpAny _ _ (callWith pos (.ref f) [] (backTo pos (starEach (e :: es) V.env)) []) _ _ _
  refine callWith_of (P := Γ.K.In) (by rw [backTo_plain hs]; rfl) (keeps_K hkp) ?_
  have sp := spliced_sound (pos := pos) ok (e :: es) ρ _ φ s (fun vs s' => Γ.K.In s'.heap ∧ wpAny (model Γ.prog Γ.w) V.A (call (.ref f) ([] ++ vs) []) Q E s') hs h S (fun l vs ρ' φ' s' a r n => ?_) p.er
  · have hs' := hs
    simp only [List.all_cons, Bool.and_eq_true, Bool.not_eq_true'] at hs'
    rw [starEach_cons hs'.1] at sp ⊢
    exact evalArgs_plain sp
  · obtain ⟨d, P', hd', hspec, himp⟩ := a
    have S' := n.2.2
    refine ⟨Γ.kin.keeps (S'.base ok), ?_⟩
    have h1 := ok.dep
    have h2 := ok.uni
    refine hspec V.A φ' s' Q E vs (ok.hh hm) (by omega) (by omega) (S'.base ok) S'.fz r fun v val φ'' h' tk hv hr le kp sub new => ?_
    exact p.ok v val ρ' φ'' _ (himp v hv) hr (n.trans ⟨⟨h', tk, rfl⟩, le, S'.grow kp le sub new⟩)

/-! comprehensions whose elements are flat -/
noncomputable def flat : PV → Bool
  | .list _ => false
  | _ => true
theorem Rep.flat {φ φ' : PH} : ∀ {p : PV} {v : Value}, Mine.flat p = true → Rep φ p v → Rep φ' p v
  | .none, _, _, r => r
  | .bool _, _, _, r => r
  | .int _, _, _, r => r
  | .str _, _, _, r => r
  | .bytes _, _, _, r => r
noncomputable abbrev compV (V : Va) (scope : Scope) (cl : List (Str × Addr)) (C : Addr) : Va := ⟨V.A, compEnvC scope cl C V.env, [], false, V.d, false, V.hm, none⟩
end
end Mine
set_option Elab.async false
set_option maxRecDepth 10000
set_option linter.unusedVariables false
namespace Mine
open PySem PySem.W PySem.Calls PySem.Spec PyProof.Rows

/-- what a builtin function or type answers for arguments -/
noncomputable def BSpec (Γ : Gx) (f : Value) (vs : List PV) (P : PV → Prop) : Prop :=
  ∀ (A : Around) (φ : PH) (s : Shared) (Q E : Value → Shared → Prop) (ws : List Value), A.handled = none → A.units ≤ 5000 → (∀ a o, φ a = some o → s.heap.get? a = some o) → Reps φ vs ws →
    (∀ v val φ' h' tk, P v → Rep φ' v val → φ.le φ' → (∀ b o, s.heap.get? b = some o → h'.get? b = some o) → (∀ a o, φ' a = some o → h'.get? a = some o) → (∀ a o, φ' a = some o → φ a = some o ∨ s.heap.get? a = none) → Q val { s with heap := h', toks := tk }) →
    wpAny (model Γ.prog Γ.w) A (call f ws) Q E s

section
variable {Γ : Gx} {V : Va} {ρ : Rho} {X : Exn → Rho → Prop}
theorem ev_bcall {x : String} {f : Value} {e : Expr} {es : List Expr} {npos pos : Pos} {P : PV → Rho → Prop} (hN : NameIs Γ x f)
    (h : Evs Γ V X (e :: es) ρ (fun l ρ' => ∃ P', BSpec Γ f l P' ∧ ∀ v, P' v → P v ρ')) (hk : V.env.kindOf (Str.ofString x) = some .globalImplicit := by kernel_rfl)
    (hf : plainCallee f = true := by rfl) (hs : (e :: es).all (fun e => !isStar e) = true := by rfl) (hd : plainName x = true := by decide +kernel) (hm : V.hm = false := by rfl) : Ev Γ V ρ (.Call (.Name (Str.ofString x) npos) (e :: es) [] pos) P X := fun Y ok φ s Q E S p =>
  call_sound (P := fun l ρ' => ∃ P', BSpec Γ f l P' ∧ ∀ v, P' v → P v ρ') ok S hN hk hf hs h hd (fun l vs ρ' φ' s' a r n => by
    obtain ⟨P', hspec, himp⟩ := a
    have S' := n.2.2
    have h2 := ok.uni
    refine hspec V.A φ' s' Q E vs (ok.hh hm) (by omega) S'.fz r fun v val φ'' h' tk hv hr le kp sub new => ?_
    exact p.ok v val ρ' φ'' _ (himp v hv) hr (n.trans ⟨⟨h', tk, rfl⟩, le, S'.grow kp le sub new⟩)) p.er
end

noncomputable def intsOf : List PV → Option (List Int)
  | [] => some []
  | .int i :: r => (intsOf r).map (i :: ·)
  | _ :: _ => none
theorem ints_items {φ : PH} : ∀ {l : List PV} {vs : List Value} {is : List Int}, intsOf l = some is → Reps φ l vs → ∃ xs : List (Int × Tok), vs = xs.map (fun p => .int p.1 p.2) ∧ xs.map (·.1) = is
  | [], _, _, h, r => by
    cases h
    exact ⟨[], r, rfl⟩
  | .int i :: l, _, is, h, ⟨v, vs, e, ⟨t, ht⟩, r⟩ => by
    unfold intsOf at h
    obtain ⟨js, h1, rfl⟩ := Option.map_eq_some_iff.mp h
    obtain ⟨xs, h2, h3⟩ := ints_items h1 r
    exact ⟨(i, t) :: xs, by rw [e, ht, h2]; rfl, by rw [← h3]; rfl⟩
  | .none :: _, _, _, h, _ => by cases h
  | .bool _ :: _, _, _, h, _ => by cases h
  | .str _ :: _, _, _, h, _ => by cases h
  | .bytes _ :: _, _, _, h, _ => by cases h
  | .list _ :: _, _, _, h, _ => by cases h
noncomputable def strsOf : List PV → Option (List (List Nat))
  | [] => some []
  | .str i :: r => (strsOf r).map (i :: ·)
  | _ :: _ => none
theorem strsOf_map (l : List (List Nat)) : strsOf (l.map .str) = some l := by
  induction l with
  | nil => rfl
  | cons a l ih => simp [strsOf, ih]
noncomputable abbrev stx (l : List Nat) : Str := ⟨l.toArray⟩
theorem strs_are {φ : PH} : ∀ {l : List PV} {vs : List Value} {is : List (List Nat)}, strsOf l = some is → Reps φ l vs → StrsAre vs (is.map stx)
  | [], _, _, h, r => by
    cases h
    rw [show _ = [] from r]
    exact .nil
  | .str i :: l, _, is, h, ⟨v, vs, e, ⟨t, ht⟩, r⟩ => by
    unfold strsOf at h
    obtain ⟨js, h1, rfl⟩ := Option.map_eq_some_iff.mp h
    rw [e, ht]
    exact .cons _ _ (strs_are h1 r)
  | .none :: _, _, _, h, _ => by cases h
  | .bool _ :: _, _, _, h, _ => by cases h
  | .int _ :: _, _, _, h, _ => by cases h
  | .bytes _ :: _, _, _, h, _ => by cases h
  | .list _ :: _, _, _, h, _ => by cases h
end Mine
set_option Elab.async false
set_option maxRecDepth 10000
set_option linter.unusedVariables false
namespace Mine
open PySem PySem.W PySem.Calls PySem.Spec PyProof.Rows

section
variable {Y : Lo} {ρ : Rho} {φ : PH} {h h' : Heap}
theorem St.mutate (S : St Y ρ φ h) {x : String} {a : Addr} {l l' : List PV} {vs' : List Value} {n' : Nat} (hg : get x ρ = some (.own a l)) (hs : Heap.SameBut a h h') (ha : h'.get? a = some (lobj vs' n')) (hr : Reps φ l' vs') : St Y (upd x (.own a l') ρ) φ h' := by
  have hm : a ∈ foot ρ := foot_mem (mem_of_get hg) (.head _)
  have hnd := List.nodup_append.mp S.apart
  have hoff := foot_upd_off (v := .list l) hg (a := a) (.head _) hnd.2.1
  have hoff' : a ∉ foot (del x ρ) := fun hq => hoff ((foot_del_upd x (.list l) ρ).subset hq)
  have hsub : (foot (upd x (.own a l') ρ)).Sublist (foot ρ) := foot_upd_same (s := .own a l) (s' := .own a l') rfl hg
  obtain ⟨m, hns, hv⟩ := S.vars
  obtain ⟨w, hw, rfl, vs, k, hao, _⟩ := hv x _ (mem_of_get hg)
  have kp : ∀ b o, b ≠ a → h.get? b = some o → h'.get? b = some o := fun b o ne e => hs.extBut b o ne e
  have hloc : Y.env.locals ≠ a := fun e => by
    obtain ⟨o, es, ep, e1, e2, _⟩ := hns
    rw [e, hao] at e1
    cases e1
    cases e2
  have hcell : ∀ y c, Y.env.cells.lookup y = some c → c ≠ a := fun y c e q => by
    obtain ⟨v, o, e1, e2⟩ := S.cells y c e
    rw [q, hao] at e1
    cases e1
    cases e2
  have va : ∀ {y : Str} {w : Value}, VarAt Y.env m h y w → VarAt Y.env m h' y w := fun {y w} q => q.keep fun c o e1 e2 => kp c o (hcell y c e1) e2
  refine S.alter hs (List.mem_append_right _ hm) ⟨_, ha⟩ ⟨m, hns.sameBut hs hloc, fun y sl hy => ?_⟩ (fun y c e => ?_) ?_ (fun b hb => ?_) (fun y b l₁ hy => ?_)
  · rcases mem_upd hy with ⟨rfl, rfl⟩ | ⟨ne, hy⟩
    · exact ⟨.ref a, va hw, rfl, vs', n', ha, hr⟩
    · obtain ⟨w', hw', r'⟩ := hv y sl hy
      refine ⟨w', va hw', r'.keep fun b hb o e => kp b o (fun q => hoff' ?_) e⟩
      exact q ▸ foot_mem (mem_del_of ne hy) hb
  · obtain ⟨v, o, e1, e2⟩ := S.cells y c e
    exact ⟨v, o, kp c o (hcell y c e) e1, e2⟩
  · exact List.Nodup.sublist (List.Sublist.append (List.Sublist.refl _) hsub) S.apart
  · exact S.off b (List.mem_append_right _ (hsub.subset hb))
  · rcases mem_upd hy with ⟨_, e⟩ | ⟨_, hy⟩
    · cases e
      exact S.ob _ _ _ (mem_of_get hg)
    · exact S.ob _ _ _ hy
end

section
variable {Γ : Gx} {V : Va} {ρ : Rho} {X : Exn → Rho → Prop}

theorem own_load {Y : Lo} (ok : Ok Γ V Y) {φ : PH} {s : Shared} {Q E : Value → Shared → Prop} {x : String} {a : Addr} {l : List PV} {pos : Pos} (S : St Y ρ φ s.heap) (hg : get x ρ = some (.own a l)) (h : Q (.ref a) s) (hd : plainName x = true) :
    wpAny (model Γ.prog Γ.w) V.A (eval (.Name (Str.ofString x) pos) V.env) Q E s := by
  obtain ⟨m, hn, hv⟩ := S.vars
  obtain ⟨w, b, rfl, _⟩ := hv x _ (mem_of_get hg)
  rw [ok.ee] at hn b
  exact wpAny_Name (load_rule ok.fk hn b h (plainName_of hd).1) (plainName_of hd).2

/-- `x.append(e)` -/
theorem e1_append {x : String} {e : Expr} {npos apos pos pos' : Pos} {a : Addr} {l₀ : List PV} {P : Out → Prop} (hg : get x ρ = some (.own a l₀))
    (h : Ev Γ V ρ e (fun v ρ' => ∃ l, get x ρ' = some (.own a l) ∧ l.length ≤ 1000000 ∧ P (.next (upd x (.own a (l ++ [v])) ρ'))) X)
    (hline : (apos.endLine == pos.line) = true := by rfl) (hs : isStar e = false := by rfl) (hd : plainName x = true := by decide +kernel)
    (hb : attributeBase (.Name (Str.ofString x) npos) "append" V.env (eval (.Name (Str.ofString x) npos) V.env) = eval (.Name (Str.ofString x) npos) V.env := by rfl)
    (hi : interactive V.env = false := by rfl) (hw : swapsWith (.Call (.Attribute (.Name (Str.ofString x) npos) "append" apos) [e] [] pos) none pos'.line V.env = pure false := by rfl) :
    E1 Γ V ρ (.Expr (.Call (.Attribute (.Name (Str.ofString x) npos) "append" apos) [e] [] pos) pos') P X := fun Y ok φ s Q E hE S p => by
  refine wpAny_Expr (Call_method1 hb (by rw [starEach_cons hs]; rfl) hline (own_load ok S hg ?_ hd)) hi hw
  obtain ⟨m, hn, hv⟩ := S.vars
  obtain ⟨w, _, rfl, vs, k, hao, _⟩ := hv x _ (mem_of_get hg)
  refine ⟨"list", "list.append", F.plainAttrs_list, F.slot_list_append, by kernel_rfl, ⟨_, hao, rfl⟩, fun b e => by cases e; exact ⟨_, hao, rfl⟩, ?_⟩
  refine PySem.P.append_list (h Y ok φ s _ E S ⟨fun v val ρ' φ' s' hp hr n => ?_, p.er⟩)
  obtain ⟨l, hg', hlen, hp⟩ := hp
  have S' := n.2.2
  obtain ⟨m', _, hv'⟩ := S'.vars
  obtain ⟨w', _, rfl, vs', k', hao', hr'⟩ := hv' x _ (mem_of_get hg')
  refine ⟨vs'.toArray, k', by rw [List.size_toArray, hr'.length, line_is]; omega, hao', ?_⟩
  have e1 : (s'.heap.update a (Obj.mapSeq fun xs => xs.push val)).get? a = some (lobj (vs' ++ [val]) (k' + 1)) := by
    have := Obj.mapSeq_push_plain vs'.toArray k' val
    rw [Heap.get?_update_self _ hao' (by rw [this]; rfl), this]
    simp [lobj]
  exact p.nx _ _ _ hp (n.trans ⟨⟨_, s'.toks, rfl⟩, .refl _, S'.mutate hg' (Heap.SameBut.update ..) e1 (hr'.append ⟨val, [], rfl, hr, rfl⟩)⟩)

/-- isinstance -/
noncomputable def Isi (v : PV) (T : String) (P : Bool → Prop) : Prop := match v, T with
  | .str _, "str" => P true
  | .str _, "bytes" => P false
  | .bytes _, "bytes" => P true
  | .bytes _, "str" => P false
  | _, _ => False
theorem isi_sound {prog : Program} {w : World} {A : Around} {E : Value → Shared → Prop} {s : Shared} {Q : Value → Shared → Prop} {φ : PH} {v : PV} {T : String} {vx : Value} {P : Bool → Prop} (h : Isi v T P) (hx : Rep φ v vx)
    (k : ∀ b tk, P b → Q (.bool b) { s with toks := tk }) : wpAny (model prog w) A (call (.builtin "isinstance") [vx, .type T]) Q E s := by
  unfold Isi at h
  split at h
  · obtain ⟨t, rfl⟩ := hx
    exact call_isinstance (isinstance_true (Tx := "str") F.isi_meta_str F.sub_str_str) ⟨rfl, k true s.toks h⟩
  · obtain ⟨t, rfl⟩ := hx
    exact call_isinstance (isinstance_false_str (by decide +kernel) F.isi_meta_bytes F.sub_str_bytes) (k false _ h)
  · obtain ⟨t, rfl⟩ := hx
    exact call_isinstance (isinstance_true (Tx := "bytes") F.isi_meta_bytes F.sub_bytes_bytes) ⟨typeIs_bytes _ _ _, k true s.toks h⟩
  · obtain ⟨t, rfl⟩ := hx
    refine call_isinstance (S := fun _ R s => R (.ok (.ret (.bool false))) { s with toks := s.toks + 1 }) (fun _ _ _ _ s hs => ?_) (k false _ h)
    obtain ⟨h, g, d, t, os⟩ := s
    refine isinstance_outer (isinstance_nested_false_bytes (by decide +kernel) F.isi_meta_str (by rw [isSubtype_type]; kernel_rfl) hs)
  · cases h

theorem ev_isi {T : String} {e : Expr} {npos tpos pos : Pos} {P : PV → Rho → Prop} (hN : NameIs Γ "isinstance" (.builtin "isinstance")) (hT : NameIs Γ T (.type T)) (h : Ev Γ V ρ e (fun v ρ' => Isi v T (fun b => P (.bool b) ρ')) X)
    (hk : V.env.kindOf (Str.ofString "isinstance") = some .globalImplicit := by kernel_rfl) (hkT : V.env.kindOf (Str.ofString T) = some .globalImplicit := by kernel_rfl) (hs : isStar e = false := by rfl) (hdT : plainName T = true := by decide +kernel) :
    Ev Γ V ρ (.Call (.Name (Str.ofString "isinstance") npos) [e, .Name (Str.ofString T) tpos] [] pos) P X := fun Y ok φ s Q E S p => by
  rw [arm_call rfl]
  refine wpAny_bind (name_sound ok S hN hk ?_ (by decide +kernel))
  show wpAny _ _ (callWith pos (.builtin "isinstance") [] (backTo pos (starEach [e, .Name (Str.ofString T) tpos] V.env)) []) _ _ _
  refine callWith_plain rfl (backTo_plain (by simp [hs]; rfl)) ?_
  rw [starEach_cons hs, starEach_cons rfl]
  refine evalArgs_plain (spliced_cons (h Y ok φ s _ E S ⟨fun v val ρ₁ φ₁ s₁ hp r₁ n₁ => ?_, p.er⟩))
  refine spliced_cons (name_sound ok n₁.2.2 hT hkT (spliced_nil ?_) hdT)
  exact isi_sound hp r₁ fun b tk hb => p.ok _ _ ρ₁ φ₁ _ hb rfl (n₁.trans (.of n₁.2.2 tk))
end
end Mine
set_option Elab.async false
set_option maxRecDepth 10000
set_option linter.unusedVariables false
namespace Mine
open PySem PySem.W PySem.Calls PySem.Spec PyProof.Rows
open PySem.Builtin PySem.Builtin.Str

noncomputable def esc1 (sp : Nat → Bool) (c : Nat) : List Nat := if sp c then [92, c] else [c]
noncomputable def escW (sp : Nat → Bool) (x : List Nat) : List Nat := x.flatMap (esc1 sp)

structure TabOf (prog : Program) (w : World) (sp : Nat → Bool) (D : Addr) (h : Heap) : Prop where
  nsys : (D == sysModules) = false
  map : ∃ f : Int → Option Value, h.MapOf (intKind prog w) D f ∧ (∀ c : Nat, sp c = true → ∃ t, f c = some (.str ⟨#[92, c]⟩ t)) ∧ (∀ c : Nat, sp c = false → f c = none)

section
variable {prog : Program} {w : World} {A : Around} {E : Value → Shared → Prop} {s : Shared} {sp : Nat → Bool} {D : Addr}
theorem TabOf.keep {h h' : Heap} (T : TabOf prog w sp D h) (k : ∀ b o, h.get? b = some o → h'.get? b = some o) : TabOf prog w sp D h' := by
  obtain ⟨f, ⟨o, es, ep, ho, r⟩, h1, h2⟩ := T.map
  exact ⟨T.nsys, f, ⟨o, es, ep, k _ _ ho, r⟩, h1, h2⟩

theorem sub_KeyError_Lookup : isSubtype (.type "KeyError") (.type "LookupError") = pure true := by rw [isSubtype_type]; kernel_rfl

noncomputable def mapsTo (sp : Nat → Bool) (c : Nat) : Mapped := if sp c then .text ⟨#[92, c]⟩ else .keep

theorem tableLookup_sound {c : Nat} {Q : Mapped → Shared → Prop} (hh : A.handled = none) (T : TabOf prog w sp D s.heap)
    (k : ∀ h' tk, (∀ b o, s.heap.get? b = some o → h'.get? b = some o) → Q (mapsTo sp c) { s with heap := h', toks := tk }) : wpAny (model prog w) A (tableLookup (.ref D) c) Q E s := by
  obtain ⟨f, hm, h1, h2⟩ := T.map
  unfold tableLookup
  unfold mapsTo at k
  refine wpAny_bind (wpAny_attempt (wpAny_bind (wpAny_mkInt ?_)))
  cases hc : sp c with
  | true =>
    obtain ⟨t, ht⟩ := h1 c hc
    rw [hc] at k
    refine wpAny_getItem_of (knd := intKind prog w) (k := (c : Int)) (s := { s with toks := s.toks + 1 }) (by simp [intKind, Value.isInt]) hm ht ?_
    exact wpAny_bind (wpAny_pure (wpAny_bind (wpAny_pure (wpAny_pure (k _ _ (fun _ _ e => e))))))
  | false =>
    rw [hc] at k
    refine wpAny_getItem_missing_of (knd := intKind prog w) (k := (c : Int)) (s := { s with toks := s.toks + 1 }) (by simp [intKind, Value.isInt]) T.nsys hh hm (h2 c hc) fun h' e hx => ?_
    obtain ⟨ob, t, x1, x2, x3⟩ := hx.there
    refine wpAny_bind (wpAny_isInstance (T := "KeyError") ⟨ob, x1, x2⟩ sub_KeyError_Lookup ?_)
    exact wpAny_bind (wpAny_rule (wpAny_pure (k h' _ hx.keeps)))

theorem tooLong_no2 {n : Nat} (h : n ≤ 2000000) : Builtin.Str.tooLong n = false := by
  unfold Builtin.Str.tooLong
  rw [line_is]
  exact decide_eq_false (by omega)
theorem esc_len (x : List Nat) : (escW sp x).length ≤ 2 * x.length := by
  induction x with
  | nil => simp [escW]
  | cons c r ih =>
    have : (esc1 sp c).length ≤ 2 := by unfold esc1; split <;> simp
    simp only [escW, List.flatMap_cons, List.length_append, List.length_cons] at ih ⊢
    omega

noncomputable def transI (sp : Nat → Bool) (x : List Nat) (s : Shared) (rest : List Nat) (b : List Str × Nat × Bool × List (Nat × Option Nat) × Bool) (s' : Shared) : Prop :=
  ∃ pre, x = pre ++ rest ∧ (b.1.reverse.flatMap fun p => p.cps.toList) = escW sp pre ∧ b.2.1 = (escW sp pre).length ∧ (∀ c a, b.2.2.2.1.lookup c = some a → a = some c ∧ sp c = false) ∧ b.2.2.2.2 = false ∧
    ∃ h' tk, s' = { s with heap := h', toks := tk } ∧ ∀ b o, s.heap.get? b = some o → h'.get? b = some o

theorem translate_sound {x : List Nat} {t : Tok} {Q : Value → Shared → Prop} (hh : A.handled = none) (T : TabOf prog w sp D s.heap) (hx : x.length ≤ 1000000)
    (k : ∀ h' t' tk, (∀ b o, s.heap.get? b = some o → h'.get? b = some o) → Q (.str ⟨(escW sp x).toArray⟩ t') { s with heap := h', toks := tk }) :
    wpAny (model prog w) A (call (.builtin "str.translate") [.str ⟨x.toArray⟩ t, .ref D]) Q E s := by
  refine wpAny_call_entry F.slot_str_translate (typeIs_str _ _ _) F.entry_str_translate ?_ (F.args_str_translate_2 _ _)
  unfold «str.translate»
  refine wpAny_bind (wpAny_bind (wpAny_pure (wpAny_bind (wpAny_pure (wpAny_pure ?_)))))
  dsimp only
  by_cases h0 : x = []
  · subst h0
    rw [if_pos (by rfl)]
    exact wpAny_bind (wpAny_rule (wpAny_bind (wpAny_pure (wpAny_pure ⟨_, rfl, k s.heap t s.toks (fun _ _ e => e)⟩))))
  rw [if_neg (by simpa [Str.length] using h0)]
  refine wpAny_bind (forIn_array_ _ (transI sp x s) _ ?_ ?_ _ _ ⟨[], rfl, rfl, rfl, (fun _ _ e => by cases e), rfl, s.heap, s.toks, rfl, fun _ _ e => e⟩)
  · rintro c rest ⟨pieces, total, fast, known, ad⟩ s' ⟨pre, hpre, hp, ht, hk, had, h', tk, rfl, kp⟩
    dsimp only at hpre hp ht hk had ⊢
    subst had
    have hlt : total ≤ 2000000 := by
      have := esc_len (sp := sp) pre
      have : pre.length ≤ x.length := by rw [hpre]; simp
      omega
    rw [if_neg (by rw [tooLong_no2 (by omega)]; decide)]
    have nextNo : ∀ fast' known' h₁ tk₁, sp c = false → (∀ c a, known'.lookup c = some a → a = some c ∧ sp c = false) → (∀ b o, s.heap.get? b = some o → h₁.get? b = some o) → transI sp x s rest (⟨#[c]⟩ :: pieces, total + 1, fast', known', false) { s with heap := h₁, toks := tk₁ } := fun fast' known' h₁ tk₁ hc a b => by
      refine ⟨pre ++ [c], by simp [hpre], ?_, ?_, a, rfl, h₁, tk₁, rfl, b⟩
      · simp only [List.reverse_cons, List.flatMap_append, hp, List.flatMap_cons, List.flatMap_nil, List.append_nil, escW, esc1, hc]
        simp
      · simp only [ht, escW, List.flatMap_append, List.length_append, List.flatMap_cons, List.flatMap_nil, List.append_nil, esc1, hc]
        simp
    have nextYes : ∀ fast' h₁ tk₁, sp c = true → (∀ b o, s.heap.get? b = some o → h₁.get? b = some o) → transI sp x s rest (⟨#[92, c]⟩ :: pieces, total + (⟨#[92, c]⟩ : Str).length, fast', known, false) { s with heap := h₁, toks := tk₁ } := fun fast' h₁ tk₁ hc b => by
      refine ⟨pre ++ [c], by simp [hpre], ?_, ?_, hk, rfl, h₁, tk₁, rfl, b⟩
      · simp only [List.reverse_cons, List.flatMap_append, hp, List.flatMap_cons, List.flatMap_nil, List.append_nil, escW, esc1, hc]
        simp
      · simp only [ht, escW, List.flatMap_append, List.length_append, List.flatMap_cons, List.flatMap_nil, List.append_nil, esc1, hc]
        simp [Str.length]
    cases fast with
    | false =>
      rw [if_neg (by decide), if_neg (by decide)]
      refine wpAny_bind (tableLookup_sound (s := { s with heap := h', toks := tk }) hh (T.keep kp) fun h₁ tk₁ kp₁ => ?_)
      unfold mapsTo
      cases hc : sp c with
      | true => exact wpAny_pure (nextYes _ h₁ tk₁ hc fun b o e => kp₁ _ _ (kp b o e))
      | false => exact wpAny_pure (nextNo _ _ h₁ tk₁ hc hk fun b o e => kp₁ _ _ (kp b o e))
    | true =>
      rw [if_pos rfl]
      cases hl : known.lookup c with
      | some a =>
        obtain ⟨rfl, hc⟩ := hk c a hl
        exact wpAny_bind (wpAny_pure (wpAny_pure (nextNo _ _ h' tk hc hk kp)))
      | none =>
        refine wpAny_bind (tableLookup_sound (s := { s with heap := h', toks := tk }) hh (T.keep kp) fun h₁ tk₁ kp₁ => ?_)
        unfold mapsTo
        cases hc : sp c with
        | false =>
          refine wpAny_bind (wpAny_pure (wpAny_pure (nextNo _ ((c, some c) :: known) h₁ tk₁ hc (fun c' a e => ?_) fun b o e => kp₁ _ _ (kp b o e))))
          rw [List.lookup_cons] at e
          split at e
          · rename_i hq
            cases e
            have := eq_of_beq hq
            subst this
            exact ⟨rfl, hc⟩
          · exact hk _ _ e
        | true =>
          refine wpAny_bind (wpAny_pure (wpAny_bind (wpAny_rule ?_)))
          rw [if_neg (by decide)]
          refine wpAny_bind (tableLookup_sound (s := { s with heap := h₁, toks := tk₁ }) hh ((T.keep kp).keep kp₁) fun h₂ tk₂ kp₂ => ?_)
          unfold mapsTo
          rw [hc]
          exact wpAny_pure (nextYes _ h₂ tk₂ hc fun b o e => kp₂ _ _ (kp₁ _ _ (kp b o e)))
  · rintro ⟨pieces, total, fast, known, ad⟩ s' ⟨pre, hpre, hp, ht, hk, had, h', tk, rfl, kp⟩
    dsimp only at hpre hp ht hk had ⊢
    rw [List.append_nil] at hpre
    subst hpre
    have hlt := esc_len (sp := sp) x
    rw [if_neg (by rw [tooLong_no2 (by omega)]; decide)]
    have e : (pieces.reverse.foldl (fun acc (p : Str) => acc ++ p.cps) #[]) = (escW sp x).toArray := by
      rw [← hp]
      have : ∀ (l : List Str) (acc : Array Nat), l.foldl (fun acc (p : Str) => acc ++ p.cps) acc = acc ++ (l.flatMap fun p => p.cps.toList).toArray := fun l => by
        induction l with
        | nil => intro acc; simp
        | cons a l ih => intro acc; rw [List.foldl_cons, ih, List.flatMap_cons, Array.append_assoc]; congr 1; simp
      rw [this]; simp
    rw [e]
    refine wpAny_bind (wpAny_mkStr ?_ ?_)
    · exact wpAny_pure ⟨_, rfl, k h' _ _ kp⟩
    · rw [line_is]; simp only [Str.length, List.size_toArray]; omega
end
end Mine
set_option Elab.async false
set_option maxRecDepth 10000
set_option linter.unusedVariables false
namespace Mine
open PySem PySem.W PySem.Calls PySem.Spec PyProof.Rows
open PySem.Builtin PySem.Builtin.Str PySem.Builtin._codecs

section
variable {M : Model} {prog : Program} {w : World} {A : Around} {E : Value → Shared → Prop} {s : Shared}
end
end Mine
set_option Elab.async false
set_option maxRecDepth 10000
set_option linter.unusedVariables false
namespace Mine
open PySem PySem.W PySem.Calls PySem.Spec PyProof.Rows
open PySem.Builtin PySem.Builtin.Str PySem.Builtin._codecs

section
variable {Γ : Gx} {V : Va} {ρ : Rho} {X : Exn → Rho → Prop}
/-- a str method of one argument -/
theorem ev_smeth1 {o e : Expr} {name : String} {id : String} {apos pos : Pos} {P : PV → Rho → Prop} (slot : PySem.Slot "str" (Str.ofString name) id) (ty : typeOf (.builtin id) = pure (.type "method_descriptor"))
    (h : Ev Γ V ρ o (fun x ρ₁ => ∃ a, x = .str a ∧ Ev Γ V ρ₁ e (fun y ρ₂ => ∃ P', BSpec Γ (.builtin id) [.str a, y] P' ∧ ∀ v, P' v → P v ρ₂) X) X)
    (hb : attributeBase o (Str.ofString name) V.env (eval o V.env) = eval o V.env := by rfl) (hline : (apos.endLine == pos.line) = true := by rfl) (hs : isStar e = false := by rfl) (hm : V.hm = false := by rfl) :
    Ev Γ V ρ (.Call (.Attribute o (Str.ofString name) apos) [e] [] pos) P X := fun Y ok φ s Q E S p => by
  refine Call_method1 hb (by rw [starEach_cons hs]; rfl) hline (h Y ok φ s _ E S ⟨fun x vx ρ₁ φ₁ s₁ hx rx n₁ => ?_, p.er⟩)
  obtain ⟨a, rfl, he⟩ := hx
  obtain ⟨t, rfl⟩ := rx
  refine ⟨"str", id, F.plainAttrs_str, slot, ty, typeIs_str _ _ _, (fun _ e => nomatch e), ?_⟩
  refine Calls.callWith_builtin rfl (evalArgs_plain (spliced_cons (he Y ok φ₁ s₁ _ E n₁.2.2 ⟨fun y vy ρ₂ φ₂ s₂ hy ry n₂ => ?_, (p.after n₁).er⟩)))
  refine spliced_nil ?_
  obtain ⟨P', hspec, himp⟩ := hy
  have S' := n₂.2.2
  have h2 := ok.uni
  refine hspec V.A φ₂ s₂ Q E _ (ok.hh hm) (by omega) S'.fz ⟨_, _, rfl, ⟨t, rfl⟩, _, _, rfl, ry, rfl⟩ fun v val φ'' h' tk hv hr le kp sub new => ?_
  exact p.ok v val ρ₂ φ'' _ (himp v hv) hr ((n₁.trans n₂).trans ⟨⟨h', tk, rfl⟩, le, S'.grow kp le sub new⟩)

/-- `o.translate(TABLE)` with a global table -/
theorem ev_translate {o : Expr} {x : String} {D : Addr} {sp : Nat → Bool} {npos apos pos : Pos} {P : PV → Rho → Prop} (hN : NameIs Γ x (.ref D)) (hT : ∀ h : Heap, Γ.K.In h → TabOf Γ.prog Γ.w sp D h)
    (h : Ev Γ V ρ o (fun x ρ₁ => ∃ a, x = .str a ∧ a.length ≤ 1000000 ∧ P (.str (escW sp a)) ρ₁) X) (hk : V.env.kindOf (Str.ofString x) = some .globalImplicit := by kernel_rfl) (hd : plainName x = true := by decide +kernel)
    (hb : attributeBase o (Str.ofString "translate") V.env (eval o V.env) = eval o V.env := by rfl) (hline : (apos.endLine == pos.line) = true := by rfl) (hm : V.hm = false := by rfl) :
    Ev Γ V ρ (.Call (.Attribute o (Str.ofString "translate") apos) [.Name (Str.ofString x) npos] [] pos) P X := fun Y ok φ s Q E S p => by
  refine Call_method1 hb (by rw [starEach_cons rfl]; rfl) hline (h Y ok φ s _ E S ⟨fun v vx ρ₁ φ₁ s₁ hx rx n₁ => ?_, p.er⟩)
  obtain ⟨a, rfl, ha, he⟩ := hx
  obtain ⟨t, rfl⟩ := rx
  have S' := n₁.2.2
  refine ⟨"str", "str.translate", F.plainAttrs_str, F.slot_str_translate, F.type_str_translate, typeIs_str _ _ _, (fun _ e => nomatch e), ?_⟩
  refine Calls.callWith_builtin rfl (evalArgs_plain (spliced_cons (name_sound ok S' hN hk (spliced_nil ?_) hd)))
  refine translate_sound (ok.hh hm) (hT _ (Γ.kin.keeps (S'.base ok))) ha fun h' t' tk kp => ?_
  exact p.ok _ _ ρ₁ φ₁ _ he ⟨t', rfl⟩ (n₁.trans ⟨⟨h', tk, rfl⟩, .refl _, S'.keeps kp⟩)
end

theorem join_empty (l : List (List Nat)) : Txt.join (Str.ofString "") (l.map stx) = ⟨l.flatten.toArray⟩ := by
  have : ∀ l : List (List Nat), Str.join (Str.ofString "") (l.map stx) = ⟨l.flatten.toArray⟩ := fun l => by
    induction l with
    | nil => rfl
    | cons a r ih =>
      cases r with
      | nil => simp [join_one, stx]
      | cons b r =>
        rw [List.map_cons, List.map_cons, join_cons_cons, ← List.map_cons, ih]
        show (⟨a.toArray ++ #[] ++ _⟩ : Str) = _
        simp
  exact (StrLaws.glued_eq_join _ _).trans (this l)

theorem b_join {Γ : Gx} {l : List PV} {ss : List (List Nat)} {P : PV → Prop} (h : strsOf l = some ss) (hn : ss.flatten.length + ss.length ≤ 1000000) (hp : P (.str ss.flatten)) : BSpec Γ (.builtin "str.join") [.str [], .list l] P := fun A φ s Q E ws hh hu hφ r k => by
  obtain ⟨w, _, rfl, ⟨t, rfl⟩, w', _, rfl, ⟨a, vs, n, rfl, e, r1⟩, r2⟩ := r
  rw [show _ = [] from r2]
  have hj := join_empty ss
  refine join_listW (x := Str.ofString "") (isList_of (hφ _ _ e)) (strs_are h r1) (by decide) ?_ fun t' tk => ?_
  · have : ((ss.map stx).map (·.length)).sum = ss.flatten.length := by
      rw [List.length_flatten, List.map_map]
      rfl
    rw [this, List.length_map]
    omega
  · rw [hj]
    exact k _ _ φ s.heap tk hp ⟨t', rfl⟩ (.refl _) (fun _ _ e => e) hφ (fun _ _ e => .inl e)
end Mine
set_option Elab.async false
set_option maxRecDepth 10000
set_option linter.unusedVariables false
namespace Mine
open PySem PySem.W PySem.Calls PySem.Spec PyProof.Rows

noncomputable def entryOk (codes : List Nat) (e : DictEntry) : Bool := match e.key, e.val with
  | .int i _, .str s _ => (e.hash == hashInt i && decide (0 ≤ i)) && (codes.contains i.toNat && s.cps == #[92, i.toNat])
  | _, _ => false
noncomputable def tabCheck (codes : List Nat) (es : Array DictEntry) : Bool := es.toList.all (entryOk codes) && codes.all fun c => es.toList.any fun e => Value.isInt c e.key

theorem tab_of {prog : Program} {w : World} {K : Frag} {D : Addr} {es : Array DictEntry} {n : Nat} {codes : List Nat} (hl : K.lookup D = some { cls := .type "dict", data := .dict es n }) (hc : tabCheck codes es = true) (hs : (D == sysModules) = false)
    {h : Heap} (k : K.In h) : TabOf prog w (fun c => codes.contains c) D h := by
  unfold tabCheck at hc
  rw [Bool.and_eq_true] at hc
  obtain ⟨h1, h2⟩ := hc
  rw [List.all_eq_true] at h1 h2
  have entry : ∀ e ∈ es, ∃ i t s u, e.key = .int i t ∧ e.val = .str s u ∧ e.hash = hashInt i ∧ 0 ≤ i ∧ codes.contains i.toNat = true ∧ s.cps = #[92, i.toNat] := fun e he => by
    have := h1 e (by simpa using he)
    unfold entryOk at this
    split at this
    · rename_i i t s u e1 e2
      simp only [Bool.and_eq_true, decide_eq_true_eq, beq_iff_eq] at this
      exact ⟨i, t, s, u, e1, e2, this.1.1, this.1.2, this.2.1, this.2.2⟩
    · cases this
  refine ⟨hs, fun c => findBy Value.isInt es c, ⟨_, es, n, k _ _ hl, ⟨rfl, rfl, rfl⟩, rfl, fun e he => ?_, fun _ => rfl⟩, fun c hc => ?_, fun c hc => ?_⟩
  · obtain ⟨i, t, s, u, e1, e2, e3, _⟩ := entry e he
    exact ⟨i, by rw [e1]; simp [intKind, Value.isInt], by rw [e3]; rfl⟩
  · have hx := h2 c (by simpa using hc)
    rw [List.any_eq_true] at hx
    obtain ⟨e, he, hk⟩ := hx
    cases hf : es.find? fun e => Value.isInt c e.key with
    | none =>
      rw [Array.find?_eq_none] at hf
      exact absurd hk (by simpa using hf e (by simpa using he))
    | some e' =>
      have h3 := Array.find?_some hf
      have h4 := Array.mem_of_find?_eq_some hf
      obtain ⟨i, t, s, u, e1, e2, e3, e4, e5, e6⟩ := entry e' h4
      rw [e1] at h3
      simp only [Value.isInt, beq_iff_eq] at h3
      subst h3
      refine ⟨u, ?_⟩
      show (es.find? fun e => Value.isInt c e.key).map (·.val) = _
      rw [hf, Option.map_some, e2]
      congr 2
      obtain ⟨cps⟩ := s
      simp only at e6
      rw [e6]
      rfl
  · show (es.find? fun e => Value.isInt c e.key).map (·.val) = none
    cases hf : es.find? fun e => Value.isInt c e.key with
    | none => rfl
    | some e' =>
      have h3 := Array.find?_some hf
      have h4 := Array.mem_of_find?_eq_some hf
      obtain ⟨i, t, s, u, e1, e2, e3, e4, e5, e6⟩ := entry e' h4
      rw [e1] at h3
      simp only [Value.isInt, beq_iff_eq] at h3
      subst h3
      rw [show ((c : Int)).toNat = c from rfl, hc] at e5
      cases e5

noncomputable def fdAt (K : Frag) (a : Addr) : FuncData := match K.lookup a with
  | some ⟨_, _, .func fd, _⟩ => fd
  | _ => default
end Mine
set_option Elab.async false
set_option maxRecDepth 10000
set_option linter.unusedVariables false
namespace Mine
open PySem PySem.W PySem.Calls PySem.Spec PyProof.Rows

theorem putL_find_self (name : Str) (hsh : Int) (tk : Tok) (v : Value) : ∀ es : List DictEntry, ∃ e, (putL name hsh (.str name tk) v es).find? (·.key.isStr name) = some e ∧ e.val = v
  | [] => ⟨⟨hsh, .str name tk, v⟩, by simp [putL, Value.isStr], rfl⟩
  | e :: r => by
    unfold putL
    cases h : e.key.isStr name with
    | true => exact ⟨⟨e.hash, e.key, v⟩, by simp [h], rfl⟩
    | false =>
      obtain ⟨e', h1, h2⟩ := putL_find_self name hsh tk v r
      exact ⟨e', by simp only [Bool.false_eq_true, if_false, List.find?_cons, h]; exact h1, h2⟩
theorem putL_find_other {name y : Str} (ne : y ≠ name) (hsh : Int) (tk : Tok) (v : Value) : ∀ es : List DictEntry, ((putL name hsh (.str name tk) v es).find? (·.key.isStr y)).map (·.val) = (es.find? (·.key.isStr y)).map (·.val)
  | [] => by simp [putL, Value.isStr, Ne.symm ne]
  | e :: r => by
    have ih := putL_find_other ne hsh tk v r
    unfold putL
    cases h : e.key.isStr name with
    | true =>
      have : e.key.isStr y = false := by
        cases hk : e.key <;> rw [hk] at h <;> simp [Value.isStr] at h ⊢
        subst h
        exact Ne.symm ne
      simp [this]
    | false =>
      simp only [Bool.false_eq_true, if_false, List.find?_cons]
      cases e.key.isStr y with
      | true => rfl
      | false => exact ih
theorem putL_ref (name : Str) (hsh : Int) (tk : Tok) (v : Value) : ∀ es : List DictEntry, (putL name hsh (.str name tk) v es).any (·.refKey) = es.any (·.refKey)
  | [] => rfl
  | e :: r => by
    unfold putL
    cases h : e.key.isStr name with
    | true => simp [DictEntry.refKey]
    | false => simp [putL_ref name hsh tk v r]
theorem putL_len (name : Str) (hsh : Int) (k v : Value) : ∀ es : List DictEntry, (putL name hsh k v es).length ≤ es.length + 1
  | [] => Nat.le_refl _
  | e :: r => by
    unfold putL
    split
    · exact Nat.le_succ _
    · exact Nat.succ_le_succ (putL_len name hsh k v r)
theorem getL_putL (name y : Str) (hsh : Int) (tk : Tok) (v : Value) (es : List DictEntry) : getL y (putL name hsh (.str name tk) v es) = if y = name then some (some v) else getL y es := by
  by_cases h : y = name
  · subst h
    obtain ⟨e, h1, h2⟩ := putL_find_self y hsh tk v es
    unfold getL
    rw [h1, if_pos rfl]
    show some (some e.val) = _
    rw [h2]
  · rw [if_neg h]
    have := putL_find_other h hsh tk v es
    have hr := putL_ref name hsh tk v es
    unfold getL
    rw [hr]
    cases h1 : (putL name hsh (.str name tk) v es).find? (·.key.isStr y) with
    | none =>
      rw [h1] at this
      cases h2 : es.find? (·.key.isStr y) with
      | none => rfl
      | some e => rw [h2] at this; cases this
    | some e' =>
      rw [h1] at this
      cases h2 : es.find? (·.key.isStr y) with
      | none => rw [h2] at this; cases this
      | some e =>
        rw [h2] at this
        injection this with this
        simp only [this]

theorem FieldsAre.set {φ : PH} {es : List DictEntry} {fs : Fs} (h : FieldsAre φ es fs) {x : String} {p : PV} {v : Value} (hsh : Int) (tk : Tok) (hr : Rep φ p v) (hl : (putL (Str.ofString x) hsh (.str (Str.ofString x) tk) v es).length ≤ (fset x p fs).length) : FieldsAre φ (putL (Str.ofString x) hsh (.str (Str.ofString x) tk) v es) (fset x p fs) := by
  refine ⟨hl, fun y => ?_⟩
  rw [getL_putL, fget_fset]
  by_cases e : y = x
  · subst e
    rw [if_pos rfl, if_pos rfl]
    exact ⟨(fun q => by cases q), (fun q e => by cases e; exact ⟨v, rfl, hr⟩)⟩
  · rw [if_neg e, if_neg fun q => e (ofString_inj q)]
    exact h.2 y

section
variable {prog : Program} {w : World} {A : Around} {E : Value → Shared → Prop} {s : Shared} {K : Frag} {C x dx : Addr} {es : List DictEntry} {n : Nat} {v : Value} {name : Str}
theorem inst_at {h : Heap} (hx : h.get? x = some (instObj C dx)) (hd : h.get? dx = some (dictOf es n)) : InstAt h x (instObj C dx) C (some (dictOf es n)) := ⟨hx, rfl, rfl, hd⟩

theorem set_own {Q : Unit → Shared → Prop} (X : K.In s.heap) (hx : s.heap.get? x = some (instObj C dx)) (hd : s.heap.get? dx = some (dictOf es n))
    (hs : findIn K (.ref C) "__setattr__" = some (some (.builtin "object.__setattr__"))) (hp : plainOver K C = true) (ht : takerIn K C name = some none) (hh : hasDictIn K C = true) (hl : (getL name es).isSome = true) (hz : es.length ≤ 900)
    (h : ∀ h' n' hsh tk, Heap.SameBut dx s.heap h' → h'.get? dx = some (dictOf (putL name hsh (.str name tk) v es) n') → Q () { s with heap := h', toks := s.toks + 2 }) : wpAny (model prog w) A (setAttr (.ref x) name v) Q E s := by
  obtain ⟨hp0, g0, d0, tk0, os0⟩ := s
  dsimp only at X hx hd h ⊢
  have I := inst_at hx hd
  refine set_plain X I hs (osa_open (s := ⟨hp0, g0, d0, tk0 + 1, os0⟩) X I hp ht fun b => ?_)
  obtain ⟨cd, hc, hd'⟩ := any_some hh
  refine wpAny_bind (wpAny_pure (wpAny_bind (wpAny_bind (wpAny_loadPart hx (wpAny_bind ((looks_clsIn X hc).here ?_))))))
  rw [hd']
  refine wpAny_pure (a := some dx) (wpAny_bind (wpAny_pure (wpAny_bind ?_)))
  unfold nsSet
  refine wpAny_bind (wpAny_bind (wpAny_askSetting (wpAny_pure (wpAny_bind (wpAny_mkText (wpAny_bind (wpAny_loadPart hd ?_)))))))
  dsimp only
  have c : (!es.any (·.key.isStr name) && es.any (·.refKey)) = false := by
    unfold getL at hl
    split at hl
    · rename_i en he
      rw [List.any_eq_true.mpr ⟨en, List.mem_of_find?_eq_some he, List.find?_some he⟩]; rfl
    · split at hl
      · cases hl
      · rename_i z; rw [Bool.not_eq_true] at z; rw [z, Bool.and_false]
  have c' : (!es.toArray.any (·.key.isStr name) && es.toArray.any (·.refKey)) = false := by
    rw [← Array.any_toList, ← Array.any_toList]; exact c
  have hp' := putName_dict name (PyData.keyHash w.params name) (.str name (tk0 + 1)) v es n
  rw [aRefKeyMayBeTheName_at, c']
  have D' : (hp0.update dx (Obj.putName name (PyData.keyHash w.params name) (.str name (tk0 + 1)) v)).get? dx = some (dictOf (putL name (PyData.keyHash w.params name) (.str name (tk0 + 1)) v es) (putN name es n)) := by
    rw [Heap.get?_update_self _ hd (by rw [hp']; rfl), hp']
  refine wpAny_updatePart hd ?_
  have hlen : (putL name (PyData.keyHash w.params name) (.str name (tk0 + 1)) v es).length ≤ 1000 := Nat.le_trans (putL_len ..) (by omega)
  refine wpAny_bind (wpAny_lookBehind D' (pastItsLine_dict (by rw [List.size_toArray, sizeLine_eq]; omega)) ?_)
  exact wpAny_pure (h _ _ _ _ (Heap.SameBut.update ..) D')
end
end Mine
set_option Elab.async false
set_option maxRecDepth 10000
set_option linter.unusedVariables false
namespace Mine
open PySem PySem.W PySem.Calls PySem.Spec PyProof.Rows

section
variable {Y : Lo} {ρ : Rho} {φ : PH} {h h' : Heap}
theorem St.remake (S : St Y ρ φ h) {x : String} {sl sl' : Slot} {b : Addr} (hg : get x ρ = some sl) (hb : b ∈ foot1 sl) (hloc : Y.env.locals ∈ Y.lw) (hncell : ∀ o v, h.get? b = some o → o.data ≠ .cell v) (hs : Heap.SameBut b h h') (hex : ∃ o, h'.get? b = some o) (hf : foot1 sl' = foot1 sl)
    (hr : ∀ w, SlotRep φ h sl w → SlotRep φ h' sl' w) (ho : ∀ a l, sl' = .own a l → ¬ Y.ban a) : St Y (upd x sl' ρ) φ h' := by
  have hm : b ∈ foot ρ := foot_mem (mem_of_get hg) hb
  have hnd := List.nodup_append.mp S.apart
  have hoff := foot_upd_off (v := .none) hg (a := b) hb hnd.2.1
  have hoff' : b ∉ foot (del x ρ) := fun hq => hoff ((foot_del_upd x .none ρ).subset hq)
  have hsub : (foot (upd x sl' ρ)).Sublist (foot ρ) := foot_upd_same hf hg
  obtain ⟨m, hns, hv⟩ := S.vars
  obtain ⟨w, hw, hwr⟩ := hv x _ (mem_of_get hg)
  have kp : ∀ c o, c ≠ b → h.get? c = some o → h'.get? c = some o := fun c o ne e => hs.extBut c o ne e
  have hloc' : Y.env.locals ≠ b := fun e => hnd.2.2 _ hloc _ hm e
  have hcell : ∀ y c, Y.env.cells.lookup y = some c → c ≠ b := fun y c e q => by
    obtain ⟨v, o, e1, e2⟩ := S.cells y c e
    rw [q] at e1
    exact hncell o v e1 e2
  have va : ∀ {y : Str} {w : Value}, VarAt Y.env m h y w → VarAt Y.env m h' y w := fun {y w} q => q.keep fun c o e1 e2 => kp c o (hcell y c e1) e2
  refine S.alter hs (List.mem_append_right _ hm) hex ⟨m, hns.sameBut hs hloc', fun y t hy => ?_⟩ (fun y c e => ?_) ?_ (fun c hc => ?_) (fun y c l₁ hy => ?_)
  · rcases mem_upd hy with ⟨rfl, rfl⟩ | ⟨ne, hy⟩
    · exact ⟨w, va hw, hr w hwr⟩
    · obtain ⟨w', hw', r'⟩ := hv y t hy
      refine ⟨w', va hw', r'.keep fun c hc o e => kp c o (fun q => hoff' ?_) e⟩
      exact q ▸ foot_mem (mem_del_of ne hy) hc
  · obtain ⟨v, o, e1, e2⟩ := S.cells y c e
    exact ⟨v, o, kp c o (hcell y c e) e1, e2⟩
  · exact List.Nodup.sublist (List.Sublist.append (List.Sublist.refl _) hsub) S.apart
  · exact S.off c (List.mem_append_right _ (hsub.subset hc))
  · rcases mem_upd hy with ⟨_, e⟩ | ⟨_, hy⟩
    · exact ho _ _ e.symm
    · exact S.ob _ _ _ hy
end

theorem putL_length (name : Str) (hsh : Int) (k v : Value) : ∀ es : List DictEntry, (putL name hsh k v es).length = if es.any (·.key.isStr name) then es.length else es.length + 1
  | [] => rfl
  | e :: r => by
    unfold putL
    rw [List.any_cons]
    cases h : e.key.isStr name with
    | true => rfl
    | false =>
      simp only [Bool.false_eq_true, if_false, Bool.false_or, List.length_cons, putL_length name hsh k v r]
      split <;> rfl
theorem fset_len (x : String) (v : PV) : ∀ fs : Fs, (fset x v fs).length = if (fget x fs).isSome then fs.length else fs.length + 1
  | [] => rfl
  | (z, u) :: r => by
    unfold fset fget
    split
    · rfl
    · rw [List.length_cons, fset_len x v r]
      split <;> rfl
theorem FieldsAre.put {φ : PH} {es : List DictEntry} {fs : Fs} (h : FieldsAre φ es fs) {x : String} {p : PV} {v : Value} (hsh : Int) (tk : Tok) (hr : Rep φ p v) : FieldsAre φ (putL (Str.ofString x) hsh (.str (Str.ofString x) tk) v es) (fset x p fs) := by
  refine h.set hsh tk hr ?_
  rw [putL_length, fset_len]
  have h1 := h.1
  cases hf : fget x fs with
  | none =>
    simp only [Option.isSome_none, Bool.false_eq_true, if_false]
    split <;> omega
  | some q =>
    obtain ⟨w, e, _⟩ := (h.2 x).2 q hf
    have : es.any (·.key.isStr (Str.ofString x)) = true := by
      unfold getL at e
      split at e
      · rename_i en he
        exact List.any_eq_true.mpr ⟨en, List.mem_of_find?_eq_some he, by have := List.find?_some he; simpa using this⟩
      · split at e <;> cases e
    rw [this]
    simpa using h1
theorem FieldsAre.known {φ : PH} {es : List DictEntry} {fs : Fs} (h : FieldsAre φ es fs) (x : String) : (getL (Str.ofString x) es).isSome = true := by
  cases hf : fget x fs with
  | none => rw [(h.2 x).1 hf]; rfl
  | some p => obtain ⟨w, e, _⟩ := (h.2 x).2 p hf; rw [e]; rfl

/-- what a class must be like for its instances' own attributes to be plain -/
structure AttrOk (K : Frag) (C : Addr) (name : String) : Prop where
  get : plainGet K C (Str.ofString name) = true
  dict : hasDictIn K C = true
  find : ∃ attr, findIn K (.ref C) (Str.ofString name) = some attr ∧ noGet K attr = true
  set : findIn K (.ref C) "__setattr__" = some (some (.builtin "object.__setattr__"))
  over : plainOver K C = true
  taker : takerIn K C (Str.ofString name) = some none

theorem Rep.handed {φ : PH} {p : PV} {v : Value} (h : Rep φ p v) : handedIn v = true := by
  cases p with
  | none => rw [show v = _ from h]; rfl
  | bool b => rw [show v = _ from h]; rfl
  | int i => obtain ⟨t, rfl⟩ := h; rfl
  | str i => obtain ⟨t, rfl⟩ := h; rfl
  | bytes i => obtain ⟨t, rfl⟩ := h; rfl
  | list l => obtain ⟨a, vs, n, rfl, _⟩ := h; rfl

section
variable {Γ : Gx} {V : Va} {ρ : Rho} {X : Exn → Rho → Prop}
theorem obj_load {Y : Lo} (ok : Ok Γ V Y) {φ : PH} {s : Shared} {Q E : Value → Shared → Prop} {x : String} {C a d : Addr} {fs : Fs} {pos : Pos} (S : St Y ρ φ s.heap) (hg : get x ρ = some (.obj C a d fs)) (h : Q (.ref a) s) (hd : plainName x = true) :
    wpAny (model Γ.prog Γ.w) V.A (eval (.Name (Str.ofString x) pos) V.env) Q E s := by
  obtain ⟨m, hn, hv⟩ := S.vars
  obtain ⟨w, b, rfl, _⟩ := hv x _ (mem_of_get hg)
  rw [ok.ee] at hn b
  exact wpAny_Name (load_rule ok.fk hn b h (plainName_of hd).1) (plainName_of hd).2

/-- `x.name` -/
theorem ev_attr {x name : String} {C a d : Addr} {fs : Fs} {v : PV} {npos pos : Pos} {P : PV → Rho → Prop} (hg : get x ρ = some (.obj C a d fs)) (hf : fget name fs = some v) (hA : AttrOk Γ.K C name) (h : P v ρ) (hd : plainName x = true := by decide +kernel)
    (hb : attributeBase (.Name (Str.ofString x) npos) (Str.ofString name) V.env (eval (.Name (Str.ofString x) npos) V.env) = eval (.Name (Str.ofString x) npos) V.env := by rfl) :
    Ev Γ V ρ (.Attribute (.Name (Str.ofString x) npos) (Str.ofString name) pos) P X := fun Y ok φ s Q E S p => by
  rw [arm_eval_Attribute, hb]
  refine wpAny_bind (obj_load ok S hg ?_ hd)
  refine wpAny_bind (wpAny_standAt ?_)
  refine wpAny_bind (wpAny_holding ?_)
  obtain ⟨m, hn, hv⟩ := S.vars
  obtain ⟨w, _, rfl, ha, es, n, hdx, hfs⟩ := hv x _ (mem_of_get hg)
  obtain ⟨wv, hl, hr⟩ := (hfs.2 name).2 v hf
  obtain ⟨attr, h1, h2⟩ := hA.find
  have X' := Γ.kin.keeps (S.base ok)
  refine get_value X' (inst_at ha hdx) (plainGet_of hA.get).1 (findObj_own hA.dict h1 h2 hl) hr.handed ?_
  exact wpAny_bind (wpAny_of_eq rfl (wpAny_pure (p.ok v wv ρ φ _ h hr (.of S _))))

/-- `x.name = e` -/
theorem e1_setattr {x name : String} {e : Expr} {C a d : Addr} {npos apos pos : Pos} {P : Out → Prop} (hA : AttrOk Γ.K C name)
    (h : Ev Γ V ρ e (fun v ρ' => ∃ fs, get x ρ' = some (.obj C a d fs) ∧ fs.length ≤ 900 ∧ P (.next (upd x (.obj C a d (fset name v fs)) ρ'))) X) (hd : plainName x = true := by decide +kernel)
    (hst : V.st = true := by rfl) (hs : swapsWith e (some (.Attribute (.Name (Str.ofString x) npos) (Str.ofString name) apos)) pos.line V.env = pure false := by rfl) :
    E1 Γ V ρ (.Assign [.Attribute (.Name (Str.ofString x) npos) (Str.ofString name) apos] e pos) P X := fun Y ok φ s Q E hE S p => by
  refine plainObj_wpAny_Assign_Attribute (h Y ok φ s _ E S ⟨fun v val ρ₁ φ₁ s₁ hp r₁ n₁ => ?_, p.er⟩) hs
  obtain ⟨fs, hg, hlen, hp⟩ := hp
  have S₁ := n₁.2.2
  refine obj_load ok S₁ hg ?_ hd
  obtain ⟨m, hn, hv⟩ := S₁.vars
  obtain ⟨w, _, rfl, ha, es, n, hdx, hfs⟩ := hv x _ (mem_of_get hg)
  have X' := Γ.kin.keeps (S₁.base ok)
  refine set_own X' ha hdx hA.set hA.over hA.taker hA.dict (hfs.known name) (Nat.le_trans hfs.1 hlen) fun h' n' hsh tk hs' hd' => ?_
  have hw := (ok.wr hst).1
  have hne : a ≠ d := fun e => by
    rw [e, hdx] at ha
    cases ha
  refine p.nx _ _ _ hp (n₁.trans ⟨⟨h', _, rfl⟩, .refl _, S₁.remake hg (.tail _ (.head _)) (by rw [ok.ee, ok.ll]; exact hw) (fun o v' e q => ?_) hs' ⟨_, hd'⟩ rfl (fun w' hr => ?_) (fun _ _ e => by cases e)⟩)
  · rw [hdx] at e
    cases e
    cases q
  · obtain ⟨rfl, ha₂, es₂, n₂, hdx₂, hfs₂⟩ := hr
    rw [hdx] at hdx₂
    have e2 : es = es₂ := by
      have := Option.some.inj hdx₂
      simpa using congrArg (fun o : Obj => match o.data with | .dict q _ => q.toList | _ => []) this
    subst e2
    exact ⟨rfl, hs'.extBut _ _ hne ha₂, _, n', hd', hfs₂.put hsh tk r₁⟩
end
end Mine
set_option Elab.async false
set_option maxRecDepth 10000
set_option linter.unusedVariables false
namespace Mine
open PySem PySem.W PySem.Calls PySem.Spec PyProof.Rows

section
variable {Y : Lo} {ρ : Rho} {φ : PH} {h h' : Heap}
theorem St.slots (S : St Y ρ φ h) {fr Js : List Addr} (hfr : ∀ b ∈ fr, b = Y.env.locals ∨ b ∈ Y.FS) (hloc : Y.env.locals ∈ Y.lw) (off : ∀ J ∈ Js, Off Y ρ φ J)
    (k1 : ∀ b o, b ∉ fr → b ∉ Js → h.get? b = some o → h'.get? b = some o) (k2 : ∀ b o, b ∈ fr → h.get? b = some o → ∃ o', h'.get? b = some o' ∧ o'.data = o.data) : St Y ρ φ h' := by
  have kd : ∀ b o, b ∉ Js → h.get? b = some o → ∃ o', h'.get? b = some o' ∧ o'.data = o.data := fun b o hj e => by
    by_cases q : b ∈ fr
    · exact k2 b o q e
    · exact ⟨o, k1 b o q hj e, rfl⟩
  have hnd := List.nodup_append.mp S.apart
  have off1 : ∀ b ∈ fr, Y.κ b = none ∧ φ b = none := fun b hb => by
    rcases hfr b hb with rfl | hb
    · have := S.off _ (List.mem_append_left _ hloc)
      exact ⟨this.1, this.2.1⟩
    · exact S.offF b hb
  have off2 : ∀ b ∈ foot ρ, b ∉ fr := fun b hb q => by
    rcases hfr b q with rfl | q
    · exact hnd.2.2 _ hloc _ hb rfl
    · exact (S.off b (List.mem_append_right _ hb)).2.2 q
  have jl : Y.env.locals ∉ Js := fun q => (off _ q).loc rfl
  have jc : ∀ x c, Y.env.cells.lookup x = some c → c ∉ Js := fun x c e q => (off _ q).cells x c e rfl
  obtain ⟨m, ⟨o, es, ep, e1, e2, e3⟩, hv⟩ := S.vars
  refine ⟨fun a o e => k1 a o (fun q => by rw [(off1 a q).1] at e; cases e) (fun q => by rw [(off a q).κ] at e; cases e) (S.kk a o e), fun a ha => ?_, fun a o e => k1 a o (fun q => by rw [(off1 a q).2] at e; cases e) (fun q => by rw [(off a q).φ] at e; cases e) (S.fz a o e), S.fr, fun a ha => ?_, S.ob, ⟨m, ?_, fun x sl hx => ?_⟩, fun x c e => ?_, fun a ha => ?_, S.apart, S.off, S.offF⟩
  · obtain ⟨o, a1, a2⟩ := S.ff a ha
    obtain ⟨o', b1, b2⟩ := kd a o (fun q => (off a q).FS ha) a1
    exact ⟨o', b1, b2.trans a2⟩
  · obtain ⟨o, a1⟩ := S.bz a ha
    obtain ⟨o', b1, _⟩ := kd a o (fun q => (off a q).ban ha) a1
    exact ⟨o', b1⟩
  · obtain ⟨o', b1, b2⟩ := kd _ o jl e1
    exact ⟨o', es, ep, b1, b2.trans e2, e3⟩
  · obtain ⟨w, a, b⟩ := hv x sl hx
    refine ⟨w, ?_, b.keep fun c hc o e => k1 c o (off2 c (foot_mem hx hc)) (fun q => (off c q).foot (List.mem_append_right _ (foot_mem hx hc))) e⟩
    rcases a with a | ⟨a, c, a1, o, a2, a3⟩
    · exact .inl a
    · obtain ⟨o', b1, b2⟩ := kd c o (jc _ _ a1) a2
      exact .inr ⟨a, c, a1, o', b1, b2.trans a3⟩
  · obtain ⟨v, o, a1, a2⟩ := S.cells x c e
    obtain ⟨o', b1, b2⟩ := kd c o (jc _ _ e) a1
    exact ⟨v, o', b1, b2.trans a2⟩
  · obtain ⟨o, a1⟩ := S.lws a ha
    obtain ⟨o', b1, _⟩ := kd a o (fun q => (off a q).foot (List.mem_append_left _ ha)) a1
    exact ⟨o', b1⟩
end

/-- an exception that stands with its newest entry of the trace -/
structure HeldAt (h : Heap) (e : Addr) (o : Obj) (vs : Array Value) (T : Addr) : Prop where
  obj : h.get? e = some { o with data := .fields (vs.setIfInBounds 1 (.ref T)) }
  tb : ∃ oT ts, h.get? T = some oT ∧ oT.data = .fields ts ∧ ts[3]? = some .none
  ne : T ≠ e

section
variable {M : Model} {A : Around} {E : Value → Shared → Prop} {s : Shared}
theorem mapFields_of {o : Obj} {vs : Array Value} {f : Array Value → Array Value} (hd : o.data = .fields vs) : Obj.mapFields f o = { o with data := .fields (f vs) } := by
  obtain ⟨c, d, da, sl⟩ := o
  cases hd
  rfl
theorem flight_off {e T : Addr} {o oT : Obj} {vs ts : Array Value} {Q : Unit → Shared → Prop} (he : s.heap.get? e = some o) (hd : o.data = .fields vs) (h1 : vs[1]? = some (.ref T)) (hT : s.heap.get? T = some oT) (hdT : oT.data = .fields ts) (h3 : 3 < ts.size)
    (h : ∀ h', (∀ b, b ≠ T → h'.get? b = s.heap.get? b) → h'.get? T = some { oT with data := .fields (ts.setIfInBounds 3 .none) } → Q () { s with heap := h' }) : wpAny M A (setFlight (.ref e) none) Q E s := by
  unfold setFlight
  refine wpAny_bind (wpAny_field he hd h1 ?_)
  rw [if_pos (show (Value.ref T != Value.none) = true from by simp)]
  refine wpAny_setField hT hdT h3 (h _ (fun b hb => Heap.get?_update_other _ _ (Ne.symm hb)) ?_)
  have e := mapFields_of (f := (·.setIfInBounds 3 ((none : Option Addr).elim Value.none fun f => rawInt f))) hdT
  rw [Heap.get?_update_self _ hT (by rw [e]; rfl), e]
  rfl
theorem HeldAt.set {h : Heap} {e : Addr} {o : Obj} {vs : Array Value} {T : Addr} (H : HeldAt h e o vs T) {h' : Heap} {ts : Array Value} {oT : Obj} (k : ∀ b, b ≠ T → h'.get? b = h.get? b) (hT : h'.get? T = some { oT with data := .fields (ts.setIfInBounds 3 .none) }) (h3 : 3 < ts.size) : HeldAt h' e o vs T :=
  ⟨(k e (Ne.symm H.ne)).trans H.obj, ⟨_, _, hT, rfl, by simp [h3]⟩, H.ne⟩
theorem held_again {e T : Addr} {o : Obj} {vs : Array Value} {Q : Unit → Shared → Prop} (H : HeldAt s.heap e o vs T) (h1 : 1 < vs.size) (h : ∀ h', HeldAt h' e o vs T → (∀ b, b ≠ T → h'.get? b = s.heap.get? b) → Q () { s with heap := h' }) : wpAny M A (setFlight (.ref e) none) Q E s := by
  obtain ⟨oT, ts, hT, hdT, h3⟩ := H.tb
  have h3' := (Array.getElem?_eq_some_iff.mp h3).1
  exact flight_off H.obj rfl (by simp [h1]) hT hdT h3' fun h' k kT => h h' (H.set k kT h3') k

theorem note_land {base : Heap} {env : Env} {outer : List Env} {L e : Addr} {oe : Obj} {vs : Array Value} {T0 : Option Addr} {Q : Unit → Shared → Prop}
    (hfr : A.frames = some (env :: outer)) (hl : s.heap.FunFrames base (env :: outer)) (hf : env.frame = some L) (he : s.heap.get? e = some oe) (hd : oe.data = .fields vs) (h1 : vs[1]? = some (T0.elim .none .ref))
    (ht : ∀ t ∈ T0, t ≠ e ∧ ∃ oT ts, s.heap.get? t = some oT ∧ oT.data = .fields ts ∧ ts[3]? = some .none)
    (h : ∀ h' T, s.heap.get? T = none → HeldAt h' e oe vs T → (∀ b o, b ≠ e → b ∉ (env :: outer).filterMap (·.frame) → (∀ t ∈ T0, b ≠ t) → s.heap.get? b = some o → h'.get? b = some o) →
      (∀ b o, b ∈ (env :: outer).filterMap (·.frame) → s.heap.get? b = some o → ∃ o', h'.get? b = some o' ∧ o'.data = o.data) → Q () { s with heap := h' }) :
    wpAny M A (noteFrame (.ref e) env) (fun _ s' => wpAny M A (setFlight (.ref e) none) Q E s') E s := by
  have hsz := (Array.getElem?_eq_some_iff.mp h1).1
  -- the new entry
  have entry : ∀ (head : Value) (hn : Bool) (s₁ : Shared), (∀ b, (∀ t ∈ T0, b ≠ t) → s₁.heap.get? b = s.heap.get? b) → (∀ t ∈ T0, ∃ o ts, s₁.heap.get? t = some o ∧ o.data = .fields ts) → (∃ h₁, s₁ = { s with heap := h₁ }) →
      wpAny M A (do let a ← frameOf env; let pl ← entryPlaceOf L hn; let b ← EntryCells.newEntry head a .none (rawInt L) .none pl; setField (.ref e) 1 b) (fun _ s' => wpAny M A (setFlight (.ref e) none) Q E s') E s₁ := by
    rintro head hn _ kT aT ⟨h₁, rfl⟩
    dsimp only at kT aT
    have notT : ∀ b o, s.heap.get? b = some o → (∀ vs, o.data ≠ .fields vs) → ∀ t ∈ T0, b ≠ t := fun b o hb hnf t htt q => by
      obtain ⟨_, oT, ts, a1, a2, _⟩ := ht t htt
      rw [← q, hb] at a1
      cases a1
      exact hnf ts a2
    have hl₁ : h₁.FunFrames base (env :: outer) := hl.of_keeps fun b o hb hnf => ⟨o, (kT b (notT b o hb hnf)).trans hb, rfl⟩
    have he₁ : h₁.get? e = some oe := (kT e fun t htt q => (ht t htt).1 q.symm).trans he
    have hene : e ∉ (env :: outer).filterMap (·.frame) := fun hm => by
      obtain ⟨_, o, ho, hnf⟩ := hl₁.mem hm
      rw [he₁] at ho
      cases ho
      exact hnf vs hd
    refine wpAny_bind (wpAny_frameOf_fun hfr hl₁ hf fun h₂ hs₂ => ?_)
    refine wpAny_bind (wpAny_entryPlaceOf fun pl hpl => ?_)
    unfold EntryCells.newEntry newFields
    refine wpAny_bind (wpAny_newObj_type ?_ (hpl.sizeOk5 _ _ _ _ _))
    have he₂ : h₂.get? e = some oe := (hs₂.2.1 e hene).trans he₁
    generalize hta : ([head, .ref L, .none, rawInt L, .none] ++ (if pl.isEmpty then List.replicate 6 Value.none else pl)).toArray = ta
    have h3 : 3 < ta.size := by rw [← hta]; simp only [List.size_toArray, List.length_append, List.length_cons, List.length_nil]; omega
    have he₃ := Heap.get?_push_of_some (h := h₂) { cls := .type "traceback", dict := none, data := .fields ta } he₂
    refine wpAny_setField he₃ hd hsz ?_
    have hTe : h₂.objs.size ≠ e := Nat.ne_of_gt (Heap.lt_size he₂)
    have em := mapFields_of (f := (·.setIfInBounds 1 (Value.ref h₂.objs.size))) hd
    have he₄ := Heap.get?_update_self (Obj.mapFields (·.setIfInBounds 1 (Value.ref h₂.objs.size))) he₃ (by rw [em]; rfl)
    rw [em] at he₄
    have hT₄ := (Heap.get?_update_other (h₂.push { cls := .type "traceback", dict := none, data := .fields ta }) (Obj.mapFields (·.setIfInBounds 1 (Value.ref h₂.objs.size))) (Ne.symm hTe)).trans (Heap.get?_push_size h₂ rfl)
    refine flight_off he₄ rfl (by simp [hsz]) hT₄ rfl h3 fun h₅ k₅ kT₅ => ?_
    have old : ∀ b o, b ≠ e → h₂.get? b = some o → h₅.get? b = some o := fun b o hbe hb => by
      rw [k₅ b (Nat.ne_of_lt (Heap.lt_size hb))]
      dsimp only
      rw [Heap.get?_update_other _ _ (Ne.symm hbe)]
      exact Heap.get?_push_of_some _ hb
    refine h h₅ h₂.objs.size ?_ ⟨(k₅ e (Ne.symm hTe)).trans he₄, ⟨_, _, kT₅, rfl, by simp [h3]⟩, hTe⟩ (fun b o hbe hbf hbt hb => old b o hbe ((hs₂.2.1 b hbf).trans ((kT b hbt).trans hb))) fun b o hbf hb => ?_
    · cases q : s.heap.get? h₂.objs.size with
      | none => rfl
      | some o =>
        exfalso
        have : ∃ o', h₂.get? h₂.objs.size = some o' := by
          have : ∃ o', h₁.get? h₂.objs.size = some o' := by
            by_cases z : ∀ t ∈ T0, h₂.objs.size ≠ t
            · exact ⟨o, (kT _ z).trans q⟩
            · have : ∃ t, t ∈ T0 ∧ h₂.objs.size = t := Classical.byContradiction fun y => z fun t ht e => y ⟨t, ht, e⟩
              obtain ⟨t, ht', e⟩ := this
              obtain ⟨o', _, e', _⟩ := aT t ht'
              exact ⟨o', e ▸ e'⟩
          obtain ⟨o', e'⟩ := this
          obtain ⟨sl, e''⟩ := hs₂.2.2 _ o' e'
          exact ⟨_, e''⟩
        obtain ⟨o', e'⟩ := this
        exact Nat.lt_irrefl _ (Heap.lt_size e')
    · obtain ⟨_, o', ho', hnf⟩ := hl.mem hbf
      rw [hb] at ho'
      cases ho'
      obtain ⟨sl, hsl⟩ := hs₂.2.2 b o ((kT b (notT b o hb hnf)).trans hb)
      refine ⟨_, old b _ (fun q => ?_) hsl, rfl⟩
      rw [q, he] at hb
      cases hb
      exact hnf vs hd
  unfold noteFrame
  simp only [hf]
  cases T0 with
  | none =>
    have h1' : vs[1]? = some .none := h1
    refine wpAny_bind (wpAny_field he hd h1' ?_)
    rw [if_neg (by decide)]
    exact entry _ _ s (fun _ _ => rfl) (fun _ h => nomatch h) ⟨_, rfl⟩
  | some t =>
    have h1' : vs[1]? = some (.ref t) := h1
    obtain ⟨hte, oT, ts, hT, hdT, h3⟩ := ht t rfl
    have h3' := (Array.getElem?_eq_some_iff.mp h3).1
    refine wpAny_bind (wpAny_field he hd h1' ?_)
    rw [if_pos (show (Value.ref t != Value.none) = true from by simp)]
    refine wpAny_bind (wpAny_field hT hdT h3 ?_)
    rw [if_neg (show ¬ ((Value.none == rawInt L) = true) from by simp [rawInt])]
    refine wpAny_bind (wpAny_setField hT hdT h3' ?_)
    refine entry _ _ _ (fun b hb => Heap.get?_update_other _ _ (Ne.symm (hb t rfl))) (fun u hu => ?_) ⟨_, rfl⟩
    cases hu
    have em := mapFields_of (f := (·.setIfInBounds 3 Value.none)) hdT
    exact ⟨_, _, Heap.get?_update_self _ hT (by rw [em]; rfl), by rw [em]⟩
end

section
variable {Γ : Gx} {V : Va} {ρ : Rho} {X : Exn → Rho → Prop}
theorem frames_ok {Y : Lo} (ok : Ok Γ V Y) {φ : PH} {h base : Heap} (S : St Y ρ φ h) {outer : List Env} (F : Frs Γ V Y.FS Y.fd outer) (hb : ∀ L ∈ (V.env :: outer).filterMap (·.frame), base.get? L = none) : h.FunFrames base (V.env :: outer) := by
  obtain ⟨m, ⟨o, es, ep, e1, e2, e3⟩, hv⟩ := S.vars
  rw [ok.ee] at e1
  refine ⟨fun q => (by have := ok.fk; rw [q] at this; cases this), ⟨V.env.locals, o, F.own, hb _ (by rw [List.filterMap_cons, F.own]; exact .head _), e1, fun vs q => (by rw [e2] at q; cases q)⟩, ?_⟩
  have ho : ∀ L ∈ outer.filterMap (·.frame), base.get? L = none := fun L hL => hb L (by rw [List.filterMap_cons, F.own]; exact .tail _ hL)
  have hff : ∀ L ∈ outer.filterMap (·.frame), ∃ o, h.get? L = some o ∧ o.data = Y.fd L := fun L hL => S.ff L (by rw [F.FS]; exact hL)
  have hout := F.out
  clear hb hv F
  induction outer with
  | nil => trivial
  | cons env r ih =>
    obtain ⟨h1, L, h2, _, h3⟩ := hout env (.head _)
    have hm : L ∈ (env :: r).filterMap (·.frame) := by rw [List.filterMap_cons, h2]; exact .head _
    obtain ⟨o', a1, a2⟩ := hff L hm
    have sub : ∀ L' ∈ r.filterMap (·.frame), L' ∈ (env :: r).filterMap (·.frame) := fun L' hL => by rw [List.filterMap_cons, h2]; exact .tail _ hL
    exact ⟨h1, ⟨L, o', h2, ho L hm, a1, fun vs q => h3 vs (a2.symm.trans q)⟩, ih (fun L' hL => ho L' (sub L' hL)) (fun L' hL => hff L' (sub L' hL)) fun e he => hout e (.tail _ he)⟩

/-- a name's value under any surroundings -/
theorem name_at {A : Around} {Y : Lo} {φ : PH} {s : Shared} {Q E : Value → Shared → Prop} {x : String} {v : Value} {pos : Pos} (ok : Ok Γ V Y) (S : St Y ρ φ s.heap) (hN : NameIs Γ x v) (hk : V.env.kindOf (Str.ofString x) = some .globalImplicit) (h : Q v s) (hd : plainName x = true) :
    wpAny (model Γ.prog Γ.w) A (eval (.Name (Str.ofString x) pos) V.env) Q E s := by
  have k := S.base ok
  have g : s.heap.Ns V.env.globals Γ.mg := by rw [ok.glb]; exact Γ.top.g.keeps k
  have b : s.heap.Ns V.env.builtins Γ.mb := by rw [ok.bns]; exact Γ.top.b.keeps k
  refine Name_function_global ok.fk hk ?_ (plainName_of hd).2
  rcases hN with e | ⟨e, hb, hn⟩
  · exact loadGlobal_global g (mg_of Γ.kin Γ.top.g e) h
  · exact loadGlobal_builtin g (mg_none_of Γ.kin Γ.top.g e) b ((Γ.top.builtins _ hn).trans hb) h

theorem isExc_Index : isSubtype (.type "IndexError") (.type "BaseException") = pure true := by rw [isSubtype_type]; kernel_rfl
theorem self_Index : isSubtype (.type "IndexError") (.type "IndexError") = pure true := by rw [isSubtype_type]; kernel_rfl
theorem notTup_Index : isSubtype (.type ((Manifest.find? "IndexError").elim "type" fun x => x.metatype)) (.type "tuple") = pure false := by
  rw [isSubtype_type]; kernel_rfl

theorem frames_off {Y : Lo} (F : ∃ outer, Frs Γ V Y.FS Y.fd outer) : ∃ outer, Frs Γ V Y.FS Y.fd outer ∧ (∀ L ∈ (V.env :: outer).filterMap (·.frame), Γ.hB.get? L = none) ∧ (V.env :: outer).filterMap (·.frame) = V.env.locals :: Y.FS := by
  obtain ⟨outer, F⟩ := F
  have e : (V.env :: outer).filterMap (·.frame) = V.env.locals :: Y.FS := by rw [List.filterMap_cons, F.own, F.FS]
  refine ⟨outer, F, fun L hL => ?_, e⟩
  rw [e] at hL
  rcases List.mem_cons.mp hL with rfl | hL
  · exact F.new
  · rw [F.FS] at hL
    obtain ⟨env, hm, hf⟩ := List.mem_filterMap.mp hL
    obtain ⟨_, L', h2, h3, _⟩ := F.out env hm
    rw [h2] at hf
    cases hf
    exact h3

/-- an exception is noted in this activation -/
theorem note_exn {Y : Lo} (ok : Ok Γ V Y) (him : V.im = true) {φ : PH} {x : Exn} {e : Value} {s : Shared} (S : St Y ρ φ s.heap) (hx : ExnAt Y ρ φ x e s) {Q : Unit → Shared → Prop} {E : Value → Shared → Prop}
    (k : ∀ a d T h', e = .ref a → FlyAt h' φ x a d (some T) → Off Y ρ φ a → Off Y ρ φ d → Off Y ρ φ T → St Y ρ φ h' → Q () { s with heap := h' }) :
    wpAny (model Γ.prog Γ.w) V.A (noteFrame e V.env) (fun _ s' => wpAny (model Γ.prog Γ.w) V.A (setFlight e none) Q E s') E s := by
  obtain ⟨a, d, T0, rfl, F0, oa, od, oT⟩ := hx
  obtain ⟨outer, F, hbn, hfr⟩ := frames_off (ok.fx him)
  obtain ⟨vs, he, hsz, h1⟩ := F0.obj
  obtain ⟨es, n, ln, cn, hdx, hfs⟩ := F0.dict
  have hmem : ∀ b ∈ (V.env :: outer).filterMap (·.frame), b = Y.env.locals ∨ b ∈ Y.FS := fun b hb => by
    rw [hfr] at hb
    rw [ok.ee]
    exact List.mem_cons.mp hb
  have hlw : Y.env.locals ∈ Y.lw := by rw [ok.ee, ok.ll]; exact (ok.wr F.st).1
  refine note_land F.fr (frames_ok ok S F hbn) F.own he rfl h1 (fun t ht => ⟨(F0.neT t ht).1, F0.tb t ht⟩) fun h' T hT H k1 k2 => ?_
  have offs : ∀ J ∈ a :: T0.toList, Off Y ρ φ J := fun J hJ => by
    rcases List.mem_cons.mp hJ with rfl | hJ
    · exact oa
    · exact oT J (by simpa using hJ)
  have S' : St Y ρ φ h' := S.slots (Js := a :: T0.toList) hmem hlw offs (fun b o hb hj q => k1 b o (fun z => hj (z ▸ .head _)) hb (fun t ht z => hj (z ▸ .tail _ (Option.mem_toList.mpr ht))) q) k2
  have hd' : h'.get? d = some (dictOf es n) := k1 d _ (Ne.symm F0.ne) (fun z => (hmem d z).elim od.loc od.FS) (fun t ht => Ne.symm (F0.neT t ht).2) hdx
  refine k a d T h' rfl ⟨F0.ne, fun t ht => ?_, ⟨_, H.obj, by simpa using hsz, ?_⟩, fun t ht => ?_, es, n, ln, cn, hd', hfs⟩ oa od (S.offNew hT) S'
  · cases ht
    exact ⟨H.ne, fun z => by rw [z, hdx] at hT; cases hT⟩
  · show (vs.setIfInBounds 1 _)[1]? = _
    simp [hsz]
  · cases ht
    exact H.tb

/-- an IndexError raised in this activation and caught in it -/
theorem caught_index {Y : Lo} (ok : Ok Γ V Y) (him : V.im = true) {φ : PH} {h₁ : Heap} {s' : Shared} {e : Addr} (S : St Y ρ φ h₁) (hx : Heap.NewExc h₁ s'.heap e "IndexError") {Q : Flow → Shared → Prop} {E : Value → Shared → Prop} {b₀ : Stmt} {suite : List Stmt} {np pos : Pos} {rest : List ExceptHandler}
    (hN : NameIs Γ "IndexError" (.type "IndexError"))
    (k : ∀ h₆ o vs, St Y ρ φ h₆ → Off Y ρ φ e → h₆.get? e = some o → o.data = .fields vs → vs[2]? = some .none → wpAny (model Γ.prog Γ.w) (V.A.mark (some (.ref e))) (execs (b₀ :: suite) V.env) Q (notedBy (model Γ.prog Γ.w) (V.A.mark (some (.ref e))) V.env (cameBackBy (model Γ.prog Γ.w) V.A V.env E)) { s' with heap := h₆ })
    (hk : V.env.kindOf (Str.ofString "IndexError") = some .globalImplicit) :
    wpAny (model Γ.prog Γ.w) V.A (noteFrame (.ref e) V.env) (fun _ s₂ => wpAny (model Γ.prog Γ.w) V.A (setFlight (.ref e) none) (fun _ s₃ =>
      wpAny (model Γ.prog Γ.w) V.A (handleBy (.ref e) V.env (.ExceptHandler (some (.Name (Str.ofString "IndexError") np)) none (b₀ :: suite) pos :: rest)) Q E s₃) E s₂) E s' := by
  obtain ⟨outer, F, hbn, hfr⟩ := frames_off (ok.fx him)
  have S' : St Y ρ φ s'.heap := S.keeps hx.keeps
  have hl := frames_ok ok S' F hbn
  obtain ⟨ob, t, he, hc, hd⟩ := hx.there
  have hlw : Y.env.locals ∈ Y.lw := by rw [ok.ee, ok.ll]; exact (ok.wr F.st).1
  have hmem : ∀ b ∈ (V.env :: outer).filterMap (·.frame), b = Y.env.locals ∨ b ∈ Y.FS := fun b hb => by
    rw [hfr] at hb
    rw [ok.ee]
    exact List.mem_cons.mp hb
  have ne : ∀ b o, h₁.get? b = some o → b ≠ e := fun b o q z => by rw [z, hx.new] at q; cases q
  refine note_land (T0 := none) F.fr hl F.own he hd rfl (fun _ h => nomatch h) fun h₄ T hT H k1 k2 => ?_
  have neT : ∀ b o, h₁.get? b = some o → b ≠ T := fun b o q z => by have := hx.keeps _ _ q; rw [z, hT] at this; cases this
  have S₄ : St Y ρ φ h₄ := S.slots (Js := []) hmem hlw (fun _ h => nomatch h) (fun b o hb _ q => k1 b o (ne b o q) hb (fun _ h => nomatch h) (hx.keeps _ _ q)) fun b o hb q => k2 b o hb (hx.keeps _ _ q)
  refine wpAny_handleBy_builtin (X := "IndexError") (T := "IndexError") (b := true) isExc_Index notTup_Index self_Index (name_at (s := { s' with heap := h₄ }) ok S₄ hN hk ⟨rfl, ⟨_, H.obj, hc⟩, ?_⟩ (by decide +kernel))
  refine held_again H (by show 1 < 6; decide) fun h₆ H₆ k₆ => ?_
  have S₆ : St Y ρ φ h₆ := S.slots (Js := []) hmem hlw (fun _ h => nomatch h) (fun b o hb _ q => (k₆ b (neT b o q)).trans (k1 b o (ne b o q) hb (fun _ h => nomatch h) (hx.keeps _ _ q))) fun b o hb q => by
    obtain ⟨o', a, b'⟩ := k2 b o hb (hx.keeps _ _ q)
    exact ⟨o', (k₆ b (neT b o q)).trans a, b'⟩
  exact k h₆ _ _ S₆ (S.offNew hx.new) H₆.obj rfl rfl

/-- try: nothing is raised -/
theorem e1_try_ok {body : List Stmt} {h₀ : ExceptHandler} {hs : List ExceptHandler} {pos : Pos} {P : Out → Prop} (h : Ex Γ V ρ body P nothing) : E1 Γ V ρ (.Try body (h₀ :: hs) [] [] pos) P X := fun Y ok φ s Q E hE S p => by
  rw [arm_exec_Try]
  refine wpAny_bind (wpAny_standAt (wpAny_tryStmt_except ?_))
  refine wpAny_mono (h Y ok φ s (fun f s₁ => match f with | .next => wpAny (model Γ.prog Γ.w) V.A (execs [] V.env) Q E s₁ | f => Q f s₁) (fun _ _ => False) PassesAll.never S ⟨fun ρ' φ' s' a n => ?_, fun ρ' φ' s' a n => p.bk _ _ _ a n, fun ρ' φ' s' a n => p.ct _ _ _ a n, fun v val ρ' φ' s' a b n => p.rt _ _ _ _ _ a b n, fun _ _ _ _ _ f => f.elim⟩) (fun _ _ x => x) fun _ _ x => x.elim
  exact wpAny_pure (p.nx _ _ _ a n)
end
end Mine
set_option Elab.async false
set_option maxRecDepth 10000
set_option linter.unusedVariables false
namespace Mine
open PySem PySem.W PySem.Calls PySem.Spec PyProof.Rows

noncomputable abbrev Va.handling (V : Va) (e : Addr) : Va := { V with A := V.A.mark (some (.ref e)), hm := true, hd := some e }

section
variable {Γ : Gx} {V : Va} {ρ : Rho} {X : Exn → Rho → Prop}
theorem Ok.handling {Y : Lo} (ok : Ok Γ V Y) {e : Addr} {o : Obj} {vs : Array Value} (hκ : Y.κ e = none) (hd : o.data = .fields vs) (h2 : vs[2]? = some .none) : Ok Γ (V.handling e) (Y.shield e o) :=
  have ok' := ok.shield (o := o) hκ
  { ee := ok.ee, ll := ok.ll, gb := ok'.gb, fk := ok.fk, glb := ok.glb, bns := ok.bns, hh := (fun h => by cases h), dep := ok.dep, uni := ok.uni, ci := ok.ci, wr := ok'.wr
    hx := fun e' q => by
      cases q
      exact ⟨rfl, o, vs, if_pos rfl, hd, h2⟩
    fx := fun h => let ⟨o, F⟩ := ok.fx h; ⟨o, ⟨F.fr, F.own, F.new, F.st, F.FS, F.out⟩⟩ }

theorem tail_str_raise {prog : Program} {w : World} {A : Around} {E : Value → Shared → Prop} {s : Shared} {Q : Value → Shared → Prop} {value slice : Expr} {x : List Nat} {t u : Tok} {k : Nat} (hh : A.handled = none) (hk : x.length ≤ k) (hk2 : k ≤ 1000000)
    (hsub : ∀ o i, subscripted slice false o i = operate [o, i] (getItem o i)) (h : ∀ h' tk e, Heap.NewExc s.heap h' e "IndexError" → E (.ref e) { s with heap := h', toks := tk }) : wpAny (model prog w) A (subscriptTail value slice (.str ⟨x.toArray⟩ t) (.int k u)) Q E s := by
  refine tail_any (T := "str") (typeIs_str _ _ _) PySem.F.slot_str_getitem.lookup ?_ (hsub _ _)
  refine getItem_meets (typeIs_str s _ t) (by decide) F.slot_str_getitem F.entry_str_getitem (F.args_str_getitem_2 _ _) (raises_str_getitem _ _ t u ?_ ?_) ⟨hh, fun h' tk e hx => h h' tk e hx⟩
  · rw [decide_eq_false (by omega), decide_eq_false (by omega)]; rfl
  · have e : (⟨x.toArray⟩ : Str).length = x.length := List.size_toArray
    rw [e, seqIndex_nn (Int.natCast_nonneg _), if_neg (by omega)]
    rfl

/-- try: an index past the end of a text -/
theorem e1_try_index {x : String} {value slice : Expr} {px spos apos np hpos pos : Pos} {b₀ : Stmt} {suite : List Stmt} {rest : List ExceptHandler} {P : Out → Prop}
    (hN : NameIs Γ "IndexError" (.type "IndexError"))
    (h : Ev Γ V ρ value (fun v ρ₁ => ∃ t, v = .str t ∧ Ev Γ V ρ₁ slice (fun i ρ₂ => ∃ k : Nat, i = .int k ∧ t.length ≤ k ∧ k ≤ 1000000 ∧ ∀ e, Ex Γ (V.handling e) ρ₂ (b₀ :: suite) P X) nothing) nothing)
    (hsub : ∀ o i, subscripted slice false o i = operate [o, i] (getItem o i) := by intro _ _; rfl) (hk : V.env.kindOf (Str.ofString "IndexError") = some .globalImplicit := by kernel_rfl)
    (him : V.im = true := by rfl) (hm : V.hm = false := by rfl) (hs : swapsWith (.Subscript value slice spos) (some (.Name (Str.ofString x) px)) apos.line V.env = pure false := by rfl) :
    E1 Γ V ρ (.Try [.Assign [.Name (Str.ofString x) px] (.Subscript value slice spos) apos] (.ExceptHandler (some (.Name (Str.ofString "IndexError") np)) none (b₀ :: suite) hpos :: rest) [] [] pos) P X := fun Y ok φ s Q E hE S p => by
  rw [arm_exec_Try]
  refine wpAny_bind (wpAny_standAt (wpAny_tryStmt_except ?_))
  refine wpAny_execs_cons (wpAny_Assign_Name (Subscript_ (h Y ok φ s _ _ S ⟨fun v vx ρ₁ φ₁ s₁ hb rx n₁ => ?_, fun _ _ _ _ _ f => f.elim⟩)) hs)
  obtain ⟨t, rfl, hb⟩ := hb
  obtain ⟨tk, rfl⟩ := rx
  refine hb Y ok φ₁ s₁ _ _ n₁.2.2 ⟨fun i vi ρ₂ φ₂ s₂ hb₂ ri n₂ => ?_, fun _ _ _ _ _ f => f.elim⟩
  obtain ⟨k, rfl, hk1, hk2, hx⟩ := hb₂
  obtain ⟨u, rfl⟩ := ri
  refine tail_str_raise (ok.hh hm) hk1 hk2 hsub fun h' tk' e hxc => ?_
  refine caught_index ok him n₂.2.2 (s' := { s₂ with heap := h', toks := tk' }) hxc hN (fun h₆ o vs S₆ off ho hd h2 => ?_) hk
  have S₇ := S₆.shield ho off.φ off.FS off.foot
  have nn : Nx Y φ ρ₂ φ₂ s { s₂ with heap := h₆, toks := tk' } := (n₁.trans n₂).trans ⟨⟨h₆, tk', rfl⟩, .refl _, S₆⟩
  refine wpAny_passesOwnAt (hE _ _ (SameStack.mark _ _)) (hx e (Y.shield e o) (ok.handling off.κ hd h2) φ₂ { s₂ with heap := h₆, toks := tk' } Q E (hE.mark _) S₇ ⟨fun ρ' φ' s' a n => ?_, fun ρ' φ' s' a n => ?_, fun ρ' φ' s' a n => ?_, fun v val ρ' φ' s' a b n => ?_, fun x e ρ' φ' s' a b n => ?_⟩)
  all_goals have n' := Nx.unshield nn n off.κ
  · exact p.nx _ _ _ a n'
  · exact p.bk _ _ _ a n'
  · exact p.ct _ _ _ a n'
  · exact p.rt _ _ _ _ _ a b n'
  · exact p.er _ _ _ _ _ a b.unshield n'
end
end Mine
set_option Elab.async false
set_option maxRecDepth 10000
set_option linter.unusedVariables false
namespace Mine
open PySem PySem.W PySem.Calls PySem.Spec PyProof.Rows

noncomputable def SlotsRep (φ : PH) (h : Heap) : List Slot → List Value → Prop
  | [], ws => ws = []
  | s :: ss, ws => ∃ w r, ws = w :: r ∧ SlotRep φ h s w ∧ SlotsRep φ h ss r
theorem SlotsRep.length {φ : PH} {h : Heap} : ∀ {ss : List Slot} {ws : List Value}, SlotsRep φ h ss ws → ws.length = ss.length
  | [], _, r => by rw [show _ = [] from r]; rfl
  | _ :: ss, _, ⟨v, r, e, _, y⟩ => by rw [e, List.length_cons, List.length_cons, SlotsRep.length y]
theorem SlotsRep.of_reps {φ : PH} {h : Heap} : ∀ {vs : List PV} {ws : List Value}, Reps φ vs ws → SlotsRep φ h (vs.map .val) ws
  | [], _, r => r
  | _ :: vs, _, ⟨v, r, e, x, y⟩ => ⟨v, r, e, x, SlotsRep.of_reps y⟩
theorem SlotsRep.zip_mem {φ : PH} {h : Heap} : ∀ {names : List String} {ss : List Slot} {ws : List Value} {x : String} {sl : Slot}, SlotsRep φ h ss ws → (x, sl) ∈ names.zip ss → ∃ w, (x, w) ∈ names.zip ws ∧ SlotRep φ h sl w
  | [], _, _, _, _, _, h => by simp at h
  | _ :: _, [], _, _, _, _, h => by simp at h
  | n :: ns, s :: ss, _, x, sl, ⟨w, r, rfl, h1, h2⟩, h => by
    simp only [List.zip_cons_cons, List.mem_cons] at h
    rcases h with e | h
    · cases e
      exact ⟨w, .head _, h1⟩
    · obtain ⟨w', b, c⟩ := SlotsRep.zip_mem h2 h
      exact ⟨w', .tail _ b, c⟩
theorem foot_zip : ∀ {names : List String} {ss : List Slot}, names.length = ss.length → foot (names.zip ss) = ss.flatMap foot1
  | [], [], _ => rfl
  | n :: ns, s :: ss, h => by
    show foot1 s ++ foot (ns.zip ss) = _
    rw [foot_zip (by simpa using h), List.flatMap_cons]

noncomputable abbrev frOf (outer : List Env) : List Addr := outer.filterMap (·.frame)
noncomputable abbrev Self := Option (Addr × Fs)
noncomputable def selfS (sf : Self) (a dd : Addr) : List Slot := match sf with
  | none => []
  | some (C, fs) => [.obj C a dd fs]
noncomputable def selfV (sf : Self) (a : Addr) : List Value := match sf with
  | none => []
  | some _ => [.ref a]
noncomputable def SelfAt (φ : PH) (h : Heap) (sf : Self) (a dd : Addr) : Prop := match sf with
  | none => True
  | some (C, fs) => SlotRep φ h (.obj C a dd fs) (.ref a)
structure SelfOff (Γ : Gx) (φ : PH) (sf : Self) (a dd : Addr) (outer : List Env) : Prop where
  off : sf.isSome = true → φ a = none ∧ φ dd = none ∧ a ∉ frOf outer ∧ dd ∉ frOf outer ∧ Γ.hB.get? a = none ∧ Γ.hB.get? dd = none ∧ a ≠ dd

noncomputable def selfA (sf : Self) (a dd : Addr) : List Addr := match sf with
  | none => []
  | some _ => [a, dd]

/-- what a call leaves as it was -/
structure Kept (h₀ h' : Heap) (φ φ' : PH) (fr as : List Addr) : Prop where
  le : φ.le φ'
  keep : ∀ b o, b ∉ fr → b ∉ as → h₀.get? b = some o → h'.get? b = some o
  frs : ∀ b o, b ∈ fr → h₀.get? b = some o → ∃ o', h'.get? b = some o' ∧ o'.data = o.data
  fz : ∀ b o, φ' b = some o → h'.get? b = some o
  new : ∀ b o, φ' b = some o → φ b = some o ∨ h₀.get? b = none
  live : ∀ b ∈ as, ∃ o, h'.get? b = some o

/-- what a function of the program, that may raise, answers: the heap stays but for the frames and the object that it works on -/
noncomputable def ISpec (Γ : Gx) (hm : Bool) (f : Addr) (d : Nat) (sf : Self) (vs : List PV) (P : PV → Fs → Prop) (X : Exn → Prop) : Prop :=
  ∀ (A : Around) (φ : PH) (s : Shared) (Q E : Value → Shared → Prop) (ws : List Value) (outer : List Env) (a dd : Addr), (hm = false → A.handled = none) → A.depth + (d + 1) ≤ 700 → A.units + 10 * (d + 1) ≤ 5000 → A.frames = some outer → s.heap.FunFrames Γ.hB outer →
    (∀ b o, Γ.hB.get? b = some o → s.heap.get? b = some o) → (∀ b o, φ b = some o → s.heap.get? b = some o) → (∀ b ∈ frOf outer, φ b = none) → Reps φ vs ws → SelfAt φ s.heap sf a dd → SelfOff Γ φ sf a dd outer →
    (∀ v val φ' h' tk fs', P v fs' → Rep φ' v val → SelfAt φ' h' (sf.map fun p => (p.1, fs')) a dd → Kept s.heap h' φ φ' (frOf outer) (selfA sf a dd) → Q val { s with heap := h', toks := tk }) →
    (∀ x e d T φ' h' tk, X x → FlyAt h' φ' x e d (some T) → (∀ b ∈ [e, d, T], s.heap.get? b = none ∧ φ' b = none) → Kept s.heap h' φ φ' (frOf outer) (selfA sf a dd) → E (.ref e) { s with heap := h', toks := tk }) →
    codeAny (model Γ.prog Γ.w) A (.call (.ref f) ⟨selfV sf a ++ ws, []⟩) (fun r s' => match r with | .ok (.ret v) => Q v s' | .ok _ => False | .error e => E e s') s

noncomputable def selfPost (sf : Self) (n : String) (a dd : Addr) (P : PV → Fs → Prop) (v : PV) (ρ : Rho) : Prop := match sf with
  | none => P v []
  | some (C, _) => ∃ fs', get n ρ = some (.obj C a dd fs') ∧ P v fs'

/-- the state in which a body begins, and what its ends say of the state around -/
theorem frame_state {Γ : Gx} {hm : Bool} {hd : Option Addr} {d : Nat} {A : Around} {env : Env} {names : List String} {slots : List Slot} {ws : List Value} {φ : PH} {h₀ h₁ : Heap} {outer : List Env} {lw : List Addr} {m : Str → Option Value}
    (hfr : A.frames = some (env :: outer)) (hff : h₀.FunFrames Γ.hB outer) (hB : ∀ b o, Γ.hB.get? b = some o → h₀.get? b = some o) (hφ : ∀ b o, φ b = some o → h₀.get? b = some o) (hφf : ∀ b ∈ frOf outer, φ b = none)
    (keep : ∀ b o, h₀.get? b = some o → h₁.get? b = some o) (hfk : env.scope.kind = .function) (hglob : env.globals = mainGlobals) (hblt : env.builtins = builtinsNs) (hown : env.frame = some env.locals)
    (hns : h₁.Ns env.locals m) (hvar : ∀ p ∈ names.zip ws, VarAt env m h₁ (Str.ofString p.1) p.2) (hlw : ∀ b ∈ lw, h₀.get? b = none ∧ ∃ o, h₁.get? b = some o) (hlnd : lw.Nodup) (hloc : env.locals ∈ lw)
    (hcells : ∀ x c, env.cells.lookup x = some c → (∃ v, h₁.IsCell c v) ∧ (c ∈ lw ∨ (env.kindOf x = some .free ∧ ∃ o, Γ.hB.get? c = some o))) (hci : ∀ x y c, env.cells.lookup x = some c → env.cells.lookup y = some c → x = y)
    (hr : SlotsRep φ h₀ slots ws) (hlen : names.length = slots.length) (hnd : (slots.flatMap foot1).Nodup) (hso : ∀ b ∈ slots.flatMap foot1, φ b = none ∧ b ∉ frOf outer ∧ Γ.hB.get? b = none) (hno : ∀ b l, Slot.own b l ∉ slots)
    (hh : hm = false → A.handled = none) (dep : A.depth + d ≤ 700) (uni : A.units + 10 * d ≤ 5000)
    (hhd : ∀ e, hd = some e → A.handled = some (.ref e) ∧ e ∉ frOf outer ∧ e ∉ slots.flatMap foot1 ∧ ∃ o vs, h₀.get? e = some o ∧ o.data = .fields vs ∧ vs[2]? = some .none) :
    ∃ Y, Ok Γ ⟨A, env, lw, true, d, true, hm, hd⟩ Y ∧ St Y (names.zip slots) φ h₁ ∧ (∀ b, φ b = none → ¬ Y.ban b → h₀.get? b = none) ∧ (∀ b, Y.κ b = none → b ∈ Y.FS ∨ b ∈ slots.flatMap foot1 ∨ h₀.get? b = none) ∧
      (∀ ρ' φ' h', St Y ρ' φ' h' → φ.le φ' → Kept h₀ h' φ φ' (frOf outer) (slots.flatMap foot1)) := by
  have frAlive : ∀ b ∈ frOf outer, Γ.hB.get? b = none ∧ ∃ o, h₀.get? b = some o ∧ ∀ vs, o.data ≠ .fields vs := fun b hb => hff.mem hb
  have alive : ∀ {slots : List Slot} {ws : List Value}, SlotsRep φ h₀ slots ws → ∀ b ∈ slots.flatMap foot1, ∃ o, h₀.get? b = some o := fun {slots} => by
    induction slots with
    | nil => intro _ _ b hb; exact nomatch hb
    | cons s r ih =>
      rintro ws ⟨w, ws', rfl, h1, h2⟩ b hb
      rw [List.flatMap_cons] at hb
      rcases List.mem_append.mp hb with hb | hb
      · exact h1.live b hb
      · exact ih h2 b hb
  have slAlive := alive hr
  have keepS : ∀ {slots : List Slot} {ws : List Value}, SlotsRep φ h₀ slots ws → SlotsRep φ h₁ slots ws := fun {slots} => by
    induction slots with
    | nil => intro _ h; exact h
    | cons s r ih =>
      rintro ws ⟨w, ws', rfl, h1, h2⟩
      exact ⟨w, ws', rfl, h1.keep fun a _ => keep a, ih h2⟩
  have hr₁ := keepS hr
  have hκ : ∃ κ : PH, (∀ b, (b ∈ frOf outer ∨ b ∈ slots.flatMap foot1) → κ b = none) ∧ (∀ b, ¬ (b ∈ frOf outer ∨ b ∈ slots.flatMap foot1) → κ b = h₀.get? b) := by
    classical
    exact ⟨fun b => if (b ∈ frOf outer ∨ b ∈ slots.flatMap foot1) then none else h₀.get? b, fun b q => if_pos q, fun b q => if_neg q⟩
  obtain ⟨κ, κ1, κ2⟩ := hκ
  have κle : ∀ b o, κ b = some o → h₀.get? b = some o := fun b o e => by
    by_cases q : b ∈ frOf outer ∨ b ∈ slots.flatMap foot1
    · rw [κ1 b q] at e; cases e
    · rw [κ2 b q] at e; exact e
  have gb : ∀ b o, Γ.hB.get? b = some o → κ b = some o := fun b o e => by
    refine (κ2 b ?_).trans (hB b o e)
    rintro (q | q)
    · rw [(frAlive b q).1] at e; cases e
    · rw [(hso b q).2.2] at e; cases e
  let fdt : Addr → Data := fun b => match h₀.get? b with
    | some o => o.data
    | none => .plain
  have fdt_of : ∀ {b o}, h₀.get? b = some o → fdt b = o.data := fun {b o} e => by
    show (match h₀.get? b with | some o => o.data | none => .plain) = _
    rw [e]
  let Y : Lo := ⟨env, lw, κ, frOf outer, fdt, fun b => (∃ o, h₀.get? b = some o) ∧ φ b = none⟩
  refine ⟨Y, ?_, ?_, fun b h1 h2 => ?_, fun b h1 => ?_, fun ρ' φ' h' S' le => ?_⟩
  · exact
      { ee := rfl, ll := rfl, gb := gb, fk := hfk, glb := hglob, bns := hblt, hh := hh, dep := dep, uni := uni, ci := hci
        wr := fun _ => ⟨hloc, fun x c e => (hcells x c e).2.imp id fun q => ⟨q.1, let ⟨o, z⟩ := q.2; ⟨o, gb c o z⟩⟩⟩
        hx := fun e h => (by
          obtain ⟨z1, z2, z3, o, vs, z4, z5, z6⟩ := hhd e h
          exact ⟨z1, o, vs, (κ2 e (fun q => q.elim z2 z3)).trans z4, z5, z6⟩)
        fx := fun _ => ⟨outer, ⟨hfr, hown, (by
          cases e : Γ.hB.get? env.locals with
          | none => rfl
          | some o => have := hB _ _ e; rw [(hlw _ hloc).1] at this; cases this), rfl, rfl, fun env' he => (by
          have aux : ∀ {l : List Env}, h₀.FunFrames Γ.hB l → env' ∈ l → env'.scope.kind ≠ .module ∧ ∃ L o, env'.frame = some L ∧ Γ.hB.get? L = none ∧ h₀.get? L = some o ∧ ∀ vs, o.data ≠ .fields vs := fun {l} => by
            induction l with
            | nil => intro _ q; exact nomatch q
            | cons e r ih =>
              rintro ⟨h1, ⟨L, o, h2, h3, h4, h5⟩, h6⟩ q
              rcases List.mem_cons.mp q with rfl | q
              · exact ⟨h1, L, o, h2, h3, h4, h5⟩
              · exact ih h6 q
          obtain ⟨h1, L, o, h2, h3, h4, h5⟩ := aux hff he
          exact ⟨h1, L, h2, h3, fun vs q => h5 vs ((fdt_of h4).symm.trans q)⟩)⟩⟩ }
  · have footm : ∀ b, b ∈ foot (names.zip slots) ↔ b ∈ slots.flatMap foot1 := fun b => by rw [foot_zip hlen]
    exact
      { kk := fun b o e => keep _ _ (κle b o e), ff := fun b hb => (by
          obtain ⟨_, o, e, _⟩ := frAlive b hb
          exact ⟨o, keep _ _ e, (fdt_of e).symm⟩), fz := fun b o e => keep _ _ (hφ b o e), fr := fun b o e q => (by rw [q.2] at e; cases e), bz := fun b q => (let ⟨o, e⟩ := q.1; ⟨o, keep _ _ e⟩)
        ob := fun x b l m => absurd (List.of_mem_zip m).2 (hno b l)
        vars := ⟨m, hns, fun x sl hm => by
          obtain ⟨w, hm', hrep⟩ := hr₁.zip_mem hm
          exact ⟨w, hvar _ hm', hrep⟩⟩
        cells := fun x c e => (hcells x c e).1
        lws := fun b ha => (hlw b ha).2
        apart := List.nodup_append.mpr ⟨hlnd, (by rw [foot_zip hlen]; exact hnd), fun x hx y hy e => (by
          subst e
          obtain ⟨o, e⟩ := slAlive x ((footm x).mp hy)
          rw [(hlw x hx).1] at e; cases e)⟩
        off := fun b ha => (by
          rcases List.mem_append.mp ha with ha | ha
          · have h1 := (hlw b ha).1
            refine ⟨?_, ?_, fun q => ?_⟩
            · show κ b = none
              cases e : κ b with
              | none => rfl
              | some o => have := κle b o e; rw [h1] at this; cases this
            · cases e : φ b with
              | none => rfl
              | some o => have := hφ b o e; rw [h1] at this; cases this
            · obtain ⟨_, o, e, _⟩ := frAlive b q
              rw [h1] at e; cases e
          · have hq := (footm b).mp ha
            exact ⟨κ1 b (.inr hq), (hso b hq).1, (hso b hq).2.1⟩)
        offF := fun b hb => ⟨κ1 b (.inl hb), hφf b hb⟩ }
  · cases e : h₀.get? b with
    | none => rfl
    | some o => exact absurd ⟨⟨o, e⟩, h1⟩ h2
  · by_cases q : b ∈ frOf outer ∨ b ∈ slots.flatMap foot1
    · exact q.imp id .inl
    · exact .inr (.inr ((κ2 b q).symm.trans h1))
  · refine ⟨le, fun b o h1 h2 e => S'.kk b o ((κ2 b (fun q => q.elim h1 h2)).trans e), fun b o hb e => ?_, S'.fz, fun b o e => ?_, fun b hb => S'.bz b ⟨slAlive b hb, (hso b hb).1⟩⟩
    · obtain ⟨o', e1, e2⟩ := S'.ff b hb
      exact ⟨o', e1, e2.trans (fdt_of e)⟩
    · cases z : φ b with
      | some o' => have := le _ _ z; rw [e] at this; exact .inl this.symm
      | none =>
        right
        cases y : h₀.get? b with
        | none => rfl
        | some o' => exact absurd ⟨⟨_, y⟩, z⟩ (S'.fr b o e)

theorem selfS_foot {sf : Self} {a dd : Addr} {vs : List PV} : (selfS sf a dd ++ vs.map Slot.val).flatMap foot1 = selfA sf a dd := by
  have : ∀ l : List PV, (l.map Slot.val).flatMap foot1 = [] := fun l => by induction l with | nil => rfl | cons x r ih => simpa [foot1] using ih
  rw [List.flatMap_append, this, List.append_nil]
  cases sf with
  | none => rfl
  | some p => rfl

theorem i_of_body {Γ : Gx} {hm : Bool} {f : Addr} {d : Nat} {sf : Self} {names : List String} {vs : List PV} {P : PV → Fs → Prop} {X : Exn → Prop} {fd : FuncData} {body : List Stmt} {oc : Value} {od : Option Addr} {osl : Array (Option Value)}
    (ho : Γ.K.lookup f = some ⟨oc, od, .func fd, osl⟩) (hcd : codeIn Γ.K fd.code fd.qualname = true) (hbody : fd.body = .stmts body) (hclo : fd.closure = [])
    (hglob : fd.globals = mainGlobals) (hblt : fd.builtins = builtinsNs) (hco : fd.scope.isCoroutine = false) (hgen : fd.scope.isGenerator = false) (hk : fd.scope.kind = .function)
    (hbind : ∀ ws : List Value, ws.length = names.length → bindArgs fd ⟨ws, []⟩ = pure ((names.map Str.ofString).zip ws))
    (hkinds : (names.all fun x => fd.scope.names.lookup (Str.ofString x) == some .local || (fd.scope.names.lookup (Str.ofString x) == some .cell && (cellNames fd.scope.names).contains (Str.ofString x))) = true)
    (hnd : names.Nodup) (hcn : (cellNames fd.scope.names).Nodup) (hlen : (selfS sf 0 0).length + vs.length = names.length)
    (h : ∀ (A : Around) (L a dd : Addr), Ex Γ ⟨A, fenv fd L f, L :: (fenv fd L f).cells.map (·.2), true, d, true, hm, none⟩ (names.zip (selfS sf a dd ++ vs.map .val)) body (fun o => match o with | .ret v ρ => selfPost sf (names.headD "") a dd P v ρ | .next ρ => selfPost sf (names.headD "") a dd P .none ρ | _ => False) (fun x _ => X x)) :
    ISpec Γ hm f d sf vs P X := by
  intro A φ s Q E ws₀ outer a dd hh hd hu hfs hff hB hφ hφf hr₀ hself hoff k kx
  have hsl : (selfS sf a dd).length = (selfS sf 0 0).length := by cases sf <;> rfl
  have hr : SlotsRep φ s.heap (selfS sf a dd ++ vs.map .val) (selfV sf a ++ ws₀) := by
    cases sf with
    | none => exact SlotsRep.of_reps hr₀
    | some p => exact ⟨_, _, rfl, hself, SlotsRep.of_reps hr₀⟩
  have hssl : names.length = (selfS sf a dd ++ vs.map Slot.val).length := by rw [List.length_append, hsl, List.length_map, hlen]
  have hws : (selfV sf a ++ ws₀).length = names.length := by rw [hr.length, hssl]
  have ho' := hB _ _ (Γ.kin _ _ ho)
  have hlim : s.heap.NoLimit := Γ.top.nolimit.keeps hB
  have hcl := cellsFrom_fst fd.scope.names (s.heap.objs.size + 1) []
  have hsome : ∀ x, (cellNames fd.scope.names).contains x = true → ((cellsFrom (s.heap.objs.size + 1) fd.scope.names []).lookup x).isSome = true := fun x hx => by
    have hm : x ∈ (cellsFrom (s.heap.objs.size + 1) fd.scope.names []).map (·.1) := by
      rw [hcl]; simpa using hx
    obtain ⟨p, hp, rfl⟩ := List.mem_map.mp hm
    cases e : (cellsFrom (s.heap.objs.size + 1) fd.scope.names []).lookup p.1 with
    | some _ => rfl
    | none =>
      have := List.lookup_eq_none_iff.mp e p hp
      simp at this
  have hk2 : ∀ x ∈ (names.map Str.ofString).zip (selfV sf a ++ ws₀), fd.scope.names.lookup x.1 = some .local ∨ (fd.scope.names.lookup x.1 = some .cell ∧ ((cellsFrom (s.heap.objs.size + 1) fd.scope.names []).lookup x.1).isSome = true) := fun x hx => by
    obtain ⟨n, hn, e⟩ := List.mem_map.mp (List.of_mem_zip hx).1
    have := List.all_eq_true.mp hkinds n hn
    rw [← e]
    simp only [Bool.or_eq_true, Bool.and_eq_true, beq_iff_eq] at this
    exact this.imp id fun q => ⟨q.1, hsome _ q.2⟩
  have hAd : A.depth < recursionLimit := by
    show A.depth < 1000
    omega
  refine codeAny_call_cells (fd := fd) (body := body) hAd ho' rfl hlim (codeRec_of (Γ.kin.keeps hB) hcd) hbody (hbind _ hws) hclo hk2 (fun s₁ I => ?_) hco hgen hk
  obtain ⟨hsame, hns, hkeep, hfresh⟩ := I.toInCall
  have hcells := I.cell
  have habove := I.above
  have hapart := I.apart
  obtain ⟨h₁, tk₁, rfl⟩ := hsame
  dsimp only at hns hkeep hcells
  have hfr : ∀ b, s.heap.objs.size ≤ b → s.heap.get? b = none := fun b ha => by
    cases e : s.heap.get? b with
    | none => rfl
    | some o => exact absurd (Heap.lt_size e) (Nat.not_lt.mpr ha)
  have hkeys : ((callEnvC fd s.heap.objs.size f).cells.map (·.1)).Nodup := by
    show ((cellsFrom (s.heap.objs.size + 1) fd.scope.names []).map (·.1)).Nodup
    rw [hcl, List.map_nil, List.append_nil]
    exact (List.reverse_perm _).nodup_iff.mpr hcn
  have hlw : ∀ b ∈ (callEnvC fd s.heap.objs.size f).locals :: (callEnvC fd s.heap.objs.size f).cells.map (·.2), s.heap.get? b = none ∧ ∃ o, h₁.get? b = some o := fun b ha => by
    rcases List.mem_cons.mp ha with rfl | ha
    · obtain ⟨o, _, _, e, _⟩ := hns
      exact ⟨hfr _ hfresh, o, e⟩
    · obtain ⟨⟨n, c⟩, hp, rfl⟩ := List.mem_map.mp ha
      have := habove n c hp
      obtain ⟨o, e, _⟩ := hcells n c (lookup_of_mem_nodup hkeys hp)
      exact ⟨hfr _ (Nat.le_trans hfresh (Nat.le_of_lt this)), o, e⟩
  obtain ⟨Y, ok, S, hban, hκ, kept⟩ := frame_state (Γ := Γ) (hm := hm) (hd := none) (d := d) (A := A.deeper (callEnvC fd s.heap.objs.size f)) (env := callEnvC fd s.heap.objs.size f) (names := names) (slots := selfS sf a dd ++ vs.map .val)
    (lw := (callEnvC fd s.heap.objs.size f).locals :: (callEnvC fd s.heap.objs.size f).cells.map (·.2))
    (Around.frames_deeper hfs) hff hB hφ hφf hkeep hk hglob hblt rfl hns
    (fun p hp => by
      obtain ⟨x, w⟩ := p
      have hm' : (Str.ofString x, w) ∈ (names.map Str.ofString).zip (selfV sf a ++ ws₀) := by
        rw [List.zip_map_left]
        exact List.mem_map.mpr ⟨_, hp, rfl⟩
      have hn' : (((names.map Str.ofString).zip (selfV sf a ++ ws₀)).map (·.1)).Nodup := by
        rw [List.map_fst_zip (by simp [hws])]
        exact hnd.map _ fun a b ne e => ne (ofString_inj e)
      have B := bind_at (kd := (callEnvC fd s.heap.objs.size f).kindOf) (m := fun _ => none) (mc := fun _ => none) hm' hn'
      rcases hk2 _ hm' with q | ⟨q, hs⟩
      · exact .inl ⟨q, B.1 q⟩
      · obtain ⟨c, e⟩ := Option.isSome_iff_exists.mp hs
        refine .inr ⟨.inl q, c, e, ?_⟩
        rw [← B.2 (fun z => by rw [show (callEnvC fd s.heap.objs.size f).kindOf (Str.ofString x) = some .cell from q] at z; cases z)]
        exact hcells _ c e)
    hlw (List.nodup_cons.mpr ⟨fun hm => by
        obtain ⟨⟨n, c⟩, hp, e⟩ := List.mem_map.mp hm
        have hlt : (callEnvC fd s.heap.objs.size f).locals < c := habove n c hp
        have e' : c = (callEnvC fd s.heap.objs.size f).locals := e
        rw [e'] at hlt
        exact absurd hlt (Nat.lt_irrefl _), List.pairwise_map.mpr hapart⟩) (.head _)
    (fun x c e => ⟨⟨_, hcells x c e⟩, .inl (.tail _ (List.mem_map.mpr ⟨_, mem_of_lookup e, rfl⟩))⟩) (fun x y c e e' => name_of_addr hapart (mem_of_lookup e) (mem_of_lookup e'))
    hr hssl (by
      rw [selfS_foot]
      cases sf with
      | none => exact List.nodup_nil
      | some p =>
        have hne := (hoff.off rfl).2.2.2.2.2.2
        show [a, dd].Nodup
        simpa using hne)
    (fun b hb => by
      rw [selfS_foot] at hb
      cases sf with
      | none => exact nomatch hb
      | some p =>
        obtain ⟨z1, z2, z3, z4, z5, z6, _⟩ := hoff.off rfl
        rcases List.mem_cons.mp hb with rfl | hb
        · exact ⟨z1, z3, z5⟩
        · rw [List.mem_singleton.mp hb]
          exact ⟨z2, z4, z6⟩)
    (fun b l hm => by
      rcases List.mem_append.mp hm with hm | hm
      · cases sf with
        | none => exact nomatch hm
        | some p => cases List.mem_singleton.mp hm
      · obtain ⟨v, _, e⟩ := List.mem_map.mp hm
        cases e)
    hh (by show A.depth + 1 + d ≤ 700; omega) (by show A.units + 3 + 10 * d ≤ 5000; omega) (fun _ h => nomatch h)
  rw [selfS_foot] at kept
  have fin : ∀ v val ρ' φ' s', selfPost sf (names.headD "") a dd P v ρ' → Rep φ' v val → Nx Y φ ρ' φ' { s with heap := h₁, toks := tk₁ } s' → Q val s' := fun v val ρ' φ' s' hp hrep n => by
    obtain ⟨⟨h', tk, rfl⟩, le, S'⟩ := n
    have K := kept ρ' φ' h' S' le
    cases sf with
    | none => exact k v val φ' h' tk [] hp hrep trivial K
    | some p =>
      obtain ⟨fs', hg, hp⟩ := hp
      obtain ⟨m, _, hv⟩ := S'.vars
      obtain ⟨w', _, hrw⟩ := hv _ _ (mem_of_get hg)
      exact k v val φ' h' tk fs' hp hrep ⟨rfl, hrw.2⟩ K
  refine h (A.deeper (callEnvC fd s.heap.objs.size f)) s.heap.objs.size a dd Y ok φ { s with heap := h₁, toks := tk₁ } _ _ PassesAll.leaving S ⟨fun ρ' φ' s' a n => ?_, fun ρ' φ' s' a n => a.elim, fun ρ' φ' s' a n => a.elim, fun v val ρ' φ' s' a b n => ?_, fun x e ρ' φ' s' hX hx n => ?_⟩
  · exact fin .none .none ρ' φ' s' a rfl n
  · exact fin v val ρ' φ' s' a b n
  · obtain ⟨⟨h', tk, rfl⟩, le, S'⟩ := n
    unfold leaving
    refine wpAny_bind (note_exn ok rfl S' hx fun ea ed T h'' he F oa od oT S'' => ?_)
    subst he
    refine kx x ea ed T φ' h'' tk hX F (fun b hb => ?_) (kept ρ' φ' h'' S'' le)
    have fresh : ∀ b, Off Y ρ' φ' b → s.heap.get? b = none ∧ φ' b = none := fun b o => ⟨hban b (by
      cases z : φ b with
      | none => rfl
      | some q => have := le _ _ z; rw [o.φ] at this; cases this) o.ban, o.φ⟩
    rcases List.mem_cons.mp hb with rfl | hb
    · exact fresh _ oa
    · rcases List.mem_cons.mp hb with rfl | hb
      · exact fresh _ od
      · rw [List.mem_singleton.mp hb]; exact fresh _ oT
end Mine
set_option Elab.async false
set_option maxRecDepth 10000
set_option linter.unusedVariables false
namespace Mine
open PySem PySem.W PySem.Calls PySem.Spec PyProof.Rows

section
variable {Y : Lo} {ρ ρ' : Rho} {φ φ' : PH} {h h' : Heap}
theorem St.moved (S : St Y ρ φ h) {fr as : List Addr} (hfr : ∀ b ∈ fr, b = Y.env.locals ∨ b ∈ Y.FS) (hloc : Y.env.locals ∈ Y.lw) (hcl : ∀ x c, Y.env.cells.lookup x = some c → c ∈ Y.lw ∨ ∃ o, Y.κ c = some o) (has : ∀ b ∈ as, b ∈ foot ρ)
    (k1 : ∀ b o, b ∉ fr → b ∉ as → h.get? b = some o → h'.get? b = some o) (k2 : ∀ b o, b ∈ fr → h.get? b = some o → ∃ o', h'.get? b = some o' ∧ o'.data = o.data) (k3 : ∀ b ∈ as, ∃ o, h'.get? b = some o)
    (le : φ.le φ') (sub : ∀ b o, φ' b = some o → h'.get? b = some o) (new : ∀ b o, φ' b = some o → φ b = some o ∨ h.get? b = none) (hsub : (foot ρ').Sublist (foot ρ))
    (hv : ∀ y sl, (y, sl) ∈ ρ' → ((y, sl) ∈ ρ ∧ ∀ b ∈ foot1 sl, b ∉ as) ∨ (∃ sl₀, (y, sl₀) ∈ ρ ∧ ∀ w, SlotRep φ h sl₀ w → SlotRep φ' h' sl w)) (hob : ∀ y b l, (y, Slot.own b l) ∈ ρ' → ¬ Y.ban b) : St Y ρ' φ' h' := by
  have hnd := List.nodup_append.mp S.apart
  have lwas : ∀ b ∈ Y.lw, b ∉ as := fun b hb q => hnd.2.2 b hb b (has b q) rfl
  have kd : ∀ b o, b ∉ as → h.get? b = some o → ∃ o', h'.get? b = some o' ∧ o'.data = o.data := fun b o ha e => by
    by_cases q : b ∈ fr
    · exact k2 b o q e
    · exact ⟨o, k1 b o q ha e, rfl⟩
  have kl : ∀ b, (∃ o, h.get? b = some o) → ∃ o, h'.get? b = some o := fun b ⟨o, e⟩ => by
    by_cases q : b ∈ as
    · exact k3 b q
    · obtain ⟨o', e', _⟩ := kd b o q e
      exact ⟨o', e'⟩
  have off1 : ∀ b ∈ fr, Y.κ b = none ∧ φ b = none := fun b hb => by
    rcases hfr b hb with rfl | hb
    · have := S.off _ (List.mem_append_left _ hloc)
      exact ⟨this.1, this.2.1⟩
    · exact S.offF b hb
  have off2 : ∀ b ∈ foot ρ, b ∉ fr := fun b hb q => by
    rcases hfr b q with rfl | q
    · exact hnd.2.2 _ hloc _ hb rfl
    · exact (S.off b (List.mem_append_right _ hb)).2.2 q
  have foff : ∀ b ∈ as, Y.κ b = none ∧ φ b = none ∧ b ∉ Y.FS := fun b hb => S.off b (List.mem_append_right _ (has b hb))
  have cas : ∀ x c, Y.env.cells.lookup x = some c → c ∉ as := fun x c e => (hcl x c e).elim (lwas c) fun q hm => by
    obtain ⟨o, q⟩ := q
    rw [(foff c hm).1] at q; cases q
  have φn : ∀ b, φ b = none → (∃ o, h.get? b = some o) → φ' b = none := fun b e ⟨o, e'⟩ => by
    cases q : φ' b with
    | none => rfl
    | some o' =>
      rcases new b o' q with z | z
      · rw [e] at z; cases z
      · rw [e'] at z; cases z
  obtain ⟨m, ⟨o, es, ep, e1, e2, e3⟩, hvs⟩ := S.vars
  refine ⟨fun a o e => k1 a o (fun q => by rw [(off1 a q).1] at e; cases e) (fun q => by rw [(foff a q).1] at e; cases e) (S.kk a o e), fun a ha => ?_, sub, fun a o e q => ?_, fun a ha => kl a (S.bz a ha), hob, ⟨m, ?_, fun x sl hx => ?_⟩, fun x c e => ?_, fun a ha => kl a (S.lws a ha), ?_, fun a ha => ?_, fun a ha => ?_⟩
  · obtain ⟨o, a1, a2⟩ := S.ff a ha
    obtain ⟨o', b1, b2⟩ := kd a o (fun q => (foff a q).2.2 ha) a1
    exact ⟨o', b1, b2.trans a2⟩
  · rcases new a o e with z | z
    · exact S.fr a o z q
    · obtain ⟨o', e'⟩ := S.bz a q
      rw [e'] at z; cases z
  · obtain ⟨o', b1, b2⟩ := kd _ o (lwas _ hloc) e1
    exact ⟨o', es, ep, b1, b2.trans e2, e3⟩
  · have va : ∀ {y : Str} {w : Value}, VarAt Y.env m h y w → VarAt Y.env m h' y w := fun {y w} a => by
      rcases a with a | ⟨a, c, a1, o, a2, a3⟩
      · exact .inl a
      · obtain ⟨o', b1, b2⟩ := kd c o (cas _ _ a1) a2
        exact .inr ⟨a, c, a1, o', b1, b2.trans a3⟩
    rcases hv x sl hx with ⟨hx, hna⟩ | ⟨sl₀, hx, hr⟩
    · obtain ⟨w, a, b⟩ := hvs x sl hx
      exact ⟨w, va a, (b.keep fun c hc o e => k1 c o (off2 c (foot_mem hx hc)) (hna c hc) e).mono le⟩
    · obtain ⟨w, a, b⟩ := hvs x sl₀ hx
      exact ⟨w, va a, hr w b⟩
  · obtain ⟨v, o, a1, a2⟩ := S.cells x c e
    obtain ⟨o', b1, b2⟩ := kd c o (cas _ _ e) a1
    exact ⟨v, o', b1, b2.trans a2⟩
  · exact List.Nodup.sublist (List.Sublist.append (List.Sublist.refl _) hsub) S.apart
  · have hm : a ∈ Y.lw ++ foot ρ := by
      rcases List.mem_append.mp ha with ha | ha
      · exact List.mem_append_left _ ha
      · exact List.mem_append_right _ (hsub.subset ha)
    obtain ⟨z1, z2, z3⟩ := S.off a hm
    exact ⟨z1, φn a z2 (S.foot_live hm), z3⟩
  · obtain ⟨z1, z2⟩ := S.offF a ha
    obtain ⟨o, a1, _⟩ := S.ff a ha
    exact ⟨z1, φn a z2 ⟨o, a1⟩⟩
end

section
variable {Γ : Gx} {V : Va} {ρ : Rho} {X : Exn → Rho → Prop}
theorem cells_lw {Y : Lo} (ok : Ok Γ V Y) (hst : V.st = true) : ∀ x c, Y.env.cells.lookup x = some c → c ∈ Y.lw ∨ ∃ o, Y.κ c = some o := fun x c e => by
  rw [ok.ee] at e
  rw [ok.ll]
  exact ((ok.wr hst).2 x c e).imp id fun q => q.2
theorem locals_lw {Y : Lo} (ok : Ok Γ V Y) (hst : V.st = true) : Y.env.locals ∈ Y.lw := by
  rw [ok.ee, ok.ll]; exact (ok.wr hst).1
theorem Off.at {Y : Lo} {φ φ' : PH} {J : Addr} {ρ' : Rho} (o : Off Y ρ φ J) (h1 : φ' J = none) (h2 : (Mine.foot ρ').Sublist (Mine.foot ρ)) : Off Y ρ' φ' J :=
  ⟨o.κ, h1, o.FS, fun q => o.foot ((List.mem_append.mp q).elim (List.mem_append_left _) fun z => List.mem_append_right _ (h2.subset z)), o.loc, o.cells, o.ban⟩
/-- an exception that a call leaves -/
theorem exn_of_call {Y : Lo} {φ φ' : PH} {s s' : Shared} {x : Exn} {e d T : Addr} {ρ' : Rho} (S : St Y ρ φ s.heap) (F : FlyAt s'.heap φ' x e d (some T)) (hn : ∀ b ∈ [e, d, T], s.heap.get? b = none ∧ φ' b = none) (h2 : (foot ρ').Sublist (foot ρ)) : ExnAt Y ρ' φ' x (.ref e) s' := by
  have o : ∀ b ∈ [e, d, T], Off Y ρ' φ' b := fun b hb => (S.offNew (hn b hb).1).at (hn b hb).2 h2
  exact ⟨e, d, some T, rfl, F, o _ (.head _), o _ (.tail _ (.head _)), fun t ht => by cases ht; exact o _ (.tail _ (.tail _ (.head _)))⟩

/-- what the caller needs of its surroundings for a call that may raise within -/
theorem call_frames {Y : Lo} (ok : Ok Γ V Y) (him : V.im = true) {φ : PH} {h : Heap} (S : St Y ρ φ h) : ∃ outer, V.A.frames = some outer ∧ h.FunFrames Γ.hB outer ∧ (∀ b ∈ frOf outer, φ b = none) ∧ (∀ b ∈ frOf outer, b = Y.env.locals ∨ b ∈ Y.FS) := by
  obtain ⟨outer, F, hbn, hfr⟩ := frames_off (ok.fx him)
  have hmem : ∀ b ∈ frOf (V.env :: outer), b = Y.env.locals ∨ b ∈ Y.FS := fun b hb => by
    rw [show frOf (V.env :: outer) = V.env.locals :: Y.FS from hfr] at hb
    rw [ok.ee]
    exact List.mem_cons.mp hb
  refine ⟨V.env :: outer, F.fr, frames_ok ok S F hbn, fun b hb => ?_, hmem⟩
  rcases hmem b hb with rfl | hb
  · exact (S.off _ (List.mem_append_left _ (locals_lw ok F.st))).2.1
  · exact (S.offF b hb).2

/-- a call of a function of the program that may raise within -/
theorem ev_icall {x : String} {f : Addr} {e : Expr} {es : List Expr} {npos pos : Pos} {P : PV → Rho → Prop} (hN : NameIs Γ x (.ref f)) (hkp : keepIn Γ.K (.ref f) = true)
    (h : Evs Γ V X (e :: es) ρ (fun l ρ' => ∃ d P' X', d + 1 ≤ V.d ∧ ISpec Γ V.hm f d none l P' X' ∧ (∀ v fs, P' v fs → P v ρ') ∧ ∀ x, X' x → X x ρ')) (hk : V.env.kindOf (Str.ofString x) = some .globalImplicit := by kernel_rfl)
    (hs : (e :: es).all (fun e => !isStar e) = true := by rfl) (hd : plainName x = true := by decide +kernel) (him : V.im = true := by rfl) (hst : V.st = true := by rfl) : Ev Γ V ρ (.Call (.Name (Str.ofString x) npos) (e :: es) [] pos) P X := fun Y ok φ s Q E S p => by
  rw [arm_call rfl]
  refine wpAny_bind (name_sound ok S hN hk ?_ hd)
  show wpAny _ _ (callWith pos (.ref f) [] (backTo pos (starEach (e :: es) V.env)) []) _ _ _
  refine callWith_of (P := Γ.K.In) (by rw [backTo_plain hs]; rfl) (keeps_K hkp) ?_
  have sp := spliced_sound (pos := pos) ok (e :: es) ρ _ φ s (fun vs s' => Γ.K.In s'.heap ∧ wpAny (model Γ.prog Γ.w) V.A (call (.ref f) ([] ++ vs) []) Q E s') hs h S (fun l vs ρ' φ' s' a r n => ?_) p.er
  · have hs' := hs
    simp only [List.all_cons, Bool.and_eq_true, Bool.not_eq_true'] at hs'
    rw [starEach_cons hs'.1] at sp ⊢
    exact evalArgs_plain sp
  · obtain ⟨d, P', X', hd', hspec, himp, hX⟩ := a
    have S' := n.2.2
    refine ⟨Γ.kin.keeps (S'.base ok), ?_⟩
    have h1 := ok.dep
    have h2 := ok.uni
    obtain ⟨outer, f1, f2, f3, f4⟩ := call_frames ok him S'
    have mv : ∀ {φ'' h'}, Kept s'.heap h' φ' φ'' (frOf outer) [] → St Y ρ' φ'' h' := fun {φ'' h'} K => S'.moved (as := []) f4 (locals_lw ok hst) (cells_lw ok hst) (fun _ h => nomatch h) (fun b o q _ e => K.keep b o q (fun h => nomatch h) e) K.frs (fun _ h => nomatch h) K.le K.fz K.new (List.Sublist.refl _) (fun y sl hy => .inl ⟨hy, fun _ _ h => nomatch h⟩) S'.ob
    refine wpAny_call (hspec V.A φ' s' Q E vs outer 0 0 ok.hh (by omega) (by omega) f1 f2 (S'.base ok) S'.fz f3 r trivial ⟨fun q => by cases q⟩ (fun v val φ'' h' tk fs hv hr _ K => ?_) fun x e d T φ'' h' tk hx F hn K => ?_)
    · exact p.ok v val ρ' φ'' _ (himp v fs hv) hr (n.trans ⟨⟨h', tk, rfl⟩, K.le, mv K⟩)
    · exact p.er x _ ρ' φ'' _ (hX x hx) (exn_of_call S' F hn (List.Sublist.refl _)) (n.trans ⟨⟨h', tk, rfl⟩, K.le, mv K⟩)
end
end Mine
set_option Elab.async false
set_option maxRecDepth 10000
set_option linter.unusedVariables false
namespace Mine
open PySem PySem.W PySem.Calls PySem.Spec PyProof.Rows

structure MethOk (K : Frag) (C : Addr) (name : String) (f : Addr) : Prop where
  get : plainGet K C (Str.ofString name) = true
  find : findIn K (.ref C) (Str.ofString name) = some (some (.ref f))
  fn : typeIn K (.ref f) = some (.type "function")
  keep : keepIn K (.ref f) = true

section
variable {Γ : Gx} {V : Va} {ρ : Rho} {X : Exn → Rho → Prop}

theorem obj_off {Y : Lo} (ok : Ok Γ V Y) {φ : PH} {h : Heap} (S : St Y ρ φ h) {x : String} {C a dd : Addr} {fs : Fs} (hg : get x ρ = some (.obj C a dd fs)) {outer : List Env} (f4 : ∀ b ∈ frOf outer, b = Y.env.locals ∨ b ∈ Y.FS) (hst : V.st = true) : SelfOff Γ φ (some (C, fs)) a dd outer := ⟨fun _ => by
  have hnd := List.nodup_append.mp S.apart
  have hl := locals_lw ok hst
  have m1 : a ∈ foot ρ := foot_mem (mem_of_get hg) (.head _)
  have m2 : dd ∈ foot ρ := foot_mem (mem_of_get hg) (.tail _ (.head _))
  have z1 := S.off a (List.mem_append_right _ m1)
  have z2 := S.off dd (List.mem_append_right _ m2)
  have nf : ∀ b ∈ foot ρ, b ∉ Y.FS → b ∉ frOf outer := fun b hb hF q => by
    rcases f4 b q with rfl | q
    · exact hnd.2.2 _ hl _ hb rfl
    · exact hF q
  have nb : ∀ b, Y.κ b = none → Γ.hB.get? b = none := fun b e => by
    cases q : Γ.hB.get? b with
    | none => rfl
    | some o => have := ok.gb b o q; rw [e] at this; cases this
  obtain ⟨m, _, hv⟩ := S.vars
  obtain ⟨w, _, _, h1, es, n, h2, _⟩ := hv x _ (mem_of_get hg)
  refine ⟨z1.2.1, z2.2.1, nf a m1 z1.2.2, nf dd m2 z2.2.2, nb a z1.1, nb dd z2.1, fun e => ?_⟩
  rw [e, h2] at h1
  cases h1⟩

/-- `x.m(...)` on an own object -/
theorem ev_mcall {x name : String} {C a dd f : Addr} {fs₀ : Fs} {es : List Expr} {npos apos pos : Pos} {P : PV → Rho → Prop} (hg₀ : get x ρ = some (.obj C a dd fs₀)) (hM : MethOk Γ.K C name f) (hna : fget name fs₀ = none)
    (h : Evs Γ V X es ρ (fun l ρ' => ∃ fs d P' X', get x ρ' = some (.obj C a dd fs) ∧ d + 1 ≤ V.d ∧ ISpec Γ V.hm f d (some (C, fs)) l P' X' ∧ (∀ v fs', P' v fs' → P v (upd x (.obj C a dd fs') ρ')) ∧ ∀ y, X' y → X y (del x ρ')))
    (hs : es.all (fun e => !isStar e) = true := by rfl) (hd : plainName x = true := by decide +kernel) (him : V.im = true := by rfl) (hst : V.st = true := by rfl)
    (hb : attributeBase (.Name (Str.ofString x) npos) (Str.ofString name) V.env (eval (.Name (Str.ofString x) npos) V.env) = eval (.Name (Str.ofString x) npos) V.env := by rfl) (hline : (apos.endLine == pos.line) = true := by rfl) (hfew : es.length < 25 := by decide) :
    Ev Γ V ρ (.Call (.Attribute (.Name (Str.ofString x) npos) (Str.ofString name) apos) es [] pos) P X := fun Y ok φ s Q E S p => by
  rw [arm_eval_Call, hb]
  refine wpAny_bind (obj_load ok S hg₀ (wpAny_bind (wpAny_standAt ?_)) hd)
  have hform : methodCallForm (es.length + ([] : List Keyword).length) (backTo pos (starEach es V.env)) (backToKw pos (keywordEach [] V.env)) = true := by
    show ((backTo pos (starEach es V.env)).all (fun x => !x.1) && (backToKw pos (keywordEach [] V.env)).all (fun x => x.1.isSome) && decide (es.length + ([] : List Keyword).length + (if ([] : List Keyword).isEmpty then 0 else 1) < 30)) = true
    have h1 := backTo_plain (pos := pos) (env := V.env) hs
    have h2 : (backTo pos (starEach es V.env)).all (fun x => !x.1) = true := by
      rw [List.all_eq_true]
      intro q hq
      cases e : q.1 with
      | false => rfl
      | true =>
        have : (backTo pos (starEach es V.env)).any (·.1) = true := List.any_eq_true.mpr ⟨q, hq, e⟩
        rw [h1] at this
        cases this
    have h3 : decide (es.length + ([] : List Keyword).length + (if ([] : List Keyword).isEmpty then 0 else 1) < 30) = true := decide_eq_true (by simp; omega)
    rw [h2, h3]
    rfl
  have hpos : methodCallPos true (.Name (Str.ofString x) npos) V.env apos pos = pure pos := by unfold methodCallPos; simp [hline]
  unfold methodCall
  rw [hform]
  obtain ⟨m, hn, hv⟩ := S.vars
  obtain ⟨w, _, rfl, ha, eds, n0, hdx, hfs⟩ := hv x _ (mem_of_get hg₀)
  refine wpAny_bind (wpAny_holding (method_fn (Γ.kin.keeps (S.base ok)) (inst_at ha hdx) (plainGet_of hM.get).1 (plainGet_of hM.get).2 hM.find hM.fn (by show (lookIn (Str.ofString name) (dictOf eds n0)).map _ = _; rw [lookIn_dict, (hfs.2 name).1 hna]; rfl) ?_))
  refine wpAny_bind (wpAny_of_eq hpos ?_)
  have fin : ∀ l vs ρ' φ' s', (∃ fs d P' X', get x ρ' = some (.obj C a dd fs) ∧ d + 1 ≤ V.d ∧ ISpec Γ V.hm f d (some (C, fs)) l P' X' ∧ (∀ v fs', P' v fs' → P v (upd x (.obj C a dd fs') ρ')) ∧ ∀ y, X' y → X y (del x ρ')) → Reps φ' l vs → Nx Y φ ρ' φ' s s' → Γ.K.In s'.heap ∧ wpAny (model Γ.prog Γ.w) V.A (call (.ref f) ([.ref a] ++ vs) []) Q E s' := fun l vs ρ' φ' s' q r n => by
    obtain ⟨fs, d, P', X', hg, hd', hspec, himp, hX⟩ := q
    have S' := n.2.2
    refine ⟨Γ.kin.keeps (S'.base ok), ?_⟩
    have h1 := ok.dep
    have h2 := ok.uni
    obtain ⟨outer, f1, f2, f3, f4⟩ := call_frames ok him S'
    obtain ⟨m', _, hv'⟩ := S'.vars
    obtain ⟨w', _, hw', hsl⟩ := hv' x _ (mem_of_get hg)
    have hnd := List.nodup_append.mp S'.apart
    have mvg : ∀ {φ'' h' ρ''}, Kept s'.heap h' φ' φ'' (frOf outer) [a, dd] → (foot ρ'').Sublist (foot ρ') → (∀ y sl, (y, sl) ∈ ρ'' → (y ≠ x ∧ (y, sl) ∈ ρ') ∨ (∃ sl₀, (y, sl₀) ∈ ρ' ∧ ∀ w, SlotRep φ' s'.heap sl₀ w → SlotRep φ'' h' sl w)) → (∀ y b l, (y, Slot.own b l) ∈ ρ'' → ¬ Y.ban b) → St Y ρ'' φ'' h' := fun {φ'' h' ρ''} K hsub hv hob =>
      S'.moved (as := [a, dd]) f4 (locals_lw ok hst) (cells_lw ok hst) (fun b hb => foot_mem (mem_of_get hg) hb) (fun b o q z e => K.keep b o q z e) K.frs K.live K.le K.fz K.new hsub (fun y sl hy => (hv y sl hy).imp (fun ⟨ne, hy⟩ => ⟨hy, fun b hb q => by
        have hoff := foot_upd_off (v := .none) hg (a := b) q hnd.2.1
        exact hoff ((foot_del_upd x .none ρ').subset (foot_mem (mem_del_of ne hy) hb))⟩) id) hob
    refine wpAny_call (hspec V.A φ' s' Q E vs outer a dd ok.hh (by omega) (by omega) f1 f2 (S'.base ok) S'.fz f3 r ⟨rfl, hsl⟩ (obj_off ok S' hg f4 hst) (fun v val φ'' h' tk fs' hv2 hr hself K => ?_) fun y e d T φ'' h' tk hx F hn K => ?_)
    · obtain ⟨_, ha2, es2, n2, hd2, hfs2⟩ := hself
      refine p.ok v val _ φ'' _ (himp v fs' hv2) hr (n.trans ⟨⟨h', tk, rfl⟩, K.le, mvg K (foot_upd_same (s := .obj C a dd fs) (s' := .obj C a dd fs') rfl hg) (fun y sl hy => ?_) (fun y b l hy => ?_)⟩)
      · rcases mem_upd hy with ⟨rfl, rfl⟩ | ⟨ne, hy⟩
        · exact .inr ⟨_, mem_of_get hg, fun w hw => ⟨hw.1, ha2, es2, n2, hd2, hfs2⟩⟩
        · exact .inl ⟨ne, hy⟩
      · rcases mem_upd hy with ⟨_, e⟩ | ⟨_, hy⟩
        · cases e
        · exact S'.ob _ _ _ hy
    · exact p.er y _ (del x ρ') φ'' _ (hX y hx) (exn_of_call S' F hn (foot_del_sub x ρ')) (n.trans ⟨⟨h', tk, rfl⟩, K.le, mvg K (foot_del_sub x ρ') (fun y sl hy => .inl (mem_del hy)) fun y b l hy => S'.ob _ _ _ (mem_del hy).2⟩)
  cases es with
  | nil =>
    refine callWith_of (P := Γ.K.In) rfl (keeps_K hM.keep) (evalArgs_nil3 ?_)
    exact fin [] [] ρ φ s h rfl (.refl S)
  | cons e es =>
    refine callWith_of (P := Γ.K.In) (by rw [backTo_plain hs]; rfl) (keeps_K hM.keep) ?_
    have sp := spliced_sound (pos := pos) ok (e :: es) ρ _ φ s (fun vs s' => Γ.K.In s'.heap ∧ wpAny (model Γ.prog Γ.w) V.A (call (.ref f) ([.ref a] ++ vs) []) Q E s') hs h S fin p.er
    have hs' := hs
    simp only [List.all_cons, Bool.and_eq_true, Bool.not_eq_true'] at hs'
    rw [starEach_cons hs'.1] at sp ⊢
    exact evalArgs_plain sp

theorem e1_expr {e : Expr} {pos : Pos} {P : Out → Prop} (h : Ev Γ V ρ e (fun v ρ' => Mine.flat v = true ∧ P (.next ρ')) X) (hi : interactive V.env = false := by rfl) (hw : swapsWith e none pos.line V.env = pure false := by rfl) : E1 Γ V ρ (.Expr e pos) P X := fun Y ok φ s Q E hE S p =>
  wpAny_Expr (h Y ok φ s _ E S ⟨fun v val ρ' φ' s' hp r n => (by
    obtain ⟨hf, hp⟩ := hp
    have := p.nx ρ' φ' s' hp n
    cases v with
    | none => rw [show val = _ from r]; exact this
    | bool b => rw [show val = _ from r]; exact this
    | int i => obtain ⟨t, rfl⟩ := r; exact this
    | str i => obtain ⟨t, rfl⟩ := r; exact this
    | bytes i => obtain ⟨t, rfl⟩ := r; exact this
    | list l => cases hf), p.er⟩) hi hw

theorem store_obj {Y : Lo} (ok : Ok Γ V Y) {M : Model} {A : Around} {E : Value → Shared → Prop} {φ φ₁ : PH} {s s₁ : Shared} {x : String} {C a dd : Addr} {fs : Fs} {Q : Unit → Shared → Prop} (n : Nx Y φ ρ φ₁ s s₁) (hst : V.st = true) (hc : canStore V.env x = true)
    (hr : SlotRep φ₁ s₁.heap (.obj C a dd fs) (.ref a)) (hne : a ≠ dd) (ho : ∀ b ∈ [a, dd], Y.κ b = none ∧ φ₁ b = none ∧ b ∉ Y.FS) (h4 : ∀ b ∈ [a, dd], b ∉ Y.lw ++ foot ρ) (h : ∀ s', Nx Y φ (upd x (.obj C a dd fs) ρ) φ₁ s s' → Q () s') : wpAny M A (storeName V.env (Str.ofString x) (.ref a)) Q E s₁ := by
  have S := n.2.2
  rw [← ok.ee]
  refine store_rule S (by rw [ok.ee]; exact ok.fk) (by rw [ok.ee]; exact ok.ci) (hkind_of ok hst hc) (sl := .obj C a dd fs) hr ?_ ho (fun _ _ e => by cases e) fun h' tk S' => h _ ?_
  · obtain ⟨r, hp, hs⟩ := foot_upd x (.obj C a dd fs) ρ
    have hp' : (Y.lw ++ foot (upd x (.obj C a dd fs) ρ)).Perm ([a, dd] ++ (Y.lw ++ r)) := (hp.append_left Y.lw).trans (List.perm_append_comm_assoc _ _ _)
    refine hp'.nodup_iff.mpr (List.nodup_append.mpr ⟨by simpa using hne, S.apart.sublist ((List.Sublist.refl _).append hs), fun b hb c hc e => ?_⟩)
    subst e
    exact h4 b hb (((List.Sublist.refl _).append hs).subset hc)
  · obtain ⟨⟨h₁, tk₁, rfl⟩, l', _⟩ := n
    exact ⟨⟨h', tk, rfl⟩, l', S'⟩

structure ClsOk (K : Frag) (C fI : Addr) : Prop where
  makes : makesIn K C = true
  init : findIn K (.ref C) "__init__" = some (some (.ref fI))
  fn : typeIn K (.ref fI) = some (.type "function")
  keep : keepIn K (.ref C) = true

/-- `x = C(...)` -/
theorem e1_new {x cn : String} {C fI : Addr} {e : Expr} {es : List Expr} {npos cpos xpos pos : Pos} {P : Out → Prop} (hN : NameIs Γ cn (.ref C)) (hC : ClsOk Γ.K C fI)
    (h : Evs Γ V X (e :: es) ρ (fun l ρ' => ∃ d P' X', d + 2 ≤ V.d ∧ ISpec Γ V.hm fI d (some (C, [])) l P' X' ∧ (∀ v fs', P' v fs' → v = .none ∧ ∀ a dd, P (.next (upd x (.obj C a dd fs') ρ'))) ∧ ∀ y, X' y → X y ρ')) (hk : V.env.kindOf (Str.ofString cn) = some .globalImplicit := by kernel_rfl)
    (hs : (e :: es).all (fun e => !isStar e) = true := by rfl) (hd : plainName cn = true := by decide +kernel) (him : V.im = true := by rfl) (hst : V.st = true := by rfl) (hc : canStore V.env x = true := by kernel_rfl)
    (hw : swapsWith (.Call (.Name (Str.ofString cn) npos) (e :: es) [] cpos) (some (.Name (Str.ofString x) xpos)) pos.line V.env = pure false := by rfl) :
    E1 Γ V ρ (.Assign [.Name (Str.ofString x) xpos] (.Call (.Name (Str.ofString cn) npos) (e :: es) [] cpos) pos) P X := fun Y ok φ s Q E hE S p => by
  refine wpAny_Assign_Name ?_ hw
  rw [arm_call rfl]
  refine wpAny_bind (name_sound ok S hN hk ?_ hd)
  show wpAny _ _ (callWith cpos (.ref C) [] (backTo cpos (starEach (e :: es) V.env)) []) _ _ _
  refine callWith_of (P := Γ.K.In) (by rw [backTo_plain hs]; rfl) (keeps_K hC.keep) ?_
  have sp := spliced_sound (pos := cpos) ok (e :: es) ρ _ φ s (fun vs s' => Γ.K.In s'.heap ∧ wpAny (model Γ.prog Γ.w) V.A (call (.ref C) ([] ++ vs) []) (fun v s₁ => wpAny (model Γ.prog Γ.w) V.A (storeName V.env (Str.ofString x) v) (fun _ => Q .next) E s₁) E s') hs h S (fun l vs ρ' φ' s' q r n => ?_) p.er
  · have hs' := hs
    simp only [List.all_cons, Bool.and_eq_true, Bool.not_eq_true'] at hs'
    rw [starEach_cons hs'.1] at sp ⊢
    exact evalArgs_plain sp
  · obtain ⟨d, P', X', hd', hspec, himp, hX⟩ := q
    have S' := n.2.2
    have X' := Γ.kin.keeps (S'.base ok)
    refine ⟨X', ?_⟩
    have h1 := ok.dep
    have h2 := ok.uni
    refine wpAny_call ?_
    obtain ⟨hp0, g0, d0, tk0, os0⟩ := s'
    dsimp only at X' S' n
    refine make_core (makes_of X' hC.makes) (looks_findIn X' hC.init) (fun self => bind_fn X' self hC.fn) (.inl rfl) ?_
    have S₂ := (S'.push emptyDict).push (instObj C hp0.objs.size)
    have hsz : (hp0.push emptyDict).objs.size = hp0.objs.size + 1 := Heap.size_push ..
    have ga : ((hp0.push emptyDict).push (instObj C hp0.objs.size)).get? (hp0.objs.size + 1) = some (instObj C hp0.objs.size) := by
      rw [← hsz]; exact Heap.get?_push_size _ rfl
    have gd : ((hp0.push emptyDict).push (instObj C hp0.objs.size)).get? hp0.objs.size = some (dictOf [] 0) := Heap.get?_push_of_some _ (Heap.get?_push_size _ rfl)
    have na := none_at_end hp0 1
    have nd := none_at_end hp0 0
    rw [Nat.add_zero] at nd
    obtain ⟨a1, a2, a3, a4, a5⟩ := S'.fresh na
    obtain ⟨b1, b2, b3, b4, b5⟩ := S'.fresh nd
    obtain ⟨outer, f1, f2, f3, f4⟩ := call_frames ok him S₂
    have nf : ∀ b, b ∉ Y.FS → b ∉ Y.lw ++ foot ρ' → b ∉ frOf outer := fun b q1 q2 q => by
      rcases f4 b q with rfl | q
      · exact q2 (List.mem_append_left _ (locals_lw ok hst))
      · exact q1 q
    have nb : ∀ b, Y.κ b = none → Γ.hB.get? b = none := fun b e => by
      cases q : Γ.hB.get? b with
      | none => rfl
      | some o => have := ok.gb b o q; rw [e] at this; cases this
    have hne : hp0.objs.size + 1 ≠ hp0.objs.size := by omega
    have hun : (V.A.under (.builtin "type.__call__" ⟨.ref C :: ([] ++ vs), []⟩)).depth = V.A.depth + 1 := rfl
    have hun2 : (V.A.under (.builtin "type.__call__" ⟨.ref C :: ([] ++ vs), []⟩)).units = V.A.units + 1 := rfl
    have old : ∀ b o, hp0.get? b = some o → b ≠ hp0.objs.size + 1 ∧ b ≠ hp0.objs.size ∧ ((hp0.push emptyDict).push (instObj C hp0.objs.size)).get? b = some o := fun b o e => by
      have := Heap.lt_size e
      exact ⟨Nat.ne_of_lt (Nat.lt_succ_of_lt this), Nat.ne_of_lt this, Heap.get?_push_of_some _ (Heap.get?_push_of_some _ e)⟩
    have mv : ∀ {φ'' h'}, Kept ((hp0.push emptyDict).push (instObj C hp0.objs.size)) h' φ' φ'' (frOf outer) [hp0.objs.size + 1, hp0.objs.size] → St Y ρ' φ'' h' := fun {φ'' h'} K =>
      S'.moved (as := []) f4 (locals_lw ok hst) (cells_lw ok hst) (fun _ h => nomatch h) (fun b o q _ e => K.keep b o q (fun z => by
        rcases List.mem_cons.mp z with z | z
        · exact (old b o e).1 z
        · exact (old b o e).2.1 (List.mem_singleton.mp z)) (old b o e).2.2) (fun b o q e => K.frs b o q (old b o e).2.2) (fun _ h => nomatch h) K.le K.fz (fun b o e => by
          rcases K.new b o e with z | z
          · exact .inl z
          · right
            cases q : hp0.get? b with
            | none => rfl
            | some o' => rw [(old b o' q).2.2] at z; cases z) (List.Sublist.refl _) (fun y sl hy => .inl ⟨hy, fun _ _ h => nomatch h⟩) S'.ob
    refine codeAny_mono (hspec _ φ' ⟨(hp0.push emptyDict).push (instObj C hp0.objs.size), g0, d0, tk0, os0⟩ (fun v s₃ => v = .none ∧ wpAny (model Γ.prog Γ.w) V.A (storeName V.env (Str.ofString x) (.ref (hp0.objs.size + 1))) (fun _ => Q .next) E s₃) E vs outer (hp0.objs.size + 1) hp0.objs.size ok.hh (by rw [hun]; omega) (by rw [hun2]; omega) f1 f2 (S₂.base ok) S₂.fz f3 r ?_ ?_ ?_ ?_) (fun r s₃ hr => ?_)
    · exact ⟨rfl, ga, [], 0, gd, Nat.le_refl _, fun y => ⟨fun _ => rfl, fun _ e => by cases e⟩⟩
    · exact ⟨fun _ => ⟨a2, b2, nf _ a3 a4, nf _ b3 b4, nb _ a1, nb _ b1, hne⟩⟩
    · intro v val φ'' h' tk fs' hv2 hr hself K
      obtain ⟨rfl, hP⟩ := himp v fs' hv2
      refine ⟨hr, ?_⟩
      have φn : ∀ b, φ' b = none → (∃ o, ((hp0.push emptyDict).push (instObj C hp0.objs.size)).get? b = some o) → φ'' b = none := fun b e ⟨o, e'⟩ => by
        cases q : φ'' b with
        | none => rfl
        | some o' =>
          rcases K.new b o' q with z | z
          · rw [e] at z; cases z
          · rw [e'] at z; cases z
      have nn : Nx Y φ ρ' φ'' s ⟨h', g0, d0, tk, os0⟩ := n.trans ⟨⟨h', tk, rfl⟩, K.le, mv K⟩
      refine store_obj ok nn hst hc hself hne (fun b hb => ?_) (fun b hb => ?_) fun s'' n' => p.nx _ _ _ (hP _ _) n'
      · rcases List.mem_cons.mp hb with rfl | hb
        · exact ⟨a1, φn _ a2 ⟨_, ga⟩, a3⟩
        · rw [List.mem_singleton.mp hb]; exact ⟨b1, φn _ b2 ⟨_, gd⟩, b3⟩
      · rcases List.mem_cons.mp hb with rfl | hb
        · exact a4
        · rw [List.mem_singleton.mp hb]; exact b4
    · intro y e d T φ'' h' tk hx F hn K
      refine p.er y _ ρ' φ'' _ (hX y hx) (exn_of_call (s := ⟨hp0, g0, d0, tk0, os0⟩) S' F (fun b hb => ⟨?_, (hn b hb).2⟩) (List.Sublist.refl _)) (n.trans ⟨⟨h', tk, rfl⟩, K.le, mv K⟩)
      cases q : hp0.get? b with
      | none => rfl
      | some o' => have := (hn b hb).1; rw [(old b o' q).2.2] at this; cases this
    · cases r with
      | error e => exact hr
      | ok fl =>
        cases fl with
        | ret v => exact hr
        | _ => exact hr.elim
end
end Mine
set_option Elab.async false
set_option maxRecDepth 10000
set_option linter.unusedVariables false
namespace Mine
open PySem PySem.W PySem.Calls PySem.Spec PyProof.Rows

section
variable {Y : Lo} {ρ : Rho} {φ : PH} {h h' : Heap}
theorem St.others (S : St Y ρ φ h) {Js : List Addr} (hs : ∀ b o, b ∉ Js → h.get? b = some o → h'.get? b = some o) (off : ∀ J ∈ Js, Off Y ρ φ J) : St Y ρ φ h' where
  kk := fun a o e => hs a o (fun q => by rw [(off a q).κ] at e; cases e) (S.kk a o e)
  ff := fun a m => let ⟨o, e, d⟩ := S.ff a m; ⟨o, hs a o (fun q => (off a q).FS m) e, d⟩
  fz := fun a o e => hs a o (fun q => by rw [(off a q).φ] at e; cases e) (S.fz a o e)
  fr := S.fr
  bz := fun a e => let ⟨o, q⟩ := S.bz a e; ⟨o, hs a o (fun z => (off a z).ban e) q⟩
  ob := S.ob
  vars := by
    obtain ⟨m, hn, hv⟩ := S.vars
    refine ⟨m, hn.at' fun o e => hs _ o (fun q => (off _ q).loc rfl) e, fun x sl q => ?_⟩
    obtain ⟨w, a, b⟩ := hv x sl q
    exact ⟨w, a.keep fun c o e k => hs c o (fun q => (off c q).cells _ _ e rfl) k, b.keep fun c hc o k => hs c o (fun z => (off c z).foot (List.mem_append_right _ (foot_mem q hc))) k⟩
  cells := fun x c e => let ⟨v, o, q, d⟩ := S.cells x c e; ⟨v, o, hs c o (fun q => (off c q).cells _ _ e rfl) q, d⟩
  lws := fun a m => let ⟨o, e⟩ := S.lws a m; ⟨o, hs a o (fun z => (off a z).foot (List.mem_append_left _ m)) e⟩
  apart := S.apart
  off := S.off
  offF := S.offF
end

section
variable {Γ : Gx} {V : Va} {ρ : Rho} {X : Exn → Rho → Prop}
end
end Mine
set_option Elab.async false
set_option maxRecDepth 10000
set_option linter.unusedVariables false
namespace Mine
open PySem PySem.W PySem.Calls PySem.Spec PyProof.Rows

section
variable {Γ : Gx} {V : Va} {ρ : Rho} {X : Exn → Rho → Prop}
/-- `a or b` where a is None or a text -/
theorem ev_orelse {a b : Expr} {pos : Pos} {P : PV → Rho → Prop}
    (h : Ev Γ V ρ a (fun x ρ₁ => (x = .none ∧ Ev Γ V ρ₁ b P X) ∨ (∃ t : List Nat, x = .str t ∧ t.length ≤ 1000000 ∧ (t ≠ [] → P (.str t) ρ₁) ∧ (t = [] → Ev Γ V ρ₁ b P X))) X) : Ev Γ V ρ (.BoolOp .Or [a, b] pos) P X := fun Y ok φ s Q E S p => by
  refine BoolOp_or (h Y ok φ s _ E S ⟨fun x vx ρ₁ φ₁ s₁ hb rx n₁ => ?_, p.er⟩)
  rcases hb with ⟨rfl, hb⟩ | ⟨t, rfl, hlen, h1, h2⟩
  · rw [show vx = _ from rx]
    refine truthy_none ?_
    exact BoolOp_one (hb Y ok φ₁ s₁ Q E n₁.2.2 (p.after n₁))
  · obtain ⟨u, rfl⟩ := rx
    have e : (⟨t.toArray⟩ : Str).length = t.length := List.size_toArray
    refine PySem.P.truthy_str (by rw [e]; omega) ?_
    rw [e]
    by_cases ht : t = []
    · subst ht
      rw [show ((([] : List Nat).length : Int) != 0) = false from rfl]
      have n₂ : Nx Y φ₁ ρ₁ φ₁ s₁ { s₁ with toks := s₁.toks + 1 + 1 } := .of n₁.2.2 _
      exact BoolOp_one (h2 rfl Y ok φ₁ _ Q E n₂.2.2 ((p.after n₁).after n₂))
    · have : ((t.length : Int) != 0) = true := by
        have : t.length ≠ 0 := fun q => ht (List.length_eq_zero_iff.mp q)
        simpa using this
      rw [this]
      exact p.ok _ _ ρ₁ φ₁ _ (h1 ht) ⟨u, rfl⟩ (n₁.trans (.of n₁.2.2 _))
end
end Mine
set_option Elab.async false
set_option maxRecDepth 10000
set_option linter.unusedVariables false
namespace Mine
open PySem PySem.W PySem.Calls PySem.Spec PyProof.Rows
open PySem.Builtin PySem.Builtin.ObjectAttr

/-- the class of exceptions -/
structure ExcCls (K : Frag) : Prop where
  ga : findIn K (.ref 53) "__getattribute__" = some (some (.builtin "BaseException.__getattribute__"))
  gt : findIn K (.ref 53) "__getattr__" = some none
  set : findIn K (.ref 53) "__setattr__" = some (some (.builtin "object.__setattr__"))
  cls : ∃ cd, clsIn K 53 = some cd ∧ cd.hasDict = true ∧ cd.mro = [.ref 53, .type "Exception", .type "BaseException", .type "object"]
structure ExcAttr (K : Frag) (name : String) : Prop where
  find : ∃ attr, findIn K (.ref 53) (Str.ofString name) = some attr ∧ noGet K attr = true
  taker : takerIn K 53 (Str.ofString name) = some none

theorem ExcCls.has {K : Frag} (E : ExcCls K) : hasDictIn K 53 = true := by
  obtain ⟨cd, a, b, _⟩ := E.cls
  unfold hasDictIn
  rw [a]
  exact b
theorem ExcCls.mroIn {K : Frag} (E : ExcCls K) (b : Value) : mroIn K 53 b = some ([Value.ref 53, .type "Exception", .type "BaseException", .type "object"].contains b) := by
  obtain ⟨cd, a, _, e⟩ := E.cls
  unfold PySem.W.mroIn
  rw [a, Option.bind_some, e]
  rfl

theorem ExcCls.base {K : Frag} (E : ExcCls K) : PySem.W.mroIn K 53 (.type "BaseException") = some true := (E.mroIn _).trans (by decide +kernel)
theorem ExcCls.object {K : Frag} (E : ExcCls K) : PySem.W.mroIn K 53 (.type "object") = some true := (E.mroIn _).trans (by decide +kernel)

section
variable {prog : Program} {w : World} {A : Around} {E : Value → Shared → Prop} {s : Shared} {K : Frag} {x : Addr} {ox : Obj} {od : Option Obj}
theorem exc_get {name : Str} {v : Value} {expr : Bool} {Q : Value → Shared → Prop} (EC : ExcCls K) (X : K.In s.heap) (I : InstAt s.heap x ox 53 od) (hf : findObj K 53 od name = some (.value v)) (hh : handedIn v = true)
    (h : Q v { s with toks := s.toks + 1 }) : wpAny (model prog w) A (getAttr (.ref x) name expr) Q E s := by
  obtain ⟨hp, g, d, t, os⟩ := s
  have L0 := I.type (M := model prog w)
  have L1 := looks_findIn (M := model prog w) X EC.ga
  have L2 := looks_findIn (M := model prog w) X EC.gt
  have L3 := looks_find (M := model prog w) X I hf
  have L4 : Looks (model prog w) hp (isInstance (.ref x) (.type "BaseException")) true := L0.andThen (looks_mroIn X EC.base)
  have ga := (PySem.F.attr_Exception).ga
  unfold getAttr getAttrBy
  refine wpAny_bind (wpAny_mkText (wpAny_holding (wpAny_bind (L0.at (wpAny_bind (L1.at ?_))))))
  show wpAny _ _ (if (onTheHeap (Value.ref 53) && (Value.builtin "BaseException.__getattribute__" == Value.builtin "object.__getattribute__")) = true then _ else getAttrByItsOwn _ _ _ _ _ _) _ _ _
  rw [if_neg (by decide +kernel)]
  unfold getAttrByItsOwn hookBefore
  refine wpAny_bind (L2.at ?_)
  refine wpAny_bind (wpAny_attempt (wpAny_holding ?_))
  unfold callGetattribute
  rw [if_neg (by cases expr <;> decide)]
  unfold boundAndCalled
  rw [ga.bind]
  refine wpAny_bind (wpAny_pure (wpAny_call ?_))
  refine codeAny_call_builtin ga.plain PySem.F.entry_bexc_ga ?_
  have hk : builtinKind "BaseException.__getattribute__" = some .slot := by decide +kernel
  have hs : splitId "BaseException.__getattribute__" = some ("BaseException", "__getattribute__") := by decide +kernel
  refine @check_slot (model prog w) _ _ _ "BaseException.__getattribute__" "BaseException" "__getattribute__" (.ref x) [.str name t] [] _ hk hs L4 (PySem.F.args_bexc_ga _ _) ?_
  unfold Builtin.«object.__getattribute__»
  refine wpAny_bind (wpAny_pure ?_)
  refine wpAny_bind (wpAny_pure ?_)
  refine wpAny_bind (L0.at (wpAny_bind (L3.at ?_)))
  refine wpAny_pure ?_
  show wpAny _ _ (handedOut v) _ _ _
  rw [handedOut_of hh]
  exact wpAny_pure h

theorem osa_exc {name : Str} {tk : Tok} {v : Value} {R : Result → Shared → Prop} (EC : ExcCls K) (X : K.In s.heap) (I : InstAt s.heap x ox 53 od) (ht : takerIn K 53 name = some none)
    (h : ∀ b, wpAny (model prog w) A.in1 (storeInOwnDict (.ref x) (.ref 53) (.str name tk) name v b)
      (fun fin s' => match fin with | .done f => R (.ok f) s' | .again c' => c'.quiet = true ∧ codeAny (model prog w) A c' R s') (fun e s' => R (.error e) s') s) :
    codeAny (model prog w) A (.call (.builtin "object.__setattr__") ⟨[.ref x, .str name tk, v], []⟩) R s := by
  have SF := PySem.F.store_Exception
  obtain ⟨cd, hc, _, hm⟩ := EC.cls
  have sub : Looks (model prog w) s.heap (isInstance (.ref x) (.type "object")) true := I.type.andThen (looks_mroIn X EC.object)
  refine codeAny_call_builtin SF.slot.plain SF.entry (@check_slot (model prog w) _ _ s "object.__setattr__" "object" "__setattr__" (.ref x) [.str name tk, v] [] _ SF.kind SF.split sub (SF.args (.ref x) (.str name tk) v) ?_)
  obtain ⟨attr, ha, hr⟩ := Option.bind_eq_some_iff.mp ht
  have hmr : Looks (model prog w) s.heap (mroOf (.ref 53)) cd.mro := (looks_clsIn X hc).andThen .now
  have L3 : Looks (model prog w) s.heap (storeTaker? attr) none := by
    cases attr with
    | none => exact .now
    | some a =>
      obtain ⟨b, hb, e⟩ := Option.map_eq_some_iff.mp hr
      refine (looks_takesIn X hb).andThen ?_
      cases b with
      | false => exact .now
      | true => cases e
  rw [osa_eq, refuse_eq]
  refine wpAny_bind (wpAny_bind (I.type.here (wpAny_bind (hmr.here ?_))))
  rw [hm, refuseLoop_ref, SF.passes]
  exact wpAny_pure (wpAny_bind (I.type.here (wpAny_bind ((looks_findIn X ha).here (wpAny_bind (L3.here (h _)))))))

/-- a store into a dict that stands -/
theorem store_dict {dx : Addr} {es : List DictEntry} {n : Nat} {name : Str} {tk : Tok} {v : Value} {Q : Fin → Shared → Prop} (hd : s.heap.get? dx = some (dictOf es n)) (hl : (getL name es).isSome = true) (hz : es.length ≤ 900)
    (h : ∀ h' n' hsh tk, Heap.SameBut dx s.heap h' → h'.get? dx = some (dictOf (putL name hsh (.str name tk) v es) n') → Q (.done (.ret .none)) { s with heap := h', toks := s.toks + 1 }) : wpAny (model prog w) A (storeInDict dx (.str name tk) name v) Q E s := by
  obtain ⟨hp0, g0, d0, tk0, os0⟩ := s
  dsimp only at hd h ⊢
  unfold storeInDict newKeyGuard
  refine wpAny_bind (wpAny_pure (wpAny_bind ?_))
  unfold nsSet
  refine wpAny_bind (wpAny_bind (wpAny_askSetting (wpAny_pure (wpAny_bind (wpAny_mkText (wpAny_bind (wpAny_loadPart hd ?_)))))))
  dsimp only
  have c : (!es.any (·.key.isStr name) && es.any (·.refKey)) = false := by
    unfold getL at hl
    split at hl
    · rename_i en he
      rw [List.any_eq_true.mpr ⟨en, List.mem_of_find?_eq_some he, List.find?_some he⟩]; rfl
    · split at hl
      · cases hl
      · rename_i z; rw [Bool.not_eq_true] at z; rw [z, Bool.and_false]
  have c' : (!es.toArray.any (·.key.isStr name) && es.toArray.any (·.refKey)) = false := by
    rw [← Array.any_toList, ← Array.any_toList]; exact c
  have hp' := putName_dict name (PyData.keyHash w.params name) (.str name tk0) v es n
  rw [aRefKeyMayBeTheName_at, c']
  have D' : (hp0.update dx (Obj.putName name (PyData.keyHash w.params name) (.str name tk0) v)).get? dx = some (dictOf (putL name (PyData.keyHash w.params name) (.str name tk0) v es) (putN name es n)) := by
    rw [Heap.get?_update_self _ hd (by rw [hp']; rfl), hp']
  refine wpAny_updatePart hd ?_
  have hlen : (putL name (PyData.keyHash w.params name) (.str name tk0) v es).length ≤ 1000 := Nat.le_trans (putL_len ..) (by omega)
  refine wpAny_bind (wpAny_lookBehind D' (pastItsLine_dict (by rw [List.size_toArray, sizeLine_eq]; omega)) ?_)
  exact wpAny_pure (h _ _ _ _ (Heap.SameBut.update ..) D')

theorem set_exc {dx : Addr} {vs : Array Value} {es : List DictEntry} {n : Nat} {name : Str} {v : Value} {Q : Unit → Shared → Prop} (EC : ExcCls K) (X : K.In s.heap) (hx : s.heap.get? x = some (excObj (some dx) vs)) (hd : s.heap.get? dx = some (dictOf es n)) (ht : takerIn K 53 name = some none)
    (hl : (getL name es).isSome = true) (hz : es.length ≤ 900)
    (h : ∀ h' n' hsh tk, Heap.SameBut dx s.heap h' → h'.get? dx = some (dictOf (putL name hsh (.str name tk) v es) n') → Q () { s with heap := h', toks := s.toks + 2 }) : wpAny (model prog w) A (setAttr (.ref x) name v) Q E s := by
  obtain ⟨hp0, g0, d0, tk0, os0⟩ := s
  dsimp only at X hx hd h ⊢
  have I : InstAt hp0 x (excObj (some dx) vs) 53 (some (dictOf es n)) := ⟨hx, rfl, rfl, hd⟩
  refine set_plain X I EC.set (osa_exc (s := ⟨hp0, g0, d0, tk0 + 1, os0⟩) EC X I ht fun b => ?_)
  obtain ⟨cd, hc, hd', _⟩ := EC.cls
  refine wpAny_bind (wpAny_pure (wpAny_bind (wpAny_bind (wpAny_loadPart hx (wpAny_bind ((looks_clsIn X hc).here ?_))))))
  rw [hd']
  refine wpAny_pure (a := some dx) ?_
  exact store_dict (s := ⟨hp0, g0, d0, tk0 + 1, os0⟩) hd hl hz fun h' n' hsh tk a b => h h' n' hsh tk a b

theorem set_exc0 {vs : Array Value} {name : Str} {v : Value} {Q : Unit → Shared → Prop} (EC : ExcCls K) (X : K.In s.heap) (hx : s.heap.get? x = some (excObj none vs)) (ht : takerIn K 53 name = some none)
    (h : ∀ h' n' hsh tk, (∀ b o, b ≠ x → s.heap.get? b = some o → h'.get? b = some o) → h'.get? x = some (excObj (some s.heap.objs.size) vs) → h'.get? s.heap.objs.size = some (dictOf (putL name hsh (.str name tk) v []) n') → Q () { s with heap := h', toks := s.toks + 2 }) : wpAny (model prog w) A (setAttr (.ref x) name v) Q E s := by
  obtain ⟨hp0, g0, d0, tk0, os0⟩ := s
  dsimp only at X hx h ⊢
  have I : InstAt hp0 x (excObj none vs) 53 none := ⟨hx, rfl, rfl, trivial⟩
  refine set_plain X I EC.set (osa_exc (s := ⟨hp0, g0, d0, tk0 + 1, os0⟩) EC X I ht fun b => ?_)
  obtain ⟨cd, hc, hd', _⟩ := EC.cls
  refine wpAny_bind (wpAny_pure (wpAny_bind (wpAny_bind (wpAny_loadPart hx (wpAny_bind ((looks_clsIn X hc).here ?_))))))
  rw [hd']
  have hx₁ : (hp0.push emptyDict).get? x = some (excObj none vs) := Heap.get?_push_of_some _ hx
  have hxs : x ≠ hp0.objs.size := Nat.ne_of_lt (Heap.lt_size hx)
  refine wpAny_bind (wpAny_alloc (wpAny_bind (wpAny_update hx₁ ?_)))
  refine wpAny_bind (wpAny_pure ?_)
  refine wpAny_pure (a := some hp0.objs.size) ?_
  have gx : ((hp0.push emptyDict).update x fun o => { o with dict := some hp0.objs.size }).get? x = some (excObj (some hp0.objs.size) vs) := Heap.get?_update_self _ hx₁ rfl
  have gd : ((hp0.push emptyDict).update x fun o => { o with dict := some hp0.objs.size }).get? hp0.objs.size = some (dictOf [] 0) := (Heap.get?_update_other _ _ hxs).trans (Heap.get?_push_size _ rfl)
  refine store_dict (s := ⟨(hp0.push emptyDict).update x fun o => { o with dict := some hp0.objs.size }, g0, d0, tk0 + 1, os0⟩) gd rfl (Nat.zero_le _) fun h' n' hsh tk a b => h h' n' hsh tk (fun c o hc ho => ?_) (a.extBut _ _ hxs gx) b
  refine a.extBut _ _ (Nat.ne_of_lt (Heap.lt_size ho)) ?_
  rw [Heap.get?_update_other _ _ (Ne.symm hc)]
  exact Heap.get?_push_of_some _ ho
end
end Mine
set_option Elab.async false
set_option maxRecDepth 10000
set_option linter.unusedVariables false
namespace Mine
open PySem PySem.W PySem.Calls PySem.Spec PyProof.Rows

theorem foot_upd_perm (x : String) (s : Slot) : ∀ ρ : Rho, (foot (upd x s ρ)).Perm (foot1 s ++ foot (del x ρ))
  | [] => .refl _
  | (y, t) :: r => by
    rw [upd, del]
    split
    · exact .refl _
    · refine ((foot_upd_perm x s r).append_left (foot1 t)).trans ?_
      show (foot1 t ++ (foot1 s ++ foot (del x r))).Perm (foot1 s ++ (foot1 t ++ foot (del x r)))
      exact List.perm_append_comm_assoc _ _ _

section
variable {Y : Lo} {ρ : Rho} {φ : PH} {h h' : Heap}
/-- an object gains a dict -/
theorem St.gain (S : St Y ρ φ h) {x : String} {sl sl' : Slot} {a d : Addr} (hg : get x ρ = some sl) (hf : foot1 sl = [a]) (hf' : foot1 sl' = [a, d]) (hloc : Y.env.locals ∈ Y.lw) (hd : h.get? d = none) (hncell : ∀ o v, h.get? a = some o → o.data ≠ .cell v)
    (k : ∀ b o, b ≠ a → h.get? b = some o → h'.get? b = some o) (ha : ∃ o, h'.get? a = some o) (hr : ∀ w, SlotRep φ h sl w → SlotRep φ h' sl' w) (ho : ∀ a l, sl' ≠ .own a l) : St Y (upd x sl' ρ) φ h' := by
  have ham : a ∈ foot ρ := foot_mem (mem_of_get hg) (by rw [hf]; exact .head _)
  have O := S.off a (List.mem_append_right _ ham)
  have hnd := List.nodup_append.mp S.apart
  have hoff : a ∉ foot (del x ρ) := fun hq => foot_upd_off (v := .none) hg (a := a) (by rw [hf]; exact .head _) hnd.2.1 ((foot_del_upd x .none ρ).subset hq)
  have hloc' : Y.env.locals ≠ a := fun e => hnd.2.2 _ hloc _ ham e
  have hcell : ∀ y c, Y.env.cells.lookup y = some c → c ≠ a := fun y c e q => by
    obtain ⟨v, o, e1, e2⟩ := S.cells y c e
    rw [q] at e1
    exact hncell o v e1 e2
  have hsub := foot_del_sub x ρ
  have P := foot_upd_perm x sl' ρ
  rw [hf'] at P
  have F := S.fresh hd
  have live : ∀ b, (∃ o, h.get? b = some o) → ∃ o, h'.get? b = some o := fun b ⟨o, e⟩ => by
    by_cases q : b = a
    · rw [q]; exact ha
    · exact ⟨o, k b o q e⟩
  obtain ⟨m, hns, hv⟩ := S.vars
  refine ⟨fun b o e => k b o (fun q => by rw [q, O.1] at e; cases e) (S.kk b o e), fun b hb => let ⟨o, e, z⟩ := S.ff b hb; ⟨o, k b o (fun q => O.2.2 (q ▸ hb)) e, z⟩, fun b o e => k b o (fun q => by rw [q, O.2.1] at e; cases e) (S.fz b o e), S.fr, fun b e => live b (S.bz b e), fun y b l hy => ?_,
    ⟨m, hns.at' fun o e => k _ o hloc' e, fun y sl₁ hy => ?_⟩, fun y c e => let ⟨v, o, e1, e2⟩ := S.cells y c e; ⟨v, o, k c o (hcell y c e) e1, e2⟩, fun b hb => live b (S.lws b hb), ?_, fun b hb => ?_, S.offF⟩
  · rcases mem_upd hy with ⟨_, e⟩ | ⟨_, hy⟩
    · exact absurd e.symm (ho _ _)
    · exact S.ob _ _ _ hy
  · have va : ∀ {y : Str} {w : Value}, VarAt Y.env m h y w → VarAt Y.env m h' y w := fun {y w} q => q.keep fun c o e1 e2 => k c o (hcell y c e1) e2
    rcases mem_upd hy with ⟨rfl, rfl⟩ | ⟨ne, hy⟩
    · obtain ⟨w, hw, hr'⟩ := hv y _ (mem_of_get hg)
      exact ⟨w, va hw, hr w hr'⟩
    · obtain ⟨w, hw, hr'⟩ := hv y _ hy
      exact ⟨w, va hw, hr'.keep fun c hc o e => k c o (fun q => hoff (q ▸ foot_mem (mem_del_of ne hy) hc)) e⟩
  · refine ((P.append_left Y.lw).trans (List.perm_append_comm_assoc _ _ _)).nodup_iff.mpr (List.nodup_append.mpr ⟨?_, S.apart.sublist ((List.Sublist.refl _).append hsub), fun b hb c hc e => ?_⟩)
    · simp only [List.nodup_cons, List.mem_singleton, List.not_mem_nil, not_false_eq_true, List.nodup_nil, and_true]
      intro e
      obtain ⟨o, q⟩ := S.foot_live (List.mem_append_right _ ham)
      rw [e, hd] at q; cases q
    · subst e
      rcases List.mem_cons.mp hb with rfl | hb
      · rcases List.mem_append.mp hc with hc | hc
        · exact hnd.2.2 _ hc _ ham rfl
        · exact hoff hc
      · rw [List.mem_singleton.mp hb] at hc
        exact F.2.2.2.1 (((List.Sublist.refl _).append hsub).subset hc)
  · rcases List.mem_append.mp hb with hb | hb
    · exact S.off b (List.mem_append_left _ hb)
    · rcases List.mem_append.mp (P.subset hb) with hb | hb
      · rcases List.mem_cons.mp hb with rfl | hb
        · exact O
        · rw [List.mem_singleton.mp hb]; exact ⟨F.1, F.2.1, F.2.2.1⟩
      · exact S.off b (List.mem_append_right _ (hsub.subset hb))
end

section
variable {Γ : Gx} {V : Va} {ρ : Rho} {X : Exn → Rho → Prop}
theorem exc_load {Y : Lo} (ok : Ok Γ V Y) {φ : PH} {s : Shared} {Q E : Value → Shared → Prop} {x : String} {raw : Bool} {a : Addr} {d : Option Addr} {fs : Fs} {pos : Pos} (S : St Y ρ φ s.heap) (hg : get x ρ = some (.exc raw a d fs)) (h : Q (.ref a) s) (hd : plainName x = true) :
    wpAny (model Γ.prog Γ.w) V.A (eval (.Name (Str.ofString x) pos) V.env) Q E s := by
  obtain ⟨m, hn, hv⟩ := S.vars
  obtain ⟨w, b, rfl, _⟩ := hv x _ (mem_of_get hg)
  rw [ok.ee] at hn b
  exact wpAny_Name (load_rule ok.fk hn b h (plainName_of hd).1) (plainName_of hd).2

/-- `x.name` of an exception -/
theorem ev_xattr {x name : String} {raw : Bool} {a d : Addr} {fs : Fs} {v : PV} {npos pos : Pos} {P : PV → Rho → Prop} (hg : get x ρ = some (.exc raw a (some d) fs)) (hf : fget name fs = some v) (EC : ExcCls Γ.K) (hA : ExcAttr Γ.K name) (h : P v ρ) (hd : plainName x = true := by decide +kernel)
    (hb : attributeBase (.Name (Str.ofString x) npos) (Str.ofString name) V.env (eval (.Name (Str.ofString x) npos) V.env) = eval (.Name (Str.ofString x) npos) V.env := by rfl) :
    Ev Γ V ρ (.Attribute (.Name (Str.ofString x) npos) (Str.ofString name) pos) P X := fun Y ok φ s Q E S p => by
  rw [arm_eval_Attribute, hb]
  refine wpAny_bind (exc_load ok S hg ?_ hd)
  refine wpAny_bind (wpAny_standAt ?_)
  refine wpAny_bind (wpAny_holding ?_)
  obtain ⟨m, hn, hv⟩ := S.vars
  obtain ⟨w, _, rfl, vs, ha, _, _, es, n, hdx, hfs⟩ := hv x _ (mem_of_get hg)
  obtain ⟨wv, hl, hr⟩ := (hfs.2 name).2 v hf
  obtain ⟨attr, h1, h2⟩ := hA.find
  have X' := Γ.kin.keeps (S.base ok)
  refine exc_get EC X' (ox := excObj (some d) vs) (od := some (dictOf es n)) ⟨ha, rfl, rfl, hdx⟩ (findObj_own EC.has h1 h2 hl) hr.handed ?_
  exact wpAny_bind (wpAny_of_eq rfl (wpAny_pure (p.ok v wv ρ φ _ h hr (.of S _))))

/-- `x.name = e` on an exception that has a dict -/
theorem e1_xset {x name : String} {e : Expr} {raw : Bool} {a d : Addr} {npos apos pos : Pos} {P : Out → Prop} (EC : ExcCls Γ.K) (hA : ExcAttr Γ.K name)
    (h : Ev Γ V ρ e (fun v ρ' => ∃ fs, get x ρ' = some (.exc raw a (some d) fs) ∧ fs.length ≤ 900 ∧ P (.next (upd x (.exc raw a (some d) (fset name v fs)) ρ'))) X) (hd : plainName x = true := by decide +kernel)
    (hst : V.st = true := by rfl) (hs : swapsWith e (some (.Attribute (.Name (Str.ofString x) npos) (Str.ofString name) apos)) pos.line V.env = pure false := by rfl) :
    E1 Γ V ρ (.Assign [.Attribute (.Name (Str.ofString x) npos) (Str.ofString name) apos] e pos) P X := fun Y ok φ s Q E hE S p => by
  refine plainObj_wpAny_Assign_Attribute (h Y ok φ s _ E S ⟨fun v val ρ₁ φ₁ s₁ hp r₁ n₁ => ?_, p.er⟩) hs
  obtain ⟨fs, hg, hlen, hp⟩ := hp
  have S₁ := n₁.2.2
  refine exc_load ok S₁ hg ?_ hd
  obtain ⟨m, hn, hv⟩ := S₁.vars
  obtain ⟨w, _, rfl, vs, ha, hsz, hraw, es, n, hdx, hfs⟩ := hv x _ (mem_of_get hg)
  have X' := Γ.kin.keeps (S₁.base ok)
  refine set_exc EC X' ha hdx hA.taker (hfs.known name) (Nat.le_trans hfs.1 hlen) fun h' n' hsh tk hs' hd' => ?_
  have hne : a ≠ d := fun e => by
    rw [e, hdx] at ha
    cases ha
  refine p.nx _ _ _ hp (n₁.trans ⟨⟨h', _, rfl⟩, .refl _, S₁.remake hg (.tail _ (.head _)) (by rw [ok.ee, ok.ll]; exact (ok.wr hst).1) (fun o v' e q => ?_) hs' ⟨_, hd'⟩ rfl (fun w' hr => ?_) (fun _ _ e => by cases e)⟩)
  · rw [hdx] at e
    cases e
    cases q
  · obtain ⟨rfl, vs₂, ha₂, hsz₂, hraw₂, es₂, n₂, hdx₂, hfs₂⟩ := hr
    rw [hdx] at hdx₂
    have e2 : es = es₂ := by
      have := Option.some.inj hdx₂
      simpa using congrArg (fun o : Obj => match o.data with | .dict q _ => q.toList | _ => []) this
    subst e2
    exact ⟨rfl, vs₂, hs'.extBut _ _ hne ha₂, hsz₂, hraw₂, _, n', hd', hfs₂.put hsh tk r₁⟩

/-- `x.name = e` on an exception that has no dict yet -/
theorem e1_xset0 {x name : String} {e : Expr} {raw : Bool} {a : Addr} {npos apos pos : Pos} {P : Out → Prop} (EC : ExcCls Γ.K) (hA : ExcAttr Γ.K name)
    (h : Ev Γ V ρ e (fun v ρ' => get x ρ' = some (.exc raw a none []) ∧ ∀ d, P (.next (upd x (.exc raw a (some d) [(name, v)]) ρ'))) X) (hd : plainName x = true := by decide +kernel)
    (hst : V.st = true := by rfl) (hs : swapsWith e (some (.Attribute (.Name (Str.ofString x) npos) (Str.ofString name) apos)) pos.line V.env = pure false := by rfl) :
    E1 Γ V ρ (.Assign [.Attribute (.Name (Str.ofString x) npos) (Str.ofString name) apos] e pos) P X := fun Y ok φ s Q E hE S p => by
  refine plainObj_wpAny_Assign_Attribute (h Y ok φ s _ E S ⟨fun v val ρ₁ φ₁ s₁ hp r₁ n₁ => ?_, p.er⟩) hs
  obtain ⟨hg, hp⟩ := hp
  have S₁ := n₁.2.2
  refine exc_load ok S₁ hg ?_ hd
  obtain ⟨m, hn, hv⟩ := S₁.vars
  obtain ⟨w, _, rfl, vs, ha, hsz, hraw, _⟩ := hv x _ (mem_of_get hg)
  have X' := Γ.kin.keeps (S₁.base ok)
  refine set_exc0 EC X' ha hA.taker fun h' n' hsh tk k1 k2 k3 => ?_
  refine p.nx _ _ _ (hp s₁.heap.objs.size) (n₁.trans ⟨⟨h', _, rfl⟩, .refl _, S₁.gain hg rfl rfl (by rw [ok.ee, ok.ll]; exact (ok.wr hst).1) (none_at_end _ 0) (fun o v' e q => ?_) k1 ⟨_, k2⟩ (fun w' hr => ?_) (fun _ _ e => by cases e)⟩)
  · rw [ha] at e
    cases e
    cases q
  · refine ⟨hr.1, vs, k2, hsz, hraw, _, n', k3, ?_⟩
    have e0 : FieldsAre φ₁ [] [] := ⟨Nat.le_refl _, fun x => ⟨fun _ => rfl, fun _ e => by cases e⟩⟩
    exact e0.put (x := name) hsh tk r₁
end
end Mine
set_option Elab.async false
set_option maxRecDepth 100000
set_option linter.unusedVariables false
namespace Mine
open PySem PySem.W PySem.Calls PySem.Spec PyProof.Rows
open PySem.Builtin PySem.Builtin.Str

theorem forIn_inv {α β : Type} {l : List α} {b : β} {f : α → β → Id (ForInStep β)} (I : β → Prop) (h0 : I b) (hs : ∀ a b, a ∈ l → I b → match f a b with | .done b' => I b' | .yield b' => I b') : I (forIn (m := Id) l b f) := by
  induction l generalizing b with
  | nil => exact h0
  | cons a l ih =>
    have h1 := hs a b (.head _) h0
    rw [List.forIn_cons]
    show I (match f a b with | .done b' => b' | .yield b' => forIn (m := Id) l b' f)
    cases e : f a b with
    | done b' => rw [e] at h1; exact h1
    | yield b' => rw [e] at h1; exact ih h1 fun a b ha => hs a b (.tail _ ha)

theorem occ_len (s sub : PySem.Str) (lo hi limit : Nat) : (occurrences s sub lo hi limit).length ≤ limit := by
  unfold occurrences
  simp only [Id.run, Std.Legacy.Range.forIn_eq_forIn_range']
  show (fun r : Array Nat × Nat => r.1.toList.length ≤ limit) (forIn (m := Id) (List.range' lo ([lo:hi + 1] : Std.Legacy.Range).size) ⟨#[], lo⟩ _)
  refine forIn_inv (I := fun r : Array Nat × Nat => r.1.toList.length ≤ limit) ?_ fun a b ha hb => ?_
  · exact Nat.zero_le _
  by_cases h : (decide (b.fst.size < limit) && decide (b.snd ≤ a) && decide (a + sub.length ≤ hi) && subAt s sub a) = true
  · rw [if_pos h]
    simp only [Bool.and_eq_true, decide_eq_true_eq] at h
    show (b.fst.push a).toList.length ≤ limit
    simp only [Array.toList_push, List.length_append, List.length_singleton, Array.length_toList]
    omega
  · rw [if_neg h]
    exact hb
theorem last_le (s sub : PySem.Str) (lo hi : Nat) : ∀ i, lastOccurrence s sub lo hi = some i → i ≤ hi := by
  unfold lastOccurrence
  simp only [Id.run, Std.Legacy.Range.forIn_eq_forIn_range']
  refine forIn_inv (I := fun r : Option Nat => ∀ i, r = some i → i ≤ hi) (fun _ h => nomatch h) fun a b ha hb => ?_
  by_cases h : (decide (a + sub.length ≤ hi) && subAt s sub a) = true
  · rw [if_pos h]
    simp only [Bool.and_eq_true, decide_eq_true_eq] at h
    intro i e
    cases e
    omega
  · rw [if_neg h]
    exact hb
theorem fromIndex_nn {n : Nat} {j : Int} (h : 0 ≤ j) : fromIndex n j = j.toNat := by
  unfold fromIndex
  rw [if_neg (by omega)]
  omega
theorem gives_count4 (x y : PySem.Str) (j : Int) (t u v v' : Tok) : ∃ n : Nat, n ≤ x.length + 1 ∧ Gives («str.count» ⟨[.str x t, .str y u, .int 0 v, .int j v'], []⟩) (.int n) := by
  refine ⟨_, occ_len x y (fromIndex x.length 0) (min (fromIndex x.length j) x.length) (x.length + 1), ?_⟩
  show Gives (retInt (occurrences x y (fromIndex x.length 0) (min (fromIndex x.length j) x.length) (x.length + 1)).length) _
  exact .of_eq rfl
theorem gives_rfind4 (x y : PySem.Str) (j : Int) (hj : 0 ≤ j) (t u v v' : Tok) : ∃ n : Int, (-1 ≤ n ∧ n ≤ j) ∧ Gives («str.rfind» ⟨[.str x t, .str y u, .int 0 v, .int j v'], []⟩) (.int n) := by
  have e : «str.rfind» ⟨[.str x t, .str y u, .int 0 v, .int j v'], []⟩ = (match lastOccurrence x y (fromIndex x.length 0) (min (fromIndex x.length j) x.length) with | some k => retInt k | none => (do rule "str.rfind.not-found"; retInt (-1))) := rfl
  rw [e, fromIndex_nn hj]
  cases h : lastOccurrence x y (fromIndex x.length 0) (min j.toNat x.length) with
  | none => exact ⟨-1, ⟨by omega, by omega⟩, .rule (.of_eq rfl)⟩
  | some k =>
    have := last_le _ _ _ _ _ h
    exact ⟨k, ⟨by omega, by omega⟩, .of_eq rfl⟩

end Mine
set_option Elab.async false
set_option maxRecDepth 100000
set_option linter.unusedVariables false
namespace Mine
open PySem PySem.W PySem.Calls PySem.Spec PyProof.Rows
open PySem.Builtin PySem.Builtin.Str

/-- what is known of the exception that is being handled -/
noncomputable def Hand (A : Around) (h : Heap) : Prop := A.handled = none ∨ ∃ e o vs, A.handled = some (.ref e) ∧ h.get? e = some o ∧ o.data = .fields vs ∧ vs[2]? = some .none

section
variable {prog : Program} {w : World} {A : Around} {E : Value → Shared → Prop} {s : Shared}
theorem raiseNew_ {α : Type} {e : Addr} {oe : Obj} {vs : Array Value} {Q : α → Shared → Prop} (H : Hand A s.heap) (he : s.heap.get? e = some oe) (hd : oe.data = .fields vs) (hsz : 2 < vs.size) (hn : A.handled ≠ some (.ref e))
    (h : ∀ h' v, (∀ b, b ≠ e → h'.get? b = s.heap.get? b) → h'.get? e = some { oe with data := .fields (vs.setIfInBounds 2 v) } → E (.ref e) { s with heap := h' }) (h0 : vs[2]? = some .none) : wpAny (model prog w) A (raiseNew (.ref e) : Sem α) Q E s := by
  rcases H with hh | ⟨e0, o0, vs0, hh, ho, hd0, h2⟩
  · refine wpAny_raiseNew_none hh ?_
    have := h s.heap .none (fun _ _ => rfl) (by
      rw [he]
      have : vs.setIfInBounds 2 .none = vs := by
        apply Array.ext_getElem?
        intro i
        rw [Array.getElem?_setIfInBounds]
        split
        · rename_i q
          subst q
          rw [h0]
        · rfl
      rw [this, ← hd])
    exact this
  · have ne : e0 ≠ e := fun q => hn (q ▸ hh)
    unfold raiseNew
    refine wpAny_bind (wpAny_handled ?_)
    rw [hh]
    show wpAny _ _ (if ((Value.ref e0) != (Value.ref e)) = true then _ else _) _ _ _
    rw [if_pos (by simpa using ne)]
    refine wpAny_bind (wpAny_holding (wpAny_runValue (codeAny_builtin (entryFor_of_tree (id := "proto.unchain") (b := Builtin.«proto.unchain») (by kernel_rfl)) ?_)))
    unfold Builtin.«proto.unchain»
    refine wpAny_bind (wpAny_field ho hd0 h2 ?_)
    rw [if_pos (by rfl)]
    refine wpAny_pure ?_
    refine wpAny_bind ?_
    show wpAny _ _ (setField (.ref e) 2 (.ref e0)) _ _ _
    refine wpAny_setField he hd hsz (wpAny_throw (h _ (.ref e0) (fun b hb => Heap.get?_update_other _ _ (Ne.symm hb)) ?_))
    have em := mapFields_of (f := (·.setIfInBounds 2 (Value.ref e0))) hd
    rw [Heap.get?_update_self _ he (by rw [em]; rfl), em]

theorem Hand.keeps {h h' : Heap} (H : Hand A h) (k : ∀ b o, h.get? b = some o → h'.get? b = some o) : Hand A h' := H.imp id fun ⟨e, o, vs, a, b, c⟩ => ⟨e, o, vs, a, k _ _ b, c⟩
theorem Hand.ne {h : Heap} (H : Hand A h) {e : Addr} (he : h.get? e = none) : A.handled ≠ some (.ref e) := fun q => by
  rcases H with hh | ⟨e0, o0, vs0, hh, ho, _⟩
  · rw [hh] at q; cases q
  · rw [hh] at q
    cases q
    rw [he] at ho; cases ho

theorem noIndex_bytes : typeLookup (.type "bytes") "__index__" = pure none := by rw [typeLookup_type, builtinLookup_eq_fast]; kernel_rfl
theorem asIndex_bytes {c : Array UInt8} {u : Tok} {Q : Int → Shared → Prop} (H : Hand A s.heap) (h : ∀ e h' tk, (∀ b o, s.heap.get? b = some o → h'.get? b = some o) → E (.ref e) { s with heap := h', toks := tk }) : wpAny (model prog w) A (asIndex (.bytes c u)) Q E s := by
  unfold asIndex
  refine wpAny_bind (wpAny_of_eq (a := none) rfl ?_)
  refine wpAny_bind (wpAny_of_eq (a := none) ?_ ?_)
  · show (specialOf (.bytes c u) "__index__" >>= fun r => _) = _
    rw [KBy.special_eq noIndex_bytes]
    rfl
  · refine wpAny_bind (wpAny_of_eq (a := "bytes") (by kernel_rfl) ?_)
    unfold raiseErrorMade
    refine wpAny_bind (wpAny_mkStr (wpAny_bind ?_) (by decide +kernel))
    unfold newExc newTuple
    refine wpAny_bind (wpAny_newObj_type ?_)
    refine wpAny_bind (m := firstArgMember _ _) (wpAny_of_eq (a := Value.none) (by simp only [firstArgMember, typeError_no_first]; rfl) ?_)
    rw [ownMembersOf_TypeError]
    refine wpAny_newObj_type ?_
    have kp : ∀ {o1 o2 : Obj} b o, s.heap.get? b = some o → ((s.heap.push o1).push o2).get? b = some o := fun b o e => Heap.get?_push_of_some _ (Heap.get?_push_of_some _ e)
    have hnew : s.heap.get? (s.heap.push { cls := .type "tuple", data := .seq #[Value.str (Str.ofString ("'" ++ "bytes" ++ "' object cannot be interpreted as an integer")) s.toks] }).objs.size = none := Heap.get?_none_of_le (by simp)
    refine raiseNew_ (H.keeps kp) (Heap.get?_push_size _ rfl) rfl (by show 2 < 6; decide) (fun q => H.ne hnew q) (fun h' v k1 k2 => h _ h' _ fun b o e => ?_) rfl
    have hb : b ≠ (s.heap.push { cls := .type "tuple", data := .seq #[Value.str (Str.ofString ("'" ++ "bytes" ++ "' object cannot be interpreted as an integer")) s.toks] }).objs.size := fun q => by rw [q, hnew] at e; cases e
    exact (k1 b hb).trans (kp b o e)
end
end Mine
set_option Elab.async false
set_option maxRecDepth 100000
set_option linter.unusedVariables false
namespace Mine
open PySem PySem.W PySem.Calls PySem.Spec PyProof.Rows
open PySem.Builtin PySem.Builtin.Str

section
variable {prog : Program} {w : World} {A : Around} {E : Value → Shared → Prop} {s : Shared}
theorem in_bytes {b c : Array UInt8} {t u : Tok} {Q : Value → Shared → Prop} (H : Hand A s.heap) (h : ∀ r h' tk, (∀ b o, s.heap.get? b = some o → h'.get? b = some o) → Q (.bool r) { s with heap := h', toks := tk }) : wpAny (model prog w) A (compareOp .In (.bytes c u) (.bytes b t)) Q E s := by
  show wpAny _ _ (do return .bool (← contains (.bytes b t) (.bytes c u))) Q E s
  refine wpAny_bind (wpAny_contains_slot (typeIs_bytes s b t) FB.slot_bytes_contains ?_)
  refine wpAny_call (codeAny_call_builtin FB.slot_bytes_contains.plain FB.entry_bytes_contains (FB.slot_bytes_contains.check _ _ _ _ _ _ _ _ (typeIs_bytes s b t) (FB.args_bytes_contains_2 _ _) ?_))
  have e : «bytes.__contains__» ⟨[.bytes b t, .bytes c u], []⟩ = (Bytes.containsIn "bytes.__contains__" (.bytes b t) (.bytes c u) >>= fun r => ret (.bool r)) := by kernel_rfl
  rw [e]
  unfold Bytes.containsIn
  refine wpAny_bind (wpAny_bind (wpAny_attempt (asIndex_bytes (A := A.in1) (s := s) H fun x h' tk kp => ?_)))
  refine wpAny_bind (wpAny_of_eq KBy.buffer_eq ?_)
  refine wpAny_bind (wpAny_of_eq KBy.buffer_eq ?_)
  refine wpAny_bind (wpAny_rule (wpAny_pure ?_))
  exact wpAny_pure (wpAny_pure (wpAny_pure (h _ h' tk kp)))
end

section
variable {Γ : Gx} {V : Va} {ρ : Rho} {X : Exn → Rho → Prop}
noncomputable def handed (V : Va) : Prop := V.hm = false ∨ V.hd.isSome = true
theorem hand_of {Y : Lo} {φ : PH} {h : Heap} (ok : Ok Γ V Y) (S : St Y ρ φ h) (hv : handed V) : Hand V.A h := by
  rcases hv with hm | hd
  · exact .inl (ok.hh hm)
  · obtain ⟨e, he⟩ := Option.isSome_iff_exists.mp hd
    obtain ⟨a, o, vs, b, c, d⟩ := ok.hx e he
    exact .inr ⟨e, o, vs, a, S.kk _ _ b, c, d⟩

noncomputable def textual : PV → Option Bool
  | .str _ => some true
  | .bytes _ => some false
  | _ => none
/-- `a in b` of two texts: whatever it is -/
theorem et_in_txt {a b : Expr} {pos : Pos} {P : Bool → Rho → Prop} (h : Ev Γ V ρ a (fun x ρ₁ => Ev Γ V ρ₁ b (fun y ρ₂ => ∃ k, textual x = some k ∧ textual y = some k ∧ ∀ c, P c ρ₂) X) X) (hv : handed V) (hm : behindInMarks .In b = false := by rfl) :
    Et Γ V ρ (.Compare a [.In] [b] pos) P X := fun Y ok φ s Q E S p =>
  wpAny_isTrue_Compare1 (h Y ok φ s _ E S ⟨fun x vx ρ₁ φ₁ s₁ hb rx n₁ => hb Y ok φ₁ s₁ _ E n₁.2.2 ⟨fun y vy ρ₂ φ₂ s₂ hb₂ ry n₂ => (by
    obtain ⟨k, h1, h2, h3⟩ := hb₂
    have rx' := rx.mono n₂.2.1
    cases x with
    | str x =>
      cases h1
      cases y with
      | str y =>
        obtain ⟨t, rfl⟩ := rx'
        obtain ⟨u, rfl⟩ := ry
        exact PySem.P.in_str (wpAny_truthy_bool (p.ok _ ρ₂ φ₂ _ (h3 _) (n₁.trans n₂)))
      | _ => cases h2
    | bytes x =>
      cases h1
      cases y with
      | bytes y =>
        obtain ⟨t, rfl⟩ := rx'
        obtain ⟨u, rfl⟩ := ry
        refine in_bytes (hand_of ok n₂.2.2 hv) fun r h' tk kp => wpAny_truthy_bool ?_
        exact p.ok _ ρ₂ φ₂ _ (h3 _) ((n₁.trans n₂).trans ⟨⟨h', tk, rfl⟩, .refl _, n₂.2.2.keeps kp⟩)
      | _ => cases h2
    | _ => cases h1), fun x e ρ' φ' s' a b c => p.er x e ρ' φ' s' a b (n₁.trans c)⟩, p.er⟩) hm

/-- what a built-in method of a text answers: a flat value, the heap untouched -/
noncomputable def FSpec (Γ : Gx) (id : String) (vs : List PV) (P : PV → Prop) : Prop :=
  ∀ (A : Around) (φ : PH) (s : Shared) (Q E : Value → Shared → Prop) (ws : List Value), Reps φ vs ws → (∀ v val tk, P v → Rep φ v val → Q val { s with toks := tk }) → wpAny (model Γ.prog Γ.w) A (call (.builtin id) ws) Q E s

noncomputable def typeName? : PV → Option String
  | .str _ => some "str"
  | .bytes _ => some "bytes"
  | _ => none
theorem typeName_is {φ : PH} {x : PV} {v : Value} {T : String} {s : Shared} (h : typeName? x = some T) (r : Rep φ x v) : s.TypeIs v T ∧ ∀ a, v ≠ .ref a := by
  cases x with
  | str x => cases h; obtain ⟨t, rfl⟩ := r; exact ⟨typeIs_str _ _ _, fun _ e => by cases e⟩
  | bytes x => cases h; obtain ⟨t, rfl⟩ := r; exact ⟨typeIs_bytes _ _ _, fun _ e => by cases e⟩
  | _ => cases h

/-- a method of a text -/
theorem ev_meth {o e : Expr} {es : List Expr} {name : String} {id T : String} {apos pos : Pos} {P : PV → Rho → Prop} (slot : PySem.Slot T (Str.ofString name) id) (pa : PlainAttrs T) (ty : typeOf (.builtin id) = pure (.type "method_descriptor"))
    (h : Ev Γ V ρ o (fun x ρ₁ => typeName? x = some T ∧ Evs Γ V X (e :: es) ρ₁ (fun l ρ₂ => ∃ P', FSpec Γ id (x :: l) P' ∧ ∀ v, P' v → P v ρ₂)) X)
    (hb : attributeBase o (Str.ofString name) V.env (eval o V.env) = eval o V.env := by rfl) (hline : (apos.endLine == pos.line) = true := by rfl) (hs : (e :: es).all (fun e => !isStar e) = true := by rfl) (hfew : (e :: es).length < 25 := by decide) :
    Ev Γ V ρ (.Call (.Attribute o (Str.ofString name) apos) (e :: es) [] pos) P X := fun Y ok φ s Q E S p => by
  have hform : ((backTo pos (starEach (e :: es) V.env)).all (fun x => !x.1) && (backToKw pos (keywordEach [] V.env)).all (fun x => x.1.isSome) && decide ((e :: es).length + ([] : List Keyword).length + (if ([] : List Keyword).isEmpty then 0 else 1) < 30)) = true := by
    have h1 := backTo_plain (pos := pos) (env := V.env) hs
    have h2 : (backTo pos (starEach (e :: es) V.env)).all (fun x => !x.1) = true := by
      rw [List.all_eq_true]
      intro q hq
      cases e' : q.1 with
      | false => rfl
      | true =>
        have : (backTo pos (starEach (e :: es) V.env)).any (·.1) = true := List.any_eq_true.mpr ⟨q, hq, e'⟩
        rw [h1] at this
        cases this
    have h3 : decide ((e :: es).length + ([] : List Keyword).length + (if ([] : List Keyword).isEmpty then 0 else 1) < 30) = true := decide_eq_true (by
      have : (if ([] : List Keyword).isEmpty then 0 else 1) = 0 := rfl
      rw [this, List.length_nil]
      omega)
    rw [h2, h3]
    rfl
  refine wpAny_Call_method_lateS hb hform hline (h Y ok φ s _ E S ⟨fun x vx ρ₁ φ₁ s₁ hx rx n₁ => ?_, p.er⟩)
  obtain ⟨hT, he⟩ := hx
  obtain ⟨t1, t2⟩ := typeName_is (s := s₁) hT rx
  refine ⟨T, id, pa, slot, ty, t1, fun a q => absurd q (t2 a), ?_⟩
  have sp := spliced_sound (pos := pos) ok (e :: es) ρ₁ _ φ₁ s₁ (fun vs s' => wpAny (model Γ.prog Γ.w) V.A (call (.builtin id) ([vx] ++ vs)) Q E s') hs he n₁.2.2 (fun l vs ρ₂ φ₂ s₂ hy ry n₂ => ?_) fun x e ρ' φ' s' a b c => p.er x e ρ' φ' s' a b (n₁.trans c)
  · have hs' := hs
    simp only [List.all_cons, Bool.and_eq_true, Bool.not_eq_true'] at hs'
    refine callWith_of (P := fun _ => True) (by rw [backTo_plain hs]; rfl) (fun h _ => ⟨.machine, .inr (.inl rfl), Looks.of_pure (keeper_plain rfl)⟩) ?_
    rw [starEach_cons hs'.1] at sp ⊢
    exact evalArgs_plain (wpAny_mono sp (fun _ _ z => ⟨trivial, z⟩) fun _ _ z => z)
  · obtain ⟨P', hspec, himp⟩ := hy
    refine hspec V.A φ₂ s₂ Q E _ ⟨vx, vs, rfl, rx.mono n₂.2.1, ry⟩ fun v val tk hv hr => ?_
    exact p.ok v val ρ₂ φ₂ _ (himp v hv) hr ((n₁.trans n₂).trans (.of n₂.2.2 tk))

/-- a format of a written text and a tuple -/
theorem ev_pct {f : Str} {k kt : Nat} {fpos tpos pos : Pos} {e : Expr} {es : List Expr} {P : PV → Rho → Prop}
    (h : Evs Γ V X (e :: es) ρ (fun l ρ' => l.length ≤ 100 ∧ ∀ (φ : PH) (vs : List Value) (b : Addr) (t : Tok), Reps φ l vs → ∃ r : List Nat, Meets («str.__mod__» ⟨[.str f t, .ref b], []⟩) (fun _ R s => IsTup s.heap b vs.toArray ∧ ∀ t' k, R (.ok (.ret (.str ⟨r.toArray⟩ t'))) { s with toks := k }) ∧ P (.str r) ρ'))
    (hs : (e :: es).all (fun e => !isStar e) = true := by rfl) : Ev Γ V ρ (.BinOp (.Constant (.str f) k fpos) .Mod (.Tuple (e :: es) kt tpos) pos) P X := fun Y ok φ s Q E S p => by
  refine wpAny_BinOp (Constant_str (Tuple_ ?_))
  have n0 : Nx Y φ ρ φ s { s with toks := s.toks + 1 } := .of S _
  refine spliced_sound (pos := tpos) ok (e :: es) ρ _ φ _ _ hs h n0.2.2 (fun l vs ρ' φ' s' hy ry n₂ => ?_) fun x e ρ' φ' s' a b c => p.er x e ρ' φ' s' a b (n0.trans c)
  obtain ⟨hl, hy⟩ := hy
  obtain ⟨r, hm, hp⟩ := hy φ' vs s'.heap.objs.size s.toks ry
  unfold newTuple
  refine wpAny_newObj_type ?_ ?_
  · have hT : IsTup ((s'.heap.push { cls := .type "tuple", data := .seq vs.toArray }) : Heap) s'.heap.objs.size vs.toArray := ⟨_, Heap.get?_push_size _ rfl, rfl, _, rfl⟩
    have hTy : ({ s' with heap := s'.heap.push { cls := .type "tuple", data := .seq vs.toArray } } : Shared).TypeIs (.ref s'.heap.objs.size) "tuple" := ⟨_, Heap.get?_push_size _ rfl, rfl⟩
    refine KPt.bin_left (T := "str") (U := "tuple") (op := .Mod) (by decide) (typeIs_str _ f s.toks) hTy F.fills_str_mod KPt.fills_tuple F.slot_str_mod
      (call_meets F.slot_str_mod (typeIs_str _ f s.toks) F.entry_str_mod (F.args_str_mod_2 _ _) hm ⟨hT, fun t' k => ⟨(fun e => nomatch e), ?_⟩⟩)
    exact p.ok _ _ ρ' φ' _ hp ⟨t', rfl⟩ ((n0.trans n₂).trans ⟨⟨_, k, rfl⟩, .refl _, n₂.2.2.push _⟩)
  · show vs.toArray.size ≤ sizeLine
    rw [List.size_toArray, ry.length, line_is]
    omega
end
end Mine
set_option Elab.async false
set_option maxRecDepth 100000
set_option linter.unusedVariables false
namespace Mine
open PySem PySem.W PySem.Calls PySem.Spec PyProof.Rows

theorem slot_wd_get : PySem.Slot "wrapper_descriptor" "__get__" "wrapper_descriptor.__get__" :=
  .of (owner := "wrapper_descriptor") (n := "__get__") (by rw [typeLookup_type, builtinLookup_eq_fast]; kernel_rfl) (by decide +kernel) (by decide +kernel) (by decide +kernel)
    (by first | exact .inl (by decide +kernel) | exact .inr (by decide +kernel)) (by rw [isSubtype_type]; kernel_rfl)
theorem entry_wd_get : entryFor table "wrapper_descriptor.__get__" = some Builtin.«wrapper_descriptor.__get__» := entryFor_of_tree (by kernel_rfl)
theorem args_wd_get (a b c : Value) : argsOk "wrapper_descriptor.__get__" ⟨[a, b, c], []⟩ := by unfold argsOk; kernel_rfl
theorem type_xinit : typeOf (.builtin "Exception.__init__") = pure (.type "wrapper_descriptor") := by show builtinType _ = _; rw [builtinType_eq_fast]; kernel_rfl
noncomputable abbrev wrapObj (x : Addr) : Obj := { cls := .type "method-wrapper", data := .fields #[.builtin "Exception.__init__", .ref x] }

section
variable {prog : Program} {w : World} {M : Model} {A : Around} {E : Value → Shared → Prop} {h : Heap} {g : Array GenState} {d : Drawn} {t : Nat} {os : OsState}
theorem wd_get {x : Addr} {Q : Fin → Shared → Prop} (hx : Looks (model prog w) h (isInstance (.ref x) (.type "Exception")) true) (hq : Q (.done (.ret (.ref h.objs.size))) ⟨h.push (wrapObj x), g, d, t, os⟩) :
    wpAny (model prog w) A (Builtin.«wrapper_descriptor.__get__» ⟨[.builtin "Exception.__init__", .ref x, .ref 53], []⟩) Q E ⟨h, g, d, t, os⟩ := by
  unfold Builtin.«wrapper_descriptor.__get__»
  refine wpAny_bind (wpAny_of_eq (a := (.builtin "Exception.__init__", some (.ref x), some (.ref 53))) (by kernel_rfl) ?_)
  refine wpAny_bind (wpAny_bind (wpAny_of_eq (a := (Str.ofString "__init__", .type "Exception")) (by kernel_rfl) ?_))
  refine wpAny_bind (hx.at ?_)
  refine wpAny_pure ?_
  unfold newFields
  refine wpAny_bind (wpAny_newObj_type ?_)
  exact wpAny_pure hq

theorem super_ga {so x : Addr} {l₀ l : List Value} {K : Frag} {tk : Tok} {Q : Fin → Shared → Prop}
    (hso : h.get? so = some (ks_superObj 53 x 53)) (hno : Looks (model prog w) h (opaqueClassAbove (.ref 53)) none) (hC : Looks (model prog w) h (mroOf (.ref 53)) l₀) (hl : (l₀.dropWhile (· != .ref 53)).drop 1 = l) (X : K.In h)
    (hf : alongIn K "__init__" l = some (some (.builtin "Exception.__init__"))) (hx : Looks (model prog w) h (isInstance (.ref x) (.type "Exception")) true) (hxC : x ≠ 53)
    (hq : Q (.done (.ret (.ref h.objs.size))) ⟨h.push (wrapObj x), g, d, t, os⟩) :
    wpAny (model prog w) A (Builtin.«super.__getattribute__» ⟨[.ref so, .str "__init__" tk], []⟩) Q E ⟨h, g, d, t, os⟩ := by
  have hlk := slot_wd_get.lookup
  have hty := type_xinit
  have hn : (("__init__" : Str) == ("__class__" : Str)) = false := by decide +kernel
  have hne : (Value.ref x == Value.ref 53) = false := by simp [hxC]
  have hT : (⟨h, g, d, t, os⟩ : Shared).TypeIs (.builtin "Exception.__init__") "wrapper_descriptor" := type_xinit
  have hdt : (ks_superObj 53 x 53).data = .fields #[.ref 53, .ref x, .ref 53] := rfl
  have f0 : (#[.ref 53, .ref x, .ref 53] : Array Value)[0]? = some (.ref 53) := rfl
  have f1 : (#[.ref 53, .ref x, .ref 53] : Array Value)[1]? = some (.ref x) := rfl
  have f2 : (#[.ref 53, .ref x, .ref 53] : Array Value)[2]? = some (.ref 53) := rfl
  unfold Builtin.«super.__getattribute__»
  repeat (first
    | (with_reducible refine wpAny_field hso hdt f0 ?_) | (with_reducible refine wpAny_field hso hdt f1 ?_) | (with_reducible refine wpAny_field hso hdt f2 ?_)
    | (with_reducible refine ks_wpAny_notOpaque hno ?_)
    | (with_reducible refine Looks.at hC ?_; rw [hl])
    | (refine ks_forIn_along X (fun _ _ => rfl) rfl ?_ hf)
    | (with_reducible refine wpAny_typeOf hT ?_)
    | (with_reducible refine wpAny_call_entry slot_wd_get hT entry_wd_get ?_ (args_wd_get _ _ _))
    | (with_reducible refine wd_get hx ?_)
    | (with_reducible refine ⟨_, rfl, ?_⟩)
    | (simp only [hn, hne, Bool.or_false, Bool.false_eq_true, if_false])
    | wp_step
    | dsimp only)
  all_goals exact hq

theorem super_method {so x : Addr} {l₀ l : List Value} {K : Frag} {pl : Sem Bool} {Q : Value × List Value → Shared → Prop}
    (hso : h.get? so = some (ks_superObj 53 x 53)) (hno : Looks (model prog w) h (opaqueClassAbove (.ref 53)) none) (hC : Looks (model prog w) h (mroOf (.ref 53)) l₀) (hl : (l₀.dropWhile (· != .ref 53)).drop 1 = l) (X : K.In h)
    (hf : alongIn K "__init__" l = some (some (.builtin "Exception.__init__"))) (hx : Looks (model prog w) h (isInstance (.ref x) (.type "Exception")) true) (hxC : x ≠ 53)
    (hq : Q (.ref h.objs.size, []) ⟨h.push (wrapObj x), g, d, t + 1, os⟩) : wpAny (model prog w) A (getMethod (.ref so) "__init__" pl) Q E ⟨h, g, d, t, os⟩ := by
  have hlk := F.ks_slot_super_ga.lookup
  have hcan := F.ks_canon_super_ga
  have hT : ∀ t', (⟨h, g, d, t', os⟩ : Shared).TypeIs (.ref so) "super" := fun _ => ⟨_, hso, rfl⟩
  unfold getMethod
  refine wpAny_bind (wpAny_specialOf (hT _) hlk ?_)
  show wpAny _ _ (if (Manifest.canonical "super.__getattribute__" != "object.__getattribute__") = true then _ else _) _ _ _
  rw [if_pos hcan]
  unfold getAttr getAttrBy
  refine wpAny_bind (wpAny_bind (wpAny_mkText (wpAny_holding (wpAny_bind (wpAny_typeOf (hT _) (wpAny_bind (wpAny_of_eq hlk ?_)))))))
  show wpAny _ _ (getAttrByItsOwn (.ref so) (.str "__init__" t) (.type "super") (.builtin "super.__getattribute__") true false) _ _ _
  unfold getAttrByItsOwn hookBefore callGetattribute boundAndCalled
  refine wpAny_bind (wpAny_of_eq (show (if onTheHeap (.type "super") then typeLookup (.type "super") "__getattr__" else pure none) = pure none from rfl) ?_)
  refine wpAny_bind (wpAny_attempt (wpAny_holding ?_))
  show wpAny _ _ (bindSpecial (.builtin "super.__getattribute__") (.ref so) >>= _) _ _ _
  refine wpAny_bind (wpAny_of_eq (F.ks_slot_super_ga.bind _) ?_)
  refine wpAny_mono (Q := fun v s' => v = .ref h.objs.size ∧ s' = ⟨h.push (wrapObj x), g, d, t + 1, os⟩) (E := fun _ _ => False)
    (wpAny_call_entry F.ks_slot_super_ga (hT _) F.ks_entry_super_ga (super_ga hso hno hC hl X hf hx hxC ⟨_, rfl, rfl, rfl⟩) (F.ks_gaArgs_super _ _)) (fun v s' hv => ?_) fun _ _ z => z.elim
  obtain ⟨rfl, rfl⟩ := hv
  exact wpAny_pure (wpAny_pure hq)

theorem wrap_call {q x : Addr} {ox : Obj} {vs : Array Value} {v : Value} {Q : Value → Shared → Prop} (hq : h.get? q = some (wrapObj x)) (hx : h.get? x = some ox) (hc : ox.cls = .ref 53) {oC : Obj} {cd : ClassData} (hC : h.get? 53 = some oC) (hCd : oC.data = .cls cd) (hd : ox.data = .fields vs) (hsz : 0 < vs.size)
    (k : ∀ h' tv, (∀ b o, b ≠ x → h.get? b = some o → h'.get? b = some o) → h'.get? x = some { ox with data := .fields (vs.setIfInBounds 0 tv) } → Q .none ⟨h', g, d, t, os⟩) : wpAny (model prog w) A (call (.ref q) [v]) Q E ⟨h, g, d, t, os⟩ := by
  have F := PySem.F.excCall_Exception
  refine wpAny_call (codeAny_of_tree ?_)
  show wpAny _ A.in1 (callAny (.ref q) ⟨[v], []⟩) _ _ _
  unfold callAny
  refine wpAny_bind (wpAny_load hq ?_)
  show wpAny _ _ (checkBoundCall "Exception.__init__" ⟨[.ref x, v], []⟩ >>= _) _ _ _
  have hshort := F.noStar
  refine wpAny_bind ?_
  unfold checkBoundCall
  simp only [F.initRow, F.initKind]
  repeat wp_step
  rw [hc]
  dsimp only
  refine wpAny_bind ?_
  unfold classData
  refine wpAny_bind (wpAny_load hC ?_)
  rw [hCd]
  refine wpAny_pure (wpAny_pure (wpAny_pure ?_))
  refine wpAny_bind ?_
  repeat wp_step
  refine ⟨Code.quiet_builtin _ (by decide +kernel), codeAny_builtin F.initEntry ?_⟩
  obtain ⟨tv, rest, rfl⟩ : ∃ tv rest, vs = (⟨tv :: rest⟩ : Array Value) := by
    obtain ⟨l⟩ := vs
    cases l with
    | nil => simp at hsz
    | cons a b => exact ⟨a, b, rfl⟩
  have hxx := hx
  unfold Builtin.«BaseException.__init__»
  dsimp only
  repeat wp_step
  rw [hd]
  refine wpAny_pure ?_
  refine wpAny_pure ?_
  have hx1 : (h.push { cls := Value.type "tuple", data := Data.seq #[v] }).get? x = some ox := Heap.get?_push_of_some _ hx
  have key : Q .none ⟨(h.push { cls := Value.type "tuple", data := Data.seq #[v] }).update x (Obj.mapFields (·.setIfInBounds 0 (.ref h.objs.size))), g, d, t, os⟩ := by
    refine k _ (.ref h.objs.size) (fun b o hb hbo => ?_) ?_
    · rw [Heap.get?_update_other _ _ (fun e => hb e.symm)]
      exact Heap.get?_push_of_some _ hbo
    · have e : Obj.mapFields (·.setIfInBounds 0 (.ref h.objs.size)) ox = { ox with data := .fields ((⟨tv :: rest⟩ : Array Value).setIfInBounds 0 (.ref h.objs.size)) } := by
        obtain ⟨c0, d0, dat0, sl0⟩ := ox
        dsimp only at hd
        subst hd
        rfl
      rw [Heap.get?_update_self _ hx1 (by rw [e]; rfl), e]
  refine wpAny_bind (wpAny_setField (s := ⟨_, g, d, t, os⟩) hx1 hd hsz ?_)
  cases tv with
  | ref a => exact wpAny_letGo (wpAny_pure key)
  | _ => exact wpAny_pure (wpAny_pure key)
end
end Mine
set_option Elab.async false
set_option maxRecDepth 100000
set_option linter.unusedVariables false
namespace Mine
open PySem PySem.W PySem.Calls PySem.Spec PyProof.Rows

theorem keeps_wrap {M : Model} {q x : Addr} (h : Heap) (X : h.get? q = some (wrapObj x)) : ∃ k, (k = Keeper.frame ∨ k = Keeper.machine ∨ k = Keeper.boundFrame) ∧ Looks M h (keeperOf (.ref q)) k :=
  ⟨.machine, .inr (.inl rfl), fun A Q E s k hq => by
    unfold keeperOf
    exact wpAny_bind (wpAny_load (k _ _ X) (wpAny_pure hq))⟩

/-- what `super()` in a method of the class at 53 leans on -/
structure SuperOk (Γ : Gx) (fd : FuncData) (f cda cc : Addr) : Prop where
  fn : ∃ oc od osl, Γ.K.lookup f = some ⟨oc, od, .func fd, osl⟩
  par : (fd.params.posonlyargs ++ fd.params.args).head?.map (·.arg) = some "self"
  code : ∃ vs ccl cdd ccs file tf, Γ.K.lookup cda = some ⟨ccl, cdd, .fields vs, ccs⟩ ∧ vs[2]? = some (.str file tf) ∧ ((Γ.prog.main.file : Str) == file) = true
  cell : ∃ cl cld csl, Γ.K.lookup cc = some ⟨cl, cld, .cell (some (.ref 53)), csl⟩
  sub : mroIn Γ.K 53 (.ref 53) = some true
  exc : mroIn Γ.K 53 (.type "Exception") = some true
  sup : ks_superIn Γ.K 53 53 "__init__" = some (some (.builtin "Exception.__init__"))
  opq : nsIn Γ.K cStatics "thirdparty.any" = some none
  name : NameIs Γ "super" (.type "super")
  top : (Γ.prog.main.scope.names.lookup ("super" : Str)).isSome = false

section
variable {Γ : Gx} {V : Va} {ρ : Rho} {X : Exn → Rho → Prop}
theorem super_init {Y : Lo} (ok : Ok Γ V Y) {φ : PH} {s : Shared} {Q : Flow → Shared → Prop} {E : Value → Shared → Prop} {fd : FuncData} {f cda cc e d : Addr} {fs : Fs} {v : PV} {pl : Sem Bool} {body : List Stmt} {p0 p1 apos pn cpos ep : Pos} (hS : SuperOk Γ fd f cda cc)
    (S : St Y ρ φ s.heap) (hg : get "self" ρ = some (.exc true e (some d) fs)) (hv : get "msg" ρ = some (.val v)) (hst : V.st = true) (hfu : V.env.func = some f) (hco : V.env.code = .ref cda) (hcc : V.env.cells.lookup ("__class__" : Str) = some cc)
    (hks : V.env.kindOf "super" = some .globalImplicit) (hkc : V.env.kindOf "__class__" = some .free) (hks1 : V.env.kindOf (Str.ofString "self") = some .local)
    (h : ∀ s', Nx Y φ (upd "self" (.exc true e (some d) fs) ρ) φ s s' → Q .next s')
    (hi : interactive V.env = false := by rfl) (hsw : swapsWith (.Call (.Attribute (.Call (.Name "super" p0) [] [] p1) "__init__" apos) [.Name (Str.ofString "msg") pn] [] cpos) none ep.line V.env = pure false := by rfl) (hhe : eval (.Call (.Attribute (.Call (.Name "super" p0) [] [] p1) "__init__" apos) [.Name (Str.ofString "msg") pn] [] cpos) V.env = (do
      let ov ← attributeBase (.Call (.Name "super" p0) [] [] p1) "__init__" V.env (eval (.Call (.Name "super" p0) [] [] p1) V.env)
      standAt apos.atName
      let (f, first) ← holding [ov] (getMethod ov "__init__" pl)
      callWith cpos f first (backTo cpos (starEach [.Name (Str.ofString "msg") pn] V.env)) []) := by rfl) :
    PySem.wpAt (model Γ.prog Γ.w) V.A (.func body V.env) (exec (.Expr (.Call (.Attribute (.Call (.Name "super" p0) [] [] p1) "__init__" apos) [.Name (Str.ofString "msg") pn] [] cpos) ep) V.env) Q E s := by
  obtain ⟨oc, od, osl, ho⟩ := hS.fn
  obtain ⟨cvs, ccl, cdd, ccs, file, tf, hcd, hc2, hfile⟩ := hS.code
  obtain ⟨cl, cld, csl, hcell⟩ := hS.cell
  have X₀ := Γ.kin.keeps (S.base ok)
  obtain ⟨cd, hcl, hso⟩ : ∃ cd, clsIn Γ.K 53 = some cd ∧ alongIn Γ.K "__init__" ((cd.mro.dropWhile (· != .ref 53)).drop 1) = some (some (.builtin "Exception.__init__")) := by
    have := hS.sup
    unfold ks_superIn at this
    cases z : clsIn Γ.K 53 with
    | none => rw [z] at this; cases this
    | some cd => rw [z] at this; exact ⟨cd, rfl, this⟩
  obtain ⟨oD, hD1, hD2⟩ : ∃ oD, Γ.hB.get? 53 = some oD ∧ oD.data = .cls cd := by
    unfold clsIn at hcl
    split at hcl
    · rename_i c d cd' sl ho
      cases hcl
      exact ⟨_, Γ.kin _ _ ho, rfl⟩
    · cases hcl
  obtain ⟨ar, hpar, har⟩ : ∃ ar, (fd.params.posonlyargs ++ fd.params.args).head? = some ar ∧ ar.arg = Str.ofString "self" := by
    have := hS.par
    cases z : (fd.params.posonlyargs ++ fd.params.args).head? with
    | none => rw [z] at this; cases this
    | some ar => rw [z] at this; exact ⟨ar, rfl, Option.some.inj this⟩
  refine ks_wpAt_Expr_any ?_ hi hsw
  refine ks_wpAt_MethodCall ?_ hhe
  refine ks_wpAt_super_base hks hkc (by decide +kernel) hfu (X₀ _ _ ho) rfl hpar hco (X₀ _ _ hcd) rfl hc2 hfile hS.top ?_
  have k0 := S.base ok
  have gg : s.heap.Ns V.env.globals Γ.mg := by rw [ok.glb]; exact Γ.top.g.keeps k0
  have gb : s.heap.Ns V.env.builtins Γ.mb := by rw [ok.bns]; exact Γ.top.b.keeps k0
  obtain ⟨m, hn, hvs⟩ := S.vars
  obtain ⟨w1, hw1, rfl, vs, hge, hsz, hraw, es, n0, hgd, hfs⟩ := hvs "self" _ (mem_of_get hg)
  rw [ok.ee] at hn hw1
  obtain ⟨hp, g0, d0, tk0, os0⟩ := s
  dsimp only at S X₀ k0 gg gb hge hgd hn hw1 hvs h ⊢
  have lself : ∀ {Q : Value → Shared → Prop}, Q (.ref e) ⟨hp, g0, d0, tk0, os0⟩ → wpAny (model Γ.prog Γ.w) V.A (loadName V.env (Str.ofString "self")) Q E ⟨hp, g0, d0, tk0, os0⟩ := fun {Q} q => load_rule ok.fk hn hw1 q (by decide +kernel)
  have fin : wpAny (model Γ.prog Γ.w) V.A (loadName V.env "__class__") (fun cls s₂ => wpAny (model Γ.prog Γ.w) V.A (loadName V.env ar.arg) (fun self s₃ => wpAny (model Γ.prog Γ.w) V.A (isType cls) (fun b s₄ => b = true ∧ wpAny (model Γ.prog Γ.w) V.A (call (.type "super") [cls, self]) (fun ov s₁ => wpAny (model Γ.prog Γ.w) V.A (getMethod ov "__init__" pl) (fun fx s₂ => wpAny (model Γ.prog Γ.w) V.A (callWith cpos fx.1 fx.2 (backTo cpos (starEach [.Name (Str.ofString "msg") pn] V.env)) []) (fun _ => Q .next) E s₂) E s₁) E s₄) E s₃) E s₂) E ⟨hp, g0, d0, tk0, os0⟩ := by
    refine wpAny_loadName_free ok.fk hkc hcc ⟨_, X₀ _ _ hcell, rfl⟩ ?_
    rw [har]
    refine lself ?_
    refine ks_wpAny_isType_cls (k0 _ _ hD1) hD2 ⟨rfl, ?_⟩
    refine ks_wpAny_call_super (C := 53) (k0 _ _ hD1) hD2 hge rfl (fun c q => by cases q) (looks_mroIn X₀ hS.sub) fun h1 hso1 k1 => ?_
    have S1 : St Y ρ φ h1 := S.keeps k1
    have X1 := Γ.kin.keeps (S1.base ok)
    have hge1 := k1 _ _ hge
    refine super_method hso1 (looks_opaque X1 hS.opq) (l₀ := cd.mro) (fun A Q E s k q => wpAny_bind ((looks_clsIn X1 hcl) A _ E s k (wpAny_pure q))) rfl X1 hso (fun A Q E s k q => ?_) (fun q => ?_) ?_
    · unfold isInstance
      refine wpAny_bind ?_
      have hge9 := k _ _ hge1
      obtain ⟨hp9, g9, d9, tk9, os9⟩ := s
      refine wpAny_bind (wpAny_load hge9 (wpAny_pure ?_))
      exact looks_mroIn X1 hS.exc A Q E _ k q
    · rw [q] at hge
      rw [k0 _ _ hD1] at hge
      cases hge
      cases hD2
    · have S2 : St Y ρ φ (h1.push (wrapObj e)) := S1.push _
      have hq2 : (h1.push (wrapObj e)).get? h1.objs.size = some (wrapObj e) := Heap.get?_push_size _ rfl
      have hge2 : (h1.push (wrapObj e)).get? e = some (excObj (some d) vs) := Heap.get?_push_of_some _ hge1
      refine callWith_of (P := fun h => h.get? h1.objs.size = some (wrapObj e)) (by rw [backTo_plain rfl]; rfl) (fun h X => keeps_wrap h X) ?_
      rw [starEach_cons rfl]
      refine evalArgs_plain ?_
      obtain ⟨m2, hn2, hvs2⟩ := S2.vars
      obtain ⟨w2, hw2, hr2⟩ := hvs2 "msg" _ (mem_of_get hv)
      rw [ok.ee] at hn2 hw2
      refine spliced_cons (wpAny_Name (load_rule ok.fk hn2 hw2 ?_ (by decide +kernel)) (by decide +kernel))
      refine spliced_nil ⟨hq2, ?_⟩
      refine wrap_call hq2 hge2 rfl (Γ.kin.keeps (S2.base ok) |> fun _ => S2.base ok _ _ hD1) hD2 rfl (by omega) fun h3 tv k3 hge3 => ?_
      refine h _ ⟨⟨h3, _, rfl⟩, .refl _, ?_⟩
      have hem : e ∈ foot ρ := foot_mem (mem_of_get hg) (.head _)
      have hnd := List.nodup_append.mp S2.apart
      refine S2.moved (fr := []) (as := [e]) (fun _ q => nomatch q) (locals_lw ok hst) (cells_lw ok hst) (fun b hb => by rw [List.mem_singleton.mp hb]; exact hem) (fun b o _ hb q => k3 b o (fun z => hb (by rw [z]; exact .head _)) q) (fun _ _ q => nomatch q) (fun b hb => by rw [List.mem_singleton.mp hb]; exact ⟨_, hge3⟩) (.refl _) (fun b o q => ?_) (fun b o q => .inl q) (foot_upd_same (s := .exc true e (some d) fs) rfl hg) (fun y sl hy => ?_) (fun y b l hy => ?_)
      · refine k3 b o (fun z => ?_) (S2.fz b o q)
        have := (S2.off e (List.mem_append_right _ hem)).2.1
        rw [← z, q] at this
        cases this
      · rcases mem_upd hy with ⟨rfl, rfl⟩ | ⟨ne, hy⟩
        · refine .inr ⟨_, mem_of_get hg, fun w hw => ?_⟩
          obtain ⟨rfl, vs5, h5, sz5, raw5, es5, n5, hd5, f5⟩ := hw
          have hev : vs5 = vs := by
            rw [hge2] at h5
            have := Option.some.inj h5
            simpa using (congrArg (fun o : Obj => match o.data with | .fields q => q | _ => #[]) this).symm
          subst hev
          refine ⟨rfl, _, hge3, by simpa using sz5, fun z => ?_, es5, n5, k3 d _ (fun z => ?_) hd5, f5⟩
          · obtain ⟨t5, rfl⟩ := raw5 z
            exact ⟨tv, rfl⟩
          · rw [z, hge2] at hd5; cases hd5
        · refine .inl ⟨hy, fun b hb q => ?_⟩
          rw [List.mem_singleton.mp q] at hb
          have hoff := foot_upd_off (v := .none) hg (a := e) (.head _) hnd.2.1
          exact hoff ((foot_del_upd "self" .none ρ).subset (foot_mem (mem_del_of ne hy) hb))
      · rcases mem_upd hy with ⟨_, q⟩ | ⟨_, hy⟩
        · cases q
        · exact S2.ob _ _ _ hy
  rcases hS.name with z | ⟨z, hb, hnn⟩
  · exact ks_loadName_global ok.fk hks (loadGlobal_global gg (mg_of Γ.kin Γ.top.g z) ⟨rfl, fin⟩)
  · exact ks_loadName_global ok.fk hks (loadGlobal_builtin gg (mg_none_of Γ.kin Γ.top.g z) gb ((Γ.top.builtins _ hnn).trans hb) ⟨rfl, fin⟩)
end
end Mine
set_option Elab.async false
set_option maxRecDepth 100000
set_option linter.unusedVariables false
namespace Mine
open PySem PySem.W PySem.Calls PySem.Spec PyProof.Rows

theorem execs_append {env : Env} : ∀ (pre rest : List Stmt), execs (pre ++ rest) env = (execs pre env >>= fun f => match f with | .next => execs rest env | f => pure f)
  | [], rest => by rw [List.nil_append, execs_nil, pure_bind]
  | st :: pre, rest => by
    rw [List.cons_append, execs_cons, execs_cons, execs_append pre rest, bind_assoc]
    congr 1
    funext f
    cases f <;> simp

theorem lookup_mem_keys : ∀ {cs : List (Str × Value)} {n : Str} {c : Value}, (cs.map (·.1)).Nodup → (n, c) ∈ cs → cs.lookup n = some c
  | (m, v) :: r, n, c, hn, h => by
    rw [List.map_cons, List.nodup_cons] at hn
    rcases List.mem_cons.mp h with e | h
    · cases e
      rw [List.lookup_cons]; simp
    · have : n ≠ m := fun q => hn.1 (List.mem_map.mpr ⟨_, h, q⟩)
      rw [List.lookup_cons]
      have : (n == m) = false := by simpa using this
      rw [this]
      exact lookup_mem_keys hn.2 h
theorem get_updS {x : String} {s : Slot} : ∀ {ρ : Rho}, get x (upd x s ρ) = some s
  | [] => by simp [upd, get]
  | (y, t) :: r => by
    unfold upd
    split
    · simp [get]
    · rename_i ne
      unfold get
      rw [if_neg ne]
      exact get_updS

/-- what the class's `__init__` does to a new exception -/
noncomputable def XSpec (Γ : Gx) (f : Addr) (d : Nat) (vs : List PV) (P : Fs → Prop) : Prop :=
  ∀ (A : Around) (φ : PH) (s : Shared) (R : Result → Shared → Prop) (ws : List Value) (outer : List Env) (e : Addr) (raw : Array Value), Hand A s.heap → A.handled ≠ some (.ref e) → A.depth + (d + 1) ≤ 700 → A.units + 10 * (d + 1) ≤ 5000 → A.frames = some outer → s.heap.FunFrames Γ.hB outer →
    (∀ b o, Γ.hB.get? b = some o → s.heap.get? b = some o) → (∀ b o, φ b = some o → s.heap.get? b = some o) → (∀ b ∈ frOf outer, φ b = none) → Reps φ vs ws →
    s.heap.get? e = some (excObj none raw) → raw.size = 6 → RawF raw → φ e = none → e ∉ frOf outer → Γ.hB.get? e = none →
    (∀ φ' h' tk dd fs, P fs → SlotRep φ' h' (.exc true e (some dd) fs) (.ref e) → s.heap.get? dd = none → φ' dd = none → Kept s.heap h' φ φ' (frOf outer) [e] → R (.ok (.ret .none)) { s with heap := h', toks := tk }) →
    codeAny (model Γ.prog Γ.w) A (.call (.ref f) ⟨.ref e :: ws, []⟩) R s

theorem vals_foot : ∀ l : List PV, (l.map Slot.val).flatMap foot1 = []
  | [] => rfl
  | x :: r => by rw [List.map_cons, List.flatMap_cons, vals_foot r]; rfl

theorem x_of_body {Γ : Gx} {f cda cc : Addr} {d : Nat} {names : List String} {vs : List PV} {P : Fs → Prop} {fd : FuncData} {pl : Addr → Sem Bool} {pre : List Stmt} {p0 p1 apos pn cpos ep : Pos} {oc : Value} {od : Option Addr} {osl : Array (Option Value)} (hS : SuperOk Γ fd f cda cc)
    (ho : Γ.K.lookup f = some ⟨oc, od, .func fd, osl⟩) (hcd : codeIn Γ.K fd.code fd.qualname = true) (hcode : fd.code = .ref cda)
    (hbody : fd.body = .stmts (pre ++ [.Expr (.Call (.Attribute (.Call (.Name "super" p0) [] [] p1) "__init__" apos) [.Name (Str.ofString "msg") pn] [] cpos) ep])) (hclo : fd.closure = [(("__class__" : Str), cc)])
    (hglob : fd.globals = mainGlobals) (hblt : fd.builtins = builtinsNs) (hco : fd.scope.isCoroutine = false) (hgen : fd.scope.isGenerator = false) (hk : fd.scope.kind = .function)
    (hbind : ∀ ws : List Value, ws.length = names.length → ∀ S, peek Γ.K S (bindArgs fd ⟨ws, []⟩) = some ((names.map Str.ofString).zip ws))
    (hkinds : (names.all fun x => fd.scope.names.lookup (Str.ofString x) == some .local) = true) (hnocell : ∀ x ∈ fd.scope.names, x.2 ≠ .cell) (hself : names.head? = some "self")
    (hfree : fd.scope.names.lookup ("__class__" : Str) = some .free) (hsuper : fd.scope.names.lookup ("super" : Str) = some .globalImplicit)
    (hnd : names.Nodup) (hlen : 1 + vs.length = names.length)
    (h : ∀ (A : Around) (L e : Addr) (hm : Bool) (hd : Option Addr), (hm = false ∨ hd.isSome = true) → Ex Γ ⟨A, callEnv fd L f, [L], true, d, true, hm, hd⟩ (names.zip (.exc true e none [] :: vs.map .val)) pre (fun o => match o with | .next ρ => ∃ v dd fs, get "msg" ρ = some (.val v) ∧ get "self" ρ = some (.exc true e (some dd) fs) ∧ P fs | _ => False) nothing)
    (hi : ∀ L, interactive (callEnv fd L f) = false) (hsw : ∀ L, swapsWith (.Call (.Attribute (.Call (.Name "super" p0) [] [] p1) "__init__" apos) [.Name (Str.ofString "msg") pn] [] cpos) none ep.line (callEnv fd L f) = pure false)
    (hhe : ∀ L, eval (.Call (.Attribute (.Call (.Name "super" p0) [] [] p1) "__init__" apos) [.Name (Str.ofString "msg") pn] [] cpos) (callEnv fd L f) = (do
      let ov ← attributeBase (.Call (.Name "super" p0) [] [] p1) "__init__" (callEnv fd L f) (eval (.Call (.Name "super" p0) [] [] p1) (callEnv fd L f))
      standAt apos.atName
      let (fn, first) ← holding [ov] (getMethod ov "__init__" (pl L))
      callWith cpos fn first (backTo cpos (starEach [.Name (Str.ofString "msg") pn] (callEnv fd L f))) [])) :
    XSpec Γ f d vs P := by
  intro A φ s R ws₀ outer e raw hH hne hd hu hfs hff hB hφ hφf hr₀ hge hsz hraw hφe hef hBe k
  have hr : SlotsRep φ s.heap (.exc true e none [] :: vs.map .val) (.ref e :: ws₀) := ⟨_, _, rfl, ⟨rfl, raw, hge, hsz, fun _ => hraw, rfl⟩, SlotsRep.of_reps hr₀⟩
  have hssl : names.length = (Slot.exc true e none [] :: vs.map Slot.val).length := by rw [List.length_cons, List.length_map, ← hlen]; omega
  have hws : (Value.ref e :: ws₀).length = names.length := by rw [hr.length, hssl]
  have ho' := hB _ _ (Γ.kin _ _ ho)
  have hlim : s.heap.NoLimit := Γ.top.nolimit.keeps hB
  have hAd : A.depth < recursionLimit := by
    show A.depth < 1000
    omega
  have hlocal : ∀ x ∈ names, fd.scope.names.lookup (Str.ofString x) = some .local := fun x hx => by
    have := List.all_eq_true.mp hkinds x hx
    simpa using this
  have hkeys : (((names.map Str.ofString).zip (.ref e :: ws₀)).map (·.1)).Nodup := by
    rw [List.map_fst_zip (by simp [hws])]
    exact hnd.map _ fun a b ne e => ne (ofString_inj e)
  have hsn : "self" ∈ names := by
    cases names with
    | nil => cases hself
    | cons a r => cases hself; exact .head _
  refine ks_codeAny_call_defAt (fd := fd) (binds := (names.map Str.ofString).zip (.ref e :: ws₀)) hAd ho' rfl hlim (codeRec_of (Γ.kin.keeps hB) hcd) hbody (kp_binds (Γ.kin.keeps hB) (hbind _ hws)) hnocell (fun x hx => by
    obtain ⟨n, hn, q⟩ := List.mem_map.mp (List.of_mem_zip hx).1
    rw [← q]
    exact hlocal n hn) (fun h₁ hns hkeep => ?_) hco hgen hk
  have hfoot : (Slot.exc true e none [] :: vs.map Slot.val).flatMap foot1 = [e] := by
    rw [List.flatMap_cons, vals_foot]; rfl
  obtain ⟨hm, hdo, hdd, hh, hhd⟩ : ∃ (hm : Bool) (hdo : Option Addr), (hm = false ∨ hdo.isSome = true) ∧ (hm = false → A.handled = none) ∧ (∀ e', hdo = some e' → A.handled = some (.ref e') ∧ e' ∉ frOf outer ∧ e' ∉ (Slot.exc true e none [] :: vs.map Slot.val).flatMap foot1 ∧ ∃ o vs, s.heap.get? e' = some o ∧ o.data = .fields vs ∧ vs[2]? = some .none) := by
    rcases hH with q | ⟨e', o, us, q1, q2, q3, q4⟩
    · exact ⟨false, none, .inl rfl, fun _ => q, fun _ z => nomatch z⟩
    · refine ⟨true, some e', .inr rfl, (fun z => nomatch z), fun e'' z => ?_⟩
      cases z
      refine ⟨q1, fun z => ?_, fun z => ?_, o, us, q2, q3, q4⟩
      · obtain ⟨_, o', z1, z2⟩ := hff.mem z
        rw [q2] at z1
        cases z1
        exact z2 _ q3
      · rw [hfoot] at z
        rw [List.mem_singleton.mp z] at q1
        exact hne q1
  obtain ⟨Y, ok, S, hban, hκ, kept⟩ := frame_state (Γ := Γ) (hm := hm) (hd := hdo) (d := d) (A := A.deeper (callEnv fd s.heap.objs.size f)) (env := callEnv fd s.heap.objs.size f) (names := names) (slots := .exc true e none [] :: vs.map .val) (ws := .ref e :: ws₀)
    (lw := [s.heap.objs.size]) (φ := φ) (h₀ := s.heap) (h₁ := h₁)
    (Around.frames_deeper hfs) hff hB hφ hφf hkeep hk hglob hblt rfl hns
    (fun p hp => by
      obtain ⟨x, w⟩ := p
      have hm' : (Str.ofString x, w) ∈ (names.map Str.ofString).zip (.ref e :: ws₀) := by
        rw [List.zip_map_left]
        exact List.mem_map.mpr ⟨_, hp, rfl⟩
      refine .inl ⟨hlocal x (List.of_mem_zip hp).1, ?_⟩
      show List.lookup _ (List.reverse _) = _
      rw [lookup_reverse_of_nodup _ hkeys]
      exact lookup_mem_keys hkeys hm')
    (fun b hb => by
      rw [List.mem_singleton.mp hb]
      obtain ⟨o, _, _, q, _⟩ := hns
      exact ⟨none_at_end s.heap 0, o, q⟩) (by simp) (.head _)
    (fun x c q => by
      have q' : List.lookup x [(("__class__" : Str), cc)] = some c := by rw [← hclo]; exact q
      rw [List.lookup_cons] at q'
      split at q'
      · rename_i z
        cases q'
        obtain ⟨cl, cld, csl, hcell⟩ := hS.cell
        have z' : x = ("__class__" : Str) := by simpa using z
        refine ⟨⟨_, _, hkeep _ _ (hB _ _ (Γ.kin _ _ hcell)), rfl⟩, .inr ⟨?_, _, Γ.kin _ _ hcell⟩⟩
        rw [z']
        exact hfree
      · cases q')
    (fun x y c q q' => by
      have z : ∀ {x}, (callEnv fd s.heap.objs.size f).cells.lookup x = some c → x = ("__class__" : Str) := fun {x} q => by
        have q' : List.lookup x [(("__class__" : Str), cc)] = some c := by rw [← hclo]; exact q
        rw [List.lookup_cons] at q'
        split at q'
        · rename_i z; simpa using z
        · cases q'
      rw [z q, z q'])
    hr hssl (by rw [hfoot]; simp)
    (fun b hb => by
      rw [hfoot] at hb
      rw [List.mem_singleton.mp hb]
      exact ⟨hφe, hef, hBe⟩)
    (fun b l hm => by
      rcases List.mem_cons.mp hm with q | q
      · cases q
      · obtain ⟨v, _, z⟩ := List.mem_map.mp q
        cases z)
    hh (by show A.depth + 1 + d ≤ 700; omega) (by show A.units + 3 + 10 * d ≤ 5000; omega) hhd
  rw [hfoot] at kept hκ
  rw [execs_append]
  refine PySem.wpAt_bind (PySem.wpAt_of_wpAny ?_)
  refine h (A.deeper (callEnv fd s.heap.objs.size f)) s.heap.objs.size e hm hdo hdd Y ok φ _ _ _ PassesAll.leaving S ⟨fun ρ' φ' s' a n => ?_, fun ρ' φ' s' a n => a.elim, fun ρ' φ' s' a n => a.elim, fun v val ρ' φ' s' a b n => a.elim, fun x e ρ' φ' s' hX hx n => hX.elim⟩
  obtain ⟨v, dd, fs, g1, g2, hP⟩ := a
  refine ks_wpAt_execs_cons (super_init ok hS n.2.2 g2 g1 rfl rfl hcode (by
    show List.lookup _ fd.closure = _
    rw [hclo]; rfl) hsuper hfree (hlocal _ hsn) (fun s'' n' => ?_) (hi _) (hsw _) (hhe _))
  refine PySem.wpAt_of_wpAny (wpAny_execs_nil ?_)
  obtain ⟨⟨h'', tk, rfl⟩, le, S''⟩ := n.trans n'
  have hg : get "self" (upd "self" (.exc true e (some dd) fs) ρ') = some (.exc true e (some dd) fs) := get_updS
  obtain ⟨m, _, hv⟩ := S''.vars
  obtain ⟨w', _, hrw⟩ := hv _ _ (mem_of_get hg)
  have hrw' : SlotRep φ' h'' (.exc true e (some dd) fs) (.ref e) := ⟨rfl, hrw.2⟩
  have od := S''.off dd (List.mem_append_right _ (foot_mem (mem_of_get hg) (.tail _ (.head _))))
  refine k φ' h'' tk dd fs hP hrw' ?_ od.2.1 (kept _ φ' h'' S'' le)
  rcases hκ dd od.1 with q | q | q
  · exact absurd q od.2.2
  · exfalso
    rw [List.mem_singleton.mp q] at hrw'
    obtain ⟨_, us, u1, _, _, es, n1, u2, _⟩ := hrw'
    rw [u1] at u2
    cases u2
  · exact q
end Mine
set_option Elab.async false
set_option maxRecDepth 100000
set_option linter.unusedVariables false
namespace Mine
open PySem PySem.W PySem.Calls PySem.Spec PyProof.Rows

noncomputable abbrev rawAt (t : Addr) : Array Value := #[.ref t, .none, .none, .none, .bool false, .none]
section
variable {prog : Program} {w : World} {A : Around} {R : Result → Shared → Prop} {h : Heap} {g : Array GenState} {d : Drawn} {t : Nat} {os : OsState}
variable {nm q : Str} {C N : Addr} {bs bm : List Value} {hdct : Bool} {sn : List Str} {sub : List Value} {ab : Bool} {col : Option Bool} {dd : Option Addr} {k0 k1 k2 k3 k5 : Option Value} {B newId initId : String}
theorem make_exc (F : ExcBaseFacts B newId initId bm) {rest : List Value} {init : Value} (hC : h.get? C = some (excClassObj nm q C N bs bm hdct sn sub ab col dd k0 k1 k2 k3 k5 newId)) (hi : Looks (model prog w) h (typeLookup (.ref C) "__init__") (some init))
    (hb : ∀ self, Looks (model prog w) h (bindSpecial init self) (init, [self]))
    (hq : codeAny (model prog w) (A.under (.builtin "type.__call__" ⟨.ref C :: rest, []⟩)) (.call init ⟨.ref (h.objs.size + 1) :: rest, []⟩) (InitBack (h.objs.size + 1) R) ⟨(h.push { cls := .type "tuple", data := .seq rest.toArray }).push { cls := .ref C, data := .fields (rawAt h.objs.size) }, g, d, t, os⟩) (hrest : rest.length ≤ sizeLine) :
    codeAny (model prog w) A (.call (.ref C) ⟨rest, []⟩) R ⟨h, g, d, t, os⟩ := by
  have f1 := tc_lookup
  have f2 := tc_bind (.ref C)
  have hT : (⟨h, g, d, t, os⟩ : Shared).TypeIs (.ref C) "type" := ⟨_, hC, rfl⟩
  refine codeAny_of_tree ?_
  show wpAny _ _ (callAny (.ref C) _) _ _ _
  repeat (any_goals (first | assumption | with_reducible refine wpAny_loadPart_at hC ?_ | wp_step))
  refine ⟨rfl, ?_⟩
  refine codeAny_call_builtin_at (Code.quiet_builtin _ (by decide +kernel)) entry_typeCall (wpAny_check_type_call_sub hC ?_)
  repeat (first | with_reducible refine wpAny_loadPart_at hC ?_ | with_reducible refine wpAny_madeBy_exc hC ?_ | wp_step)
  refine codeAny_call_builtin_code (Code.quiet_builtin _ F.quiet) (wpAny_check_new_sub F hC ?_)
  refine codeAny_exc_new_sub F hC ?_ hrest
  show wpAny _ _ _ _ _ _
  have k : ∀ b o, h.get? b = some o → ((h.push { cls := .type "tuple", data := .seq rest.toArray }).push { cls := .ref C, data := .fields (rawAt h.objs.size) }).get? b = some o := fun b o e => Heap.get?_push_of_some _ (Heap.get?_push_of_some _ e)
  have hget : ((h.push { cls := .type "tuple", data := .seq rest.toArray }).push { cls := .ref C, data := .fields (rawAt h.objs.size) }).get? (h.objs.size + 1) = some { cls := .ref C, data := .fields (rawAt h.objs.size) } := by heap_get
  have hC₁ := k _ _ hC
  have i1 := hi.keeps k
  have b1 := (hb (.ref (h.objs.size + 1))).keeps k
  have hcC : (Value.ref C :: bm).contains (.ref C) = true := by simp
  unfold isInstance callSpecial? specialOf
  refine wpAny_bind (wpAny_bind (wpAny_bind (wpAny_loadPart_at hget (wpAny_pure ?_))))
  refine wpAny_isSubtype_exc hC₁ ?_
  rw [hcC]
  show wpAny _ _ (holding _ _ >>= _) _ _ _
  refine wpAny_bind (wpAny_holding ?_)
  refine wpAny_bind (wpAny_bind (wpAny_bind (wpAny_loadPart_at hget (wpAny_pure ?_))))
  refine i1.at ?_
  refine wpAny_holding (wpAny_bind (b1.at ?_))
  refine wpAny_bind (wpAny_call ?_)
  refine codeAny_mono hq fun r s' z => ?_
  rcases r with e | (v | _ | _ | _) <;> first | exact z | exact z.elim | skip
  obtain ⟨rfl, z⟩ := z
  exact wpAny_pure (wpAny_pure z)
end

structure ExcNew (K : Frag) (fI : Addr) : Prop where
  cls : (K.lookup 53).map (·.cls) = some (.type "type")
  mro : (clsIn K 53).map (·.mro) = some [.ref 53, .type "Exception", .type "BaseException", .type "object"]
  del : (clsIn K 53).map (·.hasDel) = some false
  size : (K.lookup 53).map (·.slots.size) = some 6
  slot : (K.lookup 53).bind (·.slots[4]?) = some (some (.builtin "Exception.__new__"))
  init : findIn K (.ref 53) "__init__" = some (some (.ref fI))
  fn : typeIn K (.ref fI) = some (.type "function")
  keep : keepIn K (.ref 53) = true
theorem ExcNew.at {K : Frag} {fI : Addr} (H : ExcNew K fI) : ∃ nm q N bs hdct sn sub ab col dd k0 k1 k2 k3 k5, K.lookup 53 = some (excClassObj nm q 53 N bs [.type "Exception", .type "BaseException", .type "object"] hdct sn sub ab col dd k0 k1 k2 k3 k5 "Exception.__new__") := by
  have h1 := H.cls
  have h2 := H.mro
  have h3 := H.del
  have h4 := H.size
  have h5 := H.slot
  unfold clsIn at h2 h3
  cases z : K.lookup 53 with
  | none => rw [z] at h1; cases h1
  | some o =>
    obtain ⟨oc, od, odt, osl⟩ := o
    rw [z] at h1 h2 h3 h4 h5
    cases odt with
    | cls cd =>
      obtain ⟨n, b, m, ns, qn, hd, sn, su, ab, co, de⟩ := cd
      simp only [Option.map_some, Option.some.injEq] at h1 h2 h3 h4
      subst h1 h2 h3
      obtain ⟨a0, a1, a2, a3, a4, a5, rfl⟩ : ∃ a0 a1 a2 a3 a4 a5, osl = #[a0, a1, a2, a3, a4, a5] := by
        obtain ⟨sl⟩ := osl
        have h4 : sl.length = 6 := h4
        cases sl with
        | nil => cases h4
        | cons a0 r =>
          cases r with
          | nil => cases h4
          | cons a1 r =>
            obtain ⟨a2, a3, a4, a5, rfl⟩ := len4 (l := r) (n := 4) (by rw [List.length_cons, List.length_cons] at h4; omega) rfl
            exact ⟨a0, a1, a2, a3, a4, a5, rfl⟩
      have h5' : a4 = some (.builtin "Exception.__new__") := by simpa using h5
      subst h5'
      exact ⟨_, _, _, _, _, _, _, _, _, _, _, _, _, _, _, rfl⟩
    | _ => cases h2

structure PostX (Y : Lo) (φ : PH) (s : Shared) (P : Fs → Rho → Prop) (X : Exn → Rho → Prop) (Q E : Value → Shared → Prop) : Prop where
  ok : ∀ e d fs ρ' φ' s', P fs ρ' → Nx Y φ ρ' φ' s s' → SlotRep φ' s'.heap (.exc true e (some d) fs) (.ref e) → Off Y ρ' φ' e → Off Y ρ' φ' d → Q (.ref e) s'
  er : ∀ x e ρ' φ' s', X x ρ' → ExnAt Y ρ' φ' x e s' → Nx Y φ ρ' φ' s s' → E e s'
/-- an expression that makes an exception that nothing else holds -/
noncomputable def Ey (Γ : Gx) (V : Va) (ρ : Rho) (e : Expr) (P : Fs → Rho → Prop) (X : Exn → Rho → Prop) : Prop :=
  ∀ Y, Ok Γ V Y → ∀ φ s Q E, St Y ρ φ s.heap → PostX Y φ s P X Q E → wpAny (model Γ.prog Γ.w) V.A (eval e V.env) Q E s

section
variable {Γ : Gx} {V : Va} {ρ : Rho} {X : Exn → Rho → Prop}
theorem ey_new {cn : String} {fI : Addr} {e : Expr} {es : List Expr} {npos cpos : Pos} {P : Fs → Rho → Prop} (hN : NameIs Γ cn (.ref 53)) (hC : ExcNew Γ.K fI)
    (h : Evs Γ V X (e :: es) ρ (fun l ρ' => l.length ≤ 100 ∧ ∃ d P', d + 2 ≤ V.d ∧ XSpec Γ fI d l P' ∧ ∀ fs, P' fs → P fs ρ')) (hv : handed V) (hk : V.env.kindOf (Str.ofString cn) = some .globalImplicit := by kernel_rfl)
    (hs : (e :: es).all (fun e => !isStar e) = true := by rfl) (hd : plainName cn = true := by decide +kernel) (him : V.im = true := by rfl) (hst : V.st = true := by rfl) :
    Ey Γ V ρ (.Call (.Name (Str.ofString cn) npos) (e :: es) [] cpos) P X := fun Y ok φ s Q E S p => by
  rw [arm_call rfl]
  refine wpAny_bind (name_sound ok S hN hk ?_ hd)
  show wpAny _ _ (callWith cpos (.ref 53) [] (backTo cpos (starEach (e :: es) V.env)) []) _ _ _
  refine callWith_of (P := Γ.K.In) (by rw [backTo_plain hs]; rfl) (keeps_K hC.keep) ?_
  have sp := spliced_sound (pos := cpos) ok (e :: es) ρ _ φ s (fun vs s' => Γ.K.In s'.heap ∧ wpAny (model Γ.prog Γ.w) V.A (call (.ref 53) ([] ++ vs) []) Q E s') hs h S (fun l vs ρ' φ' s' q r n => ?_) p.er
  · have hs' := hs
    simp only [List.all_cons, Bool.and_eq_true, Bool.not_eq_true'] at hs'
    rw [starEach_cons hs'.1] at sp ⊢
    exact evalArgs_plain sp
  · obtain ⟨hl, d, P', hd', hspec, himp⟩ := q
    have S' := n.2.2
    have X' := Γ.kin.keeps (S'.base ok)
    refine ⟨X', ?_⟩
    have h1 := ok.dep
    have h2 := ok.uni
    refine wpAny_call ?_
    have H' := hand_of ok S' hv
    obtain ⟨hp0, g0, d0, tk0, os0⟩ := s'
    dsimp only at X' S' n H'
    obtain ⟨nm, q, N, bs, hdct, sn, sub, ab, col, dd, k0, k1, k2, k3, k5, hC53⟩ := hC.at
    refine make_exc PySem.F.excBase_Exception (X' _ _ hC53) (looks_findIn X' hC.init) (fun self => bind_fn X' self hC.fn) ?_ (by rw [line_is]; rw [List.nil_append, r.length]; omega)
    have S₂ := (S'.push { cls := .type "tuple", data := .seq ([] ++ vs).toArray }).push { cls := .ref 53, data := .fields (rawAt hp0.objs.size) }
    have hsz : (hp0.push { cls := .type "tuple", data := .seq ([] ++ vs).toArray }).objs.size = hp0.objs.size + 1 := Heap.size_push ..
    have ga : ((hp0.push { cls := .type "tuple", data := .seq ([] ++ vs).toArray }).push { cls := .ref 53, data := .fields (rawAt hp0.objs.size) }).get? (hp0.objs.size + 1) = some (excObj none (rawAt hp0.objs.size)) := by
      rw [← hsz]; exact Heap.get?_push_size _ rfl
    have na := none_at_end hp0 1
    obtain ⟨a1, a2, a3, a4, a5⟩ := S'.fresh na
    obtain ⟨outer, f1, f2, f3, f4⟩ := call_frames ok him S₂
    have nf : ∀ b, b ∉ Y.FS → b ∉ Y.lw ++ foot ρ' → b ∉ frOf outer := fun b q1 q2 q => by
      rcases f4 b q with rfl | q
      · exact q2 (List.mem_append_left _ (locals_lw ok hst))
      · exact q1 q
    have nb : ∀ b, Y.κ b = none → Γ.hB.get? b = none := fun b e => by
      cases q : Γ.hB.get? b with
      | none => rfl
      | some o => have := ok.gb b o q; rw [e] at this; cases this
    have hun : (V.A.under (.builtin "type.__call__" ⟨.ref 53 :: ([] ++ vs), []⟩)).depth = V.A.depth + 1 := rfl
    have hun2 : (V.A.under (.builtin "type.__call__" ⟨.ref 53 :: ([] ++ vs), []⟩)).units = V.A.units + 1 := rfl
    have old : ∀ b o, hp0.get? b = some o → b ≠ hp0.objs.size + 1 ∧ ((hp0.push { cls := .type "tuple", data := .seq ([] ++ vs).toArray }).push { cls := .ref 53, data := .fields (rawAt hp0.objs.size) }).get? b = some o := fun b o e => by
      have := Heap.lt_size e
      exact ⟨Nat.ne_of_lt (Nat.lt_succ_of_lt this), Heap.get?_push_of_some _ (Heap.get?_push_of_some _ e)⟩
    have mv : ∀ {φ'' h'}, Kept ((hp0.push { cls := .type "tuple", data := .seq ([] ++ vs).toArray }).push { cls := .ref 53, data := .fields (rawAt hp0.objs.size) }) h' φ' φ'' (frOf outer) [hp0.objs.size + 1] → St Y ρ' φ'' h' := fun {φ'' h'} K =>
      S'.moved (as := []) f4 (locals_lw ok hst) (cells_lw ok hst) (fun _ h => nomatch h) (fun b o q _ e => K.keep b o q (fun z => (old b o e).1 (List.mem_singleton.mp z)) (old b o e).2) (fun b o q e => K.frs b o q (old b o e).2) (fun _ h => nomatch h) K.le K.fz (fun b o e => by
          rcases K.new b o e with z | z
          · exact .inl z
          · right
            cases q : hp0.get? b with
            | none => rfl
            | some o' => rw [(old b o' q).2] at z; cases z) (List.Sublist.refl _) (fun y sl hy => .inl ⟨hy, fun _ _ h => nomatch h⟩) S'.ob
    have H₂ : Hand (V.A.under (.builtin "type.__call__" ⟨.ref 53 :: ([] ++ vs), []⟩)) ((hp0.push { cls := .type "tuple", data := .seq ([] ++ vs).toArray }).push { cls := .ref 53, data := .fields (rawAt hp0.objs.size) }) := H'.keeps fun b o e => (old b o e).2
    refine hspec (V.A.under (.builtin "type.__call__" ⟨.ref 53 :: ([] ++ vs), []⟩)) φ' ⟨(hp0.push { cls := .type "tuple", data := .seq ([] ++ vs).toArray }).push { cls := .ref 53, data := .fields (rawAt hp0.objs.size) }, g0, d0, tk0, os0⟩ _ vs outer (hp0.objs.size + 1) (rawAt hp0.objs.size) H₂ (H'.ne na) (by rw [hun]; omega) (by rw [hun2]; omega) f1 f2 (S₂.base ok) S₂.fz f3 r ga rfl ⟨_, rfl⟩ a2 (nf _ a3 a4) (nb _ a1) fun φ'' h' tk dx fs hP hsl hdx hφd K => ?_
    refine ⟨rfl, ?_⟩
    have φn : ∀ b, φ' b = none → (∃ o, ((hp0.push { cls := .type "tuple", data := .seq ([] ++ vs).toArray }).push { cls := .ref 53, data := .fields (rawAt hp0.objs.size) }).get? b = some o) → φ'' b = none := fun b e ⟨o, e'⟩ => by
      cases q : φ'' b with
      | none => rfl
      | some o' =>
        rcases K.new b o' q with z | z
        · rw [e] at z; cases z
        · rw [e'] at z; cases z
    have hdx0 : hp0.get? dx = none := by
      cases q : hp0.get? dx with
      | none => rfl
      | some o' => rw [(old dx o' q).2] at hdx; cases hdx
    exact p.ok _ dx fs ρ' φ'' _ (himp fs hP) (n.trans ⟨⟨h', tk, rfl⟩, K.le, mv K⟩) hsl ((S'.offNew na).at (φn _ a2 ⟨_, ga⟩) (List.Sublist.refl _)) ((S'.offNew hdx0).at hφd (List.Sublist.refl _))
end
end Mine
set_option Elab.async false
set_option maxRecDepth 100000
set_option linter.unusedVariables false
namespace Mine
open PySem PySem.W PySem.Calls PySem.Spec PyProof.Rows

section
variable {Γ : Gx} {V : Va} {ρ : Rho} {X : Exn → Rho → Prop}
theorem hand_off {Y : Lo} (ok : Ok Γ V Y) (hv : handed V) {e0 : Addr} (h : V.A.handled = some (.ref e0)) : ∃ o, Y.κ e0 = some o := by
  rcases hv with hv | hv
  · rw [ok.hh hv] at h; cases h
  · obtain ⟨e, he⟩ := Option.isSome_iff_exists.mp hv
    obtain ⟨z1, o, _, z2, _⟩ := ok.hx e he
    rw [h] at z1
    cases z1
    exact ⟨o, z2⟩
end
end Mine
set_option Elab.async false
set_option maxRecDepth 100000
set_option linter.unusedVariables false
namespace Mine
open PySem PySem.W PySem.Calls PySem.Spec PyProof.Rows
open PySem.Builtin PySem.Builtin.Str

theorem f_count_str {Γ : Gx} {x y : List Nat} {j : Int} : FSpec Γ "str.count" [.str x, .str y, .int 0, .int j] (fun v => ∃ n : Nat, n ≤ x.length + 1 ∧ v = .int n) := fun A φ s Q E ws hr k => by
  obtain ⟨_, _, rfl, ⟨t, rfl⟩, _, _, rfl, ⟨u, rfl⟩, _, _, rfl, ⟨v, rfl⟩, _, _, rfl, ⟨v', rfl⟩, rfl⟩ := hr
  obtain ⟨n, h1, h2⟩ := gives_count4 ⟨x.toArray⟩ ⟨y.toArray⟩ j t u v v'
  exact call_gives F.slot_str_count (typeIs_str _ _ _) F.entry_str_count (F.args_str_count_4 _ _ _ _) h2 (k (.int n) _ _ ⟨n, (by simpa [Str.length] using h1), rfl⟩ ⟨_, rfl⟩)
theorem f_rfind_str {Γ : Gx} {x y : List Nat} {j : Int} (hj : 0 ≤ j) : FSpec Γ "str.rfind" [.str x, .str y, .int 0, .int j] (fun v => ∃ n : Int, (-1 ≤ n ∧ n ≤ j) ∧ v = .int n) := fun A φ s Q E ws hr k => by
  obtain ⟨_, _, rfl, ⟨t, rfl⟩, _, _, rfl, ⟨u, rfl⟩, _, _, rfl, ⟨v, rfl⟩, _, _, rfl, ⟨v', rfl⟩, rfl⟩ := hr
  obtain ⟨n, h1, h2⟩ := gives_rfind4 ⟨x.toArray⟩ ⟨y.toArray⟩ j hj t u v v'
  exact call_gives F.slot_str_rfind (typeIs_str _ _ _) F.entry_str_rfind (F.args_str_rfind_4 _ _ _ _) h2 (k (.int n) _ _ ⟨n, h1, rfl⟩ ⟨_, rfl⟩)
set_option maxHeartbeats 2000000 in
theorem meets_fmt1 {t u u' : Tok} {b : Addr} {z : PySem.Str} {n : Int} (hz : z.length ≤ 1000000) (h0 : 0 ≤ n) (h1 : n < 10 ^ 10) :
   Meets («str.__mod__» ⟨[.str ⟨#[37, 115, 32, 97, 116, 32, 112, 111, 115, 105, 116, 105, 111, 110, 32, 37, 100]⟩ t, .ref b], []⟩) (fun _ R s => IsTup s.heap b #[.str z u, .int n u'] ∧ ∀ t' k, R (.ok (.ret (.str (z ++ (Str.ofString " at position ") ++ Str.ofString (toString n)) t'))) { s with toks := k }) := by
  kpt_run
set_option maxHeartbeats 4000000 in
theorem meets_fmt2 {t u u' u'' : Tok} {b : Addr} {z : PySem.Str} {n m : Int} (hz : z.length ≤ 1000000) (h0 : 0 ≤ n) (h1 : n < 10 ^ 10) (h2 : 0 ≤ m) (h3 : m < 10 ^ 10) :
   Meets («str.__mod__» ⟨[.str (Str.ofString "%s (line %d, column %d)") t, .ref b], []⟩) (fun _ R s => IsTup s.heap b #[.str z u, .int n u', .int m u''] ∧ ∀ t' k, R (.ok (.ret (.str (z ++ (Str.ofString " (line ") ++ Str.ofString (toString n) ++ (Str.ofString ", column ") ++ Str.ofString (toString m) ++ (Str.ofString ")")) t'))) { s with toks := k }) := by
  have e : Str.ofString "%s (line %d, column %d)" = ⟨#[37, 115, 32, 40, 108, 105, 110, 101, 32, 37, 100, 44, 32, 99, 111, 108, 117, 109, 110, 32, 37, 100, 41]⟩ := by decide +kernel
  rw [e]
  kpt_run

theorem fmt1_ok {z : List Nat} {n : Int} (hz : z.length ≤ 900000) (h0 : 0 ≤ n) (h1 : n < 10 ^ 10) : ∃ r : List Nat, r.length ≤ z.length + 30 ∧ ∀ (φ : PH) (vs : List Value) (b : Addr) (t : Tok), Reps φ [.str z, .int n] vs →
    Meets («str.__mod__» ⟨[.str (Str.ofString "%s at position %d") t, .ref b], []⟩) (fun _ R s => IsTup s.heap b vs.toArray ∧ ∀ t' k, R (.ok (.ret (.str ⟨r.toArray⟩ t'))) { s with toks := k }) := by
  have e : Str.ofString "%s at position %d" = ⟨#[37, 115, 32, 97, 116, 32, 112, 111, 115, 105, 116, 105, 111, 110, 32, 37, 100]⟩ := by decide +kernel
  have hn := toString_length_le (k := 10) h0 (by decide) h1
  refine ⟨((⟨z.toArray⟩ : PySem.Str) ++ (Str.ofString " at position ") ++ Str.ofString (toString n)).cps.toList, ?_, fun φ vs b t hr => ?_⟩
  · have e1 : ∀ a b : PySem.Str, (a ++ b).cps.toList.length = a.length + b.length := fun a b => by show (a.cps ++ b.cps).toList.length = _; simp [Str.length]
    have e2 : ∀ a b : PySem.Str, (a ++ b).length = a.length + b.length := fun a b => by show (a.cps ++ b.cps).size = _; simp [Str.length]
    rw [e1, e2]
    have : (⟨z.toArray⟩ : PySem.Str).length = z.length := by simp [Str.length]
    have h13 : (Str.ofString " at position ").length = 13 := by decide +kernel
    omega
  · obtain ⟨_, _, rfl, ⟨u, rfl⟩, _, _, rfl, ⟨u', rfl⟩, rfl⟩ := hr
    rw [e]
    have hz' : (⟨z.toArray⟩ : PySem.Str).length ≤ 1000000 := by simp [Str.length]; omega
    have := meets_fmt1 (t := t) (u := u) (u' := u') (b := b) (z := ⟨z.toArray⟩) hz' h0 h1
    simpa using this
theorem fmt2_ok {z : List Nat} {n m : Int} (hz : z.length ≤ 900000) (h0 : 0 ≤ n) (h1 : n < 10 ^ 10) (h2 : 0 ≤ m) (h3 : m < 10 ^ 10) : ∃ r : List Nat, ∀ (φ : PH) (vs : List Value) (b : Addr) (t : Tok), Reps φ [.str z, .int n, .int m] vs →
    Meets («str.__mod__» ⟨[.str (Str.ofString "%s (line %d, column %d)") t, .ref b], []⟩) (fun _ R s => IsTup s.heap b vs.toArray ∧ ∀ t' k, R (.ok (.ret (.str ⟨r.toArray⟩ t'))) { s with toks := k }) := by
  refine ⟨((⟨z.toArray⟩ : PySem.Str) ++ (Str.ofString " (line ") ++ Str.ofString (toString n) ++ (Str.ofString ", column ") ++ Str.ofString (toString m) ++ (Str.ofString ")")).cps.toList, fun φ vs b t hr => ?_⟩
  obtain ⟨_, _, rfl, ⟨u, rfl⟩, _, _, rfl, ⟨u', rfl⟩, _, _, rfl, ⟨u'', rfl⟩, rfl⟩ := hr
  have hz' : (⟨z.toArray⟩ : PySem.Str).length ≤ 1000000 := by simp [Str.length]; omega
  have := meets_fmt2 (t := t) (u := u) (u' := u') (u'' := u'') (b := b) (z := ⟨z.toArray⟩) hz' h0 h1 h2 h3
  simpa using this
end Mine
set_option Elab.async false
set_option maxRecDepth 100000
set_option linter.unusedVariables false
namespace Mine
open PySem PySem.W PySem.Calls PySem.Spec PyProof.Rows

theorem St.unname {Y : Lo} {ρ : Rho} {φ : PH} {h h' : Heap} {n : String} {v : Option Value} {m : Str → Option Value} (S : St Y ρ φ h) (hloc : Y.env.locals ∈ Y.lw) (hn : h.Ns Y.env.locals m)
    (hvs : ∀ x sl, (x, sl) ∈ ρ → ∃ w, VarAt Y.env m h (Str.ofString x) w ∧ SlotRep φ h sl w)
    (hs : Heap.SameBut Y.env.locals h h') (hn' : h'.Ns Y.env.locals (fun x => if x = Str.ofString n then v else m x)) : St Y (del n ρ) φ h' := by
  have hnd := List.nodup_append.mp S.apart
  have hsub := foot_del_sub n ρ
  refine S.alter hs (List.mem_append_left _ hloc) (let ⟨o, _, _, e, _⟩ := hn'; ⟨o, e⟩) ⟨_, hn', fun y t hy => ?_⟩ (fun y c e => ?_) (S.apart.sublist ((List.Sublist.refl _).append hsub)) (fun a ha => S.off a (List.mem_append_right _ (hsub.subset ha))) (fun y a l hy => S.ob y a l (mem_del hy).2)
  · obtain ⟨ne, hy⟩ := mem_del hy
    obtain ⟨w, hw, hr⟩ := hvs y t hy
    refine ⟨w, ?_, hr.keep fun a ha o e => (hs.2 a fun q => hnd.2.2 _ hloc _ (foot_mem hy ha) q.symm).trans e⟩
    rcases hw with ⟨a1, a2⟩ | ⟨a1, c, a2, a3⟩
    · exact .inl ⟨a1, by show (if Str.ofString y = Str.ofString n then v else m (Str.ofString y)) = some w; rw [if_neg fun q => ne (ofString_inj q)]; exact a2⟩
    · exact .inr ⟨a1, c, a2, a3.sameBut hs (cell_ne_ns a3 hn)⟩
  · obtain ⟨v, q⟩ := S.cells y c e
    exact ⟨v, q.sameBut hs (cell_ne_ns q hn)⟩

noncomputable abbrev Va.caught (V : Va) (e : Addr) : Va := { V with A := V.A.mark (some (.ref e)), hm := true, hd := none }
noncomputable def Out.del (n : String) : Out → Out
  | .next ρ => .next (Mine.del n ρ)
  | .ret v ρ => .ret v (Mine.del n ρ)
  | .brk ρ => .brk (Mine.del n ρ)
  | .cont ρ => .cont (Mine.del n ρ)

section
variable {Γ : Gx} {V : Va} {ρ : Rho} {X : Exn → Rho → Prop}
theorem Ok.caught {Y : Lo} (ok : Ok Γ V Y) (e : Addr) : Ok Γ (V.caught e) Y :=
  { ee := ok.ee, ll := ok.ll, gb := ok.gb, fk := ok.fk, glb := ok.glb, bns := ok.bns, hh := (fun h => by cases h), dep := ok.dep, uni := ok.uni, ci := ok.ci, wr := ok.wr
    hx := fun e' q => nomatch q
    fx := fun h => let ⟨o, F⟩ := ok.fx h; ⟨o, ⟨F.fr, F.own, F.new, F.st, F.FS, F.out⟩⟩ }

/-- try: the class at 53 is caught under a name; the suite does not raise -/
theorem e1_try_as {n cn : String} {np hpos pos : Pos} {b₀ : Stmt} {body suite : List Stmt} {P : Out → Prop} {Xb : Exn → Rho → Prop} (hN : NameIs Γ cn (.ref 53)) (hM : exmOne Γ.K (.ref 53) (.ref 53) = some true)
    (h : Ex Γ V ρ body P Xb)
    (hx : ∀ m p i ρ', Xb (.pat m p i) ρ' → ∀ e d ln cn, Ex Γ (V.caught e) (upd n (.exc false e (some d) (patFs m p i ln cn)) ρ') (b₀ :: suite) (fun o => P (o.del n)) nothing)
    (hk : V.env.kindOf (Str.ofString cn) = some .globalImplicit := by kernel_rfl) (hl : V.env.kindOf (Str.ofString n) = some .local := by kernel_rfl) (hd : plainName cn = true := by decide +kernel) (him : V.im = true := by rfl) (hst : V.st = true := by rfl) (hc : canStore V.env n = true := by kernel_rfl) :
    E1 Γ V ρ (.Try body [.ExceptHandler (some (.Name (Str.ofString cn) np)) (some (Str.ofString n)) (b₀ :: suite) hpos] [] [] pos) P X := fun Y ok φ s Q E hE S p => by
  rw [arm_exec_Try]
  refine wpAny_bind (wpAny_standAt (wpAny_tryStmt_except ?_))
  refine h Y ok φ s _ _ PassesAll.looking S ⟨fun ρ' φ' s' a nn => wpAny_execs_nil (p.nx _ _ _ a nn), fun ρ' φ' s' a nn => p.bk _ _ _ a nn, fun ρ' φ' s' a nn => p.ct _ _ _ a nn, fun v val ρ' φ' s' a b nn => p.rt _ _ _ _ _ a b nn, fun x e ρ' φ' s' hX hE nn => ?_⟩
  refine note_exn ok him nn.2.2 hE fun a d T h₁ he F oa od oT S₁ => ?_
  subst he
  obtain ⟨m, pt, i⟩ := x
  obtain ⟨vs, ha, hsz, h1⟩ := F.obj
  obtain ⟨oT', ts, hT, hdT, h3⟩ := F.tb T rfl
  obtain ⟨es, n0, ln, cn', hdd, hfs⟩ := F.dict
  have h3' := (Array.getElem?_eq_some_iff.mp h3).1
  have X₁ := Γ.kin.keeps (S₁.base ok)
  refine wpAny_handleBy_cons (codeAny_handlers_test (name_at (s := { s' with heap := h₁ }) ok S₁ hN hk ?_ hd)) (by intro q; cases q)
  refine (exm_one X₁ ((Looks.ld ha).andThen .now) hM).here ?_
  refine codeAny_handlers_suite_as ?_
  refine flight_off ha rfl h1 hT hdT h3' fun h₂ k2 kT2 => ?_
  have neT := F.neT T rfl
  have S₂ : St Y ρ' φ' h₂ := S₁.others (Js := [T]) (fun b o hb q => (k2 b (fun z => hb (by rw [z]; exact .head _))).trans q) (fun J hJ => by rw [List.mem_singleton.mp hJ]; exact oT)
  have ha2 : h₂.get? a = some (excObj (some d) vs) := (k2 a (Ne.symm neT.1)).trans ha
  have hd2 : h₂.get? d = some (dictOf es n0) := (k2 d (Ne.symm neT.2)).trans hdd
  have n₂ : Nx Y φ ρ' φ' s { s' with heap := h₂ } := nn.trans ⟨⟨h₂, s'.toks, rfl⟩, .refl _, S₂⟩
  have hne := F.ne
  have st : ∀ {Q : Unit → Shared → Prop} {E : Value → Shared → Prop}, (∀ s₃, Nx Y φ (upd n (.exc false a (some d) (patFs m pt i ln cn')) ρ') φ' s s₃ → Q () s₃) → wpAny (model Γ.prog Γ.w) (V.A.mark (some (.ref a))) (storeName V.env (Str.ofString n) (.ref a)) Q E { s' with heap := h₂ } := fun {Q E} q => by
    rw [← ok.ee]
    refine store_rule (s := { s' with heap := h₂ }) S₂ (by rw [ok.ee]; exact ok.fk) (by rw [ok.ee]; exact ok.ci) (hkind_of ok hst hc) (sl := .exc false a (some d) (patFs m pt i ln cn')) ⟨rfl, vs, ha2, hsz, (fun z => nomatch z), es, n0, hd2, hfs⟩ ?_ (fun b hb => ?_) (fun _ _ e => by cases e) fun h' tk S' => q _ ?_
    · obtain ⟨r, hp, hs⟩ := foot_upd n (.exc false a (some d) (patFs m pt i ln cn')) ρ'
      have hp' : (Y.lw ++ foot (upd n (.exc false a (some d) (patFs m pt i ln cn')) ρ')).Perm ([a, d] ++ (Y.lw ++ r)) := (hp.append_left Y.lw).trans (List.perm_append_comm_assoc _ _ _)
      refine hp'.nodup_iff.mpr (List.nodup_append.mpr ⟨by simpa using hne, S₂.apart.sublist ((List.Sublist.refl _).append hs), fun b hb c hc e => ?_⟩)
      subst e
      have hm := ((List.Sublist.refl _).append hs).subset hc
      rcases List.mem_cons.mp hb with rfl | hb
      · exact oa.foot hm
      · rw [List.mem_singleton.mp hb] at hm; exact od.foot hm
    · rcases List.mem_cons.mp hb with rfl | hb
      · exact ⟨oa.κ, oa.φ, oa.FS⟩
      · rw [List.mem_singleton.mp hb]; exact ⟨od.κ, od.φ, od.FS⟩
    · obtain ⟨⟨h', tk', e'⟩, l, _⟩ := n₂
      exact ⟨⟨_, _, by rw [show s'.gens = s.gens from congrArg (·.gens) e', show s'.drawn = s.drawn from congrArg (·.drawn) e', show s'.os = s.os from congrArg (·.os) e']⟩, l, S'⟩
  refine st fun s₃ n₃ => ?_
  have gone : ∀ {Q : Unit → Shared → Prop} {E : Value → Shared → Prop} {ρ₄ : Rho} {φ₄ : PH} {s₄ : Shared}, Nx Y φ ρ₄ φ₄ s s₄ → (∀ s₅, Nx Y φ (Mine.del n ρ₄) φ₄ s s₅ → Q () s₅) → wpAny (model Γ.prog Γ.w) V.A (do bindName V.env (Str.ofString n) .none; unbindBehindTheSuite V.env (Str.ofString n) hpos) Q E s₄ := fun {Q E ρ₄ φ₄ s₄} n₄ q => by
    have S₄ := n₄.2.2
    obtain ⟨m', hn, hvs⟩ := S₄.vars
    rw [ok.ee] at hn
    refine wpAny_nameGoes_keeps hl hn (by rw [ok.fk]; rfl) fun h₅ v hn5 hs5 => q _ (n₄.trans ⟨⟨h₅, _, rfl⟩, .refl _, ?_⟩)
    rw [← ok.ee] at hn hs5 hn5
    exact S₄.unname (locals_lw ok hst) hn hvs hs5 hn5
  refine wpAny_mono (hx m pt i ρ' hX a d ln cn' Y (ok.caught a) φ' s₃ _ (fun _ _ => False) PassesAll.never n₃.2.2 ⟨fun ρ₄ φ₄ s₄ q n₄ => ?_, fun ρ₄ φ₄ s₄ q n₄ => ?_, fun ρ₄ φ₄ s₄ q n₄ => ?_, fun v val ρ₄ φ₄ s₄ q r n₄ => ?_, fun _ _ _ _ _ q => q.elim⟩) (fun _ _ z => z) (fun _ _ z => z.elim)
  · exact gone (n₃.trans n₄) fun s₅ n₅ => p.nx _ _ _ q n₅
  · exact gone (n₃.trans n₄) fun s₅ n₅ => p.bk _ _ _ q n₅
  · exact gone (n₃.trans n₄) fun s₅ n₅ => p.ct _ _ _ q n₅
  · exact gone (n₃.trans n₄) fun s₅ n₅ => p.rt _ _ _ _ _ q r n₅
end
end Mine
set_option Elab.async false
set_option maxRecDepth 10000
set_option linter.unusedVariables false
namespace Mine
open PySem PySem.W PySem.Calls PySem.Spec PyProof.Rows

section
variable {Γ : Gx} {V : Va} {ρ : Rho} {X : Exn → Rho → Prop}
noncomputable def CapsV (V : Va) (scope : Scope) (cl : List (Str × Addr)) (ρ : Rho) (l : List (String × PV)) : Prop := ∀ p ∈ l, get p.1 ρ = some (.val p.2) ∧ V.env.kindOf (Str.ofString p.1) ≠ some .local ∧ (cl.lookup (Str.ofString p.1)).isSome = true ∧
  ∀ C, (compEnvC scope cl C V.env).kindOf (Str.ofString p.1) = some .cell ∨ (compEnvC scope cl C V.env).kindOf (Str.ofString p.1) = some .free

/-- the state within a comprehension's block that reads plain values alone -/
theorem comp_state_val {Y : Lo} (ok : Ok Γ V Y) {φ : PH} {h : Heap} (S : St Y ρ φ h) {C : Addr} {scope : Scope} {cl : List (Str × Addr)} {caps : List (String × PV)} {x : String} {item : PV} {v : Value} {m₃ : Str → Option Value}
    (hcl : ∀ y c, cl.lookup y = some c → V.env.cells.lookup y = some c) (hkind : scope.kind = .function) (hx : scope.names.lookup (Str.ofString x) = some .local) (hcaps : CapsV V scope cl ρ caps)
    (hn : h.Ns C m₃) (hm : m₃ (Str.ofString x) = some v) (hr : Rep φ item v) :
    ∃ Yc : Lo, Ok Γ (compV V scope cl C) Yc ∧ St Yc ((x, .val item) :: caps.map fun p => (p.1, Slot.val p.2)) φ h ∧ (∀ b o, h.get? b = some o → Yc.κ b = some o) ∧ (∀ b, (∃ o, h.get? b = some o) → φ b = none → Yc.ban b) := by
  refine ⟨⟨compEnvC scope cl C V.env, [], fun a => h.get? a, [], fun _ => .plain, fun a => (∃ o, h.get? a = some o) ∧ φ a = none⟩, ?_, ?_, fun b o e => e, fun b a e => ⟨a, e⟩⟩
  · exact ⟨rfl, rfl, fun a o e => S.kk a o (ok.gb a o e), hkind, ok.glb, ok.bns, ok.hh, ok.dep, ok.uni, fun y z c e e' => ok.ci y z c (hcl _ _ e) (hcl _ _ e'), (fun h => nomatch h), (fun _ h => nomatch h), (fun h => by cases h)⟩
  · refine ⟨fun _ _ e => e, (fun _ h => nomatch h), S.fz, fun a o e q => (by rw [q.2] at e; cases e), fun a q => q.1, fun y a l m => ?_, ⟨m₃, hn, fun y sl m => ?_⟩, fun y c e => ?_, (fun _ h => nomatch h), ?_, ?_, (fun _ h => nomatch h)⟩
    · rcases List.mem_cons.mp m with e | m
      · cases e
      · obtain ⟨p, _, e⟩ := List.mem_map.mp m
        cases e
    · rcases List.mem_cons.mp m with e | m
      · cases e
        exact ⟨v, .inl ⟨lookup_relabel_local hx, hm⟩, hr⟩
      · obtain ⟨⟨y', pv⟩, hp, e⟩ := List.mem_map.mp m
        cases e
        obtain ⟨hg, hnl, hsome, hkc⟩ := hcaps _ hp
        obtain ⟨mm, hmm, hv⟩ := S.vars
        obtain ⟨c, hc⟩ := Option.isSome_iff_exists.mp hsome
        have hcV := hcl _ _ hc
        obtain ⟨w, a, b⟩ := hv y' _ (mem_of_get hg)
        refine ⟨w, ?_, b⟩
        rw [ok.ee] at a
        rcases a with ⟨q, _⟩ | ⟨q, c', hc', o, e, d⟩
        · exact absurd q hnl
        · rw [hcV] at hc'
          cases hc'
          exact .inr ⟨hkc C, c, hc, o, e, d⟩
    · have hcV := hcl _ _ e
      exact S.cells y c (by rw [ok.ee]; exact hcV)
    · show ([] ++ foot (_ :: _)).Nodup
      rw [List.nil_append]
      show ([] ++ foot _).Nodup
      rw [foot_vals]
      exact List.nodup_nil
    · intro a ha
      have : a ∈ ([] : List Addr) ++ ([] ++ foot (caps.map fun p => (p.1, Slot.val p.2))) := ha
      rw [foot_vals] at this
      exact nomatch this

/-- the loop of a comprehension without tests whose elements may be lists -/
theorem comp_core {elt iter : Expr} {x : String} {px : Pos} {scope : Scope} {cl : List (Str × Addr)} {pos : Pos} (hcl : ∀ y c, cl.lookup y = some c → V.env.cells.lookup y = some c)
    (hcell : ∀ y ∈ scope.names, y.2 ≠ .cell) (hkind : scope.kind = .function) (hx : scope.names.lookup (Str.ofString x) = some .local)
    {Y : Lo} (ok : Ok Γ V Y) {l : List PV} {ρ' : Rho} {φ' : PH} {s₂ : Shared} {I : Addr} {fp : List Addr} {PW : Nat → Value → Prop} {StW : Nat → Heap → Prop} (S₂ : St Y ρ' φ' s₂.heap)
    (W : Walks Γ.prog Γ.w V.A I fp [I] l.length PW StW) (hP₀ : ∀ i v p, PW i v → l[i]? = some p → Rep φ' p v) (hst : StW 0 s₂.heap) (hfp : ∀ b ∈ fp, b = I ∨ ∃ o, φ' b = some o) (off : Off Y ρ' φ' I)
    (hex : ∀ i h, StW i h → ∃ o, h.get? I = some o) (hlen : l.length ≤ 1000000) {caps : List (String × PV)} {val : PV → PV} (hcaps : CapsV V scope cl ρ' caps)
    (helt : ∀ C, ∀ item ∈ l, Ev Γ (compV V scope cl C) ((x, .val item) :: caps.map fun p => (p.1, Slot.val p.2)) elt (fun v _ => v = val item) nothing)
    {RR : Value → Addr → Result → Shared → Prop} {E : Value → Shared → Prop}
    (done : ∀ (D C : Addr) (h₂ : Heap) (tk₂ : Nat) (m' : Str → Option Value) (ψ : PH) (ys : List Value) (kD : Nat), C ≠ D → h₂.Ns C m' → φ'.le ψ → St Y ρ' ψ h₂ → Off Y ρ' ψ D → Off Y ρ' ψ C → h₂.get? D = some (lobj ys kD) → Reps ψ (l.map val) ys → RR (.ref D) C (.ok .next) { s₂ with heap := h₂, toks := tk₂ }) :
    wpAny (model Γ.prog Γ.w) V.A (newList []) (fun acc s₃ => wpAny (model Γ.prog Γ.w) V.A (newFunctionEnv scope V.env.globals cl [] V.env.qual none .none (some V.env)) (fun cenv s₄ =>
      codeAny (model Γ.prog Γ.w) V.A (.compStart (.ListComp elt [⟨.Name (Str.ofString x) px, iter, [], 0⟩] scope pos) 0 (.ref I) acc { cenv with scope := relabel scope V.env }) (RR acc cenv.locals) s₄) E s₃) E s₂ := by
  have hIfp : ∀ b ∈ fp, ∃ o, s₂.heap.get? b = some o := fun b hb => by
    rcases hfp b hb with rfl | ⟨o, e⟩
    · exact hex 0 _ hst
    · exact ⟨o, S₂.fz _ _ e⟩
  refine wpAny_newObj_type (wpAny_newFunctionEnv hcell (by intro y hy; simp at hy) (fun h₁ hns₁ hsb₁ => ?_) hkind)
  dsimp only at hns₁ hsb₁ ⊢
  generalize hH2 : s₂.heap.push { cls := .type "list", dict := none, data := .seq ([] : List Value).toArray } = H2 at hns₁ hsb₁ ⊢
  have hC : H2.objs.size = s₂.heap.objs.size + 1 := by rw [← hH2, Heap.size_push]
  have hCle : s₂.heap.objs.size ≤ H2.objs.size := by rw [hC]; exact Nat.le_succ _
  have hDC : s₂.heap.objs.size ≠ H2.objs.size := by rw [hC]; exact Nat.ne_of_lt (Nat.lt_succ_self _)
  have old : ∀ b o, s₂.heap.get? b = some o → h₁.get? b = some o := fun b o e => hsb₁.extBut b o (Nat.ne_of_lt (Nat.lt_of_lt_of_le (Heap.lt_size e) hCle)) (Heap.get?_push_of_some _ (hH2 ▸ Heap.get?_push_of_some _ e))
  have hacc : h₁.PlainList s₂.heap.objs.size #[] := ⟨_, hsb₁.extBut _ _ hDC (Heap.get?_push_of_some _ (hH2 ▸ Heap.get?_push_size _ rfl))⟩
  have hst₁ : StW 0 h₁ := W.frame _ _ _ hst fun b _ o e => old b o e
  have oD : Off Y ρ' φ' s₂.heap.objs.size := S₂.offNew (none_at_end _ 0)
  have oC : Off Y ρ' φ' H2.objs.size := by rw [hC]; exact S₂.offNew (none_at_end _ 1)
  have S₁ : St Y ρ' φ' h₁ := S₂.keeps old
  have noD : s₂.heap.get? s₂.heap.objs.size = none := none_at_end s₂.heap 0
  have hDI : s₂.heap.objs.size ≠ I := fun q => by
    obtain ⟨o, e⟩ := hex 0 _ hst
    rw [← q, noD] at e; cases e
  have hCI : H2.objs.size ≠ I := fun q => by
    obtain ⟨o, e⟩ := hex 0 _ hst
    rw [← q, hC, none_at_end s₂.heap 1] at e; cases e
  have hCfp : H2.objs.size ∉ fp := fun hm => by
    obtain ⟨o, e⟩ := hIfp _ hm
    rw [hC, none_at_end s₂.heap 1] at e; cases e
  have hDfp : s₂.heap.objs.size ∉ fp := fun hm => by
    obtain ⟨o, e⟩ := hIfp _ hm
    rw [noD] at e; cases e
  have loop : ∀ s₃ : Shared, s₃ = { s₂ with heap := h₁, toks := s₂.toks + ([] : List (Str × Value)).length } →
      codeAny (model Γ.prog Γ.w) V.A (.compLoop (.ListComp elt [⟨.Name (Str.ofString x) px, iter, [], 0⟩] scope pos) 0 (.ref I) (.ref s₂.heap.objs.size) (compEnvC scope cl H2.objs.size V.env))
        (RR (.ref s₂.heap.objs.size) H2.objs.size) s₃ := by
    rintro s₃ rfl
    refine codeAny_compLoop_tests (fun k s' => ∃ (H : Heap) (tk : Nat) (m' : Str → Option Value) (ys : Array Value) (ψ : PH) (i : Nat), i ≤ l.length ∧ k = l.length + 1 - i ∧ s' = { s₂ with heap := H, toks := tk } ∧ StW i H ∧ H.PlainList s₂.heap.objs.size ys ∧ H.Ns H2.objs.size m' ∧
      φ'.le ψ ∧ St Y ρ' ψ H ∧ Off Y ρ' ψ I ∧ Off Y ρ' ψ s₂.heap.objs.size ∧ Off Y ρ' ψ H2.objs.size ∧ Reps ψ ((l.take i).map val) ys.toList) ?_ (l.length + 1)
      ⟨h₁, _, _, #[], φ', 0, Nat.zero_le _, rfl, rfl, hst₁, hacc, hns₁, .refl _, S₁, off, oD, oC, rfl⟩
    rintro k s' ⟨H, tk, m', ys, ψ, i, hi, rfl, rfl, hst', hacc', hn', le, S', oI, oD', oC', hr⟩
    by_cases hlt : i < l.length
    · refine W.item i _ _ _ hlt hst' fun v h₂ tk₂ hPv hst₂ hk₂ => ?_
      have hrep := (hP₀ i v _ hPv (List.getElem?_eq_getElem hlt)).mono le
      have S2 : St Y ρ' ψ h₂ := S'.others (Js := [I]) hk₂ (fun J hJ => by rw [List.mem_singleton.mp hJ]; exact oI)
      have nI : ∀ {b}, b ≠ I → b ∉ [I] := fun q z => q (List.mem_singleton.mp z)
      refine wpAny_assign_Name (wpAny_storeName_local (lookup_relabel_local hx) (hn'.at' fun o e => hk₂ _ o (nI hCI) e) (fun h₃ hn₃ hs₃ => ?_) (by simp [compEnvC, relabel, hkind]))
      have S3 : St Y ρ' ψ h₃ := S2.others (Js := [H2.objs.size]) (fun b o hb e => hs₃.extBut b o (fun z => hb (by rw [z]; exact .head _)) e) (fun J hJ => by rw [List.mem_singleton.mp hJ]; exact oC')
      have hst₃ : StW (i + 1) h₃ := W.frame _ _ _ hst₂ fun b hb o e => hs₃.extBut b o (fun z => hCfp (by rw [← show b = H2.objs.size from z]; exact hb)) e
      have hacc₃ : h₃.PlainList s₂.heap.objs.size ys := hacc'.at fun o e => hs₃.extBut _ o hDC (hk₂ _ o (nI hDI) e)
      refine wpAny_pure (a := true) ?_
      rw [if_pos rfl]
      obtain ⟨Yc, okc, Sc, kc, bc⟩ := comp_state_val (C := H2.objs.size) ok S3 hcl hkind hx hcaps hn₃ (by simp) hrep
      refine helt H2.objs.size (l[i]) (List.getElem_mem _) Yc okc ψ _ _ _ Sc ⟨fun y vy ρ₁ φ₁ s₄ hb r n₁ => ?_, fun _ _ _ _ _ f => f.elim⟩
      obtain ⟨⟨h₄, tk₄, rfl⟩, le₁, S₄⟩ := n₁
      have k4 : ∀ b o, h₃.get? b = some o → h₄.get? b = some o := fun b o e => S₄.kk b o (kc b o e)
      have new4 : ∀ b o, φ₁ b = some o → ψ b = some o ∨ h₃.get? b = none := fun b o e => by
        cases z : ψ b with
        | some o' => have := le₁ _ _ z; rw [e] at this; exact .inl this.symm
        | none =>
          right
          cases y : h₃.get? b with
          | none => rfl
          | some o' => exact absurd (bc b ⟨o', y⟩ z) (S₄.fr b o e)
      have S4 : St Y ρ' φ₁ h₄ := S3.grow k4 le₁ S₄.fz new4
      have dead : ∀ b, ψ b = none → (∃ o, h₃.get? b = some o) → φ₁ b = none := fun b e ⟨o, e'⟩ => by
        cases z : φ₁ b with
        | none => rfl
        | some o' =>
          rcases new4 b o' z with q | q
          · rw [e] at q; cases q
          · rw [e'] at q; cases q
      obtain ⟨kD, hD3⟩ := hacc₃
      obtain ⟨oC3, _, _, eC3, _⟩ := hn₃
      have oI4 := oI.at (dead _ oI.φ (hex _ _ hst₃)) (List.Sublist.refl _)
      have oD4 := oD'.at (dead _ oD'.φ ⟨_, hD3⟩) (List.Sublist.refl _)
      have oC4 := oC'.at (dead _ oC'.φ ⟨_, eC3⟩) (List.Sublist.refl _)
      have hys : ys.size ≤ sizeLine := by
        have e1 := hr.length
        rw [List.length_map, List.length_take] at e1
        have e4 : ys.toList.length = ys.size := by simp
        rw [line_is]
        omega
      refine wpAny_list_append_plain (hsz := hys) ⟨kD, k4 _ _ hD3⟩ fun h₅ hl₅ hs₅ => ?_
      have S5 : St Y ρ' φ₁ h₅ := S4.others (Js := [s₂.heap.objs.size]) (fun b o hb e => hs₅.extBut b o (fun z => hb (by rw [z]; exact .head _)) e) (fun J hJ => by rw [List.mem_singleton.mp hJ]; exact oD4)
      refine ⟨l.length + 1 - (i + 1), by omega, h₅, tk₄, _, ys.push vy, φ₁, i + 1, hlt, rfl, rfl, ?_, hl₅, (Heap.Ns.keeps ⟨oC3, _, _, eC3, by assumption⟩ k4).sameBut hs₅ (Ne.symm hDC), fun b o e => le₁ _ _ (le _ _ e), S5, oI4, oD4, oC4, ?_⟩
      · exact W.frame _ _ _ hst₃ fun b hb o e => hs₅.extBut b o (fun z => hDfp (by rw [← show b = s₂.heap.objs.size from z]; exact hb)) (k4 b o e)
      · rw [List.take_succ_eq_append_getElem hlt, List.map_append, Array.toList_push]
        exact (Reps.mono le₁ _ _ hr).append ⟨vy, [], rfl, hb ▸ r, rfl⟩
    · have hin : i = l.length := by omega
      subst hin
      refine W.done _ _ _ hst' fun h₂ tk₂ hk₂ => ?_
      have nI : ∀ {b}, b ≠ I → b ∉ [I] := fun q z => q (List.mem_singleton.mp z)
      have S2 : St Y ρ' ψ h₂ := S'.others (Js := [I]) hk₂ (fun J hJ => by rw [List.mem_singleton.mp hJ]; exact oI)
      obtain ⟨kD, hD⟩ := hacc'
      rw [List.take_length] at hr
      exact done _ _ h₂ tk₂ m' ψ ys.toList kD (Ne.symm hDC) (hn'.at' fun o e => hk₂ _ o (nI hCI) e) le S2 oD' oC' (by simpa [lobj] using hk₂ _ _ (nI hDI) hD) hr
  exact codeAny_compStart_list (loop _ rfl) (W.self 0 _ _ _ hst₁ (loop _ rfl))

/-- a comprehension without tests whose elements may be lists -/
theorem en_compN {elt iter : Expr} {x : String} {px : Pos} {scope : Scope} {cl : List (Str × Addr)} {pos : Pos} {P : List PV → Rho → Prop} (hclos : closureFor scope V.env = pure cl) (hcl : ∀ y c, cl.lookup y = some c → V.env.cells.lookup y = some c)
    (hcell : ∀ y ∈ scope.names, y.2 ≠ .cell) (hkind : scope.kind = .function) (hnames : ∀ y ∈ scope.names, y.2 = .local → scope.names.lookup y.1 = some .local) (hx : scope.names.lookup (Str.ofString x) = some .local)
    (h : Iter Γ V ρ iter (fun items ρ' => ∃ (caps : List (String × PV)) (val : PV → PV), CapsV V scope cl ρ' caps ∧
      (∀ C, ∀ item ∈ items, Ev Γ (compV V scope cl C) ((x, .val item) :: caps.map fun p => (p.1, Slot.val p.2)) elt (fun v _ => v = val item) nothing) ∧
      P (items.map val) ρ') X) (hs : ∀ x, foldedSetIterable iter V.env x = pure x := by intro _; rfl) (hm : V.hm = false := by rfl) :
    En Γ V ρ (.ListComp elt [⟨.Name (Str.ofString x) px, iter, [], 0⟩] scope pos) P X := fun Y ok φ s Q E S p => by
  rw [eval_ListComp]
  refine wpAny_comprehension_free (use := none) rfl hs hclos hkind hnames (h Y ok φ s _ E S ⟨fun l ρ' φ' s₂ I fp PW StW hl n W₀ hP₀ hst hfp off hex hlen => ?_, p.er⟩)
  obtain ⟨caps, val, hcaps, helt, hp⟩ := hl
  refine comp_core (RR := fun acc C => compPost (model Γ.prog Γ.w) V.A E none Q acc C) hcl hcell hkind hx ok n.2.2 (W₀ V.A (ok.hh hm)) hP₀ hst hfp off hex hlen hcaps helt fun D C h₂ tk₂ m' ψ ys kD hCD hC le S2 oD oC hD hr => ?_
  refine ⟨m', hC, fun h₃ hs₃ => ?_⟩
  have S3 : St Y ρ' ψ h₃ := S2.others (Js := [C]) (fun b o hb e => hs₃.extBut b o (fun z => hb (by rw [z]; exact .head _)) e) (fun J hJ => by rw [List.mem_singleton.mp hJ]; exact oC)
  obtain ⟨⟨hp2, tkp, e2⟩, le₂, _⟩ := n
  subst e2
  exact p.ok (l.map val) _ ys kD ρ' ψ _ hp ⟨⟨h₃, tk₂, rfl⟩, fun b o e => le _ _ (le₂ _ _ e), S3⟩ (hs₃.extBut _ _ (Ne.symm hCD) hD) hr oD.κ oD.φ oD.FS oD.foot oD.ban

end
end Mine
set_option Elab.async false
set_option maxRecDepth 10000
set_option linter.unusedVariables false
namespace Mine
open PySem PySem.W PySem.Calls PySem.Spec PyProof.Rows

section
variable {prog : Program} {w : World} {A : Around} {E : Value → Shared → Prop}
theorem draw_list {it t : Addr} {items : Array Value} (hne : t ≠ it) : ∀ (n i : Nat) (s : Shared) (Q : List Value → Shared → Prop), s.heap.IsListIter it t i → s.heap.IsList t items → i + n ≤ items.size →
    (∀ h', h'.IsListIter it t (i + n) → Heap.SameBut it s.heap h' → Q ((items.toList.drop i).take n) { s with heap := h' }) → wpAny (model prog w) A (draw (.ref it) n) Q E s
  | 0, i, s, Q, hit, _, _, hQ => wpAny_pure (by simpa using hQ s.heap hit (Heap.SameBut.refl ..))
  | n + 1, i, s, Q, hit, ht, hle, hQ => by
    have hlt : i < items.size := by omega
    show wpAny _ _ (pyNext (.ref it) >>= _) Q E s
    refine wpAny_bind (wpAny_pyNext_list_item hit ht (x := items[i]) (by simp [hlt]) fun h₁ hit₁ hs₁ => ?_)
    refine wpAny_bind (wpAny_holding (draw_list hne n (i + 1) _ _ hit₁ (ht.extBut hs₁.extBut hne) (by omega) fun h₂ hit₂ hs₂ => wpAny_pure ?_))
    have hd : items.toList.drop i = items[i] :: items.toList.drop (i + 1) := by simp [List.drop_eq_getElem_cons, hlt]
    have := hQ h₂ (by rw [show i + (n + 1) = i + 1 + n by omega]; exact hit₂) (hs₁.trans hs₂)
    rw [hd, List.take_succ_cons] at this
    exact this
theorem unpack_list {s : Shared} {t : Addr} {items : Array Value} {targets : List (Bool × (Value → Sem Unit))} {Q : Unit → Shared → Prop} (hh : A.handled = none) (ht : s.heap.IsList t items)
    (hn : targets.length = items.size) (hstar : targets.findIdx? (·.1) = none)
    (h : ∀ h', Heap.ExtBut s.heap.objs.size s.heap h' → wpAny (model prog w) A (assignInOrder (targets.map (·.2)) items.toList) Q E { s with heap := h' }) :
    wpAny (model prog w) A (unpack (.ref t) targets) Q E s := by
  have hlt : t ≠ s.heap.objs.size := by obtain ⟨o, ho, _⟩ := ht; exact Nat.ne_of_lt (Heap.lt_size ho)
  have up : ∀ {o}, (s.heap.push o).IsList t items := fun {o} => ht.at fun _ e => Heap.get?_push_of_some _ e
  unfold unpack
  rw [hn, hstar]
  refine wpAny_bind (wpAny_holding ?_)
  unfold unpackItems notIterableAtAll
  refine wpAny_bind ?_
  refine wpAny_bind (wpAny_specialOf ht.typeIs slot_list_iter.lookup ?_)
  refine wpAny_pure ?_
  simp only [Bool.false_eq_true, if_false]
  refine wpAny_bind (wpAny_holding (wpAny_pyIter_list ht ?_))
  refine wpAny_bind (wpAny_holding (draw_list hlt items.size 0 _ _ ⟨_, Heap.get?_push_size _ rfl, rfl, rfl⟩ up (by omega) fun h₁ hit₁ hs₁ => ?_))
  have hall : List.take items.size (List.drop 0 items.toList) = items.toList := by
    rw [List.drop_zero]; exact List.take_of_length_le (by simp)
  rw [hall, if_neg (by simp)]
  have ht₁ : h₁.IsList t items := up.extBut hs₁.extBut hlt
  refine wpAny_bind (wpAny_holding (wpAny_pyNext_list_end hh hit₁ ht₁ (by simp) fun h₂ he₂ => ?_))
  simp only [Option.isSome_none, Bool.false_eq_true, if_false]
  exact wpAny_pure (h h₂ fun b o hb e => he₂ b o hb (hs₁.extBut b o hb (Heap.get?_push_of_some _ e)))
end

noncomputable def NamesAre : List Expr → List String → Prop
  | [], [] => True
  | e :: es, x :: xs => (∃ p, e = .Name (Str.ofString x) p) ∧ NamesAre es xs
  | _, _ => False
noncomputable def updAll : List String → List PV → Rho → Rho
  | x :: xs, v :: vs, ρ => updAll xs vs (upd x (.val v) ρ)
  | _, _, ρ => ρ

section
variable {Γ : Gx} {V : Va} {ρ : Rho} {X : Exn → Rho → Prop}
theorem names_none {env : Env} : ∀ {es : List Expr} {xs : List String}, NamesAre es xs → (assignEach es env).findIdx? (·.1) = none ∧ (assignEach es env).length = xs.length
  | [], [], _ => ⟨rfl, rfl⟩
  | _ :: es, _ :: xs, ⟨⟨p, rfl⟩, h⟩ => by
    obtain ⟨a, b⟩ := names_none (env := env) h
    refine ⟨?_, ?_⟩
    · show List.findIdx? _ ((false, _) :: assignEach es env) = none
      rw [List.findIdx?_cons]
      simp [a]
    · show (assignEach es env).length + 1 = _
      rw [b]; rfl
theorem assign_names {Y : Lo} (ok : Ok Γ V Y) {M : Model} {A : Around} {E : Value → Shared → Prop} {φ φ₁ : PH} {s : Shared} (hst : V.st = true) (xs : List String) : ∀ (es : List Expr) (vs : List PV) (ws : List Value) (ρ : Rho) (s₁ : Shared) (Q : Unit → Shared → Prop), NamesAre es xs → xs.all (canStore V.env) = true → Reps φ₁ vs ws → vs.length = xs.length → Nx Y φ ρ φ₁ s s₁ →
    (∀ s', Nx Y φ (updAll xs vs ρ) φ₁ s s' → Q () s') → wpAny M A (assignInOrder ((assignEach es V.env).map (·.2)) ws) Q E s₁ := by
  induction xs with
  | nil =>
    intro es vs ws ρ s₁ Q hN _ r hl n h
    cases es with
    | cons => exact hN.elim
    | nil =>
      cases vs with
      | cons => cases hl
      | nil =>
        rw [show ws = [] from r]
        exact wpAny_pure (h s₁ n)
  | cons x xs ih =>
    intro es vs ws ρ s₁ Q hN hc r hl n h
    cases es with
    | nil => exact hN.elim
    | cons e es =>
      cases vs with
      | nil => cases hl
      | cons v vs =>
        obtain ⟨⟨p, rfl⟩, hN⟩ := hN
        obtain ⟨w, r', rfl, h1, h2⟩ := r
        rw [List.all_cons, Bool.and_eq_true] at hc
        show wpAny _ _ (do holding r' (assign (.Name (Str.ofString x) p) V.env w); assignInOrder ((assignEach es V.env).map (·.2)) r') _ _ _
        refine wpAny_bind (wpAny_holding (wpAny_assign_Name (store_val ok n hst hc.1 h1 fun s₂ n₂ => ?_)))
        exact ih es vs r' _ s₂ Q hN hc.2 h2 (by simpa using hl) n₂ h

end
end Mine
set_option Elab.async false
set_option maxRecDepth 10000
set_option linter.unusedVariables false
namespace Mine
open PySem PySem.W PySem.Calls PySem.Spec PyProof.Rows

section
variable {Γ : Gx} {V : Va} {ρ : Rho} {X : Exn → Rho → Prop}
/-- `x.extend(e)` -/
theorem e1_extend {x : String} {e : Expr} {npos apos pos pos' : Pos} {a : Addr} {l₀ : List PV} {P : Out → Prop} (hg : get x ρ = some (.own a l₀))
    (h : Ev Γ V ρ e (fun v ρ' => ∃ l m, v = .list m ∧ get x ρ' = some (.own a l) ∧ l.length + m.length ≤ 1000000 ∧ P (.next (upd x (.own a (l ++ m)) ρ'))) X)
    (hline : (apos.endLine == pos.line) = true := by rfl) (hs : isStar e = false := by rfl) (hd : plainName x = true := by decide +kernel)
    (hb : attributeBase (.Name (Str.ofString x) npos) "extend" V.env (eval (.Name (Str.ofString x) npos) V.env) = eval (.Name (Str.ofString x) npos) V.env := by rfl)
    (hi : interactive V.env = false := by rfl) (hw : swapsWith (.Call (.Attribute (.Name (Str.ofString x) npos) "extend" apos) [e] [] pos) none pos'.line V.env = pure false := by rfl) :
    E1 Γ V ρ (.Expr (.Call (.Attribute (.Name (Str.ofString x) npos) "extend" apos) [e] [] pos) pos') P X := fun Y ok φ s Q E hE S p => by
  refine wpAny_Expr (Call_method1 hb (by rw [starEach_cons hs]; rfl) hline (own_load ok S hg ?_ hd)) hi hw
  obtain ⟨m, hn, hv⟩ := S.vars
  obtain ⟨w, _, rfl, vs, k, hao, _⟩ := hv x _ (mem_of_get hg)
  refine ⟨"list", "list.extend", F.plainAttrs_list, F.slot_list_extend, F.type_list_extend, ⟨_, hao, rfl⟩, fun b e => by cases e; exact ⟨_, hao, rfl⟩, ?_⟩
  refine PySem.P.extend_list (h Y ok φ s _ E S ⟨fun v val ρ' φ' s' hp hr n => ?_, p.er⟩)
  obtain ⟨l, mm, rfl, hg', hlen, hp⟩ := hp
  obtain ⟨b, ms, kb, rfl, hb', hrm⟩ := hr
  have S' := n.2.2
  obtain ⟨m', _, hv'⟩ := S'.vars
  obtain ⟨w', _, rfl, vs', k', hao', hr'⟩ := hv' x _ (mem_of_get hg')
  have hz1 : vs'.toArray.size + ms.toArray.size ≤ 1000000 := by rw [List.size_toArray, List.size_toArray, hr'.length, hrm.length]; exact hlen
  refine ⟨b, vs'.toArray, ms.toArray, k', kb, by rw [line_is]; omega, by rw [line_is]; omega, ?_, rfl, hao', S'.fz _ _ hb', ?_⟩
  · rw [Builtin.List.listTooLong]
    simp [sizeLine]
    intro _
    rw [List.size_toArray, List.size_toArray] at hz1
    omega
  · obtain ⟨k2, e1⟩ : ∃ k2, (s'.heap.update a (Obj.mapSeq fun xs => xs ++ ms.toArray)).get? a = some (lobj (vs' ++ ms) k2) := by
      have em : ∃ k2, Obj.mapSeq (fun xs => xs ++ ms.toArray) (lobj vs' k') = lobj (vs' ++ ms) k2 := by
        simp [Obj.mapSeq, lobj]
      obtain ⟨k2, em⟩ := em
      exact ⟨k2, by rw [Heap.get?_update_self _ hao' (by rw [em]; rfl), em]⟩
    exact p.nx _ _ _ hp (n.trans ⟨⟨_, s'.toks, rfl⟩, .refl _, S'.mutate hg' (Heap.SameBut.update ..) e1 (hr'.append hrm)⟩)
end
end Mine
set_option Elab.async false
set_option maxRecDepth 100000
set_option linter.unusedVariables false
namespace Mine
open PySem PySem.W PySem.Calls PySem.Spec PyProof.Rows

theorem pidx_at {α : Type} {l : List α} {i : Int} {n : Nat} {x : α} (h : i = n) (hx : l[n]? = some x) : pidx l i = some x := by
  subst h
  rw [pidx_nn (Int.natCast_nonneg _)]
  exact hx
theorem pslice_take {α : Type} (l : List α) (k : Nat) : pslice l none (some (k : Int)) = l.take k := by
  unfold pslice
  simp only [Option.elim]
  rw [List.drop_zero, Nat.sub_zero, clipAt_nat]
  by_cases h : k ≤ l.length
  · rw [Nat.min_eq_left h]
  · rw [Nat.min_eq_right (by omega), List.take_length, List.take_of_length_le (by omega)]
theorem pslice_drop {α : Type} (l : List α) (k : Nat) : pslice l (some (k : Int)) none = l.drop k := by
  unfold pslice
  simp only [Option.elim]
  rw [clipAt_nat]
  by_cases h : k ≤ l.length
  · rw [Nat.min_eq_left h, List.take_of_length_le (by simp)]
  · rw [Nat.min_eq_right (by omega), List.drop_length, List.drop_of_length_le (by omega)]
    simp

section
variable {Γ : Gx}
theorem for_inv {V : Va} {ρ : Rho} {X : Exn → Rho → Prop} {x : String} {body : List Stmt} {P : Out → Prop} {items : List PV} (I : Nat → Rho → Prop) (h0 : I 0 ρ)
    (step : ∀ i v ρ, items[i]? = some v → I i ρ → Ex Γ V (upd x (.val v) ρ) body (fun o => match o with | .next ρ' => I (i + 1) ρ' | .cont ρ' => I (i + 1) ρ' | .brk ρ' => P (.next ρ') | .ret v ρ' => P (.ret v ρ')) X)
    (fin : ∀ ρ, I items.length ρ → P (.next ρ)) : For Γ V X x body P items ρ := by
  have : ∀ n i ρ, n + i = items.length → I i ρ → For Γ V X x body P (items.drop i) ρ := fun n => by
    induction n with
    | zero =>
      intro i ρ e h
      rw [List.drop_of_length_le (by omega)]
      have : i = items.length := by omega
      subst this
      exact fin ρ h
    | succ n ih =>
      intro i ρ e h
      have hlt : i < items.length := by omega
      rw [List.drop_eq_getElem_cons hlt]
      refine ex_mono (step i items[i] ρ (by simp [hlt]) h) fun o ho => ?_
      cases o with
      | next ρ' => exact ih (i + 1) ρ' (by omega) ho
      | cont ρ' => exact ih (i + 1) ρ' (by omega) ho
      | brk ρ' => exact ho
      | ret v ρ' => exact ho
  exact this items.length 0 ρ (by omega) h0
theorem e1_via {V : Va} {ρ : Rho} {X : Exn → Rho → Prop} {st : Stmt} {P : Out → Prop} (J : Rho → Prop) (h : E1 Γ V ρ st (fun o => match o with | .next ρ' => J ρ' | _ => False) X) (k : ∀ ρ', J ρ' → P (.next ρ')) : E1 Γ V ρ st P X := fun Y ok φ s Q E hE S p =>
  h Y ok φ s Q E hE S ⟨fun ρ' φ' s' a n => p.nx _ _ _ (k _ a) n, fun ρ' φ' s' a n => a.elim, fun ρ' φ' s' a n => a.elim, fun v val ρ' φ' s' a b n => a.elim, p.er⟩

end

theorem get_upd (x y : String) (s : Slot) : ∀ ρ : Rho, get y (upd x s ρ) = if y = x then some s else get y ρ
  | [] => by
    unfold upd Mine.get
    by_cases h : y = x
    · subst h; simp
    · rw [if_neg h, if_neg (Ne.symm h)]; rfl
  | (z, t) :: r => by
    have hd : ∀ r : Rho, y ≠ x → get y (del x r) = get y r := fun r => by
      intro ne
      induction r with
      | nil => rfl
      | cons p r ih =>
        obtain ⟨z, t⟩ := p
        unfold del
        by_cases h : z = x
        · rw [if_pos h, ih]
          show _ = if z = y then some t else get y r
          rw [if_neg (fun (q : z = y) => ne (q ▸ h))]
        · rw [if_neg h]
          show (if z = y then some t else get y (del x r)) = if z = y then some t else get y r
          rw [ih]
    unfold upd
    by_cases h : z = x
    · rw [if_pos h]
      show (if x = y then some s else get y (del x r)) = _
      by_cases h' : y = x
      · rw [if_pos h'.symm, if_pos h']
      · rw [if_neg (Ne.symm h'), if_neg h', hd r h']
        show _ = if z = y then some t else get y r
        rw [if_neg (fun (q : z = y) => h' (q ▸ h))]
    · rw [if_neg h]
      show (if z = y then some t else get y (upd x s r)) = _
      rw [get_upd x y s r]
      by_cases h' : z = y
      · rw [if_pos h', if_neg (fun (q : y = x) => h (h'.trans q))]
        show _ = if z = y then some t else get y r
        rw [if_pos h']
      · rw [if_neg h']
        show _ = if y = x then some s else if z = y then some t else get y r
        rw [if_neg h']
theorem get_upd_self (x : String) (s : Slot) (ρ : Rho) : get x (upd x s ρ) = some s := by rw [get_upd, if_pos rfl]
theorem get_upd_ne {x y : String} {s t : Slot} {ρ : Rho} (h : get y ρ = some t) (ne : y ≠ x := by decide) : get y (upd x s ρ) = some t := by rw [get_upd, if_neg ne, h]
noncomputable abbrev pss (l : List (List Nat)) : List PV := l.map PV.str

noncomputable abbrev lastOf (o : List Nat) : Nat := o.getLastD 0
theorem getLast_at {o : List Nat} (h : 1 ≤ o.length) : pidx o (-1) = some (lastOf o) := by
  rw [pidx_ng (by omega) (by omega)]
  have e : ((-1 : Int) + o.length).toNat = o.length - 1 := by omega
  rw [e, ← List.getLast?_eq_getElem?]
  cases o with
  | nil => simp at h
  | cons a r => simp [lastOf, List.getLast?_eq_some_getLast]
end Mine
set_option Elab.async false
set_option maxRecDepth 10000
set_option linter.unusedVariables false
namespace Mine
open PySem PySem.W PySem.Calls PySem.Spec PyProof.Rows
section
variable {Γ : Gx} {V : Va} {ρ : Rho} {X : Exn → Rho → Prop}
end
end Mine
set_option Elab.async false
set_option maxRecDepth 10000
set_option linter.unusedVariables false
namespace Mine
open PySem PySem.W PySem.Calls PySem.Spec PyProof.Rows
section
variable {Γ : Gx} {V : Va} {ρ : Rho} {X : Exn → Rho → Prop}
/-- `a and b` as a value, a and b truths -/
theorem ev_and {a b : Expr} {pos : Pos} {P : PV → Rho → Prop}
    (h : Ev Γ V ρ a (fun x ρ₁ => ∃ c, x = .bool c ∧ (c = false → P (.bool false) ρ₁) ∧ (c = true → Ev Γ V ρ₁ b P X)) X) : Ev Γ V ρ (.BoolOp .And [a, b] pos) P X := fun Y ok φ s Q E S p => by
  refine BoolOp_and (h Y ok φ s _ E S ⟨fun x vx ρ₁ φ₁ s₁ hb rx n₁ => ?_, p.er⟩)
  obtain ⟨c, rfl, h1, h2⟩ := hb
  rw [show vx = _ from rx]
  refine wpAny_truthy_bool ?_
  cases c with
  | false => exact p.ok _ _ ρ₁ φ₁ _ (h1 rfl) rfl n₁
  | true => exact BoolOp_one (h2 rfl Y ok φ₁ s₁ Q E n₁.2.2 (p.after n₁))
end
end Mine
set_option Elab.async false
set_option maxRecDepth 10000
set_option linter.unusedVariables false
namespace Mine
open PySem PySem.W PySem.Calls PySem.Spec PyProof.Rows

section
variable {Γ : Gx} {V : Va} {ρ : Rho} {X : Exn → Rho → Prop}
mutual
theorem Rep.inj {φ : PH} : ∀ (p q : PV) (v : Value), Rep φ p v → Rep φ q v → p = q
  | .none, q, v, a, b => by
    rw [show v = _ from a] at b
    cases q <;> first | rfl | (simp [Rep] at b)
  | .bool c, q, v, a, b => by
    rw [show v = _ from a] at b
    cases q <;> first | (simp [Rep] at b; done) | (simp [Rep] at b; rw [b])
  | .int i, q, v, a, b => by
    obtain ⟨t, rfl⟩ := a
    cases q <;> first | (simp [Rep] at b; done) | (simp [Rep] at b; rw [b])
  | .str x, q, v, a, b => by
    obtain ⟨t, rfl⟩ := a
    cases q <;> first | (simp [Rep] at b; done) | (simp [Rep] at b; rw [b])
  | .bytes x, q, v, a, b => by
    obtain ⟨t, rfl⟩ := a
    cases q <;> first | (simp [Rep] at b; done) | (simp [Rep] at b; rw [b])
  | .list l, q, v, a, b => by
    obtain ⟨a', vs, n, rfl, e, r⟩ := a
    cases q with
    | list l' =>
      obtain ⟨a'', vs', n', e1, e2, r'⟩ := b
      cases e1
      rw [e] at e2
      injection e2 with e2
      simp only [lobj, Obj.mk.injEq, Data.seq.injEq, true_and, and_true] at e2
      have : vs = vs' := by simpa using e2.1
      subst this
      rw [Reps.inj l l' vs r r']
    | _ => simp [Rep] at b
theorem Reps.inj {φ : PH} : ∀ (p q : List PV) (v : List Value), Reps φ p v → Reps φ q v → p = q
  | [], [], _, _, _ => rfl
  | [], _ :: _, v, a, b => by
    rw [show v = [] from a] at b
    obtain ⟨_, _, e, _⟩ := b
    cases e
  | _ :: _, [], v, a, b => by
    rw [show v = [] from b] at a
    obtain ⟨_, _, e, _⟩ := a
    cases e
  | p :: ps, q :: qs, v, a, b => by
    obtain ⟨w, r, rfl, a1, a2⟩ := a
    obtain ⟨w', r', e, b1, b2⟩ := b
    cases e
    rw [Rep.inj p q _ a1 b1, Reps.inj ps qs _ a2 b2]
end
open Classical in
noncomputable def decV (φ : PH) (v : Value) : PV := if h : ∃ p, Rep φ p v then h.choose else .none
theorem decV_of {φ : PH} {p : PV} {v : Value} (h : Rep φ p v) : decV φ v = p := by
  unfold decV
  have hx : ∃ p, Rep φ p v := ⟨p, h⟩
  rw [dif_pos hx]
  exact Rep.inj _ _ v hx.choose_spec h



/-- the names that a comprehension's block reads from around -/
noncomputable def Caps (V : Va) (scope : Scope) (cl : List (Str × Addr)) (ρ : Rho) : List (String × PV) → Prop
  | [] => True
  | (y, v) :: r => ((get y ρ = some (.val v) ∨ ∃ a l, get y ρ = some (.own a l) ∧ v = .list l) ∧ (V.env.kindOf (Str.ofString y) ≠ some .local ∧ (cl.lookup (Str.ofString y)).isSome = true ∧
      ∀ C, (compEnvC scope cl C V.env).kindOf (Str.ofString y) = some .cell ∨ (compEnvC scope cl C V.env).kindOf (Str.ofString y) = some .free)) ∧ Caps V scope cl ρ r
theorem Caps.mem {V : Va} {scope : Scope} {cl : List (Str × Addr)} {ρ : Rho} {y : String} {v : PV} : ∀ {l : List (String × PV)}, Caps V scope cl ρ l → (y, v) ∈ l → ((get y ρ = some (.val v) ∨ ∃ a l, get y ρ = some (.own a l) ∧ v = .list l) ∧ (V.env.kindOf (Str.ofString y) ≠ some .local ∧ (cl.lookup (Str.ofString y)).isSome = true ∧
      ∀ C, (compEnvC scope cl C V.env).kindOf (Str.ofString y) = some .cell ∨ (compEnvC scope cl C V.env).kindOf (Str.ofString y) = some .free))
  | _ :: _, h, .head _ => h.1
  | _ :: _, h, .tail _ m => Caps.mem h.2 m

open Classical in
noncomputable def ownPH (φ : PH) (ρ : Rho) (h : Heap) : PH := fun b => if (∃ y l, (y, Slot.own b l) ∈ ρ) then h.get? b else φ b

theorem ownPH_in {φ : PH} {ρ : Rho} {h : Heap} {b : Addr} (q : ∃ y l, (y, Slot.own b l) ∈ ρ) : ownPH φ ρ h b = h.get? b := by
  unfold ownPH; rw [if_pos q]
theorem ownPH_out {φ : PH} {ρ : Rho} {h : Heap} {b : Addr} (q : ¬ ∃ y l, (y, Slot.own b l) ∈ ρ) : ownPH φ ρ h b = φ b := by
  unfold ownPH; rw [if_neg q]

/-- the state within a comprehension's block -/
theorem comp_state {Y : Lo} (ok : Ok Γ V Y) {φ : PH} {h₂ h₃ : Heap} (S : St Y ρ φ h₂) {I C : Addr} (off : Off Y ρ φ I) {scope : Scope} {cl : List (Str × Addr)} {caps : List (String × PV)} {x : String} {item : PV} {v : Value} {m₃ : Str → Option Value}
    (hcl : ∀ y c, cl.lookup y = some c → V.env.cells.lookup y = some c) (hkind : scope.kind = .function) (hx : scope.names.lookup (Str.ofString x) = some .local) (hcaps : Caps V scope cl ρ caps)
    (hn : h₃.Ns C m₃) (hm : m₃ (Str.ofString x) = some v) (hk : ∀ b o, b ∉ [I] → h₂.get? b = some o → h₃.get? b = some o) (hr : Rep φ item v) :
    ∃ (Yc : Lo) (φc : PH), Ok Γ (compV V scope cl C) Yc ∧ St Yc ((x, .val item) :: caps.map fun p => (p.1, Slot.val p.2)) φc h₃ ∧ (∀ b o, h₃.get? b = some o → Yc.κ b = some o) := by
  have hk' : ∀ b o, b ≠ I → h₂.get? b = some o → h₃.get? b = some o := fun b o ne e => hk b o (fun hm => ne (List.mem_singleton.mp hm)) e
  let φc := ownPH φ ρ h₂
  have own_in : ∀ {b : Addr}, (∃ y l, (y, Slot.own b l) ∈ ρ) → b ∈ foot ρ := fun ⟨y, l, m⟩ => foot_mem m (.head _)
  have le : φ.le φc := fun b o e => by
    refine (ownPH_out fun q => ?_).trans e
    rw [(S.off b (List.mem_append_right _ (own_in q))).2.1] at e; cases e
  have sub : ∀ b o, φc b = some o → h₃.get? b = some o := fun b o e => by
    by_cases q : ∃ y l, (y, Slot.own b l) ∈ ρ
    · rw [show φc b = h₂.get? b from ownPH_in q] at e
      exact hk' b o (fun z => off.foot (List.mem_append_right _ (z ▸ own_in q))) e
    · rw [show φc b = φ b from ownPH_out q] at e
      exact hk' b o (fun z => by rw [z, off.φ] at e; cases e) (S.fz b o e)
  refine ⟨⟨compEnvC scope cl C V.env, [], fun a => h₃.get? a, [], fun _ => .plain, fun a => (∃ o, h₃.get? a = some o) ∧ φc a = none⟩, φc, ?_, ?_, fun b o e => e⟩
  · refine ⟨rfl, rfl, fun a o e => ?_, hkind, ok.glb, ok.bns, ok.hh, ok.dep, ok.uni, fun y z c e e' => ok.ci y z c (hcl _ _ e) (hcl _ _ e'), (fun h => nomatch h), (fun _ h => nomatch h), (fun h => by cases h)⟩
    have e1 := ok.gb a o e
    exact hk' a o (fun q => by rw [q, off.κ] at e1; cases e1) (S.kk a o e1)
  · refine ⟨fun _ _ e => e, (fun _ h => nomatch h), sub, fun a o e q => (by rw [q.2] at e; cases e), fun a q => q.1, fun y a l m => ?_, ⟨m₃, hn, fun y sl m => ?_⟩, fun y c e => ?_, (fun _ h => nomatch h), ?_, ?_, (fun _ h => nomatch h)⟩
    · rcases List.mem_cons.mp m with e | m
      · cases e
      · obtain ⟨p, _, e⟩ := List.mem_map.mp m
        cases e
    · rcases List.mem_cons.mp m with e | m
      · cases e
        exact ⟨v, .inl ⟨lookup_relabel_local hx, hm⟩, Rep.mono le _ _ hr⟩
      · obtain ⟨⟨y', pv⟩, hp, e⟩ := List.mem_map.mp m
        cases e
        obtain ⟨hg, hnl, hsome, hkc⟩ := hcaps.mem hp
        obtain ⟨mm, hmm, hv⟩ := S.vars
        obtain ⟨c, hc⟩ := Option.isSome_iff_exists.mp hsome
        have hcV := hcl _ _ hc
        have cellOf : ∀ {w : Value}, VarAt Y.env mm h₂ (Str.ofString y') w → VarAt (compEnvC scope cl C V.env) m₃ h₃ (Str.ofString y') w := fun {w} hw => by
          rw [ok.ee] at hw
          rcases hw with ⟨q, _⟩ | ⟨q, c', hc', o, e, d⟩
          · exact absurd q hnl
          · rw [hcV] at hc'
            cases hc'
            exact .inr ⟨hkc C, c, hc, o, hk' c o (off.cells _ c (by rw [ok.ee]; exact hcV)) e, d⟩
        rcases hg with hg | ⟨a, l, hg, rfl⟩
        · obtain ⟨w, a, b⟩ := hv y' _ (mem_of_get hg)
          exact ⟨w, cellOf a, Rep.mono le _ _ b⟩
        · obtain ⟨w, hw, rfl, vs, n, e, hr'⟩ := hv y' _ (mem_of_get hg)
          refine ⟨_, cellOf hw, a, vs, n, rfl, ?_, Reps.mono le _ _ hr'⟩
          rw [show φc a = h₂.get? a from ownPH_in ⟨y', l, mem_of_get hg⟩]
          exact e
    · have hcV := hcl _ _ e
      obtain ⟨v', o, z, d⟩ := S.cells y c (by rw [ok.ee]; exact hcV)
      exact ⟨v', o, hk' c o (off.cells _ c (by rw [ok.ee]; exact hcV)) z, d⟩
    · show ([] ++ foot (_ :: _)).Nodup
      rw [List.nil_append]
      show ([] ++ foot _).Nodup
      rw [foot_vals]
      exact List.nodup_nil
    · intro a ha
      have : a ∈ ([] : List Addr) ++ ([] ++ foot (caps.map fun p => (p.1, Slot.val p.2))) := ha
      rw [foot_vals] at this
      exact nomatch this

noncomputable def ifsOk (Γ : Gx) (V : Va) (ρ : Rho) (t : Bool) : List Expr → Prop
  | [] => t = true
  | [c] => Et Γ V ρ c (fun b _ => b = t) nothing
  | _ => False

theorem walks_within {prog : Program} {w : World} {A : Around} {I : Addr} {fp wr : List Addr} {n : Nat} {P : Nat → Value → Prop} {St : Nat → Heap → Prop} (W : Walks prog w A I fp wr n P St) : Walks prog w A I fp wr n (fun i v => P i v ∧ i < n) St where
  sub := W.sub
  frame := W.frame
  item := fun i s Q E hi st hQ => W.item i s Q E hi st fun v h' tk a => hQ v h' tk ⟨a, hi⟩
  done := W.done
  self := W.self

theorem reps_paired {φ : PH} {test : PV → Bool} {val : PV → PV} : ∀ {l : List PV} {vs ys : List Value}, vs.length = l.length → (∀ (j : Nat) (v : Value), vs[j]? = some v → ∃ p : PV, l[j]? = some p ∧ Rep φ p v) →
    Paired (fun v y => Rep (fun _ => none) (val (decV φ v)) y) (vs.filter fun v => test (decV φ v)) ys → Reps φ ((l.filter test).map val) ys
  | [], [], ys, _, _, h => by cases h; rfl
  | p :: l, v :: vs, ys, e, hv, h => by
    obtain ⟨q, e1, hr⟩ := hv 0 v rfl
    cases e1
    have ih := fun ys => @reps_paired φ test val l vs ys (by simpa using e) fun j v e => by
      obtain ⟨p', e1, r1⟩ := hv (j + 1) v (by simpa using e)
      exact ⟨p', by simpa using e1, r1⟩
    rw [List.filter_cons, decV_of hr] at h
    rw [List.filter_cons]
    split at h
    · rename_i ht
      rw [if_pos ht]
      cases h with
      | cons a b =>
        rw [decV_of hr] at a
        exact ⟨_, _, rfl, Rep.mono (fun _ _ e => by cases e) _ _ a, ih _ b⟩
    · rename_i ht
      rw [if_neg ht]
      exact ih _ h

theorem en_comp {elt iter : Expr} {x : String} {px : Pos} {ifs : List Expr} {scope : Scope} {cl : List (Str × Addr)} {pos : Pos} {P : List PV → Rho → Prop} (hclos : closureFor scope V.env = pure cl) (hcl : ∀ y c, cl.lookup y = some c → V.env.cells.lookup y = some c)
    (hcell : ∀ y ∈ scope.names, y.2 ≠ .cell) (hkind : scope.kind = .function) (hnames : ∀ y ∈ scope.names, y.2 = .local → scope.names.lookup y.1 = some .local) (hx : scope.names.lookup (Str.ofString x) = some .local)
    (h : Iter Γ V ρ iter (fun items ρ' => ∃ (caps : List (String × PV)) (test : PV → Bool) (val : PV → PV), Caps V scope cl ρ' caps ∧
      (∀ C, ∀ item ∈ items, ifsOk Γ (compV V scope cl C) ((x, .val item) :: caps.map fun p => (p.1, Slot.val p.2)) (test item) ifs) ∧
      (∀ C, ∀ item ∈ items, test item = true → Ev Γ (compV V scope cl C) ((x, .val item) :: caps.map fun p => (p.1, Slot.val p.2)) elt (fun v _ => v = val item ∧ flat v = true) nothing) ∧
      P ((items.filter test).map val) ρ') X) (hs : ∀ x, foldedSetIterable iter V.env x = pure x := by intro _; rfl) (hm : V.hm = false := by rfl) :
    En Γ V ρ (.ListComp elt [⟨.Name (Str.ofString x) px, iter, ifs, 0⟩] scope pos) P X := fun Y ok φ s Q E S p => by
  rw [eval_ListComp]
  refine wpAny_comprehension_free (use := none) rfl hs hclos hkind hnames (h Y ok φ s _ E S ⟨fun l ρ' φ' s₂ I fp PW StW hl n W₀ hP₀ hst hfp off hex hlen => ?_, p.er⟩)
  obtain ⟨caps, test, val, hcaps, htest, helt, hp⟩ := hl
  have S₂ := n.2.2
  have W := walks_within (W₀ V.A (ok.hh hm))
  have hitem : ∀ {i v}, (PW i v ∧ i < l.length) → ∃ p, p ∈ l ∧ l[i]? = some p ∧ Rep φ' p v := fun {i v} hv => by
    refine ⟨l[i]'hv.2, List.getElem_mem _, by simp [hv.2], hP₀ i v _ hv.1 (by simp [hv.2])⟩
  refine comp_block_walkC (RR := fun acc C => compPost (model Γ.prog Γ.w) V.A E none Q acc C) W (Nat.le_trans hlen (by rw [line_is]; decide)) (fun v => test (decV φ' v)) (fun v y => Rep (fun _ => none) (val (decV φ' v)) y) hcell hkind hx hst (fun b hb => ?_) ⟨?_, ?_⟩ ?_
  · rcases hfp b hb with rfl | ⟨o, e⟩
    · obtain ⟨o, e⟩ := hex 0 _ hst; exact Heap.lt_size e
    · exact Heap.lt_size (S₂.fz _ _ e)
  · intro C i v s₃ m₃ E' hC hv hn hm hk htk
    obtain ⟨it, hmem, _, hr⟩ := hitem hv
    obtain ⟨Yc, φc, okc, Sc, kc⟩ := comp_state ok S₂ off hcl hkind hx hcaps hn hm hk hr
    rw [decV_of hr]
    have ht := htest C it hmem
    match ifs, ht with
    | [], ht => exact wpAny_pure ⟨ht.symm, s₃.heap, s₃.toks, rfl, fun _ _ e => e⟩
    | [c], ht =>
      show wpAny _ _ (do let r ← (if true = true then do let ok ← isTrue c (compEnvC scope cl C V.env) (eval c (compEnvC scope cl C V.env)); pure (ForInStep.yield ok) else pure (ForInStep.yield true)); _) _ _ _
      refine wpAny_bind ?_
      rw [if_pos rfl]
      refine wpAny_bind (ht Yc okc φc s₃ _ E' Sc ⟨fun b ρ₁ φ₁ s₄ hb n₁ => ?_, fun _ _ _ _ _ f => f.elim⟩)
      refine wpAny_pure (wpAny_pure ⟨hb, ?_⟩)
      obtain ⟨⟨h', tk, rfl⟩, _, S₄⟩ := n₁
      exact ⟨h', tk, rfl, fun b o e => S₄.kk b o (kc b o e)⟩
    | _ :: _ :: _, ht => exact ht.elim
  · intro C i v s₃ m₃ E' hC hv hpv hn hm hk htk
    obtain ⟨it, hmem, _, hr⟩ := hitem hv
    obtain ⟨Yc, φc, okc, Sc, kc⟩ := comp_state ok S₂ off hcl hkind hx hcaps hn hm hk hr
    rw [decV_of hr] at hpv ⊢
    refine helt C it hmem hpv Yc okc φc s₃ _ E' Sc ⟨fun y vy ρ₁ φ₁ s₄ hb r n₁ => ?_, fun _ _ _ _ _ f => f.elim⟩
    obtain ⟨⟨h', tk, rfl⟩, _, S₄⟩ := n₁
    refine ⟨?_, h', tk, rfl, fun b o e => S₄.kk b o (kc b o e)⟩
    rw [← hb.1]
    exact Rep.flat hb.2 r
  · intro D C h' tk m' ys vs hD hC hDC hn hl hpl hlen' hP hF hk
    refine ⟨m', hn, fun h'' hs'' => ?_⟩
    have hpl' := hpl.extBut hs''.extBut hDC
    obtain ⟨k, hpl'⟩ := hpl'
    have keep : ∀ b o, b ≠ I → s₂.heap.get? b = some o → h''.get? b = some o := fun b o ne e => hs''.extBut b o (by rintro rfl; rw [hC] at e; cases e) (hk b o (fun hm => ne (List.mem_singleton.mp hm)) e)
    have S₃ := S₂.other keep off.κ off.φ off.FS off.foot off.loc off.cells off.ban
    obtain ⟨z1, z2, z3, z4, z5⟩ := S₂.fresh hD
    obtain ⟨⟨h₂, tk₂, rfl⟩, le₂, _⟩ := n
    refine p.ok _ D ys.toList k ρ' φ' _ hp ⟨⟨h'', tk, rfl⟩, le₂, S₃⟩ (by simpa [lobj] using hpl') ?_ z1 z2 z3 z4 z5
    exact reps_paired hlen' (fun j v e => (hitem (hP j v e)).imp fun _ q => q.2) hF
end
end Mine
set_option Elab.async false
set_option maxRecDepth 10000
set_option linter.unusedVariables false
namespace Mine
open PySem PySem.W PySem.Calls PySem.Spec PyProof.Rows
open PySem.Builtin.Str (strSliceIndices)

/-- the bounds of a slice of a text, as they stand -/
noncomputable def TCut (n : Nat) (lo hi : Option Int) (a b : Nat) : Prop := a ≤ b ∧ b ≤ n ∧ (lo = some (a : Int) ∨ (lo = none ∧ a = 0)) ∧ (hi = some (b : Int) ∨ (hi = none ∧ b = n) ∨ (hi = some (-1) ∧ b + 1 = n))
theorem tcut_idx {n : Nat} {lo hi : Option Int} {a b : Nat} (h : TCut n lo hi a b) : strSliceIndices lo hi 1 n = strSliceIndices (some (a : Int)) (some (b : Int)) 1 n := by
  obtain ⟨h1, h2, h3, h4⟩ := h
  have lo0 : ∀ u, strSliceIndices none u 1 n = strSliceIndices (some 0) u 1 n := fun u => by
    have e : max (0 : Int) (min 0 (n : Int)) = 0 := by omega
    simp [strSliceIndices, e]
  have hi0 : ∀ l, strSliceIndices l none 1 n = strSliceIndices l (some (n : Int)) 1 n := fun l => by
    have e : max (0 : Int) (min (if (n : Int) < 0 then (n : Int) + n else n) (n : Int)) = n := by
      rw [if_neg (by omega)]
      omega
    simp [strSliceIndices, e]
  have e1 : strSliceIndices lo hi 1 n = strSliceIndices (some (a : Int)) hi 1 n := by
    rcases h3 with rfl | ⟨rfl, rfl⟩
    · rfl
    · exact lo0 hi
  rw [e1]
  rcases h4 with rfl | ⟨rfl, rfl⟩ | ⟨rfl, h4⟩
  · rfl
  · exact hi0 _
  · have e : (-1 : Int) + (n : Int) = (b : Int) := by omega
    have e2 : ¬ ((b : Int) < 0) := by omega
    simp [strSliceIndices, e, e2]

section
variable {Γ : Gx} {V : Va} {ρ : Rho} {X : Exn → Rho → Prop}
/-- a slice of a text -/
theorem ev_tslice {value : Expr} {lower upper : Option Expr} {q pos : Pos} {P : PV → Rho → Prop}
    (h : Ev Γ V ρ value (fun x ρ₁ => ∃ t : List Nat, x = .str t ∧ t.length ≤ 1000000 ∧ Evp Γ V ρ₁ lower (fun lo ρ₂ => Evp Γ V ρ₂ upper (fun hi ρ₃ => ∃ a b, TCut t.length lo hi a b ∧ P (.str ((t.drop a).take (b - a))) ρ₃) X) X) X) (ht : ∀ o r, letTemporaryGo value o r = pure () := by intro _ _; rfl) :
    Ev Γ V ρ (.Subscript value (.Slice lower upper none q) pos) P X := fun Y ok φ s Q E S p => by
  refine wpAny_Subscript_str_slice (h Y ok φ s _ E S ⟨fun x vx ρ₁ φ₁ s₁ hb rx n₁ => ?_, p.er⟩) ht
  obtain ⟨t, rfl, hlt, hb⟩ := hb
  obtain ⟨tk, rfl⟩ := rx
  refine evp_sound ok hb n₁.2.2 (fun lo vl ρ₂ φ₂ s₂ hb₂ pl n₂ => ?_) fun x e ρ' φ' s' a b c => p.er x e ρ' φ' s' a b (n₁.trans c)
  refine evp_sound ok hb₂ n₂.2.2 (fun hi vu ρ₃ φ₃ s₃ hb₃ pu n₃ => ?_) fun x e ρ' φ' s' a b c => p.er x e ρ' φ' s' a b (n₁.trans (n₂.trans c))
  obtain ⟨a, b, hcut, hp⟩ := hb₃
  have part : ∀ {v : Value} {i : Option Int}, IsPart v i → ∃ l : Option (Int × Tok), v = partValue l ∧ l.map (·.1) = i := fun {v i} h => by
    cases h with
    | none => exact ⟨none, rfl, rfl⟩
    | int i t => exact ⟨some (i, t), rfl, rfl⟩
  obtain ⟨pl', e1, e2⟩ := part pl
  obtain ⟨pu', e3, e4⟩ := part pu
  refine ⟨⟨t.toArray⟩, tk, pl', pu', rfl, e1, e3, ?_⟩
  have hlen : (⟨t.toArray⟩ : Str).length = t.length := List.size_toArray
  have hpick : (slicePicked ⟨t.toArray⟩ pl' pu' none).filterMap (((⟨t.toArray⟩ : Str)).cps[·]?) = (t.drop a).take (b - a) := by
    unfold slicePicked
    rw [e2, e4]
    show List.filterMap _ (strSliceIndices lo hi 1 _) = _
    rw [hlen, tcut_idx hcut, ← hlen, StrLaws.sliced_plain _ hcut.1 (by rw [hlen]; exact hcut.2.1)]
  have hpl : (slicePicked ⟨t.toArray⟩ pl' pu' none).length = b - a := by
    unfold slicePicked
    rw [e2, e4]
    show (strSliceIndices lo hi 1 _).length = _
    rw [hlen, tcut_idx hcut, StrLaws.strSliceIndices_plain hcut.1 hcut.2.1]
    simp
  have nn : ∀ tk', Nx Y φ ρ₃ φ₃ s { s₃ with heap := s₃.heap.push { cls := .type "slice", data := .fields #[vl, vu, .none] }, toks := tk' } := fun tk' => (n₁.trans (n₂.trans n₃)).trans ⟨⟨_, tk', rfl⟩, .refl _, n₃.2.2.push _⟩
  unfold sliceMade
  rw [hpick, hpl, hlen]
  split
  · rename_i hw
    have hw : b - a = t.length := by simpa using hw
    have h1 := hcut.2.1
    have h2 := hcut.1
    have ha : a = 0 := by omega
    have : (t.drop a).take (b - a) = t := by rw [ha, List.drop_zero, List.take_of_length_le (by omega)]
    rw [this] at hp
    exact p.ok _ _ ρ₃ φ₃ _ hp ⟨tk, rfl⟩ (nn _)
  · refine ⟨?_, p.ok _ _ ρ₃ φ₃ _ hp ⟨_, rfl⟩ (nn _)⟩
    show (List.toArray _).size ≤ _
    rw [List.size_toArray, List.length_take, List.length_drop, line_is]
    omega
end
end Mine
set_option Elab.async false
set_option maxRecDepth 10000
set_option linter.unusedVariables false
namespace Mine
open PySem PySem.W PySem.Calls PySem.Spec PyProof.Rows

section
variable {Γ : Gx} {V : Va} {ρ : Rho} {X : Exn → Rho → Prop}
/-- `isinstance(e, list)` -/
theorem ev_isl {e : Expr} {npos tpos pos : Pos} {P : PV → Rho → Prop} (hN : NameIs Γ "isinstance" (.builtin "isinstance")) (hT : NameIs Γ "list" (.type "list")) (h : Ev Γ V ρ e (fun v ρ' => (∃ l, v = .list l ∧ P (.bool true) ρ') ∨ (∃ t, v = .str t ∧ P (.bool false) ρ')) X)
    (hk : V.env.kindOf (Str.ofString "isinstance") = some .globalImplicit := by kernel_rfl) (hkT : V.env.kindOf (Str.ofString "list") = some .globalImplicit := by kernel_rfl) (hs : isStar e = false := by rfl) :
    Ev Γ V ρ (.Call (.Name (Str.ofString "isinstance") npos) [e, .Name (Str.ofString "list") tpos] [] pos) P X := fun Y ok φ s Q E S p => by
  rw [arm_call rfl]
  refine wpAny_bind (name_sound ok S hN hk ?_ (by decide +kernel))
  show wpAny _ _ (callWith pos (.builtin "isinstance") [] (backTo pos (starEach [e, .Name (Str.ofString "list") tpos] V.env)) []) _ _ _
  refine callWith_plain rfl (backTo_plain (by simp [hs]; rfl)) ?_
  rw [starEach_cons hs, starEach_cons rfl]
  refine evalArgs_plain (spliced_cons (h Y ok φ s _ E S ⟨fun v val ρ₁ φ₁ s₁ hp r₁ n₁ => ?_, p.er⟩))
  refine spliced_cons (name_sound ok n₁.2.2 hT hkT (spliced_nil ?_) (by decide +kernel))
  rcases hp with ⟨l, rfl, hp⟩ | ⟨t, rfl, hp⟩
  · obtain ⟨a, vs, n, rfl, ha, _⟩ := r₁
    exact call_isinstance (isinstance_true (Tx := "list") F.isi_meta_list F.sub_list_list) ⟨⟨_, n₁.2.2.fz _ _ ha, rfl⟩, p.ok _ _ ρ₁ φ₁ _ hp rfl n₁⟩
  · obtain ⟨tk, rfl⟩ := r₁
    exact call_isinstance (isinstance_false_str (by decide +kernel) F.isi_meta_list F.sub_str_list) (p.ok _ _ ρ₁ φ₁ _ hp rfl (n₁.trans (.of n₁.2.2 _)))

/-- `e == []` -/
theorem et_eq_nil {a b : Expr} {pos : Pos} {P : Bool → Rho → Prop} (h : Ev Γ V ρ a (fun x ρ₁ => Ev Γ V ρ₁ b (fun y ρ₂ => y = .list [] ∧ ((∃ l, x = .list l ∧ P (decide (l = [])) ρ₂) ∨ (∃ t, x = .str t ∧ P false ρ₂))) X) X) (hm : behindInMarks .Eq b = false := by rfl) :
    Et Γ V ρ (.Compare a [.Eq] [b] pos) P X := fun Y ok φ s Q E S p =>
  wpAny_isTrue_Compare1 (h Y ok φ s _ E S ⟨fun x vx ρ₁ φ₁ s₁ hb rx n₁ => hb Y ok φ₁ s₁ _ E n₁.2.2 ⟨fun y vy ρ₂ φ₂ s₂ hb₂ ry n₂ => by
    obtain ⟨rfl, hb₂⟩ := hb₂
    obtain ⟨b', ws, m, rfl, hb', hws⟩ := ry
    have hws : ws = [] := hws
    subst hws
    have hlb := isList_of (n₂.2.2.fz _ _ hb')
    have hu : V.A.units < cLine := by
      have := ok.uni
      show V.A.units < _
      have : cLine = 10000 ∨ 5001 ≤ cLine := by right; decide
      omega
    rcases hb₂ with ⟨l, rfl, hp⟩ | ⟨t, rfl, hp⟩
    · obtain ⟨a', vs, k, rfl, ha', hvs⟩ := rx.mono n₂.2.1
      have hla := isList_of (n₂.2.2.fz _ _ ha')
      have hlen := hvs.length
      cases l with
      | nil =>
        have : vs = [] := hvs
        subst this
        refine SeqAt.eq_listAt (e := fun _ => true) hla hlb rfl hu (fun j h1 => absurd h1 (by simp)) ?_
        exact wpAny_truthy_bool (p.ok _ ρ₂ φ₂ _ (by simpa using hp) (n₁.trans n₂))
      | cons v l =>
        refine SeqAt.eq_list_lengthsAt hla hlb (by rw [List.size_toArray, hlen]; simp) hu ?_
        exact wpAny_truthy_bool (p.ok _ ρ₂ φ₂ _ (by simpa using hp) (n₁.trans n₂))
    · obtain ⟨tk, rfl⟩ := rx
      show wpAny _ _ (richCompare .Eq _ _) _ _ _
      refine SeqAt.RcAt.str_list _ _ hlb hu _ _ _ _ ?_
      exact wpAny_truthy_bool (p.ok _ ρ₂ φ₂ _ hp (n₁.trans n₂)), fun x e ρ' φ' s' a b c => p.er x e ρ' φ' s' a b (n₁.trans c)⟩, p.er⟩) hm
end

theorem b_max {Γ : Gx} {l : List PV} {is : List Int} {P : PV → Prop} (h : intsOf l = some is) (hne : is ≠ []) (hp : ∀ M, M ∈ is → (∀ a ∈ is, a ≤ M) → P (.int M)) : BSpec Γ (.builtin "max") [.list l] P := fun A φ s Q E ws hh hu hφ r k => by
  obtain ⟨w, _, rfl, ⟨a, vs, n, rfl, e, r1⟩, r2⟩ := r
  rw [show _ = [] from r2]
  obtain ⟨xs, rfl, h2⟩ := ints_items h r1
  have hl : s.heap.IsList a (intItems xs.toArray) := by
    have := isList_of (hφ _ _ e)
    simpa [intItems] using this
  have hns : is = xs.toArray.toList.map (·.1) := by rw [← h2]
  have hsz : 0 < xs.toArray.size := by
    rw [List.size_toArray]
    cases xs with
    | nil => rw [← h2] at hne; exact absurd rfl hne
    | cons => simp
  refine max_intList hh hl hsz fun v h' tk hv hk => ?_
  obtain ⟨t, rfl⟩ := intItems_at hv
  obtain ⟨h1, h3⟩ := argBest_gt (numAt xs.toArray) (xs.toArray.size - 1)
  refine k _ _ φ h' tk (hp (numAt xs.toArray (argBest (fun i j => decide (numAt xs.toArray i > numAt xs.toArray j)) (xs.toArray.size - 1))) ?_ fun a' ha => ?_) ⟨t, rfl⟩ (.refl _) hk (fun a o e => hk _ _ (hφ a o e)) (fun a o e => .inl e)
  · rw [hns, numAt_eq]; exact getD_mem (by rw [List.length_map, Array.length_toList]; omega)
  · rw [hns] at ha
    obtain ⟨j, hj, rfl⟩ := mem_getD ha
    rw [List.length_map, Array.length_toList] at hj
    rw [← numAt_eq]; exact h3 j (by omega)
end Mine
set_option Elab.async false
set_option maxRecDepth 10000
set_option linter.unusedVariables false
namespace Mine
open PySem PySem.W PySem.Calls PySem.Spec PyProof.Rows

section
variable {Γ : Gx} {V : Va} {ρ : Rho} {X : Exn → Rho → Prop}
/-- `a, b = e` where e is a list -/
theorem e1_unpack {es : List Expr} {xs : List String} {e : Expr} {kt : Nat} {tp pos : Pos} {P : Out → Prop} (hN : NamesAre es xs) (h : Ev Γ V ρ e (fun v ρ' => ∃ l, v = .list l ∧ l.length = xs.length ∧ P (.next (updAll xs l ρ'))) X)
    (hsw : swapsWithSole [.Tuple es kt tp] e pos.line V.env = pure false := by rfl) (hw : swappedStores [.Tuple es kt tp] e V.env = pure none := by rfl) (hst : V.st = true := by rfl) (hcs : xs.all (canStore V.env) = true := by kernel_rfl) (hm : V.hm = false := by rfl) :
    E1 Γ V ρ (.Assign [.Tuple es kt tp] e pos) P X := fun Y ok φ s Q E hE S p => by
  refine Assign_Tuple (h Y ok φ s _ E S ⟨fun v val ρ₁ φ₁ s₁ hp r n₁ => ?_, p.er⟩) hsw hw
  obtain ⟨l, rfl, hlen, hp⟩ := hp
  obtain ⟨a, vs, n, rfl, ha, hr⟩ := r
  obtain ⟨q1, q2⟩ := names_none (env := V.env) hN
  rw [PyProof.Rows.assign_Tuple]
  refine wpAny_bind (wpAny_standAt (unpack_list (ok.hh hm) (isList_of (n₁.2.2.fz _ _ ha)) (by rw [q2, List.size_toArray, hr.length, hlen]) q1 fun h₂ hx₂ => ?_))
  replace hx₂ : Heap.ExtBut s₁.heap.objs.size s₁.heap h₂ := hx₂
  have up₂ : ∀ b o, s₁.heap.get? b = some o → h₂.get? b = some o := fun b o x => hx₂ b o (Nat.ne_of_lt (Heap.lt_size x)) x
  have n₂ : Nx Y φ ρ₁ φ₁ s { s₁ with heap := h₂ } := n₁.trans ⟨⟨h₂, s₁.toks, rfl⟩, .refl _, n₁.2.2.keeps up₂⟩
  exact assign_names ok hst xs es l vs ρ₁ _ _ hN hcs hr hlen n₂ fun s' n' => p.nx _ _ _ hp n'
/-- a text is tested -/
theorem et_str {e : Expr} {P : Bool → Rho → Prop} (h : Ev Γ V ρ e (fun x ρ₁ => ∃ t : List Nat, x = .str t ∧ t.length ≤ 1000000 ∧ P (decide (t ≠ [])) ρ₁) X) (hp : plainTest e = true := by rfl) : Et Γ V ρ e P X := fun Y ok φ s Q E S p => by
  rw [isTrue_of_plain hp]
  refine wpAny_bind (h Y ok φ s _ E S ⟨fun v val ρ₁ φ₁ s₁ hb r n => ?_, p.er⟩)
  obtain ⟨t, rfl, hlen, hb⟩ := hb
  obtain ⟨u, rfl⟩ := r
  have e1 : (⟨t.toArray⟩ : Str).length = t.length := List.size_toArray
  refine wpAny_bind (wpAny_standAt (wpAny_holding (PySem.P.truthy_str (by rw [e1]; omega) ?_)))
  rw [e1]
  have : ((t.length : Int) != 0) = decide (t ≠ []) := by
    cases t with
    | nil => rfl
    | cons a r =>
      rw [decide_eq_true (by simp)]
      have : ((List.length (a :: r) : Nat) : Int) ≠ 0 := by simp; omega
      simpa using this
  rw [this]
  exact p.ok _ ρ₁ φ₁ _ hb (n.trans (.of n.2.2 _))
/-- `sign in 'text'` by the values -/
theorem et_in_lit {a b : Expr} {pos : Pos} {P : Bool → Rho → Prop} (h : Ev Γ V ρ a (fun x ρ₁ => Ev Γ V ρ₁ b (fun y ρ₂ => ∃ u t : List Nat, x = .str u ∧ y = .str t ∧ P (!(Builtin.Str.occurrences ⟨t.toArray⟩ ⟨u.toArray⟩ 0 t.length 1).isEmpty) ρ₂) X) X) (hm : behindInMarks .In b = false := by rfl) :
    Et Γ V ρ (.Compare a [.In] [b] pos) P X := fun Y ok φ s Q E S p =>
  wpAny_isTrue_Compare1 (h Y ok φ s _ E S ⟨fun x vx ρ₁ φ₁ s₁ hb rx n₁ => hb Y ok φ₁ s₁ _ E n₁.2.2 ⟨fun y vy ρ₂ φ₂ s₂ hb₂ ry n₂ => (by
    obtain ⟨u, t, rfl, rfl, hb₂⟩ := hb₂
    obtain ⟨tk, rfl⟩ := rx
    obtain ⟨tk', rfl⟩ := ry
    refine PySem.P.in_str (wpAny_truthy_bool (p.ok _ ρ₂ φ₂ _ ?_ (n₁.trans n₂)))
    have e1 : (⟨t.toArray⟩ : Str).length = t.length := List.size_toArray
    rw [e1]
    exact hb₂), fun x e ρ' φ' s' a b c => p.er x e ρ' φ' s' a b (n₁.trans c)⟩, p.er⟩) hm
/-- `a and b and c` as a value -/
theorem ev_and3 {a b c : Expr} {pos : Pos} {P : PV → Rho → Prop}
    (h : Ev Γ V ρ a (fun x ρ₁ => ∃ k, x = .bool k ∧ (k = false → P (.bool false) ρ₁) ∧ (k = true → Ev Γ V ρ₁ b (fun x ρ₂ => ∃ k, x = .bool k ∧ (k = false → P (.bool false) ρ₂) ∧ (k = true → Ev Γ V ρ₂ c P X)) X)) X) : Ev Γ V ρ (.BoolOp .And [a, b, c] pos) P X := fun Y ok φ s Q E S p => by
  refine BoolOp_and (h Y ok φ s _ E S ⟨fun x vx ρ₁ φ₁ s₁ hb rx n₁ => ?_, p.er⟩)
  obtain ⟨k, rfl, h1, h2⟩ := hb
  rw [show vx = _ from rx]
  refine wpAny_truthy_bool ?_
  cases k with
  | false => exact p.ok _ _ ρ₁ φ₁ _ (h1 rfl) rfl n₁
  | true => exact ev_and (h2 rfl) Y ok φ₁ s₁ Q E n₁.2.2 (p.after n₁)
end
end Mine
set_option Elab.async false
set_option maxRecDepth 100000
set_option linter.unusedVariables false
namespace Mine
open PySem PySem.W PySem.Calls PySem.Spec PyProof.Rows

section
variable {Γ : Gx} {V : Va} {ρ : Rho} {X : Exn → Rho → Prop}
/-- `raise E` -/
theorem e1_raise {fI : Addr} {e : Expr} {pos : Pos} {P : Out → Prop} (hC : ExcNew Γ.K fI)
    (h : Ey Γ V ρ e (fun fs ρ' => ∃ m p i ln cn, fs = patFs m p i ln cn ∧ X (.pat m p i) ρ') X) (hv : handed V) : E1 Γ V ρ (.Raise (some e) none pos) P X := fun Y ok φ s Q E hE S p => by
  rw [arm_exec_Raise]
  refine wpAny_bind (wpAny_standAt ?_)
  simp only [evalOpt, Option.map]
  unfold raiseStmt
  refine wpAny_bind (wpAny_bind (h Y ok φ s _ _ S ⟨fun a d fs ρ' φ' s' hP n hsl oa od => ?_, p.er⟩))
  obtain ⟨m, pt, i, ln, cn, rfl, hX⟩ := hP
  refine wpAny_bind (wpAny_standAt (wpAny_pure ?_))
  refine wpAny_bind (wpAny_pure ?_)
  obtain ⟨_, vs, ha, hsz, hraw, es, n0, hd, hfs⟩ := hsl
  obtain ⟨t, rfl⟩ := hraw rfl
  have S' := n.2.2
  have X' := Γ.kin.keeps (S'.base ok)
  have H' := hand_of ok S' hv
  obtain ⟨nm, q, N, bs, hdct, sn, sub, ab, col, dd, k0, k1, k2, k3, k5, hC53⟩ := hC.at
  have hC' := X' _ _ hC53
  have hbase : (Value.ref 53 :: [Value.type "Exception", .type "BaseException", .type "object"]).contains (.type "BaseException") = true := by decide +kernel
  obtain ⟨hp, g, d0, tk, os⟩ := s'
  dsimp only at ha hd S' X' H' hC' n
  dsimp only
  repeat (first | with_reducible refine wpAny_loadPart_at ha ?_ | with_reducible refine wpAny_loadPart_at hC' ?_ | (with_reducible refine wpAny_isSubtype_exc hC' ?_; rw [hbase]) | wp_step)
  have hne : V.A.handled ≠ some (.ref a) := fun z => by
    obtain ⟨o9, z9⟩ := hand_off ok hv z
    rw [oa.κ] at z9; cases z9
  refine raiseNew_ (s := ⟨hp, g, d0, tk, os⟩) H' ha rfl (by show 2 < 6; decide) hne (fun h' v k3 ha3 => ?_) rfl
  have k4 : ∀ b, b ≠ a → h'.get? b = hp.get? b := fun b hb => k3 b hb
  have S4 : St Y ρ' φ' h' := S'.others (Js := [a]) (fun b o hb q => (k4 b (fun z => hb (by rw [z]; exact .head _))).trans q) (fun J hJ => by rw [List.mem_singleton.mp hJ]; exact oa)
  have nd : a ≠ d := fun z => by rw [z, hd] at ha; cases ha
  refine p.er _ _ ρ' φ' _ hX ⟨a, d, none, rfl, ⟨nd, (fun _ z => nomatch z), ⟨_, ha3, rfl, rfl⟩, (fun _ z => nomatch z), es, n0, ln, cn, (k4 d (Ne.symm nd)).trans hd, hfs⟩, oa, od, fun _ z => nomatch z⟩ (n.trans ⟨⟨h', tk, rfl⟩, .refl _, S4⟩)
end
end Mine
set_option Elab.async false
set_option maxRecDepth 100000
set_option linter.unusedVariables false
namespace Mine
open PySem PySem.W PySem.Calls PySem.Spec PyProof.Rows

/-- a method that answers a new exception and leaves its object as it was -/
noncomputable def YSpec (Γ : Gx) (hm : Bool) (f : Addr) (d : Nat) (C : Addr) (fs : Fs) (vs : List PV) (P : Fs → Prop) : Prop :=
  ∀ (A : Around) (φ : PH) (s : Shared) (R : Result → Shared → Prop) (ws : List Value) (outer : List Env) (a dd : Addr), (hm = false → A.handled = none) → A.depth + (d + 1) ≤ 700 → A.units + 10 * (d + 1) ≤ 5000 → A.frames = some outer → s.heap.FunFrames Γ.hB outer →
    (∀ b o, Γ.hB.get? b = some o → s.heap.get? b = some o) → (∀ b o, φ b = some o → s.heap.get? b = some o) → (∀ b ∈ frOf outer, φ b = none) → Reps φ vs ws → SlotRep φ s.heap (.obj C a dd fs) (.ref a) → SelfOff Γ φ (some (C, fs)) a dd outer →
    (∀ e ed efs φ' h' tk, P efs → SlotRep φ' h' (.exc true e (some ed) efs) (.ref e) → (∀ b ∈ [e, ed], s.heap.get? b = none ∧ φ' b = none) → SlotRep φ' h' (.obj C a dd fs) (.ref a) → Kept s.heap h' φ φ' (frOf outer) [a, dd] → R (.ok (.ret (.ref e))) { s with heap := h', toks := tk }) →
    codeAny (model Γ.prog Γ.w) A (.call (.ref f) ⟨.ref a :: ws, []⟩) R s

theorem y_of_body {Γ : Gx} {hm : Bool} {f C : Addr} {d : Nat} {fs : Fs} {names : List String} {vs dvs : List PV} {dws : List Value} {P : Fs → Prop} {fd : FuncData} {pre : List Stmt} {e : Expr} {rp : Pos} {oc : Value} {od : Option Addr} {osl : Array (Option Value)}
    (ho : Γ.K.lookup f = some ⟨oc, od, .func fd, osl⟩) (hcd : codeIn Γ.K fd.code fd.qualname = true)
    (hbody : fd.body = .stmts (pre ++ [.Return (some e) rp])) (hclo : fd.closure = [])
    (hglob : fd.globals = mainGlobals) (hblt : fd.builtins = builtinsNs) (hco : fd.scope.isCoroutine = false) (hgen : fd.scope.isGenerator = false) (hk : fd.scope.kind = .function)
    (hbind : ∀ a (ws : List Value), ws.length = vs.length → ∀ S, peek Γ.K S (bindArgs fd ⟨.ref a :: ws, []⟩) = some ((names.map Str.ofString).zip (.ref a :: (ws ++ dws)))) (hdv : ∀ φ, Reps φ dvs dws)
    (hkinds : (names.all fun x => fd.scope.names.lookup (Str.ofString x) == some .local) = true) (hnocell : ∀ x ∈ fd.scope.names, x.2 ≠ .cell)
    (hnd : names.Nodup) (hlen : 1 + (vs.length + dvs.length) = names.length)
    (h : ∀ (A : Around) (L a dd : Addr), Ex Γ ⟨A, callEnv fd L f, [L], true, d, true, hm, none⟩ (names.zip (.obj C a dd fs :: (vs ++ dvs).map .val)) pre (fun o => match o with | .next ρ => Ey Γ ⟨A, callEnv fd L f, [L], true, d, true, hm, none⟩ ρ e (fun efs ρ' => get "self" ρ' = some (.obj C a dd fs) ∧ P efs) nothing | _ => False) nothing) :
    YSpec Γ hm f d C fs vs P := by
  intro A φ s R ws₀ outer a dd hh hd hu hfs hff hB hφ hφf hr₀ hself hoff k
  have hr1 : Reps φ (vs ++ dvs) (ws₀ ++ dws) := hr₀.append (hdv φ)
  have hr : SlotsRep φ s.heap (.obj C a dd fs :: (vs ++ dvs).map .val) (.ref a :: (ws₀ ++ dws)) := ⟨_, _, rfl, hself, SlotsRep.of_reps hr1⟩
  have hssl : names.length = (Slot.obj C a dd fs :: (vs ++ dvs).map Slot.val).length := by rw [List.length_cons, List.length_map, List.length_append, ← hlen]; omega
  have hws : (Value.ref a :: (ws₀ ++ dws)).length = names.length := by rw [hr.length, hssl]
  have ho' := hB _ _ (Γ.kin _ _ ho)
  have hlim : s.heap.NoLimit := Γ.top.nolimit.keeps hB
  have hAd : A.depth < recursionLimit := by
    show A.depth < 1000
    omega
  have hlocal : ∀ x ∈ names, fd.scope.names.lookup (Str.ofString x) = some .local := fun x hx => by
    have := List.all_eq_true.mp hkinds x hx
    simpa using this
  have hkeys : (((names.map Str.ofString).zip (.ref a :: (ws₀ ++ dws))).map (·.1)).Nodup := by
    rw [List.map_fst_zip (by simp [hws])]
    exact hnd.map _ fun a b ne e => ne (ofString_inj e)
  refine ks_codeAny_call_defAt (fd := fd) (binds := (names.map Str.ofString).zip (.ref a :: (ws₀ ++ dws))) hAd ho' rfl hlim (codeRec_of (Γ.kin.keeps hB) hcd) hbody (kp_binds (Γ.kin.keeps hB) (hbind a ws₀ hr₀.length)) hnocell (fun x hx => by
    obtain ⟨n, hn, q⟩ := List.mem_map.mp (List.of_mem_zip hx).1
    rw [← q]
    exact hlocal n hn) (fun h₁ hns hkeep => ?_) hco hgen hk
  obtain ⟨z1, z2, z3, z4, z5, z6, z7⟩ := hoff.off rfl
  have hfoot : (Slot.obj C a dd fs :: (vs ++ dvs).map Slot.val).flatMap foot1 = [a, dd] := by
    rw [List.flatMap_cons, vals_foot]; rfl
  obtain ⟨Y, ok, S, hban, hκ, kept⟩ := frame_state (Γ := Γ) (hm := hm) (hd := none) (d := d) (A := A.deeper (callEnv fd s.heap.objs.size f)) (env := callEnv fd s.heap.objs.size f) (names := names) (slots := .obj C a dd fs :: (vs ++ dvs).map .val) (ws := .ref a :: (ws₀ ++ dws))
    (lw := [s.heap.objs.size]) (φ := φ) (h₀ := s.heap) (h₁ := h₁)
    (Around.frames_deeper hfs) hff hB hφ hφf hkeep hk hglob hblt rfl hns
    (fun p hp => by
      obtain ⟨x, w⟩ := p
      have hm' : (Str.ofString x, w) ∈ (names.map Str.ofString).zip (.ref a :: (ws₀ ++ dws)) := by
        rw [List.zip_map_left]
        exact List.mem_map.mpr ⟨_, hp, rfl⟩
      refine .inl ⟨hlocal x (List.of_mem_zip hp).1, ?_⟩
      show List.lookup _ (List.reverse _) = _
      rw [lookup_reverse_of_nodup _ hkeys]
      exact lookup_mem_keys hkeys hm')
    (fun b hb => by
      rw [List.mem_singleton.mp hb]
      obtain ⟨o, _, _, q, _⟩ := hns
      exact ⟨none_at_end s.heap 0, o, q⟩) (by simp) (.head _)
    (fun x c q => by
      have q' : List.lookup x ([] : List (Str × Addr)) = some c := by rw [← hclo]; exact q
      cases q')
    (fun x y c q q' => by
      have q' : List.lookup x ([] : List (Str × Addr)) = some c := by rw [← hclo]; exact q
      cases q')
    hr hssl (by rw [hfoot]; simpa using z7)
    (fun b hb => by
      rw [hfoot] at hb
      rcases List.mem_cons.mp hb with rfl | hb
      · exact ⟨z1, z3, z5⟩
      · rw [List.mem_singleton.mp hb]; exact ⟨z2, z4, z6⟩)
    (fun b l hm => by
      rcases List.mem_cons.mp hm with q | q
      · cases q
      · obtain ⟨v, _, z⟩ := List.mem_map.mp q
        cases z)
    hh (by show A.depth + 1 + d ≤ 700; omega) (by show A.units + 3 + 10 * d ≤ 5000; omega) (fun _ z => nomatch z)
  rw [hfoot] at kept hκ
  rw [execs_append]
  refine PySem.wpAt_bind (PySem.wpAt_of_wpAny ?_)
  refine h (A.deeper (callEnv fd s.heap.objs.size f)) s.heap.objs.size a dd Y ok φ _ _ _ PassesAll.leaving S ⟨fun ρ' φ' s' q n => ?_, fun ρ' φ' s' q n => q.elim, fun ρ' φ' s' q n => q.elim, fun v val ρ' φ' s' q b n => q.elim, fun x e ρ' φ' s' hX hx n => hX.elim⟩
  refine PySem.wpAt_of_wpAny (wpAny_execs_cons (wpAny_Return_some (q Y ok φ' s' _ _ n.2.2 ⟨fun ea ed efs ρ₂ φ₂ s₂ hP n₂ hsl oa od => ?_, fun _ _ _ _ _ z => z.elim⟩)))
  obtain ⟨hself2, hP⟩ := hP
  obtain ⟨⟨h'', tk, rfl⟩, le, S''⟩ := n.trans n₂
  have K := kept ρ₂ φ₂ h'' S'' le
  obtain ⟨m, _, hv⟩ := S''.vars
  obtain ⟨w', _, hrw⟩ := hv _ _ (mem_of_get hself2)
  have fresh : ∀ b, Off Y ρ₂ φ₂ b → s.heap.get? b = none ∧ φ₂ b = none := fun b o => ⟨hban b (by
    cases z : φ b with
    | none => rfl
    | some q => have := le _ _ z; rw [o.φ] at this; cases this) o.ban, o.φ⟩
  refine k ea ed efs φ₂ h'' tk hP hsl (fun b hb => ?_) ⟨rfl, hrw.2⟩ K
  rcases List.mem_cons.mp hb with rfl | hb
  · exact fresh _ oa
  · rw [List.mem_singleton.mp hb]; exact fresh _ od
end Mine
set_option Elab.async false
set_option maxRecDepth 10000
set_option linter.unusedVariables false
namespace Mine
open PySem PySem.W PySem.Calls PySem.Spec PyProof.Rows

section
variable {Γ : Gx} {V : Va} {ρ : Rho} {X : Exn → Rho → Prop}
/-- `x.m(...)` on an own object, the answer a new exception -/
theorem ey_mcall {x name : String} {C a dd f : Addr} {fs₀ : Fs} {e : Expr} {es : List Expr} {npos apos pos : Pos} {P : Fs → Rho → Prop} (hg₀ : get x ρ = some (.obj C a dd fs₀)) (hM : MethOk Γ.K C name f) (hna : fget name fs₀ = none)
    (h : Evs Γ V X (e :: es) ρ (fun l ρ' => ∃ fs d P', get x ρ' = some (.obj C a dd fs) ∧ d + 1 ≤ V.d ∧ YSpec Γ V.hm f d C fs l P' ∧ ∀ efs, P' efs → P efs (upd x (.obj C a dd fs) ρ')))
    (hs : (e :: es).all (fun e => !isStar e) = true := by rfl) (hd : plainName x = true := by decide +kernel) (him : V.im = true := by rfl) (hst : V.st = true := by rfl)
    (hb : attributeBase (.Name (Str.ofString x) npos) (Str.ofString name) V.env (eval (.Name (Str.ofString x) npos) V.env) = eval (.Name (Str.ofString x) npos) V.env := by rfl) (hline : (apos.endLine == pos.line) = true := by rfl) (hfew : (e :: es).length < 25 := by decide) :
    Ey Γ V ρ (.Call (.Attribute (.Name (Str.ofString x) npos) (Str.ofString name) apos) (e :: es) [] pos) P X := fun Y ok φ s Q E S p => by
  rw [arm_eval_Call, hb]
  refine wpAny_bind (obj_load ok S hg₀ (wpAny_bind (wpAny_standAt ?_)) hd)
  have hform : methodCallForm ((e :: es).length + ([] : List Keyword).length) (backTo pos (starEach (e :: es) V.env)) (backToKw pos (keywordEach [] V.env)) = true := by
    show ((backTo pos (starEach (e :: es) V.env)).all (fun x => !x.1) && (backToKw pos (keywordEach [] V.env)).all (fun x => x.1.isSome) && decide ((e :: es).length + ([] : List Keyword).length + (if ([] : List Keyword).isEmpty then 0 else 1) < 30)) = true
    have h1 := backTo_plain (pos := pos) (env := V.env) hs
    have h2 : (backTo pos (starEach (e :: es) V.env)).all (fun x => !x.1) = true := by
      rw [List.all_eq_true]
      intro q hq
      cases e' : q.1 with
      | false => rfl
      | true =>
        have : (backTo pos (starEach (e :: es) V.env)).any (·.1) = true := List.any_eq_true.mpr ⟨q, hq, e'⟩
        rw [h1] at this
        cases this
    have h3 : decide ((e :: es).length + ([] : List Keyword).length + (if ([] : List Keyword).isEmpty then 0 else 1) < 30) = true := decide_eq_true (by
      have : (if ([] : List Keyword).isEmpty then 0 else 1) = 0 := rfl
      rw [this, List.length_nil]
      omega)
    rw [h2, h3]
    rfl
  have hpos : methodCallPos true (.Name (Str.ofString x) npos) V.env apos pos = pure pos := by unfold methodCallPos; simp [hline]
  unfold methodCall
  rw [hform]
  obtain ⟨m, hn, hv⟩ := S.vars
  obtain ⟨w, _, rfl, ha, eds, n0, hdx, hfs⟩ := hv x _ (mem_of_get hg₀)
  refine wpAny_bind (wpAny_holding (method_fn (Γ.kin.keeps (S.base ok)) (inst_at ha hdx) (plainGet_of hM.get).1 (plainGet_of hM.get).2 hM.find hM.fn (by show (lookIn (Str.ofString name) (dictOf eds n0)).map _ = _; rw [lookIn_dict, (hfs.2 name).1 hna]; rfl) ?_))
  refine wpAny_bind (wpAny_of_eq hpos ?_)
  refine callWith_of (P := Γ.K.In) (by rw [backTo_plain hs]; rfl) (keeps_K hM.keep) ?_
  have sp := spliced_sound (pos := pos) ok (e :: es) ρ _ φ s (fun vs s' => Γ.K.In s'.heap ∧ wpAny (model Γ.prog Γ.w) V.A (call (.ref f) ([.ref a] ++ vs) []) Q E s') hs h S (fun l vs ρ' φ' s' q r n => ?_) p.er
  · have hs' := hs
    simp only [List.all_cons, Bool.and_eq_true, Bool.not_eq_true'] at hs'
    rw [starEach_cons hs'.1] at sp ⊢
    exact evalArgs_plain sp
  · obtain ⟨fs, d, P', hg, hd', hspec, himp⟩ := q
    have S' := n.2.2
    refine ⟨Γ.kin.keeps (S'.base ok), ?_⟩
    have h1 := ok.dep
    have h2 := ok.uni
    obtain ⟨outer, f1, f2, f3, f4⟩ := call_frames ok him S'
    obtain ⟨m', _, hv'⟩ := S'.vars
    obtain ⟨w', _, hw', hsl⟩ := hv' x _ (mem_of_get hg)
    have hnd := List.nodup_append.mp S'.apart
    have mvg : ∀ {φ'' h'}, SlotRep φ'' h' (.obj C a dd fs) (.ref a) → Kept s'.heap h' φ' φ'' (frOf outer) [a, dd] → St Y (upd x (.obj C a dd fs) ρ') φ'' h' := fun {φ'' h'} hself K =>
      S'.moved (as := [a, dd]) f4 (locals_lw ok hst) (cells_lw ok hst) (fun b hb => foot_mem (mem_of_get hg) hb) (fun b o q z e => K.keep b o q z e) K.frs K.live K.le K.fz K.new (foot_upd_same (s := .obj C a dd fs) rfl hg) (fun y sl hy => by
        rcases mem_upd hy with ⟨rfl, rfl⟩ | ⟨ne, hy⟩
        · exact .inr ⟨_, mem_of_get hg, fun w hw => ⟨hw.1, hself.2⟩⟩
        · exact .inl ⟨hy, fun b hb q => by
            have hoff := foot_upd_off (v := .none) hg (a := b) q hnd.2.1
            exact hoff ((foot_del_upd x .none ρ').subset (foot_mem (mem_del_of ne hy) hb))⟩) (fun y b l hy => by
        rcases mem_upd hy with ⟨_, e⟩ | ⟨_, hy⟩
        · cases e
        · exact S'.ob _ _ _ hy)
    refine wpAny_call (hspec V.A φ' s' _ vs outer a dd ok.hh (by omega) (by omega) f1 f2 (S'.base ok) S'.fz f3 r ⟨rfl, hsl⟩ (obj_off ok S' hg f4 hst) fun ea ed efs φ'' h' tk hP hexc hfr hself K => ?_)
    have o : ∀ b ∈ [ea, ed], Off Y (upd x (.obj C a dd fs) ρ') φ'' b := fun b hb => (S'.offNew (hfr b hb).1).at (hfr b hb).2 (foot_upd_same (s := .obj C a dd fs) rfl hg)
    exact p.ok ea ed efs _ φ'' _ (himp efs hP) (n.trans ⟨⟨h', tk, rfl⟩, K.le, mvg hself K⟩) hexc (o _ (.head _)) (o _ (.tail _ (.head _)))
end
end Mine
set_option Elab.async false
set_option maxRecDepth 100000
set_option linter.unusedVariables false
namespace Mine
open PySem PySem.W PySem.Calls PySem.Spec PyProof.Rows
open PySem.Builtin PySem.Builtin.Str
set_option maxHeartbeats 2000000 in
theorem mod_miss {prog : Program} {w : World} {A : Around} {E : Value → Shared → Prop} {s : Shared} {t u : Tok} {y : PySem.Str} {Q : Value → Shared → Prop} (hy : y.length ≤ 1000000)
    (h : ∀ t' k, Q (.str (Str.ofString "missing " ++ y ++ Str.ofString ", unterminated name") t') { s with toks := k }) : wpAny (model prog w) A (binaryOp .Mod (.str (Str.ofString "missing %s, unterminated name") t) (.str y u)) Q E s := by
  have e : Str.ofString "missing %s, unterminated name" = ⟨#[109, 105, 115, 115, 105, 110, 103, 32, 37, 115, 44, 32, 117, 110, 116, 101, 114, 109, 105, 110, 97, 116, 101, 100, 32, 110, 97, 109, 101]⟩ := by decide +kernel
  rw [e]
  refine KPc.mod_str (T := fun y => Str.ofString "missing " ++ y ++ Str.ofString ", unterminated name") rfl hy ?_ h
  kpc_run_s
section
variable {Γ : Gx} {V : Va} {ρ : Rho} {X : Exn → Rho → Prop}
noncomputable def missText (y : List Nat) : List Nat := (Str.ofString "missing ").cps.toList ++ y ++ (Str.ofString ", unterminated name").cps.toList
/-- the format of an item that is not ended -/
theorem ev_miss {k : Nat} {fpos pos : Pos} {e : Expr} {P : PV → Rho → Prop} (h : Ev Γ V ρ e (fun y ρ' => ∃ t : List Nat, y = .str t ∧ t.length ≤ 1000000 ∧ P (.str (missText t)) ρ') X) : Ev Γ V ρ (.BinOp (.Constant (.str (Str.ofString "missing %s, unterminated name")) k fpos) .Mod e pos) P X := fun Y ok φ s Q E S p => by
  refine wpAny_BinOp (Constant_str ?_)
  have n0 : Nx Y φ ρ φ s { s with toks := s.toks + 1 } := .of S _
  refine h Y ok φ _ _ E n0.2.2 ⟨fun y vy ρ₁ φ₁ s₁ hb r n => ?_, fun x e ρ' φ' s' a b c => p.er x e ρ' φ' s' a b (n0.trans c)⟩
  obtain ⟨t, rfl, ht, hp⟩ := hb
  obtain ⟨u, rfl⟩ := r
  refine mod_miss (by simp [Str.length]; omega) fun t' k => ?_
  have e1c : (Str.ofString "missing " ++ (⟨t.toArray⟩ : PySem.Str) ++ Str.ofString ", unterminated name").cps = (missText t).toArray := by
    rw [PySem.Str.cps_append, PySem.Str.cps_append]
    unfold missText
    generalize (Str.ofString "missing ").cps = a
    generalize (Str.ofString ", unterminated name").cps = b
    apply Array.ext'
    simp
  have e1 : (Str.ofString "missing " ++ (⟨t.toArray⟩ : PySem.Str) ++ Str.ofString ", unterminated name") = ⟨(missText t).toArray⟩ := congrArg PySem.Str.mk e1c
  rw [e1]
  exact p.ok _ _ ρ₁ φ₁ _ hp ⟨t', rfl⟩ ((n0.trans n).trans (.of n.2.2 _))
end
end Mine
set_option Elab.async false
set_option maxRecDepth 100000
namespace Mine
open PySem PySem.W PyProof.Rows

noncomputable def view : Program := { Challenge.pw_ku0036_02 with main := { Challenge.pw_ku0036_02.main with body := match Challenge.pw_ku0036_02.main.body with
  | [a0, _, a2, a3, _, a5, a6, _, a8, _, a10, a11, a12, a13, a14, a15, a16, a17] => [a0, a2, a3, a5, a6, a8, a10, a11, a12, a13, a14, a15, a16, a17]
  | _ => [] } }
noncomputable abbrev loose : List Str := [Str.ofString "_special_chars_map", Str.ofString "PatternError", Str.ofString "error_constants", Str.ofString "Tokenizer"]
noncomputable abbrev Xt (s : Shared) : Bool := xlAt Mine.view [] s && recOk (RowW.records Challenge.rw_ku0036_02.row.toRowW) s

local macro_rules | `(tactic| o_head $H) => `(tactic| (
  refine holds_open (q := Mine.view) (loose := Mine.loose) (Xt := Mine.Xt) (XP := XL Mine.view []) (Yf := Hook.obs $H) (Ya := Hook.val $H) (YP := Hook.says $H) (N := 5084) (And.left ?hlc) (Hook.of $H) (Hook.keeps $H) (fun s e => xl_of s (Bool.and_eq_true_iff.mp e).1) XL.keeps (by rfl) (by rfl) (by rfl) (fun s e => recFacts_of (Bool.and_eq_true_iff.mp e).2) (by rfl) (by first | assumption | decide +kernel) (by decide +kernel) ⟨rfl, rfl, rfl, rfl, rfl, by decide +kernel⟩ ?hw (And.right ?hlc)
  all_goals (rename_i said; clear said)))

set_option maxHeartbeats 8000000 in
open_top hd0 for PySem.Challenge.rw_ku0036_02
end Mine
set_option Elab.async false
set_option maxRecDepth 100000
namespace Mine
open PySem PySem.W PySem.Calls PySem.Spec PyProof.Rows
/-- a flag is not its own opposite -/
theorem nb {P : Prop} {a : Bool} (h : a = !a) : P := by cases a <;> cases h
noncomputable abbrev KL (w : World) : Frag := hd0.heap_39 w.params
noncomputable def fdL (w : World) (a : Addr) : FuncData := fdAt (KL w) a
noncomputable abbrev PL : Program := Challenge.rw_ku0036_02.row.prog

noncomputable def codes1 : List Nat := [40, 41, 91, 93, 123, 125, 63, 42, 43, 45, 124, 94, 36, 92, 46, 38, 126, 35, 32, 9, 10, 13, 11, 12]
noncomputable abbrev spec1 (c : Nat) : Bool := codes1.contains c

theorem tabL {w : World} {prog : Program} {w' : World} {h : Heap} (k : (KL w).In h) : TabOf prog w' spec1 23 h :=
  tab_of (K := KL w) (codes := codes1) (n := 24) rfl (by kernel_rfl) (by decide +kernel) k

section
variable {w : World} {Γ : Gx} (hK : Γ.K = KL w)
include hK
theorem n_isinstance : NameIs Γ "isinstance" (.builtin "isinstance") := .inr ⟨by rw [hK]; kernel_rfl, Boot.«isinstance», by decide +kernel⟩
theorem n_str : NameIs Γ "str" (.type "str") := .inr ⟨by rw [hK]; kernel_rfl, Boot.«str», by decide +kernel⟩
theorem n_len : NameIs Γ "len" (.builtin "len") := .inr ⟨by rw [hK]; kernel_rfl, Boot.«len», by decide +kernel⟩
theorem n_range : NameIs Γ "range" (.type "range") := .inr ⟨by rw [hK]; kernel_rfl, Boot.«range», by decide +kernel⟩
theorem n_map : NameIs Γ "_special_chars_map" (.ref 23) := .inl (by rw [hK]; kernel_rfl)
theorem n_escape : NameIs Γ "escape" (.ref 33) := .inl (by rw [hK]; kernel_rfl)
theorem n_list : NameIs Γ "list" (.type "list") := .inr ⟨by rw [hK]; kernel_rfl, Boot.«list», by decide +kernel⟩
theorem n_max : NameIs Γ "max" (.builtin "max") := .inr ⟨by rw [hK]; kernel_rfl, Boot.«max», by decide +kernel⟩
theorem n_super : NameIs Γ "super" (.type "super") := .inr ⟨by rw [hK]; kernel_rfl, Boot.«super», by decide +kernel⟩
theorem n_err : NameIs Γ "error_constants" (.ref 53) := .inl (by rw [hK]; kernel_rfl)
theorem n_pat : NameIs Γ "PatternError" (.ref 53) := .inl (by rw [hK]; kernel_rfl)
theorem x_cls : ExcCls Γ.K := by
  refine ⟨by rw [hK]; kernel_rfl, by rw [hK]; kernel_rfl, by rw [hK]; kernel_rfl, ?_⟩
  have h1 : (clsIn Γ.K 53).map (·.hasDict) = some true := by rw [hK]; kernel_rfl
  have h2 : (clsIn Γ.K 53).map (·.mro) = some [.ref 53, .type "Exception", .type "BaseException", .type "object"] := by rw [hK]; kernel_rfl
  cases z : clsIn Γ.K 53 with
  | none => rw [z] at h1; cases h1
  | some cd => rw [z] at h1 h2; exact ⟨cd, rfl, Option.some.inj h1, Option.some.inj h2⟩
theorem x_msg : ExcAttr Γ.K "msg" := ⟨⟨none, by rw [hK]; kernel_rfl, rfl⟩, by rw [hK]; kernel_rfl⟩
theorem x_pattern : ExcAttr Γ.K "pattern" := ⟨⟨none, by rw [hK]; kernel_rfl, rfl⟩, by rw [hK]; kernel_rfl⟩
theorem x_pos : ExcAttr Γ.K "pos" := ⟨⟨none, by rw [hK]; kernel_rfl, rfl⟩, by rw [hK]; kernel_rfl⟩
theorem x_lineno : ExcAttr Γ.K "lineno" := ⟨⟨none, by rw [hK]; kernel_rfl, rfl⟩, by rw [hK]; kernel_rfl⟩
theorem x_colno : ExcAttr Γ.K "colno" := ⟨⟨none, by rw [hK]; kernel_rfl, rfl⟩, by rw [hK]; kernel_rfl⟩
theorem x_new : ExcNew Γ.K 50 := ⟨by rw [hK]; kernel_rfl, by rw [hK]; kernel_rfl, by rw [hK]; kernel_rfl, by rw [hK]; kernel_rfl, by rw [hK]; kernel_rfl, by rw [hK]; kernel_rfl, by rw [hK]; kernel_rfl, by rw [hK]; kernel_rfl⟩
end
end Mine
set_option Elab.async false
set_option maxRecDepth 100000
namespace Mine
open PySem PySem.W PySem.Calls PySem.Spec PyProof.Rows
theorem clo50 (w : World) : ∃ cc cl cld csl, (fdL w 50).closure = [(("__class__" : Str), cc)] ∧ (KL w).lookup cc = some ⟨cl, cld, .cell (some (.ref 53)), csl⟩ := by
  refine ⟨?_, ?_, ?_, ?_, ?_, ?_⟩
  rotate_left 4
  · exact rfl
  · exact rfl
theorem x_super {w : World} {Γ : Gx} (hK : Γ.K = KL w) (hP : Γ.prog = PL) : ∃ cc, (fdL w 50).closure = [(("__class__" : Str), cc)] ∧ SuperOk Γ (fdL w 50) 50 49 cc := by
  obtain ⟨cc, cl, cld, csl, h1, h2⟩ := clo50 w
  refine ⟨cc, h1, ⟨.type "function", none, #[], by rw [hK]; kernel_rfl⟩, by kernel_rfl, ?_, ⟨cl, cld, csl, by rw [hK]; exact h2⟩, by rw [hK]; kernel_rfl, by rw [hK]; kernel_rfl, by rw [hK]; kernel_rfl, by rw [hK]; kernel_rfl, n_super hK, by rw [hP]; kernel_rfl⟩
  rw [hK, hP]
  refine ⟨?_, ?_, ?_, ?_, ?_, ?_, ?_, ?_, ?_⟩
  rotate_left 6
  · exact rfl
  · exact rfl
  · kernel_rfl
end Mine
set_option Elab.async false
set_option maxRecDepth 100000
set_option linter.unusedVariables false
namespace Mine
open PySem PySem.W PySem.Calls PySem.Spec PyProof.Rows

section
variable {w : World} {Γ : Gx} (hK : Γ.K = KL w) (hP : Γ.prog = PL)
include hK hP
set_option maxHeartbeats 4000000 in
theorem s_init_str {d : Nat} {m x : List Nat} {p : Int} (hm : m.length ≤ 800000) (hx : x.length ≤ 1000000) (h0 : 0 ≤ p) (h1 : p ≤ 1000000000) : XSpec Γ 50 d [.str m, .str x, .int p] (fun fs => ∃ ln cn, fs = patFs m (.str x) p ln cn) := by
  obtain ⟨cc, hclo, hS⟩ := x_super hK hP
  refine x_of_body (names := ["self", "msg", "pattern", "pos"]) (cda := 49) (fd := fdL w 50) (oc := .type "function") (od := none) (osl := #[]) (pre := [_, _, _, _]) hS (by rw [hK]; kernel_rfl) (by rw [hK]; kernel_rfl) (by kernel_rfl) (hbody := by exact rfl) hclo (by kernel_rfl) (by kernel_rfl) (by kernel_rfl) (by kernel_rfl) (by kernel_rfl) ?_ (by kernel_rfl) (of_decide_eq_true (by kernel_rfl)) rfl (by kernel_rfl) (by kernel_rfl) (by decide) rfl ?_ (fun L => rfl) (fun L => rfl) (hhe := fun L => by exact rfl)
  · intro ws h S
    rw [hK]
    match ws, h with
    | [a, b, c, e], _ => kernel_rfl
  · intro A L e hm' hd hv
    have hv' : ∀ {V : Va}, V.hm = hm' → V.hd = hd → handed V := fun {V} q1 q2 => by unfold handed; rw [q1, q2]; exact hv
    refine ex_cons ?_
    refine e1_xset0 (x_cls hK) (x_msg hK) (ev_name rfl ⟨rfl, fun dd => ?_⟩)
    refine ex_cons ?_
    refine e1_xset (x_cls hK) (x_pattern hK) (ev_name rfl ⟨_, rfl, (by show 1 ≤ 900; decide), ?_⟩)
    refine ex_cons ?_
    refine e1_xset (x_cls hK) (x_pos hK) (ev_name rfl ⟨_, rfl, (by show 2 ≤ 900; decide), ?_⟩)
    refine ex_last ?_
    refine e1_if (et_and (et_cmp (ev_name rfl (ev_none ⟨true, rfl, (fun h => nomatch h), fun _ => et_cmp (ev_name rfl (ev_none ⟨true, rfl, fun _ => ?_, (fun h => nomatch h)⟩))⟩))))
    obtain ⟨r, hr, hf⟩ := fmt1_ok (z := m) (n := p) (by omega) h0 (by omega)
    refine ex_cons ?_
    refine e1_assign (ev_pct (ev_name rfl (ev_name rfl ⟨(by show 2 ≤ 100; decide), fun φ vs b t hr => ⟨r, hf φ vs b t hr, ?_⟩⟩)))
    refine ex_cons ?_
    refine e1_if (et_val (ev_isi (n_isinstance hK) (n_str hK) (ev_name rfl ⟨true, rfl, fun _ => ?_, fun h => nomatch h⟩)))
    refine ex_last ?_
    refine e1_assign (ev_str ?_)
    refine ex_cons ?_
    refine e1_xset (raw := true) (a := e) (d := dd) (x_cls hK) (x_lineno hK) (ev_bin (ev_meth F.slot_str_count F.plainAttrs_str F.type_str_count (ev_name rfl ⟨rfl, ev_name rfl (ev_int (ev_name rfl ⟨_, f_count_str, fun v hv => ?_⟩))⟩)))
    obtain ⟨n, hn, rfl⟩ := hv
    refine ev_int ⟨_, rfl, (by show 3 ≤ 900; decide), ?_⟩
    refine ex_cons ?_
    refine e1_xset (raw := true) (a := e) (d := dd) (x_cls hK) (x_colno hK) (ev_bin (ev_name rfl (ev_meth F.slot_str_rfind F.plainAttrs_str F.type_str_rfind (ev_name rfl ⟨rfl, ev_name rfl (ev_int (ev_name rfl ⟨_, f_rfind_str h0, fun v hv => ?_⟩))⟩))))
    obtain ⟨n', ⟨hn1, hn2⟩, rfl⟩ := hv
    refine ⟨_, rfl, (by show 4 ≤ 900; decide), ?_⟩
    refine ex_last ?_
    refine e1_if (et_in_txt (ev_name rfl (ev_name rfl ⟨_, rfl, rfl, fun c => ⟨fun _ => ?_, fun _ => ?_⟩⟩)) (hv' rfl rfl))
    · refine ex_last ?_
      obtain ⟨r2, hf2⟩ := fmt2_ok (z := r) (n := n + 1) (m := p - n') (by omega) (by omega) (by omega) (by omega) (by omega)
      refine e1_assign (ev_pct (ev_name rfl (ev_xattr rfl rfl (x_cls hK) (x_lineno hK) (ev_xattr rfl rfl (x_cls hK) (x_colno hK) ⟨(by show 3 ≤ 100; decide), fun φ vs b t hr => ⟨r2, hf2 φ vs b t hr, ?_⟩⟩))))
      exact ⟨_, dd, _, rfl, rfl, _, _, rfl⟩
    · refine ex_nil ?_
      exact ⟨_, dd, _, rfl, rfl, _, _, rfl⟩

end
end Mine
set_option Elab.async false
set_option maxRecDepth 100000
set_option linter.unusedVariables false
namespace Mine
open PySem PySem.W PySem.Calls PySem.Spec PyProof.Rows

noncomputable def tokFs (ist : Bool) (str : PV) (dec : List Nat) (i : Nat) (nx : PV) : Fs := [("istext", .bool ist), ("string", str), ("decoded_string", .str dec), ("index", .int i), ("next", nx)]

/-- what the next sign is, and where it ends; none: a bad escape -/
noncomputable def nextOf (dec : List Nat) (i : Nat) : Option (PV × Nat) := match dec[i]? with
  | none => some (.none, i)
  | some c => if c = 92 then (match dec[i + 1]? with
      | none => none
      | some d => some (.str [92, d], i + 2)) else some (.str [c], i + 1)

section
variable {w : World} {Γ : Gx} (hK : Γ.K = KL w)
include hK
theorem n_index : NameIs Γ "IndexError" (.type "IndexError") := .inr ⟨by rw [hK]; kernel_rfl, Boot.«IndexError», by decide +kernel⟩
theorem n_tok : NameIs Γ "Tokenizer" (.ref 145) := .inl (by rw [hK]; kernel_rfl)
theorem a_istext : AttrOk Γ.K 145 "istext" := ⟨by rw [hK]; kernel_rfl, by rw [hK]; kernel_rfl, ⟨none, by rw [hK]; kernel_rfl, rfl⟩, by rw [hK]; kernel_rfl, by rw [hK]; kernel_rfl, by rw [hK]; kernel_rfl⟩
theorem a_string : AttrOk Γ.K 145 "string" := ⟨by rw [hK]; kernel_rfl, by rw [hK]; kernel_rfl, ⟨none, by rw [hK]; kernel_rfl, rfl⟩, by rw [hK]; kernel_rfl, by rw [hK]; kernel_rfl, by rw [hK]; kernel_rfl⟩
theorem a_dec : AttrOk Γ.K 145 "decoded_string" := ⟨by rw [hK]; kernel_rfl, by rw [hK]; kernel_rfl, ⟨none, by rw [hK]; kernel_rfl, rfl⟩, by rw [hK]; kernel_rfl, by rw [hK]; kernel_rfl, by rw [hK]; kernel_rfl⟩
theorem a_index : AttrOk Γ.K 145 "index" := ⟨by rw [hK]; kernel_rfl, by rw [hK]; kernel_rfl, ⟨none, by rw [hK]; kernel_rfl, rfl⟩, by rw [hK]; kernel_rfl, by rw [hK]; kernel_rfl, by rw [hK]; kernel_rfl⟩
theorem a_next : AttrOk Γ.K 145 "next" := ⟨by rw [hK]; kernel_rfl, by rw [hK]; kernel_rfl, ⟨none, by rw [hK]; kernel_rfl, rfl⟩, by rw [hK]; kernel_rfl, by rw [hK]; kernel_rfl, by rw [hK]; kernel_rfl⟩
theorem m_next : MethOk Γ.K 145 "_Tokenizer__next" 77 := ⟨by rw [hK]; kernel_rfl, by rw [hK]; kernel_rfl, by rw [hK]; kernel_rfl, by rw [hK]; kernel_rfl⟩
theorem m_get : MethOk Γ.K 145 "get" 91 := ⟨by rw [hK]; kernel_rfl, by rw [hK]; kernel_rfl, by rw [hK]; kernel_rfl, by rw [hK]; kernel_rfl⟩
theorem m_tell : MethOk Γ.K 145 "tell" 120 := ⟨by rw [hK]; kernel_rfl, by rw [hK]; kernel_rfl, by rw [hK]; kernel_rfl, by rw [hK]; kernel_rfl⟩
theorem c_tok : ClsOk Γ.K 145 70 := ⟨by rw [hK]; kernel_rfl, by rw [hK]; kernel_rfl, by rw [hK]; kernel_rfl, by rw [hK]; kernel_rfl⟩

omit hK in
theorem e92 : (Str.ofString "\\").cps.toList = [92] := by decide +kernel

set_option maxHeartbeats 2000000 in
theorem s_next {X : Exn → Prop} {d : Nat} {ist : Bool} {str nx nx' : PV} {dec : List Nat} {i i' : Nat} (h : nextOf dec i = some (nx', i')) (hd : dec.length ≤ 900000) (hi : i ≤ dec.length) : ISpec Γ false 77 d (some (145, tokFs ist str dec i nx)) [] (fun v fs => v = .none ∧ fs = tokFs ist str dec i' nx') X := by
  refine i_of_body (names := ["self"]) (fd := fdL w 77) (oc := .type "function") (od := none) (osl := #[]) (by rw [hK]; kernel_rfl) (by rw [hK]; kernel_rfl) (hbody := by exact rfl) (by kernel_rfl) (by kernel_rfl) (by kernel_rfl) (by kernel_rfl) (by kernel_rfl) (by kernel_rfl) ?_ (by kernel_rfl) (by decide) (of_decide_eq_true (by kernel_rfl)) rfl ?_
  · intro ws h
    match ws, h with
    | [a], _ => kernel_rfl
  · intro A L a dd
    refine ex_cons ?_
    refine e1_assign (ev_attr rfl rfl (a_index hK) ?_)
    unfold nextOf at h
    cases hc : dec[i]? with
    | none =>
      rw [hc] at h
      cases h
      have hle := List.getElem?_eq_none_iff.mp hc
      refine ex_cons ?_
      refine e1_try_index (n_index hK) (ev_attr rfl rfl (a_dec hK) ⟨_, rfl, ev_name rfl ⟨i, rfl, hle, by omega, fun e => ?_⟩⟩)
      refine ex_cons ?_
      refine e1_setattr (a_next hK) (ev_none ⟨_, rfl, (by show 5 ≤ 900; decide), ?_⟩)
      exact ex_last (e1_return_none ⟨_, rfl, rfl, rfl⟩)
    | some c =>
      rw [hc] at h
      dsimp only at h
      have hlt : i < dec.length := (List.getElem?_eq_some_iff.mp hc).1
      have hp : pidx dec (i : Int) = some c := by rw [pidx_nn (Int.natCast_nonneg _)]; exact hc
      refine ex_cons ?_
      refine e1_try_ok ?_
      refine ex_last ?_
      refine e1_assign ?_
      refine ev_sub (ev_attr rfl rfl (a_dec hK) ?_)
      refine ev_name rfl ⟨⟨by omega, by omega⟩, c, hp, ?_⟩
      refine ex_cons ?_
      refine e1_if (et_cmp (ev_name rfl (ev_str ⟨_, rfl, fun hq => ?_, fun hq => ?_⟩)))
      · have h92 : c = 92 := by
          have := of_decide_eq_true hq
          rw [e92] at this
          simpa using this
        subst h92
        rw [if_pos rfl] at h
        cases hc2 : dec[i + 1]? with
        | none => rw [hc2] at h; cases h
        | some e =>
          rw [hc2] at h
          cases h
          have hlt2 : i + 1 < dec.length := (List.getElem?_eq_some_iff.mp hc2).1
          have hp2 : pidx dec ((i : Int) + 1) = some e := by rw [pidx_nn (by omega)]; exact hc2
          refine ex_cons ?_
          refine e1_aug rfl (ev_int ?_)
          refine ex_last ?_
          refine e1_try_ok ?_
          refine ex_last ?_
          refine e1_aug rfl ?_
          refine ev_sub (ev_attr rfl rfl (a_dec hK) ?_)
          refine ev_name rfl ⟨⟨by omega, by omega⟩, e, hp2, (by show 1 + 1 ≤ 1000000; decide), ?_⟩
          refine ex_cons ?_
          refine e1_setattr (a_index hK) (ev_bin (ev_name rfl (ev_int ⟨_, rfl, (by show 5 ≤ 900; decide), ?_⟩)))
          refine ex_last ?_
          refine e1_setattr (a_next hK) (ev_name rfl ⟨_, rfl, (by show 5 ≤ 900; decide), ?_⟩)
          exact ⟨_, rfl, rfl, rfl⟩
      · have h92 : c ≠ 92 := by
          have := of_decide_eq_false hq
          rw [e92] at this
          simpa using this
        rw [if_neg h92] at h
        cases h
        refine ex_nil ?_
        refine ex_cons ?_
        refine e1_setattr (a_index hK) (ev_bin (ev_name rfl (ev_int ⟨_, rfl, (by show 5 ≤ 900; decide), ?_⟩)))
        refine ex_last ?_
        refine e1_setattr (a_next hK) (ev_name rfl ⟨_, rfl, (by show 5 ≤ 900; decide), ?_⟩)
        exact ⟨_, rfl, rfl, rfl⟩

set_option maxHeartbeats 2000000 in
theorem s_get {X : Exn → Prop} {d : Nat} {ist : Bool} {str nx nx' : PV} {dec : List Nat} {i i' : Nat} (h : nextOf dec i = some (nx', i')) (hd : dec.length ≤ 900000) (hi : i ≤ dec.length) : ISpec Γ false 91 (d + 1) (some (145, tokFs ist str dec i nx)) [] (fun v fs => v = nx ∧ fs = tokFs ist str dec i' nx') X := by
  refine i_of_body (names := ["self"]) (fd := fdL w 91) (oc := .type "function") (od := none) (osl := #[]) (by rw [hK]; kernel_rfl) (by rw [hK]; kernel_rfl) (hbody := by exact rfl) (by kernel_rfl) (by kernel_rfl) (by kernel_rfl) (by kernel_rfl) (by kernel_rfl) (by kernel_rfl) ?_ (by kernel_rfl) (by decide) (of_decide_eq_true (by kernel_rfl)) rfl ?_
  · intro ws h
    match ws, h with
    | [a], _ => kernel_rfl
  · intro A L a dd
    refine ex_cons ?_
    refine e1_assign (ev_attr rfl rfl (a_next hK) ?_)
    refine ex_cons ?_
    refine e1_expr ?_
    refine ev_mcall rfl (m_next hK) rfl ?_
    refine ⟨_, d, _, X, rfl, Nat.le_refl _, s_next hK h hd hi, fun v fs hv => ?_, fun _ q => q⟩
    obtain ⟨rfl, rfl⟩ := hv
    refine ⟨rfl, ?_⟩
    refine ex_last ?_
    refine e1_return (ev_name rfl ?_)
    exact ⟨_, rfl, rfl, rfl⟩

noncomputable def lenPV : PV → Nat
  | .str t => t.length
  | _ => 0
set_option maxHeartbeats 2000000 in
theorem s_tell {X : Exn → Prop} {d : Nat} {ist : Bool} {str nx : PV} {dec : List Nat} {i : Nat} (hx : nx = .none ∨ ∃ t, nx = .str t ∧ t.length ≤ 1000000) : ISpec Γ false 120 d (some (145, tokFs ist str dec i nx)) [] (fun v fs => v = .int ((i : Int) - lenPV nx) ∧ fs = tokFs ist str dec i nx) X := by
  refine i_of_body (names := ["self"]) (fd := fdL w 120) (oc := .type "function") (od := none) (osl := #[]) (by rw [hK]; kernel_rfl) (by rw [hK]; kernel_rfl) (hbody := by exact rfl) (by kernel_rfl) (by kernel_rfl) (by kernel_rfl) (by kernel_rfl) (by kernel_rfl) (by kernel_rfl) ?_ (by kernel_rfl) (by decide) (of_decide_eq_true (by kernel_rfl)) rfl ?_
  · intro ws h
    match ws, h with
    | [a], _ => kernel_rfl
  · intro A L a dd
    refine ex_last ?_
    refine e1_return ?_
    refine ev_bin (ev_attr rfl rfl (a_index hK) ?_)
    refine ev_call1 (n_len hK) ?_
    refine ev_orelse ?_
    refine ev_attr rfl rfl (a_next hK) ?_
    rcases hx with rfl | ⟨t, rfl, ht⟩
    · refine .inl ⟨rfl, ev_str ⟨by decide, ?_⟩⟩
      exact ⟨_, rfl, rfl, rfl⟩
    · refine .inr ⟨t, rfl, ht, fun hne => ⟨ht, ?_⟩, fun he => ev_str ⟨by decide, ?_⟩⟩
      · exact ⟨_, rfl, rfl, rfl⟩
      · subst he
        exact ⟨_, rfl, rfl, rfl⟩

set_option maxHeartbeats 2000000 in
theorem t_init_str {X : Exn → Prop} {d : Nat} {x : List Nat} {nx' : PV} {i' : Nat} (h : nextOf x 0 = some (nx', i')) (hx : x.length ≤ 900000) : ISpec Γ false 70 (d + 1) (some (145, [])) [.str x] (fun v fs => v = .none ∧ fs = tokFs true (.str x) x i' nx') X := by
  refine i_of_body (names := ["self", "string"]) (fd := fdL w 70) (oc := .type "function") (od := none) (osl := #[]) (by rw [hK]; kernel_rfl) (by rw [hK]; kernel_rfl) (hbody := by exact rfl) (by kernel_rfl) (by kernel_rfl) (by kernel_rfl) (by kernel_rfl) (by kernel_rfl) (by kernel_rfl) ?_ (by kernel_rfl) (by decide) (of_decide_eq_true (by kernel_rfl)) rfl ?_
  · intro ws h
    match ws, h with
    | [a, b], _ => kernel_rfl
  · intro A L a dd
    refine ex_cons ?_
    refine e1_setattr (C := 145) (a := a) (d := dd) (a_istext hK) ?_
    refine ev_isi (n_isinstance hK) (n_str hK) (ev_name rfl ⟨_, rfl, by decide, ?_⟩)
    refine ex_cons ?_
    refine e1_setattr (a_string hK) (ev_name rfl ⟨_, rfl, (by show 1 ≤ 900; decide), ?_⟩)
    refine ex_cons ?_
    refine e1_if (et_not (et_val (ev_attr rfl rfl (a_istext hK) ⟨_, rfl, (fun hq => by cases hq), fun _ => ex_nil ?_⟩)))
    refine ex_cons ?_
    refine e1_setattr (a_dec hK) (ev_name rfl ⟨_, rfl, (by show 2 ≤ 900; decide), ?_⟩)
    refine ex_cons ?_
    refine e1_setattr (a_index hK) (ev_int ⟨_, rfl, (by show 3 ≤ 900; decide), ?_⟩)
    refine ex_cons ?_
    refine e1_setattr (a_next hK) (ev_none ⟨_, rfl, (by show 4 ≤ 900; decide), ?_⟩)
    refine ex_last ?_
    refine e1_expr ?_
    refine ev_mcall rfl (m_next hK) rfl ?_
    refine ⟨tokFs true (.str x) x 0 .none, d, _, X, rfl, Nat.le_refl _, s_next hK h hx (Nat.zero_le _), fun v fs hv => ?_, fun _ q => q⟩
    obtain ⟨rfl, rfl⟩ := hv
    exact ⟨rfl, _, rfl, rfl, rfl⟩


set_option maxHeartbeats 2000000 in
theorem s_match_no {X : Exn → Prop} {d : Nat} {ist : Bool} {str nx : PV} {dec c : List Nat} {i : Nat} (hx : nx = .none ∨ ∃ t, nx = .str t ∧ t ≠ c) : ISpec Γ false 84 d (some (145, tokFs ist str dec i nx)) [.str c] (fun v fs => v = .bool false ∧ fs = tokFs ist str dec i nx) X := by
  refine i_of_body (names := ["self", "char"]) (fd := fdL w 84) (oc := .type "function") (od := none) (osl := #[]) (by rw [hK]; kernel_rfl) (by rw [hK]; kernel_rfl) (hbody := by exact rfl) (by kernel_rfl) (by kernel_rfl) (by kernel_rfl) (by kernel_rfl) (by kernel_rfl) (by kernel_rfl) ?_ (by kernel_rfl) (by decide) (of_decide_eq_true (by kernel_rfl)) rfl ?_
  · intro ws h
    match ws, h with
    | [a, b], _ => kernel_rfl
  · intro A L a dd
    refine ex_cons ?_
    refine e1_if (et_cmp (ev_name rfl ?_))
    refine ev_attr rfl rfl (a_next hK) ?_
    rcases hx with rfl | ⟨t, rfl, ht⟩
    · refine ⟨_, rfl, nb, fun _ => ?_⟩
      refine ex_nil ?_
      refine ex_last ?_
      refine e1_return (ev_bool ?_)
      exact ⟨_, rfl, rfl, rfl⟩
    · refine ⟨_, rfl, fun z => ?_, fun _ => ?_⟩
      · exact absurd (of_decide_eq_true z).symm ht
      · refine ex_nil ?_
        refine ex_last ?_
        refine e1_return (ev_bool ?_)
        exact ⟨_, rfl, rfl, rfl⟩

set_option maxHeartbeats 2000000 in
theorem s_match_yes {X : Exn → Prop} {d : Nat} {ist : Bool} {str nx' : PV} {dec c : List Nat} {i i' : Nat} (h : nextOf dec i = some (nx', i')) (hd : dec.length ≤ 900000) (hi : i ≤ dec.length) : ISpec Γ false 84 (d + 1) (some (145, tokFs ist str dec i (.str c))) [.str c] (fun v fs => v = .bool true ∧ fs = tokFs ist str dec i' nx') X := by
  refine i_of_body (names := ["self", "char"]) (fd := fdL w 84) (oc := .type "function") (od := none) (osl := #[]) (by rw [hK]; kernel_rfl) (by rw [hK]; kernel_rfl) (hbody := by exact rfl) (by kernel_rfl) (by kernel_rfl) (by kernel_rfl) (by kernel_rfl) (by kernel_rfl) (by kernel_rfl) ?_ (by kernel_rfl) (by decide) (of_decide_eq_true (by kernel_rfl)) rfl ?_
  · intro ws h
    match ws, h with
    | [a, b], _ => kernel_rfl
  · intro A L a dd
    refine ex_cons ?_
    refine e1_if (et_cmp (ev_name rfl ?_))
    refine ev_attr rfl rfl (a_next hK) ?_
    refine ⟨_, rfl, fun z => ?_, fun z => absurd rfl (of_decide_eq_false z)⟩
    refine ex_cons ?_
    refine e1_expr ?_
    refine ev_mcall rfl (m_next hK) rfl ?_
    refine ⟨_, d, _, X, rfl, Nat.le_refl _, s_next hK h hd hi, fun v fs hv => ?_, fun _ q => q⟩
    obtain ⟨rfl, rfl⟩ := hv
    refine ⟨rfl, ?_⟩
    refine ex_last ?_
    refine e1_return (ev_bool ?_)
    exact ⟨_, rfl, rfl, rfl⟩
end
end Mine
set_option Elab.async false
set_option maxRecDepth 100000
set_option linter.unusedVariables false
namespace Mine
open PySem PySem.W PySem.Calls PySem.Spec PyProof.Rows

section
variable {w : World} {Γ : Gx} (hK : Γ.K = KL w) (hP : Γ.prog = PL)
include hK hP
/-- what `error` answers -/
theorem s_error_core {d : Nat} {dec m : List Nat} {i : Nat} {nx : PV} {vs dvs : List PV} {dws : List Value} {off : Int} (hvs : vs ++ dvs = [.str m, .int off]) (hdv : ∀ φ, Reps φ dvs dws)
    (hbind : ∀ a (ws : List Value), ws.length = vs.length → ∀ S, peek (KL w) S (bindArgs (fdL w 135) ⟨.ref a :: ws, []⟩) = some ((["self", "msg", "offset"].map Str.ofString).zip (.ref a :: (ws ++ dws))))
    (hx : nx = .none ∨ ∃ t, nx = .str t ∧ t.length ≤ 1000000) (hm : m.length ≤ 800000) (hd : dec.length ≤ 900000) (h0 : 0 ≤ (i : Int) - lenPV nx - off) (h1 : (i : Int) - lenPV nx - off ≤ 1000000000) :
    YSpec Γ false 135 (d + 3) 145 (tokFs true (.str dec) dec i nx) vs (fun efs => ∃ ln cn, efs = patFs m (.str dec) ((i : Int) - lenPV nx - off) ln cn) := by
  have hlv : vs.length + dvs.length = 2 := by rw [← List.length_append, hvs]; rfl
  refine y_of_body (names := ["self", "msg", "offset"]) (fd := fdL w 135) (oc := .type "function") (od := none) (osl := #[]) (pre := [_]) (dws := dws) (dvs := dvs) (by rw [hK]; kernel_rfl) (by rw [hK]; kernel_rfl) (hbody := by exact rfl) (by kernel_rfl) (by kernel_rfl) (by kernel_rfl) (by kernel_rfl) (by kernel_rfl) (by kernel_rfl) (by rw [hK]; exact hbind) hdv (by kernel_rfl) (of_decide_eq_true (by kernel_rfl)) (by decide) (by rw [hlv]; rfl) ?_
  intro A L a dd
  rw [hvs]
  refine ex_last ?_
  refine e1_if (et_not (et_val (ev_attr rfl rfl (a_istext hK) ⟨_, rfl, (fun hq => by cases hq), fun _ => ex_nil ?_⟩)))
  refine ey_new (n_err hK) (x_new hK) ?_ (.inl rfl)
  refine ev_name rfl ?_
  refine ev_attr rfl rfl (a_string hK) ?_
  refine ev_bin ?_
  refine ev_mcall rfl (m_tell hK) rfl ?_
  refine ⟨_, 0, _, _, rfl, by show 0 + 1 ≤ d + 3; omega, s_tell hK (X := fun _ => False) hx, fun v fs hv => ?_, fun y hy => hy.elim⟩
  obtain ⟨rfl, rfl⟩ := hv
  refine ev_name rfl ?_
  refine ⟨(by show 3 ≤ 100; decide), 0, _, by show 0 + 2 ≤ d + 3; omega, s_init_str hK hP hm (by omega) h0 h1, fun fs hfs => ?_⟩
  obtain ⟨ln, cn, rfl⟩ := hfs
  exact ⟨rfl, ln, cn, rfl⟩

theorem s_error0 {d : Nat} {dec m : List Nat} {i : Nat} {nx : PV} (hx : nx = .none ∨ ∃ t, nx = .str t ∧ t.length ≤ 1000000) (hm : m.length ≤ 800000) (hd : dec.length ≤ 900000) (h0 : 0 ≤ (i : Int) - lenPV nx) (h1 : (i : Int) - lenPV nx ≤ 1000000000) :
    YSpec Γ false 135 (d + 3) 145 (tokFs true (.str dec) dec i nx) [.str m] (fun efs => ∃ ln cn, efs = patFs m (.str dec) ((i : Int) - lenPV nx) ln cn) := by
  have := s_error_core hK hP (d := d) (dec := dec) (m := m) (i := i) (nx := nx) (vs := [.str m]) (dvs := [.int 0]) (dws := [.int 0 482]) (off := 0) rfl (fun φ => ⟨_, _, rfl, ⟨_, rfl⟩, rfl⟩) (fun a ws h S => by
    obtain ⟨b, rfl⟩ := len1 h rfl
    kernel_rfl) hx hm hd (by omega) (by omega)
  rw [Int.sub_zero] at this
  exact this
theorem s_error1 {d : Nat} {dec m : List Nat} {i : Nat} {nx : PV} {off : Int} (hx : nx = .none ∨ ∃ t, nx = .str t ∧ t.length ≤ 1000000) (hm : m.length ≤ 800000) (hd : dec.length ≤ 900000) (h0 : 0 ≤ (i : Int) - lenPV nx - off) (h1 : (i : Int) - lenPV nx - off ≤ 1000000000) :
    YSpec Γ false 135 (d + 3) 145 (tokFs true (.str dec) dec i nx) [.str m, .int off] (fun efs => ∃ ln cn, efs = patFs m (.str dec) ((i : Int) - lenPV nx - off) ln cn) :=
  s_error_core hK hP (vs := [.str m, .int off]) (dvs := []) (dws := []) rfl (fun φ => rfl) (fun a ws h S => by
    obtain ⟨b, c, rfl⟩ := len2 h rfl
    kernel_rfl) hx hm hd h0 h1
end
end Mine
set_option Elab.async false
set_option maxRecDepth 100000
set_option linter.unusedVariables false
namespace Mine
open PySem PySem.W PySem.Calls PySem.Spec PyProof.Rows

noncomputable def IsTok (t : List Nat) : Prop := (∃ c, t = [c] ∧ c ≠ 92) ∨ ∃ d, t = [92, d]
noncomputable def look (T : List (List Nat)) : PV := match T with
  | [] => .none
  | t :: _ => .str t
noncomputable def lookLen (T : List (List Nat)) : Nat := match T with
  | [] => 0
  | t :: _ => t.length
theorem next_look {dec : List Nat} {c : Nat} {T : List (List Nat)} (h : dec.drop c = T.flatten) (hc : c ≤ dec.length) (ht : ∀ t ∈ T, IsTok t) : nextOf dec c = some (look T, c + lookLen T) := by
  unfold nextOf
  cases T with
  | nil =>
    have : dec.length ≤ c := by
      have := congrArg List.length h
      simp at this
      omega
    rw [List.getElem?_eq_none this]
    rfl
  | cons t T =>
    have e0 : dec[c]? = (t ++ T.flatten)[0]? := by
      rw [← List.flatten_cons, ← h, List.getElem?_drop, Nat.add_zero]
    have e1 : dec[c + 1]? = (t ++ T.flatten)[1]? := by
      rw [← List.flatten_cons, ← h, List.getElem?_drop]
    rcases ht t (.head _) with ⟨x, rfl, hx⟩ | ⟨x, rfl⟩
    · rw [e0]
      show (if x = 92 then _ else _) = _
      rw [if_neg hx]; rfl
    · rw [e0, e1]
      rfl
theorem look_tail {dec : List Nat} {c : Nat} {T : List (List Nat)} (h : dec.drop c = T.flatten) : dec.drop (c + lookLen T) = T.tail.flatten := by
  cases T with
  | nil => simpa [lookLen] using h
  | cons t T =>
    rw [← List.drop_drop, h]
    simp [lookLen]

theorem look_ok {T : List (List Nat)} (h : ∀ t ∈ T, IsTok t) : look T = .none ∨ ∃ t, look T = .str t ∧ t.length ≤ 1000000 := by
  cases T with
  | nil => exact .inl rfl
  | cons t T =>
    refine .inr ⟨t, rfl, ?_⟩
    rcases h t (.head _) with ⟨x, rfl, _⟩ | ⟨x, rfl⟩ <;> simp
theorem look_len (T : List (List Nat)) : lenPV (look T) = lookLen T := by cases T <;> rfl


/-- a reader that has c signs behind it and the tokens T before it -/
structure RdOk (dec : List Nat) (c : Nat) (T : List (List Nat)) : Prop where
  drop : dec.drop c = T.flatten
  le : c ≤ dec.length
  tok : ∀ t ∈ T, IsTok t
noncomputable def fsR (dec : List Nat) (c : Nat) (T : List (List Nat)) : Fs := tokFs true (.str dec) dec (c + lookLen T) (look T)
theorem RdOk.next {dec : List Nat} {c : Nat} {T : List (List Nat)} (h : RdOk dec c T) : c + lookLen T ≤ dec.length := by
  have := congrArg List.length h.drop
  rw [List.length_drop] at this
  cases T with
  | nil => have := h.le; simp [lookLen]; omega
  | cons t T =>
    rw [List.flatten_cons, List.length_append] at this
    show c + t.length ≤ _
    have h1 : 1 ≤ t.length := by
      rcases h.tok t (.head _) with ⟨x, rfl, _⟩ | ⟨x, rfl⟩ <;> simp
    omega
theorem RdOk.tail {dec : List Nat} {c : Nat} {T : List (List Nat)} (h : RdOk dec c T) : RdOk dec (c + lookLen T) T.tail :=
  ⟨look_tail h.drop, h.next, fun t ht => h.tok t (List.mem_of_mem_tail ht)⟩
theorem RdOk.len {dec : List Nat} {c : Nat} {T : List (List Nat)} (h : RdOk dec c T) : c + T.flatten.length = dec.length := by
  have := congrArg List.length h.drop
  rw [List.length_drop] at this
  have := h.le
  omega

section
variable {w : World} {Γ : Gx} (hK : Γ.K = KL w) (hP : Γ.prog = PL)
include hK
theorem m_match : MethOk Γ.K 145 "match" 84 := ⟨by rw [hK]; kernel_rfl, by rw [hK]; kernel_rfl, by rw [hK]; kernel_rfl, by rw [hK]; kernel_rfl⟩
theorem m_until : MethOk Γ.K 145 "getuntil" 105 := ⟨by rw [hK]; kernel_rfl, by rw [hK]; kernel_rfl, by rw [hK]; kernel_rfl, by rw [hK]; kernel_rfl⟩
theorem m_error : MethOk Γ.K 145 "error" 135 := ⟨by rw [hK]; kernel_rfl, by rw [hK]; kernel_rfl, by rw [hK]; kernel_rfl, by rw [hK]; kernel_rfl⟩
theorem s_nextR {X : Exn → Prop} {d c : Nat} {dec : List Nat} {T : List (List Nat)} (h : RdOk dec c T) (hd : dec.length ≤ 900000) : ISpec Γ false 77 d (some (145, fsR dec c T)) [] (fun v fs => v = .none ∧ fs = fsR dec (c + lookLen T) T.tail) X :=
  s_next hK (next_look h.tail.drop h.tail.le h.tail.tok) hd h.next
theorem s_getR {X : Exn → Prop} {d c : Nat} {dec : List Nat} {T : List (List Nat)} (h : RdOk dec c T) (hd : dec.length ≤ 900000) : ISpec Γ false 91 (d + 1) (some (145, fsR dec c T)) [] (fun v fs => v = look T ∧ fs = fsR dec (c + lookLen T) T.tail) X :=
  s_get hK (next_look h.tail.drop h.tail.le h.tail.tok) hd h.next
theorem s_tellR {X : Exn → Prop} {d c : Nat} {dec : List Nat} {T : List (List Nat)} (h : RdOk dec c T) : ISpec Γ false 120 d (some (145, fsR dec c T)) [] (fun v fs => v = .int c ∧ fs = fsR dec c T) X := by
  have := s_tell hK (X := X) (d := d) (ist := true) (str := .str dec) (dec := dec) (i := c + lookLen T) (look_ok h.tok)
  rw [look_len] at this
  have e : ((c + lookLen T : Nat) : Int) - (lookLen T : Nat) = c := by omega
  rw [e] at this
  exact this
theorem s_initR {X : Exn → Prop} {d : Nat} {dec : List Nat} {T : List (List Nat)} (h : RdOk dec 0 T) (hd : dec.length ≤ 900000) : ISpec Γ false 70 (d + 1) (some (145, [])) [.str dec] (fun v fs => v = .none ∧ fs = fsR dec 0 T) X :=
  t_init_str hK (next_look h.drop h.le h.tok) hd
theorem s_matchR_yes {X : Exn → Prop} {d c : Nat} {dec : List Nat} {T : List (List Nat)} (h : RdOk dec c ([124] :: T)) (hd : dec.length ≤ 900000) : ISpec Γ false 84 (d + 1) (some (145, fsR dec c ([124] :: T))) [.str [124]] (fun v fs => v = .bool true ∧ fs = fsR dec (c + 1) T) X :=
  s_match_yes hK (next_look h.tail.drop h.tail.le h.tail.tok) hd h.next
theorem s_matchR_no {X : Exn → Prop} {d c : Nat} {dec : List Nat} {T : List (List Nat)} (h : RdOk dec c T) (hn : ∀ t, T.head? = some t → t ≠ [124]) : ISpec Γ false 84 d (some (145, fsR dec c T)) [.str [124]] (fun v fs => v = .bool false ∧ fs = fsR dec c T) X := by
  refine s_match_no hK ?_
  cases T with
  | nil => exact .inl rfl
  | cons t T => exact .inr ⟨t, rfl, hn t rfl⟩
include hP
theorem s_errR0 {d c : Nat} {dec m : List Nat} {T : List (List Nat)} (h : RdOk dec c T) (hd : dec.length ≤ 900000) (hm : m.length ≤ 800000) : YSpec Γ false 135 (d + 3) 145 (fsR dec c T) [.str m] (fun efs => ∃ ln cn, efs = patFs m (.str dec) c ln cn) := by
  have hl := h.le
  have e : ((c + lookLen T : Nat) : Int) - (lenPV (look T) : Nat) = c := by rw [look_len]; omega
  have := s_error0 hK hP (d := d) (dec := dec) (m := m) (i := c + lookLen T) (look_ok h.tok) hm hd (by rw [e]; omega) (by rw [e]; omega)
  rw [e] at this
  exact this
theorem s_errR1 {d c : Nat} {dec m : List Nat} {T : List (List Nat)} {off : Nat} (h : RdOk dec c T) (hd : dec.length ≤ 900000) (hm : m.length ≤ 800000) (ho : off ≤ c) : YSpec Γ false 135 (d + 3) 145 (fsR dec c T) [.str m, .int off] (fun efs => ∃ ln cn, efs = patFs m (.str dec) ((c - off : Nat) : Int) ln cn) := by
  have hl := h.le
  have e : ((c + lookLen T : Nat) : Int) - (lenPV (look T) : Nat) - (off : Int) = ((c - off : Nat) : Int) := by rw [look_len]; omega
  have := s_error1 hK hP (d := d) (dec := dec) (m := m) (i := c + lookLen T) (off := off) (look_ok h.tok) hm hd (by rw [e]; omega) (by rw [e]; omega)
  rw [e] at this
  exact this
end
end Mine
set_option Elab.async false
set_option maxRecDepth 100000
set_option linter.unusedVariables false
namespace Mine
open PySem PySem.W PySem.Calls PySem.Spec PyProof.Rows

noncomputable def missName (y : List Nat) : List Nat := (Str.ofString "missing ").cps.toList ++ y
/-- what getuntil does with the tokens before it: the bar ends the item -/
noncomputable def untilBar : List (List Nat) → Option (List (List Nat) × List (List Nat))
  | [] => none
  | t :: T => if t = [124] then some ([], T) else (untilBar T).map fun p => (t :: p.1, p.2)
theorem until_app : ∀ {B : List (List Nat)}, (∀ t ∈ B, t ≠ [124]) → ∀ D, untilBar (B ++ D) = (untilBar D).map fun p => (B ++ p.1, p.2)
  | [], _, D => by simp
  | t :: B, hB, D => by
    show untilBar (t :: (B ++ D)) = _
    conv => lhs; unfold untilBar
    rw [if_neg (hB t (.head _)), until_app (fun u hu => hB u (.tail _ hu)), Option.map_map]
    rfl
theorem flat_ne {B : List (List Nat)} (h : ∀ t ∈ B, IsTok t) (hb : B ≠ []) : B.flatten ≠ [] := fun e => by
  cases B with
  | nil => exact hb rfl
  | cons t B =>
    have h1 : 1 ≤ t.length := by
      rcases h t (.head _) with ⟨x, rfl, _⟩ | ⟨x, rfl⟩ <;> simp
    have h2 := congrArg List.length e
    rw [List.flatten_cons, List.length_append, List.length_nil] at h2
    omega

section
variable {w : World} {Γ : Gx} (hK : Γ.K = KL w) (hP : Γ.prog = PL)
include hK hP
set_option maxHeartbeats 8000000 in
theorem s_until {d c : Nat} {dec name : List Nat} {T : List (List Nat)} (h : RdOk dec c T) (hd : dec.length ≤ 800000) (hn : name.length ≤ 1000) (hne : T.head? ≠ some [124]) :
    ISpec Γ false 105 (d + 5) (some (145, fsR dec c T)) [.str [124], .str name] (fun v fs => ∃ U W, untilBar T = some (U, W) ∧ v = .str U.flatten ∧ fs = fsR dec (c + U.flatten.length + 1) W)
      (fun x => untilBar T = none ∧ x = .pat (if T = [] then missName name else missText [124]) (.str dec) (c : Nat)) := by
  refine i_of_body (names := ["self", "terminator", "name"]) (fd := fdL w 105) (oc := .type "function") (od := none) (osl := #[]) (by rw [hK]; kernel_rfl) (by rw [hK]; kernel_rfl) (hbody := by exact rfl) (by kernel_rfl) (by kernel_rfl) (by kernel_rfl) (by kernel_rfl) (by kernel_rfl) (by kernel_rfl) ?_ (by kernel_rfl) (by decide) (of_decide_eq_true (by kernel_rfl)) rfl ?_
  · intro ws h
    obtain ⟨a, r, rfl⟩ : ∃ a r, ws = a :: r := by
      cases ws with
      | nil => cases h
      | cons a r => exact ⟨a, r, rfl⟩
    obtain ⟨b, e, rfl⟩ := len2 (l := r) (n := 2) (by rw [List.length_cons] at h; exact Nat.succ.inj h) rfl
    kernel_rfl
  · intro A L a dd
    refine ex_cons ?_
    refine e1_assign ?_
    refine ev_str ?_
    refine ex_cons ?_
    have hmn : (missName name).length ≤ 800000 := by
      unfold missName
      have : (Str.ofString "missing ").cps.toList.length = 8 := by decide +kernel
      rw [List.length_append, this]
      omega
    have hmt : (missText [124]).length ≤ 800000 := by decide +kernel
    refine e1_while (fun n ρ => ∃ B D : List (List Nat), n = D.length + 1 ∧ T = B ++ D ∧ (∀ t ∈ B, t ≠ [124]) ∧ RdOk dec (c + B.flatten.length) D ∧ get "self" ρ = some (.obj 145 a dd (fsR dec (c + B.flatten.length) D)) ∧
      get "result" ρ = some (.val (.str B.flatten)) ∧ get "terminator" ρ = some (.val (.str [124])) ∧ get "name" ρ = some (.val (.str name))) (T.length + 1)
      ⟨[], T, rfl, rfl, (fun _ h => nomatch h), h, rfl, rfl, rfl, rfl⟩ (fun n ρ hI => ?_)
    obtain ⟨B, D, rfl, hT, hB, hR, g1, g2, g3, g4⟩ := hI
    have hlen := hR.len
    have hle := hR.le
    refine et_val (ev_bool ⟨true, rfl, fun _ => ?_, nb⟩)
    refine ex_cons ?_
    refine e1_assign ?_
    refine ev_attr g1 rfl (a_next hK) ?_
    refine ex_cons ?_
    refine e1_expr ?_
    refine ev_mcall (get_upd_ne g1) (m_next hK) rfl ?_
    refine ⟨_, 0, _, fun _ => False, get_upd_ne g1, by show 0 + 1 ≤ d + 5; omega, s_nextR hK hR (by omega), fun v fs hv => ?_, fun _ q => q.elim⟩
    obtain ⟨rfl, rfl⟩ := hv
    refine ⟨rfl, ?_⟩
    have hR2 := hR.tail
    have q1 := get_upd_self "self" (.obj 145 a dd (fsR dec (c + B.flatten.length + lookLen D) D.tail)) (upd "c" (.val (look D)) ρ)
    have qc : get "c" (upd "self" (.obj 145 a dd (fsR dec (c + B.flatten.length + lookLen D) D.tail)) (upd "c" (.val (look D)) ρ)) = some (.val (look D)) := get_upd_ne (get_upd_self _ _ _)
    have q2 : get "result" (upd "self" (.obj 145 a dd (fsR dec (c + B.flatten.length + lookLen D) D.tail)) (upd "c" (.val (look D)) ρ)) = _ := get_upd_ne (get_upd_ne g2)
    have q3 : get "terminator" (upd "self" (.obj 145 a dd (fsR dec (c + B.flatten.length + lookLen D) D.tail)) (upd "c" (.val (look D)) ρ)) = _ := get_upd_ne (get_upd_ne g3)
    have q4 : get "name" (upd "self" (.obj 145 a dd (fsR dec (c + B.flatten.length + lookLen D) D.tail)) (upd "c" (.val (look D)) ρ)) = _ := get_upd_ne (get_upd_ne g4)
    generalize upd "self" (.obj 145 a dd (fsR dec (c + B.flatten.length + lookLen D) D.tail)) (upd "c" (.val (look D)) ρ) = ρ at q1 qc q2 q3 q4 ⊢
    cases D with
    | nil =>
      have hnone : untilBar T = none := by rw [hT, until_app hB]; rfl
      refine ex_cons ?_
      refine e1_if (et_cmp (ev_name qc (ev_none ⟨_, rfl, fun _ => ?_, nb⟩)))
      refine ex_cons ?_
      refine e1_if (et_not (et_str (ev_name q2 ⟨_, rfl, by rw [List.flatten_nil, List.length_nil] at hlen; omega, fun z => ?_, fun z => ?_⟩)))
      · have hb : B = [] := by
          by_cases q : B = []
          · exact q
          · exfalso
            have := flat_ne (fun t ht => h.tok t (by rw [hT]; exact List.mem_append_left _ ht)) q
            simp [this] at z
        subst hb
        refine ex_last ?_
        refine e1_raise (x_new hK) ?_ (.inl rfl)
        refine ey_mcall q1 (m_error hK) rfl ?_ 
        refine ev_bin ?_
        refine ev_str ?_
        refine ev_name q4 ⟨by have : (Str.ofString "missing ").cps.toList.length = 8 := by decide +kernel
                              omega, ?_⟩
        refine ⟨_, 3, _, q1, by show 3 + 1 ≤ d + 5; omega, s_errR0 hK hP (d := 0) hR2 (by omega) hmn, fun efs hefs => ?_⟩
        obtain ⟨ln, cn, rfl⟩ := hefs
        refine ⟨_, _, _, ln, cn, rfl, hnone, ?_⟩
        have hT' : T = [] := hT
        rw [if_pos hT']
        show Exn.pat _ _ ((c + 0 + 0 : Nat) : Int) = _
        rfl
      · have hb : B.flatten ≠ [] := fun e => by rw [e] at z; simp at z
        have hTn : T ≠ [] := fun e => by
          rw [hT] at e
          have : B = [] := by simpa using e
          rw [this] at hb
          exact hb rfl
        refine ex_nil ?_
        refine ex_last ?_
        refine e1_raise (x_new hK) ?_ (.inl rfl)
        refine ey_mcall q1 (m_error hK) rfl ?_
        refine ev_miss ?_
        refine ev_name q3 ⟨_, rfl, by decide, ?_⟩
        refine ev_call1 (n_len hK) (ev_name q2 ⟨by rw [List.flatten_nil, List.length_nil] at hlen; omega, ?_⟩)
        refine ⟨_, 3, _, q1, by show 3 + 1 ≤ d + 5; omega, s_errR1 hK hP (d := 0) (off := B.flatten.length) hR2 (by omega) hmt (by show _ ≤ c + B.flatten.length + 0; omega), fun efs hefs => ?_⟩
        obtain ⟨ln, cn, rfl⟩ := hefs
        refine ⟨_, _, _, ln, cn, rfl, hnone, ?_⟩
        rw [if_neg hTn]
        have : c + B.flatten.length + lookLen [] - B.flatten.length = c := by show c + B.flatten.length + 0 - _ = c; omega
        rw [this]
    | cons t D =>
      have htok := hR.tok t (.head _)
      refine ex_cons ?_
      refine e1_if (et_cmp (ev_name qc (ev_none ⟨_, rfl, nb, fun _ => ?_⟩)))
      refine ex_nil ?_
      refine ex_cons ?_
      refine e1_if (et_cmp (ev_name qc (ev_name q3 ⟨_, rfl, fun z => ?_, fun z => ?_⟩)))
      · have z : t = [124] := of_decide_eq_true z
        subst z
        have hBn : B ≠ [] := fun e => by
          rw [e] at hT
          rw [hT] at hne
          exact hne rfl
        have hfl := flat_ne (fun t ht => h.tok t (by rw [hT]; exact List.mem_append_left _ ht)) hBn
        refine ex_cons ?_
        refine e1_if (et_not (et_str (ev_name q2 ⟨_, rfl, by omega, fun z => ?_, fun z => ?_⟩)))
        · simp [hfl] at z
        · refine ex_nil ?_
          refine ex_last ?_
          refine e1_break ?_
          refine ex_last ?_
          refine e1_return (ev_name q2 ?_)
          refine ⟨_, q1, B, D, ?_, rfl, rfl⟩
          rw [hT, until_app hB]
          unfold untilBar
          rw [if_pos rfl]
          simp
      · have z : t ≠ [124] := of_decide_eq_false z
        refine ex_nil ?_
        refine ex_last ?_
        refine e1_aug q2 ?_
        have hlt : B.flatten.length + t.length ≤ 1000000 := by
          rw [List.flatten_cons, List.length_append] at hlen
          omega
        refine ev_name qc ⟨hlt, ?_⟩
        have eB : (B ++ [t]).flatten = B.flatten ++ t := by simp
        have el : c + (B ++ [t]).flatten.length = c + B.flatten.length + t.length := by rw [eB, List.length_append]; omega
        refine ⟨D.length + 1, by simp, B ++ [t], D, rfl, by rw [hT]; simp, fun u hu => ?_, ?_, ?_, ?_, get_upd_ne q3, get_upd_ne q4⟩
        · rcases List.mem_append.mp hu with hu | hu
          · exact hB u hu
          · rw [List.mem_singleton.mp hu]; exact z
        · rw [el]; exact hR2
        · rw [el]; exact get_upd_ne q1
        · rw [eB]; exact get_upd_self _ _ _
end
end Mine
set_option Elab.async false
set_option maxRecDepth 100000
set_option linter.unusedVariables false
namespace Mine
open PySem PySem.W PySem.Calls PySem.Spec PyProof.Rows

noncomputable def alpha : List Nat := [124, 92, 97, 46, 126, 10, 35, 233]
noncomputable def marks5 : List Nat := [124, 46, 126, 10, 35]
noncomputable def sgn (depth c : Nat) : List Nat := if c = 92 then List.replicate (2 ^ depth) 92 else if c ∈ marks5 then List.replicate (2 ^ depth - 1) 92 ++ [c] else [c]
theorem lit5 : (Str.ofString "|.~\n#").cps.toList = marks5 := by decide +kernel
theorem occ5 : ∀ c ∈ alpha, (!(Builtin.Str.occurrences ⟨marks5.toArray⟩ ⟨[c].toArray⟩ 0 marks5.length 1).isEmpty) = decide (c ∈ marks5) := by decide +kernel
theorem rep_one (c n : Nat) : rep [c] n = List.replicate n c := by
  unfold rep
  simp
theorem bin_sub {i j : Int} {P : PV → Prop} (h : P (.int (i - j))) : Bin .Sub (.int i) (.int j) P := h
theorem pow_nat (n : Nat) : (2 : Int) ^ ((n : Int).toNat) = ((2 ^ n : Nat) : Int) := by simp

section
variable {w : World} {Γ : Gx} (hK : Γ.K = KL w)
include hK
theorem n_sign : NameIs Γ "_law_sign" (.ref 156) := .inl (by rw [hK]; kernel_rfl)
theorem n_page : NameIs Γ "_law_page" (.ref 161) := .inl (by rw [hK]; kernel_rfl)
theorem n_nest : NameIs Γ "_law_nest" (.ref 166) := .inl (by rw [hK]; kernel_rfl)
theorem n_take : NameIs Γ "_law_take" (.ref 173) := .inl (by rw [hK]; kernel_rfl)
theorem n_bare : NameIs Γ "_law_bare" (.ref 180) := .inl (by rw [hK]; kernel_rfl)
theorem n_step : NameIs Γ "_law_step" (.ref 187) := .inl (by rw [hK]; kernel_rfl)
theorem n_refused : NameIs Γ "_law_refused" (.ref 194) := .inl (by rw [hK]; kernel_rfl)
theorem kp (f : Addr) (h : keepIn (KL w) (.ref f) = true) : keepIn Γ.K (.ref f) = true := by rw [hK]; exact h

set_option maxHeartbeats 2000000 in
theorem s_sign {d c depth : Nat} (hc : c ∈ alpha) (hd : depth ≤ 10) : Spec Γ 156 d [.str [c], .int depth] (fun v => v = .str (sgn depth c)) := by
  refine spec_of_body (names := ["sign", "depth"]) (fd := fdL w 156) (oc := .type "function") (od := none) (osl := #[]) (by rw [hK]; kernel_rfl) (by rw [hK]; kernel_rfl) (hbody := by exact rfl) (by kernel_rfl) (by kernel_rfl) (by kernel_rfl) (by kernel_rfl) (by kernel_rfl) (by kernel_rfl) ?_ (by kernel_rfl) (by decide) (of_decide_eq_true (by kernel_rfl)) rfl ?_
  · intro ws h
    obtain ⟨a, b, rfl⟩ := len2 h rfl
    kernel_rfl
  · intro A L
    have hp : 1 ≤ 2 ^ depth ∧ 2 ^ depth ≤ 1024 := ⟨Nat.one_le_two_pow, Nat.le_trans (Nat.pow_le_pow_right (by decide) hd) (by decide)⟩
    refine ex_cons ?_
    refine e1_if (et_cmp (ev_name rfl (ev_str ⟨_, rfl, fun q => ?_, fun q => ?_⟩)))
    · have q := of_decide_eq_true q
      rw [e92] at q
      have q : c = 92 := by simpa using q
      refine ex_last ?_
      refine e1_return ?_
      refine ev_bin ?_
      refine ev_name rfl ?_
      refine ev_bin ?_
      refine ev_int ?_
      refine ev_name rfl ⟨⟨by decide, by decide, by omega, by omega⟩, ?_⟩
      rw [pow_nat]
      refine ⟨⟨by omega, by omega, by rw [Int.toNat_natCast, List.length_singleton]; omega⟩, ?_⟩
      rw [Int.toNat_natCast, rep_one]
      unfold sgn
      rw [if_pos q, q]
    · have q := of_decide_eq_false q
      rw [e92] at q
      have q : c ≠ 92 := fun e => q (by rw [e])
      refine ex_nil ?_
      refine ex_cons ?_
      refine e1_if (et_in_lit (ev_name rfl (ev_str ⟨_, _, rfl, rfl, ?_⟩)))
      rw [lit5, occ5 c hc]
      refine ⟨fun z => ?_, fun z => ?_⟩
      · have z := of_decide_eq_true z
        refine ex_last ?_
        refine e1_return ?_
        refine ev_bin ?_
        refine ev_bin ?_
        refine ev_str ?_
        refine ev_bin ?_
        refine ev_bin ?_
        refine ev_int ?_
        refine ev_name rfl ⟨⟨by decide, by decide, by omega, by omega⟩, ?_⟩
        rw [pow_nat]
        refine ev_int ?_
        have e1 : ((2 ^ depth : Nat) : Int) - 1 = ((2 ^ depth - 1 : Nat) : Int) := by omega
        refine bin_sub ?_
        rw [e1, e92]
        refine ⟨⟨by omega, by omega, by rw [Int.toNat_natCast, List.length_singleton]; omega⟩, ?_⟩
        rw [Int.toNat_natCast, rep_one]
        refine ev_name rfl ⟨by rw [List.length_replicate, List.length_singleton]; omega, ?_⟩
        unfold sgn
        rw [if_neg q, if_pos z]
      · have z := of_decide_eq_false z
        refine ex_nil ?_
        refine ex_last ?_
        refine e1_return ?_
        refine ev_name rfl ?_
        unfold sgn
        rw [if_neg q, if_neg z]
end
end Mine
set_option Elab.async false
set_option maxRecDepth 100000
set_option linter.unusedVariables false
namespace Mine
open PySem PySem.W PySem.Calls PySem.Spec PyProof.Rows

/-! piles: texts over the alphabet, and piles -/
mutual
noncomputable def goodV : PV → Prop
  | .str t => t ≠ [] ∧ ∀ c ∈ t, c ∈ alpha
  | .list l => goodL l
  | _ => False
noncomputable def goodL : List PV → Prop
  | [] => True
  | v :: r => goodV v ∧ goodL r
end
mutual
noncomputable def pageV : Nat → PV → List Nat
  | d, .str t => t.flatMap (sgn d)
  | d, .list l => pageL d l
  | _, _ => []
noncomputable def pageL : Nat → List PV → List Nat
  | _, [] => []
  | d, v :: r => pageV (d + 1) v ++ (sgn d 124 ++ pageL d r)
end
mutual
noncomputable def nestV : PV → Nat
  | .list l => nestL l + 1
  | _ => 0
noncomputable def nestL : List PV → Nat
  | [] => 0
  | v :: r => max (nestV v) (nestL r)
end
theorem goodL_mem : ∀ {l : List PV}, goodL l → ∀ v ∈ l, goodV v
  | _ :: _, h, _, .head _ => h.1
  | _ :: _, h, _, .tail _ m => goodL_mem h.2 _ m
theorem nestL_mem : ∀ {l : List PV}, ∀ v ∈ l, nestV v ≤ nestL l
  | v :: r, _, .head _ => by unfold nestL; omega
  | v :: r, _, .tail _ m => by
    have := nestL_mem _ m
    unfold nestL
    omega
theorem sgn_pos (d c : Nat) : 1 ≤ (sgn d c).length := by
  unfold sgn
  have h : 1 ≤ 2 ^ d := Nat.one_le_two_pow
  split
  · rw [List.length_replicate]; exact h
  · split
    · rw [List.length_append]; simp
    · simp
theorem pageL_cons (d : Nat) (v : PV) (r : List PV) : pageL d (v :: r) = pageV (d + 1) v ++ (sgn d 124 ++ pageL d r) := by rw [pageL]
theorem pageL_snoc (d : Nat) : ∀ (l : List PV) (v : PV), pageL d (l ++ [v]) = pageL d l ++ (pageV (d + 1) v ++ sgn d 124)
  | [], v => by simp [pageL]
  | u :: l, v => by
    rw [List.cons_append, pageL_cons, pageL_cons, pageL_snoc d l v]
    simp
theorem pageL_app (d : Nat) : ∀ (l r : List PV), pageL d (l ++ r) = pageL d l ++ pageL d r
  | [], r => by simp [pageL]
  | u :: l, r => by
    rw [List.cons_append, pageL_cons, pageL_cons, pageL_app d l r]
    simp
theorem pageL_len (d : Nat) : ∀ l : List PV, l.length ≤ (pageL d l).length
  | [] => Nat.zero_le _
  | v :: r => by
    have h1 := pageL_len d r
    have h2 := sgn_pos d 124
    rw [pageL_cons, List.length_append, List.length_append, List.length_cons]
    omega
theorem flatMap_len (d : Nat) (t : List Nat) : t.length ≤ (t.flatMap (sgn d)).length := by
  induction t with
  | nil => simp
  | cons c r ih =>
    have := sgn_pos d c
    rw [List.flatMap_cons, List.length_append, List.length_cons]
    omega
theorem pageV_le {d : Nat} {l : List PV} {v : PV} (h : v ∈ l) : (pageV (d + 1) v).length ≤ (pageL d l).length := by
  obtain ⟨a, b, rfl⟩ := List.append_of_mem h
  rw [pageL_app, pageL_cons]
  simp only [List.length_append]
  omega
theorem flat_map (d : Nat) (t : List Nat) : (t.map (sgn d)).flatten = t.flatMap (sgn d) := by
  rw [List.flatMap_def]

section
variable {w : World} {Γ : Gx} (hK : Γ.K = KL w)
include hK
set_option maxHeartbeats 4000000 in
theorem page_step {d depth : Nat} {pile : List PV} (hsub : ∀ l, PV.list l ∈ pile → Spec Γ 161 d [.list l, .int ((depth + 1 : Nat) : Int)] (fun v => v = .str (pageL (depth + 1) l))) (hg : goodL pile) (hd : depth ≤ 8) (hl : (pageL depth pile).length ≤ 100000) :
    Spec Γ 161 (d + 1) [.list pile, .int depth] (fun v => v = .str (pageL depth pile)) := by
  refine spec_of_body (names := ["pile", "depth"]) (fd := fdL w 161) (oc := .type "function") (od := none) (osl := #[]) (by rw [hK]; kernel_rfl) (by rw [hK]; kernel_rfl) (hbody := by exact rfl) (by kernel_rfl) (by kernel_rfl) (by kernel_rfl) (by kernel_rfl) (by kernel_rfl) (by kernel_rfl) ?_ (by kernel_rfl) (by decide) (of_decide_eq_true (by kernel_rfl)) rfl ?_
  · intro ws h
    obtain ⟨a, b, rfl⟩ := len2 h rfl
    kernel_rfl
  · intro A L
    have hpl := pageL_len depth pile
    refine ex_cons ?_
    refine e1_assign_own ?_
    refine en_list ?_
    refine ⟨(by show 0 ≤ 1000000; decide), fun a => ?_⟩
    refine ex_cons ?_
    refine e1_for (iter_val (ev_name rfl ⟨_, rfl, by omega, ?_⟩))
    refine for_inv (fun i ρ => ∃ ss : List (List Nat), ss.flatten = pageL depth (pile.take i) ∧ ss.length ≤ ss.flatten.length + i ∧ get "parts" ρ = some (.own a (pss ss)) ∧ get "depth" ρ = some (.val (.int depth))) ⟨[], by simp [pageL], by simp, rfl, rfl⟩ (fun i v ρ hv hI => ?_) (fun ρ hI => ?_)
    · obtain ⟨ss, h1, h2, g1, g2⟩ := hI
      obtain ⟨hlt, hve⟩ := List.getElem?_eq_some_iff.mp hv
      have hmem : v ∈ pile := hve ▸ List.getElem_mem hlt
      have hgv := goodL_mem hg v hmem
      have htk : pile.take (i + 1) = pile.take i ++ [v] := by rw [List.take_succ_eq_append_getElem hlt, hve]
      have hle : (pageL depth (pile.take i)).length + ((pageV (depth + 1) v).length + (sgn depth 124).length) ≤ 100000 := by
        have e : pile = pile.take (i + 1) ++ pile.drop (i + 1) := (List.take_append_drop _ _).symm
        have h3 : (pageL depth pile).length = (pageL depth (pile.take (i + 1))).length + (pageL depth (pile.drop (i + 1))).length := by
          conv => lhs; rw [e]
          rw [pageL_app, List.length_append]
        rw [htk, pageL_snoc, List.length_append, List.length_append] at h3
        omega
      have hi : i ≤ 100000 := by omega
      have h1' := congrArg List.length h1
      have fs1 : ∀ x : List Nat, [x].flatten = x := fun x => by simp
      have hs1 := sgn_pos depth 124
      have ed : (depth : Int) + 1 = ((depth + 1 : Nat) : Int) := by omega
      refine ex_cons ?_
      refine e1_via (fun ρ' => ∃ ss' : List (List Nat), ss'.flatten = pageL depth (pile.take i) ++ pageV (depth + 1) v ∧ ss'.length ≤ ss'.flatten.length + i + 1 ∧ get "parts" ρ' = some (.own a (pss ss')) ∧ get "depth" ρ' = some (.val (.int depth))) ?_ (fun ρ' hJ => ?_)
      · cases v with
        | list l =>
          refine e1_if (et_val (ev_isl (n_isinstance hK) (n_list hK) (ev_name (get_upd_self _ _ _) (.inl ⟨l, rfl, true, rfl, fun _ => ?_, nb⟩))))
          refine ex_last ?_
          refine e1_append (get_upd_ne g1) ?_
          refine ev_call (n_page hK) (kp hK 161 (by kernel_rfl)) ?_
          refine ev_name (get_upd_self _ _ _) ?_
          refine ev_bin (ev_name (get_upd_ne g2) (ev_int ?_))
          have sp := hsub l hmem
          rw [← ed] at sp
          refine ⟨d, _, by show d + 1 ≤ d + 1; omega, sp, fun v hv => ?_⟩
          · subst hv
            refine ⟨_, get_upd_ne g1, by rw [List.length_map]; omega, ?_⟩
            refine ⟨ss ++ [pageL (depth + 1) l], by rw [List.flatten_append, h1]; simp [pageV], ?_, ?_, get_upd_ne (get_upd_ne g2)⟩
            · rw [List.flatten_append, List.length_append, List.length_append, fs1, List.length_singleton]
              omega
            · rw [get_upd_self, pss, pss, List.map_append]
              rfl
        | str t =>
          have hgt : ∀ c ∈ t, c ∈ alpha := hgv.2
          have htl : t.length ≤ 100000 := by
            have := flatMap_len (depth + 1) t
            have e : pageV (depth + 1) (.str t) = t.flatMap (sgn (depth + 1)) := by rw [pageV]
            rw [e] at hle
            omega
          refine e1_if (et_val (ev_isl (n_isinstance hK) (n_list hK) (ev_name (get_upd_self _ _ _) (.inr ⟨t, rfl, false, rfl, nb, fun _ => ?_⟩))))
          refine ex_last ?_
          refine e1_extend (get_upd_ne g1) ?_
          refine ev_of_en ?_
          refine en_compN (cl := ?cl) ?hclos ?hcl ?hcell ?hkind ?hnames ?hx ?_
          case hclos => exact rfl
          case hcell => decide +kernel
          case hkind => rfl
          case hnames => decide +kernel
          case hx => rfl
          case hcl =>
            intro y c' h
            have h := mem_of_lookup h
            simp only [List.mem_cons, List.not_mem_nil, or_false, Prod.mk.injEq] at h
            obtain ⟨rfl, rfl⟩ := h
            kernel_rfl
          refine iter_val (ev_name (get_upd_self _ _ _) ⟨_, rfl, by rw [List.length_map]; omega, ?_⟩)
          refine ⟨[("depth", .int depth)], fun v => match v with | .str [c] => .str (sgn (depth + 1) c) | _ => .none, fun p hp => ?_, fun C item hm => ?_, ?_⟩
          · rw [List.mem_singleton.mp hp]
            exact ⟨get_upd_ne (x := "item") (y := "depth") g2, (fun e => by
              have h1 : (fenv (fdL w 161) L 161).kindOf (Str.ofString "depth") = some .cell := by kernel_rfl
              have := h1.symm.trans e
              cases this), by kernel_rfl, fun C => .inl (by kernel_rfl)⟩
          · obtain ⟨c, hc, rfl⟩ := List.mem_map.mp hm
            refine ev_call (n_sign hK) (kp hK 156 (by kernel_rfl)) ?_
            refine ev_name rfl ?_
            refine ev_bin (ev_name rfl (ev_int ?_))
            have sp := s_sign hK (d := 0) (depth := depth + 1) (hgt c hc) (by omega)
            rw [← ed] at sp
            exact ⟨0, _, by show 0 + 1 ≤ d + 1; omega, sp, fun v hv => hv⟩
          · have hr : ((t.map fun c => PV.str [c]).map fun v => match v with | .str [c] => PV.str (sgn (depth + 1) c) | _ => .none) = pss (t.map (sgn (depth + 1))) := by
              rw [pss, List.map_map, List.map_map]
              rfl
            rw [hr]
            refine ⟨_, _, rfl, get_upd_ne g1, by rw [List.length_map, List.length_map, List.length_map]; omega, ?_⟩
            have e1 : pss ss ++ pss (t.map (sgn (depth + 1))) = pss (ss ++ t.map (sgn (depth + 1))) := by rw [pss, pss, pss, List.map_append]
            rw [e1]
            have e2 : (ss ++ t.map (sgn (depth + 1))).flatten = pageL depth (pile.take i) ++ pageV (depth + 1) (.str t) := by
              rw [List.flatten_append, h1, flat_map, pageV]
            refine ⟨ss ++ t.map (sgn (depth + 1)), e2, ?_, get_upd_self _ _ _, get_upd_ne (get_upd_ne g2)⟩
            have h5 := flatMap_len (depth + 1) t
            rw [List.flatten_append, List.length_append, List.length_append, List.length_map, flat_map]
            omega
        | _ => exact hgv.elim
      · obtain ⟨ss', j1, j2, j3, j4⟩ := hJ
        have j1' := congrArg List.length j1
        rw [List.length_append] at j1'
        refine ex_last ?_
        refine e1_append j3 ?_
        refine ev_call (n_sign hK) (kp hK 156 (by kernel_rfl)) ?_
        refine ev_str ?_
        refine ev_name j4 ⟨0, _, by show 0 + 1 ≤ d + 1; omega, s_sign hK (c := 124) (by decide) (by omega), fun v hv => ?_⟩
        subst hv
        refine ⟨_, j3, by rw [List.length_map]; omega, ?_⟩
        refine ⟨ss' ++ [sgn depth 124], ?_, ?_, ?_, get_upd_ne j4⟩
        · rw [List.flatten_append, j1, htk, pageL_snoc]
          simp
        · rw [List.flatten_append, List.length_append, List.length_append, fs1, List.length_singleton]
          omega
        · rw [get_upd_self, pss, pss, List.map_append]
          rfl
    · obtain ⟨ss, h1, h2, g1, g2⟩ := hI
      rw [List.take_length] at h1
      refine ex_freeze g1 ?_
      refine ex_last ?_
      refine e1_return ?_
      refine ev_smeth1 F.slot_str_join F.type_str_join ?_
      refine ev_str ⟨_, rfl, ?_⟩
      refine ev_name (get_upd_self _ _ _) ?_
      refine ⟨_, b_join (strsOf_map _) (by rw [h1] at h2 ⊢; omega) rfl, fun v hv => ?_⟩
      subst hv
      show PV.str _ = PV.str _
      rw [h1]

theorem s_page : ∀ (k : Nat) {depth : Nat} {pile : List PV}, nestL pile ≤ k → goodL pile → depth + k ≤ 8 → (pageL depth pile).length ≤ 100000 → Spec Γ 161 (k + 1) [.list pile, .int depth] (fun v => v = .str (pageL depth pile)) := by
  intro k
  induction k with
  | zero =>
    intro depth pile hn hg hd hl
    refine page_step hK (fun l hm => ?_) hg (by omega) hl
    have := nestL_mem _ hm
    rw [nestV] at this
    omega
  | succ k ih =>
    intro depth pile hn hg hd hl
    refine page_step hK (fun l hm => ?_) hg (by omega) hl
    have h1 := nestL_mem _ hm
    rw [nestV] at h1
    have h2 := goodL_mem hg _ hm
    rw [goodV] at h2
    have h3 := pageV_le (d := depth) hm
    rw [pageV] at h3
    exact ih (by omega) h2 (by omega) (by omega)
end
end Mine
set_option Elab.async false
set_option maxRecDepth 100000
set_option linter.unusedVariables false
namespace Mine
open PySem PySem.W PySem.Calls PySem.Spec PyProof.Rows

noncomputable def isPile : PV → Bool
  | .list _ => true
  | _ => false
noncomputable def nestP : PV → PV
  | .list l => .int ((nestL l + 1 : Nat) : Int)
  | _ => .none
theorem nest_ints : ∀ l : List PV, intsOf ((l.filter isPile).map nestP) = some ((l.filter isPile).map fun v => ((nestV v : Nat) : Int))
  | [] => rfl
  | v :: r => by
    have ih := nest_ints r
    cases v with
    | list l =>
      show intsOf (nestP (.list l) :: (r.filter isPile).map nestP) = some (((nestV (.list l) : Nat) : Int) :: (r.filter isPile).map _)
      rw [nestV]
      show (intsOf ((r.filter isPile).map nestP)).map _ = _
      rw [ih]
      rfl
    | _ => exact ih
theorem nest_max {l : List PV} {M : Int} (h1 : M ∈ (0 : Int) :: (l.filter isPile).map fun v => ((nestV v : Nat) : Int)) (h2 : ∀ a ∈ (0 : Int) :: (l.filter isPile).map fun v => ((nestV v : Nat) : Int), a ≤ M) : M = (nestL l : Nat) := by
  have le : M ≤ (nestL l : Nat) := by
    rcases List.mem_cons.mp h1 with rfl | h
    · exact Int.natCast_nonneg _
    · obtain ⟨v, hv, rfl⟩ := List.mem_map.mp h
      exact Int.ofNat_le.mpr (nestL_mem _ (List.mem_filter.mp hv).1)
  have ge : ∀ l' : List PV, (∀ v ∈ l', v ∈ l) → ((nestL l' : Nat) : Int) ≤ M := fun l' => by
    induction l' with
    | nil => intro _; rw [nestL]; exact h2 0 (.head _)
    | cons v r ih =>
      intro hm
      have ih := ih fun u hu => hm u (.tail _ hu)
      rw [nestL]
      have hv : ((nestV v : Nat) : Int) ≤ M := by
        cases v with
        | list q => exact h2 _ (.tail _ (List.mem_map.mpr ⟨_, List.mem_filter.mpr ⟨hm _ (.head _), rfl⟩, rfl⟩))
        | _ => rw [nestV]; exact h2 0 (.head _); all_goals (intro l' e; cases e)
      omega
  have := ge l fun _ h => h
  omega

section
variable {w : World} {Γ : Gx} (hK : Γ.K = KL w)
include hK
set_option maxHeartbeats 4000000 in
theorem nest_step {d : Nat} {pile : List PV} (hsub : ∀ l, PV.list l ∈ pile → Spec Γ 166 d [.list l] (fun v => v = .int ((nestL l + 1 : Nat) : Int))) (hg : goodL pile) (hl : pile.length ≤ 100000) :
    Spec Γ 166 (d + 1) [.list pile] (fun v => v = .int ((nestL pile + 1 : Nat) : Int)) := by
  refine spec_of_body (names := ["pile"]) (fd := fdL w 166) (oc := .type "function") (od := none) (osl := #[]) (by rw [hK]; kernel_rfl) (by rw [hK]; kernel_rfl) (hbody := by exact rfl) (by kernel_rfl) (by kernel_rfl) (by kernel_rfl) (by kernel_rfl) (by kernel_rfl) (by kernel_rfl) ?_ (by kernel_rfl) (by decide) (of_decide_eq_true (by kernel_rfl)) rfl ?_
  · intro ws h
    obtain ⟨a, rfl⟩ := len1 h rfl
    kernel_rfl
  · intro A L
    refine ex_last ?_
    refine e1_return ?_
    refine ev_bin ?_
    refine ev_int ?_
    refine ev_bcall (n_max hK) ?_
    refine ev_of_en ?_
    refine en_add ?_
    refine ev_of_en ?_
    refine en_list ?_
    refine ev_int ⟨(by show 1 ≤ 1000000; decide), _, rfl, ?_⟩
    refine ev_of_en ?_
    refine en_comp (cl := ?cl) ?hclos ?hcl ?hcell ?hkind ?hnames ?hx ?_
    case hclos => exact rfl
    case hcell => decide +kernel
    case hkind => rfl
    case hnames => decide +kernel
    case hx => rfl
    case hcl =>
      intro y c' h
      cases h
    refine iter_val (ev_name rfl ⟨_, rfl, by omega, ?_⟩)
    refine ⟨[], isPile, nestP, trivial, fun C item hm => ?_, fun C item hm ht => ?_, ?_⟩
    · have hgi := goodL_mem hg _ hm
      cases item with
      | list l => exact et_val (ev_isl (n_isinstance hK) (n_list hK) (ev_name rfl (.inl ⟨l, rfl, true, rfl, rfl⟩)))
      | str t => exact et_val (ev_isl (n_isinstance hK) (n_list hK) (ev_name rfl (.inr ⟨t, rfl, false, rfl, rfl⟩)))
      | _ => exact hgi.elim
    · cases item with
      | list l =>
        refine ev_call (n_nest hK) (kp hK 166 (by kernel_rfl)) ?_
        refine ev_name rfl ⟨d, _, by show d + 1 ≤ d + 1; omega, hsub l hm, fun v hv => ?_⟩
        subst hv
        exact ⟨rfl, rfl⟩
      | _ => cases ht
    · have hfl := List.length_filter_le isPile pile
      refine ⟨_, rfl, by rw [List.length_map]; simp; omega, ?_⟩
      refine ⟨fun v => v = .int (nestL pile : Nat), b_max (is := (0 : Int) :: (pile.filter isPile).map fun v => ((nestV v : Nat) : Int)) (by
        show (intsOf ((pile.filter isPile).map nestP)).map _ = _
        rw [nest_ints]
        rfl) (by simp) (fun M q1 q2 => by rw [nest_max q1 q2]), fun v hv => ?_⟩
      subst hv
      show PV.int (1 + (nestL pile : Nat)) = _
      congr 1
      omega

theorem s_nest : ∀ (k : Nat) {pile : List PV}, nestL pile ≤ k → goodL pile → (pageL 0 pile).length ≤ 100000 → Spec Γ 166 (k + 1) [.list pile] (fun v => v = .int ((nestL pile + 1 : Nat) : Int)) := by
  have key : ∀ (k : Nat) {depth : Nat} {pile : List PV}, nestL pile ≤ k → goodL pile → (pageL depth pile).length ≤ 100000 → Spec Γ 166 (k + 1) [.list pile] (fun v => v = .int ((nestL pile + 1 : Nat) : Int)) := by
    intro k
    induction k with
    | zero =>
      intro depth pile hn hg hl
      have := pageL_len depth pile
      refine nest_step hK (fun l hm => ?_) hg (by omega)
      have := nestL_mem _ hm
      rw [nestV] at this
      omega
    | succ k ih =>
      intro depth pile hn hg hl
      have := pageL_len depth pile
      refine nest_step hK (fun l hm => ?_) hg (by omega)
      have h1 := nestL_mem _ hm
      rw [nestV] at h1
      have h2 := goodL_mem hg _ hm
      rw [goodV] at h2
      have h3 := pageV_le (d := depth) hm
      rw [pageV] at h3
      exact ih (depth := depth + 1) (by omega) h2 (by omega)
  exact fun k {pile} => key k (depth := 0)
end
end Mine
set_option Elab.async false
set_option maxRecDepth 100000
set_option linter.unusedVariables false
namespace Mine
open PySem PySem.W PySem.Calls PySem.Spec PyProof.Rows

theorem flat_last (B : List (List Nat)) : (B.map fun t => [lastOf t]).flatten = B.map lastOf := by
  induction B with
  | nil => rfl
  | cons t B ih => rw [List.map_cons, List.flatten_cons, ih]; rfl
theorem tok_len {T : List (List Nat)} (h : ∀ t ∈ T, IsTok t) : T.length ≤ T.flatten.length := by
  induction T with
  | nil => simp
  | cons t T ih =>
    have ih := ih fun u hu => h u (.tail _ hu)
    have h1 : 1 ≤ t.length := by
      rcases h t (.head _) with ⟨x, rfl, _⟩ | ⟨x, rfl⟩ <;> simp
    rw [List.flatten_cons, List.length_append, List.length_cons]
    omega

section
variable {w : World} {Γ : Gx} (hK : Γ.K = KL w)
include hK
set_option maxHeartbeats 4000000 in
theorem s_bare {X : Exn → Prop} {d : Nat} {T : List (List Nat)} (ht : ∀ t ∈ T, IsTok t) (hl : T.flatten.length ≤ 100000) : ISpec Γ false 180 (d + 3) none [.str T.flatten] (fun v _ => v = .str (T.map lastOf)) X := by
  have hR0 : RdOk T.flatten 0 T := ⟨rfl, Nat.zero_le _, ht⟩
  refine i_of_body (names := ["guarded"]) (fd := fdL w 180) (oc := .type "function") (od := none) (osl := #[]) (by rw [hK]; kernel_rfl) (by rw [hK]; kernel_rfl) (hbody := by exact rfl) (by kernel_rfl) (by kernel_rfl) (by kernel_rfl) (by kernel_rfl) (by kernel_rfl) (by kernel_rfl) ?_ (by kernel_rfl) (by decide) (of_decide_eq_true (by kernel_rfl)) rfl ?_
  · intro ws h
    obtain ⟨a, rfl⟩ := len1 h rfl
    kernel_rfl
  · intro A L _ _
    refine ex_cons ?_
    refine e1_new (n_tok hK) (c_tok hK) ?_
    refine ev_name rfl ⟨1, _, _, by show 1 + 2 ≤ d + 3; omega, s_initR hK (X := fun _ => False) (d := 0) hR0 (by omega), fun v fs hv => ?_, fun y hy => hy.elim⟩
    obtain ⟨rfl, rfl⟩ := hv
    refine ⟨rfl, fun ra rd => ?_⟩
    refine ex_cons ?_
    refine e1_assign_own ?_
    refine en_list ?_
    refine ⟨(by show 0 ≤ 1000000; decide), fun la => ?_⟩
    refine ex_cons ?_
    refine e1_assign ?_
    refine ev_mcall rfl (m_get hK) rfl ?_
    refine ⟨_, 1, _, _, rfl, by show 1 + 1 ≤ d + 3; omega, s_getR hK (X := fun _ => False) (d := 0) hR0 (by omega), fun v fs hv => ?_, fun y hy => hy.elim⟩
    obtain ⟨rfl, rfl⟩ := hv
    refine ex_cons ?_
    refine e1_while (fun n ρ => ∃ B D : List (List Nat), n = D.length + 1 ∧ T = B ++ D ∧ RdOk T.flatten B.flatten.length D ∧ get "reader" ρ = some (.obj 145 ra rd (fsR T.flatten (B.flatten.length + lookLen D) D.tail)) ∧
      get "letters" ρ = some (.own la (pss (B.map fun t => [lastOf t]))) ∧ get "sign" ρ = some (.val (look D))) (T.length + 1)
      ⟨[], T, rfl, rfl, hR0, rfl, rfl, rfl⟩ (fun n ρ hI => ?_)
    obtain ⟨B, D, rfl, hT, hR, g1, g2, g3⟩ := hI
    have hlen := hR.len
    have hBl : B.length ≤ 100000 := by
      have h1 := tok_len ht
      have h2 := congrArg List.length hT
      rw [List.length_append] at h2
      omega
    cases D with
    | nil =>
      refine et_cmp (ev_name g3 (ev_none ⟨_, rfl, nb, fun _ => ?_⟩))
      refine ex_freeze g2 ?_
      refine ex_last ?_
      refine e1_return ?_
      refine ev_smeth1 F.slot_str_join F.type_str_join ?_
      refine ev_str ⟨_, rfl, ?_⟩
      refine ev_name (get_upd_self _ _ _) ?_
      refine ⟨_, b_join (strsOf_map _) (by rw [flat_last, List.length_map, List.length_map]; omega) rfl, fun v hv => ?_⟩
      subst hv
      rw [List.append_nil] at hT
      show PV.str _ = PV.str _
      rw [flat_last, hT]
    | cons t D =>
      have htk := hR.tok t (.head _)
      have h1 : 1 ≤ t.length := by
        rcases htk with ⟨x, rfl, _⟩ | ⟨x, rfl⟩ <;> simp
      refine et_cmp (ev_name g3 (ev_none ⟨_, rfl, fun _ => ?_, nb⟩))
      refine ex_cons ?_
      refine e1_append g2 ?_
      refine ev_sub (ev_name g3 (ev_neg ⟨by omega, _, getLast_at h1, ?_⟩))
      refine ⟨_, g2, by rw [List.length_map, List.length_map]; omega, ?_⟩
      have hR2 := hR.tail
      refine ex_last ?_
      refine e1_assign ?_
      refine ev_mcall (get_upd_ne g1) (m_get hK) rfl ?_
      refine ⟨_, 1, _, _, get_upd_ne g1, by show 1 + 1 ≤ d + 3; omega, s_getR hK (X := fun _ => False) (d := 0) hR2 (by omega), fun v fs hv => ?_, fun y hy => hy.elim⟩
      obtain ⟨rfl, rfl⟩ := hv
      have eB : (B ++ [t]).flatten.length = B.flatten.length + t.length := by simp
      refine ⟨D.length + 1, by simp, B ++ [t], D, rfl, by rw [hT]; simp, by rw [eB]; exact hR2, ?_, ?_, get_upd_self _ _ _⟩
      · rw [eB]
        exact get_upd_ne (get_upd_self _ _ _)
      · refine get_upd_ne (get_upd_ne ?_)
        rw [get_upd_self, pss, pss, List.map_append, List.map_append]
        rfl
end
end Mine
set_option Elab.async false
set_option maxRecDepth 100000
set_option linter.unusedVariables false
namespace Mine
open PySem PySem.W PySem.Calls PySem.Spec PyProof.Rows

/-- the tokens of items, each behind it a bar -/
noncomputable def barred (L : List (List (List Nat))) : List (List Nat) := L.flatMap fun U => U ++ [[124]]
noncomputable def NoBar (U : List (List Nat)) : Prop := ∀ t ∈ U, t ≠ [124]
noncomputable def itemW : List Nat := (Str.ofString "item").cps.toList
theorem barW : (Str.ofString "|").cps.toList = [124] := by decide +kernel
theorem until_item {U W : List (List Nat)} (h : NoBar U) : untilBar (U ++ [124] :: W) = some (U, W) := by
  rw [until_app h]
  show (untilBar ([124] :: W)).map _ = _
  unfold untilBar
  rw [if_pos rfl]
  simp
theorem until_rest {R : List (List Nat)} (h : NoBar R) : untilBar R = none := by
  have := until_app h []
  rw [List.append_nil] at this
  rw [this]
  rfl
theorem barred_take {L : List (List (List Nat))} {i : Nat} {U : List (List Nat)} (h : L[i]? = some U) : barred (L.take (i + 1)) = barred (L.take i) ++ (U ++ [[124]]) := by
  obtain ⟨hlt, he⟩ := List.getElem?_eq_some_iff.mp h
  rw [List.take_succ_eq_append_getElem hlt, he]
  unfold barred
  rw [List.flatMap_append]
  simp
theorem barred_drop {L : List (List (List Nat))} {i : Nat} {U : List (List Nat)} (h : L[i]? = some U) (R : List (List Nat)) : barred (L.drop i) ++ R = U ++ [124] :: (barred (L.drop (i + 1)) ++ R) := by
  obtain ⟨hlt, he⟩ := List.getElem?_eq_some_iff.mp h
  rw [List.drop_eq_getElem_cons hlt, he]
  unfold barred
  rw [List.flatMap_cons]
  simp
theorem head_ne {U : List (List Nat)} (h : NoBar U) (hn : U ≠ []) (W : List (List Nat)) : (U ++ W).head? ≠ some [124] := fun e => by
  cases U with
  | nil => exact hn rfl
  | cons t U =>
    have : t = [124] := by simpa using e
    exact h t (.head _) this

section
variable {w : World} {Γ : Gx} (hK : Γ.K = KL w) (hP : Γ.prog = PL)
include hK hP
set_option maxHeartbeats 8000000 in
theorem s_take {d count : Nat} {L : List (List (List Nat))} {R : List (List Nat)} {page : List Nat} (hpage : page = (barred L ++ R).flatten) (ht : ∀ t ∈ barred L ++ R, IsTok t) (hL : ∀ U ∈ L, NoBar U) (hR : NoBar R) (hc : count ≤ L.length) (hl : page.length ≤ 100000) :
    ISpec Γ false 173 (d + 6) none [.str page, .int count] (fun v _ => ∃ U, L[count]? = some U ∧ v = .list [.int (barred (L.take count)).flatten.length, .int ((barred (L.take count)).flatten.length + U.flatten.length + 1 : Nat), .str U.flatten])
      (fun x => count = L.length ∧ x = .pat (if R = [] then missName itemW else missText [124]) (.str page) ((barred (L.take count)).flatten.length : Nat)) := by
  have hR0 : RdOk page 0 (barred L ++ R) := ⟨hpage, Nat.zero_le _, ht⟩
  have at_ : ∀ i, i ≤ L.length → RdOk page (barred (L.take i)).flatten.length (barred (L.drop i) ++ R) := fun i hi => by
    have e : barred L = barred (L.take i) ++ barred (L.drop i) := by
      unfold barred
      rw [← List.flatMap_append, List.take_append_drop]
    refine ⟨?_, ?_, fun t h => ht t ?_⟩
    · rw [hpage, e, List.append_assoc, List.flatten_append, List.drop_left]
    · rw [hpage, e, List.append_assoc, List.flatten_append, List.length_append]; omega
    · rw [e, List.append_assoc]; exact List.mem_append_right _ h
  have hiw : itemW.length ≤ 1000 := by decide +kernel
  refine i_of_body (names := ["page", "count"]) (fd := fdL w 173) (oc := .type "function") (od := none) (osl := #[]) (by rw [hK]; kernel_rfl) (by rw [hK]; kernel_rfl) (hbody := by exact rfl) (by kernel_rfl) (by kernel_rfl) (by kernel_rfl) (by kernel_rfl) (by kernel_rfl) (by kernel_rfl) ?_ (by kernel_rfl) (by decide) (of_decide_eq_true (by kernel_rfl)) rfl ?_
  · intro ws h
    obtain ⟨a, b, rfl⟩ := len2 h rfl
    kernel_rfl
  · intro A L' _ _
    have hcl : L.length ≤ 100000 := by
      have h1 := tok_len ht
      have h2 : L.length ≤ (barred L ++ R).length := by
        rw [List.length_append]
        have : ∀ l : List (List (List Nat)), l.length ≤ (barred l).length := fun l => by
          induction l with
          | nil => simp
          | cons U l ih =>
            unfold barred at ih ⊢
            rw [List.flatMap_cons, List.length_append, List.length_append, List.length_cons, List.length_singleton]
            omega
        have := this L
        omega
      rw [hpage] at hl
      omega
    refine ex_cons ?_
    refine e1_new (n_tok hK) (c_tok hK) ?_
    refine ev_name rfl ⟨1, _, _, by show 1 + 2 ≤ d + 6; omega, s_initR hK (X := fun _ => False) (d := 0) hR0 (by omega), fun v fs hv => ?_, fun y hy => hy.elim⟩
    obtain ⟨rfl, rfl⟩ := hv
    refine ⟨rfl, fun ra rd => ?_⟩
    refine ex_cons ?_
    refine e1_for (iter_range1 (n_range hK) (ev_name rfl ⟨count, rfl, ⟨by omega, by omega⟩, ?_⟩))
    refine for_inv (fun i ρ => get "reader" ρ = some (.obj 145 ra rd (fsR page (barred (L.take i)).flatten.length (barred (L.drop i) ++ R)))) rfl (fun i v ρ hv hI => ?_) (fun ρ hI => ?_)
    · rw [List.getElem?_map] at hv
      obtain ⟨i', hi', rfl⟩ := Option.map_eq_some_iff.mp hv
      have hic : i < count := by
        have := (List.getElem?_eq_some_iff.mp hi').1
        simpa using this
      have hUi : L[i]? = some (L[i]'(by omega)) := List.getElem?_eq_getElem (by omega)
      generalize hUe : L[i]'(by omega) = U at hUi
      have hU := hL U (hUe ▸ List.getElem_mem (by omega))
      have hrd := at_ i (by omega)
      have g0 := get_upd_ne (x := "_") (s := .val (.int i')) hI
      rw [barred_drop hUi R] at hrd g0
      have fin : (barred (L.take i)).flatten.length + U.flatten.length + 1 = (barred (L.take (i + 1))).flatten.length := by
        rw [barred_take hUi]
        simp
        omega
      refine ex_last ?_
      by_cases hUn : U = []
      · subst hUn
        refine e1_if (et_not (et_val ?_))
        refine ev_mcall g0 (m_match hK) rfl ?_
        refine ev_str ?_
        rw [barW]
        refine ⟨_, 1, _, _, g0, by show 1 + 1 ≤ d + 6; omega, s_matchR_yes hK (X := fun _ => False) (d := 0) hrd (by omega), fun v fs hv => ?_, fun y hy => hy.elim⟩
        obtain ⟨rfl, rfl⟩ := hv
        refine ⟨true, rfl, nb, fun _ => ex_nil ?_⟩
        show get "reader" (upd "reader" _ _) = _
        rw [get_upd_self, ← fin]
        rfl
      · refine e1_if (et_not (et_val ?_))
        refine ev_mcall g0 (m_match hK) rfl ?_
        refine ev_str ?_
        rw [barW]
        refine ⟨_, 0, _, _, g0, by show 0 + 1 ≤ d + 6; omega, s_matchR_no hK (X := fun _ => False) (d := 0) hrd (fun t h e => head_ne hU hUn _ (by rw [h, e])), fun v fs hv => ?_, fun y hy => hy.elim⟩
        obtain ⟨rfl, rfl⟩ := hv
        refine ⟨false, rfl, fun _ => ?_, nb⟩
        refine ex_last ?_
        refine e1_expr ?_
        refine ev_mcall (get_upd_self _ _ _) (m_until hK) rfl ?_
        refine ev_str ?_
        refine ev_str ?_
        rw [barW]
        refine ⟨_, 5, _, _, get_upd_self _ _ _, by show 5 + 1 ≤ d + 6; omega, s_until hK hP (d := 0) hrd (by omega) hiw (head_ne hU hUn _), fun v fs hv => ?_, fun y hy => ?_⟩
        · obtain ⟨U', W', h1, rfl, rfl⟩ := hv
          rw [until_item hU] at h1
          cases h1
          refine ⟨rfl, ?_⟩
          show get "reader" (upd "reader" _ _) = _
          rw [get_upd_self, ← fin]
        · have := hy.1
          rw [until_item hU] at this
          cases this
    · have hI : get "reader" ρ = some (.obj 145 ra rd (fsR page (barred (L.take count)).flatten.length (barred (L.drop count) ++ R))) := by simpa using hI
      have hrd := at_ count hc
      refine ex_cons ?_
      refine e1_assign ?_
      refine ev_mcall hI (m_tell hK) rfl ?_
      refine ⟨_, 0, _, _, hI, by show 0 + 1 ≤ d + 6; omega, s_tellR hK (X := fun _ => False) hrd, fun v fs hv => ?_, fun y hy => hy.elim⟩
      obtain ⟨rfl, rfl⟩ := hv
      refine ex_cons ?_
      refine e1_assign (ev_str ?_)
      have gs := get_upd_ne (x := "guarded") (s := .val (.str (Str.ofString "").cps.toList)) (get_upd_self "start" (.val (.int (barred (L.take count)).flatten.length)) (upd "reader" (.obj 145 ra rd (fsR page (barred (L.take count)).flatten.length (barred (L.drop count) ++ R))) ρ))
      have gr : get "reader" (upd "guarded" (.val (.str (Str.ofString "").cps.toList)) (upd "start" (.val (.int (barred (L.take count)).flatten.length)) (upd "reader" (.obj 145 ra rd (fsR page (barred (L.take count)).flatten.length (barred (L.drop count) ++ R))) ρ))) = _ := get_upd_ne (get_upd_ne (get_upd_self _ _ _))
      have gg := get_upd_self "guarded" (.val (.str (Str.ofString "").cps.toList)) (upd "start" (.val (.int (barred (L.take count)).flatten.length)) (upd "reader" (.obj 145 ra rd (fsR page (barred (L.take count)).flatten.length (barred (L.drop count) ++ R))) ρ))
      have gs : get "start" (upd "guarded" (.val (.str (Str.ofString "").cps.toList)) (upd "start" (.val (.int (barred (L.take count)).flatten.length)) (upd "reader" (.obj 145 ra rd (fsR page (barred (L.take count)).flatten.length (barred (L.drop count) ++ R))) ρ))) = _ := gs
      generalize (upd "guarded" (.val (.str (Str.ofString "").cps.toList)) (upd "start" (.val (.int (barred (L.take count)).flatten.length)) (upd "reader" (.obj 145 ra rd (fsR page (barred (L.take count)).flatten.length (barred (L.drop count) ++ R))) ρ))) = ρ at gs gr gg ⊢
      have e0 : (Str.ofString "").cps.toList = [] := by decide +kernel
      rw [e0] at gg
      by_cases hcL : count < L.length
      · have hUi : L[count]? = some (L[count]'hcL) := List.getElem?_eq_getElem hcL
        generalize hUe : L[count]'hcL = U at hUi
        have hU := hL U (hUe ▸ List.getElem_mem hcL)
        rw [barred_drop hUi R] at hrd gr
        have hrd2 : RdOk page ((barred (L.take count)).flatten.length + U.flatten.length + 1) (barred (L.drop (count + 1)) ++ R) := by
          have := at_ (count + 1) (by omega)
          rw [barred_take hUi] at this
          have e : (barred (L.take count) ++ (U ++ [[124]])).flatten.length = (barred (L.take count)).flatten.length + U.flatten.length + 1 := by simp; omega
          rw [e] at this
          exact this
        refine ex_cons ?_
        refine e1_via (fun ρ' => get "start" ρ' = some (.val (.int (barred (L.take count)).flatten.length)) ∧ get "guarded" ρ' = some (.val (.str U.flatten)) ∧ get "reader" ρ' = some (.obj 145 ra rd (fsR page ((barred (L.take count)).flatten.length + U.flatten.length + 1) (barred (L.drop (count + 1)) ++ R)))) ?_ (fun ρ' hJ => ?_)
        · by_cases hUn : U = []
          · subst hUn
            refine e1_if (et_not (et_val ?_))
            refine ev_mcall gr (m_match hK) rfl ?_
            refine ev_str ?_
            rw [barW]
            refine ⟨_, 1, _, _, gr, by show 1 + 1 ≤ d + 6; omega, s_matchR_yes hK (X := fun _ => False) (d := 0) hrd (by omega), fun v fs hv => ?_, fun y hy => hy.elim⟩
            obtain ⟨rfl, rfl⟩ := hv
            exact ⟨true, rfl, nb, fun _ => ex_nil ⟨get_upd_ne gs, get_upd_ne gg, get_upd_self _ _ _⟩⟩
          · refine e1_if (et_not (et_val ?_))
            refine ev_mcall gr (m_match hK) rfl ?_
            refine ev_str ?_
            rw [barW]
            refine ⟨_, 0, _, _, gr, by show 0 + 1 ≤ d + 6; omega, s_matchR_no hK (X := fun _ => False) (d := 0) hrd (fun t h e => head_ne hU hUn _ (by rw [h, e])), fun v fs hv => ?_, fun y hy => hy.elim⟩
            obtain ⟨rfl, rfl⟩ := hv
            refine ⟨false, rfl, fun _ => ?_, nb⟩
            refine ex_last ?_
            refine e1_assign ?_
            refine ev_mcall (get_upd_self _ _ _) (m_until hK) rfl ?_
            refine ev_str ?_
            refine ev_str ?_
            rw [barW]
            refine ⟨_, 5, _, _, get_upd_self _ _ _, by show 5 + 1 ≤ d + 6; omega, s_until hK hP (d := 0) hrd (by omega) hiw (head_ne hU hUn _), fun v fs hv => ?_, fun y hy => ?_⟩
            · obtain ⟨U', W', h1, rfl, rfl⟩ := hv
              rw [until_item hU] at h1
              cases h1
              exact ⟨get_upd_ne (get_upd_ne (get_upd_ne gs)), get_upd_self _ _ _, get_upd_ne (get_upd_self _ _ _)⟩
            · have := hy.1
              rw [until_item hU] at this
              cases this
        · obtain ⟨j1, j2, j3⟩ := hJ
          refine ex_last ?_
          refine e1_return ?_
          refine ev_of_en ?_
          refine en_list ?_
          refine ev_name j1 ?_
          refine ev_mcall j3 (m_tell hK) rfl ?_
          refine ⟨_, 0, _, _, j3, by show 0 + 1 ≤ d + 6; omega, s_tellR hK (X := fun _ => False) hrd2, fun v fs hv => ?_, fun y hy => hy.elim⟩
          obtain ⟨rfl, rfl⟩ := hv
          refine ev_name (get_upd_ne j2) ⟨(by show 3 ≤ 1000000; decide), ?_⟩
          exact ⟨U, hUi, rfl⟩
      · have hce : count = L.length := by omega
        have hdr : barred (L.drop count) = [] := by rw [hce, List.drop_length]; rfl
        rw [hdr, List.nil_append] at hrd gr
        have hRh : R.head? ≠ some [124] := fun e => by
          cases R with
          | nil => cases e
          | cons t R =>
            have : t = [124] := by simpa using e
            exact hR t (.head _) this
        refine ex_cons ?_
        refine e1_if (et_not (et_val ?_))
        refine ev_mcall gr (m_match hK) rfl ?_
        refine ev_str ?_
        rw [barW]
        refine ⟨_, 0, _, _, gr, by show 0 + 1 ≤ d + 6; omega, s_matchR_no hK (X := fun _ => False) (d := 0) hrd (fun t h e => hRh (by rw [h, e])), fun v fs hv => ?_, fun y hy => hy.elim⟩
        obtain ⟨rfl, rfl⟩ := hv
        refine ⟨false, rfl, fun _ => ?_, nb⟩
        refine ex_last ?_
        refine e1_assign ?_
        refine ev_mcall (get_upd_self _ _ _) (m_until hK) rfl ?_
        refine ev_str ?_
        refine ev_str ?_
        rw [barW]
        refine ⟨_, 5, _, _, get_upd_self _ _ _, by show 5 + 1 ≤ d + 6; omega, s_until hK hP (d := 0) hrd (by omega) hiw hRh, fun v fs hv => ?_, fun y hy => ?_⟩
        · obtain ⟨U', W', h1, _⟩ := hv
          rw [until_rest hR] at h1
          cases h1
        · exact ⟨hce, hy.2⟩
end
end Mine
set_option Elab.async false
set_option maxRecDepth 10000
set_option linter.unusedVariables false
namespace Mine
open PySem PyProof.Rows

theorem escW_app (x y : List Nat) : escW spec1 (x ++ y) = escW spec1 x ++ escW spec1 y := List.flatMap_append
theorem esc_run (n : Nat) : escW spec1 (List.replicate n 92) = List.replicate (2 * n) 92 := by
  induction n with
  | zero => rfl
  | succ n ih =>
    rw [List.replicate_succ, show 92 :: List.replicate n 92 = [92] ++ List.replicate n 92 from rfl, escW_app, ih]
    rw [show 2 * (n + 1) = 2 + 2 * n by omega, ← List.replicate_append_replicate]
    rfl
theorem alpha_spec : ∀ c ∈ alpha, c ≠ 92 → (c ∈ marks5 → spec1 c = true) ∧ (c ∉ marks5 → spec1 c = false) := by decide
theorem esc_sgn {c : Nat} (hc : c ∈ alpha) (d : Nat) : escW spec1 (sgn d c) = sgn (d + 1) c := by
  have h2 : 2 ^ (d + 1) = 2 * 2 ^ d := by rw [Nat.pow_succ, Nat.mul_comm]
  have h3 : 1 ≤ 2 ^ d := Nat.one_le_two_pow
  unfold sgn
  by_cases h : c = 92
  · rw [if_pos h, if_pos h, esc_run, h2]
  · rw [if_neg h, if_neg h]
    have hs := alpha_spec c hc h
    by_cases hm : c ∈ marks5
    · rw [if_pos hm, if_pos hm, escW_app, esc_run]
      have e : escW spec1 [c] = [92] ++ [c] := by
        simp only [escW, List.flatMap_cons, List.flatMap_nil, List.append_nil, esc1, hs.1 hm]
        rfl
      rw [e, ← List.append_assoc]
      congr 1
      rw [show 2 ^ (d + 1) - 1 = 2 * (2 ^ d - 1) + 1 by omega, ← List.replicate_append_replicate]
      rfl
    · rw [if_neg hm, if_neg hm]
      simp only [escW, List.flatMap_cons, List.flatMap_nil, List.append_nil, esc1, hs.2 hm]
      rfl
theorem esc_flat {t : List Nat} (h : ∀ c ∈ t, c ∈ alpha) (d : Nat) : escW spec1 (t.flatMap (sgn d)) = t.flatMap (sgn (d + 1)) := by
  induction t with
  | nil => rfl
  | cons c r ih => rw [List.flatMap_cons, List.flatMap_cons, escW_app, esc_sgn (h c (.head _)), ih fun x hx => h x (.tail _ hx)]
mutual
theorem esc_pageV : ∀ (v : PV) (d : Nat), goodV v → escW spec1 (pageV d v) = pageV (d + 1) v
  | .str t, d, h => by
    rw [goodV] at h
    rw [pageV, pageV]
    exact esc_flat h.2 d
  | .list l, d, h => by
    rw [goodV] at h
    rw [pageV, pageV]
    exact esc_pageL l d h
  | .none, _, h => h.elim
  | .bool _, _, h => h.elim
  | .int _, _, h => h.elim
  | .bytes _, _, h => h.elim
theorem esc_pageL : ∀ (l : List PV) (d : Nat), goodL l → escW spec1 (pageL d l) = pageL (d + 1) l
  | [], d, _ => by rw [pageL, pageL]; rfl
  | v :: r, d, h => by
    rw [goodL] at h
    rw [pageL_cons, pageL_cons, escW_app, escW_app, esc_pageV v (d + 1) h.1, esc_pageL r d h.2, esc_sgn (by decide)]
end

/-- the tokens of an escaped text -/
noncomputable def tokE (x : List Nat) : List (List Nat) := x.map fun c => if spec1 c = true then [92, c] else [c]
theorem tokE_flat (x : List Nat) : (tokE x).flatten = escW spec1 x := by
  unfold tokE escW
  induction x with
  | nil => rfl
  | cons c r ih =>
    rw [List.map_cons, List.flatten_cons, ih, List.flatMap_cons]
    unfold esc1
    rfl
theorem tokE_tok (x : List Nat) : ∀ t ∈ tokE x, IsTok t := fun t h => by
  obtain ⟨c, _, rfl⟩ := List.mem_map.mp h
  by_cases hs : spec1 c = true
  · rw [if_pos hs]; exact .inr ⟨c, rfl⟩
  · rw [if_neg hs]
    refine .inl ⟨c, rfl, fun e => hs ?_⟩
    rw [e]; decide
theorem tokE_noBar (x : List Nat) : NoBar (tokE x) := fun t h e => by
  obtain ⟨c, _, q⟩ := List.mem_map.mp h
  rw [e] at q
  by_cases hs : spec1 c = true
  · rw [if_pos hs] at q; simp at q
  · rw [if_neg hs] at q
    have : c = 124 := by simpa using q
    rw [this] at hs
    exact hs (by decide)
theorem tokE_last (x : List Nat) : (tokE x).map lastOf = x := by
  unfold tokE
  rw [List.map_map]
  conv => rhs; rw [← List.map_id x]
  refine List.map_congr_left fun c _ => ?_
  show lastOf (if spec1 c = true then [92, c] else [c]) = c
  split <;> rfl
/-- what stands in the items -/
noncomputable def itemsL (l : List PV) : List (List (List Nat)) := l.map fun v => tokE (pageV 0 v)
theorem barred_flat : ∀ {l : List PV}, goodL l → (barred (itemsL l)).flatten = pageL 0 l
  | [], _ => by rw [pageL]; rfl
  | v :: r, h => by
    rw [goodL] at h
    show (barred (tokE (pageV 0 v) :: itemsL r)).flatten = _
    rw [show barred (tokE (pageV 0 v) :: itemsL r) = (tokE (pageV 0 v) ++ [[124]]) ++ barred (itemsL r) from List.flatMap_cons, List.flatten_append, List.flatten_append, tokE_flat, barred_flat h.2, pageL_cons, esc_pageV v 0 h.1]
    simp [sgn, marks5]
theorem barred_tok (l : List PV) : ∀ t ∈ barred (itemsL l), IsTok t := fun t h => by
  obtain ⟨U, hU, h⟩ := List.mem_flatMap.mp h
  obtain ⟨v, _, rfl⟩ := List.mem_map.mp hU
  rcases List.mem_append.mp h with h | h
  · exact tokE_tok _ t h
  · rw [List.mem_singleton.mp h]; exact .inl ⟨124, rfl, by decide⟩
theorem items_noBar (l : List PV) : ∀ U ∈ itemsL l, NoBar U := fun U h => by
  obtain ⟨v, _, rfl⟩ := List.mem_map.mp h
  exact tokE_noBar _
theorem pageV_text (t : List Nat) : pageV 0 (.str t) = t := by
  rw [pageV]
  induction t with
  | nil => rfl
  | cons c r ih =>
    rw [List.flatMap_cons, ih]
    have : sgn 0 c = [c] := by
      unfold sgn
      split
      · rename_i h; rw [h]; rfl
      · split <;> rfl
    rw [this]; rfl
end Mine
set_option Elab.async false
set_option maxRecDepth 10000
set_option linter.unusedVariables false
namespace Mine
open PySem PySem.W PySem.Calls PySem.Spec PyProof.Rows

theorem page_split {a b : List PV} {v : PV} (hv : goodV v) : pageL 0 (a ++ v :: b) = pageL 0 a ++ (escW spec1 (pageV 0 v) ++ 124 :: pageL 0 b) := by
  rw [pageL_app, pageL_cons, esc_pageV v 0 hv]
  simp [sgn, marks5]
theorem page_one {v : PV} (hv : goodV v) : pageL 0 [v] = escW spec1 (pageV 0 v) ++ [124] := by
  have := page_split (a := []) (b := []) hv
  rw [List.nil_append] at this
  rw [this]
  simp [pageL]
theorem items_take {l : List PV} (h : goodL l) (i : Nat) : (barred ((itemsL l).take i)).flatten = pageL 0 (l.take i) := by
  have : ∀ (l : List PV) (i : Nat), goodL l → goodL (l.take i) := fun l => by
    induction l with
    | nil => intro i h; simpa using h
    | cons v r ih =>
      intro i h
      rw [goodL] at h
      cases i with
      | zero => rw [List.take_zero, goodL]; trivial
      | succ i => rw [List.take_succ_cons, goodL]; exact ⟨h.1, ih i h.2⟩
  rw [← barred_flat (this l i h)]
  unfold itemsL
  rw [List.map_take]
theorem goodL_app {a b : List PV} : goodL (a ++ b) ↔ goodL a ∧ goodL b := by
  induction a with
  | nil => simp [goodL]
  | cons v r ih => rw [List.cons_append, goodL, goodL, ih, and_assoc]
theorem nestL_app (a b : List PV) : nestL (a ++ b) = max (nestL a) (nestL b) := by
  induction a with
  | nil => simp [nestL]
  | cons v r ih => rw [List.cons_append, nestL, nestL, ih]; omega
section
variable {Γ : Gx} {V : Va} {ρ : Rho} {X : Exn → Rho → Prop}
theorem et_and3 {a b c : Expr} {pos : Pos} {P : Bool → Rho → Prop} (h : Et Γ V ρ a (fun k ρ₁ => (k = false → P false ρ₁) ∧ (k = true → Et Γ V ρ₁ b (fun k ρ₂ => (k = false → P false ρ₂) ∧ (k = true → Et Γ V ρ₂ c P X)) X)) X) : Et Γ V ρ (.BoolOp .And [a, b, c] pos) P X := fun Y ok φ s Q E S p => by
  show wpAny _ _ (allTrue .And [a, b, c] V.env) _ _ _
  unfold allTrue
  refine wpAny_bind (h Y ok φ s _ E S ⟨fun k ρ₁ φ₁ s₁ hb n₁ => ?_, p.er⟩)
  cases k with
  | false => exact wpAny_pure (p.ok _ ρ₁ φ₁ _ (hb.1 rfl) n₁)
  | true =>
    unfold allTrue
    refine wpAny_bind (hb.2 rfl Y ok φ₁ s₁ _ E n₁.2.2 ⟨fun k ρ₂ φ₂ s₂ hb₂ n₂ => ?_, fun x e ρ' φ' s' a b c => p.er x e ρ' φ' s' a b (n₁.trans c)⟩)
    cases k with
    | false => exact wpAny_pure (p.ok _ ρ₂ φ₂ _ (hb₂.1 rfl) (n₁.trans n₂))
    | true =>
      unfold allTrue
      refine wpAny_bind (hb₂.2 rfl Y ok φ₂ s₂ _ E n₂.2.2 ⟨fun k ρ₃ φ₃ s₃ hb₃ n₃ => ?_, fun x e ρ' φ' s' a b c => p.er x e ρ' φ' s' a b ((n₁.trans n₂).trans c)⟩)
      cases k with
      | false => exact wpAny_pure (p.ok _ ρ₃ φ₃ _ hb₃ ((n₁.trans n₂).trans n₃))
      | true => unfold allTrue; exact wpAny_pure (p.ok _ ρ₃ φ₃ _ hb₃ ((n₁.trans n₂).trans n₃))
end

section
variable {w : World} {Γ : Gx} (hK : Γ.K = KL w) (hP : Γ.prog = PL)
include hK
theorem s_escape {d : Nat} {x : List Nat} (hx : x.length ≤ 500000) : Spec Γ 33 d [.str x] (fun v => v = .str (escW spec1 x)) := by
  refine spec_of_body (names := ["pattern"]) (fd := fdL w 33) (oc := .type "function") (od := none) (osl := #[]) (by rw [hK]; kernel_rfl) (by rw [hK]; kernel_rfl) (hbody := by exact rfl) (by kernel_rfl) (by kernel_rfl) (by kernel_rfl) (by kernel_rfl) (by kernel_rfl) (by kernel_rfl) ?_ (by kernel_rfl) (by decide) (of_decide_eq_true (by kernel_rfl)) rfl ?_
  · intro ws h
    obtain ⟨a, rfl⟩ := len1 h rfl
    kernel_rfl
  · intro A L
    refine ex_last (e1_if (et_val (ev_isi (n_isinstance hK) (n_str hK) (ev_name rfl ⟨true, rfl, fun _ => ?_, fun h => nomatch h⟩))))
    refine ex_last (e1_return (ev_translate (n_map hK) (fun h k => tabL (by rw [hK] at k; exact k)) (ev_name rfl ⟨x, rfl, by omega, rfl⟩)))
include hP
/-- an item of a page is taken -/
theorem s_takeP {d i : Nat} {pile : List PV} (hg : goodL pile) (hl : (pageL 0 pile).length ≤ 100000) (hi : i < pile.length) :
    ISpec Γ false 173 (d + 6) none [.str (pageL 0 pile), .int i] (fun v _ => ∃ u, pile[i]? = some u ∧ v = .list [.int (pageL 0 (pile.take i)).length, .int ((pageL 0 (pile.take i)).length + (escW spec1 (pageV 0 u)).length + 1 : Nat), .str (escW spec1 (pageV 0 u))]) (fun _ => False) := by
  have hlen : (itemsL pile).length = pile.length := by unfold itemsL; rw [List.length_map]
  have sp := s_take hK hP (d := d) (count := i) (L := itemsL pile) (R := []) (page := pageL 0 pile) (by rw [List.append_nil, barred_flat hg]) (by rw [List.append_nil]; exact barred_tok pile) (items_noBar pile) (fun _ h => nomatch h) (by omega) hl
  intro A φ s Q E ws outer a dd h1 h2 h3 h4 h5 h6 h7 h8 h9 h10 h11 k kx
  refine sp A φ s Q E ws outer a dd h1 h2 h3 h4 h5 h6 h7 h8 h9 h10 h11 (fun v val φ' h' tk fs' hv => k v val φ' h' tk fs' ?_) (fun x e d T φ' h' tk hx => ?_)
  · obtain ⟨U, hU, rfl⟩ := hv
    unfold itemsL at hU
    rw [List.getElem?_map] at hU
    obtain ⟨u, hu, rfl⟩ := Option.map_eq_some_iff.mp hU
    refine ⟨u, hu, ?_⟩
    rw [items_take hg, tokE_flat]
  · have := hx.1
    omega
end
end Mine
set_option Elab.async false
set_option maxRecDepth 10000
set_option linter.unusedVariables false
namespace Mine
open PySem PySem.W PySem.Calls PySem.Spec PyProof.Rows

/-- what a deed answers -/
noncomputable def StepOk (pile : List PV) (v : PV) : Prop := ∃ pile', v = .list [.str (pageL 0 pile'), .list pile'] ∧ goodL pile' ∧ nestL pile' ≤ 2 ∧ (pageL 0 pile').length ≤ (pageL 0 pile).length + 50
theorem escW_len (x : List Nat) : (escW spec1 x).length ≤ 2 * x.length := by
  induction x with
  | nil => simp [escW]
  | cons c r ih =>
    have e : escW spec1 (c :: r) = escW spec1 [c] ++ escW spec1 r := escW_app [c] r
    rw [e, List.length_append, List.length_cons]
    have : (escW spec1 [c]).length ≤ 2 := by
      unfold escW
      rw [List.flatMap_cons, List.flatMap_nil, List.append_nil]
      unfold esc1; split <;> simp
    omega
theorem page_cons {v : PV} {r : List PV} (hv : goodV v) : pageL 0 (v :: r) = escW spec1 (pageV 0 v) ++ 124 :: pageL 0 r := by
  have := page_split (a := []) (b := r) hv
  rw [List.nil_append] at this
  rw [this]
  simp [pageL]
theorem step_fold {pile : List PV} (hg : goodL pile) (hn : nestL pile ≤ 1) (hl : (pageL 0 pile).length ≤ 24) : StepOk pile (.list [.str (escW spec1 (pageL 0 pile) ++ [124]), .list [.list pile]]) := by
  have hv : goodV (.list pile) := by rw [goodV]; exact hg
  have e : pageV 0 (.list pile) = pageL 0 pile := by rw [pageV]
  have h1 := page_one hv
  rw [e] at h1
  refine ⟨[.list pile], by rw [h1], ?_, ?_, ?_⟩
  · rw [goodL, goodL]; exact ⟨hv, trivial⟩
  · rw [nestL, nestL, nestV]; omega
  · rw [h1, List.length_append, List.length_singleton]
    have := escW_len (pageL 0 pile)
    omega
theorem step_lay {pile : List PV} {c : Nat} (hc : c ∈ alpha) (hg : goodL pile) (hn : nestL pile ≤ 2) : StepOk pile (.list [.str (escW spec1 [c] ++ [124] ++ pageL 0 pile), .list (.str [c] :: pile)]) := by
  have hv : goodV (.str [c]) := by
    rw [goodV]
    refine ⟨by simp, fun x hx => ?_⟩
    cases List.mem_singleton.mp hx
    exact hc
  have h1 := page_cons (r := pile) hv
  rw [pageV_text] at h1
  refine ⟨.str [c] :: pile, by rw [h1, List.append_assoc]; rfl, ?_, ?_, ?_⟩
  · rw [goodL]; exact ⟨hv, hg⟩
  · rw [nestL]
    have : nestV (.str [c]) = 0 := by rw [nestV]; intro l e; cases e
    omega
  · rw [h1, List.length_append, List.length_cons]
    have := escW_len [c]
    rw [List.length_singleton] at this
    omega
end Mine
set_option Elab.async false
set_option maxRecDepth 10000
set_option linter.unusedVariables false
namespace Mine
open PySem PySem.W PySem.Calls PySem.Spec PyProof.Rows
/-! what the deeds on a taken item answer -/
theorem pile_at {pile : List PV} {i : Nat} {u : PV} (h : pile[i]? = some u) : pile = pile.take i ++ u :: pile.drop (i + 1) := by
  obtain ⟨hlt, e⟩ := List.getElem?_eq_some_iff.mp h
  rw [← e, ← List.drop_eq_getElem_cons hlt, List.take_append_drop]
theorem page_at {pile : List PV} {i : Nat} {u : PV} (hg : goodL pile) (h : pile[i]? = some u) :
    goodL (pile.take i ++ pile.drop (i + 1)) ∧ goodV u ∧ pageL 0 pile = pageL 0 (pile.take i) ++ (escW spec1 (pageV 0 u) ++ 124 :: pageL 0 (pile.drop (i + 1))) := by
  have e := pile_at h
  have hg' := hg
  rw [e, goodL_app, goodL] at hg'
  refine ⟨goodL_app.mpr ⟨hg'.1, hg'.2.2⟩, hg'.2.1, ?_⟩
  conv => lhs; rw [e]
  exact page_split hg'.2.1
theorem nest_at {pile : List PV} {i : Nat} {u : PV} (h : pile[i]? = some u) : nestL pile = max (nestL (pile.take i ++ pile.drop (i + 1))) (nestV u) := by
  conv => lhs; rw [pile_at h]
  rw [nestL_app, nestL_app, nestL]
  omega
/-- the text without the item -/
theorem rest_at {pile : List PV} {i : Nat} {u : PV} (hg : goodL pile) (h : pile[i]? = some u) :
    (pageL 0 pile).take (pageL 0 (pile.take i)).length ++ (pageL 0 pile).drop ((pageL 0 (pile.take i)).length + (escW spec1 (pageV 0 u)).length + 1) = pageL 0 (pile.take i ++ pile.drop (i + 1)) := by
  obtain ⟨_, _, e⟩ := page_at hg h
  rw [e, pageL_app, List.take_left]
  congr 1
  have : (pageL 0 (pile.take i)).length + (escW spec1 (pageV 0 u)).length + 1 = (pageL 0 (pile.take i) ++ (escW spec1 (pageV 0 u) ++ [124])).length := by simp; omega
  rw [this]
  have e2 : pageL 0 (pile.take i) ++ (escW spec1 (pageV 0 u) ++ 124 :: pageL 0 (pile.drop (i + 1))) = (pageL 0 (pile.take i) ++ (escW spec1 (pageV 0 u) ++ [124])) ++ pageL 0 (pile.drop (i + 1)) := by simp
  rw [e2, List.drop_left]
/-- the top item dropped -/
theorem step_drop {pile : List PV} {i : Nat} {u : PV} (hg : goodL pile) (hn : nestL pile ≤ 2) (h : pile[i]? = some u) : StepOk pile (.list [.str (pageL 0 (pile.take i ++ pile.drop (i + 1))), .list (pile.take i ++ pile.drop (i + 1))]) := by
  obtain ⟨h1, h2, e⟩ := page_at hg h
  have := nest_at h
  refine ⟨_, rfl, h1, by omega, ?_⟩
  rw [e, pageL_app]
  simp
  omega
/-- an item pulled to the top -/
theorem step_pull {pile : List PV} {i : Nat} {u : PV} (hg : goodL pile) (hn : nestL pile ≤ 2) (h : pile[i]? = some u) : StepOk pile (.list [.str (escW spec1 (pageV 0 u) ++ [124] ++ pageL 0 (pile.take i ++ pile.drop (i + 1))), .list (u :: (pile.take i ++ pile.drop (i + 1)))]) := by
  obtain ⟨h1, h2, e⟩ := page_at hg h
  have := nest_at h
  have e1 := page_cons (r := pile.take i ++ pile.drop (i + 1)) h2
  refine ⟨_, by rw [e1, List.append_assoc]; rfl, ?_, ?_, ?_⟩
  · rw [goodL]; exact ⟨h2, h1⟩
  · rw [nestL]; omega
  · rw [e, e1, pageL_app]
    simp
    omega
end Mine
set_option Elab.async false
set_option maxRecDepth 10000
set_option linter.unusedVariables false
namespace Mine
open PySem PySem.W PySem.Calls PySem.Spec PyProof.Rows
/-! what the deeds on the two items on top answer -/
theorem esc_ge (x : List Nat) : x.length ≤ (escW spec1 x).length := by
  induction x with
  | nil => simp
  | cons c r ih =>
    have e : escW spec1 (c :: r) = escW spec1 [c] ++ escW spec1 r := escW_app [c] r
    have : 1 ≤ (escW spec1 [c]).length := by
      unfold escW
      rw [List.flatMap_cons, List.flatMap_nil, List.append_nil]
      unfold esc1; split <;> simp
    rw [e, List.length_append, List.length_cons]
    omega
theorem nest_str (t : List Nat) : nestV (.str t) = 0 := by rw [nestV]; intro l e; cases e
theorem page_top {pile : List PV} {u : PV} {r : List PV} (e : pile = u :: r) (hg : goodL pile) : goodV u ∧ goodL r ∧ pageL 0 pile = escW spec1 (pageV 0 u) ++ 124 :: pageL 0 r := by
  rw [e, goodL] at hg
  exact ⟨hg.1, hg.2, by rw [e]; exact page_cons hg.1⟩
theorem step_open {l r : List PV} (hg : goodL (.list l :: r)) (hn : nestL (.list l :: r) ≤ 2) : StepOk (.list l :: r) (.list [.str (pageV 0 (.list l) ++ pageL 0 r), .list (l ++ r)]) := by
  obtain ⟨h1, h2, e⟩ := page_top rfl hg
  have e1 : pageV 0 (.list l) = pageL 0 l := by rw [pageV]
  have h3 := esc_ge (pageV 0 (.list l))
  rw [goodV] at h1
  rw [nestL, nestV] at hn
  refine ⟨l ++ r, by rw [e1, pageL_app], goodL_app.mpr ⟨h1, h2⟩, by rw [nestL_app]; omega, ?_⟩
  rw [e, pageL_app, ← e1]
  simp only [List.length_append, List.length_cons]
  omega
theorem step_write {t : List Nat} {c : Nat} {r : List PV} (hc : c ∈ alpha) (hg : goodL (.str t :: r)) (hn : nestL (.str t :: r) ≤ 2) : StepOk (.str t :: r) (.list [.str (escW spec1 (pageV 0 (.str t) ++ [c]) ++ [124] ++ pageL 0 r), .list (.str (t ++ [c]) :: r)]) := by
  obtain ⟨h1, h2, e⟩ := page_top rfl hg
  rw [goodV] at h1
  have hv : goodV (.str (t ++ [c])) := by
    rw [goodV]
    refine ⟨by simp, fun x hx => ?_⟩
    rcases List.mem_append.mp hx with h | h
    · exact h1.2 x h
    · rw [List.mem_singleton.mp h]; exact hc
  have e1 := page_cons (r := r) hv
  rw [pageV_text] at e e1 ⊢
  refine ⟨.str (t ++ [c]) :: r, by rw [e1, List.append_assoc]; rfl, by rw [goodL]; exact ⟨hv, h2⟩, ?_, ?_⟩
  · rw [nestL, nest_str] at hn ⊢; exact hn
  · have h3 := escW_len [c]
    rw [e, e1, escW_app]
    simp only [List.length_append, List.length_cons, List.length_nil] at h3 ⊢
    omega
theorem step_join {u v w : PV} {r : List PV} (hg : goodL (u :: v :: r)) (hn : nestL (u :: v :: r) ≤ 2) (hw : goodV w) (hp : pageV 0 w = pageV 0 u ++ pageV 0 v) (hnw : nestV w ≤ max (nestV u) (nestV v)) :
    StepOk (u :: v :: r) (.list [.str (escW spec1 (pageV 0 u ++ pageV 0 v) ++ [124] ++ pageL 0 r), .list (w :: r)]) := by
  obtain ⟨h1, h2, e⟩ := page_top rfl hg
  obtain ⟨h3, h4, e2⟩ := page_top rfl h2
  have e1 := page_cons (r := r) hw
  rw [hp] at e1
  refine ⟨w :: r, by rw [e1, List.append_assoc]; rfl, by rw [goodL]; exact ⟨hw, h4⟩, ?_, ?_⟩
  · rw [nestL, nestL] at hn
    rw [nestL]
    omega
  · rw [e, e2, e1, escW_app]
    simp only [List.length_append, List.length_cons]
    omega
theorem join_str {a b : List Nat} (ha : goodV (.str a)) (hb : goodV (.str b)) : goodV (.str (a ++ b)) ∧ pageV 0 (.str (a ++ b)) = pageV 0 (.str a) ++ pageV 0 (.str b) ∧ nestV (.str (a ++ b)) ≤ max (nestV (.str a)) (nestV (.str b)) := by
  rw [goodV] at ha hb ⊢
  refine ⟨⟨fun e => ha.1 (List.append_eq_nil_iff.mp e).1, fun x hx => (List.mem_append.mp hx).elim (ha.2 x) (hb.2 x)⟩, by rw [pageV_text, pageV_text, pageV_text], ?_⟩
  rw [nest_str]
  omega
theorem join_list {a b : List PV} (ha : goodV (.list a)) (hb : goodV (.list b)) : goodV (.list (a ++ b)) ∧ pageV 0 (.list (a ++ b)) = pageV 0 (.list a) ++ pageV 0 (.list b) ∧ nestV (.list (a ++ b)) ≤ max (nestV (.list a)) (nestV (.list b)) := by
  rw [goodV] at ha hb ⊢
  refine ⟨goodL_app.mpr ⟨ha, hb⟩, by rw [pageV, pageV, pageV, pageL_app], ?_⟩
  rw [nestV, nestV, nestV, nestL_app]
  omega
theorem step_swap {u v : PV} {r : List PV} (hg : goodL (u :: v :: r)) (hn : nestL (u :: v :: r) ≤ 2) :
    StepOk (u :: v :: r) (.list [.str (escW spec1 (pageV 0 v) ++ [124] ++ escW spec1 (pageV 0 u) ++ [124] ++ pageL 0 r), .list (v :: u :: r)]) := by
  obtain ⟨h1, h2, e⟩ := page_top rfl hg
  obtain ⟨h3, h4, e2⟩ := page_top rfl h2
  have e1 := page_cons (r := r) h1
  have e3 := page_cons (r := u :: r) h3
  rw [e1] at e3
  refine ⟨v :: u :: r, by rw [e3]; simp, by rw [goodL, goodL]; exact ⟨h3, h1, h4⟩, ?_, ?_⟩
  · rw [nestL, nestL] at hn ⊢
    omega
  · rw [e, e2, e3]
    simp only [List.length_append, List.length_cons]
    omega
theorem step_double {u : PV} {r : List PV} (hg : goodL (u :: r)) (hn : nestL (u :: r) ≤ 2) (hl : (pageL 0 (u :: r)).length ≤ 24) :
    StepOk (u :: r) (.list [.str (escW spec1 (pageV 0 u) ++ [124] ++ pageL 0 (u :: r)), .list (u :: u :: r)]) := by
  obtain ⟨h1, h2, e⟩ := page_top rfl hg
  have e1 := page_cons (r := u :: r) h1
  refine ⟨u :: u :: r, by rw [e1]; simp, by rw [goodL]; exact ⟨h1, hg⟩, ?_, ?_⟩
  · rw [nestL, nestL] at *
    omega
  · have h3 := congrArg List.length e
    rw [e1]
    simp only [List.length_append, List.length_cons] at h3 ⊢
    omega
end Mine
set_option Elab.async false
set_option maxRecDepth 10000
set_option linter.unusedVariables false
namespace Mine
open PySem PySem.W PySem.Calls PySem.Spec PyProof.Rows

theorem ex_gen {Γ : Gx} {V : Va} {ρ : Rho} {X : Exn → Rho → Prop} {ss : List Stmt} {P : Out → Prop} (I : Rho → Prop) (h : I ρ) (k : ∀ ρ, I ρ → Ex Γ V ρ ss P X) : Ex Γ V ρ ss P X := k ρ h
theorem et_mono2 {Γ : Gx} {V : Va} {ρ : Rho} {X : Exn → Rho → Prop} {e : Expr} {P P' : Bool → Rho → Prop} (h : Et Γ V ρ e P X) (hp : ∀ v ρ', P v ρ' → P' v ρ') : Et Γ V ρ e P' X := fun Y ok φ s Q E S p => h Y ok φ s Q E S ⟨fun v ρ' φ' s' a => p.ok v ρ' φ' s' (hp _ _ a), p.er⟩

/-- the state once an item is taken -/
structure TopSt (ρ : Rho) (pile : List PV) (i : Nat) (u : PV) (c : Nat) (deed : Int) : Prop where
  pg : get "page" ρ = some (.val (.str (pageL 0 pile)))
  pl : get "pile" ρ = some (.val (.list pile))
  sg : get "sign" ρ = some (.val (.str [c]))
  dd : get "deed" ρ = some (.val (.int deed))
  at_ : get "at" ρ = some (.val (.int i))
  st : get "start" ρ = some (.val (.int (pageL 0 (pile.take i)).length))
  sp : get "stop" ρ = some (.val (.int ((pageL 0 (pile.take i)).length + (escW spec1 (pageV 0 u)).length + 1 : Nat)))
  gd : get "guarded" ρ = some (.val (.str (escW spec1 (pageV 0 u))))
  rs : get "rest" ρ = some (.val (.str (pageL 0 (pile.take i ++ pile.drop (i + 1)))))
  ot : get "others" ρ = some (.val (.list (pile.take i ++ pile.drop (i + 1))))
noncomputable def Alike (u v : PV) : Prop := (∃ a b, u = .list a ∧ v = .list b) ∨ ∃ a b, u = .str a ∧ v = .str b
theorem pidx0 {u : PV} {r : List PV} : pidx (u :: r) 0 = some u := pidx_at (n := 0) rfl rfl
theorem pidx1 {u v : PV} {r : List PV} : pidx (u :: v :: r) 1 = some v := pidx_at (n := 1) rfl rfl
theorem page0 : pageL 0 [] = [] := by rw [pageL]
theorem cut_top {v : PV} {r : List PV} (hv : goodV v) : (pageL 0 (v :: r)).take ((escW spec1 (pageV 0 v)).length + 1) = escW spec1 (pageV 0 v) ++ [124] ∧ (pageL 0 (v :: r)).drop ((escW spec1 (pageV 0 v)).length + 1) = pageL 0 r ∧ (escW spec1 (pageV 0 v)).length + 1 + (pageL 0 r).length = (pageL 0 (v :: r)).length := by
  have e : pageL 0 (v :: r) = (escW spec1 (pageV 0 v) ++ [124]) ++ pageL 0 r := by rw [page_cons hv]; simp
  have h : (escW spec1 (pageV 0 v)).length + 1 = (escW spec1 (pageV 0 v) ++ [124]).length := by simp
  rw [h, e]
  exact ⟨List.take_left, List.drop_left, by simp only [List.length_append]⟩

section
variable {w : World} {Γ : Gx} (hK : Γ.K = KL w)
include hK
theorem s_bareP {X : Exn → Prop} {d : Nat} {x : List Nat} (hl : (escW spec1 x).length ≤ 100000) : ISpec Γ false 180 (d + 3) none [.str (escW spec1 x)] (fun v _ => v = .str x) X := by
  have sp := s_bare hK (X := X) (d := d) (T := tokE x) (tokE_tok x) (by rw [tokE_flat]; exact hl)
  rw [tokE_flat, tokE_last] at sp
  exact sp
end
end Mine
set_option Elab.async false
set_option maxRecDepth 10000
set_option linter.unusedVariables false
namespace Mine
open PySem PySem.W PySem.Calls PySem.Spec PyProof.Rows
/-! rules for the shapes that a deed's returns have -/
theorem mil {a : Nat} (h : a ≤ 5000) : a ≤ 1000000 := Nat.le_trans h (by decide)
theorem hun {a : Nat} (h : a ≤ 5000) : a ≤ 100000 := Nat.le_trans h (by decide)
theorem le_two {a : Nat} (h : a ≤ 1000) : a ≤ 2000 := Nat.le_trans h (by decide)
theorem add_two {a b : Nat} (h : a ≤ 1000) (k : b ≤ 1000) : a + b ≤ 2000 := Nat.add_le_add h k
theorem esc5 {x : List Nat} (h : x.length ≤ 2000) : (escW spec1 x).length ≤ 5000 := Nat.le_trans (escW_len x) (Nat.le_trans (Nat.mul_le_mul_left 2 h) (by decide))
theorem addm {a b : Nat} (h : a ≤ 5000) (k : b ≤ 5000) : a + b ≤ 1000000 := Nat.le_trans (Nat.add_le_add h k) (by decide)
theorem o5 {c : Nat} : [c].length ≤ 5000 := by show 1 ≤ 5000; decide
theorem o2 {c : Nat} : [c].length ≤ 2000 := by show 1 ≤ 2000; decide
theorem o10 {v : PV} : [v].length ≤ 10 := by show 1 ≤ 10; decide
theorem t10 {u v : PV} : [u, v].length ≤ 10 := by show 2 ≤ 10; decide
theorem dep3 {d : Nat} : 3 + 1 ≤ d + 7 := Nat.le_add_left _ _
theorem dep1 {d : Nat} : 1 ≤ d + 7 := Nat.le_trans (by decide) (Nat.le_add_left 7 d)
section
variable {Γ : Gx} {V : Va} {ρ : Rho} {X : Exn → Rho → Prop}
theorem ev_bar {a : Expr} {k : Nat} {p1 p2 : Pos} {P : PV → Rho → Prop} (h : Ev Γ V ρ a (fun v ρ' => ∃ x, v = .str x ∧ x.length ≤ 5000 ∧ P (.str (x ++ [124])) ρ') X) :
    Ev Γ V ρ (.BinOp a .Add (.Constant (.str (Str.ofString "|")) k p1) p2) P X := by
  refine ev_bin (ev_mono h ?_)
  rintro v ρ' ⟨x, rfl, hl, hp⟩
  refine ev_str ?_
  rw [barW]
  exact ⟨by rw [List.length_singleton]; omega, hp⟩
theorem ev_bars {a b : Expr} {k : Nat} {p1 p2 p3 : Pos} {P : PV → Rho → Prop} (h : Ev Γ V ρ a (fun v ρ₁ => ∃ x, v = .str x ∧ x.length ≤ 5000 ∧ Ev Γ V ρ₁ b (fun u ρ₂ => ∃ y, u = .str y ∧ y.length ≤ 5000 ∧ P (.str (x ++ [124] ++ y)) ρ₂) X) X) :
    Ev Γ V ρ (.BinOp (.BinOp a .Add (.Constant (.str (Str.ofString "|")) k p1) p2) .Add b p3) P X := by
  refine ev_bin (ev_bar (ev_mono h ?_))
  rintro v ρ₁ ⟨x, rfl, hl, hp⟩
  refine ⟨x, rfl, hl, ev_mono hp ?_⟩
  rintro u ρ₂ ⟨y, rfl, hy, hp⟩
  exact ⟨by rw [List.length_append, List.length_singleton]; omega, hp⟩
theorem ev_cat {a b : Expr} {p : Pos} {P : PV → Rho → Prop} (h : Ev Γ V ρ a (fun v ρ₁ => ∃ x, v = .str x ∧ x.length ≤ 5001 ∧ Ev Γ V ρ₁ b (fun u ρ₂ => ∃ y, u = .str y ∧ y.length ≤ 5000 ∧ P (.str (x ++ y)) ρ₂) X) X) :
    Ev Γ V ρ (.BinOp a .Add b p) P X := by
  refine ev_bin (ev_mono h ?_)
  rintro v ρ₁ ⟨x, rfl, hl, hp⟩
  refine ev_mono hp ?_
  rintro u ρ₂ ⟨y, rfl, hy, hp⟩
  exact ⟨by omega, hp⟩
theorem ev_lists {es : List Expr} {b : Expr} {p1 p2 : Pos} {P : PV → Rho → Prop} (h : Evs Γ V X es ρ (fun l ρ₁ => l.length ≤ 10 ∧ Ev Γ V ρ₁ b (fun u ρ₂ => ∃ r, u = .list r ∧ r.length ≤ 5000 ∧ P (.list (l ++ r)) ρ₂) X)) (hs : es.all (fun e => !isStar e) = true := by rfl) :
    Ev Γ V ρ (.BinOp (.List es p1) .Add b p2) P X := by
  have mono : ∀ (es : List Expr) (ρ : Rho) {P P' : List PV → Rho → Prop}, (∀ l ρ, P l ρ → P' l ρ) → Evs Γ V X es ρ P → Evs Γ V X es ρ P' := fun es => by
    induction es with
    | nil => intro ρ P P' hp h; exact hp _ _ h
    | cons e es ih => intro ρ P P' hp h; exact ev_mono h fun v ρ₁ h₁ => ih ρ₁ (fun l ρ₂ h₂ => hp _ _ h₂) h₁
  refine ev_of_en (en_add (ev_of_en (en_list (mono es ρ ?_ h) hs)))
  rintro l ρ₁ ⟨hl, hp⟩
  refine ⟨by omega, l, rfl, ev_mono hp ?_⟩
  rintro u ρ₂ ⟨r, rfl, hr, hp⟩
  exact ⟨r, rfl, by omega, hp⟩
theorem ev_at0 {x : String} {u : PV} {r : List PV} {k : Nat} {p1 p2 p3 : Pos} {P : PV → Rho → Prop} (hg : get x ρ = some (.val (.list (u :: r)))) (h : P u ρ) (hd : plainName x = true := by decide +kernel) : Ev Γ V ρ (.Subscript (.Name (Str.ofString x) p1) (.Constant (.int 0) k p2) p3) P X :=
  ev_sub (ev_name hg (ev_int ⟨by decide, u, pidx0, h⟩) hd)
theorem ev_at1 {x : String} {u v : PV} {r : List PV} {k : Nat} {p1 p2 p3 : Pos} {P : PV → Rho → Prop} (hg : get x ρ = some (.val (.list (u :: v :: r)))) (h : P v ρ) (hd : plainName x = true := by decide +kernel) : Ev Γ V ρ (.Subscript (.Name (Str.ofString x) p1) (.Constant (.int 1) k p2) p3) P X :=
  ev_sub (ev_name hg (ev_int ⟨by decide, v, pidx1, h⟩) hd)
theorem ev_from2 {x : String} {u v : PV} {r : List PV} {k : Nat} {p1 p2 p3 p4 : Pos} {P : PV → Rho → Prop} (hg : get x ρ = some (.val (.list (u :: v :: r)))) (hl : r.length ≤ 5000) (h : P (.list r) ρ) (hd : plainName x = true := by decide +kernel) : Ev Γ V ρ (.Subscript (.Name (Str.ofString x) p1) (.Slice (some (.Constant (.int 2) k p2)) none none p3) p4) P X := by
  refine ev_of_en (en_slice (ev_name hg ⟨_, rfl, by show r.length + 1 + 1 ≤ _; omega, ev_int ⟨_, rfl, ?_⟩⟩ hd))
  have e : pslice (u :: v :: r) (some ((2 : Nat) : Int)) none = r := by rw [pslice_drop]; rfl
  show P (.list (pslice (u :: v :: r) (some ((2 : Nat) : Int)) none)) ρ
  rw [e]
  exact h
theorem ev_from {x y : String} {t : List Nat} {b : Nat} {p1 p2 p3 p4 : Pos} {P : PV → Rho → Prop} (hx : get x ρ = some (.val (.str t))) (hy : get y ρ = some (.val (.int b))) (hb : b ≤ t.length) (hl : t.length ≤ 5000) (h : P (.str (t.drop b)) ρ) (hd : plainName x = true := by decide +kernel) (he : plainName y = true := by decide +kernel) :
    Ev Γ V ρ (.Subscript (.Name (Str.ofString x) p1) (.Slice (some (.Name (Str.ofString y) p2)) none none p3) p4) P X := by
  refine ev_tslice (ev_name hx ⟨_, rfl, by omega, ev_name hy ⟨_, rfl, b, t.length, ⟨hb, Nat.le_refl _, .inl rfl, .inr (.inl ⟨rfl, rfl⟩)⟩, ?_⟩ he⟩ hd)
  rw [List.take_of_length_le (by rw [List.length_drop]; omega)]
  exact h
theorem ev_to {x y : String} {t : List Nat} {b : Nat} {p1 p2 p3 p4 : Pos} {P : PV → Rho → Prop} (hx : get x ρ = some (.val (.str t))) (hy : get y ρ = some (.val (.int b))) (hb : b ≤ t.length) (hl : t.length ≤ 5000) (h : P (.str (t.take b)) ρ) (hd : plainName x = true := by decide +kernel) (he : plainName y = true := by decide +kernel) :
    Ev Γ V ρ (.Subscript (.Name (Str.ofString x) p1) (.Slice none (some (.Name (Str.ofString y) p2)) none p3) p4) P X := by
  refine ev_tslice (ev_name hx ⟨_, rfl, by omega, ev_name hy ⟨_, rfl, 0, b, ⟨Nat.zero_le _, hb, .inr ⟨rfl, rfl⟩, .inl rfl⟩, ?_⟩ he⟩ hd)
  rw [List.drop_zero, Nat.sub_zero]
  exact h
theorem ev_span {x y z : String} {t : List Nat} {b : Nat} {p1 p2 p3 p4 p5 : Pos} {P : PV → Rho → Prop} (hx : get x ρ = some (.val (.str t))) (hy : get y ρ = some (.val (.int (0 : Nat)))) (hz : get z ρ = some (.val (.int b))) (hb : b ≤ t.length) (hl : t.length ≤ 5000) (h : P (.str (t.take b)) ρ) (hd : plainName x = true := by decide +kernel) (he : plainName y = true := by decide +kernel) (hf : plainName z = true := by decide +kernel) :
    Ev Γ V ρ (.Subscript (.Name (Str.ofString x) p1) (.Slice (some (.Name (Str.ofString y) p2)) (some (.Name (Str.ofString z) p5)) none p3) p4) P X := by
  refine ev_tslice (ev_name hx ⟨_, rfl, by omega, ev_name hy ⟨_, rfl, ev_name hz ⟨_, rfl, 0, b, ⟨Nat.zero_le _, hb, .inl rfl, .inl rfl⟩, ?_⟩ hf⟩ he⟩ hd)
  rw [List.drop_zero, Nat.sub_zero]
  exact h
theorem ex_ret2 {a b : Expr} {p1 p2 : Pos} {P : Out → Prop} (h : Ev Γ V ρ a (fun x ρ₁ => Ev Γ V ρ₁ b (fun y ρ₂ => P (.ret (.list [x, y]) ρ₂)) X) X) (hs : [a, b].all (fun e => !isStar e) = true := by rfl) : Ex Γ V ρ [.Return (some (.List [a, b] p1)) p2] P X :=
  ex_last (e1_return (ev_of_en (en_list (ev_mono h fun x ρ₁ h₁ => ev_mono h₁ fun y ρ₂ h₂ => ⟨by show 2 ≤ 1000000; decide, h₂⟩) hs)))
theorem et_deed {x : String} {d i : Int} {k : Nat} {p1 p2 p3 : Pos} {P : Bool → Rho → Prop} (hg : get x ρ = some (.val (.int d))) (h1 : d = i → P true ρ) (h2 : d ≠ i → P false ρ) (hd : plainName x = true := by decide +kernel) : Et Γ V ρ (.Compare (.Name (Str.ofString x) p1) [.Eq] [.Constant (.int i) k p2] p3) P X := by
  refine et_cmp (ev_name hg (ev_int ⟨_, rfl, ?_⟩) hd)
  by_cases h : d = i
  · rw [decide_eq_true h]; exact h1 h
  · rw [decide_eq_false h]; exact h2 h
theorem e1_deed {x : String} {d i : Int} {k : Nat} {p1 p2 p3 p4 : Pos} {body : List Stmt} {P : Out → Prop} (hg : get x ρ = some (.val (.int d))) (h1 : d = i → Ex Γ V ρ body P X) (h2 : d ≠ i → P (.next ρ)) (hd : plainName x = true := by decide +kernel) :
    E1 Γ V ρ (.If (.Compare (.Name (Str.ofString x) p1) [.Eq] [.Constant (.int i) k p2] p3) body [] p4) P X :=
  e1_if (et_deed hg (fun h => ⟨fun _ => h1 h, nb⟩) (fun h => ⟨nb, fun _ => ex_nil (h2 h)⟩) hd)
theorem e1_deed_and {x : String} {d i : Int} {k : Nat} {t : Expr} {p1 p2 p3 p4 p5 : Pos} {body : List Stmt} {P : Out → Prop} (hg : get x ρ = some (.val (.int d))) (h2 : d ≠ i → P (.next ρ)) (h1 : d = i → Et Γ V ρ t (fun c ρ₁ => (c = true → Ex Γ V ρ₁ body P X) ∧ (c = false → P (.next ρ₁))) X) (hd : plainName x = true := by decide +kernel) :
    E1 Γ V ρ (.If (.BoolOp .And [.Compare (.Name (Str.ofString x) p1) [.Eq] [.Constant (.int i) k p2] p3, t] p5) body [] p4) P X :=
  e1_if (et_and (et_deed hg (fun h => ⟨nb, fun _ => et_mono2 (h1 h) fun c ρ₁ q => ⟨q.1, fun z => ex_nil (q.2 z)⟩⟩) (fun h => ⟨fun _ => ⟨nb, fun _ => ex_nil (h2 h)⟩, nb⟩) hd))
theorem et_le {a : Expr} {i : Int} {k : Nat} {p1 p2 : Pos} {P : Bool → Rho → Prop} (h : Ev Γ V ρ a (fun v ρ' => ∃ n : Nat, v = .int n ∧ ((n : Int) ≤ i → P true ρ') ∧ (¬ (n : Int) ≤ i → P false ρ')) X) : Et Γ V ρ (.Compare a [.LtE] [.Constant (.int i) k p1] p2) P X := by
  refine et_cmp (ev_mono h ?_)
  rintro v ρ' ⟨n, rfl, h1, h2⟩
  refine ev_int ⟨_, rfl, ?_⟩
  by_cases h : (n : Int) ≤ i
  · rw [decide_eq_true h]; exact h1 h
  · rw [decide_eq_false h]; exact h2 h
end

section
variable {w : World} {Γ : Gx} {V : Va} {ρ : Rho} {X : Exn → Rho → Prop} (hK : Γ.K = KL w)
include hK
theorem ev_esc {e : Expr} {p1 p2 : Pos} {P : PV → Rho → Prop} (h : Ev Γ V ρ e (fun v ρ' => ∃ x, v = .str x ∧ x.length ≤ 5000 ∧ P (.str (escW spec1 x)) ρ') X) (hd : 1 ≤ V.d) (hk : V.env.kindOf (Str.ofString "escape") = some .globalImplicit := by kernel_rfl)
    (hs : [e].all (fun e => !isStar e) = true := by rfl) (hm : V.hm = false := by rfl) : Ev Γ V ρ (.Call (.Name (Str.ofString "escape") p1) [e] [] p2) P X := by
  refine ev_call (n_escape hK) (kp hK 33 (by kernel_rfl)) (ev_mono h ?_) hk hs (by decide +kernel) hm
  rintro v ρ' ⟨x, rfl, hx, hp⟩
  exact ⟨0, _, hd, s_escape hK (by omega), fun v hv => hv ▸ hp⟩
theorem ev_bare {n : String} {x : List Nat} {p1 p2 p3 : Pos} {P : PV → Rho → Prop} (hg : get n ρ = some (.val (.str (escW spec1 x)))) (hl : (escW spec1 x).length ≤ 5000) (h : P (.str x) ρ) (hd : 3 + 1 ≤ V.d) (hn : plainName n = true := by decide +kernel) (hk : V.env.kindOf (Str.ofString "_law_bare") = some .globalImplicit := by kernel_rfl)
    (hm : V.hm = false := by rfl) (him : V.im = true := by rfl) (hst : V.st = true := by rfl) : Ev Γ V ρ (.Call (.Name (Str.ofString "_law_bare") p1) [.Name (Str.ofString n) p2] [] p3) P X := by
  refine ev_icall (n_bare hK) (kp hK 180 (by kernel_rfl)) (ev_name hg ?_ hn) hk rfl (by decide +kernel) him hst
  refine ⟨3, _, fun _ => False, hd, (by rw [hm]; exact s_bareP hK (X := fun _ => False) (d := 0) (hun hl)), fun v fs hv => ?_, fun y hy => hy.elim⟩
  subst hv
  exact h
end
end Mine
set_option Elab.async false
set_option maxRecDepth 10000
set_option linter.unusedVariables false
namespace Mine
open PySem PySem.W PySem.Calls PySem.Spec PyProof.Rows

noncomputable def signL : List Nat := (Str.ofString "|\\a.~\n#é").cps.toList
theorem sign_all : ∀ q : Fin 8, ((pidx signL ((q.val : Nat) : Int)).any fun c => decide (c ∈ alpha)) = true := by decide +kernel
theorem sign_at {q : Nat} (h : q < 8) : ∃ c ∈ alpha, pidx signL (q : Int) = some c := by
  have := sign_all ⟨q, h⟩
  obtain ⟨c, h1, h2⟩ := Option.any_eq_true _ _ |>.mp this
  exact ⟨c, of_decide_eq_true h2, h1⟩
theorem e1_stay {Γ : Gx} {V : Va} {ρ : Rho} {X : Exn → Rho → Prop} {st : Stmt} {P : Out → Prop} (C : Prop) (h : E1 Γ V ρ st (fun o => match o with | .next ρ' => ρ' = ρ ∧ C | o => P o) X) (k : C → P (.next ρ)) : E1 Γ V ρ st P X := fun Y ok φ s Q E hE S p =>
  h Y ok φ s Q E hE S ⟨fun ρ' φ' s' a n => by
    obtain ⟨rfl, hc⟩ := (a : ρ' = ρ ∧ C)
    exact p.nx _ _ _ (k hc) n, p.bk, p.ct, p.rt, p.er⟩
theorem len3 {α β : Type} {l : List α} {m : List β} (h : l.length = m.length) (h3 : m.length = 3) : ∃ a b c, l = [a, b, c] := by
  match l, h.trans h3 with
  | [a, b, c], _ => exact ⟨a, b, c, rfl⟩
/-- the state in which a deed is looked up -/
structure DeedSt (ρ : Rho) (pile : List PV) (cell c : Nat) (deed : Int) : Prop where
  pg : get "page" ρ = some (.val (.str (pageL 0 pile)))
  pl : get "pile" ρ = some (.val (.list pile))
  ce : get "cell" ρ = some (.val (.int cell))
  sg : get "sign" ρ = some (.val (.str [c]))
  dd : get "deed" ρ = some (.val (.int deed))
/-- how long the texts about a taken item are -/
structure Bd (pile : List PV) (i : Nat) (u : PV) : Prop where
  pg : (pageL 0 pile).length ≤ 1000
  pl : pile.length ≤ 1000
  es : (escW spec1 (pageV 0 u)).length ≤ 1000
  ra : (pageV 0 u).length ≤ 1000
  rs : (pageL 0 (pile.take i ++ pile.drop (i + 1))).length ≤ 1000
  ot : (pile.take i ++ pile.drop (i + 1)).length ≤ 1000
  st : (pageL 0 (pile.take i)).length ≤ (pageL 0 pile).length
  sp : (pageL 0 (pile.take i)).length + (escW spec1 (pageV 0 u)).length + 1 ≤ (pageL 0 pile).length
theorem k5 {a : Nat} (h : a ≤ 1000) : a ≤ 5000 := Nat.le_trans h (by decide)
theorem bd_of {pile : List PV} {i : Nat} {u : PV} (hg : goodL pile) (hl : (pageL 0 pile).length ≤ 1000) (h : pile[i]? = some u) : Bd pile i u := by
  obtain ⟨_, _, e⟩ := page_at hg h
  have hlp := congrArg List.length e
  rw [List.length_append, List.length_append, List.length_cons] at hlp
  have h1 := esc_ge (pageV 0 u)
  have h2 := pageL_len 0 pile
  refine ⟨hl, by omega, by omega, by omega, by rw [pageL_app, List.length_append]; omega, ?_, by omega, by omega⟩
  rw [List.length_append, List.length_take, List.length_drop]
  omega
theorem deed_at {deed : Nat} {k : Int} (h : (deed : Int) ≠ k) {n : Nat} (e : k = n) : deed ≠ n := fun q => h (by rw [q, e])
theorem half {x : List Nat} {c : Nat} (h : x.length ≤ 1000) : (x ++ [c]).length ≤ 2000 := by rw [List.length_append, List.length_singleton]; omega
theorem both {x y : List Nat} (h : x.length ≤ 1000) (k : y.length ≤ 1000) : (x ++ y).length ≤ 2000 := by rw [List.length_append]; omega
theorem swapL {x y : List Nat} (h : x.length ≤ 1000) (k : y.length ≤ 1000) : (x ++ [124] ++ y).length ≤ 5000 := by rw [List.length_append, List.length_append, List.length_singleton]; omega
theorem le5 {x : List Nat} (h : x.length ≤ 2000) : x.length ≤ 5000 := Nat.le_trans h (by decide)
theorem tx1 {t : List Nat} (h : (pageV 0 (.str t)).length ≤ 1000) : t.length ≤ 5000 := by rw [pageV_text] at h; exact k5 h
theorem li1 {l : List PV} (h : (pageV 0 (.list l)).length ≤ 1000) : l.length ≤ 1000 := by
  rw [pageV] at h
  exact Nat.le_trans (pageL_len 0 l) h
theorem ltOne {u : PV} : ¬ ((1 : Int) < (([u] : List PV).length : Nat)) := fun h => absurd h (by show ¬ (1 : Int) < ((1 : Nat) : Int); decide)

section
variable {w : World} {Γ : Gx} {V : Va} {ρ : Rho} {X : Exn → Rho → Prop} (hK : Γ.K = KL w) (hP : Γ.prog = PL)
include hK hP
/-- taking an item of what a name holds -/
theorem e1_take {y : String} {n : Expr} {es : List Expr} {xs : List String} {pile : List PV} {i kt : Nat} {u : PV} {tp pos p1 p2 p3 : Pos} {P : Out → Prop} (hN : NamesAre es xs) (h3 : 3 = xs.length) (hg : goodL pile) (hl : (pageL 0 pile).length ≤ 1000) (hw : pile[i]? = some u) (hy : get y ρ = some (.val (.str (pageL 0 pile))))
    (hn : ∀ {Q : PV → Rho → Prop}, Q (.int i) ρ → Ev Γ V ρ n Q X) (hd : 1 ≤ V.d - 6)
    (h : P (.next (updAll xs [.int (pageL 0 (pile.take i)).length, .int ((pageL 0 (pile.take i)).length + (escW spec1 (pageV 0 u)).length + 1 : Nat), .str (escW spec1 (pageV 0 u))] ρ)))
    (hyd : plainName y = true := by decide +kernel) (hk : V.env.kindOf (Str.ofString "_law_take") = some .globalImplicit := by kernel_rfl) (hs : [.Name (Str.ofString y) p1, n].all (fun e => !isStar e) = true := by rfl)
    (hsw : swapsWithSole [.Tuple es kt tp] (.Call (.Name (Str.ofString "_law_take") p2) [.Name (Str.ofString y) p1, n] [] p3) pos.line V.env = pure false := by rfl) (hsd : swappedStores [.Tuple es kt tp] (.Call (.Name (Str.ofString "_law_take") p2) [.Name (Str.ofString y) p1, n] [] p3) V.env = pure none := by rfl) (hst : V.st = true := by rfl) (hcs : xs.all (canStore V.env) = true := by kernel_rfl) (hm : V.hm = false := by rfl) (him : V.im = true := by rfl) :
    E1 Γ V ρ (.Assign [.Tuple es kt tp] (.Call (.Name (Str.ofString "_law_take") p2) [.Name (Str.ofString y) p1, n] [] p3) pos) P X := by
  refine e1_unpack hN ?_ hsw hsd hst hcs hm
  refine ev_icall (n_take hK) (kp hK 173 (by kernel_rfl)) (ev_name hy (hn ⟨0 + 6, _, fun _ => False, by omega, by rw [hm]; exact s_takeP hK hP hg (by omega) (List.getElem?_eq_some_iff.mp hw).1, fun v fs hv => ?_, fun y hy => hy.elim⟩) hyd) hk hs (by decide +kernel) him hst
  obtain ⟨u', hu', rfl⟩ := hv
  cases hw.symm.trans hu'
  exact ⟨_, rfl, h3, h⟩
end

section
variable {w : World} {Γ : Gx} (hK : Γ.K = KL w) (hP : Γ.prog = PL)
include hK hP
set_option maxHeartbeats 8000000 in
theorem s_step {d cell : Nat} {pile : List PV} (hg : goodL pile) (hn : nestL pile ≤ 2) (hl : (pageL 0 pile).length ≤ 1000) (hcell : cell ≤ 1000000) :
    ISpec Γ false 187 (d + 7) none [.str (pageL 0 pile), .list pile, .int cell] (fun v _ => StepOk pile v) (fun _ => False) := by
  refine i_of_body (names := ["page", "pile", "cell"]) (fd := fdL w 187) (oc := .type "function") (od := none) (osl := #[]) (by rw [hK]; kernel_rfl) (by rw [hK]; kernel_rfl) (hbody := by exact rfl) (by kernel_rfl) (by kernel_rfl) (by kernel_rfl) (by kernel_rfl) (by kernel_rfl) (by kernel_rfl) ?_ (by kernel_rfl) (by decide) (of_decide_eq_true (by kernel_rfl)) rfl ?_
  · intro ws h
    obtain ⟨a, b, c, rfl⟩ := len3 h rfl
    kernel_rfl
  · intro A L _ _
    have hpl5 : pile.length ≤ 5000 := k5 (Nat.le_trans (pageL_len 0 pile) hl)
    obtain ⟨c, hc, hpc⟩ := sign_at (q := cell / 6 % 8) (Nat.mod_lt _ (by decide))
    have hq : (cell : Int) / 6 % 8 = ((cell / 6 % 8 : Nat) : Int) := by clear hl hn hcell hpl5; omega
    refine ex_cons ?_
    refine e1_assign ?_
    refine ev_sub (ev_str ?_)
    refine ev_bin (ev_bin (ev_name rfl (ev_int ?_)))
    refine ⟨by decide, ev_int ⟨by decide, ?_⟩⟩
    rw [hq]
    refine ⟨by clear hl hn hcell hpl5 hq; omega, c, hpc, ?_⟩
    refine ex_cons ?_
    refine e1_assign ?_
    refine ev_bin (ev_name rfl (ev_int ⟨by decide, ?_⟩))
    refine ex_gen (fun ρ => DeedSt ρ pile cell c ((cell : Int) % 6)) ⟨rfl, rfl, rfl, rfl, rfl⟩ (fun ρ DS => ?_)
    clear hq
    generalize (cell : Int) % 6 = deed at DS
    -- folding
    refine ex_cons ?_
    refine e1_stay True ?_ (fun _ => ?_)
    · refine e1_if (et_and3 ?_)
      refine et_deed DS.dd (fun _ => ⟨nb, fun _ => ?_⟩) (fun _ => ⟨fun _ => ⟨nb, fun _ => ex_nil ⟨rfl, trivial⟩⟩, nb⟩)
      refine et_le (ev_call1 (n_len hK) (ev_name DS.pg ⟨mil (k5 hl), _, rfl, fun h3 => ⟨nb, fun _ => ?_⟩, fun _ => ⟨fun _ => ⟨nb, fun _ => ex_nil ⟨rfl, trivial⟩⟩, nb⟩⟩))
      refine et_cmp (ev_call (n_nest hK) (kp hK 166 (by kernel_rfl)) (ev_name DS.pl ⟨3, _, dep3, s_nest hK 2 hn hg (hun (k5 hl)), fun v hv => ?_⟩))
      subst hv
      refine ev_int ⟨_, rfl, (fun h4 => ?_), (fun h4 => ex_nil ⟨rfl, trivial⟩)⟩
      refine ex_ret2 ?_
      refine ev_bar (ev_esc hK (ev_name DS.pg ⟨_, rfl, k5 hl, _, rfl, esc5 (le_two hl), ?_⟩) dep1)
      refine ev_of_en (en_list (ev_name DS.pl ⟨by show 1 ≤ 1000000; decide, ?_⟩))
      have h4 := of_decide_eq_true h4
      clear hl hpl5 hcell
      exact step_fold hg (by clear h3; omega) (by clear h4; omega)
    -- laying
    refine ex_cons ?_
    refine e1_stay (pile ≠ []) ?_ (fun hne => ?_)
    · refine e1_if (et_mono2 (P := fun k ρ' => ρ' = ρ ∧ (k = false → pile ≠ [])) ?_ (fun k ρ' hk => ⟨fun _ => ?_, fun q => ex_nil ⟨hk.1, hk.2 q⟩⟩))
      · refine et_or (et_deed DS.dd (fun _ => ⟨fun _ => ⟨rfl, nb⟩, nb⟩) (fun _ => ⟨nb, fun _ => ?_⟩))
        exact et_eq_nil (ev_name DS.pl (ev_of_en (en_list ⟨by show 0 ≤ 1000000; decide, rfl, .inl ⟨pile, rfl, rfl, fun h3 => of_decide_eq_false h3⟩⟩)))
      · obtain ⟨rfl, _⟩ := hk
        refine ex_ret2 ?_
        refine ev_bars (ev_esc hK (ev_name DS.sg ⟨_, rfl, o5, _, rfl, esc5 (x := [c]) o2, ?_⟩) dep1)
        refine ev_name DS.pg ⟨_, rfl, k5 hl, ?_⟩
        refine ev_lists (ev_name DS.sg ⟨o10, ?_⟩)
        refine ev_name DS.pl ⟨_, rfl, hpl5, ?_⟩
        exact step_lay hc hg hn
    refine ex_cons ?_
    refine e1_via (fun ρ' => ∃ i : Nat, i < pile.length ∧ (deed ≠ 3 → i = 0) ∧ get "at" ρ' = some (.val (.int i)) ∧ DeedSt ρ' pile cell c deed) ?_ (fun ρ' hJ => ?_)
    · have hp0 : 0 < pile.length := List.length_pos_iff.mpr hne
      have ds : ∀ s, DeedSt (upd "at" s ρ) pile cell c deed := fun s => ⟨get_upd_ne DS.pg, get_upd_ne DS.pl, get_upd_ne DS.ce, get_upd_ne DS.sg, get_upd_ne DS.dd⟩
      refine e1_assign (ev_ifexp (et_deed DS.dd (fun h2 => ⟨fun _ => ?_, nb⟩) (fun h2 => ⟨nb, fun _ => ?_⟩)))
      · refine ev_bin (ev_bin (ev_name DS.ce (ev_int ⟨by decide, ?_⟩)))
        refine ev_call1 (n_len hK) (ev_name DS.pl ⟨mil hpl5, ?_⟩)
        have e : (cell : Int) / 6 % (pile.length : Int) = ((cell / 6 % pile.length : Nat) : Int) := by rw [Int.natCast_emod, Int.natCast_ediv]; rfl
        refine ⟨Int.natCast_pos.mpr hp0, ?_⟩
        rw [e]
        exact ⟨_, Nat.mod_lt _ hp0, fun h => absurd h2 h, get_upd_self _ _ _, ds _⟩
      · exact ev_int ⟨0, hp0, fun _ => rfl, get_upd_self _ _ _, ds _⟩
    obtain ⟨i, hi, hi0, ga, DS⟩ := hJ
    have hw := List.getElem?_eq_getElem hi
    generalize pile[i] = u at hw
    have hgu := (page_at hg hw).2.1
    have B := bd_of hg hl hw
    have hrest := rest_at hg hw
    clear hi hcell
    refine ex_cons ?_
    refine e1_take (xs := ["start", "stop", "guarded"]) hK hP ⟨⟨_, rfl⟩, ⟨_, rfl⟩, ⟨_, rfl⟩, trivial⟩ rfl hg hl hw DS.pg (fun q => ev_name ga q) (by show 1 ≤ d + 7 - 6; omega) ?_
    refine ex_gen (fun ρ => DeedSt ρ pile cell c deed ∧ get "at" ρ = some (.val (.int i)) ∧ get "start" ρ = some (.val (.int (pageL 0 (pile.take i)).length)) ∧ get "stop" ρ = some (.val (.int ((pageL 0 (pile.take i)).length + (escW spec1 (pageV 0 u)).length + 1 : Nat))) ∧ get "guarded" ρ = some (.val (.str (escW spec1 (pageV 0 u)))))
      ⟨⟨get_upd_ne (get_upd_ne (get_upd_ne DS.pg)), get_upd_ne (get_upd_ne (get_upd_ne DS.pl)), get_upd_ne (get_upd_ne (get_upd_ne DS.ce)), get_upd_ne (get_upd_ne (get_upd_ne DS.sg)), get_upd_ne (get_upd_ne (get_upd_ne DS.dd))⟩, get_upd_ne (get_upd_ne (get_upd_ne ga)), get_upd_ne (get_upd_ne (get_upd_self _ _ _)), get_upd_ne (get_upd_self _ _ _), get_upd_self _ _ _⟩ (fun ρ hρ => ?_)
    obtain ⟨DS, ga, gst, gsp, ggd⟩ := hρ
    refine ex_cons ?_
    refine e1_assign ?_
    refine ev_cat (ev_to DS.pg gst B.st (k5 B.pg) ⟨_, rfl, Nat.le_succ_of_le (k5 (Nat.le_trans (List.length_take_le' _ _) B.pg)), ?_⟩)
    refine ev_from DS.pg gsp B.sp (k5 B.pg) ⟨_, rfl, k5 (Nat.le_trans (by rw [List.length_drop]; exact Nat.sub_le _ _) B.pg), ?_⟩
    rw [hrest]
    have hp1 : pslice pile none (some (i : Int)) = pile.take i := pslice_take _ _
    have hp2 : pslice pile (some ((i : Int) + 1)) none = pile.drop (i + 1) := pslice_drop pile (i + 1)
    refine ex_cons ?_
    refine e1_assign ?_
    refine ev_of_en ?_
    refine en_add ?_
    refine ev_of_en ?_
    refine en_slice ?_
    refine ev_name (get_upd_ne DS.pl) ⟨_, rfl, mil hpl5, ?_⟩
    refine ev_name (get_upd_ne ga) ⟨_, rfl, ?_⟩
    refine ⟨_, congrArg PV.list hp1, ?_⟩
    refine ev_of_en ?_
    refine en_slice ?_
    refine ev_name (get_upd_ne DS.pl) ⟨_, rfl, mil hpl5, ?_⟩
    refine ev_bin ?_
    refine ev_name (get_upd_ne ga) ?_
    refine ev_int ⟨_, rfl, ?_⟩
    refine ⟨_, congrArg PV.list hp2, by have := B.ot; rw [List.length_append] at this; clear hl hpl5 hi0; omega, ?_⟩
    refine ex_gen (fun ρ => TopSt ρ pile i u c deed) ⟨get_upd_ne (get_upd_ne DS.pg), get_upd_ne (get_upd_ne DS.pl), get_upd_ne (get_upd_ne DS.sg), get_upd_ne (get_upd_ne DS.dd), get_upd_ne (get_upd_ne ga), get_upd_ne (get_upd_ne gst), get_upd_ne (get_upd_ne gsp), get_upd_ne (get_upd_ne ggd), get_upd_ne (get_upd_self _ _ _), get_upd_self _ _ _⟩ (fun ρ TS => ?_)
    clear DS ga gst gsp ggd
    -- pulling
    refine ex_cons ?_
    refine e1_deed TS.dd (fun h => ?_) (fun h3 => ?_)
    · refine ex_ret2 ?_
      refine ev_bars (ev_name TS.gd ⟨_, rfl, k5 B.es, ?_⟩)
      refine ev_name TS.rs ⟨_, rfl, k5 B.rs, ?_⟩
      refine ev_lists (ev_sub (ev_name TS.pl (ev_name TS.at_ ⟨⟨by clear hl hpl5 hi0; omega, by have := (List.getElem?_eq_some_iff.mp hw).1; clear hl hi0; omega⟩, u, pidx_at rfl hw, o10, ?_⟩)))
      refine ev_name TS.ot ⟨_, rfl, k5 B.ot, ?_⟩
      exact step_pull hg hn hw
    -- the item on top
    have hi0 := hi0 h3
    subst hi0
    cases pile with
    | nil => exact absurd rfl hne
    | cons u' r =>
    cases hw
    have gr : get "rest" ρ = some (.val (.str (pageL 0 r))) := TS.rs
    have go : get "others" ρ = some (.val (.list r)) := TS.ot
    have e0 : (pageL 0 (List.take 0 (u :: r))).length = 0 := by rw [List.take_zero, page0]; rfl
    have gst := TS.st
    have gsp := TS.sp
    rw [e0] at gst gsp
    rw [Nat.zero_add] at gsp
    have hrl : (pageL 0 r).length ≤ 1000 := B.rs
    have hro : r.length ≤ 1000 := B.ot
    have hgr : goodL r := (page_top rfl hg).2.1
    clear hpl5 hl hrest hp1 hp2 hne
    -- opening
    refine ex_cons ?_
    refine e1_stay (deed = 1 → ∃ t, u = .str t) ?_ (fun h1 => ?_)
    · refine e1_deed_and TS.dd (fun h => ⟨rfl, fun e => absurd e h⟩) (fun h => ?_)
      refine et_val ?_
      refine ev_isl (n_isinstance hK) (n_list hK) ?_
      refine ev_at0 TS.pl ?_
      cases u with
      | list l =>
        refine .inl ⟨l, rfl, true, rfl, (fun _ => ?_), nb⟩
        refine ex_ret2 ?_
        refine ev_cat (ev_bare hK TS.gd (k5 B.es) ⟨_, rfl, Nat.le_succ_of_le (k5 B.ra), ?_⟩ dep3)
        refine ev_name gr ⟨_, rfl, k5 hrl, ?_⟩
        refine ev_of_en (en_add (ev_at0 TS.pl ⟨l, rfl, ?_⟩))
        refine ev_name go ⟨r, rfl, addm (k5 (li1 B.ra)) (k5 hro), ?_⟩
        exact step_open hg hn
      | str t => exact .inr ⟨t, rfl, false, rfl, nb, fun _ => ⟨rfl, fun _ => ⟨t, rfl⟩⟩⟩
      | _ => exact hgu.elim
    -- writing
    refine ex_cons ?_
    refine e1_deed TS.dd (fun h => ?_) (fun _ => ?_)
    · obtain ⟨t, rfl⟩ := h1 h
      refine ex_ret2 ?_
      refine ev_bars (ev_esc hK (ev_cat (ev_bare hK TS.gd (k5 B.es) ⟨_, rfl, Nat.le_succ_of_le (k5 B.ra), ?_⟩ dep3)) dep1)
      refine ev_name TS.sg ⟨_, rfl, o5, ?_⟩
      refine ⟨_, rfl, le5 (half B.ra), _, rfl, esc5 (half B.ra), ?_⟩
      refine ev_name gr ⟨_, rfl, k5 hrl, ?_⟩
      refine ev_lists (ev_cat (ev_at0 TS.pl ⟨t, rfl, Nat.le_succ_of_le (tx1 B.ra), ?_⟩))
      refine ev_name TS.sg ⟨_, rfl, o5, o10, ?_⟩
      refine ev_name go ⟨_, rfl, k5 hro, ?_⟩
      exact step_write hc hg hn
    -- joining
    refine ex_cons ?_
    refine e1_stay True ?_ (fun _ => ?_)
    · refine e1_deed_and TS.dd (fun h => ⟨rfl, trivial⟩) (fun h => ?_)
      refine et_cmp (ev_call1 (n_len hK) (ev_name TS.pl ⟨mil (k5 B.pl), ev_int ⟨_, rfl, (fun h2 => ?_), (fun h2 => ⟨rfl, trivial⟩)⟩⟩))
      cases r with
      | nil => exact absurd (of_decide_eq_true h2) ltOne
      | cons v r =>
      have Bv := bd_of (i := 0) (u := v) hgr hrl rfl
      have hgv := (page_top rfl hgr).1
      obtain ⟨hc1, hc2, hc3⟩ := cut_top (r := r) hgv
      have hr3 : r.length ≤ 1000 := Bv.ot
      have hrr : (pageL 0 r).length ≤ 1000 := Bv.rs
      have hcb : (escW spec1 (pageV 0 v)).length + 1 ≤ (pageL 0 (v :: r)).length := by rw [← hc3]; exact Nat.le_add_right _ _
      have e1 : (pageL 0 (List.take 0 (v :: r))).length = 0 := by rw [List.take_zero, page0]; rfl
      refine ex_cons ?_
      refine e1_take (i := 0) (u := v) (xs := ["begin", "close", "second"]) hK hP ⟨⟨_, rfl⟩, ⟨_, rfl⟩, ⟨_, rfl⟩, trivial⟩ rfl hgr hrl rfl gr (fun q => ev_int q) (by show 1 ≤ d + 7 - 6; clear hrr hr3 hro hrl hc3 hcb h2; omega) ?_
      rw [e1, Nat.zero_add]
      refine ex_gen (fun ρ => (get "pile" ρ = some (.val (.list (u :: v :: r))) ∧ get "guarded" ρ = some (.val (.str (escW spec1 (pageV 0 u))))) ∧ get "rest" ρ = some (.val (.str (pageL 0 (v :: r)))) ∧ get "begin" ρ = some (.val (.int (0 : Nat))) ∧ get "close" ρ = some (.val (.int ((escW spec1 (pageV 0 v)).length + 1 : Nat))) ∧ get "second" ρ = some (.val (.str (escW spec1 (pageV 0 v)))))
        ⟨⟨get_upd_ne (get_upd_ne (get_upd_ne TS.pl)), get_upd_ne (get_upd_ne (get_upd_ne TS.gd))⟩, get_upd_ne (get_upd_ne (get_upd_ne gr)), get_upd_ne (get_upd_ne (get_upd_self _ _ _)), get_upd_ne (get_upd_self _ _ _), get_upd_self _ _ _⟩ (fun ρ hρ => ?_)
      clear TS gr go gst gsp
      obtain ⟨⟨gl, gg⟩, gr, gb, gc, g2⟩ := hρ
      refine ex_cons ?_
      refine e1_stay True ?_ (fun _ => ?_)
      · refine e1_if ?_
        refine et_mono2 (P := fun k ρ' => ρ' = ρ ∧ (k = true → Alike u v)) ?_ (fun k ρ' hk => ⟨fun q => ?_, fun q => ex_nil ⟨hk.1, trivial⟩⟩)
        · refine et_cmp ?_
          refine ev_isl (n_isinstance hK) (n_list hK) ?_
          refine ev_at0 gl ?_
          cases u with
          | list a =>
            refine .inl ⟨a, rfl, ?_⟩
            refine ev_isl (n_isinstance hK) (n_list hK) ?_
            refine ev_at1 gl ?_
            cases v with
            | list b => exact .inl ⟨b, rfl, _, rfl, rfl, fun _ => .inl ⟨a, b, rfl, rfl⟩⟩
            | str b => exact .inr ⟨b, rfl, _, rfl, rfl, nb⟩
            | _ => exact hgv.elim
          | str a =>
            refine .inr ⟨a, rfl, ?_⟩
            refine ev_isl (n_isinstance hK) (n_list hK) ?_
            refine ev_at1 gl ?_
            cases v with
            | list b => exact .inl ⟨b, rfl, _, rfl, rfl, nb⟩
            | str b => exact .inr ⟨b, rfl, _, rfl, rfl, fun _ => .inr ⟨a, b, rfl, rfl⟩⟩
            | _ => exact hgv.elim
          | _ => exact hgu.elim
        · obtain ⟨rfl, hal⟩ := hk
          have hal := hal q
          refine ex_cons ?_
          refine e1_assign ?_
          refine ev_bar (ev_esc hK (ev_cat (ev_bare hK gg (k5 B.es) ⟨_, rfl, Nat.le_succ_of_le (k5 B.ra), ?_⟩ dep3)) dep1)
          refine ev_bare hK g2 (k5 Bv.es) ⟨_, rfl, k5 Bv.ra, ?_⟩ dep3
          refine ⟨_, rfl, le5 (both B.ra Bv.ra), _, rfl, esc5 (both B.ra Bv.ra), ?_⟩
          refine ex_ret2 ?_
          refine ev_cat (ev_name (get_upd_self _ _ _) ⟨_, rfl, by rw [List.length_append, List.length_singleton]; exact Nat.succ_le_succ (esc5 (both B.ra Bv.ra)), ?_⟩)
          refine ev_from (get_upd_ne gr) (get_upd_ne gc) hcb (k5 Bv.pg) ?_
          rw [hc2]
          refine ⟨_, rfl, k5 hrr, ?_⟩
          rcases hal with ⟨a, b, rfl, rfl⟩ | ⟨a, b, rfl, rfl⟩
          · obtain ⟨j1, j2, j3⟩ := join_list hgu hgv
            refine ev_lists (ev_of_en (en_add (ev_at0 (get_upd_ne gl) ⟨_, rfl, ?_⟩)))
            refine ev_at1 (get_upd_ne gl) ⟨_, rfl, addm (k5 (li1 B.ra)) (k5 (li1 Bv.ra)), o10, ?_⟩
            refine ev_from2 (get_upd_ne gl) (k5 hr3) ⟨_, rfl, k5 hr3, ?_⟩
            exact step_join hg hn j1 j2 j3
          · obtain ⟨j1, j2, j3⟩ := join_str hgu hgv
            refine ev_lists (ev_cat (ev_at0 (get_upd_ne gl) ⟨_, rfl, Nat.le_succ_of_le (tx1 B.ra), ?_⟩))
            refine ev_at1 (get_upd_ne gl) ⟨_, rfl, tx1 Bv.ra, o10, ?_⟩
            refine ev_from2 (get_upd_ne gl) (k5 hr3) ⟨_, rfl, k5 hr3, ?_⟩
            exact step_join hg hn j1 j2 j3
      -- changing places
      refine ex_ret2 ?_
      refine ev_bars (ev_cat (ev_span gr gb gc hcb (k5 Bv.pg) ?_))
      rw [hc1]
      refine ⟨_, rfl, by rw [List.length_append, List.length_singleton]; exact Nat.succ_le_succ (k5 Bv.es), ?_⟩
      refine ev_name gg ⟨_, rfl, k5 B.es, ?_⟩
      refine ⟨_, rfl, swapL Bv.es B.es, ?_⟩
      refine ev_from gr gc hcb (k5 Bv.pg) ?_
      rw [hc2]
      refine ⟨_, rfl, k5 hrr, ?_⟩
      refine ev_lists (ev_at1 gl (ev_at0 gl ⟨t10, ?_⟩))
      refine ev_from2 gl (k5 hr3) ⟨_, rfl, k5 hr3, ?_⟩
      exact step_swap hg hn
    -- doubling
    obtain ⟨hc1, hc2, hc3⟩ := cut_top (r := r) hgu
    have hcb : (escW spec1 (pageV 0 u)).length + 1 ≤ (pageL 0 (u :: r)).length := by rw [← hc3]; exact Nat.le_add_right _ _
    refine ex_cons ?_
    refine e1_stay True ?_ (fun _ => ?_)
    · refine e1_deed_and TS.dd (fun h => ⟨rfl, trivial⟩) (fun h => ?_)
      refine et_le (ev_call1 (n_len hK) (ev_name TS.pg ⟨mil (k5 B.pg), _, rfl, fun h2 => ⟨fun _ => ?_, nb⟩, fun _ => ⟨nb, fun _ => ⟨rfl, trivial⟩⟩⟩))
      refine ex_ret2 ?_
      refine ev_cat (ev_span TS.pg gst gsp hcb (k5 B.pg) ?_)
      rw [hc1]
      refine ⟨_, rfl, by rw [List.length_append, List.length_singleton]; exact Nat.succ_le_succ (k5 B.es), ?_⟩
      refine ev_name TS.pg ⟨_, rfl, k5 B.pg, ?_⟩
      refine ev_lists (ev_at0 TS.pl ⟨o10, ?_⟩)
      refine ev_name TS.pl ⟨_, rfl, k5 B.pl, ?_⟩
      exact step_double hg hn (Int.ofNat_le.mp h2)
    -- dropping
    refine ex_ret2 ?_
    refine ev_name gr ?_
    refine ev_name go ?_
    exact step_drop (i := 0) hg hn rfl
end
end Mine
set_option Elab.async false
set_option maxRecDepth 10000
set_option linter.unusedVariables false
namespace Mine
open PySem PySem.W PySem.Calls PySem.Spec PyProof.Rows

theorem missE : (Str.ofString "missing item").cps.toList = missName itemW := by decide +kernel
theorem missT : (Str.ofString "missing |, unterminated name").cps.toList = missText [124] := by decide +kernel
theorem pslice_init {α : Type} (l : List α) (v : α) : pslice (l ++ [v]) none (some (-1)) = l := by
  unfold pslice
  have e : clipAt (l ++ [v]).length (-1) = l.length := by
    unfold clipAt
    rw [List.length_append, List.length_singleton, if_pos (by decide)]
    omega
  show ((l ++ [v]).drop 0).take (clipAt (l ++ [v]).length (-1) - 0) = l
  rw [e, List.drop_zero, Nat.sub_zero, List.take_left]
theorem pidx_last {α : Type} (l : List α) (v : α) : pidx (l ++ [v]) (-1) = some v := by
  rw [pidx_ng (by decide) (by rw [List.length_append, List.length_singleton]; omega)]
  have e : ((-1 : Int) + ((l ++ [v]).length : Nat)).toNat = l.length := by
    rw [List.length_append, List.length_singleton]
    omega
  rw [e]
  simp
theorem page_snoc {l : List PV} {v : PV} (hg : goodL (l ++ [v])) : goodL l ∧ goodV v ∧ pageL 0 (l ++ [v]) = (pageL 0 l ++ escW spec1 (pageV 0 v)) ++ [124] := by
  rw [goodL_app, goodL] at hg
  refine ⟨hg.1, hg.2.1, ?_⟩
  rw [page_split hg.2.1, page0]
  simp
theorem bare_list {l : List PV} (h : l ≠ []) : tokE (pageV 0 (.list l)) ≠ [] := fun e => by
  have h1 := pageL_len 0 l
  have h2 : pageV 0 (.list l) = [] := List.map_eq_nil_iff.mp e
  rw [pageV] at h2
  rw [h2, List.length_nil] at h1
  exact h (List.length_eq_zero_iff.mp (by omega))
theorem bare_str {t : List Nat} (h : goodV (.str t)) : tokE (pageV 0 (.str t)) ≠ [] := fun e => by
  rw [goodV] at h
  rw [pageV_text] at e
  exact h.1 (List.map_eq_nil_iff.mp e)
theorem bare_none : tokE (pageV 0 (.list [])) = [] := by rw [pageV, page0]; rfl

section
variable {w : World} {Γ : Gx} (hK : Γ.K = KL w) (hP : Γ.prog = PL)
include hK
theorem x_match : exmOne Γ.K (.ref 53) (.ref 53) = some true := by rw [hK]; kernel_rfl
include hP
set_option maxHeartbeats 4000000 in
theorem s_refused {d place : Nat} {L : List (List (List Nat))} {R : List (List Nat)} {page words : List Nat} (hpage : page = (barred L ++ R).flatten) (ht : ∀ t ∈ barred L ++ R, IsTok t) (hL : ∀ U ∈ L, NoBar U) (hR : NoBar R) (hl : page.length ≤ 100000)
    (hw : words = if R = [] then missName itemW else missText [124]) (hp : place = (barred L).flatten.length) :
    ISpec Γ false 194 (d + 7) none [.str page, .int L.length, .int place, .str words] (fun v _ => v = .bool true) (fun _ => False) := by
  refine i_of_body (names := ["page", "count", "place", "words"]) (fd := fdL w 194) (oc := .type "function") (od := none) (osl := #[]) (by rw [hK]; kernel_rfl) (by rw [hK]; kernel_rfl) (hbody := by exact rfl) (by kernel_rfl) (by kernel_rfl) (by kernel_rfl) (by kernel_rfl) (by kernel_rfl) (by kernel_rfl) ?_ (by kernel_rfl) (by decide) (of_decide_eq_true (by kernel_rfl)) rfl ?_
  · intro ws h
    obtain ⟨a, b, c, d, rfl⟩ := len4 h rfl
    kernel_rfl
  · intro A L' _ _
    refine ex_cons ?_
    refine e1_try_as (Xb := fun x ρ' => (get "page" ρ' = some (.val (.str page)) ∧ get "place" ρ' = some (.val (.int place)) ∧ get "words" ρ' = some (.val (.str words))) ∧ x = .pat words (.str page) place) (n_pat hK) (x_match hK) ?_ (fun m p i ρ' hXb e dd ln cn => ?_)
    · refine ex_last ?_
      refine e1_expr ?_
      refine ev_icall (n_take hK) (kp hK 173 (by kernel_rfl)) ?_
      refine ev_name rfl ?_
      refine ev_name rfl ⟨d + 6, _, _, by show d + 6 + 1 ≤ d + 7; omega, s_take hK hP hpage ht hL hR (Nat.le_refl _) hl, fun v fs hv => ?_, fun x hx => ⟨⟨rfl, rfl, rfl⟩, ?_⟩⟩
      · obtain ⟨U, hU, _⟩ := hv
        rw [List.getElem?_eq_none (Nat.le_refl _)] at hU
        cases hU
      · rw [hx.2, List.take_length, hw, hp]
    · obtain ⟨⟨g1, g2, g3⟩, hx⟩ := hXb
      cases hx
      have gf := get_upd_self "fault" (.exc false e (some dd) (patFs words (.str page) place ln cn)) ρ'
      refine ex_last ?_
      refine e1_return ?_
      refine ev_and3 ?_
      refine ev_cmp (ev_xattr gf rfl (x_cls hK) (x_msg hK) (ev_name (get_upd_ne g3) ?_))
      refine ⟨_, rfl, fun z => absurd rfl (of_decide_eq_false z), fun _ => ?_⟩
      refine ev_cmp (ev_xattr gf rfl (x_cls hK) (x_pos hK) (ev_name (get_upd_ne g2) ?_))
      refine ⟨_, rfl, fun z => absurd rfl (of_decide_eq_false z), fun _ => ?_⟩
      refine ev_cmp (ev_xattr gf rfl (x_cls hK) (x_pattern hK) (ev_name (get_upd_ne g1) ?_))
      exact congrArg PV.bool (decide_eq_true rfl)
end
end Mine
set_option Elab.async false
set_option maxRecDepth 10000
set_option linter.unusedVariables false
namespace Mine
open PySem PySem.W PySem.Calls PySem.Spec PyProof.Rows

noncomputable def cutV : PV → PV
  | .int x => .int (x % 1000000)
  | _ => .none
noncomputable def cellsOf (is : List Int) : List PV := [.int 0, .int 7, .int 2, .int 12, .int 2, .int 1, .int 9] ++ ((is.take 7).map PV.int).map cutV
theorem cells_len (is : List Int) : (cellsOf is).length ≤ 14 := by
  unfold cellsOf
  rw [List.length_append, List.length_map, List.length_map, List.length_take]
  show 7 + _ ≤ _
  omega
theorem cells_get {is : List Int} {i : Nat} {v : PV} (h : (cellsOf is)[i]? = some v) : i < 14 ∧ ∃ n : Nat, v = .int n ∧ n ≤ 1000000 := by
  have hl := cells_len is
  refine ⟨Nat.lt_of_lt_of_le (List.getElem?_eq_some_iff.mp h).1 hl, ?_⟩
  rcases List.mem_append.mp (List.mem_of_getElem? h) with h | h
  · simp only [List.mem_cons, List.not_mem_nil, or_false] at h
    rcases h with rfl | rfl | rfl | rfl | rfl | rfl | rfl
    · exact ⟨0, rfl, by decide⟩
    · exact ⟨7, rfl, by decide⟩
    · exact ⟨2, rfl, by decide⟩
    · exact ⟨12, rfl, by decide⟩
    · exact ⟨2, rfl, by decide⟩
    · exact ⟨1, rfl, by decide⟩
    · exact ⟨9, rfl, by decide⟩
  · obtain ⟨u, hu, rfl⟩ := List.mem_map.mp h
    obtain ⟨x, _, rfl⟩ := List.mem_map.mp hu
    refine ⟨(x % 1000000).toNat, ?_, by omega⟩
    show PV.int _ = PV.int _
    congr 1
    omega

section
variable {w : World} {Γ : Gx} (hK : Γ.K = KL w) (hP : Γ.prog = PL)
include hK hP
set_option maxHeartbeats 8000000 in
theorem s_law {is : List Int} (hlen : is.length ≤ 63) : ISpec Γ false 199 40 none [.list (is.map .int)] (fun v _ => v = .bool true) (fun _ => False) := by
  refine i_of_body (names := ["script"]) (fd := fdL w 199) (oc := .type "function") (od := none) (osl := #[]) (by rw [hK]; kernel_rfl) (by rw [hK]; kernel_rfl) (hbody := by exact rfl) (by kernel_rfl) (by kernel_rfl) (by kernel_rfl) (by kernel_rfl) (by kernel_rfl) (by kernel_rfl) ?_ (by kernel_rfl) (by decide) (of_decide_eq_true (by kernel_rfl)) rfl ?_
  · intro ws h
    obtain ⟨a, rfl⟩ := len1 h rfl
    kernel_rfl
  · intro A L _ _
    have e0 : (Str.ofString "").cps.toList = [] := by decide +kernel
    refine ex_cons ?_
    refine e1_assign (ev_str ?_)
    rw [e0]
    refine ex_cons ?_
    refine e1_assign (ev_of_en (en_list ⟨by show 0 ≤ 1000000; decide, ?_⟩))
    refine ex_cons ?_
    refine e1_for ?_
    refine iter_val ?_
    refine ev_of_en ?_
    refine en_add ?_
    refine ev_of_en ?_
    refine en_list ?_
    iterate 7 refine ev_int ?_
    refine ⟨by show 7 ≤ 1000000; decide, _, rfl, ?_⟩
    refine ev_of_en ?_
    refine en_compN (cl := ?cl) ?hclos ?hcl ?hcell ?hkind ?hnames ?hx ?_
    case hclos => exact rfl
    case hcell => decide +kernel
    case hkind => rfl
    case hnames => decide +kernel
    case hx => rfl
    case hcl =>
      intro y c' h
      cases h
    refine iter_val ?_
    refine ev_of_en ?_
    refine en_slice ?_
    refine ev_name rfl ⟨_, rfl, by simp; omega, ?_⟩
    refine ev_int ⟨_, rfl, ?_⟩
    have hps : pslice (is.map PV.int) none (some 7) = (is.take 7).map PV.int := by
      rw [show (7 : Int) = ((7 : Nat) : Int) from rfl, pslice_take, List.map_take]
    refine ⟨_, congrArg (fun l => itemsOf (.list l)) hps, by rw [List.length_map, List.length_take]; omega, ?_⟩
    refine ⟨[], cutV, (fun p hp => nomatch hp), fun C item hm => ?_, ?_⟩
    · obtain ⟨x, _, rfl⟩ := List.mem_map.mp hm
      refine ev_bin ?_
      refine ev_name rfl ?_
      refine ev_bin ?_
      refine ev_int ?_
      refine ev_int ⟨by decide, ?_⟩
      exact ⟨by decide, rfl⟩
    have hcl := cells_len is
    refine ⟨_, rfl, by show 7 + _ ≤ _; rw [List.length_map, List.length_map, List.length_take]; omega, ?_⟩
    refine ⟨cellsOf is, rfl, by omega, ?_⟩
    refine for_inv (fun i ρ => ∃ pile, goodL pile ∧ nestL pile ≤ 2 ∧ (pageL 0 pile).length ≤ 50 * i ∧ get "page" ρ = some (.val (.str (pageL 0 pile))) ∧ get "pile" ρ = some (.val (.list pile))) ⟨[], by rw [goodL]; trivial, by rw [nestL]; omega, by rw [page0]; exact Nat.le_refl _, by rw [page0]; rfl, rfl⟩ (fun i v ρ hv hI => ?_) (fun ρ hI => ?_)
    · obtain ⟨pile, hg, hn, hl, gp, gl⟩ := hI
      obtain ⟨hi, n, rfl, hn6⟩ := cells_get hv
      have gc := get_upd_self "cell" (.val (.int n)) ρ
      have gp := get_upd_ne (x := "cell") (s := .val (.int n)) gp
      have gl := get_upd_ne (x := "cell") (s := .val (.int n)) gl
      generalize upd "cell" (.val (.int n)) ρ = ρ at gc gp gl ⊢
      refine ex_cons ?_
      refine e1_unpack (xs := ["page", "pile"]) ⟨⟨_, rfl⟩, ⟨_, rfl⟩, trivial⟩ ?_
      refine ev_icall (n_step hK) (kp hK 187 (by kernel_rfl)) ?_
      refine ev_name gp ?_
      refine ev_name gl ?_
      refine ev_name gc ⟨7, _, _, by show 7 + 1 ≤ 40; decide, s_step hK hP (d := 0) hg hn (by omega) hn6, fun v fs hv => ?_, fun y hy => hy.elim⟩
      obtain ⟨pile', rfl, hg', hn', hl'⟩ := hv
      refine ⟨_, rfl, rfl, ?_⟩
      have gp' := get_upd_ne (x := "pile") (s := .val (.list pile')) (get_upd_self "page" (.val (.str (pageL 0 pile'))) ρ)
      have gl' := get_upd_self "pile" (.val (.list pile')) (upd "page" (.val (.str (pageL 0 pile'))) ρ)
      refine ex_last ?_
      refine e1_if ?_
      refine et_cmp ?_
      refine ev_name gp' ?_
      refine ev_call (n_page hK) (kp hK 161 (by kernel_rfl)) ?_
      refine ev_name gl' ?_
      refine ev_int ⟨3, _, by show 3 + 1 ≤ 40; decide, s_page hK 2 (depth := 0) hn' hg' (by decide) (by omega), fun v hv => ?_⟩
      subst hv
      refine ⟨_, rfl, fun z => absurd rfl (of_decide_eq_true z), fun _ => ex_nil ?_⟩
      exact ⟨pile', hg', hn', by omega, gp', gl'⟩
    · obtain ⟨pile, hg, hn, hl, gp, gl⟩ := hI
      have hl : (pageL 0 pile).length ≤ 700 := by omega
      have hpl := pageL_len 0 pile
      -- an item behind the last one
      refine ex_cons ?_
      refine e1_stay True ?_ (fun _ => ?_)
      · refine e1_if ?_
        refine et_not (et_val ?_)
        refine ev_icall (n_refused hK) (kp hK 194 (by kernel_rfl)) ?_
        refine ev_name gp ?_
        refine ev_call1 (n_len hK) ?_
        refine ev_name gl ⟨by omega, ?_⟩
        refine ev_call1 (n_len hK) ?_
        refine ev_name gp ⟨by omega, ?_⟩
        refine ev_str ?_
        rw [missE]
        have sp := s_refused hK hP (d := 0) (L := itemsL pile) (R := []) (page := pageL 0 pile) (words := missName itemW) (place := (pageL 0 pile).length) (by rw [List.append_nil, barred_flat hg]) (by rw [List.append_nil]; exact barred_tok pile) (items_noBar pile) (fun _ h => nomatch h) (by omega) (by rw [if_pos rfl]) (by rw [barred_flat hg])
        have e : (itemsL pile).length = pile.length := by unfold itemsL; rw [List.length_map]
        rw [e] at sp
        refine ⟨7, _, _, by show 7 + 1 ≤ 40; decide, sp, fun v fs hv => ?_, fun y hy => hy.elim⟩
        subst hv
        exact ⟨true, rfl, nb, fun _ => ex_nil ⟨rfl, trivial⟩⟩
      -- nothing stands
      refine ex_cons ?_
      refine e1_stay (pile ≠ []) ?_ (fun hne => ?_)
      · refine e1_if ?_
        refine et_eq_nil ?_
        refine ev_name gl ?_
        refine ev_of_en ?_
        refine en_list ⟨by show 0 ≤ 1000000; decide, rfl, .inl ⟨pile, rfl, fun h3 => ?_, fun h3 => ex_nil ⟨rfl, of_decide_eq_false h3⟩⟩⟩
        refine ex_last ?_
        refine e1_return ?_
        exact ev_bool rfl
      -- the last item without its bar
      obtain ⟨l, v, rfl⟩ : ∃ l v, pile = l ++ [v] := ⟨_, _, (List.dropLast_concat_getLast hne).symm⟩
      obtain ⟨hgl, hgv, hpg⟩ := page_snoc hg
      have hll := congrArg List.length hpg
      rw [List.length_append, List.length_append, List.length_singleton] at hll
      have hlc : (l ++ [v]).length = l.length + 1 := by rw [List.length_append, List.length_singleton]
      obtain ⟨words, hwd⟩ : ∃ words, words = if tokE (pageV 0 v) = [] then missName itemW else missText [124] := ⟨_, rfl⟩
      refine ex_cons ?_
      refine e1_via (fun ρ' => get "page" ρ' = some (.val (.str (pageL 0 (l ++ [v])))) ∧ get "pile" ρ' = some (.val (.list (l ++ [v]))) ∧ get "words" ρ' = some (.val (.str words))) ?_ (fun ρ' hJ => ?_)
      · refine e1_assign ?_
        refine ev_ifexp ?_
        refine et_eq_nil ?_
        refine ev_sub (ev_name gl (ev_neg ⟨by omega, v, pidx_last l v, ?_⟩))
        refine ev_of_en ?_
        refine en_list ⟨by show 0 ≤ 1000000; decide, rfl, ?_⟩
        cases v with
        | list q =>
          refine .inl ⟨q, rfl, fun z => ?_, fun z => ?_⟩
          · cases of_decide_eq_true z
            rw [if_pos bare_none] at hwd
            refine ev_str ?_
            rw [missE, hwd]
            exact ⟨get_upd_ne gp, get_upd_ne gl, get_upd_self _ _ _⟩
          · rw [if_neg (bare_list (of_decide_eq_false z))] at hwd
            refine ev_str ?_
            rw [missT, hwd]
            exact ⟨get_upd_ne gp, get_upd_ne gl, get_upd_self _ _ _⟩
        | str t =>
          refine .inr ⟨t, rfl, nb, fun z => ?_⟩
          rw [if_neg (bare_str hgv)] at hwd
          refine ev_str ?_
          rw [missT, hwd]
          exact ⟨get_upd_ne gp, get_upd_ne gl, get_upd_self _ _ _⟩
        | _ => exact hgv.elim
      obtain ⟨gp, gl, gw⟩ := hJ
      refine ex_last ?_
      refine e1_return ?_
      refine ev_icall (n_refused hK) (kp hK 194 (by kernel_rfl)) ?_
      refine ev_tslice ?_
      refine ev_name gp ⟨_, rfl, by omega, ?_⟩
      refine ev_neg ⟨_, rfl, 0, (pageL 0 (l ++ [v])).length - 1, ⟨by omega, by omega, .inr ⟨rfl, rfl⟩, .inr (.inr ⟨rfl, by omega⟩)⟩, ?_⟩
      have ec : ((pageL 0 (l ++ [v])).drop 0).take ((pageL 0 (l ++ [v])).length - 1 - 0) = pageL 0 l ++ escW spec1 (pageV 0 v) := by
        rw [List.drop_zero, Nat.sub_zero, hll]
        have e : (pageL 0 l).length + (escW spec1 (pageV 0 v)).length + 1 - 1 = (pageL 0 l ++ escW spec1 (pageV 0 v)).length := by rw [List.length_append]; omega
        rw [e, hpg, List.take_left]
      rw [ec]
      refine ev_bin ?_
      refine ev_call1 (n_len hK) ?_
      refine ev_name gl ⟨by omega, ?_⟩
      refine ev_int ?_
      refine bin_sub ?_
      have en : (((l ++ [v]).length : Nat) : Int) - 1 = ((itemsL l).length : Nat) := by
        unfold itemsL
        rw [List.length_map]
        omega
      rw [en]
      refine ev_call1 (n_len hK) ?_
      refine ev_call (n_page hK) (kp hK 161 (by kernel_rfl)) ?_
      refine ev_of_en ?_
      refine en_slice ?_
      refine ev_name gl ⟨_, rfl, by omega, ?_⟩
      refine ev_neg ⟨_, rfl, ?_⟩
      have es : pslice (l ++ [v]) none (some (-1)) = l := pslice_init l v
      dsimp only
      rw [es]
      rw [nestL_app] at hn
      refine ev_int ⟨3, _, by show 3 + 1 ≤ 40; decide, s_page hK 2 (depth := 0) (pile := l) (by omega) hgl (by decide) (by omega), fun v' hv => ?_⟩
      subst hv
      refine ⟨by omega, ?_⟩
      refine ev_name gw ?_
      have sp := s_refused hK hP (d := 0) (L := itemsL l) (R := tokE (pageV 0 v)) (page := pageL 0 l ++ escW spec1 (pageV 0 v)) (words := words) (place := (pageL 0 l).length) (by rw [List.flatten_append, barred_flat hgl, tokE_flat])
        (fun t h => (List.mem_append.mp h).elim (barred_tok l t) (tokE_tok _ t)) (items_noBar l) (tokE_noBar _) (by rw [List.length_append]; omega) hwd (by rw [barred_flat hgl])
      exact ⟨7, _, _, by show 7 + 1 ≤ 40; decide, sp, fun v fs hv => hv, fun y hy => hy.elim⟩
end
end Mine
set_option Elab.async false
set_option maxRecDepth 100000
namespace Mine
open PySem PySem.W PyProof.Rows
noncomputable abbrev LeftP (w : World) : Prop := (openEnds treeTable Challenge.rw_ku0036_02.row.prog w 5084).map (fun s => (openSeen Mine.view Mine.loose (importedModules Challenge.rw_ku0036_02.row.prog.main.body) Mine.Xt true s, ((hd0.heap_39 w.params).map (·.1)).map s.heap.get?))
  = some (openGood Mine.view Mine.loose, (hd0.heap_39 w.params).map fun p => some p.2)

theorem left_a (w : World) : LeftP ((w.withFollow "special-get-raises" false).withFollow "comprehension-iter-twice" false) := by kernel_rfl
theorem left_b (w : World) : LeftP ((w.withFollow "special-get-raises" true).withFollow "comprehension-iter-twice" false) := by kernel_rfl
theorem left_c (w : World) : LeftP ((w.withFollow "special-get-raises" false).withFollow "comprehension-iter-twice" true) := by kernel_rfl
theorem left_d (w : World) : LeftP ((w.withFollow "special-get-raises" true).withFollow "comprehension-iter-twice" true) := by kernel_rfl
theorem left (w : World) : LeftP w :=
  byRow2 "comprehension-iter-twice" (P := LeftP) (fun w => byRow2 (P := fun w => LeftP (w.withFollow "comprehension-iter-twice" false)) "special-get-raises" left_a left_b w) (fun w => byRow2 (P := fun w => LeftP (w.withFollow "comprehension-iter-twice" true)) "special-get-raises" left_c left_d w) w
end Mine
set_option Elab.async false
set_option maxRecDepth 100000
set_option linter.unusedVariables false
namespace Mine
open PySem PySem.W PySem.Calls PySem.Spec PyProof.Rows

theorem reps_ints (φ : PH) : ∀ {vs : List Value} {is : List Int}, IntsAre vs is → Reps φ (is.map .int) vs
  | _, _, .nil => rfl
  | _, _, .cons i t r => ⟨_, _, rfl, ⟨t, rfl⟩, reps_ints φ r⟩

set_option maxHeartbeats 8000000 in
theorem entry (hlaw : ∀ (w : World) (Γ : Gx), Γ.K = KL w → Γ.prog = PL → ∀ is : List Int, is.length ≤ 63 → ISpec Γ false 199 40 none [.list (is.map .int)] (fun v _ => v = .bool true) (fun _ => False)) : PySem.Challenge.rw_ku0036_02.Holds := by
  refine hd0 ⟨fun w => left w, ?_⟩
  k_fill
  intro w s₀ s₁ mg mb G Y fa o pm cd doc dV kV ho hd hcd hD hmg hg args vals as hpre hlay hrd hwl hlo
  have KX := kIn_of Y
  refine Ground.open G ?_
  intro T B D TE TW
  wrow_args hpre hlay hrd hwl hlo
  rename_i is _ _ _ _ _ _ _ a vs _ hL _ w1 _ hI _ hlen _
  refine enter_call ?_
  refine codeAny_mono ?_ (fun _ _ g => GoodW.toG g)
  have hobj : ∃ n, s₁.heap.get? a = some (lobj vs n) := by
    have hq : ∀ {v d}, Well w.params s₁.heap v d → v = .ref a → ∀ xs, d = .list xs → ∃ us n, s₁.heap.get? a = some (lobj us n) := fun {v d} hw e xs ed => by
      cases hw <;> cases ed
      rename_i us hg' _
      cases e
      exact ⟨us, 0, hg'⟩
    obtain ⟨us, n, e⟩ := hq w1 rfl _ rfl
    obtain ⟨o', e1, e2, m, e3⟩ := hL
    rw [e] at e1
    cases e1
    have : us = vs := by simpa [lobj] using congrArg (fun d : Data => match d with | .seq q _ => q.toList | _ => []) e3
    exact ⟨n, this ▸ e⟩
  obtain ⟨n, hobj⟩ := hobj
  let Γ : Gx := ⟨Challenge.rw_ku0036_02.row.prog, w, _, _, _, mg, mb, KL w, s₁.heap, KX, T⟩
  have hfa : fa = 199 := by
    have h1 : nsIn (KL w) mainGlobals (Str.ofString "law") = some (some (.ref 199)) := by kernel_rfl
    have h2 := mg_of KX T.g h1
    have h3 : mg (Str.ofString "law") = some (.ref fa) := hmg
    rw [h2] at h3
    cases h3
    rfl
  subst hfa
  have hspec := hlaw w Γ rfl rfl is (by omega)
  refine codeAny_mono (hspec callerA (fun b => if b = a then some (lobj vs n) else none) s₁ (fun v s' => GoodW Challenge.rw_ku0036_02.row.claim (classAt s₀.heap) (ExcName.means s₀.heap) [ofPy (PyData.list (List.map PyData.int is))] s₁ (.ok (.ret v)) s') (fun _ _ => False) [.ref a] [] 0 0 (fun _ => rfl) (by decide) (by decide) rfl trivial (fun _ _ e => e) (fun b o' e => ?_) (fun _ h => nomatch h) ⟨_, [], rfl, ⟨a, vs, n, rfl, if_pos rfl, reps_ints _ hI⟩, rfl⟩ trivial ⟨fun q => by cases q⟩ (fun v val φ' h' tk fs hv hr _ K => ?_) (fun x e d T φ' h' tk hx => hx.elim)) (fun r s' hr => ?_)
  · split at e
    · rename_i q; cases e; rw [q]; exact hobj
    · cases e
  · subst hv
    rw [show val = _ from hr]
    refine ⟨.inl ⟨_, .bool true, [], rfl, (fun _ => rfl), ?_, ?_, ?_⟩, fun b o' e => K.keep b o' (fun h => nomatch h) (fun h => nomatch h) e, rfl, hg⟩
    · exact .bool true
    · first | kernel_rfl | (unfold PySem.W.OpenLaw.row; simp [RowW.claim]; done)
    · exact fun _ => ⟨List.nodup_nil, fun _ h => nomatch h⟩
  · cases r with
    | error e => exact hr.elim
    | ok fl =>
      cases fl with
      | ret v => exact hr
      | _ => exact hr.elim
end Mine
open PySem PySem.W PyProof.Rows
theorem PySem.Challenge.cw_ku0036_02_holds : PySem.Challenge.rw_ku0036_02.Holds :=
  Mine.entry fun w Γ hK hP is h => Mine.s_law hK hP h
