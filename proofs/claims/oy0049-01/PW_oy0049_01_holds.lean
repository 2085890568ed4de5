import PyProof.Rows.All
import Wide.All
import OpenK.AllK
import Wide.FinOn
import PySem.Challenge.RW_oy0049_01
set_option Elab.async false
set_option maxRecDepth 100000
set_option linter.unusedVariables false
-- HeadM
section
open PySem PySem.W PyProof.Rows PySem.W.X PySem.W.ZRun
set_option maxHeartbeats 8000000
namespace Mine
local macro_rules
  | `(tactic| k_head) => `(tactic| z_head)
open_top hd for PySem.Challenge.rw_oy0049_01
end Mine
end
-- Cs1
section
open PySem PySem.Spec PySem.Calls PyProof.Rows PySem.W PySem.W.X
namespace Mine
/-! a certificate-led symbolic run of the model's trees, and its soundness -/
noncomputable abbrev prg : Program := PySem.Challenge.pw_oy0049_01
noncomputable abbrev den : Code → Sem PySem.Fin := PySem.W.ZFast.zw11892475500146522536 PySem.W.ZFast.tableZ
theorem den_eq : den = denote table := by
  show PySem.W.ZFast.zw11892475500146522536 PySem.W.ZFast.tableZ = denote table
  rw [← PySem.W.ZFast.ze11892475500146522536, ← PySem.W.ZFast.tableZ_eq]
noncomputable abbrev Ent := Addr × Obj
noncomputable abbrev CFn := List Nat → Result × List Ent
structure Fm where
  c : Code
  hd : Option Value
  dep : Nat
  m : Option Value
  k : Result → Sem PySem.Fin
inductive Res where
  | fin (f : PySem.Fin)
  | exc (e : Value)
structure Out where
  res : Res
  H : List Ent
  j : Nat
  ok : Prop
structure CE where
  nm : Option String
  mask : List Bool
  n : Nat
  f : CFn
  j : Nat
  /-- what the contract is told of the entries taken: put ahead of, or among, its supply -/
  h : List Ent → List Nat → List Nat
noncomputable def noH : List Ent → List Nat → List Nat := fun _ us => us
noncomputable def addrH : List Ent → List Nat → List Nat
  | [], us => us
  | p :: l, us => p.1 :: addrH l us
noncomputable def CE.g (e : CE) (tk : List Ent) : CFn := fun us => e.f (e.h tk us)
noncomputable def getI {α : Type} : List α → Nat → Option α
  | [], _ => none
  | x :: l, n => match n with
    | 0 => some x
    | n + 1 => getI l n
noncomputable def setI {α : Type} : List α → Nat → α → List α
  | [], _, _ => []
  | x :: l, n, y => match n with
    | 0 => y :: l
    | n + 1 => x :: setI l n y
noncomputable def snoc {α : Type} : List α → α → List α
  | [], y => [y]
  | x :: l, y => x :: snoc l y
noncomputable def app {α : Type} : List α → List α → List α
  | [], m => m
  | x :: l, m => x :: app l m
noncomputable def lookK : Frag → Nat → Option Obj
  | [], _ => none
  | p :: l, a => match Nat.beq p.1 a with
    | true => some p.2
    | false => lookK l a
noncomputable def splitM : List Bool → List Ent → List Ent × List Ent
  | _, [] => ([], [])
  | [], p :: H => ([], p :: H)
  | b :: m, p :: H => match b with
    | true => (p :: (splitM m H).1, (splitM m H).2)
    | false => ((splitM m H).1, p :: (splitM m H).2)
noncomputable def takeN : Nat → List Nat → Option (List Nat × List Nat)
  | 0, l => some ([], l)
  | _ + 1, [] => none
  | n + 1, u :: l => match takeN n l with
    | some r => some (u :: r.1, r.2)
    | none => none
noncomputable def notBy : Option Value → Bool
  | none => true
  | some v => match v with
    | .notImplemented => false
    | _ => true
noncomputable def isAst : Code → Bool
  | .builtin _ _ => false
  | _ => true
noncomputable def codeFor (nm : Option String) (c : Code) : Option Code := match nm with
  | none => some c
  | some x => match c with
    | .call f a => match f with
      | .builtin id => match PySem.W.S.strDecS id x with
        | .isTrue _ => some (.call (.builtin x) a)
        | .isFalse _ => none
      | _ => none
    | _ => none
noncomputable def run (P : Params) (K : Frag) (S : Code → List Ent → Nat → Nat → CFn → Nat → Prop) :
    Nat → Code → Option Value → Nat → List Fm → Sem PySem.Fin → List Ent → Nat → List Nat → Nat → List CE → Prop → Option Out
  | 0, _, _, _, _, _, _, _, _, _, _, _ => none
  | n + 1, c, hd, dep, κ, t, H, j, us, ct, ces, ok => match t with
    | .pure fin => match κ with
      | [] => some ⟨.fin fin, H, j, ok⟩
      | q :: κ => match fin with
        | .done f => run P K S n q.c q.hd q.dep κ (q.k (.ok f)) H j us ct ces ok
        | .again c' => match PySem.W.ZFast.zw17772548960776305114 c' with
          | false => none
          | true => run P K S n c' hd dep (q :: κ) (den c') H j us ct ces ok
    | .raise e => match κ with
      | [] => some ⟨.exc e, H, j, ok⟩
      | q :: κ => run P K S n q.c q.hd q.dep κ (q.k (.error e)) H j us ct ces ok
    | .rule _ k => run P K S n c hd dep κ (k ()) H j us ct ces ok
    | .at _ k => run P K S n c hd dep κ (k ()) H j us ct ces ok
    | .point _ k => run P K S n c hd dep κ (k ()) H j us ct ces ok
    | .ask k => run P K S n c hd dep κ (k ⟨prg, P⟩) H j us ct ces ok
    | .load a _ k => match ct % 64 with
      | 0 => match lookK K a with
        | some o => run P K S n c hd dep κ (k o) H j us (ct / 64) ces ok
        | none => none
      | i + 1 => match getI H i with
        | some p => run P K S n c hd dep κ (k p.2) H j us (ct / 64) ces (a = p.1 ∧ ok)
        | none => none
    | .update a _ f k => match ct % 64 with
      | 0 => none
      | i + 1 => match getI H i with
        | some p => match (f p.2).isFreed with
          | true => none
          | false => run P K S n c hd dep κ (k ()) (setI H i (p.1, f p.2)) j us (ct / 64) ces (a = p.1 ∧ ok)
        | none => none
    | .alloc o k => match us with
      | [] => none
      | a :: us => match o.isFreed with
        | true => none
        | false => run P K S n c hd dep κ (k a) (snoc H (a, o)) j us ct ces ok
    | .fresh k => match us with
      | [] => none
      | u :: us => run P K S n c hd dep κ (k u) H j us ct ces ok
    | .handled own k => match own with
      | true => none
      | false => run P K S n c hd dep κ (k hd) H j us ct ces ok
    | .call c' m _ _ k => match ct % 64 with
      | 0 => match notBy m with
        | false => none
        | true => run P K S n c' (match m with | none => hd | some e => some e) (dep + (match isAst c with | true => 1 | false => 100)) (⟨c, hd, dep, m, k⟩ :: κ) (den c') H j us (ct / 64) ces ok
      | _ + 1 => match m with
        | some _ => none
        | none => match hd with
          | some _ => none
          | none => match isAst c with
            | false => none
            | true => match Nat.ble dep 12 with
              | false => none
              | true => match ces with
                | [] => none
                | e :: ces => match codeFor e.nm c' with
                  | none => none
                  | some c₁ => match takeN e.n us with
                    | none => none
                    | some r => run P K S n c none dep κ (k (e.g (splitM e.mask H).1 r.1).1) (app (splitM e.mask H).2 (e.g (splitM e.mask H).1 r.1).2) e.j r.2 (ct / 64) ces (S c₁ (splitM e.mask H).1 j e.n (e.g (splitM e.mask H).1) e.j ∧ ok)
    | _ => none
end Mine
end
-- Cs2
section
open PySem PySem.Spec PySem.Calls PyProof.Rows PySem.W PySem.W.X
namespace Mine
noncomputable abbrev Mo (w : World) : Model := model prg w
noncomputable abbrev callP (c : Code) : Sem Result := .call c none false [] .pure
noncomputable def AOk (d : Nat) (A : Around) : Prop := A.handled = none ∧ A.depth ≤ d ∧ A.units ≤ 3 * d
structure Own (B : Addr → Option Obj) (s : Shared) (H : List Ent) : Prop where
  keep : ∀ a o, B a = some o → s.heap.get? a = some o
  own : ∀ p ∈ H, s.heap.get? p.1 = some p.2 ∧ B p.1 = none
  nd : (H.map (·.1)).Nodup
structure Rel (J : Nat → Array GenState → Prop) (B : Addr → Option Obj) (os : OsState) (dr : Drawn) (H : List Ent) (j : Nat) (s : Shared) : Prop where
  own : Own B s H
  os : s.os = os
  dr : s.drawn = dr
  gh : J j s.gens
noncomputable def KIn (K : Frag) (B : Addr → Option Obj) : Prop := ∀ a o, lookK K a = some o → B a = some o
noncomputable def Spec (w : World) (K : Frag) (d : Nat) (J : Nat → Array GenState → Prop) (c : Code) (Hi : List Ent) (j n : Nat) (f : CFn) (j' : Nat) : Prop :=
  ∀ (A : Around) (B : Addr → Option Obj) (os : OsState) (dr : Drawn) (s : Shared) (Q : Result → Shared → Prop), AOk d A → KIn K B → Rel J B os dr Hi j s →
    (∀ us s', us.length = n → Rel J B os dr (f us).2 j' s' → Q (f us).1 s') → wpAny (Mo w) A (callP c) Q (fun _ _ => False) s

/-! lists -/
theorem getI_mem {α : Type} : ∀ {l : List α} {i : Nat} {x : α}, getI l i = some x → x ∈ l
  | [], _, _, h => by cases h
  | y :: l, 0, x, h => by cases h; exact .head _
  | y :: l, i + 1, x, h => .tail _ (getI_mem (l := l) (i := i) h)
theorem snoc_eq {α : Type} : ∀ (l : List α) (y : α), snoc l y = l ++ [y]
  | [], _ => rfl
  | x :: l, y => by show x :: snoc l y = _; rw [snoc_eq]; rfl
theorem app_eq {α : Type} : ∀ (l m : List α), app l m = l ++ m
  | [], _ => rfl
  | x :: l, m => by show x :: app l m = _; rw [app_eq]; rfl
theorem setI_keys : ∀ {H : List Ent} {i : Nat} {p : Ent} (o : Obj), getI H i = some p → (setI H i (p.1, o)).map (·.1) = H.map (·.1)
  | [], _, _, _, h => by cases h
  | y :: l, 0, p, o, h => by cases h; rfl
  | y :: l, i + 1, p, o, h => by
    show y.1 :: (setI l i (p.1, o)).map (·.1) = _
    rw [setI_keys (H := l) o h]; rfl
theorem mem_setI : ∀ {H : List Ent} {i : Nat} {p q : Ent} {o : Obj}, getI H i = some p → (H.map (·.1)).Nodup → q ∈ setI H i (p.1, o) → q = (p.1, o) ∨ (q ∈ H ∧ q.1 ≠ p.1)
  | [], _, _, _, _, h, _, _ => by cases h
  | y :: l, 0, p, q, o, h, nd, hq => by
    cases h
    rcases List.mem_cons.mp hq with e | hq
    · exact .inl e
    · refine .inr ⟨.tail _ hq, fun e => ?_⟩
      have := (List.nodup_cons.mp nd).1
      exact this (List.mem_map.mpr ⟨q, hq, e⟩)
  | y :: l, i + 1, p, q, o, h, nd, hq => by
    have hp : p ∈ l := getI_mem (l := l) (i := i) h
    rcases List.mem_cons.mp hq with e | hq
    · subst e
      refine .inr ⟨.head _, fun e => ?_⟩
      exact (List.nodup_cons.mp nd).1 (List.mem_map.mpr ⟨p, hp, e.symm⟩)
    · rcases mem_setI (H := l) h (List.nodup_cons.mp nd).2 hq with e | ⟨hm, hn⟩
      · exact .inl e
      · exact .inr ⟨.tail _ hm, hn⟩
theorem splitM_mem : ∀ (m : List Bool) (H : List Ent) (p : Ent), p ∈ H ↔ p ∈ (splitM m H).1 ∨ p ∈ (splitM m H).2
  | m, [], p => by cases m <;> simp [splitM]
  | [], q :: H, p => by simp [splitM]
  | true :: m, q :: H, p => by
    show p ∈ q :: H ↔ p ∈ q :: (splitM m H).1 ∨ p ∈ (splitM m H).2
    have := splitM_mem m H p
    simp only [List.mem_cons, this]; exact ⟨fun h => by rcases h with h | h | h <;> simp [h], fun h => by rcases h with (h | h) | h <;> simp [h]⟩
  | false :: m, q :: H, p => by
    show p ∈ q :: H ↔ p ∈ (splitM m H).1 ∨ p ∈ q :: (splitM m H).2
    have := splitM_mem m H p
    simp only [List.mem_cons, this]; exact ⟨fun h => by rcases h with h | h | h <;> simp [h], fun h => by rcases h with h | h | h <;> simp [h]⟩
theorem splitM_nodup : ∀ (m : List Bool) (H : List Ent), (H.map (·.1)).Nodup → ((splitM m H).1.map (·.1)).Nodup ∧ ((splitM m H).2.map (·.1)).Nodup ∧ ∀ p ∈ (splitM m H).1, ∀ q ∈ (splitM m H).2, p.1 ≠ q.1
  | m, [], _ => by cases m <;> simp [splitM]
  | [], q :: H, h => by refine ⟨by simp [splitM], h, fun p hp => by simp [splitM] at hp⟩
  | true :: m, x :: H, h => by
    obtain ⟨h1, h2⟩ := List.nodup_cons.mp h
    obtain ⟨a, b, c⟩ := splitM_nodup m H h2
    refine ⟨?_, b, ?_⟩
    · show ((x :: (splitM m H).1).map (·.1)).Nodup
      rw [List.map_cons]
      refine List.nodup_cons.mpr ⟨fun hm => h1 ?_, a⟩
      obtain ⟨y, hy, e⟩ := List.mem_map.mp hm
      exact List.mem_map.mpr ⟨y, (splitM_mem m H y).mpr (.inl hy), e⟩
    · intro p hp q hq
      rcases List.mem_cons.mp hp with rfl | hp
      · exact fun e => h1 (List.mem_map.mpr ⟨q, (splitM_mem m H q).mpr (.inr hq), e.symm⟩)
      · exact c p hp q hq
  | false :: m, x :: H, h => by
    obtain ⟨h1, h2⟩ := List.nodup_cons.mp h
    obtain ⟨a, b, c⟩ := splitM_nodup m H h2
    refine ⟨a, ?_, ?_⟩
    · show ((x :: (splitM m H).2).map (·.1)).Nodup
      rw [List.map_cons]
      refine List.nodup_cons.mpr ⟨fun hm => h1 ?_, b⟩
      obtain ⟨y, hy, e⟩ := List.mem_map.mp hm
      exact List.mem_map.mpr ⟨y, (splitM_mem m H y).mpr (.inr hy), e⟩
    · intro p hp q hq
      rcases List.mem_cons.mp hq with rfl | hq
      · exact fun e => h1 (List.mem_map.mpr ⟨p, (splitM_mem m H p).mpr (.inl hp), e⟩)
      · exact c p hp q hq
theorem takeN_len : ∀ {n : Nat} {us : List Nat} {r : List Nat × List Nat}, takeN n us = some r → us = r.1 ++ r.2 ∧ r.1.length = n
  | 0, us, r, h => by cases h; exact ⟨rfl, rfl⟩
  | n + 1, [], r, h => by cases h
  | n + 1, u :: us, r, h => by
    unfold takeN at h
    split at h
    · rename_i r' e
      cases h
      obtain ⟨h1, h2⟩ := takeN_len e
      exact ⟨by rw [h1]; rfl, by simp [h2]⟩
    · cases h
theorem takeN_app : ∀ (v us : List Nat), takeN v.length (v ++ us) = some (v, us)
  | [], us => rfl
  | u :: v, us => by
    show (match takeN v.length (v ++ us) with | some r => some (u :: r.1, r.2) | none => none) = _
    rw [takeN_app v us]

/-! heaps -/
section
variable {J : Nat → Array GenState → Prop} {B : Addr → Option Obj} {os : OsState} {dr : Drawn} {H : List Ent} {j : Nat} {s : Shared}
theorem Rel.top {K : Frag} (R : Rel J B os dr H j s) (hK : KIn K B) {a : Nat} {o : Obj} (e : lookK K a = some o) : s.heap.get? a = some o := R.own.keep a o (hK a o e)
theorem Rel.at (R : Rel J B os dr H j s) {i : Nat} {p : Ent} (e : getI H i = some p) : s.heap.get? p.1 = some p.2 := (R.own.own p (getI_mem e)).1
theorem Rel.alloc (R : Rel J B os dr H j s) {o : Obj} (hf : o.isFreed = false) : Rel J B os dr (snoc H (s.heap.objs.size, o)) j { s with heap := s.heap.push o } := by
  rw [snoc_eq]
  refine ⟨⟨fun a o' e => Heap.get?_push_of_some _ (R.own.keep a o' e), fun p hp => ?_, ?_⟩, R.os, R.dr, R.gh⟩
  · rcases List.mem_append.mp hp with hp | hp
    · exact ⟨Heap.get?_push_of_some _ (R.own.own p hp).1, (R.own.own p hp).2⟩
    · cases List.mem_singleton.mp hp
      refine ⟨Heap.get?_push_size _ hf, ?_⟩
      cases q : B s.heap.objs.size with
      | none => rfl
      | some o' => exact absurd (Heap.lt_size (R.own.keep _ _ q)) (Nat.lt_irrefl _)
  · rw [List.map_append, List.map_cons, List.map_nil]
    refine List.nodup_append.mpr ⟨R.own.nd, List.nodup_cons.mpr ⟨(fun h => by cases h), List.nodup_nil⟩, fun a ha b hb => ?_⟩
    obtain ⟨p, hp, rfl⟩ := List.mem_map.mp ha
    cases List.mem_singleton.mp hb
    exact Nat.ne_of_lt (Heap.lt_size (R.own.own p hp).1)
theorem Rel.update (R : Rel J B os dr H j s) {i : Nat} {p : Ent} {f : Obj → Obj} (e : getI H i = some p) (hf : (f p.2).isFreed = false) : Rel J B os dr (setI H i (p.1, f p.2)) j { s with heap := s.heap.update p.1 f } := by
  have hp := R.own.own p (getI_mem e)
  refine ⟨⟨fun a o' q => ?_, fun q hq => ?_, ?_⟩, R.os, R.dr, R.gh⟩
  · have : a ≠ p.1 := fun z => by rw [z, hp.2] at q; cases q
    exact (Heap.get?_update_ne _ _ _ _ this).trans (R.own.keep a o' q)
  · rcases mem_setI e R.own.nd hq with rfl | ⟨hm, hn⟩
    · exact ⟨Heap.get?_update_self f hp.1 hf, hp.2⟩
    · exact ⟨(Heap.get?_update_ne _ _ _ _ hn).trans (R.own.own q hm).1, (R.own.own q hm).2⟩
  · rw [setI_keys _ e]; exact R.own.nd
theorem Rel.toks (R : Rel J B os dr H j s) (t : Nat) : Rel J B os dr H j { s with toks := t } := ⟨⟨R.own.keep, R.own.own, R.own.nd⟩, R.os, R.dr, R.gh⟩
/-- the part handed to a contract -/
noncomputable def hideB (Hp : List Ent) (h : Heap) : Addr → Option Obj := fun a => if a ∈ Hp.map (·.1) then none else h.get? a
theorem Rel.part (R : Rel J B os dr H j s) (m : List Bool) : Rel J (hideB (splitM m H).1 s.heap) os dr (splitM m H).1 j s := by
  refine ⟨⟨fun a o e => ?_, fun p hp => ⟨(R.own.own p ((splitM_mem m H p).mpr (.inl hp))).1, ?_⟩, (splitM_nodup m H R.own.nd).1⟩, R.os, R.dr, R.gh⟩
  · unfold hideB at e; split at e
    · cases e
    · exact e
  · exact if_pos (List.mem_map_of_mem hp)
theorem KIn.part {K : Frag} (hK : KIn K B) (R : Rel J B os dr H j s) (m : List Bool) : KIn K (hideB (splitM m H).1 s.heap) := fun a o e => by
  unfold hideB
  rw [if_neg, R.own.keep a o (hK a o e)]
  intro hm
  obtain ⟨p, hp, rfl⟩ := List.mem_map.mp hm
  have := (R.own.own p ((splitM_mem m H p).mpr (.inl hp))).2
  rw [hK _ o e] at this; cases this
theorem Rel.back {s' : Shared} {j' : Nat} {Hn : List Ent} (R : Rel J B os dr H j s) (m : List Bool) (R' : Rel J (hideB (splitM m H).1 s.heap) os dr Hn j' s') : Rel J B os dr (app (splitM m H).2 Hn) j' s' := by
  rw [app_eq]
  have nd := splitM_nodup m H R.own.nd
  have k2 : ∀ p ∈ (splitM m H).2, hideB (splitM m H).1 s.heap p.1 = some p.2 := fun p hp => by
    unfold hideB
    rw [if_neg]
    · exact (R.own.own p ((splitM_mem m H p).mpr (.inr hp))).1
    · intro hm
      obtain ⟨q, hq, e⟩ := List.mem_map.mp hm
      exact nd.2.2 q hq p hp e
  have kB : ∀ a o, B a = some o → hideB (splitM m H).1 s.heap a = some o := fun a o e => by
    unfold hideB
    rw [if_neg, R.own.keep a o e]
    intro hm
    obtain ⟨p, hp, rfl⟩ := List.mem_map.mp hm
    have := (R.own.own p ((splitM_mem m H p).mpr (.inl hp))).2
    rw [e] at this; cases this
  refine ⟨⟨fun a o e => R'.own.keep a o (kB a o e), fun p hp => ?_, ?_⟩, R'.os, R'.dr, R'.gh⟩
  · rcases List.mem_append.mp hp with hp | hp
    · exact ⟨R'.own.keep _ _ (k2 p hp), (R.own.own p ((splitM_mem m H p).mpr (.inr hp))).2⟩
    · refine ⟨(R'.own.own p hp).1, ?_⟩
      cases q : B p.1 with
      | none => rfl
      | some o => have := (R'.own.own p hp).2; rw [kB _ _ q] at this; cases this
  · rw [List.map_append]
    refine List.nodup_append.mpr ⟨nd.2.1, R'.own.nd, fun a ha b hb e => ?_⟩
    obtain ⟨p, hp, rfl⟩ := List.mem_map.mp ha
    obtain ⟨q, hq, rfl⟩ := List.mem_map.mp hb
    have h1 := k2 p hp
    have h2 := (R'.own.own q hq).2
    rw [← e, h1] at h2; cases h2
end
end Mine
end
-- Cs3
section
open PySem PySem.Spec PySem.Calls PyProof.Rows PySem.W PySem.W.X
namespace Mine
/-! soundness of the run -/
/-- what stands around the code at hand, inside of it; the base's own code is within A₀ -/
noncomputable def ins (A₀ : Around) : List Fm → Code → Around
  | [], _ => A₀
  | q :: κ, c => (((ins A₀ κ q.c).mark q.m).under c)
/-- the ends of the code at hand -/
noncomputable def ends (w : World) (A₀ : Around) (Q₀ : PySem.Fin → Shared → Prop) (E₀ : Value → Shared → Prop) : List Fm → (PySem.Fin → Shared → Prop) × (Value → Shared → Prop)
  | [] => (Q₀, E₀)
  | q :: κ => (postC prg w ((ins A₀ κ q.c).mark q.m) (fun r s' => wpAny (Mo w) (ins A₀ κ q.c) (q.k r) (ends w A₀ Q₀ E₀ κ).1 (ends w A₀ Q₀ E₀ κ).2 s'),
      fun e s' => wpAny (Mo w) (ins A₀ κ q.c) (q.k (.error e)) (ends w A₀ Q₀ E₀ κ).1 (ends w A₀ Q₀ E₀ κ).2 s')
noncomputable def Means (w : World) (A₀ : Around) (Q₀ : PySem.Fin → Shared → Prop) (E₀ : Value → Shared → Prop) (c : Code) (κ : List Fm) (t : Sem PySem.Fin) (s : Shared) : Prop :=
  wpAny (Mo w) (ins A₀ κ c) t (ends w A₀ Q₀ E₀ κ).1 (ends w A₀ Q₀ E₀ κ).2 s
noncomputable def depOf (c : Code) : Nat := match isAst c with | true => 1 | false => 100
noncomputable def KOk (A₀ : Around) : List Fm → Option Value → Nat → Prop
  | [], hd, dep => A₀.handled = hd ∧ dep = 0
  | q :: κ, hd, dep => hd = q.m.or q.hd ∧ dep = q.dep + depOf q.c ∧ KOk A₀ κ q.hd q.dep
theorem ite_le (b : Bool) : (if b = true then 1 else 0) ≤ 1 := by cases b <;> decide
theorem ast_weight {c : Code} (h : isAst c = true) : c.weight ≤ 1 ∧ c.cUnits ≤ 3 := by
  cases c <;> first
    | (cases h; done)
    | exact ⟨Nat.le_of_ble_eq_true rfl, Nat.le_of_ble_eq_true rfl⟩
    | exact ⟨ite_le _, Nat.mul_le_mul_left 3 (ite_le _)⟩
    | (rename_i e _ _ _ _; cases e <;> exact ⟨Nat.le_of_ble_eq_true rfl, Nat.le_of_ble_eq_true rfl⟩)
theorem KOk.ctx {A₀ : Around} : ∀ {κ : List Fm} {hd : Option Value} {dep : Nat} (c : Code), KOk A₀ κ hd dep →
    (ins A₀ κ c).handled = hd ∧ (dep < 100 → isAst c = true → (ins A₀ κ c).depth ≤ A₀.depth + dep + 1 ∧ (ins A₀ κ c).units ≤ A₀.units + 3 * dep + 3)
  | [], _, _, c, h => ⟨h.1, fun _ _ => by rw [h.2]; exact ⟨Nat.le_add_right _ 1, Nat.le_add_right _ 3⟩⟩
  | q :: κ, hd, dep, c, h => by
    obtain ⟨h1, h2, h3⟩ := h
    obtain ⟨i1, i2⟩ := KOk.ctx q.c h3
    refine ⟨?_, fun hlt hc => ?_⟩
    · show q.m.or (ins A₀ κ q.c).handled = hd
      rw [h1, i1]
    · cases q1 : isAst q.c with
      | false => unfold depOf at h2; rw [q1] at h2; simp only at h2; omega
      | true =>
        unfold depOf at h2; rw [q1] at h2; simp only at h2
        obtain ⟨a1, a2⟩ := ast_weight hc
        obtain ⟨b1, b2⟩ := i2 (by omega) q1
        refine ⟨?_, ?_⟩
        · show (ins A₀ κ q.c).depth + c.weight ≤ _; omega
        · show (ins A₀ κ q.c).units + c.cUnits ≤ _; omega
theorem codeFor_eq {nm : Option String} {c c₁ : Code} (h : codeFor nm c = some c₁) : c₁ = c := by
  unfold codeFor at h
  split at h
  · cases h; rfl
  · split at h
    · split at h
      · split at h
        · rename_i e _
          cases h; subst e; rfl
        · cases h
      · cases h
    · cases h
theorem notBy_ne {m : Option Value} (h : notBy m = true) : m ≠ some byPass := by
  intro e; subst e; cases h
theorem run_again {P : Params} {K : Frag} {S : Code → List Ent → Nat → Nat → CFn → Nat → Prop} {n : Nat} {c : Code} {hd : Option Value} {dep : Nat} {κ : List Fm} {H : List Ent} {j : Nat} {us : List Nat} {ct : Nat} {ces : List CE} {ok : Prop} (q : Fm) (c' : Code) : run P K S (n + 1) c hd dep (q :: κ) (.pure (.again c')) H j us ct ces ok =
    (match PySem.W.ZFast.zw17772548960776305114 c' with
      | false => none
      | true => run P K S n c' hd dep (q :: κ) (den c') H j us ct ces ok) := rfl
theorem run_load {P : Params} {K : Frag} {S : Code → List Ent → Nat → Nat → CFn → Nat → Prop} {n : Nat} {c : Code} {hd : Option Value} {dep : Nat} {κ : List Fm} {H : List Ent} {j : Nat} {us : List Nat} {ct : Nat} {ces : List CE} {ok : Prop} (a : Addr) (q : Option Value) (k : Obj → Sem PySem.Fin) : run P K S (n + 1) c hd dep κ (.load a q k) H j us ct ces ok =
    (match ct % 64 with
      | 0 => match lookK K a with
        | some o => run P K S n c hd dep κ (k o) H j us (ct / 64) ces ok
        | none => none
      | i + 1 => match getI H i with
        | some p => run P K S n c hd dep κ (k p.2) H j us (ct / 64) ces (a = p.1 ∧ ok)
        | none => none) := rfl
theorem run_update {P : Params} {K : Frag} {S : Code → List Ent → Nat → Nat → CFn → Nat → Prop} {n : Nat} {c : Code} {hd : Option Value} {dep : Nat} {κ : List Fm} {H : List Ent} {j : Nat} {us : List Nat} {ct : Nat} {ces : List CE} {ok : Prop} (a : Addr) (q : Option Value) (f : Obj → Obj) (k : Unit → Sem PySem.Fin) : run P K S (n + 1) c hd dep κ (.update a q f k) H j us ct ces ok =
    (match ct % 64 with
      | 0 => none
      | i + 1 => match getI H i with
        | some p => match (f p.2).isFreed with
          | true => none
          | false => run P K S n c hd dep κ (k ()) (setI H i (p.1, f p.2)) j us (ct / 64) ces (a = p.1 ∧ ok)
        | none => none) := rfl
theorem run_alloc {P : Params} {K : Frag} {S : Code → List Ent → Nat → Nat → CFn → Nat → Prop} {n : Nat} {c : Code} {hd : Option Value} {dep : Nat} {κ : List Fm} {H : List Ent} {j : Nat} {us : List Nat} {ct : Nat} {ces : List CE} {ok : Prop} (o : Obj) (k : Addr → Sem PySem.Fin) : run P K S (n + 1) c hd dep κ (.alloc o k) H j us ct ces ok =
    (match us with
      | [] => none
      | a :: us => match o.isFreed with
        | true => none
        | false => run P K S n c hd dep κ (k a) (snoc H (a, o)) j us ct ces ok) := rfl
theorem run_handled {P : Params} {K : Frag} {S : Code → List Ent → Nat → Nat → CFn → Nat → Prop} {n : Nat} {c : Code} {hd : Option Value} {dep : Nat} {κ : List Fm} {H : List Ent} {j : Nat} {us : List Nat} {ct : Nat} {ces : List CE} {ok : Prop} (own : Bool) (k : Option Value → Sem PySem.Fin) : run P K S (n + 1) c hd dep κ (.handled own k) H j us ct ces ok =
    (match own with
      | true => none
      | false => run P K S n c hd dep κ (k hd) H j us ct ces ok) := rfl
theorem run_call {P : Params} {K : Frag} {S : Code → List Ent → Nat → Nat → CFn → Nat → Prop} {n : Nat} {c : Code} {hd : Option Value} {dep : Nat} {κ : List Fm} {H : List Ent} {j : Nat} {us : List Nat} {ct : Nat} {ces : List CE} {ok : Prop} (c' : Code) (m : Option Value) (g : Bool) (l : List Value) (k : Result → Sem PySem.Fin) : run P K S (n + 1) c hd dep κ (.call c' m g l k) H j us ct ces ok =
    (match ct % 64 with
      | 0 => match notBy m with
        | false => none
        | true => run P K S n c' (match m with | none => hd | some e => some e) (dep + (match isAst c with | true => 1 | false => 100)) (⟨c, hd, dep, m, k⟩ :: κ) (den c') H j us (ct / 64) ces ok
      | _ + 1 => match m with
        | some _ => none
        | none => match hd with
          | some _ => none
          | none => match isAst c with
            | false => none
            | true => match Nat.ble dep 12 with
              | false => none
              | true => match ces with
                | [] => none
                | e :: ces => match codeFor e.nm c' with
                  | none => none
                  | some c₁ => match takeN e.n us with
                    | none => none
                    | some r => run P K S n c none dep κ (k (e.g (splitM e.mask H).1 r.1).1) (app (splitM e.mask H).2 (e.g (splitM e.mask H).1 r.1).2) e.j r.2 (ct / 64) ces (S c₁ (splitM e.mask H).1 j e.n (e.g (splitM e.mask H).1) e.j ∧ ok)) := rfl
section
variable {w : World} {K : Frag} {J : Nat → Array GenState → Prop} {B : Addr → Option Obj} {os : OsState} {dr : Drawn} {A₀ : Around} {Q₀ : PySem.Fin → Shared → Prop} {E₀ : Value → Shared → Prop} {d : Nat}
noncomputable def Ends (J : Nat → Array GenState → Prop) (B : Addr → Option Obj) (os : OsState) (dr : Drawn) (Q₀ : PySem.Fin → Shared → Prop) (E₀ : Value → Shared → Prop) (o : Out) : Prop := match o.res with
  | .fin f => ∀ s', Rel J B os dr o.H o.j s' → Q₀ f s'
  | .exc e => ∀ s', Rel J B os dr o.H o.j s' → E₀ e s'
noncomputable abbrev SP (w : World) (K : Frag) (d : Nat) (J : Nat → Array GenState → Prop) : Code → List Ent → Nat → Nat → CFn → Nat → Prop := fun c Hi j n f j' => Spec w K d J c Hi j n f j'
theorem run_ok : ∀ {n : Nat} {c : Code} {hd : Option Value} {dep : Nat} {κ : List Fm} {t : Sem PySem.Fin} {H : List Ent} {j : Nat} {us : List Nat} {ct : Nat} {ces : List CE} {ok : Prop} {P : Params} {S} {o : Out},
    run P K S n c hd dep κ t H j us ct ces ok = some o → o.ok → ok := by
  intro n
  induction n with
  | zero => intro c hd dep κ t H j us ct ces ok P S o h; cases h
  | succ n ih =>
    intro c hd dep κ t H j us ct ces ok P S o h ho
    cases t with
    | pure fin =>
      cases κ with
      | nil => cases h; exact ho
      | cons q κ =>
        cases fin with
        | done f => exact ih h ho
        | again c' =>
          rw [run_again] at h
          cases hq : PySem.W.ZFast.zw17772548960776305114 c' with
          | false => rw [hq] at h; cases h
          | true => rw [hq] at h; exact ih h ho
    | raise e =>
      cases κ with
      | nil => cases h; exact ho
      | cons q κ => exact ih h ho
    | rule tag k => exact ih h ho
    | «at» q k => exact ih h ho
    | point l k => exact ih h ho
    | ask k => exact ih h ho
    | load a q k =>
      rw [run_load] at h
      cases hct : ct % 64 with
      | zero =>
        rw [hct] at h
        cases hl : lookK K a with
        | none => rw [hl] at h; cases h
        | some o' => rw [hl] at h; exact ih h ho
      | succ i =>
        rw [hct] at h
        dsimp only at h
        cases hl : getI H i with
        | none => rw [hl] at h; cases h
        | some p => rw [hl] at h; exact (ih h ho).2
    | update a q f k =>
      rw [run_update] at h
      cases hct : ct % 64 with
      | zero => rw [hct] at h; cases h
      | succ i =>
        rw [hct] at h
        dsimp only at h
        cases hl : getI H i with
        | none => rw [hl] at h; cases h
        | some p =>
          rw [hl] at h
          dsimp only at h
          cases hf : (f p.2).isFreed with
          | true => rw [hf] at h; cases h
          | false => rw [hf] at h; exact (ih h ho).2
    | alloc o' k =>
      cases us with
      | nil => cases h
      | cons a us =>
        rw [run_alloc] at h
        cases hf : o'.isFreed with
        | true => rw [hf] at h; cases h
        | false => rw [hf] at h; exact ih h ho
    | fresh k =>
      cases us with
      | nil => cases h
      | cons u us => exact ih h ho
    | handled own k =>
      cases own with
      | true => cases h
      | false => exact ih h ho
    | call c' m g l k =>
      rw [run_call] at h
      cases hct : ct % 64 with
      | zero =>
        rw [hct] at h
        dsimp only at h
        cases hb : notBy m with
        | false => rw [hb] at h; cases h
        | true => rw [hb] at h; exact ih h ho
      | succ i =>
        rw [hct] at h
        dsimp only at h
        cases m with
        | some e => cases h
        | none =>
          cases hd with
          | some e => cases h
          | none =>
            dsimp only at h
            cases hi : isAst c with
            | false => rw [hi] at h; cases h
            | true =>
              rw [hi] at h
              dsimp only at h
              cases hb : Nat.ble dep 12 with
              | false => rw [hb] at h; cases h
              | true =>
                rw [hb] at h
                cases ces with
                | nil => cases h
                | cons e ces =>
                  dsimp only at h
                  cases hc : codeFor e.nm c' with
                  | none => rw [hc] at h; cases h
                  | some c₁ =>
                    rw [hc] at h
                    dsimp only at h
                    cases ht : takeN e.n us with
                    | none => rw [ht] at h; cases h
                    | some r => rw [ht] at h; exact (ih h ho).2
    | _ => cases h
end
end Mine
end
-- Cs4
section
open PySem PySem.Spec PySem.Calls PyProof.Rows PySem.W PySem.W.X
namespace Mine
section
variable {w : World} {K : Frag} {J : Nat → Array GenState → Prop} {B : Addr → Option Obj} {os : OsState} {dr : Drawn} {A₀ : Around} {Q₀ : PySem.Fin → Shared → Prop} {E₀ : Value → Shared → Prop} {d : Nat}
theorem means_code {c' c : Code} {m : Option Value} {hd : Option Value} {dep : Nat} {k : Result → Sem PySem.Fin} {κ : List Fm} {s : Shared} (h : Means w A₀ Q₀ E₀ c' (⟨c, hd, dep, m, k⟩ :: κ) (den c') s) :
    codeAny (Mo w) ((ins A₀ κ c).mark m) c' (fun r s' => wpAny (Mo w) (ins A₀ κ c) (k r) (ends w A₀ Q₀ E₀ κ).1 (ends w A₀ Q₀ E₀ κ).2 s') s := by
  rw [den_eq] at h
  refine x_code (wpAny_mono h (fun fin s' q => ?_) fun _ _ q => q)
  cases fin <;> exact q
theorem means_call {c c' : Code} {m : Option Value} {g : Bool} {l : List Value} {k : Result → Sem PySem.Fin} {κ : List Fm} {hd : Option Value} {dep : Nat} {s : Shared} (hnb : m ≠ some byPass)
    (h : Means w A₀ Q₀ E₀ c' (⟨c, hd, dep, m, k⟩ :: κ) (den c') s) : Means w A₀ Q₀ E₀ c κ (.call c' m g l k) s := x_call (means_code h) hnb
theorem means_con {c c' : Code} {g : Bool} {l : List Value} {k : Result → Sem PySem.Fin} {κ : List Fm} {s : Shared}
    (h : wpAny (Mo w) (ins A₀ κ c) (callP c') (fun r s' => Means w A₀ Q₀ E₀ c κ (k r) s') (fun _ _ => False) s) : Means w A₀ Q₀ E₀ c κ (.call c' none g l k) s := fun Γ p hΓ => by
  have z := h Γ p hΓ
  rw [Sem.wp_call] at z ⊢
  exact wpCode_mono (fun r s' q => (q : Means w A₀ Q₀ E₀ c κ (k r) s') Γ p hΓ) z
theorem run_sound (hD : A₀.depth + 14 ≤ d) (hU : A₀.units + 42 ≤ 3 * d) (hK : KIn K B) :
    ∀ (n : Nat) (c : Code) (hd : Option Value) (dep : Nat) (κ : List Fm) (t : Sem PySem.Fin) (H : List Ent) (j ct : Nat) (ces : List CE) (ok : Prop) (L : Nat) (s : Shared), KOk A₀ κ hd dep → Rel J B os dr H j s →
      (∀ us, us.length = L → ∃ o, run w.params K (SP w K d J) n c hd dep κ t H j us ct ces ok = some o ∧ o.ok ∧ Ends J B os dr Q₀ E₀ o) → Means w A₀ Q₀ E₀ c κ t s := by
  intro n
  induction n with
  | zero =>
    intro c hd dep κ t H j ct ces ok L s _ _ h
    obtain ⟨o, h1, _⟩ := h (List.replicate L 0) (List.length_replicate ..)
    cases h1
  | succ n ih =>
    intro c hd dep κ t H j ct ces ok L s hκ R h
    have some1 := h (List.replicate L 0) (List.length_replicate ..)
    cases t with
    | pure fin =>
      cases κ with
      | nil =>
        obtain ⟨o, h1, _, h3⟩ := some1
        cases h1
        exact x_pure (h3 s R)
      | cons q κ =>
        cases fin with
        | done f => exact x_pure (ih _ _ _ _ _ _ _ _ _ _ L s hκ.2.2 R h)
        | again c' =>
          have hqz : PySem.W.ZFast.zw17772548960776305114 c' = c'.quiet := by rw [← PySem.W.ZFast.ze17772548960776305114]
          simp only [run_again] at h some1
          cases hq : PySem.W.ZFast.zw17772548960776305114 c' with
          | false => rw [hq] at some1; obtain ⟨o, h1, _⟩ := some1; cases h1
          | true =>
            rw [hq] at h
            exact x_pure ⟨hqz ▸ hq, means_code (ih _ _ _ _ _ _ _ _ _ _ L s hκ R h)⟩
    | raise e =>
      cases κ with
      | nil =>
        obtain ⟨o, h1, _, h3⟩ := some1
        cases h1
        exact x_raise (h3 s R)
      | cons q κ => exact x_raise (ih _ _ _ _ _ _ _ _ _ _ L s hκ.2.2 R h)
    | rule tag k => exact x_skim 1 (ih _ _ _ _ _ _ _ _ _ _ L s hκ R h)
    | «at» q k => exact x_skim 1 (ih _ _ _ _ _ _ _ _ _ _ L s hκ R h)
    | point l k => exact x_skim 1 (ih _ _ _ _ _ _ _ _ _ _ L s hκ R h)
    | ask k => exact x_skim 1 (ih _ _ _ _ _ _ _ _ _ _ L s hκ R h)
    | load a q k =>
      simp only [run_load] at h some1
      cases hct : ct % 64 with
      | zero =>
        rw [hct] at h some1
        cases hl : lookK K a with
        | none => rw [hl] at some1; obtain ⟨o, h1, _⟩ := some1; cases h1
        | some o =>
          rw [hl] at h
          exact x_load (R.top hK hl) (ih _ _ _ _ _ _ _ _ _ _ L s hκ R h)
      | succ i =>
        rw [hct] at h some1
        simp only at h some1
        cases hl : getI H i with
        | none => rw [hl] at some1; obtain ⟨o, h1, _⟩ := some1; cases h1
        | some p =>
          rw [hl] at h some1
          obtain ⟨o, h1, h2, _⟩ := some1
          obtain ⟨ea, _⟩ := run_ok h1 h2
          subst ea
          exact x_load (R.at hl) (ih _ _ _ _ _ _ _ _ _ _ L s hκ R h)
    | update a q f k =>
      simp only [run_update] at h some1
      cases hct : ct % 64 with
      | zero => rw [hct] at some1; obtain ⟨o, h1, _⟩ := some1; cases h1
      | succ i =>
        rw [hct] at h some1
        simp only at h some1
        cases hl : getI H i with
        | none => rw [hl] at some1; obtain ⟨o, h1, _⟩ := some1; cases h1
        | some p =>
          rw [hl] at h some1
          simp only at h some1
          cases hf : (f p.2).isFreed with
          | true => rw [hf] at some1; obtain ⟨o, h1, _⟩ := some1; cases h1
          | false =>
            rw [hf] at h some1
            obtain ⟨o, h1, h2, _⟩ := some1
            obtain ⟨ea, _⟩ := run_ok h1 h2
            subst ea
            exact wpAny_bind (m := updatePart p.1 q f) (f := k) (wpAny_updatePart (R.at hl) (ih _ _ _ _ _ _ _ _ _ _ L _ hκ (R.update hl hf) h))
    | alloc o k =>
      cases L with
      | zero => obtain ⟨o, h1, _⟩ := some1; cases h1
      | succ L =>
        have h0 := h (s.heap.objs.size :: List.replicate L 0) (by simp)
        simp only [run_alloc] at h0
        cases hf : o.isFreed with
        | true => rw [hf] at h0; obtain ⟨o, h1, _⟩ := h0; cases h1
        | false =>
          refine wpAny_bind (m := alloc o) (f := k) (wpAny_alloc (ih c hd dep κ _ _ j ct ces ok L _ hκ (R.alloc hf) fun us hl => ?_))
          have h1 := h (s.heap.objs.size :: us) (by simp [hl])
          rw [run_alloc] at h1; simp only [hf] at h1
          exact h1
    | fresh k =>
      cases L with
      | zero => obtain ⟨o, h1, _⟩ := some1; cases h1
      | succ L =>
        exact x_fresh (ih _ _ _ _ _ _ _ _ _ _ L _ hκ (R.toks _) fun us hl => h (s.toks :: us) (by simp [hl]))
    | handled own k =>
      cases own with
      | true => obtain ⟨o, h1, _⟩ := some1; cases h1
      | false =>
        have e := (KOk.ctx c hκ).1
        refine x_handled ?_
        rw [e]
        exact ih _ _ _ _ _ _ _ _ _ _ L s hκ R h
    | call c' m g l k =>
      simp only [run_call] at h some1
      cases hct : ct % 64 with
      | zero =>
        rw [hct] at h some1
        cases hb : notBy m with
        | false => rw [hb] at some1; obtain ⟨o, h1, _⟩ := some1; cases h1
        | true =>
          rw [hb] at h
          refine means_call (hd := hd) (dep := dep) (notBy_ne hb) (ih _ _ _ _ _ _ _ _ _ _ L s ⟨?_, rfl, hκ⟩ R h)
          cases m <;> rfl
      | succ i =>
        rw [hct] at h some1
        simp only at h some1
        cases m with
        | some e => obtain ⟨o, h1, _⟩ := some1; cases h1
        | none =>
          cases hd with
          | some e => obtain ⟨o, h1, _⟩ := some1; cases h1
          | none =>
            cases hi : isAst c with
            | false => rw [hi] at some1; obtain ⟨o, h1, _⟩ := some1; cases h1
            | true =>
              cases hb : Nat.ble dep 12 with
              | false => rw [hi, hb] at some1; obtain ⟨o, h1, _⟩ := some1; cases h1
              | true =>
                cases ces with
                | nil => rw [hi, hb] at some1; obtain ⟨o, h1, _⟩ := some1; cases h1
                | cons e ces =>
                  simp only [hi, hb] at h some1
                  cases hc : codeFor e.nm c' with
                  | none => rw [hc] at some1; obtain ⟨o, h1, _⟩ := some1; cases h1
                  | some c₁ =>
                    simp only [hc] at h some1
                    cases codeFor_eq hc
                    have hn : e.n ≤ L := by
                      cases ht : takeN e.n (List.replicate L 0) with
                      | none => rw [ht] at some1; obtain ⟨o, h1, _⟩ := some1; cases h1
                      | some r =>
                        have := takeN_len ht
                        have l1 := congrArg List.length this.1
                        rw [List.length_replicate, List.length_append, this.2] at l1
                        omega
                    have sp : Spec w K d J c' (splitM e.mask H).1 j e.n (e.g (splitM e.mask H).1) e.j := by
                      cases ht : takeN e.n (List.replicate L 0) with
                      | none => rw [ht] at some1; obtain ⟨o, h1, _⟩ := some1; cases h1
                      | some r =>
                        rw [ht] at some1
                        obtain ⟨o, h1, h2, _⟩ := some1
                        exact (run_ok h1 h2).1
                    obtain ⟨a1, a2⟩ := KOk.ctx c hκ
                    have hdl : dep ≤ 12 := Nat.le_of_ble_eq_true hb
                    obtain ⟨b1, b2⟩ := a2 (by omega) hi
                    refine means_con (sp _ (hideB (splitM e.mask H).1 s.heap) os dr s _ ⟨a1, ?_, ?_⟩ (hK.part R e.mask) (R.part e.mask) fun us s' hl R' => ?_)
                    · omega
                    · omega
                    · refine ih c none dep κ _ _ e.j (ct / 64) ces (Spec w K d J c' (splitM e.mask H).1 j e.n (e.g (splitM e.mask H).1) e.j ∧ ok) (L - e.n) s' hκ (R.back e.mask R') fun us' hl' => ?_
                      have h1 := h (us ++ us') (by rw [List.length_append, hl, hl']; omega)
                      rw [← hl, takeN_app] at h1
                      rw [hl] at h1
                      exact h1
    | _ => obtain ⟨o, h1, _⟩ := some1; cases h1
/-- a tree by one run -/
theorem tree_run {t : Sem PySem.Fin} (c : Code) {H : List Ent} {j ct n L : Nat} {ces : List CE} {s : Shared} (hA : AOk (d - 14) A₀) (hd : 14 ≤ d) (hK : KIn K B) (R : Rel J B os dr H j s)
    (h : ∀ us, us.length = L → ∃ o, run w.params K (SP w K d J) n c none 0 [] t H j us ct ces True = some o ∧ o.ok ∧ Ends J B os dr Q₀ E₀ o) : wpAny (Mo w) A₀ t Q₀ E₀ s :=
  run_sound (by have := hA.2.1; omega) (by have := hA.2.2; omega) hK n c none 0 [] t H j ct ces True L s ⟨hA.1, rfl⟩ R h
end
end Mine
end
-- Cs5
section
open PySem PySem.Spec PySem.Calls PyProof.Rows PySem.W PySem.W.X
namespace Mine
/-! how a segment is said and used -/
noncomputable def mkU : Nat → (Nat → Nat) → List Nat
  | 0, _ => []
  | n + 1, u => u 0 :: mkU n fun i => u (i + 1)
noncomputable def getU (us : List Nat) (i : Nat) : Nat := (getI us i).getD 0
theorem mkU_len : ∀ (n : Nat) (u : Nat → Nat), (mkU n u).length = n
  | 0, _ => rfl
  | n + 1, u => congrArg (· + 1) (mkU_len n _)
theorem mkU_get : ∀ {us : List Nat} {L : Nat}, us.length = L → us = mkU L (getU us)
  | [], _, h => by subst h; rfl
  | u :: us, 0, h => by cases h
  | u :: us, L + 1, h => by
    show u :: us = u :: mkU L fun i => getU (u :: us) (i + 1)
    exact congrArg (u :: ·) (mkU_get (us := us) (Nat.succ.inj h))
noncomputable def trimO (m : List Bool) (o : Option Out) : Option Out := match o with
  | none => none
  | some o => some ⟨o.res, (splitM m o.H).1, o.j, o.ok⟩
noncomputable def okA : List Nat → Prop → Prop
  | [], p => p
  | a :: l, p => a = a ∧ okA l p
theorem okA_of : ∀ (l : List Nat) {p : Prop}, p → okA l p
  | [], _, h => h
  | _ :: l, _, h => ⟨rfl, okA_of l h⟩
/-- what the certificate says of the addresses met, and the contracts that it leans on -/
noncomputable def okD : Nat → Nat → List Nat → List (Prop × (List Nat → List Nat)) → Prop → Prop
  | 0, _, _, _, p => p
  | n + 1, ct, N, sp, p => match ct % 64 with
    | 0 => okD n (ct / 64) N sp p
    | i + 1 => match Nat.beq i 62 with
      | true => match sp with
        | [] => okD n (ct / 64) N [] p
        | q :: sp => okD n (ct / 64) (q.2 N) sp (q.1 ∧ p)
      | false => okD n (ct / 64) N sp ((getI N i).getD 0 = (getI N i).getD 0 ∧ p)
noncomputable def AllP : List (Prop × (List Nat → List Nat)) → Prop
  | [] => True
  | q :: l => q.1 ∧ AllP l
theorem okD_of : ∀ (n ct : Nat) (N : List Nat) (sp : List (Prop × (List Nat → List Nat))) {p : Prop}, AllP sp → p → okD n ct N sp p
  | 0, _, _, _, _, _, h => h
  | n + 1, ct, N, sp, p, hs, h => by
    unfold okD
    split
    · exact okD_of n _ N sp hs h
    · split
      · split
        · exact okD_of n _ N [] trivial h
        · exact okD_of n _ _ _ hs.2 ⟨hs.1, h⟩
      · exact okD_of n _ N sp hs ⟨rfl, h⟩
@[irreducible] noncomputable def KP (P : Params) : Frag := hd.heap_162 P
noncomputable def c0 : Code := .block [] default
noncomputable def runT (c : Code) : Sem PySem.Fin := .call c none false [] fun r => match r with
  | .ok f => .pure (.done f)
  | .error e => .raise e
noncomputable def ofFlow (t : Sem Flow) : Sem PySem.Fin := t.bind fun f => .pure (.done f)
noncomputable def ofUnit (t : Sem Unit) : Sem PySem.Fin := t.bind fun _ => .pure (.done .next)
noncomputable abbrev execsZ : List Stmt → Env → Sem Flow := PySem.W.ZFast.zw12563942051412417395
theorem execsZ_eq : @execs = execsZ := PySem.W.ZFast.ze12563942051412417395
noncomputable abbrev assignZ : Expr → Env → Value → Sem Unit := PySem.W.ZFast.zw17772580674575903948
theorem assignZ_eq : @assign = assignZ := PySem.W.ZFast.ze17772580674575903948
noncomputable def flowZ (b : List Stmt) (env : Env) : Sem PySem.Fin := PySem.W.R.bindR (execsZ b env) fun f => .pure (.done f)
noncomputable def assZ (t : Expr) (env : Env) (v : Value) : Sem PySem.Fin := PySem.W.R.bindR (assignZ t env v) fun _ => .pure (.done .next)
theorem flowZ_eq (b : List Stmt) (env : Env) : flowZ b env = (execs b env).bind fun f => .pure (.done f) := by
  unfold flowZ; rw [← execsZ_eq, ← PySem.W.R.bindR_eq]
theorem assZ_eq (t : Expr) (env : Env) (v : Value) : assZ t env v = (assign t env v).bind fun _ => .pure (.done .next) := by
  unfold assZ; rw [← assignZ_eq, ← PySem.W.R.bindR_eq]
section
variable {w : World} {K : Frag} {J : Nat → Array GenState → Prop} {B : Addr → Option Obj} {os : OsState} {dr : Drawn} {A₀ : Around} {Q₀ : PySem.Fin → Shared → Prop} {E₀ : Value → Shared → Prop} {d : Nat}
theorem Rel.pick {H : List Ent} {j : Nat} {s : Shared} (R : Rel J B os dr H j s) (m : List Bool) : Rel J B os dr (splitM m H).1 j s :=
  ⟨⟨R.own.keep, fun p hp => R.own.own p ((splitM_mem m H p).mpr (.inl hp)), (splitM_nodup m H R.own.nd).1⟩, R.os, R.dr, R.gh⟩
theorem trim_use {m : List Bool} {r : Option Out} {o' : Out} (h : trimO m r = some o') (ho : o'.ok) (he : Ends J B os dr Q₀ E₀ o') : ∃ o, r = some o ∧ o.ok ∧ Ends J B os dr Q₀ E₀ o := by
  cases r with
  | none => cases h
  | some o =>
    cases h
    refine ⟨o, rfl, ho, ?_⟩
    unfold Ends at he ⊢
    dsimp only at he
    split at he <;> exact fun s' R => he s' (R.pick m)
/-- a tree by a trimmed run -/
theorem tree_seg {P : Params} (hP : P = w.params) {t : Sem PySem.Fin} {H : List Ent} {j ct n L : Nat} {ces : List CE} {s : Shared} {m : List Bool} (hA : AOk (d - 14) A₀) (hd : 14 ≤ d) (hK : KIn K B) (R : Rel J B os dr H j s)
    (h : ∀ u, ∃ o, trimO m (run P K (SP w K d J) n c0 none 0 [] t H j (mkU L u) ct ces True) = some o ∧ o.ok ∧ Ends J B os dr Q₀ E₀ o) : wpAny (Mo w) A₀ t Q₀ E₀ s :=
  tree_run c0 hA hd hK R (L := L) (ct := ct) (n := n) (ces := ces) fun us hl => by
    obtain ⟨o, h1, h2, h3⟩ := h (getU us)
    rw [← mkU_get hl, hP] at h1
    exact trim_use h1 h2 h3
noncomputable def resOf : Result → Res
  | .ok f => .fin (.done f)
  | .error e => .exc e
/-- a code's contract by a run -/
theorem spec_seg {P : Params} (hP : P = w.params) {c : Code} {Hi : List Ent} {j ct n L k j' : Nat} {f : CFn} {ces : List CE} {m : List Bool} (hd : 14 ≤ d)
    (h : ∀ u, ∃ o us, trimO m (run P K (SP w K d J) n c0 none 0 [] (runT c) Hi j (mkU L u) ct ces True) = some o ∧ o.ok ∧ us.length = k ∧ o.res = resOf (f us).1 ∧ o.H = (f us).2 ∧ o.j = j') : Spec w K (d - 14) J c Hi j k f j' := by
  intro A B os dr s Q hA hK R hQ
  have z : wpAny (Mo w) A (runT c) (fun fin s' => ∃ fl, fin = .done fl ∧ Q (.ok fl) s') (fun e s' => Q (.error e) s') s := by
    refine tree_seg hP hA hd hK R (m := m) (L := L) (ct := ct) (n := n) (ces := ces) fun u => ?_
    obtain ⟨o, us, h1, h2, h3, h4, h5, h6⟩ := h u
    refine ⟨o, h1, h2, ?_⟩
    unfold Ends
    rw [h4, h5, h6]
    cases q : (f us).1 with
    | ok fl => exact fun s' R' => ⟨fl, rfl, q ▸ hQ us s' h3 R'⟩
    | error e => exact fun s' R' => by have := hQ us s' h3 R'; rw [q] at this; exact this
  intro Γ p hΓ
  have y := z Γ p hΓ
  unfold runT at y
  rw [Sem.wp_call] at y ⊢
  refine wpCode_mono (fun r s' q => ?_) y
  cases r with
  | ok fl =>
    obtain ⟨fl', e, q'⟩ := q
    cases e; exact q'
  | error e => exact q
theorem Spec.weak {c : Code} {Hi : List Ent} {j n n' j' : Nat} {f f' : CFn} (h : Spec w K d J c Hi j n f j') (hf : ∀ us, us.length = n → ∃ vs, vs.length = n' ∧ f us = f' vs) : Spec w K d J c Hi j n' f' j' := by
  intro A B os dr s Q hA hK R hQ
  refine h A B os dr s Q hA hK R fun us s' hl R' => ?_
  obtain ⟨vs, h1, h2⟩ := hf us hl
  rw [h2] at R' ⊢
  exact hQ vs s' h1 R'
theorem Spec.mono {c : Code} {Hi : List Ent} {j n j' d' : Nat} {f : CFn} (h : Spec w K d J c Hi j n f j') (hd : d' ≤ d) : Spec w K d' J c Hi j n f j' := by
  intro A B os dr s Q hA hK R hQ
  exact h A B os dr s Q ⟨hA.1, by have := hA.2.1; omega, by have := hA.2.2; omega⟩ hK R hQ
end
/-- the rows of the world's params that the trees ask -/
noncomputable def ftP (P : Params) (b1 b2 : Bool) : Params := { P with followText := fun s => match PySem.W.S.strDecS s "special-get-raises" with
  | .isTrue _ => b1
  | .isFalse _ => match PySem.W.S.strDecS s "comprehension-iter-twice" with
    | .isTrue _ => b2
    | .isFalse _ => P.followText s }
theorem ftP_eq (P : Params) : ftP P (P.followText "special-get-raises") (P.followText "comprehension-iter-twice") = P := by
  have e : (ftP P (P.followText "special-get-raises") (P.followText "comprehension-iter-twice")).followText = P.followText := by
    funext s
    show (match PySem.W.S.strDecS s "special-get-raises" with
      | .isTrue _ => P.followText "special-get-raises"
      | .isFalse _ => match PySem.W.S.strDecS s "comprehension-iter-twice" with
        | .isTrue _ => P.followText "comprehension-iter-twice"
        | .isFalse _ => P.followText s) = P.followText s
    split
    · rename_i h _; rw [h]
    · split
      · rename_i h _; rw [h]
      · rfl
  unfold ftP at e ⊢
  cases P
  simp only at e ⊢
  rw [e]
noncomputable abbrev fT (w : World) : Params := ftP w.params (w.params.followText "special-get-raises") (w.params.followText "comprehension-iter-twice")
theorem fT_eq (w : World) : fT w = w.params := ftP_eq _
end Mine
end
-- Cs6
section
open PySem PySem.Spec PySem.Calls PyProof.Rows PySem.W PySem.W.X
namespace Mine
section
variable {w : World} {K : Frag} {J : Nat → Array GenState → Prop} {d : Nat}
theorem AOk.mark {A : Around} (h : AOk d A) : AOk d (A.mark none) := ⟨h.1, h.2.1, h.2.2⟩
theorem spec_code {c : Code} {Hi : List Ent} {j n j' : Nat} {f : CFn}
    (h : ∀ (A : Around) (B : Addr → Option Obj) (os : OsState) (dr : Drawn) (s : Shared) (R : Result → Shared → Prop), AOk d A → KIn K B → Rel J B os dr Hi j s →
      (∀ us s', us.length = n → Rel J B os dr (f us).2 j' s' → R (f us).1 s') → codeAny (Mo w) A c R s) : Spec w K d J c Hi j n f j' := by
  intro A B os dr s Q hA hK R hQ
  exact x_call (codeAny_mono (h (A.mark none) B os dr s Q hA.mark hK R hQ) fun r s' q => wpAny_pure q) (by intro e; cases e)
/-- a code by a run of its tree -/
theorem code_seg {P : Params} (hP : P = w.params) {c : Code} {B : Addr → Option Obj} {os : OsState} {dr : Drawn} {A : Around} {R : Result → Shared → Prop} {H : List Ent} {j ct n L : Nat} {ces : List CE} {s : Shared} {m : List Bool} (hA : AOk (d - 16) A) (hd : 16 ≤ d) (hc : isAst c = true) (hK : KIn K B) (Rl : Rel J B os dr H j s)
    (h : ∀ u, ∃ o, trimO m (run P K (SP w K d J) n c0 none 0 [] (den c) H j (mkU L u) ct ces True) = some o ∧ o.ok ∧ Ends J B os dr (fun fin s' => match fin with | .done f => R (.ok f) s' | .again c' => c'.quiet = true ∧ codeAny (Mo w) A c' R s') (fun e s' => R (.error e) s') o) : codeAny (Mo w) A c R s := by
  rw [show den = denote table from den_eq] at h
  obtain ⟨w1, w2⟩ := ast_weight hc
  exact x_code (tree_seg hP (A₀ := A.under c) ⟨hA.1, by show A.depth + c.weight ≤ _; have := hA.2.1; omega, by show A.units + c.cUnits ≤ _; have := hA.2.2; omega⟩ (by omega) hK Rl h)
noncomputable abbrev newEnvZ : Scope → Addr → List (Str × Addr) → List (Str × Value) → Str → Option Addr → Value → Option Env → Addr → Sem Env := @PySem.W.ZFast.zw11113344188204177931
theorem newEnvZ_eq : @newFunctionEnv = newEnvZ := PySem.W.ZFast.ze11113344188204177931
noncomputable def entZ (fd : FuncData) (f : Nat) (body : List Stmt) (binds : List (Str × Value)) : Sem PySem.Fin :=
  PySem.W.R.bindR (newEnvZ fd.scope fd.globals fd.closure binds (fd.qualname ++ Str.ofString ".<locals>.") (some f) fd.code none fd.builtins) fun env => .pure (.again (.func body env))
theorem entZ_eq (fd : FuncData) (f : Nat) (body : List Stmt) (binds : List (Str × Value)) : entZ fd f body binds =
    (newFunctionEnv fd.scope fd.globals fd.closure binds (fd.qualname ++ Str.ofString ".<locals>.") (some f) fd.code none fd.builtins).bind fun env => .pure (.again (.func body env)) := by
  unfold entZ; rw [← newEnvZ_eq, ← PySem.W.R.bindR_eq]
theorem wpAny_unbind {α β : Type} {M : Model} {A : Around} {m : Sem α} {g : α → β} {Q : β → Shared → Prop} {E : Value → Shared → Prop} {s : Shared} (h : wpAny M A (m.bind fun a => .pure (g a)) Q E s) : wpAny M A m (fun a s' => Q (g a) s') E s := fun Γ p hΓ => by
  have z := h Γ p hΓ
  rw [Sem.wp_bind] at z
  exact z
structure FnOk (K : Frag) (f : Nat) (fd : FuncData) (body : List Stmt) : Prop where
  at_ : ∃ o, lookK K f = some o ∧ o.data = .func fd
  co : fd.scope.isCoroutine = false
  gen : fd.scope.isGenerator = false
  body : fd.body = .stmts body
  code : ∃ c oc vs t, fd.code = .ref c ∧ lookK K c = some oc ∧ oc.data = .fields vs ∧ vs[1]? = some (.str fd.qualname t)
  lim : ∃ o n, lookK K 2 = some o ∧ o.data = .dict #[] n
theorem noLimit {B : Addr → Option Obj} {os : OsState} {dr : Drawn} {H : List Ent} {j : Nat} {s : Shared} (hK : KIn K B) (R : Rel J B os dr H j s) (h : ∃ o n, lookK K 2 = some o ∧ o.data = .dict #[] n) : s.heap.NoLimit := by
  obtain ⟨o, n, h1, h2⟩ := h
  exact ⟨fun _ => none, ⟨o, #[], n, R.top hK h1, h2, by intro e he; simp at he, fun _ => rfl⟩, rfl⟩
theorem fn_spec {P : Params} (hP : P = w.params) {f : Nat} {fd : FuncData} {body : List Stmt} {args : List Value} {binds : List (Str × Value)} {Hi : List Ent} {j j' n : Nat} {g : CFn} (F : FnOk K f fd body) (hbind : bindArgs fd ⟨args, []⟩ = .pure binds) (hd : d ≤ 900) (hd' : 16 ≤ d) {mE : List Bool} {nE LE ctE : Nat} {He : (Nat → Nat) → List Ent} {envE : (Nat → Nat) → Env} {okE : (Nat → Nat) → Prop}
    (hent : ∀ u, trimO mE (run P K (SP w K d J) nE c0 none 0 [] (entZ fd f body binds) Hi j (mkU LE u) ctE [] True) = some ⟨.fin (.again (.func body (envE u))), He u, j, okE u⟩) (hok : ∀ u, okE u)
    (hbody : ∀ u, ∀ (A : Around) (B : Addr → Option Obj) (os : OsState) (dr : Drawn) (s : Shared) (R : Result → Shared → Prop), AOk (d - 16) A → KIn K B → Rel J B os dr (He u) j s →
      (∀ us s', us.length = n → Rel J B os dr (g us).2 j' s' → R (g us).1 s') → codeAny (Mo w) A (.func body (envE u)) R s) : Spec w K (d - 16) J (.call (.ref f) ⟨args, []⟩) Hi j n g j' := by
  refine spec_code fun A B os dr s R hA hK Rl hR => ?_
  obtain ⟨o, ho, hdata⟩ := F.at_
  obtain ⟨c, oc, vs, t, c1, c2, c3, c4⟩ := F.code
  refine codeAny_call_function (o := o) (fd := fd) (body := body) (by have := hA.2.1; show A.depth < 1000; omega) (Rl.top hK ho) hdata F.co F.gen F.body ⟨c, oc, vs, t, c1, Rl.top hK c2, c3, c4⟩ ?_
  refine wpAny_of_eq hbind ?_
  have h : wpAny (Mo w) A.in1 (entZ fd f body binds) (fun fin s₂ => ∃ env, fin = .again (.func body env) ∧ s₂.heap.NoLimit ∧ codeAny (Mo w) A (.func body env) R s₂) (fun e s' => R (.error e) s') s := by
    refine tree_seg hP (d := d) (A₀ := A.in1) ⟨hA.1, by show A.depth ≤ _; have := hA.2.1; omega, by show A.units + 1 ≤ _; have := hA.2.2; omega⟩ (by omega) hK Rl (m := mE) (L := LE) (ct := ctE) (n := nE) (ces := []) fun u => ⟨_, hent u, hok u, ?_⟩
    intro s₂ R₂
    exact ⟨_, rfl, noLimit hK R₂ F.lim, hbody u A B os dr s₂ R hA hK R₂ hR⟩
  rw [entZ_eq] at h
  refine wpAny_mono (wpAny_unbind (g := fun env => PySem.Fin.again (.func body env)) h) (fun env s₂ q => ?_) fun _ _ q => q
  obtain ⟨env', e, q1, q2⟩ := q
  cases e
  exact ⟨q1, q2⟩
end
end Mine
end
-- F2
section
open PySem PySem.Spec PySem.Calls PyProof.Rows PySem.W PySem.W.X
namespace Mine
noncomputable def objAt (K : Frag) (a : Nat) : Obj := (lookK K a).getD default
noncomputable def fdAt (K : Frag) (a : Nat) : FuncData := match lookK K a with | some ⟨_, _, .func fd, _⟩ => fd | _ => default
noncomputable def bodyOf (fd : FuncData) : List Stmt := match fd.body with | .stmts b => b | _ => []
noncomputable abbrev fd (P : Params) (f : Nat) : FuncData := fdAt (KP P) f
noncomputable abbrev bd (P : Params) (f : Nat) : List Stmt := bodyOf (fd P f)
noncomputable def envAt (P : Params) (f L : Nat) : Env := { scope := (fd P f).scope, locals := L, globals := (fd P f).globals, cells := (fd P f).closure, qual := (fd P f).qualname ++ Str.ofString ".<locals>.", func := some f, code := (fd P f).code, frame := some L, builtins := (fd P f).builtins }
/-- a frame's locals -/
noncomputable def fro (es : List DictEntry) (n : Nat) : Obj := { cls := .type "frame", data := .dict ⟨es⟩ n }
noncomputable def en (h : Int) (k : Nat) (x : Str) (v : Value) : DictEntry := ⟨h, .str x k, v⟩
noncomputable def lsto (vs : List Value) (n : Nat) : Obj := { cls := .type "list", data := .seq ⟨vs⟩ n }
noncomputable def hs (P : Params) (x : Str) : Int := PySem.W.ZFast.zw12210062019545310541 (P.strHash x.cps)
noncomputable def fldAt (o : Obj) (i : Nat) : Value := match o.data with | .fields vs => (getI vs.toList i).getD .none | _ => .none
noncomputable def fldsOf (o : Obj) : Array Value := match o.data with | .fields vs => vs | _ => #[]
noncomputable def tokOf : Value → Nat
  | .str _ t => t
  | .int _ t => t
  | _ => 0
noncomputable def epoOf (o : Obj) : Nat := match o.data with | .dict _ n => n | _ => 0
/-- the facts of a def, seen by the kernel -/
structure FnSeen (P : Params) (f c : Nat) : Prop where
  a1 : lookK (KP P) f = some (objAt (KP P) f)
  a2 : (objAt (KP P) f).data = .func (fd P f)
  a3 : (fd P f).scope.isCoroutine = false
  a4 : (fd P f).scope.isGenerator = false
  a5 : (fd P f).body = .stmts (bd P f)
  a6 : (fd P f).code = .ref c
  a7 : lookK (KP P) c = some (objAt (KP P) c)
  a8 : (objAt (KP P) c).data = .fields (fldsOf (objAt (KP P) c))
  a9 : (fldsOf (objAt (KP P) c))[1]? = some (.str (fd P f).qualname (tokOf (fldAt (objAt (KP P) c) 1)))
theorem lim2 (P : Params) : ∃ o n, lookK (KP P) 2 = some o ∧ o.data = .dict #[] n := ⟨objAt (KP P) 2, epoOf (objAt (KP P) 2), by kernel_rfl!, by kernel_rfl!⟩
theorem FnSeen.ok {P : Params} {f c : Nat} (F : FnSeen P f c) : FnOk (KP P) f (fd P f) (bd P f) :=
  ⟨⟨_, F.a1, F.a2⟩, F.a3, F.a4, F.a5, ⟨c, _, _, _, F.a6, F.a7, F.a8, F.a9⟩, lim2 P⟩
noncomputable abbrev bindZ : FuncData → Args → Sem (List (Str × Value)) := PySem.W.ZFast.zw9782568553167038054
theorem bindZ_eq : @bindArgs = bindZ := PySem.W.ZFast.ze9782568553167038054
theorem bind_of {f : FuncData} {a : Args} {b : List (Str × Value)} (h : bindZ f a = .pure b) : bindArgs f a = .pure b := by rw [bindZ_eq]; exact h
theorem seen28 (P : Params) : FnSeen P 28 27 := ⟨by kernel_rfl!, by kernel_rfl!, by kernel_rfl!, by kernel_rfl!, by kernel_rfl!, by kernel_rfl!, by kernel_rfl!, by kernel_rfl!, by kernel_rfl!⟩
theorem bind28 (P : Params) (v : Value) : bindArgs (fd P 28) ⟨[v], []⟩ = .pure [(Str.ofString "mode", v)] := bind_of (by kernel_rfl!)
theorem ent28 (P : Params) (S) (j : Nat) (v : Value) (u : Nat → Nat) : trimO [true] (run P (KP P) S 40 c0 none 0 [] (entZ (fd P 28) 28 (bd P 28) [(Str.ofString "mode", v)]) [] j (mkU 2 u) (1 + 64) [] True) =
  some ⟨.fin (.again (.func (bd P 28) (envAt P 28 (u 0)))), [(u 0, fro [en (hs P (Str.ofString "mode")) (u 1) (Str.ofString "mode") v] 1)], j, okD 2 (1 + 64) [u 0] [] True⟩ := by kernel_rfl!
noncomputable abbrev bitAndZ : Int → Int → Int := PySem.W.ZFast.zw4806658248164788318
theorem body28 (P : Params) (S) (j L : Nat) (h : Int) (k : Nat) (m : Int) (t : Nat) (u : Nat → Nat) : trimO [] (run P (KP P) S 60 c0 none 0 [] (den (.func (bd P 28) (envAt P 28 L))) [(L, fro [en h k (Str.ofString "mode") (.int m t)] 1)] j (mkU 2 u) 1 [] True) =
  some ⟨.fin (.done (.ret (.int (bitAndZ m 61440) (u 1)))), [], j, okD 1 1 [L] [] True⟩ := by kernel_rfl!
theorem spec28 {w : World} {d : Nat} {J : Nat → Array GenState → Prop} (hd : d ≤ 900) (hd' : 16 ≤ d) (j : Nat) (m : Int) (t : Nat) :
    Spec w (KP w.params) (d - 16) J (.call (.ref 28) ⟨[.int m t], []⟩) [] j 1 (fun l => (.ok (.ret (.int (bitAndZ m 61440) (l.headD 0))), [])) j := by
  refine fn_spec rfl (seen28 _).ok (bind28 _ _) hd hd' (fun u => ent28 w.params _ j _ u) (fun u => okD_of _ _ _ _ trivial trivial) fun u A B os dr s R hA hK Rl hR => ?_
  refine code_seg rfl hA hd' rfl hK Rl (m := []) (L := 2) (ct := 1) (n := 60) (ces := []) fun v => ⟨_, body28 w.params _ j _ _ _ m t v, okD_of _ _ _ _ trivial trivial, ?_⟩
  exact fun s' R' => hR [v 1] s' rfl R'
end Mine
end
-- F3
section
open PySem PySem.Spec PySem.Calls PyProof.Rows PySem.W PySem.W.X
namespace Mine
structure Lp where
  t : Expr
  i : Expr
  b : List Stmt
  o : List Stmt
noncomputable def lpOf (l : List Stmt) (i : Nat) : Lp := match getI l i with | some (.For t i b o _) => ⟨t, i, b, o⟩ | _ => ⟨.Name (Str.ofString "x") default, .Name (Str.ofString "x") default, [], []⟩
noncomputable def fmL1 (P : Params) : Lp := lpOf (bd P 68) 1
noncomputable def mkV : Nat → (Nat → Value) → List Value
  | 0, _ => []
  | n + 1, v => v 0 :: mkV n fun i => v (i + 1)
noncomputable def nMode : Str := ⟨⟨[109, 111, 100, 101]⟩⟩
noncomputable def nPerm : Str := ⟨⟨[112, 101, 114, 109]⟩⟩
noncomputable def nIndex : Str := ⟨⟨[105, 110, 100, 101, 120]⟩⟩
noncomputable def nTable : Str := ⟨⟨[116, 97, 98, 108, 101]⟩⟩
noncomputable def nBit : Str := ⟨⟨[98, 105, 116]⟩⟩
noncomputable def nChar : Str := ⟨⟨[99, 104, 97, 114]⟩⟩
noncomputable def fmF (h : Nat → Int) (k : Nat → Nat) (n : Nat) (m : Value) (pm : Nat) (i t b c : Value) : Obj :=
  fro [en (h 0) (k 0) nMode m, en (h 1) (k 1) nPerm (.ref pm), en (h 2) (k 2) nIndex i, en (h 3) (k 3) nTable t, en (h 4) (k 4) nBit b, en (h 5) (k 5) nChar c] n
noncomputable def fmF4 (h : Nat → Int) (k : Nat → Nat) (n : Nat) (m : Value) (pm : Nat) (i t : Value) : Obj :=
  fro [en (h 0) (k 0) nMode m, en (h 1) (k 1) nPerm (.ref pm), en (h 2) (k 2) nIndex i, en (h 3) (k 3) nTable t] n
noncomputable def fmF2 (h : Nat → Int) (k : Nat → Nat) (n : Nat) (m : Value) (pm : Nat) : Obj :=
  fro [en (h 0) (k 0) nMode m, en (h 1) (k 1) nPerm (.ref pm)] n
noncomputable def ext2 {α : Type} (f : Nat → α) (a : Nat) (x y : α) : Nat → α := fun i => match Nat.beq i a with
  | true => x
  | false => match Nat.beq i (a + 1) with
    | true => y
    | false => f i
noncomputable def kItem (P : Params) (a i : Nat) : Value := match (objAt (KP P) a).data with | .seq xs _ => (getI xs.toList i).getD .none | _ => .none
noncomputable def ceEq (b : Bool) : CE := ⟨some "int.__eq__", [], 0, fun _ => (.ok (.ret (.bool b)), []), 0, noH⟩
noncomputable def ifmtF (mode : Int) : CFn := fun l => (.ok (.ret (.int (bitAndZ mode 61440) (l.headD 0))), [])
noncomputable def ceIfmt (mode : Int) : CE := ⟨none, [], 1, ifmtF mode, 0, noH⟩
noncomputable def enumO (own : Value) (it : Nat) (i : Int) (item : Value) : Obj := { cls := .type "enumerate", dict := none, data := .fields #[own, .bool false, .ref it, .int i 0, .none, item], slots := #[] }
noncomputable def tupIt (t : Value) (i : Int) : Obj := { cls := .type "tuple_iterator", data := .fields #[t, .int i 0] }
noncomputable def tupO (vs : List Value) : Obj := { cls := .type "tuple", data := .seq ⟨vs⟩ }
noncomputable def optFin : Option Value → PySem.Fin
  | some v => .done (.ret v)
  | none => .done .next
noncomputable def nextZ (v : Value) : Sem PySem.Fin := PySem.W.R.bindR (PySem.W.ZFast.zw9404975358583537561 v) fun r => .pure (optFin r)
noncomputable def dash (t : Nat) : Value := .str ⟨⟨[45]⟩⟩ t
theorem fm_b0r (P : Params) (b1 b2 : Bool) (S) (h : Nat → Int) (k : Nat → Nat) (n L pm pn : Nat) (mode : Int) (t0 t1 : Nat) (v : Nat → Value) (u : Nat → Nat) :
    trimO [true, true] (run (ftP P b1 b2) (KP P) S 329 c0 none 0 [] (flowZ (fmL1 P).b (envAt P 68 L)) [(L, fmF4 h k n (.int mode t0) pm (.int 0 t1) (.ref 36)), (pm, lsto (mkV 0 v) pn)] 0 (mkU 22 u) 5984183381324006341300518761297396667763123826723572404262136912064961810312153678756569046018557639582905778824848744215321757301425153500856960319034366909017539556324963354602490808580464955616374594247139281169716005287963774060713165793289010487564366961618720666432392487641267313035595118374925277773955073 [ceIfmt mode, ceEq false, ceIfmt mode, ceEq false, ceIfmt mode, ceEq true] True) =
    some ⟨.fin (.done .next), [(L, fmF (ext2 h 4 (hs P nBit) (hs P nChar)) (ext2 k 4 (u 4) (u 5)) (n + 2) (.int mode t0) pm (.int 0 t1) (.ref 36) (kItem P 31 0) (kItem P 31 1)), (pm, lsto (app (mkV 0 v) [kItem P 31 1]) (pn + 1))], 0, okD 174 5984183381324006341300518761297396667763123826723572404262136912064961810312153678756569046018557639582905778824848744215321757301425153500856960319034366909017539556324963354602490808580464955616374594247139281169716005287963774060713165793289010487564366961618720666432392487641267313035595118374925277773955073 [L, pm, (u 0), (u 1), (u 2), (u 3), (u 8), (u 9), (u 10), (u 15), (u 16), (u 17)] [(S (.call (.ref 28) ⟨[.int mode t0], []⟩) [] 0 1 (ifmtF mode) 0, id), (S (.call (.builtin "int.__eq__") ⟨[.int (bitAndZ mode 61440) (u 7), kItem P 29 0], []⟩) [] 0 0 (ceEq false).f 0, id), (S (.call (.ref 28) ⟨[.int mode t0], []⟩) [] 0 1 (ifmtF mode) 0, id), (S (.call (.builtin "int.__eq__") ⟨[.int (bitAndZ mode 61440) (u 14), kItem P 30 0], []⟩) [] 0 0 (ceEq false).f 0, id), (S (.call (.ref 28) ⟨[.int mode t0], []⟩) [] 0 1 (ifmtF mode) 0, id), (S (.call (.builtin "int.__eq__") ⟨[.int (bitAndZ mode 61440) (u 21), kItem P 31 0], []⟩) [] 0 0 (ceEq true).f 0, id)] True⟩ := by cases b1 <;> kernel_rfl!
theorem fm_b0d (P : Params) (b1 b2 : Bool) (S) (h : Nat → Int) (k : Nat → Nat) (n L pm pn : Nat) (mode : Int) (t0 t1 : Nat) (v : Nat → Value) (u : Nat → Nat) :
    trimO [true, true] (run (ftP P b1 b2) (KP P) S 521 c0 none 0 [] (flowZ (fmL1 P).b (envAt P 68 L)) [(L, fmF4 h k n (.int mode t0) pm (.int 0 t1) (.ref 36)), (pm, lsto (mkV 0 v) pn)] 0 (mkU 36 u) 416602803379095093628643907490251781111983479162473483342558915590575019175652808332346764112945625447274722483589206869772149681267489043422118603519136356929227764412411866735771047834459382637479990797141278482033454884769399377734870201595769538015490909996576909239361255755959421759572431088803956226679375315378067166690650768412493004835393670491528625547163252510648415401732956016559546370587023390062497197500040675419629419575636732045409897547612221529293025730397068819649131455533023233 [ceIfmt mode, ceEq false, ceIfmt mode, ceEq false, ceIfmt mode, ceEq false, ceIfmt mode, ceEq false, ceIfmt mode, ceEq true] True) =
    some ⟨.fin (.done .next), [(L, fmF (ext2 h 4 (hs P nBit) (hs P nChar)) (ext2 k 4 (u 4) (u 5)) (n + 2) (.int mode t0) pm (.int 0 t1) (.ref 36) (kItem P 33 0) (kItem P 33 1)), (pm, lsto (app (mkV 0 v) [kItem P 33 1]) (pn + 1))], 0, okD 278 416602803379095093628643907490251781111983479162473483342558915590575019175652808332346764112945625447274722483589206869772149681267489043422118603519136356929227764412411866735771047834459382637479990797141278482033454884769399377734870201595769538015490909996576909239361255755959421759572431088803956226679375315378067166690650768412493004835393670491528625547163252510648415401732956016559546370587023390062497197500040675419629419575636732045409897547612221529293025730397068819649131455533023233 [L, pm, (u 0), (u 1), (u 2), (u 3), (u 8), (u 9), (u 10), (u 15), (u 16), (u 17), (u 22), (u 23), (u 24), (u 29), (u 30), (u 31)] [(S (.call (.ref 28) ⟨[.int mode t0], []⟩) [] 0 1 (ifmtF mode) 0, id), (S (.call (.builtin "int.__eq__") ⟨[.int (bitAndZ mode 61440) (u 7), kItem P 29 0], []⟩) [] 0 0 (ceEq false).f 0, id), (S (.call (.ref 28) ⟨[.int mode t0], []⟩) [] 0 1 (ifmtF mode) 0, id), (S (.call (.builtin "int.__eq__") ⟨[.int (bitAndZ mode 61440) (u 14), kItem P 30 0], []⟩) [] 0 0 (ceEq false).f 0, id), (S (.call (.ref 28) ⟨[.int mode t0], []⟩) [] 0 1 (ifmtF mode) 0, id), (S (.call (.builtin "int.__eq__") ⟨[.int (bitAndZ mode 61440) (u 21), kItem P 31 0], []⟩) [] 0 0 (ceEq false).f 0, id), (S (.call (.ref 28) ⟨[.int mode t0], []⟩) [] 0 1 (ifmtF mode) 0, id), (S (.call (.builtin "int.__eq__") ⟨[.int (bitAndZ mode 61440) (u 28), kItem P 32 0], []⟩) [] 0 0 (ceEq false).f 0, id), (S (.call (.ref 28) ⟨[.int mode t0], []⟩) [] 0 1 (ifmtF mode) 0, id), (S (.call (.builtin "int.__eq__") ⟨[.int (bitAndZ mode 61440) (u 35), kItem P 33 0], []⟩) [] 0 0 (ceEq true).f 0, id)] True⟩ := by cases b1 <;> kernel_rfl!
theorem fm_n0 (P : Params) (b1 b2 : Bool) (S) (e it : Nat) (old : Value) (u : Nat → Nat) :
    trimO [true, true, true] (run (ftP P b1 b2) (KP P) S 40 c0 none 0 [] (nextZ (.ref e)) [(e, enumO .none it 0 old), (it, tupIt (.ref 61) 0)] 0 (mkU 2 u) 1449902417987006863297306456585148527787905025 [] True) =
    some ⟨.fin (.done (.ret (.ref (u 1)))), [(e, enumO (.int ((u 1 : Nat) : Int) 0) it 1 (.ref 36)), (it, tupIt (.ref 61) 1), (u 1, tupO [.int 0 (u 0), .ref 36])], 0, okD 26 1449902417987006863297306456585148527787905025 [e, it, (u 1)] [] True⟩ := by cases b1 <;> kernel_rfl!
theorem fm_b11 (P : Params) (b1 b2 : Bool) (S) (h : Nat → Int) (k : Nat → Nat) (n L pm pn : Nat) (mode : Int) (t0 t1 : Nat) (b c : Value) (v : Nat → Value) (u : Nat → Nat) :
    trimO [true, true] (run (ftP P b1 b2) (KP P) S 138 c0 none 0 [] (flowZ (fmL1 P).b (envAt P 68 L)) [(L, fmF h k n (.int mode t0) pm (.int 1 t1) (.ref 38) b c), (pm, lsto (mkV 1 v) pn)] 0 (mkU 8 u) 1343097761931947461410517768334476425269907103191401701079559962110777580481359179823507189296096888661139364235232260653057 [ceEq true] True) =
    some ⟨.fin (.done .next), [(L, fmF h k n (.int mode t0) pm (.int 1 t1) (.ref 38) (kItem P 37 0) (kItem P 37 1)), (pm, lsto (app (mkV 1 v) [kItem P 37 1]) (pn + 1))], 0, okD 69 1343097761931947461410517768334476425269907103191401701079559962110777580481359179823507189296096888661139364235232260653057 [L, pm, (u 0), (u 1), (u 2), (u 3)] [(S (.call (.builtin "int.__eq__") ⟨[.int (bitAndZ mode 256) (u 7), kItem P 37 0], []⟩) [] 0 0 (ceEq true).f 0, id)] True⟩ := by cases b1 <;> kernel_rfl!
theorem fm_b10 (P : Params) (b1 b2 : Bool) (S) (h : Nat → Int) (k : Nat → Nat) (n L pm pn : Nat) (mode : Int) (t0 t1 : Nat) (b c : Value) (v : Nat → Value) (u : Nat → Nat) :
    trimO [true, true] (run (ftP P b1 b2) (KP P) S 163 c0 none 0 [] (flowZ (fmL1 P).b (envAt P 68 L)) [(L, fmF h k n (.int mode t0) pm (.int 1 t1) (.ref 38) b c), (pm, lsto (mkV 1 v) pn)] 0 (mkU 12 u) 1548486293230473026246196382279492249630919676918517194133422886965858373250306904912293726652210078891802536787649005141533486031670029058049 [ceEq false] True) =
    some ⟨.fin (.done .next), [(L, fmF h k n (.int mode t0) pm (.int 1 t1) (.ref 38) (kItem P 37 0) (kItem P 37 1)), (pm, lsto (app (mkV 1 v) [dash (u 11)]) (pn + 1))], 0, okD 79 1548486293230473026246196382279492249630919676918517194133422886965858373250306904912293726652210078891802536787649005141533486031670029058049 [L, pm, (u 0), (u 1), (u 2), (u 3), (u 8), (u 9)] [(S (.call (.builtin "int.__eq__") ⟨[.int (bitAndZ mode 256) (u 7), kItem P 37 0], []⟩) [] 0 0 (ceEq false).f 0, id)] True⟩ := by cases b1 <;> kernel_rfl!
theorem fm_n1 (P : Params) (b1 b2 : Bool) (S) (e it : Nat) (old : Value) (u : Nat → Nat) :
    trimO [true, true, true] (run (ftP P b1 b2) (KP P) S 40 c0 none 0 [] (nextZ (.ref e)) [(e, enumO .none it 1 old), (it, tupIt (.ref 61) 1)] 0 (mkU 2 u) 1449902417987006863297306456585148527787905025 [] True) =
    some ⟨.fin (.done (.ret (.ref (u 1)))), [(e, enumO (.int ((u 1 : Nat) : Int) 0) it 2 (.ref 38)), (it, tupIt (.ref 61) 2), (u 1, tupO [.int 1 (u 0), .ref 38])], 0, okD 26 1449902417987006863297306456585148527787905025 [e, it, (u 1)] [] True⟩ := by cases b1 <;> kernel_rfl!
theorem fm_b21 (P : Params) (b1 b2 : Bool) (S) (h : Nat → Int) (k : Nat → Nat) (n L pm pn : Nat) (mode : Int) (t0 t1 : Nat) (b c : Value) (v : Nat → Value) (u : Nat → Nat) :
    trimO [true, true] (run (ftP P b1 b2) (KP P) S 138 c0 none 0 [] (flowZ (fmL1 P).b (envAt P 68 L)) [(L, fmF h k n (.int mode t0) pm (.int 2 t1) (.ref 40) b c), (pm, lsto (mkV 2 v) pn)] 0 (mkU 8 u) 1343097761931947461410517768334476425269907103191401701079559962110777580481359179823507189296096888661139364235232260653057 [ceEq true] True) =
    some ⟨.fin (.done .next), [(L, fmF h k n (.int mode t0) pm (.int 2 t1) (.ref 40) (kItem P 39 0) (kItem P 39 1)), (pm, lsto (app (mkV 2 v) [kItem P 39 1]) (pn + 1))], 0, okD 69 1343097761931947461410517768334476425269907103191401701079559962110777580481359179823507189296096888661139364235232260653057 [L, pm, (u 0), (u 1), (u 2), (u 3)] [(S (.call (.builtin "int.__eq__") ⟨[.int (bitAndZ mode 128) (u 7), kItem P 39 0], []⟩) [] 0 0 (ceEq true).f 0, id)] True⟩ := by cases b1 <;> kernel_rfl!
theorem fm_b20 (P : Params) (b1 b2 : Bool) (S) (h : Nat → Int) (k : Nat → Nat) (n L pm pn : Nat) (mode : Int) (t0 t1 : Nat) (b c : Value) (v : Nat → Value) (u : Nat → Nat) :
    trimO [true, true] (run (ftP P b1 b2) (KP P) S 163 c0 none 0 [] (flowZ (fmL1 P).b (envAt P 68 L)) [(L, fmF h k n (.int mode t0) pm (.int 2 t1) (.ref 40) b c), (pm, lsto (mkV 2 v) pn)] 0 (mkU 12 u) 1548486293230473026246196382279492249630919676918517194133422886965858373250306904912293726652210078891802536787649005141533486031670029058049 [ceEq false] True) =
    some ⟨.fin (.done .next), [(L, fmF h k n (.int mode t0) pm (.int 2 t1) (.ref 40) (kItem P 39 0) (kItem P 39 1)), (pm, lsto (app (mkV 2 v) [dash (u 11)]) (pn + 1))], 0, okD 79 1548486293230473026246196382279492249630919676918517194133422886965858373250306904912293726652210078891802536787649005141533486031670029058049 [L, pm, (u 0), (u 1), (u 2), (u 3), (u 8), (u 9)] [(S (.call (.builtin "int.__eq__") ⟨[.int (bitAndZ mode 128) (u 7), kItem P 39 0], []⟩) [] 0 0 (ceEq false).f 0, id)] True⟩ := by cases b1 <;> kernel_rfl!
theorem fm_n2 (P : Params) (b1 b2 : Bool) (S) (e it : Nat) (old : Value) (u : Nat → Nat) :
    trimO [true, true, true] (run (ftP P b1 b2) (KP P) S 40 c0 none 0 [] (nextZ (.ref e)) [(e, enumO .none it 2 old), (it, tupIt (.ref 61) 2)] 0 (mkU 2 u) 1449902417987006863297306456585148527787905025 [] True) =
    some ⟨.fin (.done (.ret (.ref (u 1)))), [(e, enumO (.int ((u 1 : Nat) : Int) 0) it 3 (.ref 40)), (it, tupIt (.ref 61) 3), (u 1, tupO [.int 2 (u 0), .ref 40])], 0, okD 26 1449902417987006863297306456585148527787905025 [e, it, (u 1)] [] True⟩ := by cases b1 <;> kernel_rfl!
theorem fm_b3s (P : Params) (b1 b2 : Bool) (S) (h : Nat → Int) (k : Nat → Nat) (n L pm pn : Nat) (mode : Int) (t0 t1 : Nat) (b c : Value) (v : Nat → Value) (u : Nat → Nat) :
    trimO [true, true] (run (ftP P b1 b2) (KP P) S 138 c0 none 0 [] (flowZ (fmL1 P).b (envAt P 68 L)) [(L, fmF h k n (.int mode t0) pm (.int 3 t1) (.ref 44) b c), (pm, lsto (mkV 3 v) pn)] 0 (mkU 8 u) 1343097761931947461410517768334476425269907103191401701079559962110777580481359179823507189296096888661139364235232260653057 [ceEq true] True) =
    some ⟨.fin (.done .next), [(L, fmF h k n (.int mode t0) pm (.int 3 t1) (.ref 44) (kItem P 41 0) (kItem P 41 1)), (pm, lsto (app (mkV 3 v) [kItem P 41 1]) (pn + 1))], 0, okD 69 1343097761931947461410517768334476425269907103191401701079559962110777580481359179823507189296096888661139364235232260653057 [L, pm, (u 0), (u 1), (u 2), (u 3)] [(S (.call (.builtin "int.__eq__") ⟨[.int (bitAndZ mode 2112) (u 7), kItem P 41 0], []⟩) [] 0 0 (ceEq true).f 0, id)] True⟩ := by cases b1 <;> kernel_rfl!
theorem fm_b3S (P : Params) (b1 b2 : Bool) (S) (h : Nat → Int) (k : Nat → Nat) (n L pm pn : Nat) (mode : Int) (t0 t1 : Nat) (b c : Value) (v : Nat → Value) (u : Nat → Nat) :
    trimO [true, true] (run (ftP P b1 b2) (KP P) S 235 c0 none 0 [] (flowZ (fmL1 P).b (envAt P 68 L)) [(L, fmF h k n (.int mode t0) pm (.int 3 t1) (.ref 44) b c), (pm, lsto (mkV 3 v) pn)] 0 (mkU 15 u) 175100061490541296415975814842388412436052943343316856248424163744470288104324907850035685865326542788867668984256636826840892240331989455257489218027859450175648518174684742971617854602687535687774512549988216602625 [ceEq false, ceEq true] True) =
    some ⟨.fin (.done .next), [(L, fmF h k n (.int mode t0) pm (.int 3 t1) (.ref 44) (kItem P 42 0) (kItem P 42 1)), (pm, lsto (app (mkV 3 v) [kItem P 42 1]) (pn + 1))], 0, okD 120 175100061490541296415975814842388412436052943343316856248424163744470288104324907850035685865326542788867668984256636826840892240331989455257489218027859450175648518174684742971617854602687535687774512549988216602625 [L, pm, (u 0), (u 1), (u 2), (u 3), (u 8), (u 9), (u 10)] [(S (.call (.builtin "int.__eq__") ⟨[.int (bitAndZ mode 2112) (u 7), kItem P 41 0], []⟩) [] 0 0 (ceEq false).f 0, id), (S (.call (.builtin "int.__eq__") ⟨[.int (bitAndZ mode 2048) (u 14), kItem P 42 0], []⟩) [] 0 0 (ceEq true).f 0, id)] True⟩ := by cases b1 <;> kernel_rfl!
theorem fm_b3x (P : Params) (b1 b2 : Bool) (S) (h : Nat → Int) (k : Nat → Nat) (n L pm pn : Nat) (mode : Int) (t0 t1 : Nat) (b c : Value) (v : Nat → Value) (u : Nat → Nat) :
    trimO [true, true] (run (ftP P b1 b2) (KP P) S 332 c0 none 0 [] (flowZ (fmL1 P).b (envAt P 68 L)) [(L, fmF h k n (.int mode t0) pm (.int 3 t1) (.ref 44) b c), (pm, lsto (mkV 3 v) pn)] 0 (mkU 22 u) 22827847981735253682326907954352534339644833038418946923821588630180577893737942459465066150055474625461564388029514922718433302516575932852658106821382964406183270884239744658050628596964541320281038809058322009220371888688462618087033285467218886711242643241157049163769584224100097257841491494886266896385 [ceEq false, ceEq false, ceEq true] True) =
    some ⟨.fin (.done .next), [(L, fmF h k n (.int mode t0) pm (.int 3 t1) (.ref 44) (kItem P 43 0) (kItem P 43 1)), (pm, lsto (app (mkV 3 v) [kItem P 43 1]) (pn + 1))], 0, okD 171 22827847981735253682326907954352534339644833038418946923821588630180577893737942459465066150055474625461564388029514922718433302516575932852658106821382964406183270884239744658050628596964541320281038809058322009220371888688462618087033285467218886711242643241157049163769584224100097257841491494886266896385 [L, pm, (u 0), (u 1), (u 2), (u 3), (u 8), (u 9), (u 10), (u 15), (u 16), (u 17)] [(S (.call (.builtin "int.__eq__") ⟨[.int (bitAndZ mode 2112) (u 7), kItem P 41 0], []⟩) [] 0 0 (ceEq false).f 0, id), (S (.call (.builtin "int.__eq__") ⟨[.int (bitAndZ mode 2048) (u 14), kItem P 42 0], []⟩) [] 0 0 (ceEq false).f 0, id), (S (.call (.builtin "int.__eq__") ⟨[.int (bitAndZ mode 64) (u 21), kItem P 43 0], []⟩) [] 0 0 (ceEq true).f 0, id)] True⟩ := by cases b1 <;> kernel_rfl!
theorem fm_b30 (P : Params) (b1 b2 : Bool) (S) (h : Nat → Int) (k : Nat → Nat) (n L pm pn : Nat) (mode : Int) (t0 t1 : Nat) (b c : Value) (v : Nat → Value) (u : Nat → Nat) :
    trimO [true, true] (run (ftP P b1 b2) (KP P) S 357 c0 none 0 [] (flowZ (fmL1 P).b (envAt P 68 L)) [(L, fmF h k n (.int mode t0) pm (.int 3 t1) (.ref 44) b c), (pm, lsto (mkV 3 v) pn)] 0 (mkU 26 u) 26318716854102697390512984092393884570090844866363504281319743482354014780615963109912139660890127651124830381364396606338036036724620522106878404018456006535936137472841967356859639549692199413742230543480362956963759258596677635332592355302088785828532818249280532162401585997205225088145291521330730654267033738342565937153 [ceEq false, ceEq false, ceEq false] True) =
    some ⟨.fin (.done .next), [(L, fmF h k n (.int mode t0) pm (.int 3 t1) (.ref 44) (kItem P 43 0) (kItem P 43 1)), (pm, lsto (app (mkV 3 v) [dash (u 25)]) (pn + 1))], 0, okD 181 26318716854102697390512984092393884570090844866363504281319743482354014780615963109912139660890127651124830381364396606338036036724620522106878404018456006535936137472841967356859639549692199413742230543480362956963759258596677635332592355302088785828532818249280532162401585997205225088145291521330730654267033738342565937153 [L, pm, (u 0), (u 1), (u 2), (u 3), (u 8), (u 9), (u 10), (u 15), (u 16), (u 17), (u 22), (u 23)] [(S (.call (.builtin "int.__eq__") ⟨[.int (bitAndZ mode 2112) (u 7), kItem P 41 0], []⟩) [] 0 0 (ceEq false).f 0, id), (S (.call (.builtin "int.__eq__") ⟨[.int (bitAndZ mode 2048) (u 14), kItem P 42 0], []⟩) [] 0 0 (ceEq false).f 0, id), (S (.call (.builtin "int.__eq__") ⟨[.int (bitAndZ mode 64) (u 21), kItem P 43 0], []⟩) [] 0 0 (ceEq false).f 0, id)] True⟩ := by cases b1 <;> kernel_rfl!
theorem fm_n3 (P : Params) (b1 b2 : Bool) (S) (e it : Nat) (old : Value) (u : Nat → Nat) :
    trimO [true, true, true] (run (ftP P b1 b2) (KP P) S 40 c0 none 0 [] (nextZ (.ref e)) [(e, enumO .none it 3 old), (it, tupIt (.ref 61) 3)] 0 (mkU 2 u) 1449902417987006863297306456585148527787905025 [] True) =
    some ⟨.fin (.done (.ret (.ref (u 1)))), [(e, enumO (.int ((u 1 : Nat) : Int) 0) it 4 (.ref 44)), (it, tupIt (.ref 61) 4), (u 1, tupO [.int 3 (u 0), .ref 44])], 0, okD 26 1449902417987006863297306456585148527787905025 [e, it, (u 1)] [] True⟩ := by cases b1 <;> kernel_rfl!
theorem fm_b41 (P : Params) (b1 b2 : Bool) (S) (h : Nat → Int) (k : Nat → Nat) (n L pm pn : Nat) (mode : Int) (t0 t1 : Nat) (b c : Value) (v : Nat → Value) (u : Nat → Nat) :
    trimO [true, true] (run (ftP P b1 b2) (KP P) S 138 c0 none 0 [] (flowZ (fmL1 P).b (envAt P 68 L)) [(L, fmF h k n (.int mode t0) pm (.int 4 t1) (.ref 46) b c), (pm, lsto (mkV 4 v) pn)] 0 (mkU 8 u) 1343097761931947461410517768334476425269907103191401701079559962110777580481359179823507189296096888661139364235232260653057 [ceEq true] True) =
    some ⟨.fin (.done .next), [(L, fmF h k n (.int mode t0) pm (.int 4 t1) (.ref 46) (kItem P 45 0) (kItem P 45 1)), (pm, lsto (app (mkV 4 v) [kItem P 45 1]) (pn + 1))], 0, okD 69 1343097761931947461410517768334476425269907103191401701079559962110777580481359179823507189296096888661139364235232260653057 [L, pm, (u 0), (u 1), (u 2), (u 3)] [(S (.call (.builtin "int.__eq__") ⟨[.int (bitAndZ mode 32) (u 7), kItem P 45 0], []⟩) [] 0 0 (ceEq true).f 0, id)] True⟩ := by cases b1 <;> kernel_rfl!
theorem fm_b40 (P : Params) (b1 b2 : Bool) (S) (h : Nat → Int) (k : Nat → Nat) (n L pm pn : Nat) (mode : Int) (t0 t1 : Nat) (b c : Value) (v : Nat → Value) (u : Nat → Nat) :
    trimO [true, true] (run (ftP P b1 b2) (KP P) S 163 c0 none 0 [] (flowZ (fmL1 P).b (envAt P 68 L)) [(L, fmF h k n (.int mode t0) pm (.int 4 t1) (.ref 46) b c), (pm, lsto (mkV 4 v) pn)] 0 (mkU 12 u) 1548486293230473026246196382279492249630919676918517194133422886965858373250306904912293726652210078891802536787649005141533486031670029058049 [ceEq false] True) =
    some ⟨.fin (.done .next), [(L, fmF h k n (.int mode t0) pm (.int 4 t1) (.ref 46) (kItem P 45 0) (kItem P 45 1)), (pm, lsto (app (mkV 4 v) [dash (u 11)]) (pn + 1))], 0, okD 79 1548486293230473026246196382279492249630919676918517194133422886965858373250306904912293726652210078891802536787649005141533486031670029058049 [L, pm, (u 0), (u 1), (u 2), (u 3), (u 8), (u 9)] [(S (.call (.builtin "int.__eq__") ⟨[.int (bitAndZ mode 32) (u 7), kItem P 45 0], []⟩) [] 0 0 (ceEq false).f 0, id)] True⟩ := by cases b1 <;> kernel_rfl!
theorem fm_n4 (P : Params) (b1 b2 : Bool) (S) (e it : Nat) (old : Value) (u : Nat → Nat) :
    trimO [true, true, true] (run (ftP P b1 b2) (KP P) S 40 c0 none 0 [] (nextZ (.ref e)) [(e, enumO .none it 4 old), (it, tupIt (.ref 61) 4)] 0 (mkU 2 u) 1449902417987006863297306456585148527787905025 [] True) =
    some ⟨.fin (.done (.ret (.ref (u 1)))), [(e, enumO (.int ((u 1 : Nat) : Int) 0) it 5 (.ref 46)), (it, tupIt (.ref 61) 5), (u 1, tupO [.int 4 (u 0), .ref 46])], 0, okD 26 1449902417987006863297306456585148527787905025 [e, it, (u 1)] [] True⟩ := by cases b1 <;> kernel_rfl!
theorem fm_b51 (P : Params) (b1 b2 : Bool) (S) (h : Nat → Int) (k : Nat → Nat) (n L pm pn : Nat) (mode : Int) (t0 t1 : Nat) (b c : Value) (v : Nat → Value) (u : Nat → Nat) :
    trimO [true, true] (run (ftP P b1 b2) (KP P) S 138 c0 none 0 [] (flowZ (fmL1 P).b (envAt P 68 L)) [(L, fmF h k n (.int mode t0) pm (.int 5 t1) (.ref 48) b c), (pm, lsto (mkV 5 v) pn)] 0 (mkU 8 u) 1343097761931947461410517768334476425269907103191401701079559962110777580481359179823507189296096888661139364235232260653057 [ceEq true] True) =
    some ⟨.fin (.done .next), [(L, fmF h k n (.int mode t0) pm (.int 5 t1) (.ref 48) (kItem P 47 0) (kItem P 47 1)), (pm, lsto (app (mkV 5 v) [kItem P 47 1]) (pn + 1))], 0, okD 69 1343097761931947461410517768334476425269907103191401701079559962110777580481359179823507189296096888661139364235232260653057 [L, pm, (u 0), (u 1), (u 2), (u 3)] [(S (.call (.builtin "int.__eq__") ⟨[.int (bitAndZ mode 16) (u 7), kItem P 47 0], []⟩) [] 0 0 (ceEq true).f 0, id)] True⟩ := by cases b1 <;> kernel_rfl!
theorem fm_b50 (P : Params) (b1 b2 : Bool) (S) (h : Nat → Int) (k : Nat → Nat) (n L pm pn : Nat) (mode : Int) (t0 t1 : Nat) (b c : Value) (v : Nat → Value) (u : Nat → Nat) :
    trimO [true, true] (run (ftP P b1 b2) (KP P) S 163 c0 none 0 [] (flowZ (fmL1 P).b (envAt P 68 L)) [(L, fmF h k n (.int mode t0) pm (.int 5 t1) (.ref 48) b c), (pm, lsto (mkV 5 v) pn)] 0 (mkU 12 u) 1548486293230473026246196382279492249630919676918517194133422886965858373250306904912293726652210078891802536787649005141533486031670029058049 [ceEq false] True) =
    some ⟨.fin (.done .next), [(L, fmF h k n (.int mode t0) pm (.int 5 t1) (.ref 48) (kItem P 47 0) (kItem P 47 1)), (pm, lsto (app (mkV 5 v) [dash (u 11)]) (pn + 1))], 0, okD 79 1548486293230473026246196382279492249630919676918517194133422886965858373250306904912293726652210078891802536787649005141533486031670029058049 [L, pm, (u 0), (u 1), (u 2), (u 3), (u 8), (u 9)] [(S (.call (.builtin "int.__eq__") ⟨[.int (bitAndZ mode 16) (u 7), kItem P 47 0], []⟩) [] 0 0 (ceEq false).f 0, id)] True⟩ := by cases b1 <;> kernel_rfl!
theorem fm_n5 (P : Params) (b1 b2 : Bool) (S) (e it : Nat) (old : Value) (u : Nat → Nat) :
    trimO [true, true, true] (run (ftP P b1 b2) (KP P) S 40 c0 none 0 [] (nextZ (.ref e)) [(e, enumO .none it 5 old), (it, tupIt (.ref 61) 5)] 0 (mkU 2 u) 1449902417987006863297306456585148527787905025 [] True) =
    some ⟨.fin (.done (.ret (.ref (u 1)))), [(e, enumO (.int ((u 1 : Nat) : Int) 0) it 6 (.ref 48)), (it, tupIt (.ref 61) 6), (u 1, tupO [.int 5 (u 0), .ref 48])], 0, okD 26 1449902417987006863297306456585148527787905025 [e, it, (u 1)] [] True⟩ := by cases b1 <;> kernel_rfl!
theorem fm_b6s (P : Params) (b1 b2 : Bool) (S) (h : Nat → Int) (k : Nat → Nat) (n L pm pn : Nat) (mode : Int) (t0 t1 : Nat) (b c : Value) (v : Nat → Value) (u : Nat → Nat) :
    trimO [true, true] (run (ftP P b1 b2) (KP P) S 138 c0 none 0 [] (flowZ (fmL1 P).b (envAt P 68 L)) [(L, fmF h k n (.int mode t0) pm (.int 6 t1) (.ref 52) b c), (pm, lsto (mkV 6 v) pn)] 0 (mkU 8 u) 1343097761931947461410517768334476425269907103191401701079559962110777580481359179823507189296096888661139364235232260653057 [ceEq true] True) =
    some ⟨.fin (.done .next), [(L, fmF h k n (.int mode t0) pm (.int 6 t1) (.ref 52) (kItem P 49 0) (kItem P 49 1)), (pm, lsto (app (mkV 6 v) [kItem P 49 1]) (pn + 1))], 0, okD 69 1343097761931947461410517768334476425269907103191401701079559962110777580481359179823507189296096888661139364235232260653057 [L, pm, (u 0), (u 1), (u 2), (u 3)] [(S (.call (.builtin "int.__eq__") ⟨[.int (bitAndZ mode 1032) (u 7), kItem P 49 0], []⟩) [] 0 0 (ceEq true).f 0, id)] True⟩ := by cases b1 <;> kernel_rfl!
theorem fm_b6S (P : Params) (b1 b2 : Bool) (S) (h : Nat → Int) (k : Nat → Nat) (n L pm pn : Nat) (mode : Int) (t0 t1 : Nat) (b c : Value) (v : Nat → Value) (u : Nat → Nat) :
    trimO [true, true] (run (ftP P b1 b2) (KP P) S 235 c0 none 0 [] (flowZ (fmL1 P).b (envAt P 68 L)) [(L, fmF h k n (.int mode t0) pm (.int 6 t1) (.ref 52) b c), (pm, lsto (mkV 6 v) pn)] 0 (mkU 15 u) 175100061490541296415975814842388412436052943343316856248424163744470288104324907850035685865326542788867668984256636826840892240331989455257489218027859450175648518174684742971617854602687535687774512549988216602625 [ceEq false, ceEq true] True) =
    some ⟨.fin (.done .next), [(L, fmF h k n (.int mode t0) pm (.int 6 t1) (.ref 52) (kItem P 50 0) (kItem P 50 1)), (pm, lsto (app (mkV 6 v) [kItem P 50 1]) (pn + 1))], 0, okD 120 175100061490541296415975814842388412436052943343316856248424163744470288104324907850035685865326542788867668984256636826840892240331989455257489218027859450175648518174684742971617854602687535687774512549988216602625 [L, pm, (u 0), (u 1), (u 2), (u 3), (u 8), (u 9), (u 10)] [(S (.call (.builtin "int.__eq__") ⟨[.int (bitAndZ mode 1032) (u 7), kItem P 49 0], []⟩) [] 0 0 (ceEq false).f 0, id), (S (.call (.builtin "int.__eq__") ⟨[.int (bitAndZ mode 1024) (u 14), kItem P 50 0], []⟩) [] 0 0 (ceEq true).f 0, id)] True⟩ := by cases b1 <;> kernel_rfl!
theorem fm_b6x (P : Params) (b1 b2 : Bool) (S) (h : Nat → Int) (k : Nat → Nat) (n L pm pn : Nat) (mode : Int) (t0 t1 : Nat) (b c : Value) (v : Nat → Value) (u : Nat → Nat) :
    trimO [true, true] (run (ftP P b1 b2) (KP P) S 332 c0 none 0 [] (flowZ (fmL1 P).b (envAt P 68 L)) [(L, fmF h k n (.int mode t0) pm (.int 6 t1) (.ref 52) b c), (pm, lsto (mkV 6 v) pn)] 0 (mkU 22 u) 22827847981735253682326907954352534339644833038418946923821588630180577893737942459465066150055474625461564388029514922718433302516575932852658106821382964406183270884239744658050628596964541320281038809058322009220371888688462618087033285467218886711242643241157049163769584224100097257841491494886266896385 [ceEq false, ceEq false, ceEq true] True) =
    some ⟨.fin (.done .next), [(L, fmF h k n (.int mode t0) pm (.int 6 t1) (.ref 52) (kItem P 51 0) (kItem P 51 1)), (pm, lsto (app (mkV 6 v) [kItem P 51 1]) (pn + 1))], 0, okD 171 22827847981735253682326907954352534339644833038418946923821588630180577893737942459465066150055474625461564388029514922718433302516575932852658106821382964406183270884239744658050628596964541320281038809058322009220371888688462618087033285467218886711242643241157049163769584224100097257841491494886266896385 [L, pm, (u 0), (u 1), (u 2), (u 3), (u 8), (u 9), (u 10), (u 15), (u 16), (u 17)] [(S (.call (.builtin "int.__eq__") ⟨[.int (bitAndZ mode 1032) (u 7), kItem P 49 0], []⟩) [] 0 0 (ceEq false).f 0, id), (S (.call (.builtin "int.__eq__") ⟨[.int (bitAndZ mode 1024) (u 14), kItem P 50 0], []⟩) [] 0 0 (ceEq false).f 0, id), (S (.call (.builtin "int.__eq__") ⟨[.int (bitAndZ mode 8) (u 21), kItem P 51 0], []⟩) [] 0 0 (ceEq true).f 0, id)] True⟩ := by cases b1 <;> kernel_rfl!
theorem fm_b60 (P : Params) (b1 b2 : Bool) (S) (h : Nat → Int) (k : Nat → Nat) (n L pm pn : Nat) (mode : Int) (t0 t1 : Nat) (b c : Value) (v : Nat → Value) (u : Nat → Nat) :
    trimO [true, true] (run (ftP P b1 b2) (KP P) S 357 c0 none 0 [] (flowZ (fmL1 P).b (envAt P 68 L)) [(L, fmF h k n (.int mode t0) pm (.int 6 t1) (.ref 52) b c), (pm, lsto (mkV 6 v) pn)] 0 (mkU 26 u) 26318716854102697390512984092393884570090844866363504281319743482354014780615963109912139660890127651124830381364396606338036036724620522106878404018456006535936137472841967356859639549692199413742230543480362956963759258596677635332592355302088785828532818249280532162401585997205225088145291521330730654267033738342565937153 [ceEq false, ceEq false, ceEq false] True) =
    some ⟨.fin (.done .next), [(L, fmF h k n (.int mode t0) pm (.int 6 t1) (.ref 52) (kItem P 51 0) (kItem P 51 1)), (pm, lsto (app (mkV 6 v) [dash (u 25)]) (pn + 1))], 0, okD 181 26318716854102697390512984092393884570090844866363504281319743482354014780615963109912139660890127651124830381364396606338036036724620522106878404018456006535936137472841967356859639549692199413742230543480362956963759258596677635332592355302088785828532818249280532162401585997205225088145291521330730654267033738342565937153 [L, pm, (u 0), (u 1), (u 2), (u 3), (u 8), (u 9), (u 10), (u 15), (u 16), (u 17), (u 22), (u 23)] [(S (.call (.builtin "int.__eq__") ⟨[.int (bitAndZ mode 1032) (u 7), kItem P 49 0], []⟩) [] 0 0 (ceEq false).f 0, id), (S (.call (.builtin "int.__eq__") ⟨[.int (bitAndZ mode 1024) (u 14), kItem P 50 0], []⟩) [] 0 0 (ceEq false).f 0, id), (S (.call (.builtin "int.__eq__") ⟨[.int (bitAndZ mode 8) (u 21), kItem P 51 0], []⟩) [] 0 0 (ceEq false).f 0, id)] True⟩ := by cases b1 <;> kernel_rfl!
theorem fm_n6 (P : Params) (b1 b2 : Bool) (S) (e it : Nat) (old : Value) (u : Nat → Nat) :
    trimO [true, true, true] (run (ftP P b1 b2) (KP P) S 40 c0 none 0 [] (nextZ (.ref e)) [(e, enumO .none it 6 old), (it, tupIt (.ref 61) 6)] 0 (mkU 2 u) 1449902417987006863297306456585148527787905025 [] True) =
    some ⟨.fin (.done (.ret (.ref (u 1)))), [(e, enumO (.int ((u 1 : Nat) : Int) 0) it 7 (.ref 52)), (it, tupIt (.ref 61) 7), (u 1, tupO [.int 6 (u 0), .ref 52])], 0, okD 26 1449902417987006863297306456585148527787905025 [e, it, (u 1)] [] True⟩ := by cases b1 <;> kernel_rfl!
theorem fm_b71 (P : Params) (b1 b2 : Bool) (S) (h : Nat → Int) (k : Nat → Nat) (n L pm pn : Nat) (mode : Int) (t0 t1 : Nat) (b c : Value) (v : Nat → Value) (u : Nat → Nat) :
    trimO [true, true] (run (ftP P b1 b2) (KP P) S 138 c0 none 0 [] (flowZ (fmL1 P).b (envAt P 68 L)) [(L, fmF h k n (.int mode t0) pm (.int 7 t1) (.ref 54) b c), (pm, lsto (mkV 7 v) pn)] 0 (mkU 8 u) 1343097761931947461410517768334476425269907103191401701079559962110777580481359179823507189296096888661139364235232260653057 [ceEq true] True) =
    some ⟨.fin (.done .next), [(L, fmF h k n (.int mode t0) pm (.int 7 t1) (.ref 54) (kItem P 53 0) (kItem P 53 1)), (pm, lsto (app (mkV 7 v) [kItem P 53 1]) (pn + 1))], 0, okD 69 1343097761931947461410517768334476425269907103191401701079559962110777580481359179823507189296096888661139364235232260653057 [L, pm, (u 0), (u 1), (u 2), (u 3)] [(S (.call (.builtin "int.__eq__") ⟨[.int (bitAndZ mode 4) (u 7), kItem P 53 0], []⟩) [] 0 0 (ceEq true).f 0, id)] True⟩ := by cases b1 <;> kernel_rfl!
theorem fm_b70 (P : Params) (b1 b2 : Bool) (S) (h : Nat → Int) (k : Nat → Nat) (n L pm pn : Nat) (mode : Int) (t0 t1 : Nat) (b c : Value) (v : Nat → Value) (u : Nat → Nat) :
    trimO [true, true] (run (ftP P b1 b2) (KP P) S 163 c0 none 0 [] (flowZ (fmL1 P).b (envAt P 68 L)) [(L, fmF h k n (.int mode t0) pm (.int 7 t1) (.ref 54) b c), (pm, lsto (mkV 7 v) pn)] 0 (mkU 12 u) 1548486293230473026246196382279492249630919676918517194133422886965858373250306904912293726652210078891802536787649005141533486031670029058049 [ceEq false] True) =
    some ⟨.fin (.done .next), [(L, fmF h k n (.int mode t0) pm (.int 7 t1) (.ref 54) (kItem P 53 0) (kItem P 53 1)), (pm, lsto (app (mkV 7 v) [dash (u 11)]) (pn + 1))], 0, okD 79 1548486293230473026246196382279492249630919676918517194133422886965858373250306904912293726652210078891802536787649005141533486031670029058049 [L, pm, (u 0), (u 1), (u 2), (u 3), (u 8), (u 9)] [(S (.call (.builtin "int.__eq__") ⟨[.int (bitAndZ mode 4) (u 7), kItem P 53 0], []⟩) [] 0 0 (ceEq false).f 0, id)] True⟩ := by cases b1 <;> kernel_rfl!
theorem fm_n7 (P : Params) (b1 b2 : Bool) (S) (e it : Nat) (old : Value) (u : Nat → Nat) :
    trimO [true, true, true] (run (ftP P b1 b2) (KP P) S 40 c0 none 0 [] (nextZ (.ref e)) [(e, enumO .none it 7 old), (it, tupIt (.ref 61) 7)] 0 (mkU 2 u) 1449902417987006863297306456585148527787905025 [] True) =
    some ⟨.fin (.done (.ret (.ref (u 1)))), [(e, enumO (.int ((u 1 : Nat) : Int) 0) it 8 (.ref 54)), (it, tupIt (.ref 61) 8), (u 1, tupO [.int 7 (u 0), .ref 54])], 0, okD 26 1449902417987006863297306456585148527787905025 [e, it, (u 1)] [] True⟩ := by cases b1 <;> kernel_rfl!
theorem fm_b81 (P : Params) (b1 b2 : Bool) (S) (h : Nat → Int) (k : Nat → Nat) (n L pm pn : Nat) (mode : Int) (t0 t1 : Nat) (b c : Value) (v : Nat → Value) (u : Nat → Nat) :
    trimO [true, true] (run (ftP P b1 b2) (KP P) S 138 c0 none 0 [] (flowZ (fmL1 P).b (envAt P 68 L)) [(L, fmF h k n (.int mode t0) pm (.int 8 t1) (.ref 56) b c), (pm, lsto (mkV 8 v) pn)] 0 (mkU 8 u) 1343097761931947461410517768334476425269907103191401701079559962110777580481359179823507189296096888661139364235232260653057 [ceEq true] True) =
    some ⟨.fin (.done .next), [(L, fmF h k n (.int mode t0) pm (.int 8 t1) (.ref 56) (kItem P 55 0) (kItem P 55 1)), (pm, lsto (app (mkV 8 v) [kItem P 55 1]) (pn + 1))], 0, okD 69 1343097761931947461410517768334476425269907103191401701079559962110777580481359179823507189296096888661139364235232260653057 [L, pm, (u 0), (u 1), (u 2), (u 3)] [(S (.call (.builtin "int.__eq__") ⟨[.int (bitAndZ mode 2) (u 7), kItem P 55 0], []⟩) [] 0 0 (ceEq true).f 0, id)] True⟩ := by cases b1 <;> kernel_rfl!
theorem fm_b80 (P : Params) (b1 b2 : Bool) (S) (h : Nat → Int) (k : Nat → Nat) (n L pm pn : Nat) (mode : Int) (t0 t1 : Nat) (b c : Value) (v : Nat → Value) (u : Nat → Nat) :
    trimO [true, true] (run (ftP P b1 b2) (KP P) S 163 c0 none 0 [] (flowZ (fmL1 P).b (envAt P 68 L)) [(L, fmF h k n (.int mode t0) pm (.int 8 t1) (.ref 56) b c), (pm, lsto (mkV 8 v) pn)] 0 (mkU 12 u) 1548486293230473026246196382279492249630919676918517194133422886965858373250306904912293726652210078891802536787649005141533486031670029058049 [ceEq false] True) =
    some ⟨.fin (.done .next), [(L, fmF h k n (.int mode t0) pm (.int 8 t1) (.ref 56) (kItem P 55 0) (kItem P 55 1)), (pm, lsto (app (mkV 8 v) [dash (u 11)]) (pn + 1))], 0, okD 79 1548486293230473026246196382279492249630919676918517194133422886965858373250306904912293726652210078891802536787649005141533486031670029058049 [L, pm, (u 0), (u 1), (u 2), (u 3), (u 8), (u 9)] [(S (.call (.builtin "int.__eq__") ⟨[.int (bitAndZ mode 2) (u 7), kItem P 55 0], []⟩) [] 0 0 (ceEq false).f 0, id)] True⟩ := by cases b1 <;> kernel_rfl!
theorem fm_n8 (P : Params) (b1 b2 : Bool) (S) (e it : Nat) (old : Value) (u : Nat → Nat) :
    trimO [true, true, true] (run (ftP P b1 b2) (KP P) S 40 c0 none 0 [] (nextZ (.ref e)) [(e, enumO .none it 8 old), (it, tupIt (.ref 61) 8)] 0 (mkU 2 u) 1449902417987006863297306456585148527787905025 [] True) =
    some ⟨.fin (.done (.ret (.ref (u 1)))), [(e, enumO (.int ((u 1 : Nat) : Int) 0) it 9 (.ref 56)), (it, tupIt (.ref 61) 9), (u 1, tupO [.int 8 (u 0), .ref 56])], 0, okD 26 1449902417987006863297306456585148527787905025 [e, it, (u 1)] [] True⟩ := by cases b1 <;> kernel_rfl!
theorem fm_b9s (P : Params) (b1 b2 : Bool) (S) (h : Nat → Int) (k : Nat → Nat) (n L pm pn : Nat) (mode : Int) (t0 t1 : Nat) (b c : Value) (v : Nat → Value) (u : Nat → Nat) :
    trimO [true, true] (run (ftP P b1 b2) (KP P) S 138 c0 none 0 [] (flowZ (fmL1 P).b (envAt P 68 L)) [(L, fmF h k n (.int mode t0) pm (.int 9 t1) (.ref 60) b c), (pm, lsto (mkV 9 v) pn)] 0 (mkU 8 u) 1343097761931947461410517768334476425269907103191401701079559962110777580481359179823507189296096888661139364235232260653057 [ceEq true] True) =
    some ⟨.fin (.done .next), [(L, fmF h k n (.int mode t0) pm (.int 9 t1) (.ref 60) (kItem P 57 0) (kItem P 57 1)), (pm, lsto (app (mkV 9 v) [kItem P 57 1]) (pn + 1))], 0, okD 69 1343097761931947461410517768334476425269907103191401701079559962110777580481359179823507189296096888661139364235232260653057 [L, pm, (u 0), (u 1), (u 2), (u 3)] [(S (.call (.builtin "int.__eq__") ⟨[.int (bitAndZ mode 513) (u 7), kItem P 57 0], []⟩) [] 0 0 (ceEq true).f 0, id)] True⟩ := by cases b1 <;> kernel_rfl!
theorem fm_b9S (P : Params) (b1 b2 : Bool) (S) (h : Nat → Int) (k : Nat → Nat) (n L pm pn : Nat) (mode : Int) (t0 t1 : Nat) (b c : Value) (v : Nat → Value) (u : Nat → Nat) :
    trimO [true, true] (run (ftP P b1 b2) (KP P) S 235 c0 none 0 [] (flowZ (fmL1 P).b (envAt P 68 L)) [(L, fmF h k n (.int mode t0) pm (.int 9 t1) (.ref 60) b c), (pm, lsto (mkV 9 v) pn)] 0 (mkU 15 u) 175100061490541296415975814842388412436052943343316856248424163744470288104324907850035685865326542788867668984256636826840892240331989455257489218027859450175648518174684742971617854602687535687774512549988216602625 [ceEq false, ceEq true] True) =
    some ⟨.fin (.done .next), [(L, fmF h k n (.int mode t0) pm (.int 9 t1) (.ref 60) (kItem P 58 0) (kItem P 58 1)), (pm, lsto (app (mkV 9 v) [kItem P 58 1]) (pn + 1))], 0, okD 120 175100061490541296415975814842388412436052943343316856248424163744470288104324907850035685865326542788867668984256636826840892240331989455257489218027859450175648518174684742971617854602687535687774512549988216602625 [L, pm, (u 0), (u 1), (u 2), (u 3), (u 8), (u 9), (u 10)] [(S (.call (.builtin "int.__eq__") ⟨[.int (bitAndZ mode 513) (u 7), kItem P 57 0], []⟩) [] 0 0 (ceEq false).f 0, id), (S (.call (.builtin "int.__eq__") ⟨[.int (bitAndZ mode 512) (u 14), kItem P 58 0], []⟩) [] 0 0 (ceEq true).f 0, id)] True⟩ := by cases b1 <;> kernel_rfl!
theorem fm_b9x (P : Params) (b1 b2 : Bool) (S) (h : Nat → Int) (k : Nat → Nat) (n L pm pn : Nat) (mode : Int) (t0 t1 : Nat) (b c : Value) (v : Nat → Value) (u : Nat → Nat) :
    trimO [true, true] (run (ftP P b1 b2) (KP P) S 332 c0 none 0 [] (flowZ (fmL1 P).b (envAt P 68 L)) [(L, fmF h k n (.int mode t0) pm (.int 9 t1) (.ref 60) b c), (pm, lsto (mkV 9 v) pn)] 0 (mkU 22 u) 22827847981735253682326907954352534339644833038418946923821588630180577893737942459465066150055474625461564388029514922718433302516575932852658106821382964406183270884239744658050628596964541320281038809058322009220371888688462618087033285467218886711242643241157049163769584224100097257841491494886266896385 [ceEq false, ceEq false, ceEq true] True) =
    some ⟨.fin (.done .next), [(L, fmF h k n (.int mode t0) pm (.int 9 t1) (.ref 60) (kItem P 59 0) (kItem P 59 1)), (pm, lsto (app (mkV 9 v) [kItem P 59 1]) (pn + 1))], 0, okD 171 22827847981735253682326907954352534339644833038418946923821588630180577893737942459465066150055474625461564388029514922718433302516575932852658106821382964406183270884239744658050628596964541320281038809058322009220371888688462618087033285467218886711242643241157049163769584224100097257841491494886266896385 [L, pm, (u 0), (u 1), (u 2), (u 3), (u 8), (u 9), (u 10), (u 15), (u 16), (u 17)] [(S (.call (.builtin "int.__eq__") ⟨[.int (bitAndZ mode 513) (u 7), kItem P 57 0], []⟩) [] 0 0 (ceEq false).f 0, id), (S (.call (.builtin "int.__eq__") ⟨[.int (bitAndZ mode 512) (u 14), kItem P 58 0], []⟩) [] 0 0 (ceEq false).f 0, id), (S (.call (.builtin "int.__eq__") ⟨[.int (bitAndZ mode 1) (u 21), kItem P 59 0], []⟩) [] 0 0 (ceEq true).f 0, id)] True⟩ := by cases b1 <;> kernel_rfl!
theorem fm_b90 (P : Params) (b1 b2 : Bool) (S) (h : Nat → Int) (k : Nat → Nat) (n L pm pn : Nat) (mode : Int) (t0 t1 : Nat) (b c : Value) (v : Nat → Value) (u : Nat → Nat) :
    trimO [true, true] (run (ftP P b1 b2) (KP P) S 357 c0 none 0 [] (flowZ (fmL1 P).b (envAt P 68 L)) [(L, fmF h k n (.int mode t0) pm (.int 9 t1) (.ref 60) b c), (pm, lsto (mkV 9 v) pn)] 0 (mkU 26 u) 26318716854102697390512984092393884570090844866363504281319743482354014780615963109912139660890127651124830381364396606338036036724620522106878404018456006535936137472841967356859639549692199413742230543480362956963759258596677635332592355302088785828532818249280532162401585997205225088145291521330730654267033738342565937153 [ceEq false, ceEq false, ceEq false] True) =
    some ⟨.fin (.done .next), [(L, fmF h k n (.int mode t0) pm (.int 9 t1) (.ref 60) (kItem P 59 0) (kItem P 59 1)), (pm, lsto (app (mkV 9 v) [dash (u 25)]) (pn + 1))], 0, okD 181 26318716854102697390512984092393884570090844866363504281319743482354014780615963109912139660890127651124830381364396606338036036724620522106878404018456006535936137472841967356859639549692199413742230543480362956963759258596677635332592355302088785828532818249280532162401585997205225088145291521330730654267033738342565937153 [L, pm, (u 0), (u 1), (u 2), (u 3), (u 8), (u 9), (u 10), (u 15), (u 16), (u 17), (u 22), (u 23)] [(S (.call (.builtin "int.__eq__") ⟨[.int (bitAndZ mode 513) (u 7), kItem P 57 0], []⟩) [] 0 0 (ceEq false).f 0, id), (S (.call (.builtin "int.__eq__") ⟨[.int (bitAndZ mode 512) (u 14), kItem P 58 0], []⟩) [] 0 0 (ceEq false).f 0, id), (S (.call (.builtin "int.__eq__") ⟨[.int (bitAndZ mode 1) (u 21), kItem P 59 0], []⟩) [] 0 0 (ceEq false).f 0, id)] True⟩ := by cases b1 <;> kernel_rfl!
theorem fm_n9 (P : Params) (b1 b2 : Bool) (S) (e it : Nat) (old : Value) (u : Nat → Nat) :
    trimO [true, true, true] (run (ftP P b1 b2) (KP P) S 40 c0 none 0 [] (nextZ (.ref e)) [(e, enumO .none it 9 old), (it, tupIt (.ref 61) 9)] 0 (mkU 2 u) 1449902417987006863297306456585148527787905025 [] True) =
    some ⟨.fin (.done (.ret (.ref (u 1)))), [(e, enumO (.int ((u 1 : Nat) : Int) 0) it 10 (.ref 60)), (it, tupIt (.ref 61) 10), (u 1, tupO [.int 9 (u 0), .ref 60])], 0, okD 26 1449902417987006863297306456585148527787905025 [e, it, (u 1)] [] True⟩ := by cases b1 <;> kernel_rfl!
theorem fm_n10 (P : Params) (b1 b2 : Bool) (S) (e it : Nat) (old : Value) (u : Nat → Nat) :
    trimO [] (run (ftP P b1 b2) (KP P) S 27 c0 none 0 [] (nextZ (.ref e)) [(e, enumO .none it 10 old), (it, tupIt (.ref 61) 10)] 0 (mkU 2 u) 19039346298960990179329 [] True) =
    some ⟨.fin (.done .next), [], 0, okD 13 19039346298960990179329 [e, it, (u 0), (u 1)] [] True⟩ := by cases b1 <;> kernel_rfl!
theorem fm_a0 (P : Params) (b1 b2 : Bool) (S) (h : Nat → Int) (k : Nat → Nat) (n L pm T : Nat) (m : Value) (i : Int) (t1 tb : Nat) (u : Nat → Nat) :
    trimO [true] (run (ftP P b1 b2) (KP P) S 66 c0 none 0 [] (assZ (fmL1 P).t (envAt P 68 L) (.ref T)) [(L, fmF2 h k n m pm), (T, tupO [.int i t1, .ref tb])] 0 (mkU 5 u) 26119126136106430533528173469352988631700439643516731314413698 [] True) =
    some ⟨.fin (.done .next), [(L, fmF4 (ext2 h 2 (hs P nIndex) (hs P nTable)) (ext2 k 2 (u 3) (u 4)) (n + 2) m pm (.int i t1) (.ref tb))], 0, okD 35 26119126136106430533528173469352988631700439643516731314413698 [L, T, (u 0), (u 1), (u 2)] [] True⟩ := by cases b1 <;> kernel_rfl!
theorem fm_a1 (P : Params) (b1 b2 : Bool) (S) (h : Nat → Int) (k : Nat → Nat) (n L pm T : Nat) (m i0 t0 b c : Value) (i : Int) (t1 tb : Nat) (u : Nat → Nat) :
    trimO [true] (run (ftP P b1 b2) (KP P) S 66 c0 none 0 [] (assZ (fmL1 P).t (envAt P 68 L) (.ref T)) [(L, fmF h k n m pm i0 t0 b c), (T, tupO [.int i t1, .ref tb])] 0 (mkU 5 u) 26119126136106430533528173469352988631700439643516731314413698 [] True) =
    some ⟨.fin (.done .next), [(L, fmF h k n m pm (.int i t1) (.ref tb) b c)], 0, okD 35 26119126136106430533528173469352988631700439643516731314413698 [L, T, (u 0), (u 1), (u 2)] [] True⟩ := by cases b1 <;> kernel_rfl!
end Mine
end
-- F4
section
open PySem PySem.Spec PySem.Calls PyProof.Rows PySem.W PySem.W.X
namespace Mine
section
variable {w : World} {K : Frag} {J : Nat → Array GenState → Prop} {d : Nat}
theorem wp_unsup {α : Type} {M : Model} {Γ : PySem.Ctx} {x : String} {Q : α → Pos → Shared → Prop} {E : Value → Pos → Shared → Prop} {p : Pos} {s : Shared} (h : Sem.wp M Γ (.unsupported x : Sem α) Q E p s) : False := by
  rw [Sem.wp] at h; exact h
theorem spec_val {f : Value} {args : List Value} {Hi : List Ent} {j j' n : Nat} {gv : List Nat → Value} {gH : List Nat → List Ent}
    (h : ∀ (A : Around) (B : Addr → Option Obj) (os : OsState) (dr : Drawn) (s : Shared) (Q : Value → Shared → Prop), AOk d A → KIn K B → Rel J B os dr Hi j s → (∀ us s', us.length = n → Rel J B os dr (gH us) j' s' → Q (gv us) s') → wpAny (Mo w) A (call f args) Q (fun _ _ => False) s) :
    Spec w K d J (.call f ⟨args, []⟩) Hi j n (fun us => (.ok (.ret (gv us)), gH us)) j' := by
  intro A B os dr s Q hA hK R hQ
  have z := h A B os dr s (fun v s' => Q (.ok (.ret v)) s') hA hK R hQ
  intro Γ p hΓ
  have y := z Γ p hΓ
  have e : call f args = .call (.call f ⟨args, []⟩) none false [] fun x => (match x with | .ok fl => (Sem.pure fl : Sem Flow) | .error e => .raise e).bind fun fl => match fl with | .ret v => pure v | _ => unsupported "internal:call-without-return-value" := rfl
  rw [e, Sem.wp_call] at y
  rw [Sem.wp_call]
  refine wpCode_mono (fun r s' q => ?_) y
  cases r with
  | error e => exact absurd q (by intro h; exact h)
  | ok fl =>
    cases fl with
    | ret v => exact q
    | next => exact (wp_unsup q).elim
    | brk => exact (wp_unsup q).elim
    | cont => exact (wp_unsup q).elim
theorem eq_seg (P : Params) (K : Frag) (S) (j : Nat) (x y : Int) (t u : Nat) (v : Nat → Nat) : trimO [] (run P K S 30 c0 none 0 [] (runT (.call (.builtin "int.__eq__") ⟨[.int x t, .int y u], []⟩)) [] j (mkU 0 v) 0 [] True) =
    some ⟨.fin (.done (.ret (.bool (@decide (x = y) (Z.eqZ x y))))), [], j, True⟩ := by kernel_rfl!
theorem spec_eq (hd : 14 ≤ d) (j : Nat) {x y : Int} (t u : Nat) {b : Bool} (h : decide (x = y) = b) : Spec w K (d - 14) J (.call (.builtin "int.__eq__") ⟨[.int x t, .int y u], []⟩) [] j 0 (ceEq b).f j := by
  refine spec_seg rfl hd (m := []) (L := 0) (ct := 0) (n := 30) (ces := []) fun v => ⟨_, [], eq_seg _ _ _ _ _ _ _ _ v, trivial, rfl, ?_, rfl, rfl⟩
  have : @decide (x = y) (Z.eqZ x y) = b := by rw [← h]; congr
  rw [this]; rfl
theorem execs_app_eq (env : Env) : ∀ (a b : List Stmt), execs (a ++ b) env = (execs a env).bind fun f => match f with | .next => execs b env | f => .pure f
  | [], b => rfl
  | st :: a, b => by
    show execs (st :: (a ++ b)) env = _
    rw [execs_cons, execs_cons]
    show (exec st env).bind _ = ((exec st env).bind _).bind _
    rw [Sem.bind_assoc]
    congr 1
    funext f
    cases f with
    | next => exact execs_app_eq env a b
    | _ => rfl
theorem execs_app {A : Around} {env : Env} {Q : Flow → Shared → Prop} {E : Value → Shared → Prop} {M : Model} (a b : List Stmt) {s : Shared}
    (h : wpAny M A (execs a env) (fun f s' => match f with | .next => wpAny M A (execs b env) Q E s' | f => Q f s') E s) : wpAny M A (execs (a ++ b) env) Q E s := by
  rw [execs_app_eq]
  refine wpAny_bind (wpAny_mono h (fun f s' q => ?_) fun _ _ q => q)
  cases f with
  | next => exact q
  | _ => exact wpAny_pure q
end
end Mine
end
-- F5
section
open PySem PySem.Spec PySem.Calls PyProof.Rows PySem.W PySem.W.X
namespace Mine
section
variable {w : World} {K : Frag} {J : Nat → Array GenState → Prop} {B : Addr → Option Obj} {os : OsState} {dr : Drawn} {d : Nat}
theorem Rel.perm {H H' : List Ent} {j : Nat} {s : Shared} (R : Rel J B os dr H j s) (h : H.Perm H') : Rel J B os dr H' j s :=
  ⟨⟨R.own.keep, fun p hp => R.own.own p (h.mem_iff.mpr hp), (h.map _).nodup_iff.mp R.own.nd⟩, R.os, R.dr, R.gh⟩
noncomputable def resQ (Q₀ : PySem.Fin → Shared → Prop) (E₀ : Value → Shared → Prop) : Res → Shared → Prop
  | .fin f => Q₀ f
  | .exc e => E₀ e
/-- a tree run on a part of the entries -/
theorem tree_part {P : Params} (hP : P = w.params) {t : Sem PySem.Fin} {A₀ : Around} {Q₀ : PySem.Fin → Shared → Prop} {E₀ : Value → Shared → Prop} {H : List Ent} {j ct n L : Nat} {ces : List CE} {s : Shared} {m mask : List Bool} (hA : AOk (d - 14) A₀) (hd : 14 ≤ d) (hK : KIn K B) (R : Rel J B os dr H j s)
    (h : ∀ u, ∃ r Hn j' ok, trimO m (run P K (SP w K d J) n c0 none 0 [] t (splitM mask H).1 j (mkU L u) ct ces True) = some ⟨r, Hn, j', ok⟩ ∧ ok ∧ ∀ s', Rel J B os dr ((splitM mask H).2 ++ Hn) j' s' → resQ Q₀ E₀ r s') : wpAny (Mo w) A₀ t Q₀ E₀ s := by
  refine tree_seg hP hA hd (hK.part R mask) (R.part mask) (m := m) (L := L) (ct := ct) (n := n) (ces := ces) fun u => ?_
  obtain ⟨r, Hn, j', ok, h1, h2, h3⟩ := h u
  refine ⟨_, h1, h2, ?_⟩
  have key : ∀ s', Rel J (hideB (splitM mask H).1 s.heap) os dr Hn j' s' → resQ Q₀ E₀ r s' := fun s' R' => h3 s' (by have := R.back mask R'; rw [app_eq] at this; exact this)
  unfold Ends
  cases r with
  | fin f => exact key
  | exc e => exact key
theorem flow_part {P : Params} (hP : P = w.params) {b : List Stmt} {env : Env} {A₀ : Around} {Q : Flow → Shared → Prop} {E : Value → Shared → Prop} {H : List Ent} {j ct n L : Nat} {ces : List CE} {s : Shared} {m mask : List Bool} (hA : AOk (d - 14) A₀) (hd : 14 ≤ d) (hK : KIn K B) (R : Rel J B os dr H j s)
    (h : ∀ u, ∃ f Hn j' ok, trimO m (run P K (SP w K d J) n c0 none 0 [] (flowZ b env) (splitM mask H).1 j (mkU L u) ct ces True) = some ⟨.fin (.done f), Hn, j', ok⟩ ∧ ok ∧ ∀ s', Rel J B os dr ((splitM mask H).2 ++ Hn) j' s' → Q f s') : wpAny (Mo w) A₀ (execs b env) Q E s := by
  have z : wpAny (Mo w) A₀ (flowZ b env) (fun fin s' => match fin with | .done f => Q f s' | .again _ => False) E s :=
    tree_part hP hA hd hK R (m := m) (mask := mask) (L := L) (ct := ct) (n := n) (ces := ces) fun u => by
      obtain ⟨f, Hn, j', ok, h1, h2, h3⟩ := h u
      exact ⟨_, Hn, j', ok, h1, h2, h3⟩
  rw [flowZ_eq] at z
  exact wpAny_unbind (g := fun f => PySem.Fin.done f) z
theorem flow_part2 {P : Params} (hP : P = w.params) {b : List Stmt} {env : Env} {A₀ : Around} {Q : Flow → Shared → Prop} {E : Value → Shared → Prop} {H : List Ent} {j ct n L : Nat} {ces : List CE} {s : Shared} {m mask : List Bool} (hA : AOk (d - 14) A₀) (hd : 14 ≤ d) (hK : KIn K B) (R : Rel J B os dr H j s) {f : (Nat → Nat) → Flow} {Hn : (Nat → Nat) → List Ent} {ok : (Nat → Nat) → Prop} {j' : Nat}
    (h : ∀ u, trimO m (run P K (SP w K d J) n c0 none 0 [] (flowZ b env) (splitM mask H).1 j (mkU L u) ct ces True) = some ⟨.fin (.done (f u)), Hn u, j', ok u⟩) (hok : ∀ u, ok u) (hq : ∀ u s', Rel J B os dr ((splitM mask H).2 ++ Hn u) j' s' → Q (f u) s') : wpAny (Mo w) A₀ (execs b env) Q E s :=
  flow_part hP hA hd hK R fun u => ⟨_, _, _, _, h u, hok u, hq u⟩
theorem assign_part {P : Params} (hP : P = w.params) {t : Expr} {env : Env} {v : Value} {A₀ : Around} {Q : Unit → Shared → Prop} {E : Value → Shared → Prop} {H : List Ent} {j ct n L : Nat} {ces : List CE} {s : Shared} {m mask : List Bool} (hA : AOk (d - 14) A₀) (hd : 14 ≤ d) (hK : KIn K B) (R : Rel J B os dr H j s)
    (h : ∀ u, ∃ Hn j' ok, trimO m (run P K (SP w K d J) n c0 none 0 [] (assZ t env v) (splitM mask H).1 j (mkU L u) ct ces True) = some ⟨.fin (.done .next), Hn, j', ok⟩ ∧ ok ∧ ∀ s', Rel J B os dr ((splitM mask H).2 ++ Hn) j' s' → Q () s') : wpAny (Mo w) A₀ (assign t env v) Q E s := by
  have z : wpAny (Mo w) A₀ (assZ t env v) (fun fin s' => match fin with | .done .next => Q () s' | _ => False) E s :=
    tree_part hP hA hd hK R (m := m) (mask := mask) (L := L) (ct := ct) (n := n) (ces := ces) fun u => by
      obtain ⟨Hn, j', ok, h1, h2, h3⟩ := h u
      exact ⟨_, Hn, j', ok, h1, h2, h3⟩
  rw [assZ_eq] at z
  exact wpAny_unbind (g := fun _ => PySem.Fin.done .next) z
theorem assign_part2 {P : Params} (hP : P = w.params) {t : Expr} {env : Env} {v : Value} {A₀ : Around} {Q : Unit → Shared → Prop} {E : Value → Shared → Prop} {H : List Ent} {j ct n L : Nat} {ces : List CE} {s : Shared} {m mask : List Bool} (hA : AOk (d - 14) A₀) (hd : 14 ≤ d) (hK : KIn K B) (R : Rel J B os dr H j s) {Hn : (Nat → Nat) → List Ent} {ok : (Nat → Nat) → Prop} {j' : Nat}
    (h : ∀ u, trimO m (run P K (SP w K d J) n c0 none 0 [] (assZ t env v) (splitM mask H).1 j (mkU L u) ct ces True) = some ⟨.fin (.done .next), Hn u, j', ok u⟩) (hok : ∀ u, ok u) (hq : ∀ u s', Rel J B os dr ((splitM mask H).2 ++ Hn u) j' s' → Q () s') : wpAny (Mo w) A₀ (assign t env v) Q E s :=
  assign_part hP hA hd hK R fun u => ⟨_, _, _, h u, hok u, hq u⟩
theorem nextZ_eq (v : Value) : nextZ v = (pyNext v).bind fun r => .pure (optFin r) := by
  unfold nextZ; rw [← PySem.W.ZFast.ze9404975358583537561, ← PySem.W.R.bindR_eq]
theorem next_part {P : Params} (hP : P = w.params) {v : Value} {A₀ : Around} {Q : Option Value → Shared → Prop} {E : Value → Shared → Prop} {H : List Ent} {j ct n L : Nat} {ces : List CE} {s : Shared} {m mask : List Bool} (hA : AOk (d - 14) A₀) (hd : 14 ≤ d) (hK : KIn K B) (R : Rel J B os dr H j s)
    (h : ∀ u, ∃ (r : Option Value) (Hn : List Ent) (j' : Nat) (ok : Prop), trimO m (run P K (SP w K d J) n c0 none 0 [] (nextZ v) (splitM mask H).1 j (mkU L u) ct ces True) = some ⟨.fin (optFin r), Hn, j', ok⟩ ∧ ok ∧ ∀ s', Rel J B os dr ((splitM mask H).2 ++ Hn) j' s' → Q r s') : wpAny (Mo w) A₀ (pyNext v) Q E s := by
  have z : wpAny (Mo w) A₀ (nextZ v) (fun fin s' => ∀ r : Option Value, fin = optFin r → Q r s') E s :=
    tree_part hP hA hd hK R (m := m) (mask := mask) (L := L) (ct := ct) (n := n) (ces := ces) fun u => by
      obtain ⟨r, Hn, j', ok, h1, h2, h3⟩ := h u
      refine ⟨_, Hn, j', ok, h1, h2, fun s' R' r' e => ?_⟩
      have : r' = r := by
        cases r <;> cases r' <;> cases e <;> rfl
      rw [this]; exact h3 s' R'
  rw [nextZ_eq] at z
  exact wpAny_mono (wpAny_unbind (g := optFin) z) (fun r s' q => q r rfl) fun _ _ q => q
theorem next_part2 {P : Params} (hP : P = w.params) {v : Value} {A₀ : Around} {Q : Option Value → Shared → Prop} {E : Value → Shared → Prop} {H : List Ent} {j ct n L : Nat} {ces : List CE} {s : Shared} {m mask : List Bool} (hA : AOk (d - 14) A₀) (hd : 14 ≤ d) (hK : KIn K B) (R : Rel J B os dr H j s) {r : (Nat → Nat) → Option Value} {Hn : (Nat → Nat) → List Ent} {ok : (Nat → Nat) → Prop} {j' : Nat}
    (h : ∀ u, trimO m (run P K (SP w K d J) n c0 none 0 [] (nextZ v) (splitM mask H).1 j (mkU L u) ct ces True) = some ⟨.fin (optFin (r u)), Hn u, j', ok u⟩) (hok : ∀ u, ok u) (hq : ∀ u s', Rel J B os dr ((splitM mask H).2 ++ Hn u) j' s' → Q (r u) s') : wpAny (Mo w) A₀ (pyNext v) Q E s :=
  next_part hP hA hd hK R fun u => ⟨_, _, _, _, h u, hok u, hq u⟩
/-- texts in a list -/
inductive StrsAre : List Value → List Str → Prop
  | nil : StrsAre [] []
  | cons {c : Str} {t : Nat} {vs : List Value} {cs : List Str} : StrsAre vs cs → StrsAre (.str c t :: vs) (c :: cs)
theorem StrsAre.app {vs : List Value} {cs : List Str} (h : StrsAre vs cs) (c : Str) (t : Nat) : StrsAre (Mine.app vs [.str c t]) (cs ++ [c]) := by
  induction h with
  | nil => exact .cons .nil
  | cons _ ih => exact .cons ih
theorem StrsAre.length {vs : List Value} {cs : List Str} (h : StrsAre vs cs) : vs.length = cs.length := by
  induction h with
  | nil => rfl
  | cons _ ih => simp [ih]
theorem mkV_of : ∀ (vs : List Value), ∃ v, vs = mkV vs.length v
  | [] => ⟨fun _ => .none, rfl⟩
  | x :: vs => by
    obtain ⟨v, h⟩ := mkV_of vs
    refine ⟨fun i => match i with | 0 => x | i + 1 => v i, ?_⟩
    show x :: vs = x :: mkV vs.length v
    rw [← h]
end
end Mine
end
-- F6
section
open PySem PySem.Spec PySem.Calls PyProof.Rows PySem.W PySem.W.X
namespace Mine
/-- the signs of filemode -/
noncomputable def fmK (mode : Int) : Nat → Nat
  | 0 => if bitAndZ mode 61440 = 32768 then 45 else 100
  | 1 => if bitAndZ mode 256 = 256 then 114 else 45
  | 2 => if bitAndZ mode 128 = 128 then 119 else 45
  | 3 => if bitAndZ mode 2112 = 2112 then 115 else if bitAndZ mode 2048 = 2048 then 83 else if bitAndZ mode 64 = 64 then 120 else 45
  | 4 => if bitAndZ mode 32 = 32 then 114 else 45
  | 5 => if bitAndZ mode 16 = 16 then 119 else 45
  | 6 => if bitAndZ mode 1032 = 1032 then 115 else if bitAndZ mode 1024 = 1024 then 83 else if bitAndZ mode 8 = 8 then 120 else 45
  | 7 => if bitAndZ mode 4 = 4 then 114 else 45
  | 8 => if bitAndZ mode 2 = 2 then 119 else 45
  | 9 => if bitAndZ mode 513 = 513 then 116 else if bitAndZ mode 512 = 512 then 84 else if bitAndZ mode 1 = 1 then 120 else 45
  | _ => 0
noncomputable def fmC (mode : Int) (i : Nat) : Str := ⟨⟨[fmK mode i]⟩⟩
theorem kb29 (P : Params) : kItem P 29 0 = .int 40960 (tokOf (kItem P 29 0)) := by kernel_rfl!
theorem kc29 (P : Params) : kItem P 29 1 = .str ⟨⟨[108]⟩⟩ (tokOf (kItem P 29 1)) := by kernel_rfl!
theorem kb30 (P : Params) : kItem P 30 0 = .int 49152 (tokOf (kItem P 30 0)) := by kernel_rfl!
theorem kc30 (P : Params) : kItem P 30 1 = .str ⟨⟨[115]⟩⟩ (tokOf (kItem P 30 1)) := by kernel_rfl!
theorem kb31 (P : Params) : kItem P 31 0 = .int 32768 (tokOf (kItem P 31 0)) := by kernel_rfl!
theorem kc31 (P : Params) : kItem P 31 1 = .str ⟨⟨[45]⟩⟩ (tokOf (kItem P 31 1)) := by kernel_rfl!
theorem kb32 (P : Params) : kItem P 32 0 = .int 24576 (tokOf (kItem P 32 0)) := by kernel_rfl!
theorem kc32 (P : Params) : kItem P 32 1 = .str ⟨⟨[98]⟩⟩ (tokOf (kItem P 32 1)) := by kernel_rfl!
theorem kb33 (P : Params) : kItem P 33 0 = .int 16384 (tokOf (kItem P 33 0)) := by kernel_rfl!
theorem kc33 (P : Params) : kItem P 33 1 = .str ⟨⟨[100]⟩⟩ (tokOf (kItem P 33 1)) := by kernel_rfl!
theorem kb37 (P : Params) : kItem P 37 0 = .int 256 (tokOf (kItem P 37 0)) := by kernel_rfl!
theorem kc37 (P : Params) : kItem P 37 1 = .str ⟨⟨[114]⟩⟩ (tokOf (kItem P 37 1)) := by kernel_rfl!
theorem kb39 (P : Params) : kItem P 39 0 = .int 128 (tokOf (kItem P 39 0)) := by kernel_rfl!
theorem kc39 (P : Params) : kItem P 39 1 = .str ⟨⟨[119]⟩⟩ (tokOf (kItem P 39 1)) := by kernel_rfl!
theorem kb41 (P : Params) : kItem P 41 0 = .int 2112 (tokOf (kItem P 41 0)) := by kernel_rfl!
theorem kc41 (P : Params) : kItem P 41 1 = .str ⟨⟨[115]⟩⟩ (tokOf (kItem P 41 1)) := by kernel_rfl!
theorem kb42 (P : Params) : kItem P 42 0 = .int 2048 (tokOf (kItem P 42 0)) := by kernel_rfl!
theorem kc42 (P : Params) : kItem P 42 1 = .str ⟨⟨[83]⟩⟩ (tokOf (kItem P 42 1)) := by kernel_rfl!
theorem kb43 (P : Params) : kItem P 43 0 = .int 64 (tokOf (kItem P 43 0)) := by kernel_rfl!
theorem kc43 (P : Params) : kItem P 43 1 = .str ⟨⟨[120]⟩⟩ (tokOf (kItem P 43 1)) := by kernel_rfl!
theorem kb45 (P : Params) : kItem P 45 0 = .int 32 (tokOf (kItem P 45 0)) := by kernel_rfl!
theorem kc45 (P : Params) : kItem P 45 1 = .str ⟨⟨[114]⟩⟩ (tokOf (kItem P 45 1)) := by kernel_rfl!
theorem kb47 (P : Params) : kItem P 47 0 = .int 16 (tokOf (kItem P 47 0)) := by kernel_rfl!
theorem kc47 (P : Params) : kItem P 47 1 = .str ⟨⟨[119]⟩⟩ (tokOf (kItem P 47 1)) := by kernel_rfl!
theorem kb49 (P : Params) : kItem P 49 0 = .int 1032 (tokOf (kItem P 49 0)) := by kernel_rfl!
theorem kc49 (P : Params) : kItem P 49 1 = .str ⟨⟨[115]⟩⟩ (tokOf (kItem P 49 1)) := by kernel_rfl!
theorem kb50 (P : Params) : kItem P 50 0 = .int 1024 (tokOf (kItem P 50 0)) := by kernel_rfl!
theorem kc50 (P : Params) : kItem P 50 1 = .str ⟨⟨[83]⟩⟩ (tokOf (kItem P 50 1)) := by kernel_rfl!
theorem kb51 (P : Params) : kItem P 51 0 = .int 8 (tokOf (kItem P 51 0)) := by kernel_rfl!
theorem kc51 (P : Params) : kItem P 51 1 = .str ⟨⟨[120]⟩⟩ (tokOf (kItem P 51 1)) := by kernel_rfl!
theorem kb53 (P : Params) : kItem P 53 0 = .int 4 (tokOf (kItem P 53 0)) := by kernel_rfl!
theorem kc53 (P : Params) : kItem P 53 1 = .str ⟨⟨[114]⟩⟩ (tokOf (kItem P 53 1)) := by kernel_rfl!
theorem kb55 (P : Params) : kItem P 55 0 = .int 2 (tokOf (kItem P 55 0)) := by kernel_rfl!
theorem kc55 (P : Params) : kItem P 55 1 = .str ⟨⟨[119]⟩⟩ (tokOf (kItem P 55 1)) := by kernel_rfl!
theorem kb57 (P : Params) : kItem P 57 0 = .int 513 (tokOf (kItem P 57 0)) := by kernel_rfl!
theorem kc57 (P : Params) : kItem P 57 1 = .str ⟨⟨[116]⟩⟩ (tokOf (kItem P 57 1)) := by kernel_rfl!
theorem kb58 (P : Params) : kItem P 58 0 = .int 512 (tokOf (kItem P 58 0)) := by kernel_rfl!
theorem kc58 (P : Params) : kItem P 58 1 = .str ⟨⟨[84]⟩⟩ (tokOf (kItem P 58 1)) := by kernel_rfl!
theorem kb59 (P : Params) : kItem P 59 0 = .int 1 (tokOf (kItem P 59 0)) := by kernel_rfl!
theorem kc59 (P : Params) : kItem P 59 1 = .str ⟨⟨[120]⟩⟩ (tokOf (kItem P 59 1)) := by kernel_rfl!
section
variable {w : World} {K : Frag} {J : Nat → Array GenState → Prop} {B : Addr → Option Obj} {os : OsState} {dr : Drawn} {d : Nat}
theorem specEq {j : Nat} {x y : Int} {t u : Nat} {b : Bool} (h : decide (x = y) = b) : Spec w K d J (.call (.builtin "int.__eq__") ⟨[.int x t, .int y u], []⟩) [] j 0 (ceEq b).f j := by
  have := spec_eq (w := w) (K := K) (J := J) (d := d + 14) (by omega) j t u h
  rwa [Nat.add_sub_cancel] at this
theorem specIfmt (hd : d ≤ 880) (j : Nat) (m : Int) (t : Nat) : Spec w (KP w.params) d J (.call (.ref 28) ⟨[.int m t], []⟩) [] j 1 (ifmtF m) j := by
  have := spec28 (w := w) (J := J) (d := d + 16) (by omega) (by omega) j m t
  rwa [Nat.add_sub_cancel] at this
theorem fm_turn1 (hd : 14 ≤ d) {A : Around} (hA : AOk (d - 14) A) (hK : KIn (KP w.params) B) {h : Nat → Int} {k : Nat → Nat} {n e it L pm pn t0 t1 : Nat} {oe oi : Obj} {mode : Int} {b c : Value} {vs : List Value} {cs : List Str} {s : Shared} (hv : StrsAre vs cs) (hl : cs.length = 1)
    (R : Rel J B os dr [(e, oe), (it, oi), (L, fmF h k n (.int mode t0) pm (.int 1 t1) (.ref 38) b c), (pm, lsto vs pn)] 0 s) {Q : Flow → Shared → Prop} {E : Value → Shared → Prop}
    (hQ : ∀ b' c' vs' s', StrsAre vs' (cs ++ [fmC mode 1]) → Rel J B os dr [(e, oe), (it, oi), (L, fmF h k n (.int mode t0) pm (.int 1 t1) (.ref 38) b' c'), (pm, lsto vs' (pn + 1))] 0 s' → Q .next s') :
    wpAny (Mo w) A (execs (fmL1 w.params).b (envAt w.params 68 L)) Q E s := by
  obtain ⟨v, ev⟩ := mkV_of vs
  rw [hv.length, hl] at ev
  subst ev
  by_cases h1 : bitAndZ mode 256 = 256
  · refine flow_part2 (fT_eq w) hA hd hK R (mask := [false, false, true, true]) (fun u => fm_b11 w.params _ _ _ h k n L pm pn mode t0 t1 b c v u) (fun u => okD_of _ _ _ _ ⟨by rw [kb37]; exact specEq (decide_eq_true h1), trivial⟩ trivial) fun u s' R' => hQ _ _ _ s' ?_ R'
    have e : fmC mode 1 = ⟨⟨[114]⟩⟩ := by simp only [fmC, fmK, h1, if_true, if_false]
    rw [kc37, e]; exact hv.app _ _
  · refine flow_part2 (fT_eq w) hA hd hK R (mask := [false, false, true, true]) (fun u => fm_b10 w.params _ _ _ h k n L pm pn mode t0 t1 b c v u) (fun u => okD_of _ _ _ _ ⟨by rw [kb37]; exact specEq (decide_eq_false h1), trivial⟩ trivial) fun u s' R' => hQ _ _ _ s' ?_ R'
    have e : fmC mode 1 = ⟨⟨[45]⟩⟩ := by simp only [fmC, fmK, h1, if_false]
    rw [e]; exact hv.app _ _
theorem fm_turn2 (hd : 14 ≤ d) {A : Around} (hA : AOk (d - 14) A) (hK : KIn (KP w.params) B) {h : Nat → Int} {k : Nat → Nat} {n e it L pm pn t0 t1 : Nat} {oe oi : Obj} {mode : Int} {b c : Value} {vs : List Value} {cs : List Str} {s : Shared} (hv : StrsAre vs cs) (hl : cs.length = 2)
    (R : Rel J B os dr [(e, oe), (it, oi), (L, fmF h k n (.int mode t0) pm (.int 2 t1) (.ref 40) b c), (pm, lsto vs pn)] 0 s) {Q : Flow → Shared → Prop} {E : Value → Shared → Prop}
    (hQ : ∀ b' c' vs' s', StrsAre vs' (cs ++ [fmC mode 2]) → Rel J B os dr [(e, oe), (it, oi), (L, fmF h k n (.int mode t0) pm (.int 2 t1) (.ref 40) b' c'), (pm, lsto vs' (pn + 1))] 0 s' → Q .next s') :
    wpAny (Mo w) A (execs (fmL1 w.params).b (envAt w.params 68 L)) Q E s := by
  obtain ⟨v, ev⟩ := mkV_of vs
  rw [hv.length, hl] at ev
  subst ev
  by_cases h1 : bitAndZ mode 128 = 128
  · refine flow_part2 (fT_eq w) hA hd hK R (mask := [false, false, true, true]) (fun u => fm_b21 w.params _ _ _ h k n L pm pn mode t0 t1 b c v u) (fun u => okD_of _ _ _ _ ⟨by rw [kb39]; exact specEq (decide_eq_true h1), trivial⟩ trivial) fun u s' R' => hQ _ _ _ s' ?_ R'
    have e : fmC mode 2 = ⟨⟨[119]⟩⟩ := by simp only [fmC, fmK, h1, if_true, if_false]
    rw [kc39, e]; exact hv.app _ _
  · refine flow_part2 (fT_eq w) hA hd hK R (mask := [false, false, true, true]) (fun u => fm_b20 w.params _ _ _ h k n L pm pn mode t0 t1 b c v u) (fun u => okD_of _ _ _ _ ⟨by rw [kb39]; exact specEq (decide_eq_false h1), trivial⟩ trivial) fun u s' R' => hQ _ _ _ s' ?_ R'
    have e : fmC mode 2 = ⟨⟨[45]⟩⟩ := by simp only [fmC, fmK, h1, if_false]
    rw [e]; exact hv.app _ _
theorem fm_turn3 (hd : 14 ≤ d) {A : Around} (hA : AOk (d - 14) A) (hK : KIn (KP w.params) B) {h : Nat → Int} {k : Nat → Nat} {n e it L pm pn t0 t1 : Nat} {oe oi : Obj} {mode : Int} {b c : Value} {vs : List Value} {cs : List Str} {s : Shared} (hv : StrsAre vs cs) (hl : cs.length = 3)
    (R : Rel J B os dr [(e, oe), (it, oi), (L, fmF h k n (.int mode t0) pm (.int 3 t1) (.ref 44) b c), (pm, lsto vs pn)] 0 s) {Q : Flow → Shared → Prop} {E : Value → Shared → Prop}
    (hQ : ∀ b' c' vs' s', StrsAre vs' (cs ++ [fmC mode 3]) → Rel J B os dr [(e, oe), (it, oi), (L, fmF h k n (.int mode t0) pm (.int 3 t1) (.ref 44) b' c'), (pm, lsto vs' (pn + 1))] 0 s' → Q .next s') :
    wpAny (Mo w) A (execs (fmL1 w.params).b (envAt w.params 68 L)) Q E s := by
  obtain ⟨v, ev⟩ := mkV_of vs
  rw [hv.length, hl] at ev
  subst ev
  by_cases h1 : bitAndZ mode 2112 = 2112
  · refine flow_part2 (fT_eq w) hA hd hK R (mask := [false, false, true, true]) (fun u => fm_b3s w.params _ _ _ h k n L pm pn mode t0 t1 b c v u) (fun u => okD_of _ _ _ _ ⟨by rw [kb41]; exact specEq (decide_eq_true h1), trivial⟩ trivial) fun u s' R' => hQ _ _ _ s' ?_ R'
    have e : fmC mode 3 = ⟨⟨[115]⟩⟩ := by simp only [fmC, fmK, h1, if_true, if_false]
    rw [kc41, e]; exact hv.app _ _
  ·
    by_cases h2 : bitAndZ mode 2048 = 2048
    · refine flow_part2 (fT_eq w) hA hd hK R (mask := [false, false, true, true]) (fun u => fm_b3S w.params _ _ _ h k n L pm pn mode t0 t1 b c v u) (fun u => okD_of _ _ _ _ ⟨by rw [kb41]; exact specEq (decide_eq_false h1), ⟨by rw [kb42]; exact specEq (decide_eq_true h2), trivial⟩⟩ trivial) fun u s' R' => hQ _ _ _ s' ?_ R'
      have e : fmC mode 3 = ⟨⟨[83]⟩⟩ := by simp only [fmC, fmK, h1, h2, if_true, if_false]
      rw [kc42, e]; exact hv.app _ _
    ·
      by_cases h3 : bitAndZ mode 64 = 64
      · refine flow_part2 (fT_eq w) hA hd hK R (mask := [false, false, true, true]) (fun u => fm_b3x w.params _ _ _ h k n L pm pn mode t0 t1 b c v u) (fun u => okD_of _ _ _ _ ⟨by rw [kb41]; exact specEq (decide_eq_false h1), ⟨by rw [kb42]; exact specEq (decide_eq_false h2), ⟨by rw [kb43]; exact specEq (decide_eq_true h3), trivial⟩⟩⟩ trivial) fun u s' R' => hQ _ _ _ s' ?_ R'
        have e : fmC mode 3 = ⟨⟨[120]⟩⟩ := by simp only [fmC, fmK, h1, h2, h3, if_true, if_false]
        rw [kc43, e]; exact hv.app _ _
      · refine flow_part2 (fT_eq w) hA hd hK R (mask := [false, false, true, true]) (fun u => fm_b30 w.params _ _ _ h k n L pm pn mode t0 t1 b c v u) (fun u => okD_of _ _ _ _ ⟨by rw [kb41]; exact specEq (decide_eq_false h1), ⟨by rw [kb42]; exact specEq (decide_eq_false h2), ⟨by rw [kb43]; exact specEq (decide_eq_false h3), trivial⟩⟩⟩ trivial) fun u s' R' => hQ _ _ _ s' ?_ R'
        have e : fmC mode 3 = ⟨⟨[45]⟩⟩ := by simp only [fmC, fmK, h1, h2, h3, if_false]
        rw [e]; exact hv.app _ _
theorem fm_turn4 (hd : 14 ≤ d) {A : Around} (hA : AOk (d - 14) A) (hK : KIn (KP w.params) B) {h : Nat → Int} {k : Nat → Nat} {n e it L pm pn t0 t1 : Nat} {oe oi : Obj} {mode : Int} {b c : Value} {vs : List Value} {cs : List Str} {s : Shared} (hv : StrsAre vs cs) (hl : cs.length = 4)
    (R : Rel J B os dr [(e, oe), (it, oi), (L, fmF h k n (.int mode t0) pm (.int 4 t1) (.ref 46) b c), (pm, lsto vs pn)] 0 s) {Q : Flow → Shared → Prop} {E : Value → Shared → Prop}
    (hQ : ∀ b' c' vs' s', StrsAre vs' (cs ++ [fmC mode 4]) → Rel J B os dr [(e, oe), (it, oi), (L, fmF h k n (.int mode t0) pm (.int 4 t1) (.ref 46) b' c'), (pm, lsto vs' (pn + 1))] 0 s' → Q .next s') :
    wpAny (Mo w) A (execs (fmL1 w.params).b (envAt w.params 68 L)) Q E s := by
  obtain ⟨v, ev⟩ := mkV_of vs
  rw [hv.length, hl] at ev
  subst ev
  by_cases h1 : bitAndZ mode 32 = 32
  · refine flow_part2 (fT_eq w) hA hd hK R (mask := [false, false, true, true]) (fun u => fm_b41 w.params _ _ _ h k n L pm pn mode t0 t1 b c v u) (fun u => okD_of _ _ _ _ ⟨by rw [kb45]; exact specEq (decide_eq_true h1), trivial⟩ trivial) fun u s' R' => hQ _ _ _ s' ?_ R'
    have e : fmC mode 4 = ⟨⟨[114]⟩⟩ := by simp only [fmC, fmK, h1, if_true, if_false]
    rw [kc45, e]; exact hv.app _ _
  · refine flow_part2 (fT_eq w) hA hd hK R (mask := [false, false, true, true]) (fun u => fm_b40 w.params _ _ _ h k n L pm pn mode t0 t1 b c v u) (fun u => okD_of _ _ _ _ ⟨by rw [kb45]; exact specEq (decide_eq_false h1), trivial⟩ trivial) fun u s' R' => hQ _ _ _ s' ?_ R'
    have e : fmC mode 4 = ⟨⟨[45]⟩⟩ := by simp only [fmC, fmK, h1, if_false]
    rw [e]; exact hv.app _ _
theorem fm_turn5 (hd : 14 ≤ d) {A : Around} (hA : AOk (d - 14) A) (hK : KIn (KP w.params) B) {h : Nat → Int} {k : Nat → Nat} {n e it L pm pn t0 t1 : Nat} {oe oi : Obj} {mode : Int} {b c : Value} {vs : List Value} {cs : List Str} {s : Shared} (hv : StrsAre vs cs) (hl : cs.length = 5)
    (R : Rel J B os dr [(e, oe), (it, oi), (L, fmF h k n (.int mode t0) pm (.int 5 t1) (.ref 48) b c), (pm, lsto vs pn)] 0 s) {Q : Flow → Shared → Prop} {E : Value → Shared → Prop}
    (hQ : ∀ b' c' vs' s', StrsAre vs' (cs ++ [fmC mode 5]) → Rel J B os dr [(e, oe), (it, oi), (L, fmF h k n (.int mode t0) pm (.int 5 t1) (.ref 48) b' c'), (pm, lsto vs' (pn + 1))] 0 s' → Q .next s') :
    wpAny (Mo w) A (execs (fmL1 w.params).b (envAt w.params 68 L)) Q E s := by
  obtain ⟨v, ev⟩ := mkV_of vs
  rw [hv.length, hl] at ev
  subst ev
  by_cases h1 : bitAndZ mode 16 = 16
  · refine flow_part2 (fT_eq w) hA hd hK R (mask := [false, false, true, true]) (fun u => fm_b51 w.params _ _ _ h k n L pm pn mode t0 t1 b c v u) (fun u => okD_of _ _ _ _ ⟨by rw [kb47]; exact specEq (decide_eq_true h1), trivial⟩ trivial) fun u s' R' => hQ _ _ _ s' ?_ R'
    have e : fmC mode 5 = ⟨⟨[119]⟩⟩ := by simp only [fmC, fmK, h1, if_true, if_false]
    rw [kc47, e]; exact hv.app _ _
  · refine flow_part2 (fT_eq w) hA hd hK R (mask := [false, false, true, true]) (fun u => fm_b50 w.params _ _ _ h k n L pm pn mode t0 t1 b c v u) (fun u => okD_of _ _ _ _ ⟨by rw [kb47]; exact specEq (decide_eq_false h1), trivial⟩ trivial) fun u s' R' => hQ _ _ _ s' ?_ R'
    have e : fmC mode 5 = ⟨⟨[45]⟩⟩ := by simp only [fmC, fmK, h1, if_false]
    rw [e]; exact hv.app _ _
theorem fm_turn6 (hd : 14 ≤ d) {A : Around} (hA : AOk (d - 14) A) (hK : KIn (KP w.params) B) {h : Nat → Int} {k : Nat → Nat} {n e it L pm pn t0 t1 : Nat} {oe oi : Obj} {mode : Int} {b c : Value} {vs : List Value} {cs : List Str} {s : Shared} (hv : StrsAre vs cs) (hl : cs.length = 6)
    (R : Rel J B os dr [(e, oe), (it, oi), (L, fmF h k n (.int mode t0) pm (.int 6 t1) (.ref 52) b c), (pm, lsto vs pn)] 0 s) {Q : Flow → Shared → Prop} {E : Value → Shared → Prop}
    (hQ : ∀ b' c' vs' s', StrsAre vs' (cs ++ [fmC mode 6]) → Rel J B os dr [(e, oe), (it, oi), (L, fmF h k n (.int mode t0) pm (.int 6 t1) (.ref 52) b' c'), (pm, lsto vs' (pn + 1))] 0 s' → Q .next s') :
    wpAny (Mo w) A (execs (fmL1 w.params).b (envAt w.params 68 L)) Q E s := by
  obtain ⟨v, ev⟩ := mkV_of vs
  rw [hv.length, hl] at ev
  subst ev
  by_cases h1 : bitAndZ mode 1032 = 1032
  · refine flow_part2 (fT_eq w) hA hd hK R (mask := [false, false, true, true]) (fun u => fm_b6s w.params _ _ _ h k n L pm pn mode t0 t1 b c v u) (fun u => okD_of _ _ _ _ ⟨by rw [kb49]; exact specEq (decide_eq_true h1), trivial⟩ trivial) fun u s' R' => hQ _ _ _ s' ?_ R'
    have e : fmC mode 6 = ⟨⟨[115]⟩⟩ := by simp only [fmC, fmK, h1, if_true, if_false]
    rw [kc49, e]; exact hv.app _ _
  ·
    by_cases h2 : bitAndZ mode 1024 = 1024
    · refine flow_part2 (fT_eq w) hA hd hK R (mask := [false, false, true, true]) (fun u => fm_b6S w.params _ _ _ h k n L pm pn mode t0 t1 b c v u) (fun u => okD_of _ _ _ _ ⟨by rw [kb49]; exact specEq (decide_eq_false h1), ⟨by rw [kb50]; exact specEq (decide_eq_true h2), trivial⟩⟩ trivial) fun u s' R' => hQ _ _ _ s' ?_ R'
      have e : fmC mode 6 = ⟨⟨[83]⟩⟩ := by simp only [fmC, fmK, h1, h2, if_true, if_false]
      rw [kc50, e]; exact hv.app _ _
    ·
      by_cases h3 : bitAndZ mode 8 = 8
      · refine flow_part2 (fT_eq w) hA hd hK R (mask := [false, false, true, true]) (fun u => fm_b6x w.params _ _ _ h k n L pm pn mode t0 t1 b c v u) (fun u => okD_of _ _ _ _ ⟨by rw [kb49]; exact specEq (decide_eq_false h1), ⟨by rw [kb50]; exact specEq (decide_eq_false h2), ⟨by rw [kb51]; exact specEq (decide_eq_true h3), trivial⟩⟩⟩ trivial) fun u s' R' => hQ _ _ _ s' ?_ R'
        have e : fmC mode 6 = ⟨⟨[120]⟩⟩ := by simp only [fmC, fmK, h1, h2, h3, if_true, if_false]
        rw [kc51, e]; exact hv.app _ _
      · refine flow_part2 (fT_eq w) hA hd hK R (mask := [false, false, true, true]) (fun u => fm_b60 w.params _ _ _ h k n L pm pn mode t0 t1 b c v u) (fun u => okD_of _ _ _ _ ⟨by rw [kb49]; exact specEq (decide_eq_false h1), ⟨by rw [kb50]; exact specEq (decide_eq_false h2), ⟨by rw [kb51]; exact specEq (decide_eq_false h3), trivial⟩⟩⟩ trivial) fun u s' R' => hQ _ _ _ s' ?_ R'
        have e : fmC mode 6 = ⟨⟨[45]⟩⟩ := by simp only [fmC, fmK, h1, h2, h3, if_false]
        rw [e]; exact hv.app _ _
theorem fm_turn7 (hd : 14 ≤ d) {A : Around} (hA : AOk (d - 14) A) (hK : KIn (KP w.params) B) {h : Nat → Int} {k : Nat → Nat} {n e it L pm pn t0 t1 : Nat} {oe oi : Obj} {mode : Int} {b c : Value} {vs : List Value} {cs : List Str} {s : Shared} (hv : StrsAre vs cs) (hl : cs.length = 7)
    (R : Rel J B os dr [(e, oe), (it, oi), (L, fmF h k n (.int mode t0) pm (.int 7 t1) (.ref 54) b c), (pm, lsto vs pn)] 0 s) {Q : Flow → Shared → Prop} {E : Value → Shared → Prop}
    (hQ : ∀ b' c' vs' s', StrsAre vs' (cs ++ [fmC mode 7]) → Rel J B os dr [(e, oe), (it, oi), (L, fmF h k n (.int mode t0) pm (.int 7 t1) (.ref 54) b' c'), (pm, lsto vs' (pn + 1))] 0 s' → Q .next s') :
    wpAny (Mo w) A (execs (fmL1 w.params).b (envAt w.params 68 L)) Q E s := by
  obtain ⟨v, ev⟩ := mkV_of vs
  rw [hv.length, hl] at ev
  subst ev
  by_cases h1 : bitAndZ mode 4 = 4
  · refine flow_part2 (fT_eq w) hA hd hK R (mask := [false, false, true, true]) (fun u => fm_b71 w.params _ _ _ h k n L pm pn mode t0 t1 b c v u) (fun u => okD_of _ _ _ _ ⟨by rw [kb53]; exact specEq (decide_eq_true h1), trivial⟩ trivial) fun u s' R' => hQ _ _ _ s' ?_ R'
    have e : fmC mode 7 = ⟨⟨[114]⟩⟩ := by simp only [fmC, fmK, h1, if_true, if_false]
    rw [kc53, e]; exact hv.app _ _
  · refine flow_part2 (fT_eq w) hA hd hK R (mask := [false, false, true, true]) (fun u => fm_b70 w.params _ _ _ h k n L pm pn mode t0 t1 b c v u) (fun u => okD_of _ _ _ _ ⟨by rw [kb53]; exact specEq (decide_eq_false h1), trivial⟩ trivial) fun u s' R' => hQ _ _ _ s' ?_ R'
    have e : fmC mode 7 = ⟨⟨[45]⟩⟩ := by simp only [fmC, fmK, h1, if_false]
    rw [e]; exact hv.app _ _
theorem fm_turn8 (hd : 14 ≤ d) {A : Around} (hA : AOk (d - 14) A) (hK : KIn (KP w.params) B) {h : Nat → Int} {k : Nat → Nat} {n e it L pm pn t0 t1 : Nat} {oe oi : Obj} {mode : Int} {b c : Value} {vs : List Value} {cs : List Str} {s : Shared} (hv : StrsAre vs cs) (hl : cs.length = 8)
    (R : Rel J B os dr [(e, oe), (it, oi), (L, fmF h k n (.int mode t0) pm (.int 8 t1) (.ref 56) b c), (pm, lsto vs pn)] 0 s) {Q : Flow → Shared → Prop} {E : Value → Shared → Prop}
    (hQ : ∀ b' c' vs' s', StrsAre vs' (cs ++ [fmC mode 8]) → Rel J B os dr [(e, oe), (it, oi), (L, fmF h k n (.int mode t0) pm (.int 8 t1) (.ref 56) b' c'), (pm, lsto vs' (pn + 1))] 0 s' → Q .next s') :
    wpAny (Mo w) A (execs (fmL1 w.params).b (envAt w.params 68 L)) Q E s := by
  obtain ⟨v, ev⟩ := mkV_of vs
  rw [hv.length, hl] at ev
  subst ev
  by_cases h1 : bitAndZ mode 2 = 2
  · refine flow_part2 (fT_eq w) hA hd hK R (mask := [false, false, true, true]) (fun u => fm_b81 w.params _ _ _ h k n L pm pn mode t0 t1 b c v u) (fun u => okD_of _ _ _ _ ⟨by rw [kb55]; exact specEq (decide_eq_true h1), trivial⟩ trivial) fun u s' R' => hQ _ _ _ s' ?_ R'
    have e : fmC mode 8 = ⟨⟨[119]⟩⟩ := by simp only [fmC, fmK, h1, if_true, if_false]
    rw [kc55, e]; exact hv.app _ _
  · refine flow_part2 (fT_eq w) hA hd hK R (mask := [false, false, true, true]) (fun u => fm_b80 w.params _ _ _ h k n L pm pn mode t0 t1 b c v u) (fun u => okD_of _ _ _ _ ⟨by rw [kb55]; exact specEq (decide_eq_false h1), trivial⟩ trivial) fun u s' R' => hQ _ _ _ s' ?_ R'
    have e : fmC mode 8 = ⟨⟨[45]⟩⟩ := by simp only [fmC, fmK, h1, if_false]
    rw [e]; exact hv.app _ _
theorem fm_turn9 (hd : 14 ≤ d) {A : Around} (hA : AOk (d - 14) A) (hK : KIn (KP w.params) B) {h : Nat → Int} {k : Nat → Nat} {n e it L pm pn t0 t1 : Nat} {oe oi : Obj} {mode : Int} {b c : Value} {vs : List Value} {cs : List Str} {s : Shared} (hv : StrsAre vs cs) (hl : cs.length = 9)
    (R : Rel J B os dr [(e, oe), (it, oi), (L, fmF h k n (.int mode t0) pm (.int 9 t1) (.ref 60) b c), (pm, lsto vs pn)] 0 s) {Q : Flow → Shared → Prop} {E : Value → Shared → Prop}
    (hQ : ∀ b' c' vs' s', StrsAre vs' (cs ++ [fmC mode 9]) → Rel J B os dr [(e, oe), (it, oi), (L, fmF h k n (.int mode t0) pm (.int 9 t1) (.ref 60) b' c'), (pm, lsto vs' (pn + 1))] 0 s' → Q .next s') :
    wpAny (Mo w) A (execs (fmL1 w.params).b (envAt w.params 68 L)) Q E s := by
  obtain ⟨v, ev⟩ := mkV_of vs
  rw [hv.length, hl] at ev
  subst ev
  by_cases h1 : bitAndZ mode 513 = 513
  · refine flow_part2 (fT_eq w) hA hd hK R (mask := [false, false, true, true]) (fun u => fm_b9s w.params _ _ _ h k n L pm pn mode t0 t1 b c v u) (fun u => okD_of _ _ _ _ ⟨by rw [kb57]; exact specEq (decide_eq_true h1), trivial⟩ trivial) fun u s' R' => hQ _ _ _ s' ?_ R'
    have e : fmC mode 9 = ⟨⟨[116]⟩⟩ := by simp only [fmC, fmK, h1, if_true, if_false]
    rw [kc57, e]; exact hv.app _ _
  ·
    by_cases h2 : bitAndZ mode 512 = 512
    · refine flow_part2 (fT_eq w) hA hd hK R (mask := [false, false, true, true]) (fun u => fm_b9S w.params _ _ _ h k n L pm pn mode t0 t1 b c v u) (fun u => okD_of _ _ _ _ ⟨by rw [kb57]; exact specEq (decide_eq_false h1), ⟨by rw [kb58]; exact specEq (decide_eq_true h2), trivial⟩⟩ trivial) fun u s' R' => hQ _ _ _ s' ?_ R'
      have e : fmC mode 9 = ⟨⟨[84]⟩⟩ := by simp only [fmC, fmK, h1, h2, if_true, if_false]
      rw [kc58, e]; exact hv.app _ _
    ·
      by_cases h3 : bitAndZ mode 1 = 1
      · refine flow_part2 (fT_eq w) hA hd hK R (mask := [false, false, true, true]) (fun u => fm_b9x w.params _ _ _ h k n L pm pn mode t0 t1 b c v u) (fun u => okD_of _ _ _ _ ⟨by rw [kb57]; exact specEq (decide_eq_false h1), ⟨by rw [kb58]; exact specEq (decide_eq_false h2), ⟨by rw [kb59]; exact specEq (decide_eq_true h3), trivial⟩⟩⟩ trivial) fun u s' R' => hQ _ _ _ s' ?_ R'
        have e : fmC mode 9 = ⟨⟨[120]⟩⟩ := by simp only [fmC, fmK, h1, h2, h3, if_true, if_false]
        rw [kc59, e]; exact hv.app _ _
      · refine flow_part2 (fT_eq w) hA hd hK R (mask := [false, false, true, true]) (fun u => fm_b90 w.params _ _ _ h k n L pm pn mode t0 t1 b c v u) (fun u => okD_of _ _ _ _ ⟨by rw [kb57]; exact specEq (decide_eq_false h1), ⟨by rw [kb58]; exact specEq (decide_eq_false h2), ⟨by rw [kb59]; exact specEq (decide_eq_false h3), trivial⟩⟩⟩ trivial) fun u s' R' => hQ _ _ _ s' ?_ R'
        have e : fmC mode 9 = ⟨⟨[45]⟩⟩ := by simp only [fmC, fmK, h1, h2, h3, if_false]
        rw [e]; exact hv.app _ _
theorem fm_turn0 (hd : 14 ≤ d) (hd9 : d ≤ 880) {A : Around} (hA : AOk (d - 14) A) (hK : KIn (KP w.params) B) {h : Nat → Int} {k : Nat → Nat} {n e it L pm pn t0 t1 : Nat} {oe oi : Obj} {mode : Int} {s : Shared} (hmode : bitAndZ mode 61440 = 32768 ∨ bitAndZ mode 61440 = 16384)
    (R : Rel J B os dr [(e, oe), (it, oi), (L, fmF4 h k n (.int mode t0) pm (.int 0 t1) (.ref 36)), (pm, lsto [] pn)] 0 s) {Q : Flow → Shared → Prop} {E : Value → Shared → Prop}
    (hQ : ∀ h' k' n' b' c' vs' s', StrsAre vs' [fmC mode 0] → Rel J B os dr [(e, oe), (it, oi), (L, fmF h' k' n' (.int mode t0) pm (.int 0 t1) (.ref 36) b' c'), (pm, lsto vs' (pn + 1))] 0 s' → Q .next s') :
    wpAny (Mo w) A (execs (fmL1 w.params).b (envAt w.params 68 L)) Q E s := by
  rcases hmode with hm | hm
  · refine flow_part2 (fT_eq w) hA hd hK R (mask := [false, false, true, true]) (fun u => fm_b0r w.params _ _ _ h k n L pm pn mode t0 t1 (fun _ => .none) u) (fun u => okD_of _ _ _ _ ⟨specIfmt hd9 _ _ _, by rw [kb29]; exact specEq (decide_eq_false (by rw [hm]; decide)), ⟨specIfmt hd9 _ _ _, by rw [kb30]; exact specEq (decide_eq_false (by rw [hm]; decide)), ⟨specIfmt hd9 _ _ _, by rw [kb31]; exact specEq (decide_eq_true hm), trivial⟩⟩⟩ trivial) fun u s' R' => hQ _ _ _ _ _ _ s' ?_ R'
    have e : fmC mode 0 = ⟨⟨[45]⟩⟩ := by simp only [fmC, fmK, hm, if_true]
    rw [kc31, e]; exact StrsAre.nil.app _ _
  · refine flow_part2 (fT_eq w) hA hd hK R (mask := [false, false, true, true]) (fun u => fm_b0d w.params _ _ _ h k n L pm pn mode t0 t1 (fun _ => .none) u) (fun u => okD_of _ _ _ _ ⟨specIfmt hd9 _ _ _, by rw [kb29]; exact specEq (decide_eq_false (by rw [hm]; decide)), ⟨specIfmt hd9 _ _ _, by rw [kb30]; exact specEq (decide_eq_false (by rw [hm]; decide)), ⟨specIfmt hd9 _ _ _, by rw [kb31]; exact specEq (decide_eq_false (by rw [hm]; decide)), ⟨specIfmt hd9 _ _ _, by rw [kb32]; exact specEq (decide_eq_false (by rw [hm]; decide)), ⟨specIfmt hd9 _ _ _, by rw [kb33]; exact specEq (decide_eq_true hm), trivial⟩⟩⟩⟩⟩ trivial) fun u s' R' => hQ _ _ _ _ _ _ s' ?_ R'
    have e : fmC mode 0 = ⟨⟨[100]⟩⟩ := by simp only [fmC, fmK, hm]; decide
    rw [kc33, e]; exact StrsAre.nil.app _ _
end
end Mine
end
-- F7
section
open PySem PySem.Spec PySem.Calls PyProof.Rows PySem.W PySem.W.X
namespace Mine
section
variable {w : World} {K : Frag} {J : Nat → Array GenState → Prop} {B : Addr → Option Obj} {os : OsState} {dr : Drawn} {d : Nat}
theorem Rel.setAt {H : List Ent} {j i : Nat} {s : Shared} {p : Ent} {o' : Obj} {h' : Heap} (R : Rel J B os dr H j s) (e : getI H i = some p) (hs : Heap.SameBut p.1 s.heap h') (ho : h'.get? p.1 = some o') : Rel J B os dr (setI H i (p.1, o')) j { s with heap := h' } := by
  have hp := R.own.own p (getI_mem e)
  refine ⟨⟨fun a o q => ?_, fun q hq => ?_, ?_⟩, R.os, R.dr, R.gh⟩
  · have : a ≠ p.1 := fun z => by rw [z, hp.2] at q; cases q
    exact (hs.2 a this).trans (R.own.keep a o q)
  · rcases mem_setI e R.own.nd hq with rfl | ⟨hm, hn⟩
    · exact ⟨ho, hp.2⟩
    · exact ⟨(hs.2 _ hn).trans (R.own.own q hm).1, (R.own.own q hm).2⟩
  · rw [setI_keys _ e]; exact R.own.nd
noncomputable def tpE : Expr → List Expr
  | .Tuple es _ _ => es
  | _ => []
noncomputable def tpN : Expr → Nat
  | .Tuple _ n _ => n
  | _ => 0
noncomputable def tpP : Expr → Pos
  | .Tuple _ _ p => p
  | _ => default
theorem fm_target (P : Params) : (fmL1 P).t = .Tuple (tpE (fmL1 P).t) (tpN (fmL1 P).t) (tpP (fmL1 P).t) := by kernel_rfl!
theorem go_part {A : Around} {es : List Expr} {x1 : Nat} {pos : Pos} {L pm e it a : Nat} {oL opm oi oT : Obj} {i : Int} {item : Value} {j : Nat} {s : Shared} {Q : Unit → Shared → Prop} {E : Value → Shared → Prop}
    (R : Rel J B os dr [(L, oL), (pm, opm), (e, enumO (.int ((a : Nat) : Int) 0) it i item), (it, oi), (a, oT)] j s)
    (hQ : ∀ s', Rel J B os dr [(L, oL), (pm, opm), (e, enumO .none it i item), (it, oi), (a, oT)] j s' → Q () s') : wpAny (Mo w) A (letOwnedTupleGo (.Tuple es x1 pos) (.ref e) (.ref a)) Q E s :=
  wpAny_letOwnedTupleGo_enum (i := i) (it := it) (item := item) (R.at (i := 2) rfl) fun h' he' hs' => hQ _ (R.setAt (i := 2) rfl hs' he')
noncomputable def chars (mode : Int) (n : Nat) : List Str := (List.range n).map (fmC mode)
theorem chars_len (mode : Int) (n : Nat) : (chars mode n).length = n := by simp [chars]
theorem chars_succ (mode : Int) (n : Nat) : chars mode n ++ [fmC mode n] = chars mode (n + 1) := by simp [chars, List.range_succ]
/-- between the turns -/
inductive FmAt (J : Nat → Array GenState → Prop) (B : Addr → Option Obj) (os : OsState) (dr : Drawn) (e it L pm t0 : Nat) (mode : Int) (i : Nat) (s : Shared) : Prop
  | z (hi : i = 0) (h : Nat → Int) (k : Nat → Nat) (n pn : Nat) (old : Value) (R : Rel J B os dr [(e, enumO .none it 0 old), (it, tupIt (.ref 61) 0), (L, fmF2 h k n (.int mode t0) pm), (pm, lsto [] pn)] 0 s)
  | p (hi : 1 ≤ i) (h : Nat → Int) (k : Nat → Nat) (n : Nat) (idx tbl b c : Value) (vs : List Value) (pn : Nat) (old : Value) (hv : StrsAre vs (chars mode i)) (R : Rel J B os dr [(e, enumO .none it (i : Int) old), (it, tupIt (.ref 61) (i : Int)), (L, fmF h k n (.int mode t0) pm idx tbl b c), (pm, lsto vs pn)] 0 s)
theorem FmAt.next {e it L pm t0 i : Nat} {mode : Int} {s : Shared} {h : Nat → Int} {k : Nat → Nat} {n pn : Nat} {idx tbl b c old : Value} {vs : List Value} (hv : StrsAre vs (chars mode i ++ [fmC mode i]))
    (R : Rel J B os dr [(e, enumO .none it ((i + 1 : Nat) : Int) old), (it, tupIt (.ref 61) ((i + 1 : Nat) : Int)), (L, fmF h k n (.int mode t0) pm idx tbl b c), (pm, lsto vs pn)] 0 s) : FmAt J B os dr e it L pm t0 mode (i + 1) s :=
  .p (by omega) h k n idx tbl b c vs pn old (by rw [← chars_succ]; exact hv) R
noncomputable def SegAt (w : World) (J : Nat → Array GenState → Prop) (d i tb : Nat) : Prop := ∀ (e it : Nat) (old : Value) (u : Nat → Nat), trimO [true, true, true] (run (fT w) (KP w.params) (SP w (KP w.params) d J) 40 c0 none 0 [] (nextZ (.ref e)) [(e, enumO .none it (i : Int) old), (it, tupIt (.ref 61) (i : Int))] 0 (mkU 2 u) 1449902417987006863297306456585148527787905025 [] True) =
      some ⟨.fin (.done (.ret (.ref (u 1)))), [(e, enumO (.int ((u 1 : Nat) : Int) 0) it ((i + 1 : Nat) : Int) (.ref tb)), (it, tupIt (.ref 61) ((i + 1 : Nat) : Int)), (u 1, tupO [.int (i : Int) (u 0), .ref tb])], 0, okD 26 1449902417987006863297306456585148527787905025 [e, it, (u 1)] [] True⟩
noncomputable def TurnAt (w : World) (J : Nat → Array GenState → Prop) (B : Addr → Option Obj) (os : OsState) (dr : Drawn) (A : Around) (i tb : Nat) : Prop := ∀ (h : Nat → Int) (k : Nat → Nat) (n e it L pm pn t0 t1 : Nat) (oe oi : Obj) (mode : Int) (b c : Value) (vs : List Value) (s : Shared) (Q : Flow → Shared → Prop) (E : Value → Shared → Prop), StrsAre vs (chars mode i) →
      Rel J B os dr [(e, oe), (it, oi), (L, fmF h k n (.int mode t0) pm (.int (i : Int) t1) (.ref tb) b c), (pm, lsto vs pn)] 0 s →
      (∀ b' c' vs' s', StrsAre vs' (chars mode i ++ [fmC mode i]) → Rel J B os dr [(e, oe), (it, oi), (L, fmF h k n (.int mode t0) pm (.int (i : Int) t1) (.ref tb) b' c'), (pm, lsto vs' (pn + 1))] 0 s' → Q .next s') →
      wpAny (Mo w) A (execs (fmL1 w.params).b (envAt w.params 68 L)) Q E s
theorem fm_all {A : Around} (hd : 14 ≤ d) (hA : AOk (d - 14) A) (hK : KIn (KP w.params) B) : ∀ i, 1 ≤ i → i ≤ 9 → ∃ tb, SegAt w J d i tb ∧ TurnAt w J B os dr A i tb
  | 0, h, _ => absurd h (by decide)
  | 1, _, _ => ⟨38, fun e it old u => fm_n1 w.params _ _ _ e it old u, fun h k n e it L pm pn t0 t1 oe oi mode b c vs s Q E hv R hq => fm_turn1 hd hA hK hv (chars_len _ _) R hq⟩
  | 2, _, _ => ⟨40, fun e it old u => fm_n2 w.params _ _ _ e it old u, fun h k n e it L pm pn t0 t1 oe oi mode b c vs s Q E hv R hq => fm_turn2 hd hA hK hv (chars_len _ _) R hq⟩
  | 3, _, _ => ⟨44, fun e it old u => fm_n3 w.params _ _ _ e it old u, fun h k n e it L pm pn t0 t1 oe oi mode b c vs s Q E hv R hq => fm_turn3 hd hA hK hv (chars_len _ _) R hq⟩
  | 4, _, _ => ⟨46, fun e it old u => fm_n4 w.params _ _ _ e it old u, fun h k n e it L pm pn t0 t1 oe oi mode b c vs s Q E hv R hq => fm_turn4 hd hA hK hv (chars_len _ _) R hq⟩
  | 5, _, _ => ⟨48, fun e it old u => fm_n5 w.params _ _ _ e it old u, fun h k n e it L pm pn t0 t1 oe oi mode b c vs s Q E hv R hq => fm_turn5 hd hA hK hv (chars_len _ _) R hq⟩
  | 6, _, _ => ⟨52, fun e it old u => fm_n6 w.params _ _ _ e it old u, fun h k n e it L pm pn t0 t1 oe oi mode b c vs s Q E hv R hq => fm_turn6 hd hA hK hv (chars_len _ _) R hq⟩
  | 7, _, _ => ⟨54, fun e it old u => fm_n7 w.params _ _ _ e it old u, fun h k n e it L pm pn t0 t1 oe oi mode b c vs s Q E hv R hq => fm_turn7 hd hA hK hv (chars_len _ _) R hq⟩
  | 8, _, _ => ⟨56, fun e it old u => fm_n8 w.params _ _ _ e it old u, fun h k n e it L pm pn t0 t1 oe oi mode b c vs s Q E hv R hq => fm_turn8 hd hA hK hv (chars_len _ _) R hq⟩
  | 9, _, _ => ⟨60, fun e it old u => fm_n9 w.params _ _ _ e it old u, fun h k n e it L pm pn t0 t1 oe oi mode b c vs s Q E hv R hq => fm_turn9 hd hA hK hv (chars_len _ _) R hq⟩
  | _ + 10, _, h => absurd h (by omega)
theorem fm_mid {A : Around} (hd : 14 ≤ d) (hA : AOk (d - 14) A) (hK : KIn (KP w.params) B) {i tb : Nat} {h : Nat → Int} {k : Nat → Nat} {n e it L pm pn t0 : Nat} {idx tbl b c old : Value} {vs : List Value} {mode : Int} {s : Shared} (hv : StrsAre vs (chars mode i))
    (hn : SegAt w J d i tb) (turn : TurnAt w J B os dr A i tb)
    (R : Rel J B os dr [(e, enumO .none it (i : Int) old), (it, tupIt (.ref 61) (i : Int)), (L, fmF h k n (.int mode t0) pm idx tbl b c), (pm, lsto vs pn)] 0 s) {Q : Option Value → Shared → Prop} {F : Flow → Shared → Prop} {E : Value → Shared → Prop}
    (hq : ∀ x s', wpAny (Mo w) A (letOwnedTupleGo (fmL1 w.params).t (.ref e) x) (fun _ s₂ => wpAny (Mo w) A (assign (fmL1 w.params).t (envAt w.params 68 L) x) (fun _ s₃ => wpAny (Mo w) A (execs (fmL1 w.params).b (envAt w.params 68 L)) F E s₃) E s₂) E s' → Q (some x) s')
    (hF : ∀ s₄, FmAt J B os dr e it L pm t0 mode (i + 1) s₄ → F .next s₄) : wpAny (Mo w) A (pyNext (.ref e)) Q E s := by
  refine next_part (fT_eq w) hA hd hK R (mask := [true, true]) fun u => ⟨some (.ref (u 1)), _, 0, _, hn e it old u, okD_of _ _ _ _ trivial trivial, fun s₁ R₁ => hq _ _ ?_⟩
  rw [fm_target]
  refine go_part R₁ fun s₂ R₂ => ?_
  rw [← fm_target]
  refine assign_part2 (fT_eq w) hA hd hK R₂ (mask := [true, false, false, false, true]) (fun v => fm_a1 w.params _ _ _ h k n L pm (u 1) _ idx tbl b c i (u 0) tb v) (fun v => okD_of _ _ _ _ trivial trivial) fun v s₃ R₃ => ?_
  refine turn _ _ _ _ _ _ _ _ _ _ _ _ _ _ _ _ _ _ _ hv (R₃.perm (List.perm_append_comm (l₁ := [_]) (l₂ := [_, _, _]))) fun b' c' vs' s₄ hv R₄ => ?_
  exact hF s₄ (FmAt.next (i := i) hv R₄)
theorem fm_loop (hd : 14 ≤ d) (hd9 : d ≤ 880) {A : Around} (hA : AOk (d - 14) A) (hK : KIn (KP w.params) B) {h : Nat → Int} {k : Nat → Nat} {n e it L pm pn t0 : Nat} {old : Value} {mode : Int} {s : Shared} (hmode : bitAndZ mode 61440 = 32768 ∨ bitAndZ mode 61440 = 16384)
    (R₀ : Rel J B os dr [(e, enumO .none it 0 old), (it, tupIt (.ref 61) 0), (L, fmF2 h k n (.int mode t0) pm), (pm, lsto [] pn)] 0 s) {R : Result → Shared → Prop}
    (hR : ∀ h' k' n' idx tbl b' c' vs' pn' s', StrsAre vs' (chars mode 10) → Rel J B os dr [(L, fmF h' k' n' (.int mode t0) pm idx tbl b' c'), (pm, lsto vs' pn')] 0 s' → R (.ok .next) s') :
    codeAny (Mo w) A (.forLoop (fmL1 w.params).t (.ref e) (fmL1 w.params).b [] (envAt w.params 68 L)) R s := by
  refine codeAny_forLoop_any (fun m s => ∃ i, m = 10 - i ∧ i ≤ 10 ∧ FmAt J B os dr e it L pm t0 mode i s) ?_ 10 ⟨0, rfl, by omega, .z rfl h k n pn old R₀⟩
  rintro m s ⟨i, rfl, hi, hs⟩
  rcases hs with ⟨rfl, h, k, n, pn, old, R⟩ | ⟨h1, h, k, n, idx, tbl, b, c, vs, pn, old, hv, R⟩
  · refine next_part (fT_eq w) hA hd hK R (mask := [true, true]) fun u => ⟨some (.ref (u 1)), _, 0, _, fm_n0 w.params _ _ _ e it old u, okD_of _ _ _ _ trivial trivial, fun s₁ R₁ => ?_⟩
    dsimp only
    rw [fm_target]
    refine go_part R₁ fun s₂ R₂ => ?_
    rw [← fm_target]
    refine assign_part2 (fT_eq w) hA hd hK R₂ (mask := [true, false, false, false, true]) (fun v => fm_a0 w.params _ _ _ h k n L pm (u 1) _ 0 (u 0) 36 v) (fun v => okD_of _ _ _ _ trivial trivial) fun v s₃ R₃ => ?_
    refine fm_turn0 hd hd9 hA hK hmode (R₃.perm (List.perm_append_comm (l₁ := [_]) (l₂ := [_, _, _]))) fun h' k' n' b' c' vs' s₄ hv R₄ => ?_
    exact ⟨9, by omega, 1, rfl, by omega, FmAt.next (i := 0) hv R₄⟩
  · by_cases hi9 : i ≤ 9
    · obtain ⟨tb, hn, turn⟩ := fm_all (J := J) (os := os) (dr := dr) hd hA hK i h1 hi9
      exact fm_mid hd hA hK hv hn turn R (fun x s' h => h) fun s₄ h => ⟨10 - (i + 1), by omega, i + 1, rfl, by omega, h⟩
    · obtain rfl : i = 10 := by omega
      refine next_part (fT_eq w) hA hd hK R (mask := [true, true]) fun u => ⟨none, _, 0, _, fm_n10 w.params _ _ _ e it old u, okD_of _ _ _ _ trivial trivial, fun s₁ R₁ => ?_⟩
      exact wpAny_execs_nil (hR _ _ _ _ _ _ _ _ _ s₁ hv R₁)
end
end Mine
end
-- F8
section
open PySem PySem.Spec PySem.Calls PyProof.Rows PySem.W PySem.W.X
namespace Mine
open AutoSeq1 (wpAny_loadPart')
/-- enumerate of a tuple -/
theorem meets_enum_tup (l : Addr) (items : Array Value) (n : Nat) (dct : Option Addr) (sl : Array (Option Value)) :
    Meets (Builtin.«enumerate.__new__» ⟨[.type "enumerate", .ref l], []⟩) (fun _ R s => s.heap.get? l = some { cls := .type "tuple", dict := dct, data := .seq items n, slots := sl } ∧
      R (.ok (.ret (.ref (s.heap.push (tupIt (.ref l) 0)).objs.size)))
        { s with heap := (s.heap.push (tupIt (.ref l) 0)).push (enumO .none s.heap.objs.size 0 .none) }) :=
  .of_wp fun prog w A R s h => by
    obtain ⟨hp, g, d, tk, os⟩ := s; obtain ⟨hl, h⟩ := h
    have hsub := sub_enumerate
    have hL : Heap.IsTuple (Shared.heap ⟨hp, g, d, tk, os⟩) l items := ⟨_, hl, rfl, n, rfl⟩
    wp_walk using wpAny_loadPart' hl
    refine wpAny_stack_any fun st => wpAny_pure ?_
    split
    · rename_i c _ _ _ _ _
      cases (c == Value.type "enumerate")
      · wp_walk using wpAny_loadPart' hl, wpAny_pyIter_tuple hL
        exact ⟨_, rfl, h⟩
      · wp_walk using wpAny_loadPart' hl, wpAny_pyIter_tuple hL
        exact ⟨_, rfl, h⟩
    · wp_walk using wpAny_loadPart' hl, wpAny_pyIter_tuple hL
      exact ⟨_, rfl, h⟩
section
variable {w : World} {K : Frag} {J : Nat → Array GenState → Prop} {B : Addr → Option Obj} {os : OsState} {dr : Drawn} {d : Nat}
noncomputable def enumF (t : Nat) : CFn := fun us => (.ok (.ret (.ref (getU us 1))), [(getU us 0, tupIt (.ref t) 0), (getU us 1, enumO .none (getU us 0) 0 .none)])
theorem specEnum {t : Nat} {items : Array Value} {n : Nat} {dct : Option Addr} {sl : Array (Option Value)} (ho : lookK K t = some { cls := .type "tuple", dict := dct, data := .seq items n, slots := sl }) (j : Nat) :
    Spec w K d J (.call (.type "enumerate") ⟨[.ref t], []⟩) [] j 2 (enumF t) j := by
  refine spec_val (gv := fun us => .ref (getU us 1)) (gH := fun us => [(getU us 0, tupIt (.ref t) 0), (getU us 1, enumO .none (getU us 0) 0 .none)]) fun A B os dr s Q hA hK R hQ => ?_
  refine callType_new F.called_enumerate (by decide) (F.typeCall_enumerate_1 _) (F.newCall_enumerate_1 _) (fun obj => F.args_object_init_2 obj _) F.entry_enumerate_new (meets_enum_tup t items n dct sl) ⟨R.top hK ho, ?_⟩
  have R1 := R.alloc (o := tupIt (.ref t) 0) rfl
  have R2 := R1.alloc (o := enumO .none s.heap.objs.size 0 .none) rfl
  have ht : ({ s with heap := (s.heap.push (tupIt (.ref t) 0)).push (enumO .none s.heap.objs.size 0 .none) } : Shared).TypeIs (.ref (s.heap.push (tupIt (.ref t) 0)).objs.size) "enumerate" := ⟨_, Heap.get?_push_size _ rfl, rfl⟩
  exact ⟨ht, hQ [s.heap.objs.size, (s.heap.push (tupIt (.ref t) 0)).objs.size] _ rfl R2⟩
end
noncomputable abbrev evalZ : Expr → Env → Sem Value := PySem.W.ZFast.zw14044960220447912780
noncomputable def valZ (e : Expr) (env : Env) : Sem PySem.Fin := PySem.W.R.bindR (evalZ e env) fun v => .pure (.done (.ret v))
theorem valZ_eq (e : Expr) (env : Env) : valZ e env = (eval e env).bind fun v => .pure (.done (.ret v)) := by
  unfold valZ
  rw [show (evalZ : Expr → Env → Sem Value) = eval from PySem.W.ZFast.ze14044960220447912780.symm, ← PySem.W.R.bindR_eq]
noncomputable def iterZ (v : Value) : Sem PySem.Fin := PySem.W.R.bindR (PySem.W.ZFast.zw8711993805878244202 v) fun v => .pure (.done (.ret v))
theorem iterZ_eq (v : Value) : iterZ v = (pyIter v).bind fun v => .pure (.done (.ret v)) := by
  unfold iterZ; rw [← PySem.W.ZFast.ze8711993805878244202, ← PySem.W.R.bindR_eq]
section
variable {w : World} {K : Frag} {J : Nat → Array GenState → Prop} {B : Addr → Option Obj} {os : OsState} {dr : Drawn} {d : Nat}
theorem val_part {P : Params} (hP : P = w.params) {e : Expr} {env : Env} {A₀ : Around} {Q : Value → Shared → Prop} {E : Value → Shared → Prop} {H : List Ent} {j ct n L : Nat} {ces : List CE} {s : Shared} {m mask : List Bool} (hA : AOk (d - 14) A₀) (hd : 14 ≤ d) (hK : KIn K B) (R : Rel J B os dr H j s)
    (h : ∀ u, ∃ v Hn j' ok, trimO m (run P K (SP w K d J) n c0 none 0 [] (valZ e env) (splitM mask H).1 j (mkU L u) ct ces True) = some ⟨.fin (.done (.ret v)), Hn, j', ok⟩ ∧ ok ∧ ∀ s', Rel J B os dr ((splitM mask H).2 ++ Hn) j' s' → Q v s') : wpAny (Mo w) A₀ (eval e env) Q E s := by
  have z : wpAny (Mo w) A₀ (valZ e env) (fun fin s' => match fin with | .done (.ret v) => Q v s' | _ => False) E s :=
    tree_part hP hA hd hK R (m := m) (mask := mask) (L := L) (ct := ct) (n := n) (ces := ces) fun u => by
      obtain ⟨v, Hn, j', ok, h1, h2, h3⟩ := h u
      exact ⟨_, Hn, j', ok, h1, h2, h3⟩
  rw [valZ_eq] at z
  exact wpAny_unbind (g := fun v => PySem.Fin.done (.ret v)) z
theorem iter_part {P : Params} (hP : P = w.params) {x : Value} {A₀ : Around} {Q : Value → Shared → Prop} {E : Value → Shared → Prop} {H : List Ent} {j ct n L : Nat} {ces : List CE} {s : Shared} {m mask : List Bool} (hA : AOk (d - 14) A₀) (hd : 14 ≤ d) (hK : KIn K B) (R : Rel J B os dr H j s)
    (h : ∀ u, ∃ v Hn j' ok, trimO m (run P K (SP w K d J) n c0 none 0 [] (iterZ x) (splitM mask H).1 j (mkU L u) ct ces True) = some ⟨.fin (.done (.ret v)), Hn, j', ok⟩ ∧ ok ∧ ∀ s', Rel J B os dr ((splitM mask H).2 ++ Hn) j' s' → Q v s') : wpAny (Mo w) A₀ (pyIter x) Q E s := by
  have z : wpAny (Mo w) A₀ (iterZ x) (fun fin s' => match fin with | .done (.ret v) => Q v s' | _ => False) E s :=
    tree_part hP hA hd hK R (m := m) (mask := mask) (L := L) (ct := ct) (n := n) (ces := ces) fun u => by
      obtain ⟨v, Hn, j', ok, h1, h2, h3⟩ := h u
      exact ⟨_, Hn, j', ok, h1, h2, h3⟩
  rw [iterZ_eq] at z
  exact wpAny_unbind (g := fun v => PySem.Fin.done (.ret v)) z
end
noncomputable def stm (P : Params) (f i : Nat) : Stmt := (getI (bd P f) i).getD (.Pass default)
noncomputable def forPos : Stmt → Pos
  | .For _ _ _ _ p => p
  | _ => default
theorem fm_body (P : Params) : bd P 68 = [stm P 68 0] ++ ([stm P 68 1] ++ [stm P 68 2]) := by kernel_rfl!
theorem fm_for (P : Params) : stm P 68 1 = .For (fmL1 P).t (fmL1 P).i (fmL1 P).b [] (forPos (stm P 68 1)) := by kernel_rfl!
theorem seen68 (P : Params) : FnSeen P 68 67 := ⟨by kernel_rfl!, by kernel_rfl!, by kernel_rfl!, by kernel_rfl!, by kernel_rfl!, by kernel_rfl!, by kernel_rfl!, by kernel_rfl!, by kernel_rfl!⟩
theorem bind68 (P : Params) (v : Value) : bindArgs (fd P 68) ⟨[v], []⟩ = .pure [(nMode, v)] := bind_of (by kernel_rfl!)
theorem ent68 (P : Params) (S) (j : Nat) (v : Value) (u : Nat → Nat) : trimO [true] (run P (KP P) S 40 c0 none 0 [] (entZ (fd P 68) 68 (bd P 68) [(nMode, v)]) [] j (mkU 2 u) (1 + 64) [] True) =
  some ⟨.fin (.again (.func (bd P 68) (envAt P 68 (u 0)))), [(u 0, fro [en (hs P nMode) (u 1) nMode v] 1)], j, okD 2 (1 + 64) [u 0] [] True⟩ := by kernel_rfl!
theorem fm_A (P : Params) (S) (h : Int) (k L : Nat) (mode : Int) (t0 : Nat) (u : Nat → Nat) : trimO [true, true] (run P (KP P) S 20 c0 none 0 [] (flowZ [stm P 68 0] (envAt P 68 L)) [(L, fro [en h k nMode (.int mode t0)] 1)] 0 (mkU 2 u) 65 [] True) =
  some ⟨.fin (.done .next), [(L, fmF2 (ext2 (fun _ => h) 1 (hs P nPerm) 0) (ext2 (fun _ => k) 1 (u 1) 0) 2 (.int mode t0) (u 0)), (u 0, lsto [] 0)], 0, okD 2 65 [L, u 0] [] True⟩ := by kernel_rfl!
noncomputable def ceEnum : CE := ⟨none, [], 2, enumF 61, 0, noH⟩
theorem fm_B (P : Params) (S) (L : Nat) (u : Nat → Nat) : trimO [true, true] (run P (KP P) S 20 c0 none 0 [] (valZ (fmL1 P).i (envAt P 68 L)) [] 0 (mkU 2 u) 16515072 [ceEnum] True) =
  some ⟨.fin (.done (.ret (.ref (u 1)))), [(u 0, tupIt (.ref 61) 0), (u 1, enumO .none (u 0) 0 .none)], 0, okD 4 16515072 [] [(S (.call (.type "enumerate") ⟨[.ref 61], []⟩) [] 0 2 (enumF 61) 0, id)] True⟩ := by kernel_rfl!
theorem fm_I (P : Params) (b1 b2 : Bool) (S) (e it : Nat) (u : Nat → Nat) : trimO [true] (run (ftP P b1 b2) (KP P) S 20 c0 none 0 [] (iterZ (.ref e)) [(e, enumO .none it 0 .none)] 0 (mkU 0 u) 17039425 [] True) =
  some ⟨.fin (.done (.ret (.ref e))), [(e, enumO .none it 0 .none)], 0, okD 5 17039425 [e] [] True⟩ := by cases b1 <;> kernel_rfl!
noncomputable def sgn (x t : Nat) : Value := .str ⟨⟨[x]⟩⟩ t
theorem fm_C (P : Params) (S) (h : Nat → Int) (k : Nat → Nat) (n L pm pn : Nat) (m i tb b c : Value) (x t : Nat → Nat) (u : Nat → Nat) : trimO [] (run P (KP P) S 40 c0 none 0 [] (flowZ [stm P 68 2] (envAt P 68 L)) [(L, fmF h k n m pm i tb b c), (pm, lsto [sgn (x 0) (t 0), sgn (x 1) (t 1), sgn (x 2) (t 2), sgn (x 3) (t 3), sgn (x 4) (t 4), sgn (x 5) (t 5), sgn (x 6) (t 6), sgn (x 7) (t 7), sgn (x 8) (t 8), sgn (x 9) (t 9)] pn)] 0 (mkU 2 u) 532481 [] True) =
  some ⟨.fin (.done (.ret (.str ⟨⟨[x 0, x 1, x 2, x 3, x 4, x 5, x 6, x 7, x 8, x 9]⟩⟩ (u 1)))), [], 0, okD 4 532481 [L, pm] [] True⟩ := by kernel_rfl!
end Mine
end
-- F9
section
open PySem PySem.Spec PySem.Calls PyProof.Rows PySem.W PySem.W.X
namespace Mine
section
variable {w : World} {K : Frag} {J : Nat → Array GenState → Prop} {B : Addr → Option Obj} {os : OsState} {dr : Drawn} {d : Nat}
theorem AOk.deeper {A : Around} (h : AOk (d - 16) A) (hd : 16 ≤ d) (env : Env) : AOk (d - 14) (A.deeper env) :=
  ⟨h.1, by show A.depth + 1 ≤ _; have := h.2.1; omega, by show A.units + 3 ≤ _; have := h.2.2; omega⟩
noncomputable def fmS (mode : Int) : Str := ⟨⟨[fmK mode 0, fmK mode 1, fmK mode 2, fmK mode 3, fmK mode 4, fmK mode 5, fmK mode 6, fmK mode 7, fmK mode 8, fmK mode 9]⟩⟩
theorem fm_iter (P : Params) (env : Env) (x : Value) : foldedSetIterable (fmL1 P).i env x = pure x := by kernel_rfl!
theorem tup61 (P : Params) : ∃ items n dct sl, lookK (KP P) 61 = some { cls := .type "tuple", dict := dct, data := .seq items n, slots := sl } :=
  ⟨(match (objAt (KP P) 61).data with | .seq xs _ => xs | _ => #[]), (match (objAt (KP P) 61).data with | .seq _ n => n | _ => 0), (objAt (KP P) 61).dict, (objAt (KP P) 61).slots, by kernel_rfl!⟩
noncomputable def strsV : List Str → (Nat → Nat) → List Value
  | [], _ => []
  | c :: cs, t => .str c (t 0) :: strsV cs fun i => t (i + 1)
theorem strs_of {vs : List Value} {cs : List Str} (h : StrsAre vs cs) : ∃ t : Nat → Nat, vs = strsV cs t := by
  induction h with
  | nil => exact ⟨fun _ => 0, rfl⟩
  | @cons c t vs cs _ ih =>
    obtain ⟨t', e⟩ := ih
    exact ⟨fun i => match i with | 0 => t | i + 1 => t' i, by rw [e]; rfl⟩
theorem strs10 {vs : List Value} {mode : Int} (h : StrsAre vs (chars mode 10)) : ∃ t : Nat → Nat, vs = [sgn (fmK mode 0) (t 0), sgn (fmK mode 1) (t 1), sgn (fmK mode 2) (t 2), sgn (fmK mode 3) (t 3), sgn (fmK mode 4) (t 4), sgn (fmK mode 5) (t 5), sgn (fmK mode 6) (t 6), sgn (fmK mode 7) (t 7), sgn (fmK mode 8) (t 8), sgn (fmK mode 9) (t 9)] := strs_of h
noncomputable def fmFn (mode : Int) : CFn := fun us => (.ok (.ret (.str (fmS mode) (getU us 0))), [])
theorem specFm (hd : d ≤ 860) {mode : Int} {t0 : Nat} (hmode : bitAndZ mode 61440 = 32768 ∨ bitAndZ mode 61440 = 16384) : Spec w (KP w.params) d J (.call (.ref 68) ⟨[.int mode t0], []⟩) [] 0 1 (fmFn mode) 0 := by
  have key : Spec w (KP w.params) (d + 16 - 16) J (.call (.ref 68) ⟨[.int mode t0], []⟩) [] 0 1 (fmFn mode) 0 := by
    refine fn_spec rfl (seen68 _).ok (bind68 _ _) (by omega) (by omega) (fun u => ent68 w.params _ 0 _ u) (fun u => okD_of _ _ _ _ trivial trivial) fun u A B os dr s R hA hK Rl hR => ?_
    have hA' := hA.deeper (by omega) (envAt w.params 68 (u 0))
    refine codeAny_func ?_
    rw [fm_body]
    refine execs_app _ _ (flow_part2 rfl hA' (by omega) hK Rl (mask := [true]) (fun v => fm_A w.params _ _ _ (u 0) mode t0 v) (fun v => okD_of _ _ _ _ trivial trivial) fun v s₁ R₁ => ?_)
    refine execs_app _ _ (wpAny_execs_cons ?_)
    rw [fm_for]
    refine wpAny_For ?_ (fun x => fm_iter _ _ x)
    obtain ⟨items, n, dct, sl, ho⟩ := tup61 w.params
    refine val_part rfl hA' (by omega) hK R₁ (mask := []) fun v' => ⟨_, _, 0, _, fm_B w.params _ (u 0) v', okD_of _ _ _ _ ⟨specEnum ho 0, trivial⟩ trivial, fun s₂ R₂ => ?_⟩
    refine iter_part (fT_eq w) hA' (by omega) hK R₂ (mask := [false, false, false, true]) fun v'' => ⟨_, _, 0, _, fm_I w.params _ _ _ (v' 1) (v' 0) v'', okD_of _ _ _ _ trivial trivial, fun s₃ R₃ => ?_⟩
    refine fm_loop (d := d + 16) (by omega) (by omega) hA' hK hmode (R₃.perm (List.perm_append_comm (l₁ := [_, _]) (l₂ := [_, _]) |>.trans (List.Perm.swap _ _ _))) fun h' k' n' idx tbl b' c' vs' pn' s₄ hv R₄ => ?_
    refine wpAny_execs_nil ?_
    obtain ⟨t, rfl⟩ := strs10 hv
    refine flow_part2 rfl hA' (by omega) hK R₄ (mask := [true, true]) (fun v3 => fm_C w.params _ h' k' n' (u 0) (v 0) pn' _ idx tbl b' c' (fmK mode) t v3) (fun v3 => okD_of _ _ _ _ trivial trivial) fun v3 s₅ R₅ => ?_
    exact hR [v3 1] s₅ rfl R₅
  rwa [Nat.add_sub_cancel] at key
end
end Mine
end
-- Cs7
section
open PySem PySem.Spec PySem.Calls PyProof.Rows PySem.W PySem.W.X
namespace Mine
/-! the run within a generator -/
inductive EndS where
  | ret (r : Result)
  | susp (v : Value) (l : List Value) (k : Resume → Sem PySem.Fin) (c : Code) (fs : List Frame)
structure OutS where
  e : EndS
  H : List Ent
  j : Nat
  ok : Prop
/-- frames of the text's own codes, without marks -/
noncomputable def fsAst : List Frame → Bool
  | [] => true
  | f :: fs => match f with
    | .ret _ m _ _ c _ _ => match m with
      | none => match isAst c with
        | true => fsAst fs
        | false => false
      | some _ => false
    | .gen .. => false
noncomputable def fsFree : List Frame → Bool
  | [] => true
  | f :: fs => match f with
    | .ret _ _ g _ _ _ _ => match g with
      | false => fsFree fs
      | true => false
    | .gen .. => false
noncomputable def runS (P : Params) (K : Frag) (S : Code → List Ent → Nat → Nat → CFn → Nat → Prop) :
    Nat → Code → List Frame → Sem PySem.Fin → List Ent → Nat → List Nat → List Pos → Nat → List CE → Prop → Option OutS
  | 0, _, _, _, _, _, _, _, _, _, _ => none
  | n + 1, c, fs, t, H, j, us, ps, ct, ces, ok => match t with
    | .pure fin => match fin with
      | .done f => match fs with
        | [] => some ⟨.ret (.ok f), H, j, ok⟩
        | q :: fs => match q with
          | .ret k _ _ _ c₁ _ _ => runS P K S n c₁ fs (k (.ok f)) H j us ps ct ces ok
          | .gen .. => none
      | .again c' => match PySem.W.ZFast.zw17772548960776305114 c' with
        | false => none
        | true => runS P K S n c' fs (den c') H j us ps ct ces ok
    | .raise e => match fs with
      | [] => some ⟨.ret (.error e), H, j, ok⟩
      | q :: fs => match q with
        | .ret k _ _ _ c₁ _ _ => runS P K S n c₁ fs (k (.error e)) H j us ps ct ces ok
        | .gen .. => none
    | .rule _ k => runS P K S n c fs (k ()) H j us ps ct ces ok
    | .at _ k => runS P K S n c fs (k ()) H j us ps ct ces ok
    | .point _ k => runS P K S n c fs (k ()) H j us ps ct ces ok
    | .ask k => runS P K S n c fs (k ⟨prg, P⟩) H j us ps ct ces ok
    | .load a _ k => match ct % 64 with
      | 0 => match lookK K a with
        | some o => runS P K S n c fs (k o) H j us ps (ct / 64) ces ok
        | none => none
      | i + 1 => match getI H i with
        | some p => runS P K S n c fs (k p.2) H j us ps (ct / 64) ces (a = p.1 ∧ ok)
        | none => none
    | .update a _ f k => match ct % 64 with
      | 0 => none
      | i + 1 => match getI H i with
        | some p => match (f p.2).isFreed with
          | true => none
          | false => runS P K S n c fs (k ()) (setI H i (p.1, f p.2)) j us ps (ct / 64) ces (a = p.1 ∧ ok)
        | none => none
    | .alloc o k => match us with
      | [] => none
      | a :: us => match o.isFreed with
        | true => none
        | false => runS P K S n c fs (k a) (snoc H (a, o)) j us ps ct ces ok
    | .fresh k => match us with
      | [] => none
      | u :: us => runS P K S n c fs (k u) H j us ps ct ces ok
    | .handled own k => match own with
      | true => none
      | false => match fsAst fs with
        | false => none
        | true => runS P K S n c fs (k none) H j us ps ct ces ok
    | .call c' m g l k => match ct % 64 with
      | 0 => match m with
        | some _ => none
        | none => match ps with
          | [] => none
          | p :: ps => runS P K S n c' (.ret k none g l c p [] :: fs) (den c') H j us ps (ct / 64) ces ok
      | _ + 1 => match m with
        | some _ => none
        | none => match fsAst fs with
          | false => none
          | true => match isAst c with
            | false => none
            | true => match Nat.ble fs.length 9 with
              | false => none
              | true => match ces with
                | [] => none
                | e :: ces => match codeFor e.nm c' with
                  | none => none
                  | some c₁ => match takeN e.n us with
                    | none => none
                    | some r => runS P K S n c fs (k (e.g (splitM e.mask H).1 r.1).1) (app (splitM e.mask H).2 (e.g (splitM e.mask H).1 r.1).2) e.j r.2 ps (ct / 64) ces (S c₁ (splitM e.mask H).1 j e.n (e.g (splitM e.mask H).1) e.j ∧ ok)
    | .yield v gd l k => match gd with
      | true => none
      | false => match fsFree fs with
        | false => none
        | true => some ⟨.susp v l k c fs, H, j, ok⟩
    | _ => none
theorem fsAst_facts : ∀ {fs : List Frame}, fsAst fs = true → (∀ x : Option Value × Option Value, marksOver fs x = x) ∧ frameCount (fs.map Frame.where_) ≤ fs.length ∧ unitsOf (fs.map Frame.where_) ≤ 3 * fs.length
  | [], _ => ⟨fun _ => rfl, Nat.le_refl _, Nat.le_refl _⟩
  | .gen .. :: _, h => by cases h
  | .ret k m g l c p kp :: fs, h => by
    unfold fsAst at h
    cases m with
    | some _ => cases h
    | none =>
      cases hc : isAst c with
      | false => simp only [hc] at h; cases h
      | true =>
        simp only [hc] at h
        obtain ⟨a, b, d⟩ := fsAst_facts (fs := fs) h
        obtain ⟨w1, w2⟩ := ast_weight hc
        refine ⟨fun x => ?_, ?_, ?_⟩
        · have e : marksOver (.ret k none g l c p kp :: fs) x = Frame.marks (.ret k none g l c p kp) (marksOver fs x) := by unfold marksOver; rw [List.foldr_cons]
          rw [e, a x]; rfl
        · show frameCount ((c, p) :: fs.map Frame.where_) ≤ fs.length + 1
          rw [frameCount_cons]; omega
        · show unitsOf ((c, p) :: fs.map Frame.where_) ≤ 3 * (fs.length + 1)
          rw [unitsOf_cons]; omega
theorem fsFree_facts : ∀ {fs : List Frame}, fsFree fs = true → splitAtGen fs = none ∧ fs.any Frame.guarded = false
  | [], _ => ⟨rfl, rfl⟩
  | .gen .. :: _, h => by cases h
  | .ret k m g l c p kp :: fs, h => by
    unfold fsFree at h
    cases g with
    | true => cases h
    | false =>
      obtain ⟨a, b⟩ := fsFree_facts (fs := fs) h
      refine ⟨?_, ?_⟩
      · unfold splitAtGen; rw [a]; rfl
      · rw [List.any_cons, b]; rfl
theorem runS_again {P : Params} {K : Frag} {S : Code → List Ent → Nat → Nat → CFn → Nat → Prop} {n : Nat} {c : Code} {fs : List Frame} {H : List Ent} {j : Nat} {us : List Nat} {ps : List Pos} {ct : Nat} {ces : List CE} {ok : Prop} (c' : Code) : runS P K S (n + 1) c fs (.pure (.again c')) H j us ps ct ces ok =
    (match PySem.W.ZFast.zw17772548960776305114 c' with
      | false => none
      | true => runS P K S n c' fs (den c') H j us ps ct ces ok) := rfl
theorem runS_load {P : Params} {K : Frag} {S : Code → List Ent → Nat → Nat → CFn → Nat → Prop} {n : Nat} {c : Code} {fs : List Frame} {H : List Ent} {j : Nat} {us : List Nat} {ps : List Pos} {ct : Nat} {ces : List CE} {ok : Prop} (a : Addr) (q : Option Value) (k : Obj → Sem PySem.Fin) : runS P K S (n + 1) c fs (.load a q k) H j us ps ct ces ok =
    (match ct % 64 with
      | 0 => match lookK K a with
        | some o => runS P K S n c fs (k o) H j us ps (ct / 64) ces ok
        | none => none
      | i + 1 => match getI H i with
        | some p => runS P K S n c fs (k p.2) H j us ps (ct / 64) ces (a = p.1 ∧ ok)
        | none => none) := rfl
theorem runS_update {P : Params} {K : Frag} {S : Code → List Ent → Nat → Nat → CFn → Nat → Prop} {n : Nat} {c : Code} {fs : List Frame} {H : List Ent} {j : Nat} {us : List Nat} {ps : List Pos} {ct : Nat} {ces : List CE} {ok : Prop} (a : Addr) (q : Option Value) (f : Obj → Obj) (k : Unit → Sem PySem.Fin) : runS P K S (n + 1) c fs (.update a q f k) H j us ps ct ces ok =
    (match ct % 64 with
      | 0 => none
      | i + 1 => match getI H i with
        | some p => match (f p.2).isFreed with
          | true => none
          | false => runS P K S n c fs (k ()) (setI H i (p.1, f p.2)) j us ps (ct / 64) ces (a = p.1 ∧ ok)
        | none => none) := rfl
theorem runS_alloc {P : Params} {K : Frag} {S : Code → List Ent → Nat → Nat → CFn → Nat → Prop} {n : Nat} {c : Code} {fs : List Frame} {H : List Ent} {j : Nat} {us : List Nat} {ps : List Pos} {ct : Nat} {ces : List CE} {ok : Prop} (o : Obj) (k : Addr → Sem PySem.Fin) : runS P K S (n + 1) c fs (.alloc o k) H j us ps ct ces ok =
    (match us with
      | [] => none
      | a :: us => match o.isFreed with
        | true => none
        | false => runS P K S n c fs (k a) (snoc H (a, o)) j us ps ct ces ok) := rfl
theorem runS_handled {P : Params} {K : Frag} {S : Code → List Ent → Nat → Nat → CFn → Nat → Prop} {n : Nat} {c : Code} {fs : List Frame} {H : List Ent} {j : Nat} {us : List Nat} {ps : List Pos} {ct : Nat} {ces : List CE} {ok : Prop} (own : Bool) (k : Option Value → Sem PySem.Fin) : runS P K S (n + 1) c fs (.handled own k) H j us ps ct ces ok =
    (match own with
      | true => none
      | false => match fsAst fs with
        | false => none
        | true => runS P K S n c fs (k none) H j us ps ct ces ok) := rfl
theorem runS_call {P : Params} {K : Frag} {S : Code → List Ent → Nat → Nat → CFn → Nat → Prop} {n : Nat} {c : Code} {fs : List Frame} {H : List Ent} {j : Nat} {us : List Nat} {ps : List Pos} {ct : Nat} {ces : List CE} {ok : Prop} (c' : Code) (m : Option Value) (g : Bool) (l : List Value) (k : Result → Sem PySem.Fin) : runS P K S (n + 1) c fs (.call c' m g l k) H j us ps ct ces ok =
    (match ct % 64 with
      | 0 => match m with
        | some _ => none
        | none => match ps with
          | [] => none
          | p :: ps => runS P K S n c' (.ret k none g l c p [] :: fs) (den c') H j us ps (ct / 64) ces ok
      | _ + 1 => match m with
        | some _ => none
        | none => match fsAst fs with
          | false => none
          | true => match isAst c with
            | false => none
            | true => match Nat.ble fs.length 9 with
              | false => none
              | true => match ces with
                | [] => none
                | e :: ces => match codeFor e.nm c' with
                  | none => none
                  | some c₁ => match takeN e.n us with
                    | none => none
                    | some r => runS P K S n c fs (k (e.g (splitM e.mask H).1 r.1).1) (app (splitM e.mask H).2 (e.g (splitM e.mask H).1 r.1).2) e.j r.2 ps (ct / 64) ces (S c₁ (splitM e.mask H).1 j e.n (e.g (splitM e.mask H).1) e.j ∧ ok)) := rfl
theorem runS_yield {P : Params} {K : Frag} {S : Code → List Ent → Nat → Nat → CFn → Nat → Prop} {n : Nat} {c : Code} {fs : List Frame} {H : List Ent} {j : Nat} {us : List Nat} {ps : List Pos} {ct : Nat} {ces : List CE} {ok : Prop} (v : Value) (gd : Bool) (l : List Value) (k : Resume → Sem PySem.Fin) : runS P K S (n + 1) c fs (.yield v gd l k) H j us ps ct ces ok =
    (match gd with
      | true => none
      | false => match fsFree fs with
        | false => none
        | true => some ⟨.susp v l k c fs, H, j, ok⟩) := rfl
section
variable {w : World} {K : Frag} {J : Nat → Array GenState → Prop} {B : Addr → Option Obj} {os : OsState} {dr : Drawn} {A₀ : Around} {Pp : End → Shared → Prop} {d : Nat}
noncomputable def EndsS (J : Nat → Array GenState → Prop) (B : Addr → Option Obj) (os : OsState) (dr : Drawn) (Pp : End → Shared → Prop) (o : OutS) : Prop := match o.e with
  | .ret r => ∀ s', Rel J B os dr o.H o.j s' → Pp (.ret r) s'
  | .susp v l k c fs => ∀ p s', Rel J B os dr o.H o.j s' → Pp (.susp v false l k c p fs) s'
theorem runS_ok : ∀ {n : Nat} {c : Code} {fs : List Frame} {t : Sem PySem.Fin} {H : List Ent} {j : Nat} {us : List Nat} {ps : List Pos} {ct : Nat} {ces : List CE} {ok : Prop} {P : Params} {S} {o : OutS},
    runS P K S n c fs t H j us ps ct ces ok = some o → o.ok → ok := by
  intro n
  induction n with
  | zero => intro c fs t H j us ps ct ces ok P S o h; cases h
  | succ n ih =>
    intro c fs t H j us ps ct ces ok P S o h ho
    cases t with
    | pure fin =>
      cases fin with
      | done f =>
        cases fs with
        | nil => cases h; exact ho
        | cons q fs =>
          cases q with
          | gen => cases h
          | ret k m g l c₁ p kp => exact ih h ho
      | again c' =>
        rw [runS_again] at h
        cases hq : PySem.W.ZFast.zw17772548960776305114 c' with
        | false => rw [hq] at h; cases h
        | true => rw [hq] at h; exact ih h ho
    | raise e =>
      cases fs with
      | nil => cases h; exact ho
      | cons q fs =>
        cases q with
        | gen => cases h
        | ret k m g l c₁ p kp => exact ih h ho
    | rule tag k => exact ih h ho
    | «at» q k => exact ih h ho
    | point l k => exact ih h ho
    | ask k => exact ih h ho
    | load a q k =>
      rw [runS_load] at h
      cases hct : ct % 64 with
      | zero =>
        rw [hct] at h
        cases hl : lookK K a with
        | none => rw [hl] at h; cases h
        | some o' => rw [hl] at h; exact ih h ho
      | succ i =>
        rw [hct] at h
        dsimp only at h
        cases hl : getI H i with
        | none => rw [hl] at h; cases h
        | some p => rw [hl] at h; exact (ih h ho).2
    | update a q f k =>
      rw [runS_update] at h
      cases hct : ct % 64 with
      | zero => rw [hct] at h; cases h
      | succ i =>
        rw [hct] at h
        dsimp only at h
        cases hl : getI H i with
        | none => rw [hl] at h; cases h
        | some p =>
          rw [hl] at h
          dsimp only at h
          cases hf : (f p.2).isFreed with
          | true => rw [hf] at h; cases h
          | false => rw [hf] at h; exact (ih h ho).2
    | alloc o' k =>
      cases us with
      | nil => cases h
      | cons a us =>
        rw [runS_alloc] at h
        cases hf : o'.isFreed with
        | true => rw [hf] at h; cases h
        | false => rw [hf] at h; exact ih h ho
    | fresh k =>
      cases us with
      | nil => cases h
      | cons u us => exact ih h ho
    | handled own k =>
      cases own with
      | true => cases h
      | false =>
        rw [runS_handled] at h
        dsimp only at h
        cases hf : fsAst fs with
        | false => rw [hf] at h; cases h
        | true => rw [hf] at h; exact ih h ho
    | call c' m g l k =>
      rw [runS_call] at h
      cases hct : ct % 64 with
      | zero =>
        rw [hct] at h
        dsimp only at h
        cases m with
        | some e => cases h
        | none =>
          cases ps with
          | nil => cases h
          | cons p ps => exact ih h ho
      | succ i =>
        rw [hct] at h
        dsimp only at h
        cases m with
        | some e => cases h
        | none =>
          dsimp only at h
          cases hf : fsAst fs with
          | false => rw [hf] at h; cases h
          | true =>
            rw [hf] at h
            dsimp only at h
            cases hi : isAst c with
            | false => rw [hi] at h; cases h
            | true =>
              rw [hi] at h
              dsimp only at h
              cases hb : Nat.ble fs.length 9 with
              | false => rw [hb] at h; cases h
              | true =>
                rw [hb] at h
                cases ces with
                | nil => cases h
                | cons e ces =>
                  dsimp only at h
                  cases hc : codeFor e.nm c' with
                  | none => rw [hc] at h; cases h
                  | some c₁ =>
                    rw [hc] at h
                    dsimp only at h
                    cases ht : takeN e.n us with
                    | none => rw [ht] at h; cases h
                    | some r => rw [ht] at h; exact (ih h ho).2
    | yield v gd l k =>
      rw [runS_yield] at h
      cases gd with
      | true => cases h
      | false =>
        dsimp only at h
        cases hf : fsFree fs with
        | false => rw [hf] at h; cases h
        | true => rw [hf] at h; cases h; exact ho
    | _ => cases h
theorem runS_sound (hA : A₀.handled = none) (hD : A₀.depth + 14 ≤ d) (hU : A₀.units + 42 ≤ 3 * d) (hK : KIn K B) :
    ∀ (n : Nat) (c : Code) (fs : List Frame) (t : Sem PySem.Fin) (H : List Ent) (j ct : Nat) (ces : List CE) (ok : Prop) (L Lp : Nat) (s : Shared), Rel J B os dr H j s →
      (∀ us ps, us.length = L → ps.length = Lp → ∃ o, runS w.params K (SP w K d J) n c fs t H j us ps ct ces ok = some o ∧ o.ok ∧ EndsS J B os dr Pp o) → SegX (Mo w) A₀ c t fs s Pp := by
  intro n
  induction n with
  | zero =>
    intro c fs t H j ct ces ok L Lp s _ h
    obtain ⟨o, h1, _⟩ := h (List.replicate L 0) (List.replicate Lp default) (List.length_replicate ..) (List.length_replicate ..)
    cases h1
  | succ n ih =>
    intro c fs t H j ct ces ok L Lp s R h
    have some1 := h (List.replicate L 0) (List.replicate Lp default) (List.length_replicate ..) (List.length_replicate ..)
    cases t with
    | pure fin =>
      cases fin with
      | done f =>
        cases fs with
        | nil =>
          obtain ⟨o, h1, _, h3⟩ := some1
          cases h1
          exact s_end _ _ _ _ _ _ (.ok f) _ rfl (h3 s R)
        | cons q fs =>
          cases q with
          | gen => obtain ⟨o, h1, _⟩ := some1; cases h1
          | ret k m g l c₁ p kp => exact s_pop _ _ _ _ _ _ _ (.ok f) _ rfl _ _ _ _ _ _ _ (ih _ _ _ _ _ _ _ _ L Lp s R h)
      | again c' =>
        have hqz : PySem.W.ZFast.zw17772548960776305114 c' = c'.quiet := by rw [← PySem.W.ZFast.ze17772548960776305114]
        simp only [runS_again] at h some1
        cases hq : PySem.W.ZFast.zw17772548960776305114 c' with
        | false => rw [hq] at some1; obtain ⟨o, h1, _⟩ := some1; cases h1
        | true =>
          rw [hq] at h
          refine s_again _ _ _ _ _ _ _ _ (hqz ▸ hq) ?_
          rw [← den_eq]
          exact ih _ _ _ _ _ _ _ _ L Lp s R h
    | raise e =>
      cases fs with
      | nil =>
        obtain ⟨o, h1, _, h3⟩ := some1
        cases h1
        exact s_end _ _ _ _ _ _ (.error e) _ rfl (h3 s R)
      | cons q fs =>
        cases q with
        | gen => obtain ⟨o, h1, _⟩ := some1; cases h1
        | ret k m g l c₁ p kp => exact s_pop _ _ _ _ _ _ _ (.error e) _ rfl _ _ _ _ _ _ _ (ih _ _ _ _ _ _ _ _ L Lp s R h)
    | rule tag k => exact s_skim _ _ _ _ _ _ _ _ 1 (ih _ _ _ _ _ _ _ _ L Lp s R h)
    | «at» q k => exact s_skim _ _ _ _ _ _ _ _ 1 (ih _ _ _ _ _ _ _ _ L Lp s R h)
    | point l k => exact s_skim _ _ _ _ _ _ _ _ 1 (ih _ _ _ _ _ _ _ _ L Lp s R h)
    | ask k => exact s_skim _ _ _ _ _ _ _ _ 1 (ih _ _ _ _ _ _ _ _ L Lp s R h)
    | load a q k =>
      simp only [runS_load] at h some1
      cases hct : ct % 64 with
      | zero =>
        rw [hct] at h some1
        cases hl : lookK K a with
        | none => rw [hl] at some1; obtain ⟨o, h1, _⟩ := some1; cases h1
        | some o =>
          rw [hl] at h
          exact s_load _ _ _ _ _ _ s.heap s.gens s.drawn s.toks s.os _ _ _ _ (R.top hK hl) (ih _ _ _ _ _ _ _ _ L Lp s R h)
      | succ i =>
        rw [hct] at h some1
        simp only at h some1
        cases hl : getI H i with
        | none => rw [hl] at some1; obtain ⟨o, h1, _⟩ := some1; cases h1
        | some p =>
          rw [hl] at h some1
          obtain ⟨o, h1, h2, _⟩ := some1
          obtain ⟨ea, _⟩ := runS_ok h1 h2
          subst ea
          exact s_load _ _ _ _ _ _ s.heap s.gens s.drawn s.toks s.os _ _ _ _ (R.at hl) (ih _ _ _ _ _ _ _ _ L Lp s R h)
    | update a q f k =>
      simp only [runS_update] at h some1
      cases hct : ct % 64 with
      | zero => rw [hct] at some1; obtain ⟨o, h1, _⟩ := some1; cases h1
      | succ i =>
        rw [hct] at h some1
        simp only at h some1
        cases hl : getI H i with
        | none => rw [hl] at some1; obtain ⟨o, h1, _⟩ := some1; cases h1
        | some p =>
          rw [hl] at h some1
          simp only at h some1
          cases hf : (f p.2).isFreed with
          | true => rw [hf] at some1; obtain ⟨o, h1, _⟩ := some1; cases h1
          | false =>
            rw [hf] at h some1
            obtain ⟨o, h1, h2, _⟩ := some1
            obtain ⟨ea, _⟩ := runS_ok h1 h2
            subst ea
            exact s_cmd _ _ _ _ _ _ (m := updatePart p.1 q f) (k := k) (wpAny_updatePart (R.at hl) (ih _ _ _ _ _ _ _ _ L Lp _ (R.update hl hf) h))
    | alloc o k =>
      cases L with
      | zero => obtain ⟨o, h1, _⟩ := some1; cases h1
      | succ L =>
        have h0 := h (s.heap.objs.size :: List.replicate L 0) (List.replicate Lp default) (by simp) (by simp)
        simp only [runS_alloc] at h0
        cases hf : o.isFreed with
        | true => rw [hf] at h0; obtain ⟨o, h1, _⟩ := h0; cases h1
        | false =>
          refine s_cmd _ _ _ _ _ _ (m := PySem.alloc o) (k := k) (wpAny_alloc (ih c fs _ _ j ct ces ok L Lp _ (R.alloc hf) fun us ps hl hp => ?_))
          have h1 := h (s.heap.objs.size :: us) ps (by simp [hl]) hp
          rw [runS_alloc] at h1; simp only [hf] at h1
          exact h1
    | fresh k =>
      cases L with
      | zero => obtain ⟨o, h1, _⟩ := some1; cases h1
      | succ L => exact s_fresh _ _ _ _ _ _ s.heap s.gens s.drawn s.toks s.os _ (ih _ _ _ _ _ _ _ _ L Lp _ (R.toks _) fun us ps hl hp => h (s.toks :: us) ps (by simp [hl]) hp)
    | handled own k =>
      cases own with
      | true => obtain ⟨o, h1, _⟩ := some1; cases h1
      | false =>
        simp only [runS_handled] at h some1
        cases hf : fsAst fs with
        | false => rw [hf] at some1; obtain ⟨o, h1, _⟩ := some1; cases h1
        | true =>
          rw [hf] at h
          refine s_handled _ _ _ _ _ _ _ _ ?_
          have e : (A₀.over c fs).handled = none := by show (marksOver fs (A₀.handled, A₀.handled)).1 = none; rw [(fsAst_facts hf).1]; exact hA
          rw [e]
          exact ih _ _ _ _ _ _ _ _ L Lp s R h
    | call c' m g l k =>
      simp only [runS_call] at h some1
      cases hct : ct % 64 with
      | zero =>
        rw [hct] at h some1
        simp only at h some1
        cases m with
        | some e => obtain ⟨o, h1, _⟩ := some1; cases h1
        | none =>
          cases Lp with
          | zero => obtain ⟨o, h1, _⟩ := some1; cases h1
          | succ Lp =>
            refine s_call _ _ _ _ _ _ _ _ _ _ _ _ fun p => ?_
            rw [← den_eq]
            exact ih _ _ _ _ _ _ _ _ L Lp s R fun us ps hl hp => h us (p :: ps) hl (by simp [hp])
      | succ i =>
        rw [hct] at h some1
        simp only at h some1
        cases m with
        | some e => obtain ⟨o, h1, _⟩ := some1; cases h1
        | none =>
          cases hf : fsAst fs with
          | false => rw [hf] at some1; obtain ⟨o, h1, _⟩ := some1; cases h1
          | true =>
            cases hi : isAst c with
            | false => rw [hf, hi] at some1; obtain ⟨o, h1, _⟩ := some1; cases h1
            | true =>
              cases hb : Nat.ble fs.length 9 with
              | false => rw [hf, hi, hb] at some1; obtain ⟨o, h1, _⟩ := some1; cases h1
              | true =>
                cases ces with
                | nil => rw [hf, hi, hb] at some1; obtain ⟨o, h1, _⟩ := some1; cases h1
                | cons e ces =>
                  simp only [hf, hi, hb] at h some1
                  cases hc : codeFor e.nm c' with
                  | none => rw [hc] at some1; obtain ⟨o, h1, _⟩ := some1; cases h1
                  | some c₁ =>
                    simp only [hc] at h some1
                    cases codeFor_eq hc
                    have hn : e.n ≤ L := by
                      cases ht : takeN e.n (List.replicate L 0) with
                      | none => rw [ht] at some1; obtain ⟨o, h1, _⟩ := some1; cases h1
                      | some r =>
                        have := takeN_len ht
                        have l1 := congrArg List.length this.1
                        rw [List.length_replicate, List.length_append, this.2] at l1
                        omega
                    have sp : Spec w K d J c' (splitM e.mask H).1 j e.n (e.g (splitM e.mask H).1) e.j := by
                      cases ht : takeN e.n (List.replicate L 0) with
                      | none => rw [ht] at some1; obtain ⟨o, h1, _⟩ := some1; cases h1
                      | some r =>
                        rw [ht] at some1
                        obtain ⟨o, h1, h2, _⟩ := some1
                        exact (runS_ok h1 h2).1
                    have hlen : fs.length ≤ 9 := Nat.le_of_ble_eq_true hb
                    obtain ⟨f1, f2, f3⟩ := fsAst_facts hf
                    obtain ⟨w1, w2⟩ := ast_weight hi
                    have aok : AOk d (A₀.over c fs) := ⟨by show (marksOver fs (A₀.handled, A₀.handled)).1 = none; rw [f1]; exact hA, by show A₀.depth + frameCount (fs.map Frame.where_) + c.weight ≤ d; omega, by show A₀.units + unitsOf (fs.map Frame.where_) + c.cUnits ≤ 3 * d; omega⟩
                    have z := sp _ (hideB (splitM e.mask H).1 s.heap) os dr s (fun r s' => SegX (Mo w) A₀ c (k r) fs s' Pp) aok (hK.part R e.mask) (R.part e.mask) fun us s' hl R' => by
                      refine ih c fs _ _ e.j (ct / 64) ces (Spec w K d J c' (splitM e.mask H).1 j e.n (e.g (splitM e.mask H).1) e.j ∧ ok) (L - e.n) Lp s' (R.back e.mask R') fun us' ps' hl' hp' => ?_
                      have h1 := h (us ++ us') ps' (by rw [List.length_append, hl, hl']; omega) hp'
                      rw [← hl, takeN_app] at h1
                      rw [hl] at h1
                      exact h1
                    have z' : wpAny (Mo w) (A₀.over c fs) (.call c' none g l .pure : Sem Result) (fun r s' => SegX (Mo w) A₀ c (k r) fs s' Pp) (fun x s' => SegX (Mo w) A₀ c (.raise x) fs s' Pp) s := fun Γ p hΓ => by
                      have y := z Γ p hΓ
                      rw [Sem.wp_call] at y ⊢
                      exact y
                    exact s_cmd _ _ _ _ _ _ (m := (.call c' none g l .pure : Sem Result)) (k := k) z'
    | yield v gd l k =>
      cases gd with
      | true => obtain ⟨o, h1, _⟩ := some1; cases h1
      | false =>
        simp only [runS_yield] at some1
        cases hf : fsFree fs with
        | false => rw [hf] at some1; obtain ⟨o, h1, _⟩ := some1; cases h1
        | true =>
          rw [hf] at some1
          obtain ⟨o, h1, _, h3⟩ := some1
          cases h1
          exact s_yield _ _ _ _ _ _ _ _ _ _ (fsFree_facts hf).1 (fsFree_facts hf).2 fun p => h3 p s R
    | _ => obtain ⟨o, h1, _⟩ := some1; cases h1
end
end Mine
end
-- Cs8
section
open PySem PySem.Spec PySem.Calls PyProof.Rows PySem.W PySem.W.X
namespace Mine
/-- where a generator stands -/
noncomputable def Stg (gs : GenState) (c : Code) (t : Sem PySem.Fin) (fs : List Frame) : Prop :=
  (gs = .fresh c ∧ t = den c ∧ fs = []) ∨ (∃ k l p cl, gs = .suspended k l c p fs cl ∧ t = k (.send .none))
theorem nextG {w : World} {A : Around} {s : Shared} {a g : Nat} {gs : GenState} {c₀ : Code} {t₀ : Sem PySem.Fin} {fs₀ : List Frame} {Q : Option Value → Shared → Prop} {E : Value → Shared → Prop} (hh : A.handled = none)
    (hl : s.heap.NoLimit) (hroom : A.depth < recursionLimit) (hg : s.heap.IsGen a g) (hgs : s.gens[g]? = some gs) (hst : Stg gs c₀ t₀ fs₀)
    (x : SegX (Mo w) A.in1 c₀ t₀ fs₀ (s.setGen g .running) fun e s₁ => match e with
      | .ret r => r = .ok (.ret .none) ∧ ∀ h', (∀ b o, s₁.heap.get? b = some o → h'.get? b = some o) → Q none { s₁.setGen g .finished with heap := h' }
      | .susp v gd l k c p fs => Q (some v) (s₁.setGen g (.suspended k l c p fs (gd || fs.any Frame.guarded)))) :
    wpAny (Mo w) A (pyNext (.ref a)) Q E s := by
  unfold pyNext
  refine wpAny_bind (wpAny_attempt (wpAny_callSpecial?_slot (name := Str.ofString "__next__") hg.typeIs slot_gen_next
    (wpAny_call_entry slot_gen_next hg.typeIs entry_gen_next ?_ (args_gen_next _))))
  show wpAny _ _ (Builtin.Generator.genWake (.ref a) (.send .none)) _ _ s
  unfold Builtin.Generator.genWake
  refine wpAny_bind (wpAny_holding (wpAny_genNumber hg (wpAny_bind (wpAny_genState hgs ?_))))
  have hst' : (gs = .fresh c₀ ∧ (Resume.send .none) = .send .none ∧ t₀ = denote table c₀ ∧ fs₀ = []) ∨ (∃ k₀ l₀ p₀ cl, gs = .suspended k₀ l₀ c₀ p₀ fs₀ cl ∧ t₀ = k₀ (.send .none)) := by
    rcases hst with ⟨h1, h2, h3⟩ | h
    · exact .inl ⟨h1, rfl, by rw [h2, den_eq], h3⟩
    · exact .inr h
  cases gs with
  | running => rcases hst with ⟨h, _⟩ | ⟨k, l, p, cl, h, _⟩ <;> cases h
  | finished => rcases hst with ⟨h, _⟩ | ⟨k, l, p, cl, h, _⟩ <;> cases h
  | _ =>
    refine wpAny_bind (wpAny_roomToWake hl hroom ?_)
    show wpAny _ _ (.resume g (.send .none) [] _) _ _ s
    refine wake_any _ prg w hgs hst' (fun Γ => Γ.In A.in1) (fun _ h => h) (SegX.mono x fun e s₁ he => ?_)
    show wpAny (Mo w) A.in1 _ _ _ _
    cases e with
    | ret r =>
      obtain ⟨rfl, hp⟩ := he
      show wpAny _ _ (newExc (.type "StopIteration") [] >>= _) _ _ _
      refine wpAny_bind ?_
      simp only [newExc, newTuple]
      refine wpAny_bind (wpAny_newObj_type ?_ (by size_fits))
      refine wpAny_bind (m := firstArgMember _ _) (wpAny_of_eq (a := Value.none) (by first | rfl | (simp only [firstArgMember]; rfl)) ?_)
      refine wpAny_newObj_type ?_ (by size_fits)
      simp only [raiseNew]
      refine wpAny_bind (wpAny_bind (wpAny_handled ?_))
      rw [show A.in1.handled = none from hh]
      refine wpAny_throw ?_
      refine wpAny_bind (wpAny_isInstance (T := "StopIteration") (b := true) ⟨_, Heap.get?_push_size _ rfl, rfl⟩ isSubtype_stop ?_)
      exact wpAny_pure (hp _ fun b o hb => Heap.get?_push_of_some _ (Heap.get?_push_of_some _ hb))
    | susp v gd l k c p fs => exact wpAny_pure ⟨v, rfl, wpAny_pure he⟩
section
variable {w : World} {K : Frag} {J : Nat → Array GenState → Prop} {B : Addr → Option Obj} {os : OsState} {dr : Drawn} {d : Nat}
theorem Rel.grow {H : List Ent} {j : Nat} {s : Shared} {h' : Heap} (R : Rel J B os dr H j s) (h : ∀ b o, s.heap.get? b = some o → h'.get? b = some o) : Rel J B os dr H j { s with heap := h' } :=
  ⟨⟨fun a o e => h a o (R.own.keep a o e), fun p hp => ⟨h _ _ (R.own.own p hp).1, (R.own.own p hp).2⟩, R.own.nd⟩, R.os, R.dr, R.gh⟩
/-- the ghost while one generator lives -/
noncomputable def JG (g : Nat) (St : GenState → Prop) : Nat → Array GenState → Prop := fun _ gens => AllBare gens ∧ ∃ gs, gens[g]? = some gs ∧ St gs
noncomputable def JB : Nat → Array GenState → Prop := fun _ gens => AllBare gens
theorem Rel.gens {J' : Nat → Array GenState → Prop} {H : List Ent} {j j' : Nat} {s : Shared} {gens : Array GenState} (R : Rel J B os dr H j s) (h : J' j' gens) : Rel J' B os dr H j' { s with gens := gens } :=
  ⟨⟨R.own.keep, R.own.own, R.own.nd⟩, R.os, R.dr, h⟩
noncomputable def trimS (m : List Bool) (o : Option OutS) : Option OutS := match o with
  | none => none
  | some o => some ⟨o.e, (splitM m o.H).1, o.j, o.ok⟩
noncomputable def genO (g : Nat) (nm qn : Value) : Obj := { cls := .type "generator", data := .fields #[.int g 0, nm, qn] }
theorem AllBare.set {gens : Array GenState} {g : Nat} {x : GenState} (h : AllBare gens) (hx : x.bare = true) : AllBare (gens.setIfInBounds g x) := fun y hy => by
  rcases Array.mem_or_eq_of_mem_setIfInBounds hy with h' | rfl
  · exact h y h'
  · exact hx
noncomputable def mkP : Nat → (Nat → Pos) → List Pos
  | 0, _ => []
  | n + 1, q => q 0 :: mkP n fun i => q (i + 1)
theorem mkP_get : ∀ {ps : List Pos} {L : Nat}, ps.length = L → ∃ q, ps = mkP L q
  | [], _, h => by subst h; exact ⟨fun _ => default, rfl⟩
  | p :: ps, 0, h => by cases h
  | p :: ps, L + 1, h => by
    obtain ⟨q, e⟩ := mkP_get (ps := ps) (L := L) (Nat.succ.inj h)
    refine ⟨fun i => match i with | 0 => p | i + 1 => q i, ?_⟩
    show p :: ps = p :: mkP L q
    rw [← e]
/-- a turn of a generator -/
theorem gen_next {P : Params} (hP : P = w.params) {St : GenState → Prop} {A : Around} {ga g i n L Lp ct : Nat} {nm qn : Value} {H : List Ent} {s : Shared} {mask m : List Bool} {ces : List CE} {Q : Option Value → Shared → Prop} {E : Value → Shared → Prop}
    (hA : AOk (d - 15) A) (hd : 15 ≤ d) (hd9 : d ≤ 900) (hK : KIn K B) (hlim : ∃ o n, lookK K 2 = some o ∧ o.data = .dict #[] n) (R : Rel (JG g St) B os dr H 0 s) (hg : getI H i = some (ga, genO g nm qn))
    (h : ∀ gs, St gs → ∃ c t fs, Stg gs c t fs ∧ ∀ J' u q, ∃ e Hn ok, trimS m (runS P K (SP w K d J') n c fs t (splitM mask H).1 0 (mkU L u) (mkP Lp q) ct ces True) = some ⟨e, Hn, 0, ok⟩ ∧ ok ∧
      match e with
      | .ret r => r = .ok (.ret .none) ∧ ∀ s', Rel (JG g fun gs => gs = .finished) B os dr ((splitM mask H).2 ++ Hn) 0 s' → Q none s'
      | .susp v l k c' fs' => fs'.any Frame.guarded = false ∧ ∀ s', Rel (JG g fun gs => ∃ p, gs = .suspended k l c' p fs' false) B os dr ((splitM mask H).2 ++ Hn) 0 s' → Q (some v) s') :
    wpAny (Mo w) A (pyNext (.ref ga)) Q E s := by
  obtain ⟨hb, gs, hgs, hs⟩ := R.gh
  obtain ⟨c, t, fs, hst, hr⟩ := h gs hs
  have hlt : g < s.gens.size := by
    rcases Nat.lt_or_ge g s.gens.size with h | h
    · exact h
    · rw [Array.getElem?_eq_none h] at hgs; cases hgs
  have back : ∀ {St' : GenState → Prop} {x : GenState} {Hn : List Ent} {s₁ : Shared}, x.bare = true → St' x → Rel (fun _ gens => gens = (s.setGen g .running).gens) (hideB (splitM mask H).1 s.heap) os dr Hn 0 s₁ → Rel (JG g St') B os dr ((splitM mask H).2 ++ Hn) 0 (s₁.setGen g x) := by
    intro St' x Hn s₁ hx hs' R'
    have e1 : s₁.gens = s.gens.setIfInBounds g .running := R'.gh
    have R2 : Rel (JG g St') (hideB (splitM mask H).1 s.heap) os dr Hn 0 (s₁.setGen g x) := by
      refine R'.gens (J' := JG g St') (j' := 0) (gens := s₁.gens.setIfInBounds g x) ⟨?_, x, ?_, hs'⟩
      · rw [e1]; exact AllBare.set (AllBare.set hb rfl) hx
      · rw [Array.getElem?_setIfInBounds_self_of_lt]; rw [e1, Array.size_setIfInBounds]; exact hlt
    have R0 : Rel (fun _ _ => True) B os dr H 0 s := ⟨R.own, R.os, R.dr, trivial⟩
    have := R0.back mask (j' := 0) (Hn := Hn) ⟨R2.own, R2.os, R2.dr, trivial⟩
    rw [app_eq] at this
    exact ⟨this.own, this.os, this.dr, R2.gh⟩
  refine nextG hA.1 (noLimit hK R hlim) (by have := hA.2.1; show A.depth < 1000; omega) ⟨_, _, _, R.at hg, rfl, rfl, rfl⟩ hgs hst ?_
  refine runS_sound (J := fun _ gens => gens = (s.setGen g .running).gens) (B := hideB (splitM mask H).1 s.heap) (os := os) (dr := dr) (A₀ := A.in1) (d := d) hA.1 (by show A.depth + 14 ≤ d; have := hA.2.1; omega) (by show A.units + 1 + 42 ≤ 3 * d; have := hA.2.2; omega) (hK.part R mask) n c fs t (splitM mask H).1 0 ct ces True L Lp _ ((R.part mask).gens rfl) fun us ps hl hp => ?_
  obtain ⟨q, hq⟩ := mkP_get hp
  obtain ⟨e, Hn, ok, h1, h2, h3⟩ := hr (fun _ gens => gens = (s.setGen g .running).gens) (getU us) q
  rw [← mkU_get hl, ← hq, hP] at h1
  cases hrun : runS w.params K (SP w K d (fun _ gens => gens = (s.setGen g .running).gens)) n c fs t (splitM mask H).1 0 us ps ct ces True with
  | none => rw [hrun] at h1; cases h1
  | some o =>
    rw [hrun] at h1
    simp only [trimS, Option.some.injEq, OutS.mk.injEq] at h1
    obtain ⟨he, hH, hj, hok⟩ := h1
    subst he; subst hH; subst hok
    refine ⟨o, rfl, h2, ?_⟩
    unfold EndsS
    cases hoe : o.e with
    | ret r =>
      rw [hoe] at h3
      intro s' R'
      obtain ⟨rfl, hq'⟩ := h3
      refine ⟨rfl, fun h' hx => ?_⟩
      rw [hj] at R'
      exact hq' _ ((back (St' := fun gs => gs = .finished) (x := .finished) rfl rfl (R'.pick m)).grow hx)
    | susp v l k c' fs' =>
      rw [hoe] at h3
      intro p s' R'
      obtain ⟨hfs, hq'⟩ := h3
      rw [hj] at R'
      have z := back (St' := fun gs => ∃ p, gs = .suspended k l c' p fs' false) (x := .suspended k l c' p fs' false) rfl ⟨p, rfl⟩ (R'.pick m)
      show Q (some v) (s'.setGen g (.suspended k l c' p fs' (false || fs'.any Frame.guarded)))
      rw [hfs]
      exact hq' _ z
end
end Mine
end
-- V1
section
open PySem PySem.Spec PySem.Calls PyProof.Rows PySem.W PySem.W.X
namespace Mine
noncomputable abbrev ST := Code → List Ent → Nat → Nat → CFn → Nat → Prop
noncomputable def nGrp : Str := ⟨⟨[103, 114, 111, 117, 112, 105, 110, 103]⟩⟩
noncomputable def nLast : Str := ⟨⟨[108, 97, 115, 116, 95, 105, 110, 116, 101, 114, 118, 97, 108]⟩⟩
noncomputable def nInt : Str := ⟨⟨[105, 110, 116, 101, 114, 118, 97, 108]⟩⟩
noncomputable def lstIt (v : Value) (i : Int) : Obj := { cls := .type "list_iterator", data := .fields #[v, .int i 0] }
noncomputable def kO : Option OutS → Resume → Sem PySem.Fin
  | some ⟨.susp _ _ k _ _, _, _, _⟩ => k
  | _ => fun _ => .pure (.done .next)
noncomputable def cO : Option OutS → Code
  | some ⟨.susp _ _ _ c _, _, _, _⟩ => c
  | _ => c0
noncomputable def fO : Option OutS → List Frame
  | some ⟨.susp _ _ _ _ fs, _, _, _⟩ => fs
  | _ => []
noncomputable def lO : Option OutS → List Value
  | some ⟨.susp _ l _ _ _, _, _, _⟩ => l
  | _ => []
noncomputable def tailV : Nat → (Nat → Nat) → List Value
  | 0, t => [.int 0 (t 0)]
  | 1, t => [.int 127 (t 0), .int 2 (t 1)]
  | _, _ => []
noncomputable def rulV (a b : Int) (tg : Nat) (t : Nat → Nat) : List Value := .int a (t 2) :: .int b (t 3) :: tailV tg t
noncomputable def gcd0 (P : Params) (L : Nat) : Code := .func (bd P 21) (envAt P 21 L)
noncomputable def ctA : Nat := 66570034977083097848619892316594672962379906
noncomputable def ctB : Nat := 968721505735929500204218381508738
noncomputable def S0 : ST := fun _ _ _ _ _ _ => True
noncomputable def grF (h : Nat → Int) (k : Nat → Nat) (n rl : Nat) (last int : Value) : Obj := fro [en (h 0) (k 0) nGrp (.ref rl), en (h 1) (k 1) nLast last, en (h 2) (k 2) nInt int] n
noncomputable def outA (P : Params) (b1 b2 : Bool) (S : ST) (a b : Int) (tg : Nat) (t : Nat → Nat) (rl rn L : Nat) (h : Int) (k : Nat) (u : Nat → Nat) (q : Nat → Pos) : Option OutS :=
  trimS [true, true, true] (runS (ftP P b1 b2) (KP P) S 80 (gcd0 P L) [] (den (gcd0 P L)) [(rl, lsto (rulV a b tg t) rn), (L, fro [en h k nGrp (.ref rl)] 1)] 0 (mkU 4 u) (mkP 3 q) ctA [ceEq false, ceEq false] True)
noncomputable def eqP (S : ST) (x y : Int) (t u : Nat) (b : Bool) : Prop × (List Nat → List Nat) := (S (.call (.builtin "int.__eq__") ⟨[.int x t, .int y u], []⟩) [] 0 0 (ceEq b).f 0, id)
noncomputable def hA (P : Params) (h : Int) : Nat → Int
  | 0 => h
  | 1 => hs P nLast
  | _ => hs P nInt
noncomputable def kA (k : Nat) (u : Nat → Nat) : Nat → Nat
  | 0 => k
  | 1 => u 0
  | _ => u 2
noncomputable def oA (P : Params) (b1 b2 : Bool) (a b : Int) (tg : Nat) (t : Nat → Nat) (rl rn L : Nat) (h : Int) (k : Nat) (u : Nat → Nat) (q : Nat → Pos) : Option OutS := outA P b1 b2 S0 a b tg t rl rn L h k u q
theorem seg_A (P : Params) (b1 b2 : Bool) (S : ST) (a b : Int) (tg : Nat) (t : Nat → Nat) (rl rn L : Nat) (h : Int) (k : Nat) (u : Nat → Nat) (q : Nat → Pos) :
    outA P b1 b2 S a b tg t rl rn L h k u q = some ⟨.susp (.int a (t 2)) (lO (oA P b1 b2 a b tg t rl rn L h k u q)) (kO (oA P b1 b2 a b tg t rl rn L h k u q)) (cO (oA P b1 b2 a b tg t rl rn L h k u q)) (fO (oA P b1 b2 a b tg t rl rn L h k u q)),
      [(rl, lsto (rulV a b tg t) rn), (L, grF (hA P h) (kA k u) 3 rl .none (.int a (t 2))), (u 1, lstIt (.ref rl) 1)], 0, okD 25 ctA [rl, L, u 1] [eqP S a 127 (t 2) 189 false, eqP S a 0 (t 2) (u 3) false] True⟩ := by cases b1 <;> kernel_rfl!
theorem seg_B (P : Params) (b1 b2 : Bool) (S : ST) (a b : Int) (tg : Nat) (t : Nat → Nat) (rl rn L : Nat) (h : Int) (k : Nat) (u v : Nat → Nat) (q q' : Nat → Pos) (h' : Nat → Int) (k' : Nat → Nat) (n' : Nat) :
    trimS [true, true, true] (runS (ftP P b1 b2) (KP P) S 80 (cO (oA P b1 b2 a b tg t rl rn L h k u q)) (fO (oA P b1 b2 a b tg t rl rn L h k u q)) (kO (oA P b1 b2 a b tg t rl rn L h k u q) (.send .none))
      [(rl, lsto (rulV a b tg t) rn), (L, grF h' k' n' rl .none (.int a (t 2))), (u 1, lstIt (.ref rl) 1)] 0 (mkU 3 v) (mkP 1 q') ctB [ceEq false, ceEq false] True) =
    some ⟨.susp (.int b (t 3)) (lO (oA P b1 b2 a b tg t rl rn L h k u q)) (kO (oA P b1 b2 a b tg t rl rn L h k u q)) (cO (oA P b1 b2 a b tg t rl rn L h k u q)) (fO (oA P b1 b2 a b tg t rl rn L h k u q)),
      [(rl, lsto (rulV a b tg t) rn), (L, grF h' k' n' rl (.int a (t 2)) (.int b (t 3))), (u 1, lstIt (.ref rl) 2)], 0, okD 19 ctB [rl, L, u 1] [eqP S b 127 (t 3) 189 false, eqP S b 0 (t 3) (v 2) false] True⟩ := by cases b1 <;> kernel_rfl!
end Mine
end
-- V2
section
open PySem PySem.Spec PySem.Calls PyProof.Rows PySem.W PySem.W.X
namespace Mine
theorem seg_Cnil (P : Params) (b1 b2 : Bool) (S : ST) (a b : Int) (t : Nat → Nat) (rl rn L : Nat) (h : Int) (k : Nat) (u v : Nat → Nat) (q q' : Nat → Pos) (h' : Nat → Int) (k' : Nat → Nat) (n' : Nat) :
    trimS [true] (runS (ftP P b1 b2) (KP P) S 50 (cO (oA P b1 b2 a b 2 t rl rn L h k u q)) (fO (oA P b1 b2 a b 2 t rl rn L h k u q)) (kO (oA P b1 b2 a b 2 t rl rn L h k u q) (.send .none))
      [(rl, lsto (rulV a b 2 t) rn), (L, grF h' k' n' rl (.int a (t 2)) (.int b (t 3))), (u 1, lstIt (.ref rl) 2)] 0 (mkU 3 v) (mkP 1 q') 372447984062036713602 [] True) =
    some ⟨.ret (.ok (.ret .none)), [(rl, lsto (rulV a b 2 t) rn)], 0, okD 12 372447984062036713602 [rl, L, u 1, v 1, v 2] [] True⟩ := by cases b1 <;> kernel_rfl!
theorem seg_Cmax (P : Params) (b1 b2 : Bool) (S : ST) (a b : Int) (t : Nat → Nat) (rl rn L : Nat) (h : Int) (k : Nat) (u v : Nat → Nat) (q q' : Nat → Pos) (h' : Nat → Int) (k' : Nat → Nat) (n' : Nat) :
    trimS [true] (runS (ftP P b1 b2) (KP P) S 60 (cO (oA P b1 b2 a b 1 t rl rn L h k u q)) (fO (oA P b1 b2 a b 1 t rl rn L h k u q)) (kO (oA P b1 b2 a b 1 t rl rn L h k u q) (.send .none))
      [(rl, lsto (rulV a b 1 t) rn), (L, grF h' k' n' rl (.int a (t 2)) (.int b (t 3))), (u 1, lstIt (.ref rl) 2)] 0 (mkU 2 v) (mkP 1 q') 77990836533708785550044700802 [ceEq true] True) =
    some ⟨.ret (.ok (.ret .none)), [(rl, lsto (rulV a b 1 t) rn)], 0, okD 16 77990836533708785550044700802 [rl, L, u 1] [eqP S 127 127 (t 0) 189 true] True⟩ := by cases b1 <;> kernel_rfl!
noncomputable def outC (P : Params) (b1 b2 : Bool) (S : ST) (a b : Int) (t : Nat → Nat) (rl rn L : Nat) (h : Int) (k : Nat) (u v : Nat → Nat) (q q' : Nat → Pos) (h' : Nat → Int) (k' : Nat → Nat) (n' : Nat) : Option OutS :=
    trimS [true, true, true] (runS (ftP P b1 b2) (KP P) S 80 (cO (oA P b1 b2 a b 0 t rl rn L h k u q)) (fO (oA P b1 b2 a b 0 t rl rn L h k u q)) (kO (oA P b1 b2 a b 0 t rl rn L h k u q) (.send .none))
      [(rl, lsto (rulV a b 0 t) rn), (L, grF h' k' n' rl (.int a (t 2)) (.int b (t 3))), (u 1, lstIt (.ref rl) 2)] 0 (mkU 3 v) (mkP 2 q') 2659424713075567675307818338942197890 [ceEq false, ceEq true] True)
theorem seg_Czero (P : Params) (b1 b2 : Bool) (S : ST) (a b : Int) (t : Nat → Nat) (rl rn L : Nat) (h : Int) (k : Nat) (u v : Nat → Nat) (q q' : Nat → Pos) (h' : Nat → Int) (k' : Nat → Nat) (n' : Nat) :
    outC P b1 b2 S a b t rl rn L h k u v q q' h' k' n' =
    some ⟨.susp (.int b (t 3)) (lO (outC P b1 b2 S0 a b t rl rn L h k u v q q' h' k' n')) (kO (outC P b1 b2 S0 a b t rl rn L h k u v q q' h' k' n')) (cO (outC P b1 b2 S0 a b t rl rn L h k u v q q' h' k' n')) (fO (outC P b1 b2 S0 a b t rl rn L h k u v q q' h' k' n')), [(rl, lsto (rulV a b 0 t) rn), (L, grF h' k' n' rl (.int b (t 3)) (.int 0 (t 0))), (u 1, lstIt (.ref rl) 3)], 0, okD 21 2659424713075567675307818338942197890 [rl, L, u 1] [eqP S 0 127 (t 0) 189 false, eqP S 0 0 (t 0) (v 2) true] True⟩ := by cases b1 <;> kernel_rfl!
theorem seg_D (P : Params) (b1 b2 : Bool) (S : ST) (a b : Int) (t : Nat → Nat) (rl rn L : Nat) (h : Int) (k : Nat) (u v : Nat → Nat) (q q' : Nat → Pos) (h' : Nat → Int) (k' : Nat → Nat) (n' : Nat) (x : Nat → Nat) (y : Nat → Pos) :
    trimS [true, true, true] (runS (ftP P b1 b2) (KP P) S 20 (cO (outC P b1 b2 S0 a b t rl rn L h k u v q q' h' k' n')) (fO (outC P b1 b2 S0 a b t rl rn L h k u v q q' h' k' n')) (kO (outC P b1 b2 S0 a b t rl rn L h k u v q q' h' k' n') (.send .none))
      [(rl, lsto (rulV a b 0 t) rn), (L, grF h' k' n' rl (.int b (t 3)) (.int 0 (t 0))), (u 1, lstIt (.ref rl) 3)] 0 (mkU 0 x) (mkP 0 y) 2 [] True) =
    some ⟨.susp (.int b (t 3)) (lO (outC P b1 b2 S0 a b t rl rn L h k u v q q' h' k' n')) (kO (outC P b1 b2 S0 a b t rl rn L h k u v q q' h' k' n')) (cO (outC P b1 b2 S0 a b t rl rn L h k u v q q' h' k' n')) (fO (outC P b1 b2 S0 a b t rl rn L h k u v q q' h' k' n')), [(rl, lsto (rulV a b 0 t) rn), (L, grF h' k' n' rl (.int b (t 3)) (.int 0 (t 0))), (u 1, lstIt (.ref rl) 3)], 0, okD 1 2 [rl, L, u 1] [] True⟩ := by cases b1 <;> kernel_rfl!
end Mine
end
-- V3
section
open PySem PySem.Spec PySem.Calls PyProof.Rows PySem.W PySem.W.X
namespace Mine
noncomputable def nRul : Str := ⟨⟨[114, 117, 108, 101, 114]⟩⟩
noncomputable def nFig : Str := ⟨⟨[102, 105, 103, 117, 114, 101, 115]⟩⟩
noncomputable def nPie : Str := ⟨⟨[112, 105, 101, 99, 101, 115]⟩⟩
noncomputable def nSiz : Str := ⟨⟨[115, 105, 122, 101]⟩⟩
noncomputable def cuF (h : Nat → Int) (k : Nat → Nat) (n rl : Nat) (F : Value) (pm : Nat) (size : Value) : Obj :=
  fro [en (h 0) (k 0) nRul (.ref rl), en (h 1) (k 1) nFig F, en (h 2) (k 2) nPie (.ref pm), en (h 3) (k 3) nSiz size] n
noncomputable def cuF3 (h : Nat → Int) (k : Nat → Nat) (n rl : Nat) (F : Value) (pm : Nat) : Obj :=
  fro [en (h 0) (k 0) nRul (.ref rl), en (h 1) (k 1) nFig F, en (h 2) (k 2) nPie (.ref pm)] n
noncomputable def arro (vs : Array Value) (n : Nat) : Obj := { cls := .type "list", data := .seq vs n }
noncomputable def cuL (P : Params) : Lp := lpOf (bd P 94) 1
noncomputable def ceSEq (b : Bool) : CE := ⟨some "str.__eq__", [], 0, fun _ => (.ok (.ret (.bool b)), []), 0, noH⟩
noncomputable def ceSl (m : List Bool) (G : Str) : CE := ⟨some "str.__getitem__", m, 1, fun us => (.ok (.ret (.str G (getU us 0))), []), 0, noH⟩
section
variable {w : World} {K : Frag} {J : Nat → Array GenState → Prop} {d : Nat}
theorem spec_gv {T id : String} {nm : Str} {Bi : Builtin} {self : Value} {rest : List Value} {v : Value} (slot : Slot T nm id) (hT : ∀ s : Shared, s.TypeIs self T) (entry : entryFor table id = some Bi) (args : argsOk id ⟨self :: rest, []⟩)
    (g : Gives (Bi ⟨self :: rest, []⟩) (.val v)) (j : Nat) : Spec w K d J (.call (.builtin id) ⟨self :: rest, []⟩) [] j 0 (fun _ => (.ok (.ret v), [])) j :=
  spec_val (gv := fun _ => v) (gH := fun _ => []) fun A B os dr s Q hA hK R hQ => call_gives slot (hT s) entry args g (hQ [] s rfl R)
theorem spec_gs {T id : String} {nm : Str} {Bi : Builtin} {self : Value} {rest : List Value} {x : Str} (slot : Slot T nm id) (hT : ∀ s : Shared, s.TypeIs self T) (entry : entryFor table id = some Bi) (args : argsOk id ⟨self :: rest, []⟩)
    (g : Gives (Bi ⟨self :: rest, []⟩) (.str x)) (hx : x.length ≤ sizeLine) (j : Nat) : Spec w K d J (.call (.builtin id) ⟨self :: rest, []⟩) [] j 1 (fun us => (.ok (.ret (.str x (getU us 0))), [])) j :=
  spec_val (gv := fun us => .str x (getU us 0)) (gH := fun _ => []) fun A B os dr s Q hA hK R hQ => call_gives slot (hT s) entry args g ⟨hx, hQ [s.toks] _ rfl (R.toks _)⟩
theorem spec_gi {T id : String} {nm : Str} {Bi : Builtin} {self : Value} {rest : List Value} {x : Int} (slot : Slot T nm id) (hT : ∀ s : Shared, s.TypeIs self T) (entry : entryFor table id = some Bi) (args : argsOk id ⟨self :: rest, []⟩)
    (g : Gives (Bi ⟨self :: rest, []⟩) (.int x)) (j : Nat) : Spec w K d J (.call (.builtin id) ⟨self :: rest, []⟩) [] j 1 (fun us => (.ok (.ret (.int x (getU us 0))), [])) j :=
  spec_val (gv := fun us => .int x (getU us 0)) (gH := fun _ => []) fun A B os dr s Q hA hK R hQ => call_gives slot (hT s) entry args g (hQ [s.toks] _ rfl (R.toks _))
theorem specSEq (j : Nat) {x y : Str} (t u : Nat) {b : Bool} (h : (x.cps.toList == y.cps.toList) = b) : Spec w K d J (.call (.builtin "str.__eq__") ⟨[.str x t, .str y u], []⟩) [] j 0 (ceSEq b).f j :=
  h ▸ spec_gv F.slot_str_eq (fun s => typeIs_str s x t) F.entry_str_eq (F.args_str_eq_2 _ _) (gives_str_eq x y t u) j
noncomputable def sliceO (l u st : Option (Int × Nat)) : Obj := { cls := .type "slice", data := .fields #[partValue l, partValue u, partValue st] }
noncomputable def sliceS (x : Str) (l u st : Option (Int × Nat)) : Str := if ((st.map (·.1)).getD 1 == 1 && (slicePicked x l u st).length == x.length) = true then x else ⟨((slicePicked x l u st).filterMap (x.cps[·]?)).toArray⟩
theorem specSl (j : Nat) {x : Str} (t a : Nat) (l u st : Option (Int × Nat)) (m : List Bool) {G : Str} (h0 : ((st.map (·.1)).getD 1 == 0) = false) (hG : sliceS x l u st = G) (hx : G.length ≤ sizeLine) :
    Spec w K d J (.call (.builtin "str.__getitem__") ⟨[.str x t, .ref a], []⟩) [(a, sliceO l u st)] j 1 (ceSl m G).f j := by
  refine spec_val (gv := fun us => .str G (getU us 0)) (gH := fun _ => []) fun A B os dr s Q hA hK R hQ => ?_
  have Rn : Rel J B os dr [] j s := R.pick []
  refine call_meets F.slot_str_getitem (typeIs_str s x t) F.entry_str_getitem (F.args_str_getitem_2 _ _) (meets_str_getitem_slice x t a l u st h0) ⟨⟨_, R.at (i := 0) rfl, rfl, rfl⟩, ?_⟩
  unfold sliceMade
  unfold sliceS at hG
  split
  · rename_i h
    rw [if_pos h] at hG
    subst hG
    exact hQ [t] s rfl Rn
  · rename_i h
    rw [if_neg h] at hG
    rw [hG]
    exact ⟨hx, hQ [s.toks] _ rfl (Rn.toks _)⟩
end
end Mine
end
-- V4
section
open PySem PySem.Spec PySem.Calls PyProof.Rows PySem.W PySem.W.X
namespace Mine
noncomputable def eS : Str := ⟨⟨[]⟩⟩
noncomputable def ctT : Nat := 5613330155869361495152712215780435173313
noncomputable def m1 : List Bool := [false, false, true]
noncomputable def m2 : List Bool := [false, false, false, false, true]
noncomputable def spT (S : ST) (F G1 G2 : Str) (tF pm L : Nat) (a : Int) (u : Nat → Nat) : List (Prop × (List Nat → List Nat)) :=
  [(S (.call (.builtin "str.__eq__") ⟨[.str F tF, .str eS (u 0)], []⟩) [] 0 0 (ceSEq false).f 0, id),
   (S (.call (.builtin "str.__getitem__") ⟨[.str F tF, .ref (u 2)], []⟩) [(u 2, sliceO (some (-a, u 1)) none none)] 0 1 (ceSl m1 G1).f 0, fun _ => [L, pm, u 4, u 5, u 8]),
   (S (.call (.builtin "str.__getitem__") ⟨[.str F tF, .ref (u 8)], []⟩) [(u 8, sliceO none (some (-a, u 7)) none)] 0 1 (ceSl m2 G2).f 0, fun _ => [L, pm, u 4, u 5])]
theorem cut_t0 (P : Params) (b1 b2 : Bool) (S : ST) (h : Nat → Int) (k : Nat → Nat) (n rl : Nat) (F G1 G2 : Str) (tF pm ta pn L : Nat) (v : Nat → Value) (a : Int) (u : Nat → Nat) :
    trimO [true, false, false, true] (run (ftP P b1 b2) (KP P) S 80 c0 none 0 [] (flowZ (cuL P).b (envAt P 94 L)) [(L, cuF h k n rl (.str F tF) pm (.int a ta)), (pm, lsto (mkV 0 v) pn)] 0 (mkU 11 u) ctT [ceSEq false, ceSl m1 G1, ceSl m2 G2] True) =
    some ⟨.fin (.done .next), [(L, cuF h k n rl (.str G2 (u 9)) (u 5) (.int a ta)), (u 5, lsto (.str G1 (u 3) :: mkV 0 v) 0)], 0, okD 23 ctT [L, pm, u 2] (spT S F G1 G2 tF pm L a u) True⟩ := by cases b1 <;> kernel_rfl!
theorem cut_t1 (P : Params) (b1 b2 : Bool) (S : ST) (h : Nat → Int) (k : Nat → Nat) (n rl : Nat) (F G1 G2 : Str) (tF pm ta pn L : Nat) (v : Nat → Value) (a : Int) (u : Nat → Nat) :
    trimO [true, false, false, true] (run (ftP P b1 b2) (KP P) S 80 c0 none 0 [] (flowZ (cuL P).b (envAt P 94 L)) [(L, cuF h k n rl (.str F tF) pm (.int a ta)), (pm, lsto (mkV 1 v) pn)] 0 (mkU 11 u) ctT [ceSEq false, ceSl m1 G1, ceSl m2 G2] True) =
    some ⟨.fin (.done .next), [(L, cuF h k n rl (.str G2 (u 9)) (u 5) (.int a ta)), (u 5, lsto (.str G1 (u 3) :: mkV 1 v) 0)], 0, okD 23 ctT [L, pm, u 2] (spT S F G1 G2 tF pm L a u) True⟩ := by cases b1 <;> kernel_rfl!
theorem cut_t2 (P : Params) (b1 b2 : Bool) (S : ST) (h : Nat → Int) (k : Nat → Nat) (n rl : Nat) (F G1 G2 : Str) (tF pm ta pn L : Nat) (v : Nat → Value) (a : Int) (u : Nat → Nat) :
    trimO [true, false, false, true] (run (ftP P b1 b2) (KP P) S 80 c0 none 0 [] (flowZ (cuL P).b (envAt P 94 L)) [(L, cuF h k n rl (.str F tF) pm (.int a ta)), (pm, lsto (mkV 2 v) pn)] 0 (mkU 11 u) ctT [ceSEq false, ceSl m1 G1, ceSl m2 G2] True) =
    some ⟨.fin (.done .next), [(L, cuF h k n rl (.str G2 (u 9)) (u 5) (.int a ta)), (u 5, lsto (.str G1 (u 3) :: mkV 2 v) 0)], 0, okD 23 ctT [L, pm, u 2] (spT S F G1 G2 tF pm L a u) True⟩ := by cases b1 <;> kernel_rfl!
theorem cut_t3 (P : Params) (b1 b2 : Bool) (S : ST) (h : Nat → Int) (k : Nat → Nat) (n rl : Nat) (F G1 G2 : Str) (tF pm ta pn L : Nat) (v : Nat → Value) (a : Int) (u : Nat → Nat) :
    trimO [true, false, false, true] (run (ftP P b1 b2) (KP P) S 80 c0 none 0 [] (flowZ (cuL P).b (envAt P 94 L)) [(L, cuF h k n rl (.str F tF) pm (.int a ta)), (pm, lsto (mkV 3 v) pn)] 0 (mkU 11 u) ctT [ceSEq false, ceSl m1 G1, ceSl m2 G2] True) =
    some ⟨.fin (.done .next), [(L, cuF h k n rl (.str G2 (u 9)) (u 5) (.int a ta)), (u 5, lsto (.str G1 (u 3) :: mkV 3 v) 0)], 0, okD 23 ctT [L, pm, u 2] (spT S F G1 G2 tF pm L a u) True⟩ := by cases b1 <;> kernel_rfl!
theorem cut_t4 (P : Params) (b1 b2 : Bool) (S : ST) (h : Nat → Int) (k : Nat → Nat) (n rl : Nat) (F G1 G2 : Str) (tF pm ta pn L : Nat) (v : Nat → Value) (a : Int) (u : Nat → Nat) :
    trimO [true, false, false, true] (run (ftP P b1 b2) (KP P) S 80 c0 none 0 [] (flowZ (cuL P).b (envAt P 94 L)) [(L, cuF h k n rl (.str F tF) pm (.int a ta)), (pm, lsto (mkV 4 v) pn)] 0 (mkU 11 u) ctT [ceSEq false, ceSl m1 G1, ceSl m2 G2] True) =
    some ⟨.fin (.done .next), [(L, cuF h k n rl (.str G2 (u 9)) (u 5) (.int a ta)), (u 5, lsto (.str G1 (u 3) :: mkV 4 v) 0)], 0, okD 23 ctT [L, pm, u 2] (spT S F G1 G2 tF pm L a u) True⟩ := by cases b1 <;> kernel_rfl!
theorem cut_t5 (P : Params) (b1 b2 : Bool) (S : ST) (h : Nat → Int) (k : Nat → Nat) (n rl : Nat) (F G1 G2 : Str) (tF pm ta pn L : Nat) (v : Nat → Value) (a : Int) (u : Nat → Nat) :
    trimO [true, false, false, true] (run (ftP P b1 b2) (KP P) S 80 c0 none 0 [] (flowZ (cuL P).b (envAt P 94 L)) [(L, cuF h k n rl (.str F tF) pm (.int a ta)), (pm, lsto (mkV 5 v) pn)] 0 (mkU 11 u) ctT [ceSEq false, ceSl m1 G1, ceSl m2 G2] True) =
    some ⟨.fin (.done .next), [(L, cuF h k n rl (.str G2 (u 9)) (u 5) (.int a ta)), (u 5, lsto (.str G1 (u 3) :: mkV 5 v) 0)], 0, okD 23 ctT [L, pm, u 2] (spT S F G1 G2 tF pm L a u) True⟩ := by cases b1 <;> kernel_rfl!
theorem cut_t6 (P : Params) (b1 b2 : Bool) (S : ST) (h : Nat → Int) (k : Nat → Nat) (n rl : Nat) (F G1 G2 : Str) (tF pm ta pn L : Nat) (v : Nat → Value) (a : Int) (u : Nat → Nat) :
    trimO [true, false, false, true] (run (ftP P b1 b2) (KP P) S 80 c0 none 0 [] (flowZ (cuL P).b (envAt P 94 L)) [(L, cuF h k n rl (.str F tF) pm (.int a ta)), (pm, lsto (mkV 6 v) pn)] 0 (mkU 11 u) ctT [ceSEq false, ceSl m1 G1, ceSl m2 G2] True) =
    some ⟨.fin (.done .next), [(L, cuF h k n rl (.str G2 (u 9)) (u 5) (.int a ta)), (u 5, lsto (.str G1 (u 3) :: mkV 6 v) 0)], 0, okD 23 ctT [L, pm, u 2] (spT S F G1 G2 tF pm L a u) True⟩ := by cases b1 <;> kernel_rfl!
theorem cut_t7 (P : Params) (b1 b2 : Bool) (S : ST) (h : Nat → Int) (k : Nat → Nat) (n rl : Nat) (F G1 G2 : Str) (tF pm ta pn L : Nat) (v : Nat → Value) (a : Int) (u : Nat → Nat) :
    trimO [true, false, false, true] (run (ftP P b1 b2) (KP P) S 80 c0 none 0 [] (flowZ (cuL P).b (envAt P 94 L)) [(L, cuF h k n rl (.str F tF) pm (.int a ta)), (pm, lsto (mkV 7 v) pn)] 0 (mkU 11 u) ctT [ceSEq false, ceSl m1 G1, ceSl m2 G2] True) =
    some ⟨.fin (.done .next), [(L, cuF h k n rl (.str G2 (u 9)) (u 5) (.int a ta)), (u 5, lsto (.str G1 (u 3) :: mkV 7 v) 0)], 0, okD 23 ctT [L, pm, u 2] (spT S F G1 G2 tF pm L a u) True⟩ := by cases b1 <;> kernel_rfl!
theorem cut_brk (P : Params) (b1 b2 : Bool) (S : ST) (h : Nat → Int) (k : Nat → Nat) (n rl : Nat) (F : Str) (tF pm ta L : Nat) (a : Int) (u : Nat → Nat) :
    trimO [true] (run (ftP P b1 b2) (KP P) S 40 c0 none 0 [] (flowZ (cuL P).b (envAt P 94 L)) [(L, cuF h k n rl (.str F tF) pm (.int a ta))] 0 (mkU 1 u) 4033 [ceSEq true] True) =
    some ⟨.fin (.done .brk), [(L, cuF h k n rl (.str F tF) pm (.int a ta))], 0, okD 2 4033 [L] [(S (.call (.builtin "str.__eq__") ⟨[.str F tF, .str eS (u 0)], []⟩) [] 0 0 (ceSEq true).f 0, id)] True⟩ := by cases b1 <;> kernel_rfl!
theorem cut_a0 (P : Params) (S : ST) (h : Nat → Int) (k : Nat → Nat) (n rl pm L tF : Nat) (F : Str) (a : Int) (ta : Nat) (u : Nat → Nat) :
    trimO [true] (run P (KP P) S 20 c0 none 0 [] (assZ (cuL P).t (envAt P 94 L) (.int a ta)) [(L, cuF3 h k n rl (.str F tF) pm)] 0 (mkU 1 u) 65 [] True) =
    some ⟨.fin (.done .next), [(L, cuF (ext2 h 3 (hs P nSiz) 0) (ext2 k 3 (u 0) 0) (n + 1) rl (.str F tF) pm (.int a ta))], 0, okD 2 65 [L] [] True⟩ := by kernel_rfl!
theorem cut_a1 (P : Params) (S : ST) (h : Nat → Int) (k : Nat → Nat) (n rl pm L tF : Nat) (F : Str) (a a' : Int) (ta ta' : Nat) (u : Nat → Nat) :
    trimO [true] (run P (KP P) S 20 c0 none 0 [] (assZ (cuL P).t (envAt P 94 L) (.int a ta)) [(L, cuF h k n rl (.str F tF) pm (.int a' ta'))] 0 (mkU 1 u) 65 [] True) =
    some ⟨.fin (.done .next), [(L, cuF h k n rl (.str F tF) pm (.int a ta))], 0, okD 2 65 [L] [] True⟩ := by kernel_rfl!
end Mine
end
-- V5
section
open PySem PySem.Spec PySem.Calls PyProof.Rows PySem.W PySem.W.X
namespace Mine
noncomputable def ceSNe (b : Bool) : CE := ⟨some "str.__ne__", [], 0, fun _ => (.ok (.ret (.bool b)), []), 0, noH⟩
noncomputable def ceJn (m : List Bool) (G : Str) : CE := ⟨some "str.join", m, 1, fun us => (.ok (.ret (.str G (getU us 0))), []), 0, noH⟩
noncomputable def joinS (sep : Str) : List (Str × Nat) → Str
  | [p] => p.1
  | l => Builtin.Str.glued sep (l.map (·.1))
section
variable {w : World} {K : Frag} {J : Nat → Array GenState → Prop} {d : Nat}
theorem specSNe (j : Nat) {x y : Str} (t u : Nat) {b : Bool} (h : (x.cps.toList != y.cps.toList) = b) : Spec w K d J (.call (.builtin "str.__ne__") ⟨[.str x t, .str y u], []⟩) [] j 0 (ceSNe b).f j :=
  h ▸ spec_gv F.slot_str_ne (fun s => typeIs_str s x t) F.entry_str_ne (F.args_str_ne_2 _ _) (gives_str_ne x y t u) j
theorem specJn (j : Nat) (sep : Str) (t a pn : Nat) (l : List (Str × Nat)) (m : List Bool) {G : Str} (hG : joinS sep l = G) (hl : Builtin.Str.tooLong ((l.map (·.1)).toArray.foldl (· + ·.length + sep.length) 0) = false) (hx : G.length ≤ sizeLine) :
    Spec w K d J (.call (.builtin "str.join") ⟨[.str sep t, .ref a], []⟩) [(a, lsto (strValues l) pn)] j 1 (ceJn m G).f j := by
  refine spec_val (gv := fun us => .str G (getU us 0)) (gH := fun _ => []) fun A B os dr s Q hA hK R hQ => ?_
  have Rn : Rel J B os dr [] j s := R.pick []
  refine call_meets F.slot_str_join (typeIs_str s sep t) F.entry_str_join (F.args_str_join_2 _ _) (meets_str_join_list sep t a l hl) ⟨⟨_, R.at (i := 0) rfl, rfl, _, rfl⟩, ?_⟩
  subst hG
  rcases l with _ | ⟨p, _ | ⟨q, l⟩⟩
  · exact ⟨hx, hQ [s.toks] _ rfl (Rn.toks _)⟩
  · exact hQ [p.2] s rfl Rn
  · exact ⟨hx, hQ [s.toks] _ rfl (Rn.toks _)⟩
end
noncomputable def comma : Str := ⟨⟨[44]⟩⟩
noncomputable def m3 : List Bool := [false, false, false, true]
/-- the frame at the end: with or without the loop's name -/
theorem cut_n0 (P : Params) (b1 b2 : Bool) (S : ST) (h : Nat → Int) (k : Nat → Nat) (n rl : Nat) (F G : Str) (tF pm pn L : Nat) (v : Nat → Value) (a : Int) (ta : Nat) (u : Nat → Nat) :
    trimO [] (run (ftP P b1 b2) (KP P) S 60 c0 none 0 [] (flowZ [stm P 94 2] (envAt P 94 L)) [(L, cuF h k n rl (.str F tF) pm (.int a ta)), (pm, lsto (mkV 0 v) pn)] 0 (mkU 5 u) 297660158011321451028417 [ceSNe true, ceJn m3 G] True) =
    some ⟨.fin (.done (.ret (.str G (u 4)))), [], 0, okD 13 297660158011321451028417 [L, pm, u 2, u 3] [(S (.call (.builtin "str.__ne__") ⟨[.str F tF, .str eS (u 1)], []⟩) [] 0 0 (ceSNe true).f 0, id), (S (.call (.builtin "str.join") ⟨[.str comma (u 0), .ref (u 3)], []⟩) [(u 3, lsto (.str F tF :: mkV 0 v) 0)] 0 1 (ceJn m3 G).f 0, id)] True⟩ := by cases b1 <;> kernel_rfl!
theorem cut_e0 (P : Params) (b1 b2 : Bool) (S : ST) (h : Nat → Int) (k : Nat → Nat) (n rl : Nat) (F G : Str) (tF pm pn L : Nat) (v : Nat → Value) (a : Int) (ta : Nat) (u : Nat → Nat) :
    trimO [] (run (ftP P b1 b2) (KP P) S 60 c0 none 0 [] (flowZ [stm P 94 2] (envAt P 94 L)) [(L, cuF h k n rl (.str F tF) pm (.int a ta)), (pm, lsto (mkV 0 v) pn)] 0 (mkU 5 u) 4650939968926897676225 [ceSNe false, ceJn m3 G] True) =
    some ⟨.fin (.done (.ret (.str G (u 4)))), [], 0, okD 12 4650939968926897676225 [L, pm, u 2, u 3] [(S (.call (.builtin "str.__ne__") ⟨[.str F tF, .str eS (u 1)], []⟩) [] 0 0 (ceSNe false).f 0, id), (S (.call (.builtin "str.join") ⟨[.str comma (u 0), .ref (u 3)], []⟩) [(u 3, lsto (mkV 0 v) 0)] 0 1 (ceJn m3 G).f 0, id)] True⟩ := by cases b1 <;> kernel_rfl!
theorem cut_n1 (P : Params) (b1 b2 : Bool) (S : ST) (h : Nat → Int) (k : Nat → Nat) (n rl : Nat) (F G : Str) (tF pm pn L : Nat) (v : Nat → Value) (a : Int) (ta : Nat) (u : Nat → Nat) :
    trimO [] (run (ftP P b1 b2) (KP P) S 60 c0 none 0 [] (flowZ [stm P 94 2] (envAt P 94 L)) [(L, cuF h k n rl (.str F tF) pm (.int a ta)), (pm, lsto (mkV 1 v) pn)] 0 (mkU 5 u) 297660158011321451028417 [ceSNe true, ceJn m3 G] True) =
    some ⟨.fin (.done (.ret (.str G (u 4)))), [], 0, okD 13 297660158011321451028417 [L, pm, u 2, u 3] [(S (.call (.builtin "str.__ne__") ⟨[.str F tF, .str eS (u 1)], []⟩) [] 0 0 (ceSNe true).f 0, id), (S (.call (.builtin "str.join") ⟨[.str comma (u 0), .ref (u 3)], []⟩) [(u 3, lsto (.str F tF :: mkV 1 v) 0)] 0 1 (ceJn m3 G).f 0, id)] True⟩ := by cases b1 <;> kernel_rfl!
theorem cut_e1 (P : Params) (b1 b2 : Bool) (S : ST) (h : Nat → Int) (k : Nat → Nat) (n rl : Nat) (F G : Str) (tF pm pn L : Nat) (v : Nat → Value) (a : Int) (ta : Nat) (u : Nat → Nat) :
    trimO [] (run (ftP P b1 b2) (KP P) S 60 c0 none 0 [] (flowZ [stm P 94 2] (envAt P 94 L)) [(L, cuF h k n rl (.str F tF) pm (.int a ta)), (pm, lsto (mkV 1 v) pn)] 0 (mkU 5 u) 4650939968926897676225 [ceSNe false, ceJn m3 G] True) =
    some ⟨.fin (.done (.ret (.str G (u 4)))), [], 0, okD 12 4650939968926897676225 [L, pm, u 2, u 3] [(S (.call (.builtin "str.__ne__") ⟨[.str F tF, .str eS (u 1)], []⟩) [] 0 0 (ceSNe false).f 0, id), (S (.call (.builtin "str.join") ⟨[.str comma (u 0), .ref (u 3)], []⟩) [(u 3, lsto (mkV 1 v) 0)] 0 1 (ceJn m3 G).f 0, id)] True⟩ := by cases b1 <;> kernel_rfl!
theorem cut_n2 (P : Params) (b1 b2 : Bool) (S : ST) (h : Nat → Int) (k : Nat → Nat) (n rl : Nat) (F G : Str) (tF pm pn L : Nat) (v : Nat → Value) (a : Int) (ta : Nat) (u : Nat → Nat) :
    trimO [] (run (ftP P b1 b2) (KP P) S 60 c0 none 0 [] (flowZ [stm P 94 2] (envAt P 94 L)) [(L, cuF h k n rl (.str F tF) pm (.int a ta)), (pm, lsto (mkV 2 v) pn)] 0 (mkU 5 u) 297660158011321451028417 [ceSNe true, ceJn m3 G] True) =
    some ⟨.fin (.done (.ret (.str G (u 4)))), [], 0, okD 13 297660158011321451028417 [L, pm, u 2, u 3] [(S (.call (.builtin "str.__ne__") ⟨[.str F tF, .str eS (u 1)], []⟩) [] 0 0 (ceSNe true).f 0, id), (S (.call (.builtin "str.join") ⟨[.str comma (u 0), .ref (u 3)], []⟩) [(u 3, lsto (.str F tF :: mkV 2 v) 0)] 0 1 (ceJn m3 G).f 0, id)] True⟩ := by cases b1 <;> kernel_rfl!
theorem cut_e2 (P : Params) (b1 b2 : Bool) (S : ST) (h : Nat → Int) (k : Nat → Nat) (n rl : Nat) (F G : Str) (tF pm pn L : Nat) (v : Nat → Value) (a : Int) (ta : Nat) (u : Nat → Nat) :
    trimO [] (run (ftP P b1 b2) (KP P) S 60 c0 none 0 [] (flowZ [stm P 94 2] (envAt P 94 L)) [(L, cuF h k n rl (.str F tF) pm (.int a ta)), (pm, lsto (mkV 2 v) pn)] 0 (mkU 5 u) 4650939968926897676225 [ceSNe false, ceJn m3 G] True) =
    some ⟨.fin (.done (.ret (.str G (u 4)))), [], 0, okD 12 4650939968926897676225 [L, pm, u 2, u 3] [(S (.call (.builtin "str.__ne__") ⟨[.str F tF, .str eS (u 1)], []⟩) [] 0 0 (ceSNe false).f 0, id), (S (.call (.builtin "str.join") ⟨[.str comma (u 0), .ref (u 3)], []⟩) [(u 3, lsto (mkV 2 v) 0)] 0 1 (ceJn m3 G).f 0, id)] True⟩ := by cases b1 <;> kernel_rfl!
theorem cut_n3 (P : Params) (b1 b2 : Bool) (S : ST) (h : Nat → Int) (k : Nat → Nat) (n rl : Nat) (F G : Str) (tF pm pn L : Nat) (v : Nat → Value) (a : Int) (ta : Nat) (u : Nat → Nat) :
    trimO [] (run (ftP P b1 b2) (KP P) S 60 c0 none 0 [] (flowZ [stm P 94 2] (envAt P 94 L)) [(L, cuF h k n rl (.str F tF) pm (.int a ta)), (pm, lsto (mkV 3 v) pn)] 0 (mkU 5 u) 297660158011321451028417 [ceSNe true, ceJn m3 G] True) =
    some ⟨.fin (.done (.ret (.str G (u 4)))), [], 0, okD 13 297660158011321451028417 [L, pm, u 2, u 3] [(S (.call (.builtin "str.__ne__") ⟨[.str F tF, .str eS (u 1)], []⟩) [] 0 0 (ceSNe true).f 0, id), (S (.call (.builtin "str.join") ⟨[.str comma (u 0), .ref (u 3)], []⟩) [(u 3, lsto (.str F tF :: mkV 3 v) 0)] 0 1 (ceJn m3 G).f 0, id)] True⟩ := by cases b1 <;> kernel_rfl!
theorem cut_e3 (P : Params) (b1 b2 : Bool) (S : ST) (h : Nat → Int) (k : Nat → Nat) (n rl : Nat) (F G : Str) (tF pm pn L : Nat) (v : Nat → Value) (a : Int) (ta : Nat) (u : Nat → Nat) :
    trimO [] (run (ftP P b1 b2) (KP P) S 60 c0 none 0 [] (flowZ [stm P 94 2] (envAt P 94 L)) [(L, cuF h k n rl (.str F tF) pm (.int a ta)), (pm, lsto (mkV 3 v) pn)] 0 (mkU 5 u) 4650939968926897676225 [ceSNe false, ceJn m3 G] True) =
    some ⟨.fin (.done (.ret (.str G (u 4)))), [], 0, okD 12 4650939968926897676225 [L, pm, u 2, u 3] [(S (.call (.builtin "str.__ne__") ⟨[.str F tF, .str eS (u 1)], []⟩) [] 0 0 (ceSNe false).f 0, id), (S (.call (.builtin "str.join") ⟨[.str comma (u 0), .ref (u 3)], []⟩) [(u 3, lsto (mkV 3 v) 0)] 0 1 (ceJn m3 G).f 0, id)] True⟩ := by cases b1 <;> kernel_rfl!
theorem cut_n4 (P : Params) (b1 b2 : Bool) (S : ST) (h : Nat → Int) (k : Nat → Nat) (n rl : Nat) (F G : Str) (tF pm pn L : Nat) (v : Nat → Value) (a : Int) (ta : Nat) (u : Nat → Nat) :
    trimO [] (run (ftP P b1 b2) (KP P) S 60 c0 none 0 [] (flowZ [stm P 94 2] (envAt P 94 L)) [(L, cuF h k n rl (.str F tF) pm (.int a ta)), (pm, lsto (mkV 4 v) pn)] 0 (mkU 5 u) 297660158011321451028417 [ceSNe true, ceJn m3 G] True) =
    some ⟨.fin (.done (.ret (.str G (u 4)))), [], 0, okD 13 297660158011321451028417 [L, pm, u 2, u 3] [(S (.call (.builtin "str.__ne__") ⟨[.str F tF, .str eS (u 1)], []⟩) [] 0 0 (ceSNe true).f 0, id), (S (.call (.builtin "str.join") ⟨[.str comma (u 0), .ref (u 3)], []⟩) [(u 3, lsto (.str F tF :: mkV 4 v) 0)] 0 1 (ceJn m3 G).f 0, id)] True⟩ := by cases b1 <;> kernel_rfl!
theorem cut_e4 (P : Params) (b1 b2 : Bool) (S : ST) (h : Nat → Int) (k : Nat → Nat) (n rl : Nat) (F G : Str) (tF pm pn L : Nat) (v : Nat → Value) (a : Int) (ta : Nat) (u : Nat → Nat) :
    trimO [] (run (ftP P b1 b2) (KP P) S 60 c0 none 0 [] (flowZ [stm P 94 2] (envAt P 94 L)) [(L, cuF h k n rl (.str F tF) pm (.int a ta)), (pm, lsto (mkV 4 v) pn)] 0 (mkU 5 u) 4650939968926897676225 [ceSNe false, ceJn m3 G] True) =
    some ⟨.fin (.done (.ret (.str G (u 4)))), [], 0, okD 12 4650939968926897676225 [L, pm, u 2, u 3] [(S (.call (.builtin "str.__ne__") ⟨[.str F tF, .str eS (u 1)], []⟩) [] 0 0 (ceSNe false).f 0, id), (S (.call (.builtin "str.join") ⟨[.str comma (u 0), .ref (u 3)], []⟩) [(u 3, lsto (mkV 4 v) 0)] 0 1 (ceJn m3 G).f 0, id)] True⟩ := by cases b1 <;> kernel_rfl!
theorem cut_n5 (P : Params) (b1 b2 : Bool) (S : ST) (h : Nat → Int) (k : Nat → Nat) (n rl : Nat) (F G : Str) (tF pm pn L : Nat) (v : Nat → Value) (a : Int) (ta : Nat) (u : Nat → Nat) :
    trimO [] (run (ftP P b1 b2) (KP P) S 60 c0 none 0 [] (flowZ [stm P 94 2] (envAt P 94 L)) [(L, cuF h k n rl (.str F tF) pm (.int a ta)), (pm, lsto (mkV 5 v) pn)] 0 (mkU 5 u) 297660158011321451028417 [ceSNe true, ceJn m3 G] True) =
    some ⟨.fin (.done (.ret (.str G (u 4)))), [], 0, okD 13 297660158011321451028417 [L, pm, u 2, u 3] [(S (.call (.builtin "str.__ne__") ⟨[.str F tF, .str eS (u 1)], []⟩) [] 0 0 (ceSNe true).f 0, id), (S (.call (.builtin "str.join") ⟨[.str comma (u 0), .ref (u 3)], []⟩) [(u 3, lsto (.str F tF :: mkV 5 v) 0)] 0 1 (ceJn m3 G).f 0, id)] True⟩ := by cases b1 <;> kernel_rfl!
theorem cut_e5 (P : Params) (b1 b2 : Bool) (S : ST) (h : Nat → Int) (k : Nat → Nat) (n rl : Nat) (F G : Str) (tF pm pn L : Nat) (v : Nat → Value) (a : Int) (ta : Nat) (u : Nat → Nat) :
    trimO [] (run (ftP P b1 b2) (KP P) S 60 c0 none 0 [] (flowZ [stm P 94 2] (envAt P 94 L)) [(L, cuF h k n rl (.str F tF) pm (.int a ta)), (pm, lsto (mkV 5 v) pn)] 0 (mkU 5 u) 4650939968926897676225 [ceSNe false, ceJn m3 G] True) =
    some ⟨.fin (.done (.ret (.str G (u 4)))), [], 0, okD 12 4650939968926897676225 [L, pm, u 2, u 3] [(S (.call (.builtin "str.__ne__") ⟨[.str F tF, .str eS (u 1)], []⟩) [] 0 0 (ceSNe false).f 0, id), (S (.call (.builtin "str.join") ⟨[.str comma (u 0), .ref (u 3)], []⟩) [(u 3, lsto (mkV 5 v) 0)] 0 1 (ceJn m3 G).f 0, id)] True⟩ := by cases b1 <;> kernel_rfl!
theorem cut_n6 (P : Params) (b1 b2 : Bool) (S : ST) (h : Nat → Int) (k : Nat → Nat) (n rl : Nat) (F G : Str) (tF pm pn L : Nat) (v : Nat → Value) (a : Int) (ta : Nat) (u : Nat → Nat) :
    trimO [] (run (ftP P b1 b2) (KP P) S 60 c0 none 0 [] (flowZ [stm P 94 2] (envAt P 94 L)) [(L, cuF h k n rl (.str F tF) pm (.int a ta)), (pm, lsto (mkV 6 v) pn)] 0 (mkU 5 u) 297660158011321451028417 [ceSNe true, ceJn m3 G] True) =
    some ⟨.fin (.done (.ret (.str G (u 4)))), [], 0, okD 13 297660158011321451028417 [L, pm, u 2, u 3] [(S (.call (.builtin "str.__ne__") ⟨[.str F tF, .str eS (u 1)], []⟩) [] 0 0 (ceSNe true).f 0, id), (S (.call (.builtin "str.join") ⟨[.str comma (u 0), .ref (u 3)], []⟩) [(u 3, lsto (.str F tF :: mkV 6 v) 0)] 0 1 (ceJn m3 G).f 0, id)] True⟩ := by cases b1 <;> kernel_rfl!
theorem cut_e6 (P : Params) (b1 b2 : Bool) (S : ST) (h : Nat → Int) (k : Nat → Nat) (n rl : Nat) (F G : Str) (tF pm pn L : Nat) (v : Nat → Value) (a : Int) (ta : Nat) (u : Nat → Nat) :
    trimO [] (run (ftP P b1 b2) (KP P) S 60 c0 none 0 [] (flowZ [stm P 94 2] (envAt P 94 L)) [(L, cuF h k n rl (.str F tF) pm (.int a ta)), (pm, lsto (mkV 6 v) pn)] 0 (mkU 5 u) 4650939968926897676225 [ceSNe false, ceJn m3 G] True) =
    some ⟨.fin (.done (.ret (.str G (u 4)))), [], 0, okD 12 4650939968926897676225 [L, pm, u 2, u 3] [(S (.call (.builtin "str.__ne__") ⟨[.str F tF, .str eS (u 1)], []⟩) [] 0 0 (ceSNe false).f 0, id), (S (.call (.builtin "str.join") ⟨[.str comma (u 0), .ref (u 3)], []⟩) [(u 3, lsto (mkV 6 v) 0)] 0 1 (ceJn m3 G).f 0, id)] True⟩ := by cases b1 <;> kernel_rfl!
theorem cut_n7 (P : Params) (b1 b2 : Bool) (S : ST) (h : Nat → Int) (k : Nat → Nat) (n rl : Nat) (F G : Str) (tF pm pn L : Nat) (v : Nat → Value) (a : Int) (ta : Nat) (u : Nat → Nat) :
    trimO [] (run (ftP P b1 b2) (KP P) S 60 c0 none 0 [] (flowZ [stm P 94 2] (envAt P 94 L)) [(L, cuF h k n rl (.str F tF) pm (.int a ta)), (pm, lsto (mkV 7 v) pn)] 0 (mkU 5 u) 297660158011321451028417 [ceSNe true, ceJn m3 G] True) =
    some ⟨.fin (.done (.ret (.str G (u 4)))), [], 0, okD 13 297660158011321451028417 [L, pm, u 2, u 3] [(S (.call (.builtin "str.__ne__") ⟨[.str F tF, .str eS (u 1)], []⟩) [] 0 0 (ceSNe true).f 0, id), (S (.call (.builtin "str.join") ⟨[.str comma (u 0), .ref (u 3)], []⟩) [(u 3, lsto (.str F tF :: mkV 7 v) 0)] 0 1 (ceJn m3 G).f 0, id)] True⟩ := by cases b1 <;> kernel_rfl!
theorem cut_e7 (P : Params) (b1 b2 : Bool) (S : ST) (h : Nat → Int) (k : Nat → Nat) (n rl : Nat) (F G : Str) (tF pm pn L : Nat) (v : Nat → Value) (a : Int) (ta : Nat) (u : Nat → Nat) :
    trimO [] (run (ftP P b1 b2) (KP P) S 60 c0 none 0 [] (flowZ [stm P 94 2] (envAt P 94 L)) [(L, cuF h k n rl (.str F tF) pm (.int a ta)), (pm, lsto (mkV 7 v) pn)] 0 (mkU 5 u) 4650939968926897676225 [ceSNe false, ceJn m3 G] True) =
    some ⟨.fin (.done (.ret (.str G (u 4)))), [], 0, okD 12 4650939968926897676225 [L, pm, u 2, u 3] [(S (.call (.builtin "str.__ne__") ⟨[.str F tF, .str eS (u 1)], []⟩) [] 0 0 (ceSNe false).f 0, id), (S (.call (.builtin "str.join") ⟨[.str comma (u 0), .ref (u 3)], []⟩) [(u 3, lsto (mkV 7 v) 0)] 0 1 (ceJn m3 G).f 0, id)] True⟩ := by cases b1 <;> kernel_rfl!
end Mine
end
-- V6
section
open PySem PySem.Spec PySem.Calls PyProof.Rows PySem.W PySem.W.X
namespace Mine
theorem seen94 (P : Params) : FnSeen P 94 93 := ⟨by kernel_rfl!, by kernel_rfl!, by kernel_rfl!, by kernel_rfl!, by kernel_rfl!, by kernel_rfl!, by kernel_rfl!, by kernel_rfl!, by kernel_rfl!⟩
theorem bind94 (P : Params) (v v' : Value) : bindArgs (fd P 94) ⟨[v, v'], []⟩ = .pure [(nRul, v), (nFig, v')] := bind_of (by kernel_rfl!)
noncomputable def hC (h h' : Int) : Nat → Int
  | 0 => h
  | _ => h'
theorem ent94 (P : Params) (S : ST) (j : Nat) (v v' : Value) (u : Nat → Nat) : trimO [true] (run P (KP P) S 40 c0 none 0 [] (entZ (fd P 94) 94 (bd P 94) [(nRul, v), (nFig, v')]) [] j (mkU 3 u) (1 + 64 + 64 * 64 + 64 * 64 * 64) [] True) =
  some ⟨.fin (.again (.func (bd P 94) (envAt P 94 (u 0)))), [(u 0, fro [en (hs P nRul) (u 1) nRul v, en (hs P nFig) (u 2) nFig v'] 2)], j, okD 4 (1 + 64 + 64 * 64 + 64 * 64 * 64) [u 0] [] True⟩ := by kernel_rfl!
theorem cut_p (P : Params) (S : ST) (h h' : Int) (k k' L : Nat) (v v' : Value) (u : Nat → Nat) : trimO [true, true] (run P (KP P) S 20 c0 none 0 [] (flowZ [stm P 94 0] (envAt P 94 L)) [(L, fro [en h k nRul v, en h' k' nFig v'] 2)] 0 (mkU 2 u) 65 [] True) =
  some ⟨.fin (.done .next), [(L, fro [en h k nRul v, en h' k' nFig v', en (hs P nPie) (u 1) nPie (.ref (u 0))] 3), (u 0, lsto [] 0)], 0, okD 2 65 [L, u 0] [] True⟩ := by kernel_rfl!
theorem cut_body (P : Params) : bd P 94 = [stm P 94 0] ++ ([stm P 94 1] ++ [stm P 94 2]) := by kernel_rfl!
theorem cut_for (P : Params) : stm P 94 1 = .For (cuL P).t (cuL P).i (cuL P).b [] (forPos (stm P 94 1)) := by kernel_rfl!
theorem cut_iter (P : Params) (env : Env) (x : Value) : foldedSetIterable (cuL P).i env x = pure x := by kernel_rfl!
/-- a call's parts -/
noncomputable def clN : Expr → Str
  | .Call (.Name x _) _ _ _ => x
  | _ => eS
noncomputable def clP : Expr → Pos
  | .Call (.Name _ p) _ _ _ => p
  | _ => default
noncomputable def clA : Expr → Expr
  | .Call _ [e] _ _ => e
  | e => e
noncomputable def clQ : Expr → Pos
  | .Call _ _ _ p => p
  | _ => default
theorem cut_call (P : Params) : (cuL P).i = .Call (.Name (clN (cuL P).i) (clP (cuL P).i)) [clA (cuL P).i] [] (clQ (cuL P).i) := by kernel_rfl!
theorem cut_args (P : Params) (env : Env) : backTo (clQ (cuL P).i) (starEach [clA (cuL P).i] env) = [(false, eval (clA (cuL P).i) env)] := by kernel_rfl!
theorem cut_fn (P : Params) (S : ST) (L : Nat) (u : Nat → Nat) : trimO [] (run P (KP P) S 20 c0 none 0 [] (valZ (.Name (clN (cuL P).i) (clP (cuL P).i)) (envAt P 94 L)) [] 0 (mkU 0 u) 0 [] True) =
  some ⟨.fin (.done (.ret (.ref 21))), [], 0, True⟩ := by kernel_rfl!
theorem cut_arg (P : Params) (S : ST) (h : Nat → Int) (k : Nat → Nat) (n rl pm L : Nat) (F : Value) (u : Nat → Nat) : trimO [true] (run P (KP P) S 20 c0 none 0 [] (valZ (clA (cuL P).i) (envAt P 94 L)) [(L, cuF3 h k n rl F pm)] 0 (mkU 0 u) 1 [] True) =
  some ⟨.fin (.done (.ret (.ref rl))), [(L, cuF3 h k n rl F pm)], 0, okD 1 1 [L] [] True⟩ := by kernel_rfl!
theorem bind21 (P : Params) (v : Value) : bindArgs (fd P 21) ⟨[v], []⟩ = .pure [(nGrp, v)] := bind_of (by kernel_rfl!)
theorem ent21 (P : Params) (S : ST) (j : Nat) (v : Value) (u : Nat → Nat) : trimO [true] (run P (KP P) S 40 c0 none 0 [] (entZ (fd P 21) 21 (bd P 21) [(nGrp, v)]) [] j (mkU 2 u) (1 + 64) [] True) =
  some ⟨.fin (.again (.func (bd P 21) (envAt P 21 (u 0)))), [(u 0, fro [en (hs P nGrp) (u 1) nGrp v] 1)], j, okD 2 (1 + 64) [u 0] [] True⟩ := by kernel_rfl!
structure GenSeen (P : Params) : Prop where
  a1 : lookK (KP P) 21 = some (objAt (KP P) 21)
  a2 : (objAt (KP P) 21).data = .func (fd P 21)
  a3 : (fd P 21).scope.isCoroutine = false
  a4 : (fd P 21).scope.isGenerator = true
  a5 : (fd P 21).body = .stmts (bd P 21)
  a6 : (fd P 21).code = .ref 20
  a7 : lookK (KP P) 20 = some (objAt (KP P) 20)
  a8 : (objAt (KP P) 20).data = .fields (fldsOf (objAt (KP P) 20))
  a9 : (fldsOf (objAt (KP P) 20))[1]? = some (.str (fd P 21).qualname (tokOf (fldAt (objAt (KP P) 20) 1)))
theorem seen21 (P : Params) : GenSeen P := ⟨by kernel_rfl!, by kernel_rfl!, by kernel_rfl!, by kernel_rfl!, by kernel_rfl!, by kernel_rfl!, by kernel_rfl!, by kernel_rfl!, by kernel_rfl!⟩
section
variable {w : World} {J : Nat → Array GenState → Prop} {B : Addr → Option Obj} {os : OsState} {dr : Drawn} {d : Nat}

set_option maxHeartbeats 4000000 in
theorem gen_made {A : Around} {rl : Nat} {H : List Ent} {s : Shared} {Q : Value → Shared → Prop} (hA : AOk (d - 16) A) (hd : 16 ≤ d) (hd9 : d ≤ 900) (hK : KIn (KP w.params) B) (R : Rel JB B os dr H 0 s)
    (hQ : ∀ g L k ga nm qn s', Rel (JG g fun gs => gs = .fresh (gcd0 w.params L)) B os dr (H ++ [(L, fro [en (hs w.params nGrp) k nGrp (.ref rl)] 1), (ga, genO g nm qn)]) 0 s' → Q (.ref ga) s') :
    wpAny (Mo w) A (call (.ref 21) [.ref rl]) Q (fun _ _ => False) s := by
  have G := seen21 w.params
  refine wpAny_call (codeAny_call_generator (o := objAt (KP w.params) 21) (fd := fd w.params 21) (body := bd w.params 21) (by have := hA.2.1; show A.depth < 1000; omega) (R.top hK G.a1) G.a2 G.a3 G.a4 G.a5 ⟨20, _, _, _, G.a6, R.top hK G.a7, G.a8, G.a9⟩ ?_)
  refine wpAny_of_eq (bind21 _ _) ?_
  have h : wpAny (Mo w) A.in1 (entZ (fd w.params 21) 21 (bd w.params 21) [(nGrp, .ref rl)]) (fun fin s₂ => ∃ L k, fin = .again (.func (bd w.params 21) (envAt w.params 21 L)) ∧ Rel JB B os dr (H ++ [(L, fro [en (hs w.params nGrp) k nGrp (.ref rl)] 1)]) 0 s₂) (fun e s' => False) s := by
    have e1 : (splitM [] H).1 = [] := by cases H <;> rfl
    have e2 : (splitM [] H).2 = H := by cases H <;> rfl
    refine tree_part rfl (d := d) (A₀ := A.in1) ⟨hA.1, by show A.depth ≤ _; have := hA.2.1; omega, by show A.units + 1 ≤ _; have := hA.2.2; omega⟩ (by omega) hK R (mask := []) (m := [true]) (n := 40) (L := 2) (ct := 1 + 64) (ces := []) fun u => ?_
    rw [e1, e2]
    exact ⟨_, _, 0, _, ent21 w.params _ 0 _ u, okD_of _ _ _ _ trivial trivial, fun s₂ R₂ => ⟨u 0, u 1, rfl, R₂⟩⟩
  rw [entZ_eq] at h
  refine wpAny_mono (wpAny_unbind (g := fun env => PySem.Fin.again (.func (bd w.params 21) env)) h) (fun env s₂ q => ?_) fun _ _ q => q.elim
  obtain ⟨L, k, e, R₂⟩ := q
  cases e
  refine ⟨noLimit hK R₂ (lim2 _), ?_⟩
  have R3 := R₂.alloc (o := genO s₂.gens.size (.str (fd w.params 21).name s₂.toks) (.str (fd w.params 21).qualname (s₂.toks + 1))) rfl
  have R4 := (R3.toks (s₂.toks + 1 + 1)).gens (J' := JG s₂.gens.size fun gs => gs = .fresh (gcd0 w.params L)) (j' := 0) (gens := s₂.gens.push (.fresh (gcd0 w.params L))) ⟨AllBare.push R₂.gh rfl, _, by simp, rfl⟩
  rw [snoc_eq, List.append_assoc] at R4
  exact hQ _ L k _ _ _ _ R4
end
end Mine
end
-- V7
section
open PySem PySem.Spec PySem.Calls PyProof.Rows PySem.W PySem.W.X
namespace Mine
noncomputable def allT : List Ent → List Bool
  | [] => []
  | _ :: l => true :: allT l
theorem splitM_nil (l : List Ent) : splitM [] l = ([], l) := by cases l <;> rfl
theorem splitM_front : ∀ (Hp rest : List Ent), splitM (allT Hp) (Hp ++ rest) = (Hp, rest)
  | [], rest => splitM_nil rest
  | x :: Hp, rest => by
    show (x :: (splitM (allT Hp) (Hp ++ rest)).1, (splitM (allT Hp) (Hp ++ rest)).2) = _
    rw [splitM_front Hp rest]
section
variable {w : World} {K : Frag} {J : Nat → Array GenState → Prop} {B : Addr → Option Obj} {os : OsState} {dr : Drawn} {d : Nat}
theorem tree_front {P : Params} (hP : P = w.params) {t : Sem PySem.Fin} {A₀ : Around} {Q₀ : PySem.Fin → Shared → Prop} {E₀ : Value → Shared → Prop} {Hp rest : List Ent} {j ct n L : Nat} {ces : List CE} {s : Shared} {m : List Bool} (hA : AOk (d - 14) A₀) (hd : 14 ≤ d) (hK : KIn K B) (R : Rel J B os dr (Hp ++ rest) j s)
    (h : ∀ u, ∃ r Hn j' ok, trimO m (run P K (SP w K d J) n c0 none 0 [] t Hp j (mkU L u) ct ces True) = some ⟨r, Hn, j', ok⟩ ∧ ok ∧ ∀ s', Rel J B os dr (Hn ++ rest) j' s' → resQ Q₀ E₀ r s') : wpAny (Mo w) A₀ t Q₀ E₀ s := by
  refine tree_part hP hA hd hK R (mask := allT Hp) (m := m) (n := n) (L := L) (ct := ct) (ces := ces) fun u => ?_
  rw [splitM_front]
  obtain ⟨r, Hn, j', ok, h1, h2, h3⟩ := h u
  exact ⟨r, Hn, j', ok, h1, h2, fun s' R' => h3 s' (R'.perm List.perm_append_comm)⟩
theorem flow_front {P : Params} (hP : P = w.params) {b : List Stmt} {env : Env} {A₀ : Around} {Q : Flow → Shared → Prop} {E : Value → Shared → Prop} {Hp rest : List Ent} {j ct n L : Nat} {ces : List CE} {s : Shared} {m : List Bool} (hA : AOk (d - 14) A₀) (hd : 14 ≤ d) (hK : KIn K B) (R : Rel J B os dr (Hp ++ rest) j s)
    (h : ∀ u, ∃ f Hn j' ok, trimO m (run P K (SP w K d J) n c0 none 0 [] (flowZ b env) Hp j (mkU L u) ct ces True) = some ⟨.fin (.done f), Hn, j', ok⟩ ∧ ok ∧ ∀ s', Rel J B os dr (Hn ++ rest) j' s' → Q f s') : wpAny (Mo w) A₀ (execs b env) Q E s := by
  have z : wpAny (Mo w) A₀ (flowZ b env) (fun fin s' => match fin with | .done f => Q f s' | .again _ => False) E s :=
    tree_front hP hA hd hK R (m := m) (L := L) (ct := ct) (n := n) (ces := ces) fun u => by
      obtain ⟨f, Hn, j', ok, h1, h2, h3⟩ := h u
      exact ⟨_, Hn, j', ok, h1, h2, h3⟩
  rw [flowZ_eq] at z
  exact wpAny_unbind (g := fun f => PySem.Fin.done f) z
theorem flow_front2 {P : Params} (hP : P = w.params) {b : List Stmt} {env : Env} {A₀ : Around} {Q : Flow → Shared → Prop} {E : Value → Shared → Prop} {Hp rest : List Ent} {j ct n L : Nat} {ces : List CE} {s : Shared} {m : List Bool} (hA : AOk (d - 14) A₀) (hd : 14 ≤ d) (hK : KIn K B) (R : Rel J B os dr (Hp ++ rest) j s) {f : (Nat → Nat) → Flow} {Hn : (Nat → Nat) → List Ent} {ok : (Nat → Nat) → Prop} {j' : Nat}
    (h : ∀ u, trimO m (run P K (SP w K d J) n c0 none 0 [] (flowZ b env) Hp j (mkU L u) ct ces True) = some ⟨.fin (.done (f u)), Hn u, j', ok u⟩) (hok : ∀ u, ok u) (hq : ∀ u s', Rel J B os dr (Hn u ++ rest) j' s' → Q (f u) s') : wpAny (Mo w) A₀ (execs b env) Q E s :=
  flow_front hP hA hd hK R fun u => ⟨_, _, _, _, h u, hok u, hq u⟩
theorem assign_front {P : Params} (hP : P = w.params) {t : Expr} {env : Env} {v : Value} {A₀ : Around} {Q : Unit → Shared → Prop} {E : Value → Shared → Prop} {Hp rest : List Ent} {j ct n L : Nat} {ces : List CE} {s : Shared} {m : List Bool} (hA : AOk (d - 14) A₀) (hd : 14 ≤ d) (hK : KIn K B) (R : Rel J B os dr (Hp ++ rest) j s)
    (h : ∀ u, ∃ Hn j' ok, trimO m (run P K (SP w K d J) n c0 none 0 [] (assZ t env v) Hp j (mkU L u) ct ces True) = some ⟨.fin (.done .next), Hn, j', ok⟩ ∧ ok ∧ ∀ s', Rel J B os dr (Hn ++ rest) j' s' → Q () s') : wpAny (Mo w) A₀ (assign t env v) Q E s := by
  have z : wpAny (Mo w) A₀ (assZ t env v) (fun fin s' => match fin with | .done .next => Q () s' | _ => False) E s :=
    tree_front hP hA hd hK R (m := m) (L := L) (ct := ct) (n := n) (ces := ces) fun u => by
      obtain ⟨Hn, j', ok, h1, h2, h3⟩ := h u
      exact ⟨_, Hn, j', ok, h1, h2, h3⟩
  rw [assZ_eq] at z
  exact wpAny_unbind (g := fun _ => PySem.Fin.done .next) z
theorem assign_front2 {P : Params} (hP : P = w.params) {t : Expr} {env : Env} {v : Value} {A₀ : Around} {Q : Unit → Shared → Prop} {E : Value → Shared → Prop} {Hp rest : List Ent} {j ct n L : Nat} {ces : List CE} {s : Shared} {m : List Bool} (hA : AOk (d - 14) A₀) (hd : 14 ≤ d) (hK : KIn K B) (R : Rel J B os dr (Hp ++ rest) j s) {Hn : (Nat → Nat) → List Ent} {ok : (Nat → Nat) → Prop} {j' : Nat}
    (h : ∀ u, trimO m (run P K (SP w K d J) n c0 none 0 [] (assZ t env v) Hp j (mkU L u) ct ces True) = some ⟨.fin (.done .next), Hn u, j', ok u⟩) (hok : ∀ u, ok u) (hq : ∀ u s', Rel J B os dr (Hn u ++ rest) j' s' → Q () s') : wpAny (Mo w) A₀ (assign t env v) Q E s :=
  assign_front hP hA hd hK R fun u => ⟨_, _, _, h u, hok u, hq u⟩
theorem val_front {P : Params} (hP : P = w.params) {e : Expr} {env : Env} {A₀ : Around} {Q : Value → Shared → Prop} {E : Value → Shared → Prop} {Hp rest : List Ent} {j ct n L : Nat} {ces : List CE} {s : Shared} {m : List Bool} (hA : AOk (d - 14) A₀) (hd : 14 ≤ d) (hK : KIn K B) (R : Rel J B os dr (Hp ++ rest) j s)
    (h : ∀ u, ∃ v Hn j' ok, trimO m (run P K (SP w K d J) n c0 none 0 [] (valZ e env) Hp j (mkU L u) ct ces True) = some ⟨.fin (.done (.ret v)), Hn, j', ok⟩ ∧ ok ∧ ∀ s', Rel J B os dr (Hn ++ rest) j' s' → Q v s') : wpAny (Mo w) A₀ (eval e env) Q E s := by
  have z : wpAny (Mo w) A₀ (valZ e env) (fun fin s' => match fin with | .done (.ret v) => Q v s' | _ => False) E s :=
    tree_front hP hA hd hK R (m := m) (L := L) (ct := ct) (n := n) (ces := ces) fun u => by
      obtain ⟨v, Hn, j', ok, h1, h2, h3⟩ := h u
      exact ⟨_, Hn, j', ok, h1, h2, h3⟩
  rw [valZ_eq] at z
  exact wpAny_unbind (g := fun v => PySem.Fin.done (.ret v)) z
theorem val_front2 {P : Params} (hP : P = w.params) {e : Expr} {env : Env} {A₀ : Around} {Q : Value → Shared → Prop} {E : Value → Shared → Prop} {Hp rest : List Ent} {j ct n L : Nat} {ces : List CE} {s : Shared} {m : List Bool} (hA : AOk (d - 14) A₀) (hd : 14 ≤ d) (hK : KIn K B) (R : Rel J B os dr (Hp ++ rest) j s) {v : (Nat → Nat) → Value} {Hn : (Nat → Nat) → List Ent} {ok : (Nat → Nat) → Prop} {j' : Nat}
    (h : ∀ u, trimO m (run P K (SP w K d J) n c0 none 0 [] (valZ e env) Hp j (mkU L u) ct ces True) = some ⟨.fin (.done (.ret (v u))), Hn u, j', ok u⟩) (hok : ∀ u, ok u) (hq : ∀ u s', Rel J B os dr (Hn u ++ rest) j' s' → Q (v u) s') : wpAny (Mo w) A₀ (eval e env) Q E s :=
  val_front hP hA hd hK R fun u => ⟨_, _, _, _, h u, hok u, hq u⟩
theorem iter_front {P : Params} (hP : P = w.params) {x : Value} {A₀ : Around} {Q : Value → Shared → Prop} {E : Value → Shared → Prop} {Hp rest : List Ent} {j ct n L : Nat} {ces : List CE} {s : Shared} {m : List Bool} (hA : AOk (d - 14) A₀) (hd : 14 ≤ d) (hK : KIn K B) (R : Rel J B os dr (Hp ++ rest) j s)
    (h : ∀ u, ∃ v Hn j' ok, trimO m (run P K (SP w K d J) n c0 none 0 [] (iterZ x) Hp j (mkU L u) ct ces True) = some ⟨.fin (.done (.ret v)), Hn, j', ok⟩ ∧ ok ∧ ∀ s', Rel J B os dr (Hn ++ rest) j' s' → Q v s') : wpAny (Mo w) A₀ (pyIter x) Q E s := by
  have z : wpAny (Mo w) A₀ (iterZ x) (fun fin s' => match fin with | .done (.ret v) => Q v s' | _ => False) E s :=
    tree_front hP hA hd hK R (m := m) (L := L) (ct := ct) (n := n) (ces := ces) fun u => by
      obtain ⟨v, Hn, j', ok, h1, h2, h3⟩ := h u
      exact ⟨_, Hn, j', ok, h1, h2, h3⟩
  rw [iterZ_eq] at z
  exact wpAny_unbind (g := fun v => PySem.Fin.done (.ret v)) z
theorem iter_front2 {P : Params} (hP : P = w.params) {x : Value} {A₀ : Around} {Q : Value → Shared → Prop} {E : Value → Shared → Prop} {Hp rest : List Ent} {j ct n L : Nat} {ces : List CE} {s : Shared} {m : List Bool} (hA : AOk (d - 14) A₀) (hd : 14 ≤ d) (hK : KIn K B) (R : Rel J B os dr (Hp ++ rest) j s) {v : (Nat → Nat) → Value} {Hn : (Nat → Nat) → List Ent} {ok : (Nat → Nat) → Prop} {j' : Nat}
    (h : ∀ u, trimO m (run P K (SP w K d J) n c0 none 0 [] (iterZ x) Hp j (mkU L u) ct ces True) = some ⟨.fin (.done (.ret (v u))), Hn u, j', ok u⟩) (hok : ∀ u, ok u) (hq : ∀ u s', Rel J B os dr (Hn u ++ rest) j' s' → Q (v u) s') : wpAny (Mo w) A₀ (pyIter x) Q E s :=
  iter_front hP hA hd hK R fun u => ⟨_, _, _, _, h u, hok u, hq u⟩
theorem next_front {P : Params} (hP : P = w.params) {v : Value} {A₀ : Around} {Q : Option Value → Shared → Prop} {E : Value → Shared → Prop} {Hp rest : List Ent} {j ct n L : Nat} {ces : List CE} {s : Shared} {m : List Bool} (hA : AOk (d - 14) A₀) (hd : 14 ≤ d) (hK : KIn K B) (R : Rel J B os dr (Hp ++ rest) j s)
    (h : ∀ u, ∃ (r : Option Value) (Hn : List Ent) (j' : Nat) (ok : Prop), trimO m (run P K (SP w K d J) n c0 none 0 [] (nextZ v) Hp j (mkU L u) ct ces True) = some ⟨.fin (optFin r), Hn, j', ok⟩ ∧ ok ∧ ∀ s', Rel J B os dr (Hn ++ rest) j' s' → Q r s') : wpAny (Mo w) A₀ (pyNext v) Q E s := by
  refine next_part hP hA hd hK R (mask := allT Hp) (m := m) (n := n) (L := L) (ct := ct) (ces := ces) fun u => ?_
  rw [splitM_front]
  obtain ⟨r, Hn, j', ok, h1, h2, h3⟩ := h u
  exact ⟨r, Hn, j', ok, h1, h2, fun s' R' => h3 s' (R'.perm List.perm_append_comm)⟩
theorem next_front2 {P : Params} (hP : P = w.params) {v : Value} {A₀ : Around} {Q : Option Value → Shared → Prop} {E : Value → Shared → Prop} {Hp rest : List Ent} {j ct n L : Nat} {ces : List CE} {s : Shared} {m : List Bool} (hA : AOk (d - 14) A₀) (hd : 14 ≤ d) (hK : KIn K B) (R : Rel J B os dr (Hp ++ rest) j s) {r : (Nat → Nat) → Option Value} {Hn : (Nat → Nat) → List Ent} {ok : (Nat → Nat) → Prop} {j' : Nat}
    (h : ∀ u, trimO m (run P K (SP w K d J) n c0 none 0 [] (nextZ v) Hp j (mkU L u) ct ces True) = some ⟨.fin (optFin (r u)), Hn u, j', ok u⟩) (hok : ∀ u, ok u) (hq : ∀ u s', Rel J B os dr (Hn u ++ rest) j' s' → Q (r u) s') : wpAny (Mo w) A₀ (pyNext v) Q E s :=
  next_front hP hA hd hK R fun u => ⟨_, _, _, _, h u, hok u, hq u⟩
/-- a generator's turn, its entries in front -/
theorem gen_front {P : Params} (hP : P = w.params) {St : GenState → Prop} {A : Around} {ga g n L Lp ct : Nat} {nm qn : Value} {Hp rest : List Ent} {s : Shared} {m : List Bool} {ces : List CE} {Q : Option Value → Shared → Prop} {E : Value → Shared → Prop}
    (hA : AOk (d - 15) A) (hd : 15 ≤ d) (hd9 : d ≤ 900) (hK : KIn K B) (hlim : ∃ o n, lookK K 2 = some o ∧ o.data = .dict #[] n) (R : Rel (JG g St) B os dr (Hp ++ (ga, genO g nm qn) :: rest) 0 s)
    (h : ∀ gs, St gs → ∃ c t fs, Stg gs c t fs ∧ ∀ J' u q, ∃ e Hn ok, trimS m (runS P K (SP w K d J') n c fs t Hp 0 (mkU L u) (mkP Lp q) ct ces True) = some ⟨e, Hn, 0, ok⟩ ∧ ok ∧
      match e with
      | .ret r => r = .ok (.ret .none) ∧ ∀ s', Rel (JG g fun gs => gs = .finished) B os dr (Hn ++ (ga, genO g nm qn) :: rest) 0 s' → Q none s'
      | .susp v l k c' fs' => fs'.any Frame.guarded = false ∧ ∀ s', Rel (JG g fun gs => ∃ p, gs = .suspended k l c' p fs' false) B os dr (Hn ++ (ga, genO g nm qn) :: rest) 0 s' → Q (some v) s') :
    wpAny (Mo w) A (pyNext (.ref ga)) Q E s := by
  have hi : ∀ (Hp : List Ent) (x : Ent) (r : List Ent), getI (Hp ++ x :: r) Hp.length = some x := by
    intro Hp x r
    induction Hp with
    | nil => rfl
    | cons y Hp ih => exact ih
  refine gen_next hP hA hd hd9 hK hlim R (i := Hp.length) (hi _ _ _) (mask := allT Hp) (m := m) (n := n) (L := L) (Lp := Lp) (ct := ct) (ces := ces) fun gs hs => ?_
  obtain ⟨c, t, fs, h1, h2⟩ := h gs hs
  refine ⟨c, t, fs, h1, fun J' u q => ?_⟩
  rw [splitM_front]
  obtain ⟨e, Hn, ok, h3, h4, h5⟩ := h2 J' u q
  refine ⟨e, Hn, ok, h3, h4, ?_⟩
  cases e with
  | ret r => exact ⟨h5.1, fun s' R' => h5.2 s' (R'.perm List.perm_append_comm)⟩
  | susp v l k c' fs' => exact ⟨h5.1, fun s' R' => h5.2 s' (R'.perm List.perm_append_comm)⟩
theorem gen_susp {P : Params} (hP : P = w.params) {St : GenState → Prop} {A : Around} {ga g n L Lp ct : Nat} {nm qn : Value} {Hp rest : List Ent} {s : Shared} {m : List Bool} {ces : List CE} {Q : Option Value → Shared → Prop} {E : Value → Shared → Prop}
    (hA : AOk (d - 15) A) (hd : 15 ≤ d) (hd9 : d ≤ 900) (hK : KIn K B) (hlim : ∃ o n, lookK K 2 = some o ∧ o.data = .dict #[] n) (R : Rel (JG g St) B os dr (Hp ++ (ga, genO g nm qn) :: rest) 0 s)
    {c : Code} {t : Sem PySem.Fin} {fs : List Frame} (hst : ∀ gs, St gs → Stg gs c t fs) {v : (Nat → Nat) → (Nat → Pos) → Value} {l : (Nat → Nat) → (Nat → Pos) → List Value} {k : (Nat → Nat) → (Nat → Pos) → Resume → Sem PySem.Fin} {c' : (Nat → Nat) → (Nat → Pos) → Code} {fs' : (Nat → Nat) → (Nat → Pos) → List Frame} {Hn : (Nat → Nat) → (Nat → Pos) → List Ent} {ok : (Nat → Array GenState → Prop) → (Nat → Nat) → (Nat → Pos) → Prop}
    (h : ∀ J' u q, trimS m (runS P K (SP w K d J') n c fs t Hp 0 (mkU L u) (mkP Lp q) ct ces True) = some ⟨.susp (v u q) (l u q) (k u q) (c' u q) (fs' u q), Hn u q, 0, ok J' u q⟩)
    (hok : ∀ J' u q, ok J' u q) (hfs : ∀ u q, (fs' u q).any Frame.guarded = false)
    (hq : ∀ u q s', Rel (JG g fun gs => ∃ p, gs = .suspended (k u q) (l u q) (c' u q) p (fs' u q) false) B os dr (Hn u q ++ (ga, genO g nm qn) :: rest) 0 s' → Q (some (v u q)) s') : wpAny (Mo w) A (pyNext (.ref ga)) Q E s :=
  gen_front hP hA hd hd9 hK hlim R fun gs hs => ⟨c, t, fs, hst gs hs, fun J' u q => ⟨_, _, _, h J' u q, hok J' u q, hfs u q, hq u q⟩⟩
theorem gen_ret {P : Params} (hP : P = w.params) {St : GenState → Prop} {A : Around} {ga g n L Lp ct : Nat} {nm qn : Value} {Hp rest : List Ent} {s : Shared} {m : List Bool} {ces : List CE} {Q : Option Value → Shared → Prop} {E : Value → Shared → Prop}
    (hA : AOk (d - 15) A) (hd : 15 ≤ d) (hd9 : d ≤ 900) (hK : KIn K B) (hlim : ∃ o n, lookK K 2 = some o ∧ o.data = .dict #[] n) (R : Rel (JG g St) B os dr (Hp ++ (ga, genO g nm qn) :: rest) 0 s)
    {c : Code} {t : Sem PySem.Fin} {fs : List Frame} (hst : ∀ gs, St gs → Stg gs c t fs) {Hn : (Nat → Nat) → (Nat → Pos) → List Ent} {ok : (Nat → Array GenState → Prop) → (Nat → Nat) → (Nat → Pos) → Prop}
    (h : ∀ J' u q, trimS m (runS P K (SP w K d J') n c fs t Hp 0 (mkU L u) (mkP Lp q) ct ces True) = some ⟨.ret (.ok (.ret .none)), Hn u q, 0, ok J' u q⟩)
    (hok : ∀ J' u q, ok J' u q)
    (hq : ∀ u q s', Rel (JG g fun gs => gs = .finished) B os dr (Hn u q ++ (ga, genO g nm qn) :: rest) 0 s' → Q none s') : wpAny (Mo w) A (pyNext (.ref ga)) Q E s :=
  gen_front hP hA hd hd9 hK hlim R fun gs hs => ⟨c, t, fs, hst gs hs, fun J' u q => ⟨_, _, _, h J' u q, hok J' u q, rfl, hq u q⟩⟩
end
end Mine
end
-- V8
section
open PySem PySem.Spec PySem.Calls PyProof.Rows PySem.W PySem.W.X
namespace Mine
noncomputable def mkS (l : List Nat) : Str := ⟨⟨l⟩⟩
theorem sl_last1 : ∀ (l : List Nat) (t : Nat), l.length ≤ 7 → sliceS (mkS l) (some (-1, t)) none none = mkS (l.drop (l.length - 1))
  | [], t, _ => by kernel_rfl!
  | [x0], t, _ => by kernel_rfl!
  | [x0, x1], t, _ => by kernel_rfl!
  | [x0, x1, x2], t, _ => by kernel_rfl!
  | [x0, x1, x2, x3], t, _ => by kernel_rfl!
  | [x0, x1, x2, x3, x4], t, _ => by kernel_rfl!
  | [x0, x1, x2, x3, x4, x5], t, _ => by kernel_rfl!
  | [x0, x1, x2, x3, x4, x5, x6], t, _ => by kernel_rfl!
  | _ :: _ :: _ :: _ :: _ :: _ :: _ :: _ :: _, _, h => absurd h (by simp only [List.length_cons]; omega)
theorem sl_init1 : ∀ (l : List Nat) (t : Nat), l.length ≤ 7 → sliceS (mkS l) none (some (-1, t)) none = mkS (l.take (l.length - 1))
  | [], t, _ => by kernel_rfl!
  | [x0], t, _ => by kernel_rfl!
  | [x0, x1], t, _ => by kernel_rfl!
  | [x0, x1, x2], t, _ => by kernel_rfl!
  | [x0, x1, x2, x3], t, _ => by kernel_rfl!
  | [x0, x1, x2, x3, x4], t, _ => by kernel_rfl!
  | [x0, x1, x2, x3, x4, x5], t, _ => by kernel_rfl!
  | [x0, x1, x2, x3, x4, x5, x6], t, _ => by kernel_rfl!
  | _ :: _ :: _ :: _ :: _ :: _ :: _ :: _ :: _, _, h => absurd h (by simp only [List.length_cons]; omega)
theorem sl_last2 : ∀ (l : List Nat) (t : Nat), l.length ≤ 7 → sliceS (mkS l) (some (-2, t)) none none = mkS (l.drop (l.length - 2))
  | [], t, _ => by kernel_rfl!
  | [x0], t, _ => by kernel_rfl!
  | [x0, x1], t, _ => by kernel_rfl!
  | [x0, x1, x2], t, _ => by kernel_rfl!
  | [x0, x1, x2, x3], t, _ => by kernel_rfl!
  | [x0, x1, x2, x3, x4], t, _ => by kernel_rfl!
  | [x0, x1, x2, x3, x4, x5], t, _ => by kernel_rfl!
  | [x0, x1, x2, x3, x4, x5, x6], t, _ => by kernel_rfl!
  | _ :: _ :: _ :: _ :: _ :: _ :: _ :: _ :: _, _, h => absurd h (by simp only [List.length_cons]; omega)
theorem sl_init2 : ∀ (l : List Nat) (t : Nat), l.length ≤ 7 → sliceS (mkS l) none (some (-2, t)) none = mkS (l.take (l.length - 2))
  | [], t, _ => by kernel_rfl!
  | [x0], t, _ => by kernel_rfl!
  | [x0, x1], t, _ => by kernel_rfl!
  | [x0, x1, x2], t, _ => by kernel_rfl!
  | [x0, x1, x2, x3], t, _ => by kernel_rfl!
  | [x0, x1, x2, x3, x4], t, _ => by kernel_rfl!
  | [x0, x1, x2, x3, x4, x5], t, _ => by kernel_rfl!
  | [x0, x1, x2, x3, x4, x5, x6], t, _ => by kernel_rfl!
  | _ :: _ :: _ :: _ :: _ :: _ :: _ :: _ :: _, _, h => absurd h (by simp only [List.length_cons]; omega)
theorem sl_last3 : ∀ (l : List Nat) (t : Nat), l.length ≤ 7 → sliceS (mkS l) (some (-3, t)) none none = mkS (l.drop (l.length - 3))
  | [], t, _ => by kernel_rfl!
  | [x0], t, _ => by kernel_rfl!
  | [x0, x1], t, _ => by kernel_rfl!
  | [x0, x1, x2], t, _ => by kernel_rfl!
  | [x0, x1, x2, x3], t, _ => by kernel_rfl!
  | [x0, x1, x2, x3, x4], t, _ => by kernel_rfl!
  | [x0, x1, x2, x3, x4, x5], t, _ => by kernel_rfl!
  | [x0, x1, x2, x3, x4, x5, x6], t, _ => by kernel_rfl!
  | _ :: _ :: _ :: _ :: _ :: _ :: _ :: _ :: _, _, h => absurd h (by simp only [List.length_cons]; omega)
theorem sl_init3 : ∀ (l : List Nat) (t : Nat), l.length ≤ 7 → sliceS (mkS l) none (some (-3, t)) none = mkS (l.take (l.length - 3))
  | [], t, _ => by kernel_rfl!
  | [x0], t, _ => by kernel_rfl!
  | [x0, x1], t, _ => by kernel_rfl!
  | [x0, x1, x2], t, _ => by kernel_rfl!
  | [x0, x1, x2, x3], t, _ => by kernel_rfl!
  | [x0, x1, x2, x3, x4], t, _ => by kernel_rfl!
  | [x0, x1, x2, x3, x4, x5], t, _ => by kernel_rfl!
  | [x0, x1, x2, x3, x4, x5, x6], t, _ => by kernel_rfl!
  | _ :: _ :: _ :: _ :: _ :: _ :: _ :: _ :: _, _, h => absurd h (by simp only [List.length_cons]; omega)
theorem cut_t (m : Nat) (hm : m ≤ 7) (P : Params) (b1 b2 : Bool) (S : ST) (h : Nat → Int) (k : Nat → Nat) (n rl : Nat) (F G1 G2 : Str) (tF pm ta pn L : Nat) (v : Nat → Value) (a : Int) (u : Nat → Nat) :
    trimO [true, false, false, true] (run (ftP P b1 b2) (KP P) S 80 c0 none 0 [] (flowZ (cuL P).b (envAt P 94 L)) [(L, cuF h k n rl (.str F tF) pm (.int a ta)), (pm, lsto (mkV m v) pn)] 0 (mkU 11 u) ctT [ceSEq false, ceSl m1 G1, ceSl m2 G2] True) =
    some ⟨.fin (.done .next), [(L, cuF h k n rl (.str G2 (u 9)) (u 5) (.int a ta)), (u 5, lsto (.str G1 (u 3) :: mkV m v) 0)], 0, okD 23 ctT [L, pm, u 2] (spT S F G1 G2 tF pm L a u) True⟩ := by
  rcases m with _ | _ | _ | _ | _ | _ | _ | _ | m
  · exact cut_t0 P b1 b2 S h k n rl F G1 G2 tF pm ta pn L v a u
  · exact cut_t1 P b1 b2 S h k n rl F G1 G2 tF pm ta pn L v a u
  · exact cut_t2 P b1 b2 S h k n rl F G1 G2 tF pm ta pn L v a u
  · exact cut_t3 P b1 b2 S h k n rl F G1 G2 tF pm ta pn L v a u
  · exact cut_t4 P b1 b2 S h k n rl F G1 G2 tF pm ta pn L v a u
  · exact cut_t5 P b1 b2 S h k n rl F G1 G2 tF pm ta pn L v a u
  · exact cut_t6 P b1 b2 S h k n rl F G1 G2 tF pm ta pn L v a u
  · exact cut_t7 P b1 b2 S h k n rl F G1 G2 tF pm ta pn L v a u
  · omega
theorem cut_n (m : Nat) (hm : m ≤ 7) (P : Params) (b1 b2 : Bool) (S : ST) (h : Nat → Int) (k : Nat → Nat) (n rl : Nat) (F G : Str) (tF pm pn L : Nat) (v : Nat → Value) (a : Int) (ta : Nat) (u : Nat → Nat) :
    trimO [] (run (ftP P b1 b2) (KP P) S 60 c0 none 0 [] (flowZ [stm P 94 2] (envAt P 94 L)) [(L, cuF h k n rl (.str F tF) pm (.int a ta)), (pm, lsto (mkV m v) pn)] 0 (mkU 5 u) 297660158011321451028417 [ceSNe true, ceJn m3 G] True) =
    some ⟨.fin (.done (.ret (.str G (u 4)))), [], 0, okD 13 297660158011321451028417 [L, pm, u 2, u 3] [(S (.call (.builtin "str.__ne__") ⟨[.str F tF, .str eS (u 1)], []⟩) [] 0 0 (ceSNe true).f 0, id), (S (.call (.builtin "str.join") ⟨[.str comma (u 0), .ref (u 3)], []⟩) [(u 3, lsto (.str F tF :: mkV m v) 0)] 0 1 (ceJn m3 G).f 0, id)] True⟩ := by
  rcases m with _ | _ | _ | _ | _ | _ | _ | _ | m
  · exact cut_n0 P b1 b2 S h k n rl F G tF pm pn L v a ta u
  · exact cut_n1 P b1 b2 S h k n rl F G tF pm pn L v a ta u
  · exact cut_n2 P b1 b2 S h k n rl F G tF pm pn L v a ta u
  · exact cut_n3 P b1 b2 S h k n rl F G tF pm pn L v a ta u
  · exact cut_n4 P b1 b2 S h k n rl F G tF pm pn L v a ta u
  · exact cut_n5 P b1 b2 S h k n rl F G tF pm pn L v a ta u
  · exact cut_n6 P b1 b2 S h k n rl F G tF pm pn L v a ta u
  · exact cut_n7 P b1 b2 S h k n rl F G tF pm pn L v a ta u
  · omega
theorem cut_e (m : Nat) (hm : m ≤ 7) (P : Params) (b1 b2 : Bool) (S : ST) (h : Nat → Int) (k : Nat → Nat) (n rl : Nat) (F G : Str) (tF pm pn L : Nat) (v : Nat → Value) (a : Int) (ta : Nat) (u : Nat → Nat) :
    trimO [] (run (ftP P b1 b2) (KP P) S 60 c0 none 0 [] (flowZ [stm P 94 2] (envAt P 94 L)) [(L, cuF h k n rl (.str F tF) pm (.int a ta)), (pm, lsto (mkV m v) pn)] 0 (mkU 5 u) 4650939968926897676225 [ceSNe false, ceJn m3 G] True) =
    some ⟨.fin (.done (.ret (.str G (u 4)))), [], 0, okD 12 4650939968926897676225 [L, pm, u 2, u 3] [(S (.call (.builtin "str.__ne__") ⟨[.str F tF, .str eS (u 1)], []⟩) [] 0 0 (ceSNe false).f 0, id), (S (.call (.builtin "str.join") ⟨[.str comma (u 0), .ref (u 3)], []⟩) [(u 3, lsto (mkV m v) 0)] 0 1 (ceJn m3 G).f 0, id)] True⟩ := by
  rcases m with _ | _ | _ | _ | _ | _ | _ | _ | m
  · exact cut_e0 P b1 b2 S h k n rl F G tF pm pn L v a ta u
  · exact cut_e1 P b1 b2 S h k n rl F G tF pm pn L v a ta u
  · exact cut_e2 P b1 b2 S h k n rl F G tF pm pn L v a ta u
  · exact cut_e3 P b1 b2 S h k n rl F G tF pm pn L v a ta u
  · exact cut_e4 P b1 b2 S h k n rl F G tF pm pn L v a ta u
  · exact cut_e5 P b1 b2 S h k n rl F G tF pm pn L v a ta u
  · exact cut_e6 P b1 b2 S h k n rl F G tF pm pn L v a ta u
  · exact cut_e7 P b1 b2 S h k n rl F G tF pm pn L v a ta u
  · omega
section
variable {w : World} {J : Nat → Array GenState → Prop} {B : Addr → Option Obj} {os : OsState} {dr : Drawn} {d : Nat}
theorem mkS_len {l : List Nat} (h : l.length ≤ 7) : (mkS l).length ≤ sizeLine := by
  rw [sizeLine_eq]; show l.length ≤ _; omega
theorem sl_last {a : Int} {y : Nat} (ha : a = y) (h1 : 1 ≤ y) (h3 : y ≤ 3) (l : List Nat) (t : Nat) (hl : l.length ≤ 7) : sliceS (mkS l) (some (-a, t)) none none = mkS (l.drop (l.length - y)) := by
  subst ha
  rcases y with _ | _ | _ | _ | y
  · omega
  · exact sl_last1 l t hl
  · exact sl_last2 l t hl
  · exact sl_last3 l t hl
  · omega
theorem sl_init {a : Int} {y : Nat} (ha : a = y) (h1 : 1 ≤ y) (h3 : y ≤ 3) (l : List Nat) (t : Nat) (hl : l.length ≤ 7) : sliceS (mkS l) none (some (-a, t)) none = mkS (l.take (l.length - y)) := by
  subst ha
  rcases y with _ | _ | _ | _ | y
  · omega
  · exact sl_init1 l t hl
  · exact sl_init2 l t hl
  · exact sl_init3 l t hl
  · omega
/-- the loop's body, once -/
theorem cut_do {A : Around} {h : Nat → Int} {k : Nat → Nat} {n rl tF pm ta pn L y : Nat} {a : Int} {l : List Nat} {ps : List (Str × Nat)} {rest : List Ent} {s : Shared} {Q : Flow → Shared → Prop} {E : Value → Shared → Prop}
    (hA : AOk (d - 14) A) (hd : 14 ≤ d) (hK : KIn (KP w.params) B) (ha : a = y) (h1 : 1 ≤ y) (h3 : y ≤ 3) (hl : l.length ≤ 7) (hp : ps.length ≤ 7)
    (R : Rel J B os dr ((L, cuF h k n rl (.str (mkS l) tF) pm (.int a ta)) :: (pm, lsto (strValues ps) pn) :: rest) 0 s)
    (hb : l = [] → ∀ s', Rel J B os dr ((L, cuF h k n rl (.str (mkS l) tF) pm (.int a ta)) :: (pm, lsto (strValues ps) pn) :: rest) 0 s' → Q .brk s')
    (hn : l ≠ [] → ∀ t1 t2 pm' s', Rel J B os dr ((L, cuF h k n rl (.str (mkS (l.take (l.length - y))) t2) pm' (.int a ta)) :: (pm', lsto (strValues ((mkS (l.drop (l.length - y)), t1) :: ps)) 0) :: rest) 0 s' → Q .next s') :
    wpAny (Mo w) A (execs (cuL w.params).b (envAt w.params 94 L)) Q E s := by
  by_cases he : l = []
  · refine flow_front2 (fT_eq w) hA hd hK (Hp := [_]) R (fun u => cut_brk w.params _ _ _ h k n rl (mkS l) tF pm ta L a u) (fun u => okD_of _ _ _ _ ⟨specSEq 0 tF (u 0) (by rw [he]; rfl), trivial⟩ trivial) fun u s' R' => hb he s' R'
  · obtain ⟨v, hv⟩ := mkV_of (strValues ps)
    have hlen : (strValues ps).length ≤ 7 := by rw [strValues, List.length_map]; exact hp
    generalize (strValues ps).length = m at hv hlen
    rw [hv] at R
    have hne : ((mkS l).cps.toList == eS.cps.toList) = false := by
      show (l == []) = false
      cases l with
      | nil => exact absurd rfl he
      | cons x l => rfl
    refine flow_front2 (fT_eq w) hA hd hK (Hp := [_, _]) R (fun u => cut_t m hlen w.params _ _ _ h k n rl (mkS l) (mkS (l.drop (l.length - y))) (mkS (l.take (l.length - y))) tF pm ta pn L v a u) (fun u => okD_of _ _ _ _ ⟨specSEq 0 tF (u 0) hne, specSl 0 tF _ _ none none m1 rfl (sl_last ha h1 h3 l _ hl) (mkS_len (by simp; omega)), specSl 0 tF _ none _ none m2 rfl (sl_init ha h1 h3 l _ hl) (mkS_len (by simp; omega)), trivial⟩ trivial) fun u s' R' => hn he (u 3) (u 9) (u 5) s' ?_
    show Rel J B os dr ((L, _) :: (u 5, lsto (.str (mkS (l.drop (l.length - y))) (u 3) :: strValues ps) 0) :: rest) 0 s'
    rw [hv]
    exact R'
end
end Mine
end
-- V9
section
open PySem PySem.Spec PySem.Calls PyProof.Rows PySem.W PySem.W.X
namespace Mine
/-- what the generator yields -/
noncomputable def yAt (a b tg : Nat) : Nat → Option Nat
  | 0 => some a
  | 1 => some b
  | _ => match tg with
    | 0 => some b
    | _ => none
/-- what the loop cuts -/
noncomputable def cutL (a b tg : Nat) : Nat → Nat → List Nat → List (List Nat) → List Nat × List (List Nat)
  | 0, _, l, ps => (l, ps)
  | f + 1, i, l, ps => match yAt a b tg i with
    | none => (l, ps)
    | some y => match l with
      | [] => ([], ps)
      | x :: r => cutL a b tg f (i + 1) ((x :: r).take ((x :: r).length - y)) ((x :: r).drop ((x :: r).length - y) :: ps)
theorem gA_free (P : Params) (b1 b2 : Bool) (a b : Int) (tg : Nat) (t : Nat → Nat) (rl rn L : Nat) (h : Int) (k : Nat) (u : Nat → Nat) (q : Nat → Pos) : (fO (oA P b1 b2 a b tg t rl rn L h k u q)).any Frame.guarded = false := by cases b1 <;> kernel_rfl!
theorem gC_free (P : Params) (b1 b2 : Bool) (a b : Int) (t : Nat → Nat) (rl rn L : Nat) (h : Int) (k : Nat) (u v : Nat → Nat) (q q' : Nat → Pos) (h' : Nat → Int) (k' : Nat → Nat) (n' : Nat) : (fO (outC P b1 b2 S0 a b t rl rn L h k u v q q' h' k' n')).any Frame.guarded = false := by cases b1 <;> kernel_rfl!
section
variable {w : World} {K : Frag} {J : Nat → Array GenState → Prop} {B : Addr → Option Obj} {os : OsState} {dr : Drawn} {d : Nat}
theorem eqS {x y : Int} (t u : Nat) {b : Bool} (h : decide (x = y) = b) : Spec w K d J (.call (.builtin "int.__eq__") ⟨[.int x t, .int y u], []⟩) [] 0 0 (ceEq b).f 0 := by
  have z := spec_eq (w := w) (K := K) (J := J) (d := d + 14) (by omega) 0 t u h
  rwa [Nat.add_sub_cancel] at z
theorem Rel.toB {g : Nat} {St : GenState → Prop} {H : List Ent} {s : Shared} (R : Rel (JG g St) B os dr H 0 s) : Rel JB B os dr H 0 s := ⟨R.own, R.os, R.dr, R.gh.1⟩
noncomputable abbrev f1 (w : World) : Bool := w.params.followText "special-get-raises"
noncomputable abbrev f2 (w : World) : Bool := w.params.followText "comprehension-iter-twice"
/-- between the turns of the loop -/
inductive CutAt (w : World) (B : Addr → Option Obj) (os : OsState) (dr : Drawn) (a b : Int) (tg : Nat) (t : Nat → Nat) (rl rn L g ga : Nat) (nm qn : Value) (i : Nat) (l : List Nat) (ps : List (Str × Nat)) (s : Shared) : Prop
  | c0 (e0 : i = 0) (h : Nat → Int) (k : Nat → Nat) (n : Nat) (tF : Nat) (pm : Nat) (pn : Nat) (Lg : Nat) (hh : Int) (kk : Nat) (R : Rel (JG g fun gs => gs = .fresh (gcd0 w.params Lg)) B os dr [(rl, lsto (rulV a b tg t) rn), (Lg, fro [en hh kk nGrp (.ref rl)] 1), (ga, genO g nm qn), (L, cuF3 h k n rl (.str (mkS l) tF) pm), (pm, lsto (strValues ps) pn)] 0 s)
  | c1 (e0 : i = 1) (h : Nat → Int) (k : Nat → Nat) (n : Nat) (tF : Nat) (pm : Nat) (pn : Nat) (x : Int) (tx : Nat) (Lg : Nat) (hh : Int) (kk : Nat) (u : Nat → Nat) (q : Nat → Pos) (h' : Nat → Int) (k' : Nat → Nat) (n' : Nat) (R : Rel (JG g fun gs => ∃ p, gs = .suspended (kO (oA w.params (f1 w) (f2 w) a b tg t rl rn Lg hh kk u q)) (lO (oA w.params (f1 w) (f2 w) a b tg t rl rn Lg hh kk u q)) (cO (oA w.params (f1 w) (f2 w) a b tg t rl rn Lg hh kk u q)) p (fO (oA w.params (f1 w) (f2 w) a b tg t rl rn Lg hh kk u q)) false) B os dr
    [(rl, lsto (rulV a b tg t) rn), (Lg, grF h' k' n' rl .none (.int a (t 2))), (u 1, lstIt (.ref rl) 1), (ga, genO g nm qn), (L, cuF h k n rl (.str (mkS l) tF) pm (.int x tx)), (pm, lsto (strValues ps) pn)] 0 s)
  | c2 (e0 : i = 2) (h : Nat → Int) (k : Nat → Nat) (n : Nat) (tF : Nat) (pm : Nat) (pn : Nat) (x : Int) (tx : Nat) (Lg : Nat) (hh : Int) (kk : Nat) (u : Nat → Nat) (q : Nat → Pos) (h' : Nat → Int) (k' : Nat → Nat) (n' : Nat) (R : Rel (JG g fun gs => ∃ p, gs = .suspended (kO (oA w.params (f1 w) (f2 w) a b tg t rl rn Lg hh kk u q)) (lO (oA w.params (f1 w) (f2 w) a b tg t rl rn Lg hh kk u q)) (cO (oA w.params (f1 w) (f2 w) a b tg t rl rn Lg hh kk u q)) p (fO (oA w.params (f1 w) (f2 w) a b tg t rl rn Lg hh kk u q)) false) B os dr
    [(rl, lsto (rulV a b tg t) rn), (Lg, grF h' k' n' rl (.int a (t 2)) (.int b (t 3))), (u 1, lstIt (.ref rl) 2), (ga, genO g nm qn), (L, cuF h k n rl (.str (mkS l) tF) pm (.int x tx)), (pm, lsto (strValues ps) pn)] 0 s)
  | c3 (e0 : 3 ≤ i) (e1 : tg = 0) (h : Nat → Int) (k : Nat → Nat) (n : Nat) (tF : Nat) (pm : Nat) (pn : Nat) (x : Int) (tx : Nat) (Lg : Nat) (hh : Int) (kk : Nat) (u : Nat → Nat) (v : Nat → Nat) (q : Nat → Pos) (q' : Nat → Pos) (h' : Nat → Int) (k' : Nat → Nat) (n' : Nat) (R : Rel (JG g fun gs => ∃ p, gs = .suspended (kO (outC w.params (f1 w) (f2 w) S0 a b t rl rn Lg hh kk u v q q' h' k' n')) (lO (outC w.params (f1 w) (f2 w) S0 a b t rl rn Lg hh kk u v q q' h' k' n')) (cO (outC w.params (f1 w) (f2 w) S0 a b t rl rn Lg hh kk u v q q' h' k' n')) p (fO (outC w.params (f1 w) (f2 w) S0 a b t rl rn Lg hh kk u v q q' h' k' n')) false) B os dr
    [(rl, lsto (rulV a b 0 t) rn), (Lg, grF h' k' n' rl (.int b (t 3)) (.int 0 (t 0))), (u 1, lstIt (.ref rl) 3), (ga, genO g nm qn), (L, cuF h k n rl (.str (mkS l) tF) pm (.int x tx)), (pm, lsto (strValues ps) pn)] 0 s)
theorem cut_go {A : Around} {x : Value} {it : Value} {Q : Unit → Shared → Prop} {E : Value → Shared → Prop} {s : Shared} (h : Q () s) : wpAny (Mo w) A (letOwnedTupleGo (cuL w.params).t it x) Q E s := by
  have e : ∀ P, letOwnedTupleGo (cuL P).t it x = pure () := fun P => by kernel_rfl!
  rw [e]; exact wpAny_pure h
theorem Rel.front {Hp rest : List Ent} {j : Nat} {s : Shared} (R : Rel J B os dr (Hp ++ rest) j s) : Rel J B os dr Hp j s := by
  have := R.pick (allT Hp)
  rwa [splitM_front] at this
noncomputable def CutI (w : World) (B : Addr → Option Obj) (os : OsState) (dr : Drawn) (a b : Int) (ya yb tg : Nat) (t : Nat → Nat) (rl rn L g ga : Nat) (nm qn : Value) (res : List Nat × List (List Nat)) (m : Nat) (s : Shared) : Prop :=
  ∃ i l ps pr, l.length < m ∧ ps.length + l.length ≤ 7 ∧ ps.map (·.1) = pr.map mkS ∧ cutL ya yb tg m i l pr = res ∧ CutAt w B os dr a b tg t rl rn L g ga nm qn i l ps s
theorem cut_step {A : Around} {a b : Int} {ya yb tg : Nat} {t : Nat → Nat} {rl rn L g ga : Nat} {nm qn : Value} {res : List Nat × List (List Nat)} {s : Shared} {R : Result → Shared → Prop} {St : GenState → Prop} {rest : List Ent} {h : Nat → Int} {k : Nat → Nat} {n tF pm pn tx m i y : Nat} {x : Int} {l : List Nat} {ps : List (Str × Nat)} {pr : List (List Nat)} {E : Value → Shared → Prop}
    (hA : AOk (d - 14) A) (hd : 15 ≤ d) (hK : KIn (KP w.params) B) (hx : x = y) (hy1 : 1 ≤ y) (hy3 : y ≤ 3) (hy : yAt ya yb tg i = some y)
    (hm : l.length < m + 1) (hlen : ps.length + l.length ≤ 7) (hpr : ps.map (·.1) = pr.map mkS) (hres : cutL ya yb tg (m + 1) i l pr = res)
    (hR : ∀ h k n tF pm pn x tx ps s', ps.length ≤ 7 → res.1.length ≤ 7 → ps.map (·.1) = res.2.map mkS → Rel JB B os dr [(L, cuF h k n rl (.str (mkS res.1) tF) pm (.int x tx)), (pm, lsto (strValues ps) pn), (rl, lsto (rulV a b tg t) rn)] 0 s' → R (.ok .next) s')
    (Rl : Rel (JG g St) B os dr ((L, cuF h k n rl (.str (mkS l) tF) pm (.int x tx)) :: (pm, lsto (strValues ps) pn) :: (rl, lsto (rulV a b tg t) rn) :: rest) 0 s)
    (next : ∀ l' ps' t2 pm' s', Rel (JG g St) B os dr ((L, cuF h k n rl (.str (mkS l') t2) pm' (.int x tx)) :: (pm', lsto (strValues ps') 0) :: (rl, lsto (rulV a b tg t) rn) :: rest) 0 s' → CutAt w B os dr a b tg t rl rn L g ga nm qn (i + 1) l' ps' s') :
    wpAny (Mo w) A (execs (cuL w.params).b (envAt w.params 94 L)) (fun f s₃ => match f with
            | .next | .cont => ∃ m', m' < m + 1 ∧ CutI w B os dr a b ya yb tg t rl rn L g ga nm qn res m' s₃
            | .brk => R (.ok .next) s₃
            | .ret v => R (.ok (.ret v)) s₃) E s := by
  refine cut_do hA (by omega) hK hx hy1 hy3 (by omega) (by omega) Rl (fun he s' R' => ?_) fun he t1 t2 pm' s' R' => ?_
  · subst he
    have e : res = ([], pr) := by rw [← hres]; unfold cutL; rw [hy]
    subst e
    exact hR h k n tF pm pn x tx ps s' (by omega) (by simp) hpr (Rel.front (Hp := [_, _, _]) R').toB
  · cases l with
    | nil => exact absurd rfl he
    | cons z l =>
      refine ⟨m, by omega, i + 1, _, _, (z :: l).drop ((z :: l).length - y) :: pr, ?_, ?_, ?_, ?_, next _ _ _ _ _ R'⟩
      · rw [List.length_take]; simp only [List.length_cons] at hm ⊢; omega
      · rw [List.length_take]; simp only [List.length_cons] at hlen ⊢; omega
      · rw [List.map_cons, List.map_cons, hpr]
      · rw [← hres]
        conv => rhs; unfold cutL
        rw [hy]
theorem cut_loop {A : Around} {a b : Int} {ya yb tg : Nat} {t : Nat → Nat} {rl rn L g ga : Nat} {nm qn : Value} {l₀ : List Nat} {s : Shared} {R : Result → Shared → Prop}
    (hA : AOk (d - 15) A) (hd : 15 ≤ d) (hd9 : d ≤ 900) (hK : KIn (KP w.params) B) (ha : a = ya) (ha1 : 1 ≤ ya) (ha3 : ya ≤ 3) (hb : b = yb) (hb1 : 1 ≤ yb) (hb3 : yb ≤ 3) (htg : tg ≤ 2) (hl₀ : l₀.length ≤ 7)
    (h0 : CutAt w B os dr a b tg t rl rn L g ga nm qn 0 l₀ [] s)
    (hR : ∀ h k n tF pm pn x tx ps s', ps.length ≤ 7 → (cutL ya yb tg 8 0 l₀ []).1.length ≤ 7 → ps.map (·.1) = (cutL ya yb tg 8 0 l₀ []).2.map mkS → Rel JB B os dr [(L, cuF h k n rl (.str (mkS (cutL ya yb tg 8 0 l₀ []).1) tF) pm (.int x tx)), (pm, lsto (strValues ps) pn), (rl, lsto (rulV a b tg t) rn)] 0 s' → R (.ok .next) s') :
    codeAny (Mo w) A (.forLoop (cuL w.params).t (.ref ga) (cuL w.params).b [] (envAt w.params 94 L)) R s := by
  have hA' : AOk (d - 14) A := ⟨hA.1, by have := hA.2.1; omega, by have := hA.2.2; omega⟩
  have na : ∀ (z : Int), 4 ≤ z ∨ z = 0 → decide (a = z) = false := fun z hz => decide_eq_false (by omega)
  have nb : ∀ (z : Int), 4 ≤ z ∨ z = 0 → decide (b = z) = false := fun z hz => decide_eq_false (by omega)
  refine codeAny_forLoop_any (CutI w B os dr a b ya yb tg t rl rn L g ga nm qn (cutL ya yb tg 8 0 l₀ [])) ?_ 8 ⟨0, l₀, [], [], by omega, by simpa using hl₀, rfl, rfl, h0⟩
  rintro m s ⟨i, l, ps, pr, hm, hlen, hpr, hres, hs⟩
  obtain ⟨m, rfl⟩ : ∃ m', m = m' + 1 := ⟨m - 1, by omega⟩
  rcases hs with ⟨rfl, h, k, n, tF, pm, pn, Lg, hh, kk, Rl⟩ | ⟨rfl, h, k, n, tF, pm, pn, x, tx, Lg, hh, kk, u, q, h', k', n', Rl⟩ | ⟨rfl, h, k, n, tF, pm, pn, x, tx, Lg, hh, kk, u, q, h', k', n', Rl⟩ | ⟨hi, rfl, h, k, n, tF, pm, pn, x, tx, Lg, hh, kk, u, v, q, q', h', k', n', Rl⟩
  · refine gen_susp (fT_eq w) hA hd hd9 hK (lim2 _) (Hp := [_, _]) Rl (fun gs hgs => .inl ⟨hgs, rfl, rfl⟩) (fun J' u q => seg_A w.params _ _ _ a b tg t rl rn Lg hh kk u q) (fun J' u q => okD_of _ _ _ _ ⟨specEq (na _ (by omega)), specEq (na _ (by omega)), trivial⟩ trivial) (fun u q => gA_free ..) fun u q s₁ R₁ => ?_
    dsimp only
    refine cut_go ?_
    refine assign_front2 rfl hA' (by omega) hK (Hp := [_]) (R₁.perm (List.perm_append_comm (l₁ := [_, _, _, _]) (l₂ := [_, _]))) (fun v => cut_a0 w.params _ h k n rl pm L tF (mkS l) a (t 2) v) (fun v => okD_of _ _ _ _ trivial trivial) fun v s₂ R₂ => ?_
    refine cut_step (rest := [_, _, _]) hA' hd hK ha ha1 ha3 rfl hm hlen hpr hres hR R₂ fun l' ps' t2 pm' s' R' => .c1 rfl _ _ _ _ _ _ _ _ Lg hh kk u q _ _ _ (R'.perm (List.perm_append_comm (l₁ := [_, _]) (l₂ := [_, _, _, _])))
  · refine gen_susp (fT_eq w) hA hd hd9 hK (lim2 _) (Hp := [_, _, _]) Rl (fun gs hgs => .inr (hgs.elim fun p e => ⟨_, _, p, _, e, rfl⟩)) (fun J' v q' => seg_B w.params _ _ _ a b tg t rl rn Lg hh kk u v q q' h' k' n') (fun J' v q' => okD_of _ _ _ _ ⟨specEq (nb _ (by omega)), specEq (nb _ (by omega)), trivial⟩ trivial) (fun v q' => gA_free ..) fun v q' s₁ R₁ => ?_
    dsimp only
    refine cut_go ?_
    refine assign_front2 rfl hA' (by omega) hK (Hp := [_]) (R₁.perm (List.perm_append_comm (l₁ := [_, _, _, _]) (l₂ := [_, _]))) (fun v => cut_a1 w.params _ h k n rl pm L tF (mkS l) b x (t 3) tx v) (fun v => okD_of _ _ _ _ trivial trivial) fun v s₂ R₂ => ?_
    refine cut_step (rest := [_, _, _]) hA' hd hK hb hb1 hb3 rfl hm hlen hpr hres hR R₂ fun l' ps' t2 pm' s' R' => .c2 rfl _ _ _ _ _ _ _ _ Lg hh kk u q _ _ _ (R'.perm (List.perm_append_comm (l₁ := [_, _]) (l₂ := [_, _, _, _])))
  · rcases tg with _ | _ | _ | tg
    · refine gen_susp (fT_eq w) hA hd hd9 hK (lim2 _) (Hp := [_, _, _]) Rl (fun gs hgs => .inr (hgs.elim fun p e => ⟨_, _, p, _, e, rfl⟩)) (fun J' v q' => seg_Czero w.params _ _ _ a b t rl rn Lg hh kk u v q q' h' k' n') (fun J' v q' => okD_of _ _ _ _ ⟨specEq (by decide), specEq (by decide), trivial⟩ trivial) (fun v q' => gC_free ..) fun v q' s₁ R₁ => ?_
      dsimp only
      refine cut_go ?_
      refine assign_front2 rfl hA' (by omega) hK (Hp := [_]) (R₁.perm (List.perm_append_comm (l₁ := [_, _, _, _]) (l₂ := [_, _]))) (fun z => cut_a1 w.params _ h k n rl pm L tF (mkS l) b x (t 3) tx z) (fun z => okD_of _ _ _ _ trivial trivial) fun z s₂ R₂ => ?_
      refine cut_step (rest := [_, _, _]) hA' hd hK hb hb1 hb3 rfl hm hlen hpr hres hR R₂ fun l' ps' t2 pm' s' R' => .c3 (by omega) rfl _ _ _ _ _ _ _ _ Lg hh kk u v q q' h' k' n' (R'.perm (List.perm_append_comm (l₁ := [_, _]) (l₂ := [_, _, _, _])))
    · refine gen_ret (fT_eq w) hA hd hd9 hK (lim2 _) (Hp := [_, _, _]) Rl (fun gs hgs => .inr (hgs.elim fun p e => ⟨_, _, p, _, e, rfl⟩)) (fun J' v q' => seg_Cmax w.params _ _ _ a b t rl rn Lg hh kk u v q q' h' k' n') (fun J' v q' => okD_of _ _ _ _ ⟨specEq (by decide), trivial⟩ trivial) fun v q' s₁ R₁ => ?_
      have e : cutL ya yb 1 8 0 l₀ [] = (l, pr) := by rw [← hres]; rfl
      rw [e] at hR
      exact wpAny_execs_nil (hR h k n tF pm pn x tx ps s₁ (by omega) (by show l.length ≤ 7; omega) hpr (Rel.front (Hp := [_, _, _]) (R₁.perm (List.perm_append_comm (l₁ := [_, _]) (l₂ := [_, _])))).toB)
    · refine gen_ret (fT_eq w) hA hd hd9 hK (lim2 _) (Hp := [_, _, _]) Rl (fun gs hgs => .inr (hgs.elim fun p e => ⟨_, _, p, _, e, rfl⟩)) (fun J' v q' => seg_Cnil w.params _ _ _ a b t rl rn Lg hh kk u v q q' h' k' n') (fun J' v q' => okD_of _ _ _ _ trivial trivial) fun v q' s₁ R₁ => ?_
      have e : cutL ya yb 2 8 0 l₀ [] = (l, pr) := by rw [← hres]; rfl
      rw [e] at hR
      exact wpAny_execs_nil (hR h k n tF pm pn x tx ps s₁ (by omega) (by show l.length ≤ 7; omega) hpr (Rel.front (Hp := [_, _, _]) (R₁.perm (List.perm_append_comm (l₁ := [_, _]) (l₂ := [_, _])))).toB)
    · omega
  · refine gen_susp (fT_eq w) hA hd hd9 hK (lim2 _) (Hp := [_, _, _]) Rl (fun gs hgs => .inr (hgs.elim fun p e => ⟨_, _, p, _, e, rfl⟩)) (fun J' z y => seg_D w.params _ _ _ a b t rl rn Lg hh kk u v q q' h' k' n' z y) (fun J' z y => okD_of _ _ _ _ trivial trivial) (fun z y => gC_free ..) fun z y s₁ R₁ => ?_
    dsimp only
    refine cut_go ?_
    refine assign_front2 rfl hA' (by omega) hK (Hp := [_]) (R₁.perm (List.perm_append_comm (l₁ := [_, _, _, _]) (l₂ := [_, _]))) (fun z => cut_a1 w.params _ h k n rl pm L tF (mkS l) b x (t 3) tx z) (fun z => okD_of _ _ _ _ trivial trivial) fun z s₂ R₂ => ?_
    have hy : yAt ya yb 0 i = some yb := by
      rcases i with _ | _ | i
      · omega
      · omega
      · rfl
    refine cut_step (rest := [_, _, _]) hA' hd hK hb hb1 hb3 hy hm hlen hpr hres hR R₂ fun l' ps' t2 pm' s' R' => .c3 (by omega) rfl _ _ _ _ _ _ _ _ Lg hh kk u v q q' h' k' n' (R'.perm (List.perm_append_comm (l₁ := [_, _]) (l₂ := [_, _, _, _])))
end
end Mine
end
-- V10
section
open PySem PySem.Spec PySem.Calls PyProof.Rows PySem.W PySem.W.X
namespace Mine
noncomputable def ct94 : Nat := 2 * (1 + 64 + 64 * 64 + 64 * 64 * 64)
theorem ent94r (P : Params) (S : ST) (j rl : Nat) (o : Obj) (v v' : Value) (u : Nat → Nat) : trimO [true, true] (run P (KP P) S 40 c0 none 0 [] (entZ (fd P 94) 94 (bd P 94) [(nRul, v), (nFig, v')]) [(rl, o)] j (mkU 3 u) ct94 [] True) =
  some ⟨.fin (.again (.func (bd P 94) (envAt P 94 (u 0)))), [(rl, o), (u 0, fro [en (hs P nRul) (u 1) nRul v, en (hs P nFig) (u 2) nFig v'] 2)], j, okD 4 ct94 [rl, u 0] [] True⟩ := by kernel_rfl!
theorem gen_it (P : Params) (b1 b2 : Bool) (S : ST) (ga g : Nat) (nm qn : Value) (u : Nat → Nat) : trimO [true] (run (ftP P b1 b2) (KP P) S 20 c0 none 0 [] (iterZ (.ref ga)) [(ga, genO g nm qn)] 0 (mkU 0 u) 17039425 [] True) =
  some ⟨.fin (.done (.ret (.ref ga))), [(ga, genO g nm qn)], 0, okD 5 17039425 [ga] [] True⟩ := by cases b1 <;> kernel_rfl!
noncomputable def cutP (ya yb tg : Nat) (l : List Nat) : List (List Nat) := match cutL ya yb tg 8 0 l [] with
  | ([], ps) => ps
  | (r, ps) => r :: ps
noncomputable def glue : List (List Nat) → List Nat
  | [] => []
  | [x] => x
  | x :: xs => x ++ 44 :: glue xs
noncomputable def cutS (ya yb tg : Nat) (l : List Nat) : Str := joinS comma ((cutP ya yb tg l).map fun x => (mkS x, 0))
theorem joinS_map (sep : Str) (l l' : List (Str × Nat)) (h : l.map (·.1) = l'.map (·.1)) : joinS sep l = joinS sep l' := by
  rcases l with _ | ⟨p, _ | ⟨q, l⟩⟩
  · cases l' with
    | nil => rfl
    | cons x l' => cases h
  · rcases l' with _ | ⟨p', _ | ⟨q', l'⟩⟩
    · cases h
    · simp only [List.map_cons, List.map_nil, List.cons.injEq, and_true] at h
      exact h
    · simp at h
  · rcases l' with _ | ⟨p', _ | ⟨q', l'⟩⟩
    · cases h
    · simp at h
    · show Builtin.Str.glued sep _ = Builtin.Str.glued sep _
      rw [h]
end Mine
end
-- V11
section
open PySem PySem.Spec PySem.Calls PyProof.Rows PySem.W PySem.W.X
namespace Mine
theorem fold_len (g : Nat) : ∀ (L : List Str) (acc : Nat), (∀ x ∈ L, x.length ≤ 7) → L.foldl (fun a x => a + x.length + g) acc ≤ acc + L.length * (7 + g)
  | [], acc, _ => by simp
  | x :: L, acc, h => by
    have h1 := h x (.head _)
    have := fold_len g L (acc + x.length + g) fun y hy => h y (.tail _ hy)
    rw [List.foldl_cons, List.length_cons, Nat.succ_mul]
    omega
theorem fold_app (g : Array Nat) : ∀ (L : List Str) (acc : Array Nat), (∀ x ∈ L, x.length ≤ 7) → (L.foldl (fun acc p => acc ++ g ++ p.cps) acc).size ≤ acc.size + L.length * (7 + g.size)
  | [], acc, _ => by simp
  | x :: L, acc, h => by
    have h1 : x.cps.size ≤ 7 := h x (.head _)
    have := fold_app g L (acc ++ g ++ x.cps) fun y hy => h y (.tail _ hy)
    rw [List.foldl_cons, List.length_cons, Nat.succ_mul]
    rw [Array.size_append, Array.size_append] at this
    omega
theorem join_len {l : List (Str × Nat)} (h8 : l.length ≤ 8) (h : ∀ x ∈ l.map (·.1), x.length ≤ 7) : (joinS comma l).length ≤ sizeLine ∧ Builtin.Str.tooLong ((l.map (·.1)).toArray.foldl (· + ·.length + comma.length) 0) = false := by
  refine ⟨?_, ?_⟩
  · rw [sizeLine_eq]
    rcases l with _ | ⟨p, _ | ⟨q, l⟩⟩
    · show (0 : Nat) ≤ _; omega
    · have := h p.1 (.head _)
      show p.1.length ≤ _; omega
    · have h1 : p.1.cps.size ≤ 7 := h p.1 (.head _)
      have := fold_app comma.cps ((q :: l).map (·.1)) p.1.cps fun y hy => h y (.tail _ hy)
      rw [List.length_map, show comma.cps.size = 1 from rfl] at this
      simp only [List.length_cons] at h8 this
      show Array.size (List.foldl _ p.1.cps ((q :: l).map (·.1))) ≤ _
      omega
  · unfold Builtin.Str.tooLong
    rw [List.foldl_toArray]
    have := fold_len comma.length (l.map (·.1)) 0 h
    rw [List.length_map, show comma.length = 1 from rfl] at this
    rw [show comma.length = 1 from rfl, sizeLine_eq]
    exact decide_eq_false (by omega)
theorem cutL_len (a b tg : Nat) : ∀ (f i : Nat) (l : List Nat) (ps : List (List Nat)), l.length ≤ 7 → (∀ x ∈ ps, x.length ≤ 7) → (cutL a b tg f i l ps).1.length ≤ 7 ∧ ∀ x ∈ (cutL a b tg f i l ps).2, x.length ≤ 7
  | 0, _, l, ps, h1, h2 => ⟨h1, h2⟩
  | f + 1, i, l, ps, h1, h2 => by
    unfold cutL
    cases yAt a b tg i with
    | none => exact ⟨h1, h2⟩
    | some y =>
      cases l with
      | nil => exact ⟨h1, h2⟩
      | cons x r =>
        refine cutL_len a b tg f (i + 1) _ _ ?_ ?_
        · rw [List.length_take]; omega
        · intro z hz
          rcases List.mem_cons.mp hz with rfl | hz
          · rw [List.length_drop]; omega
          · exact h2 z hz
section
variable {w : World} {B : Addr → Option Obj} {os : OsState} {dr : Drawn} {d : Nat}
theorem map_mkS (l : List (List Nat)) : (l.map fun x => (mkS x, 0)).map (·.1) = l.map mkS := by rw [List.map_map]; rfl
noncomputable def cutF (ya yb tg : Nat) (l : List Nat) (rl : Nat) (o : Obj) : CFn := fun us => (.ok (.ret (.str (cutS ya yb tg l) (getU us 0))), [(rl, o)])
set_option maxHeartbeats 4000000 in
theorem specCut (hd : d ≤ 860) {a b : Int} {ya yb tg : Nat} {t : Nat → Nat} {rl rn tF : Nat} {l : List Nat} (ha : a = ya) (ha1 : 1 ≤ ya) (ha3 : ya ≤ 3) (hb : b = yb) (hb1 : 1 ≤ yb) (hb3 : yb ≤ 3) (htg : tg ≤ 2) (hl : l.length ≤ 7) :
    Spec w (KP w.params) d JB (.call (.ref 94) ⟨[.ref rl, .str (mkS l) tF], []⟩) [(rl, lsto (rulV a b tg t) rn)] 0 1 (cutF ya yb tg l rl (lsto (rulV a b tg t) rn)) 0 := by
  have key : Spec w (KP w.params) (d + 16 - 16) JB (.call (.ref 94) ⟨[.ref rl, .str (mkS l) tF], []⟩) [(rl, lsto (rulV a b tg t) rn)] 0 1 (cutF ya yb tg l rl (lsto (rulV a b tg t) rn)) 0 := by
    refine fn_spec rfl (seen94 _).ok (bind94 _ _ _) (by omega) (by omega) (fun u => ent94r w.params _ 0 _ _ _ _ u) (fun u => okD_of _ _ _ _ trivial trivial) fun u A B os dr s R hA hK Rl hR => ?_
    have hA' := hA.deeper (by omega) (envAt w.params 94 (u 0))
    have hA5 : AOk (d + 18 - 16) (A.deeper (envAt w.params 94 (u 0))) := ⟨hA'.1, by have := hA'.2.1; omega, by have := hA'.2.2; omega⟩
    have hA6 : AOk (d + 17 - 15) (A.deeper (envAt w.params 94 (u 0))) := ⟨hA'.1, by have := hA'.2.1; omega, by have := hA'.2.2; omega⟩
    refine codeAny_func ?_
    rw [cut_body]
    refine execs_app _ _ (flow_front2 rfl hA' (by omega) hK (Hp := [_]) (Rl.perm (List.perm_append_comm (l₁ := [_]) (l₂ := [_]))) (fun v => cut_p w.params _ _ _ _ _ (u 0) _ _ v) (fun v => okD_of _ _ _ _ trivial trivial) fun v s₁ R₁ => ?_)
    refine execs_app _ _ (wpAny_execs_cons ?_)
    rw [cut_for]
    refine wpAny_For ?_ (fun x => cut_iter _ _ x)
    rw [cut_call]
    refine wpAny_Call_NameR ?_
    refine val_front2 rfl hA' (by omega) hK (Hp := []) R₁ (fun v1 => cut_fn w.params _ (u 0) v1) (fun v1 => trivial) fun v1 s₂ R₂ => ?_
    rw [cut_args]
    have G := seen21 w.params
    refine callWith_function_kw (o := objAt (KP w.params) 21) (fd := fd w.params 21) (evalArgs_kw rfl (Calls.spliced_cons ?_))
    refine val_front2 rfl hA' (by omega) hK (Hp := [_]) R₂ (fun v2 => cut_arg w.params _ (fun i => match i with | 0 => hs w.params nRul | 1 => hs w.params nFig | _ => hs w.params nPie) (fun i => match i with | 0 => u 1 | 1 => u 2 | _ => v 1) 3 rl (v 0) (u 0) (.str (mkS l) tF) v2) (fun v2 => okD_of _ _ _ _ trivial trivial) fun v2 s₃ R₃ => ?_
    refine Calls.spliced_nil (wpAny_evalAll_nil ⟨⟨R₃.top hK G.a1, G.a2⟩, ?_⟩)
    refine wpAny_mono (gen_made (d := d + 18) hA5 (by omega) (by omega) hK R₃ fun g Lg k ga nm qn s₄ R₄ => ?_) (fun _ _ q => q) fun _ _ q => q.elim
    refine iter_front2 (fT_eq w) hA' (by omega) hK (Hp := [_]) (R₄.perm (List.perm_append_comm (l₁ := [_, _, _, _]) (l₂ := [_]))) (fun v3 => gen_it w.params _ _ _ ga g nm qn v3) (fun v3 => okD_of _ _ _ _ trivial trivial) fun v3 s₅ R₅ => ?_
    refine cut_loop (d := d + 17) hA6 (by omega) (by omega) hK ha ha1 ha3 hb hb1 hb3 htg hl (.c0 rfl _ _ _ _ _ _ Lg _ k (R₅.perm (List.perm_append_comm (l₁ := [_, _, _]) (l₂ := [_, _])))) fun h' k' n' tF' pm pn x tx ps s₆ hp7 hr7 hps R₆ => ?_
    refine wpAny_execs_nil ?_
    obtain ⟨vv, hv⟩ := mkV_of (strValues ps)
    have hlen : (strValues ps).length ≤ 7 := by rw [strValues, List.length_map]; exact hp7
    generalize (strValues ps).length = m at hv hlen
    have hb7 := cutL_len ya yb tg 8 0 l [] hl (by simp)
    have hall : ∀ y ∈ ps.map (·.1), y.length ≤ 7 := by
      rw [hps]; intro y hy
      obtain ⟨z, hz, rfl⟩ := List.mem_map.mp hy
      exact hb7.2 z hz
    rw [hv] at R₆
    by_cases he : (cutL ya yb tg 8 0 l []).1 = []
    · have eG : joinS comma ps = cutS ya yb tg l := joinS_map _ _ _ (by
        rw [map_mkS, hps]; unfold cutP
        generalize cutL ya yb tg 8 0 l [] = c at he
        obtain ⟨c1, c2⟩ := c
        cases he; rfl)
      have bd8 := join_len (l := ps) (by omega) hall
      have sp : ∀ v4 : Nat → Nat, Spec w (KP w.params) (d + 16) JB (.call (.builtin "str.join") ⟨[.str comma (v4 0), .ref (v4 3)], []⟩) [(v4 3, lsto (mkV m vv) 0)] 0 1 (ceJn m3 (cutS ya yb tg l)).f 0 := fun v4 => by
        have z := specJn (w := w) (K := KP w.params) (J := JB) (d := d + 16) 0 comma (v4 0) (v4 3) 0 _ m3 eG bd8.2 (eG ▸ bd8.1)
        rw [hv] at z
        exact z
      refine flow_front2 (fT_eq w) hA' (by omega) hK (Hp := [_, _]) R₆ (fun v4 => cut_e m hlen w.params _ _ _ h' k' n' rl _ (cutS ya yb tg l) tF' pm pn (u 0) vv x tx v4) (fun v4 => okD_of _ _ _ _ ⟨specSNe 0 tF' (v4 1) (by rw [he]; rfl), sp v4, trivial⟩ trivial) fun v4 s₇ R₇ => hR [v4 4] s₇ rfl R₇
    · have eG : joinS comma ((mkS (cutL ya yb tg 8 0 l []).1, tF') :: ps) = cutS ya yb tg l := joinS_map _ _ _ (by
        rw [map_mkS, List.map_cons, hps]; unfold cutP
        generalize cutL ya yb tg 8 0 l [] = c at he
        obtain ⟨c1, c2⟩ := c
        cases c1 with
        | nil => exact absurd rfl he
        | cons z c1 => rfl)
      have bd8 := join_len (l := (mkS (cutL ya yb tg 8 0 l []).1, tF') :: ps) (by simp only [List.length_cons]; omega) (by
        intro y hy
        rw [List.map_cons] at hy
        rcases List.mem_cons.mp hy with rfl | hy
        · exact hr7
        · exact hall y hy)
      have hne : ((mkS (cutL ya yb tg 8 0 l []).1).cps.toList != eS.cps.toList) = true := by
        show ((cutL ya yb tg 8 0 l []).1 != []) = true
        cases hc : (cutL ya yb tg 8 0 l []).1 with
        | nil => exact absurd hc he
        | cons z c1 => rfl
      have ev : strValues ((mkS (cutL ya yb tg 8 0 l []).1, tF') :: ps) = .str (mkS (cutL ya yb tg 8 0 l []).1) tF' :: mkV m vv := by rw [← hv]; rfl
      have sp : ∀ v4 : Nat → Nat, Spec w (KP w.params) (d + 16) JB (.call (.builtin "str.join") ⟨[.str comma (v4 0), .ref (v4 3)], []⟩) [(v4 3, lsto (.str (mkS (cutL ya yb tg 8 0 l []).1) tF' :: mkV m vv) 0)] 0 1 (ceJn m3 (cutS ya yb tg l)).f 0 := fun v4 => by
        have z := specJn (w := w) (K := KP w.params) (J := JB) (d := d + 16) 0 comma (v4 0) (v4 3) 0 _ m3 eG bd8.2 (eG ▸ bd8.1)
        rw [ev] at z
        exact z
      refine flow_front2 (fT_eq w) hA' (by omega) hK (Hp := [_, _]) R₆ (fun v4 => cut_n m hlen w.params _ _ _ h' k' n' rl _ (cutS ya yb tg l) tF' pm pn (u 0) vv x tx v4) (fun v4 => okD_of _ _ _ _ ⟨specSNe 0 tF' (v4 1) hne, sp v4, trivial⟩ trivial) fun v4 s₇ R₇ => hR [v4 4] s₇ rfl R₇
  rwa [Nat.add_sub_cancel] at key
end
end Mine
end
-- V12
section
open PySem PySem.Spec PySem.Calls PyProof.Rows PySem.W PySem.W.X
namespace Mine
noncomputable def nN : Str := ⟨⟨[110]⟩⟩
noncomputable def ceMod (v : Int) : CE := ⟨some "int.__mod__", [], 1, fun us => (.ok (.ret (.int v (getU us 0))), []), 0, noH⟩
theorem mod3_seg (P : Params) (K : Frag) (S : ST) (j : Nat) (x : Int) (t u : Nat) (v : Nat → Nat) : trimO [] (run P K S 30 c0 none 0 [] (runT (.call (.builtin "int.__mod__") ⟨[.int x t, .int 3 u], []⟩)) [] j (mkU 1 v) 0 [] True) =
    some ⟨.fin (.done (.ret (.int (Z.modQ x 3) (v 0)))), [], j, True⟩ := by kernel_rfl!
theorem specMod3 {w : World} {K : Frag} {J : Nat → Array GenState → Prop} {d j : Nat} {x v : Int} (t u : Nat) (h : Int.fmod x 3 = v) : Spec w K d J (.call (.builtin "int.__mod__") ⟨[.int x t, .int 3 u], []⟩) [] j 1 (ceMod v).f j := by
  have z : Spec w K (d + 14 - 14) J (.call (.builtin "int.__mod__") ⟨[.int x t, .int 3 u], []⟩) [] j 1 (ceMod v).f j := by
    refine spec_seg rfl (by omega) (m := []) (L := 1) (ct := 0) (n := 30) (ces := []) fun y => ⟨_, [y 0], mod3_seg _ _ _ _ _ _ _ y, trivial, rfl, ?_, rfl, rfl⟩
    rw [← Z.modQ_eq, h]; rfl
  rwa [Nat.add_sub_cancel] at z
theorem rul_0 (P : Params) (b1 b2 : Bool) (S : ST) (h : Int) (k L t0 : Nat) (n a b : Int) (u : Nat → Nat) :
    trimO [false, false, false, false, false, false, true] (run (ftP P b1 b2) (KP P) S 109 c0 none 0 [] (flowZ (bd P 82) (envAt P 82 L)) [(L, fro [en h k nN (.int n t0)] 1)] 0 (mkU 23 u) 67615637620363696191039746094712835392409537 [ceMod a, ceMod b, ceMod 0] True) =
    some ⟨.fin (.done (.ret (.ref (u 22)))), [(u 22, lsto [.int (1 + a) (u 3), .int (1 + b) (u 9), .int 0 (u 11)] 0)], 0, okD 25 67615637620363696191039746094712835392409537 [L, u 10, u 12, u 15, u 16, u 17, u 22]
      [(S (.call (.builtin "int.__mod__") ⟨[.int n t0, .int 3 (u 1)], []⟩) [] 0 1 (ceMod a).f 0, id), (S (.call (.builtin "int.__mod__") ⟨[.int (Z.divQ n 3) (u 6), .int 3 (u 7)], []⟩) [] 0 1 (ceMod b).f 0, id), (S (.call (.builtin "int.__mod__") ⟨[.int (Z.divQ n 9) (u 19), .int 3 (u 20)], []⟩) [] 0 1 (ceMod 0).f 0, id)] True⟩ := by cases b1 <;> kernel_rfl!
theorem rul_1 (P : Params) (b1 b2 : Bool) (S : ST) (h : Int) (k L t0 : Nat) (n a b : Int) (u : Nat → Nat) :
    trimO [false, false, false, false, false, false, true] (run (ftP P b1 b2) (KP P) S 109 c0 none 0 [] (flowZ (bd P 82) (envAt P 82 L)) [(L, fro [en h k nN (.int n t0)] 1)] 0 (mkU 23 u) 89921827337089572901649305087863261210349505 [ceMod a, ceMod b, ceMod 1] True) =
    some ⟨.fin (.done (.ret (.ref (u 22)))), [(u 22, lsto [.int (1 + a) (u 3), .int (1 + b) (u 9), .int 127 (u 13), .int 2 (u 14)] 0)], 0, okD 25 89921827337089572901649305087863261210349505 [L, u 10, u 12, u 15, u 16, u 17, u 22]
      [(S (.call (.builtin "int.__mod__") ⟨[.int n t0, .int 3 (u 1)], []⟩) [] 0 1 (ceMod a).f 0, id), (S (.call (.builtin "int.__mod__") ⟨[.int (Z.divQ n 3) (u 6), .int 3 (u 7)], []⟩) [] 0 1 (ceMod b).f 0, id), (S (.call (.builtin "int.__mod__") ⟨[.int (Z.divQ n 9) (u 19), .int 3 (u 20)], []⟩) [] 0 1 (ceMod 1).f 0, id)] True⟩ := by cases b1 <;> kernel_rfl!
theorem rul_2 (P : Params) (b1 b2 : Bool) (S : ST) (h : Int) (k L t0 : Nat) (n a b : Int) (u : Nat → Nat) :
    trimO [false, false, false, false, false, false, true] (run (ftP P b1 b2) (KP P) S 109 c0 none 0 [] (flowZ (bd P 82) (envAt P 82 L)) [(L, fro [en h k nN (.int n t0)] 1)] 0 (mkU 23 u) 112228017053815449612258864081013687028289473 [ceMod a, ceMod b, ceMod 2] True) =
    some ⟨.fin (.done (.ret (.ref (u 22)))), [(u 22, lsto [.int (1 + a) (u 3), .int (1 + b) (u 9)] 0)], 0, okD 25 112228017053815449612258864081013687028289473 [L, u 10, u 12, u 15, u 16, u 17, u 22]
      [(S (.call (.builtin "int.__mod__") ⟨[.int n t0, .int 3 (u 1)], []⟩) [] 0 1 (ceMod a).f 0, id), (S (.call (.builtin "int.__mod__") ⟨[.int (Z.divQ n 3) (u 6), .int 3 (u 7)], []⟩) [] 0 1 (ceMod b).f 0, id), (S (.call (.builtin "int.__mod__") ⟨[.int (Z.divQ n 9) (u 19), .int 3 (u 20)], []⟩) [] 0 1 (ceMod 2).f 0, id)] True⟩ := by cases b1 <;> kernel_rfl!
end Mine
end
-- V13
section
open PySem PySem.Spec PySem.Calls PyProof.Rows PySem.W PySem.W.X
namespace Mine
theorem seen82 (P : Params) : FnSeen P 82 81 := ⟨by kernel_rfl!, by kernel_rfl!, by kernel_rfl!, by kernel_rfl!, by kernel_rfl!, by kernel_rfl!, by kernel_rfl!, by kernel_rfl!, by kernel_rfl!⟩
theorem bind82 (P : Params) (v : Value) : bindArgs (fd P 82) ⟨[v], []⟩ = .pure [(nN, v)] := bind_of (by kernel_rfl!)
theorem ent82 (P : Params) (S : ST) (j : Nat) (v : Value) (u : Nat → Nat) : trimO [true] (run P (KP P) S 40 c0 none 0 [] (entZ (fd P 82) 82 (bd P 82) [(nN, v)]) [] j (mkU 2 u) (1 + 64) [] True) =
  some ⟨.fin (.again (.func (bd P 82) (envAt P 82 (u 0)))), [(u 0, fro [en (hs P nN) (u 1) nN v] 1)], j, okD 2 (1 + 64) [u 0] [] True⟩ := by kernel_rfl!
/-- a ruler's parts -/
noncomputable def rA (n : Int) : Int := 1 + Int.fmod n 3
noncomputable def rB (n : Int) : Int := 1 + Int.fmod (Int.fdiv n 3) 3
noncomputable def rT (n : Int) : Nat := (Int.fmod (Int.fdiv n 9) 3).toNat
noncomputable def rulFn (n : Int) : CFn := fun us => (.ok (.ret (.ref (getU us 4))), [(getU us 4, lsto (rulV (rA n) (rB n) (rT n) (getU us)) 0)])
section
variable {w : World} {J : Nat → Array GenState → Prop} {d : Nat}
theorem fmod3 (x : Int) : Int.fmod x 3 = 0 ∨ Int.fmod x 3 = 1 ∨ Int.fmod x 3 = 2 := by
  have h1 := Int.fmod_nonneg_of_pos x (b := 3) (by omega)
  have h2 := Int.fmod_lt_of_pos x (b := 3) (by omega)
  omega
theorem specRul (hd : d ≤ 860) {n : Int} {t0 : Nat} : Spec w (KP w.params) d J (.call (.ref 82) ⟨[.int n t0], []⟩) [] 0 5 (rulFn n) 0 := by
  have key : Spec w (KP w.params) (d + 16 - 16) J (.call (.ref 82) ⟨[.int n t0], []⟩) [] 0 5 (rulFn n) 0 := by
    refine fn_spec rfl (seen82 _).ok (bind82 _ _) (by omega) (by omega) (fun u => ent82 w.params _ 0 _ u) (fun u => okD_of _ _ _ _ trivial trivial) fun u A B os dr s R hA hK Rl hR => ?_
    have hA' := hA.deeper (by omega) (envAt w.params 82 (u 0))
    refine codeAny_func ?_
    have e3 : Z.divQ n 3 = Int.fdiv n 3 := by rw [← Z.divQ_eq]
    have e9 : Z.divQ n 9 = Int.fdiv n 9 := by rw [← Z.divQ_eq]
    rcases fmod3 (Int.fdiv n 9) with h | h | h
    · refine flow_front2 (fT_eq w) hA' (by omega) hK (Hp := [_]) (rest := []) Rl (fun v => rul_0 w.params _ _ _ _ _ (u 0) t0 n (Int.fmod n 3) (Int.fmod (Int.fdiv n 3) 3) v) (fun v => okD_of _ _ _ _ ⟨specMod3 _ _ rfl, e3 ▸ specMod3 _ _ rfl, e9 ▸ specMod3 _ _ h, trivial⟩ trivial) fun v s' R' => ?_
      refine hR [v 11, 0, v 3, v 9, v 22] s' rfl ?_
      have e : rT n = 0 := by unfold rT; rw [h]; rfl
      unfold rulFn; rw [e]; exact R'
    · refine flow_front2 (fT_eq w) hA' (by omega) hK (Hp := [_]) (rest := []) Rl (fun v => rul_1 w.params _ _ _ _ _ (u 0) t0 n (Int.fmod n 3) (Int.fmod (Int.fdiv n 3) 3) v) (fun v => okD_of _ _ _ _ ⟨specMod3 _ _ rfl, e3 ▸ specMod3 _ _ rfl, e9 ▸ specMod3 _ _ h, trivial⟩ trivial) fun v s' R' => ?_
      refine hR [v 13, v 14, v 3, v 9, v 22] s' rfl ?_
      have e : rT n = 1 := by unfold rT; rw [h]; rfl
      unfold rulFn; rw [e]; exact R'
    · refine flow_front2 (fT_eq w) hA' (by omega) hK (Hp := [_]) (rest := []) Rl (fun v => rul_2 w.params _ _ _ _ _ (u 0) t0 n (Int.fmod n 3) (Int.fmod (Int.fdiv n 3) 3) v) (fun v => okD_of _ _ _ _ ⟨specMod3 _ _ rfl, e3 ▸ specMod3 _ _ rfl, e9 ▸ specMod3 _ _ h, trivial⟩ trivial) fun v s' R' => ?_
      refine hR [0, 0, v 3, v 9, v 22] s' rfl ?_
      have e : rT n = 2 := by unfold rT; rw [h]; rfl
      unfold rulFn; rw [e]; exact R'
  rwa [Nat.add_sub_cancel] at key
end
end Mine
end
-- V14
section
open PySem PySem.Spec PySem.Calls PyProof.Rows PySem.W PySem.W.X
namespace Mine
noncomputable def cePow (v : Int) : CE := ⟨some "int.__pow__", [], 1, fun us => (.ok (.ret (.int v (getU us 0))), []), 0, noH⟩
theorem gives_pow1 (t u : Nat) : Gives (Builtin.«int.__pow__» ⟨[.int 10 t, .int 1 u], []⟩) (.int 10) := .of_eq (by rfl)
theorem modp_seg1 (P : Params) (K : Frag) (S : ST) (j : Nat) (x : Int) (t u : Nat) (v : Nat → Nat) : trimO [] (run P K S 30 c0 none 0 [] (runT (.call (.builtin "int.__mod__") ⟨[.int x t, .int 10 u], []⟩)) [] j (mkU 1 v) 0 [] True) =
    some ⟨.fin (.done (.ret (.int (Z.modQ x 10) (v 0)))), [], j, True⟩ := by kernel_rfl!
theorem gives_pow2 (t u : Nat) : Gives (Builtin.«int.__pow__» ⟨[.int 10 t, .int 2 u], []⟩) (.int 100) := .of_eq (by rfl)
theorem modp_seg2 (P : Params) (K : Frag) (S : ST) (j : Nat) (x : Int) (t u : Nat) (v : Nat → Nat) : trimO [] (run P K S 30 c0 none 0 [] (runT (.call (.builtin "int.__mod__") ⟨[.int x t, .int 100 u], []⟩)) [] j (mkU 1 v) 0 [] True) =
    some ⟨.fin (.done (.ret (.int (Z.modQ x 100) (v 0)))), [], j, True⟩ := by kernel_rfl!
theorem gives_pow3 (t u : Nat) : Gives (Builtin.«int.__pow__» ⟨[.int 10 t, .int 3 u], []⟩) (.int 1000) := .of_eq (by rfl)
theorem modp_seg3 (P : Params) (K : Frag) (S : ST) (j : Nat) (x : Int) (t u : Nat) (v : Nat → Nat) : trimO [] (run P K S 30 c0 none 0 [] (runT (.call (.builtin "int.__mod__") ⟨[.int x t, .int 1000 u], []⟩)) [] j (mkU 1 v) 0 [] True) =
    some ⟨.fin (.done (.ret (.int (Z.modQ x 1000) (v 0)))), [], j, True⟩ := by kernel_rfl!
theorem gives_pow4 (t u : Nat) : Gives (Builtin.«int.__pow__» ⟨[.int 10 t, .int 4 u], []⟩) (.int 10000) := .of_eq (by rfl)
theorem modp_seg4 (P : Params) (K : Frag) (S : ST) (j : Nat) (x : Int) (t u : Nat) (v : Nat → Nat) : trimO [] (run P K S 30 c0 none 0 [] (runT (.call (.builtin "int.__mod__") ⟨[.int x t, .int 10000 u], []⟩)) [] j (mkU 1 v) 0 [] True) =
    some ⟨.fin (.done (.ret (.int (Z.modQ x 10000) (v 0)))), [], j, True⟩ := by kernel_rfl!
theorem gives_pow5 (t u : Nat) : Gives (Builtin.«int.__pow__» ⟨[.int 10 t, .int 5 u], []⟩) (.int 100000) := .of_eq (by rfl)
theorem modp_seg5 (P : Params) (K : Frag) (S : ST) (j : Nat) (x : Int) (t u : Nat) (v : Nat → Nat) : trimO [] (run P K S 30 c0 none 0 [] (runT (.call (.builtin "int.__mod__") ⟨[.int x t, .int 100000 u], []⟩)) [] j (mkU 1 v) 0 [] True) =
    some ⟨.fin (.done (.ret (.int (Z.modQ x 100000) (v 0)))), [], j, True⟩ := by kernel_rfl!
theorem gives_pow6 (t u : Nat) : Gives (Builtin.«int.__pow__» ⟨[.int 10 t, .int 6 u], []⟩) (.int 1000000) := .of_eq (by rfl)
theorem modp_seg6 (P : Params) (K : Frag) (S : ST) (j : Nat) (x : Int) (t u : Nat) (v : Nat → Nat) : trimO [] (run P K S 30 c0 none 0 [] (runT (.call (.builtin "int.__mod__") ⟨[.int x t, .int 1000000 u], []⟩)) [] j (mkU 1 v) 0 [] True) =
    some ⟨.fin (.done (.ret (.int (Z.modQ x 1000000) (v 0)))), [], j, True⟩ := by kernel_rfl!
theorem gives_pow7 (t u : Nat) : Gives (Builtin.«int.__pow__» ⟨[.int 10 t, .int 7 u], []⟩) (.int 10000000) := .of_eq (by rfl)
theorem modp_seg7 (P : Params) (K : Frag) (S : ST) (j : Nat) (x : Int) (t u : Nat) (v : Nat → Nat) : trimO [] (run P K S 30 c0 none 0 [] (runT (.call (.builtin "int.__mod__") ⟨[.int x t, .int 10000000 u], []⟩)) [] j (mkU 1 v) 0 [] True) =
    some ⟨.fin (.done (.ret (.int (Z.modQ x 10000000) (v 0)))), [], j, True⟩ := by kernel_rfl!
section
variable {w : World} {K : Frag} {J : Nat → Array GenState → Prop} {d : Nat}
theorem specPow {j : Nat} (t u k : Nat) (h1 : 1 ≤ k) (h7 : k ≤ 7) : Spec w K d J (.call (.builtin "int.__pow__") ⟨[.int 10 t, .int (k : Int) u], []⟩) [] j 1 (cePow (10 ^ k)).f j := by
  rcases k with _ | _ | _ | _ | _ | _ | _ | _ | k
  · omega
  · exact spec_gi F.slot_int_pow (fun s => typeIs_int s 10 t) F.entry_int_pow (F.args_int_pow_2 _ _) (gives_pow1 t u) j
  · exact spec_gi F.slot_int_pow (fun s => typeIs_int s 10 t) F.entry_int_pow (F.args_int_pow_2 _ _) (gives_pow2 t u) j
  · exact spec_gi F.slot_int_pow (fun s => typeIs_int s 10 t) F.entry_int_pow (F.args_int_pow_2 _ _) (gives_pow3 t u) j
  · exact spec_gi F.slot_int_pow (fun s => typeIs_int s 10 t) F.entry_int_pow (F.args_int_pow_2 _ _) (gives_pow4 t u) j
  · exact spec_gi F.slot_int_pow (fun s => typeIs_int s 10 t) F.entry_int_pow (F.args_int_pow_2 _ _) (gives_pow5 t u) j
  · exact spec_gi F.slot_int_pow (fun s => typeIs_int s 10 t) F.entry_int_pow (F.args_int_pow_2 _ _) (gives_pow6 t u) j
  · exact spec_gi F.slot_int_pow (fun s => typeIs_int s 10 t) F.entry_int_pow (F.args_int_pow_2 _ _) (gives_pow7 t u) j
  · omega
theorem specModP {j : Nat} {x v : Int} (t u k : Nat) (h1 : 1 ≤ k) (h7 : k ≤ 7) (h : Int.fmod x (10 ^ k) = v) : Spec w K d J (.call (.builtin "int.__mod__") ⟨[.int x t, .int (10 ^ k) u], []⟩) [] j 1 (ceMod v).f j := by
  have z : Spec w K (d + 14 - 14) J (.call (.builtin "int.__mod__") ⟨[.int x t, .int (10 ^ k) u], []⟩) [] j 1 (ceMod v).f j := by
    rcases k with _ | _ | _ | _ | _ | _ | _ | _ | k
    · omega
    · refine spec_seg rfl (by omega) (m := []) (L := 1) (ct := 0) (n := 30) (ces := []) fun y => ⟨_, [y 0], modp_seg1 _ _ _ _ _ _ _ y, trivial, rfl, ?_, rfl, rfl⟩
      rw [← Z.modQ_eq, show (Int.fmod x 10) = v from h]; rfl
    · refine spec_seg rfl (by omega) (m := []) (L := 1) (ct := 0) (n := 30) (ces := []) fun y => ⟨_, [y 0], modp_seg2 _ _ _ _ _ _ _ y, trivial, rfl, ?_, rfl, rfl⟩
      rw [← Z.modQ_eq, show (Int.fmod x 100) = v from h]; rfl
    · refine spec_seg rfl (by omega) (m := []) (L := 1) (ct := 0) (n := 30) (ces := []) fun y => ⟨_, [y 0], modp_seg3 _ _ _ _ _ _ _ y, trivial, rfl, ?_, rfl, rfl⟩
      rw [← Z.modQ_eq, show (Int.fmod x 1000) = v from h]; rfl
    · refine spec_seg rfl (by omega) (m := []) (L := 1) (ct := 0) (n := 30) (ces := []) fun y => ⟨_, [y 0], modp_seg4 _ _ _ _ _ _ _ y, trivial, rfl, ?_, rfl, rfl⟩
      rw [← Z.modQ_eq, show (Int.fmod x 10000) = v from h]; rfl
    · refine spec_seg rfl (by omega) (m := []) (L := 1) (ct := 0) (n := 30) (ces := []) fun y => ⟨_, [y 0], modp_seg5 _ _ _ _ _ _ _ y, trivial, rfl, ?_, rfl, rfl⟩
      rw [← Z.modQ_eq, show (Int.fmod x 100000) = v from h]; rfl
    · refine spec_seg rfl (by omega) (m := []) (L := 1) (ct := 0) (n := 30) (ces := []) fun y => ⟨_, [y 0], modp_seg6 _ _ _ _ _ _ _ y, trivial, rfl, ?_, rfl, rfl⟩
      rw [← Z.modQ_eq, show (Int.fmod x 1000000) = v from h]; rfl
    · refine spec_seg rfl (by omega) (m := []) (L := 1) (ct := 0) (n := 30) (ces := []) fun y => ⟨_, [y 0], modp_seg7 _ _ _ _ _ _ _ y, trivial, rfl, ?_, rfl, rfl⟩
      rw [← Z.modQ_eq, show (Int.fmod x 10000000) = v from h]; rfl
    · omega
  rwa [Nat.add_sub_cancel] at z
end
end Mine
end
-- V15
section
open PySem PySem.Spec PySem.Calls PyProof.Rows PySem.W PySem.W.X
namespace Mine
noncomputable def ceLSl (m : List Bool) (l : Nat) (o : Obj) (vs : List Value) : CE := ⟨some "list.__getitem__", m, 1, fun us => (.ok (.ret (.ref (getU us 0))), [(l, o), (getU us 0, lsto vs 0)]), 0, noH⟩
noncomputable def slO (l u st : Value) : Obj := { cls := .type "slice", data := .fields #[l, u, st] }
section
variable {w : World} {K : Frag} {J : Nat → Array GenState → Prop} {d : Nat}
theorem specLSl {j l sl n : Nat} {items vs : List Value} {vl vu vt : Value} {lo hi st : Option Int} (m : List Bool) (pl : IsPart vl lo) (pu : IsPart vu hi) (ps : IsPart vt st) (h0 : st ≠ some 0) (hsz : items.length ≤ sizeLine) (hv : slicePick ⟨items⟩ lo hi st = ⟨vs⟩) :
    Spec w K d J (.call (.builtin "list.__getitem__") ⟨[.ref l, .ref sl], []⟩) [(l, lsto items n), (sl, slO vl vu vt)] j 1 (ceLSl m l (lsto items n) vs).f j := by
  refine spec_val (gv := fun us => .ref (getU us 0)) (gH := fun us => [(l, lsto items n), (getU us 0, lsto vs 0)]) fun A B os dr s Q hA hK R hQ => ?_
  have hl : s.heap.IsList l ⟨items⟩ := ⟨_, R.at (i := 0) rfl, rfl, n, rfl⟩
  have hos := R.at (i := 1) rfl
  have ho := R.at (i := 0) rfl
  have hTs : s.TypeIs (.ref sl) "slice" := ⟨_, hos, rfl⟩
  refine wpAny_call_entry slot_list_getitem hl.typeIs entry_list_getitem ?_ (args_list_getitem _ _)
  show wpAny _ _ (Builtin.List.listSubscript? (.ref sl) >>= _) _ _ s
  refine wpAny_bind ?_
  unfold Builtin.List.listSubscript?
  refine wpAny_bind (wpAny_specialOf hTs slice_no_index ?_)
  simp only [Option.isNone_none, if_true]
  refine wpAny_pure ?_
  show wpAny _ _ (typeOf (.ref sl) >>= _) _ _ s
  refine wpAny_bind (wpAny_typeOf hTs ?_)
  rw [if_neg (by decide)]
  rw [listSliceParts_eq]
  have hstep : ¬ ((rawPart st == rawInt 0) = true) := by
    cases st with
    | none => exact Bool.false_ne_true
    | some c =>
      intro hh
      have : c = 0 := by simpa [rawPart, rawInt] using hh
      exact h0 (by rw [this])
  refine wpAny_bind (wpAny_bind (wpAny_field hos rfl (x := vt) rfl (wpAny_bind (wpAny_listPart ps ?_))))
  rw [if_neg hstep]
  refine wpAny_bind (wpAny_field hos rfl (x := vl) rfl (wpAny_bind (wpAny_listPart pl ?_)))
  refine wpAny_bind (wpAny_field hos rfl (x := vu) rfl (wpAny_bind (wpAny_listPart pu (wpAny_pure ?_))))
  refine wpAny_bind (m := Builtin.List.listItems (.ref l)) ?_
  unfold Builtin.List.listItems
  refine wpAny_bind (wpAny_seqItems ho rfl (wpAny_pure ?_))
  refine wpAny_bind (wpAny_of_eq (sliceIndices_raw lo hi st items.length h0) ?_)
  refine wpAny_bind (wpAny_newObj_type (wpAny_pure ⟨_, rfl, ?_⟩) (Nat.le_trans (slicePick_size_le ⟨items⟩ lo hi st) hsz))
  have R2 := ((Rel.front (Hp := [_]) R).alloc (o := lsto vs 0) rfl)
  have := hQ [s.heap.objs.size] _ rfl R2
  rw [show lsto vs 0 = { cls := .type "list", data := .seq (slicePick ⟨items⟩ lo hi st) } from by rw [hv]; rfl] at this
  exact this
end
end Mine
end
-- V16
section
open PySem PySem.Spec PySem.Calls PyProof.Rows PySem.W PySem.W.X
namespace Mine
noncomputable def nScr : Str := ⟨⟨[115, 99, 114, 105, 112, 116]⟩⟩
noncomputable def mSl : List Bool := [false, true, false, false, false, false, false, false, true]
theorem files_0t (P : Params) (b1 : Bool) (S : ST) (h : Int) (k L sc n : Nat) (items : List Value) (x p q : Nat → Int) (t u : Nat → Nat) :
    trimO [false, true, true, true, true, true, false, true, false, false, false, false, false, false, true] (run (ftP P b1 true) (KP P) S 152 c0 none 0 [] (flowZ (bd P 87) (envAt P 87 L)) [(L, fro [en h k nScr (.ref sc)] 1), (sc, lsto items n)] 0 (mkU 27 u) 1089870346892934454563933129383318646011584053014092320833 [ceLSl mSl sc (lsto items n) []] True) =
    some ⟨.fin (.done (.ret (.ref (u 26)))), [(u 2, tupO [.int 33188 (u 0), .int 123 (u 1)]), (u 5, tupO [.int 33261 (u 3), .int 1234 (u 4)]), (u 8, tupO [.int 16877 (u 6), .int 12345 (u 7)]), (u 11, tupO [.int 35309 (u 9), .int 1234567 (u 10)]), (u 14, tupO [.int 33188 (u 12), .int 0 (u 13)]), (sc, lsto items n), (u 26, lsto [.ref (u 2), .ref (u 5), .ref (u 8), .ref (u 11), .ref (u 14)] 0)], 0, okD 32 1089870346892934454563933129383318646011584053014092320833 [L, sc, u 2, u 5, u 8, u 11, u 14, u 15, u 19] [(S (.call (.builtin "list.__getitem__") ⟨[.ref sc, .ref (u 19)], []⟩) [(sc, lsto items n), (u 19, slO (.int 2 (u 17)) (.int 6 (u 18)) .none)] 0 1 (ceLSl mSl sc (lsto items n) []).f 0, fun _ => [L, u 2, u 5, u 8, u 11, u 14, u 15, sc, u 20, u 21, u 22, u 23, u 24, u 25, u 26])] True⟩ := by cases b1 <;> kernel_rfl!
theorem files_0f (P : Params) (b1 : Bool) (S : ST) (h : Int) (k L sc n : Nat) (items : List Value) (x p q : Nat → Int) (t u : Nat → Nat) :
    trimO [false, true, true, true, true, true, false, true, false, false, false, false, false, false, true] (run (ftP P b1 false) (KP P) S 162 c0 none 0 [] (flowZ (bd P 87) (envAt P 87 L)) [(L, fro [en h k nScr (.ref sc)] 1), (sc, lsto items n)] 0 (mkU 27 u) 1170239374196332173955922682958075802626567481203334507695620493377 [ceLSl mSl sc (lsto items n) []] True) =
    some ⟨.fin (.done (.ret (.ref (u 26)))), [(u 2, tupO [.int 33188 (u 0), .int 123 (u 1)]), (u 5, tupO [.int 33261 (u 3), .int 1234 (u 4)]), (u 8, tupO [.int 16877 (u 6), .int 12345 (u 7)]), (u 11, tupO [.int 35309 (u 9), .int 1234567 (u 10)]), (u 14, tupO [.int 33188 (u 12), .int 0 (u 13)]), (sc, lsto items n), (u 26, lsto [.ref (u 2), .ref (u 5), .ref (u 8), .ref (u 11), .ref (u 14)] 0)], 0, okD 37 1170239374196332173955922682958075802626567481203334507695620493377 [L, sc, u 2, u 5, u 8, u 11, u 14, u 15, u 19] [(S (.call (.builtin "list.__getitem__") ⟨[.ref sc, .ref (u 19)], []⟩) [(sc, lsto items n), (u 19, slO (.int 2 (u 17)) (.int 6 (u 18)) .none)] 0 1 (ceLSl mSl sc (lsto items n) []).f 0, fun _ => [L, u 2, u 5, u 8, u 11, u 14, u 15, sc, u 20, u 21, u 22, u 23, u 24, u 25, u 26])] True⟩ := by cases b1 <;> kernel_rfl!
theorem files_1t (P : Params) (b1 : Bool) (S : ST) (h : Int) (k L sc n : Nat) (items : List Value) (x p q : Nat → Int) (t u : Nat → Nat) :
    trimO [false, true, true, true, true, true, false, true, false, false, false, false, true, false, false, true] (run (ftP P b1 true) (KP P) S 225 c0 none 0 [] (flowZ (bd P 87) (envAt P 87 L)) [(L, fro [en h k nScr (.ref sc)] 1), (sc, lsto items n)] 0 (mkU 42 u) 6371389185849691326693945752004843354581251245825473789549914694021207574384540615980896053885189058990145 [ceLSl mSl sc (lsto items n) [.int (x 0) (t 0)], cePow (p 0), ceMod (q 0)] True) =
    some ⟨.fin (.done (.ret (.ref (u 41)))), [(u 2, tupO [.int 33188 (u 0), .int 123 (u 1)]), (u 5, tupO [.int 33261 (u 3), .int 1234 (u 4)]), (u 8, tupO [.int 16877 (u 6), .int 12345 (u 7)]), (u 11, tupO [.int 35309 (u 9), .int 1234567 (u 10)]), (u 14, tupO [.int 33188 (u 12), .int 0 (u 13)]), (sc, lsto items n), (u 38, tupO [.int (32768 + Z.modQ (x 0) 4096) (u 28), .int (q 0) (u 37)]), (u 41, lsto [.ref (u 2), .ref (u 5), .ref (u 8), .ref (u 11), .ref (u 14), .ref (u 38)] 0)], 0, okD 59 6371389185849691326693945752004843354581251245825473789549914694021207574384540615980896053885189058990145 [L, sc, u 2, u 5, u 8, u 11, u 14, u 15, u 19] [(S (.call (.builtin "list.__getitem__") ⟨[.ref sc, .ref (u 19)], []⟩) [(sc, lsto items n), (u 19, slO (.int 2 (u 17)) (.int 6 (u 18)) .none)] 0 1 (ceLSl mSl sc (lsto items n) [.int (x 0) (t 0)]).f 0, fun _ => [L, u 2, u 5, u 8, u 11, u 14, u 15, sc, u 20, u 21, u 22, u 23, u 38, u 39, u 40, u 41]), (S (.call (.builtin "int.__pow__") ⟨[.int 10 (u 31), .int (1 + Z.modQ (x 0) 7) (u 35)], []⟩) [] 0 1 (cePow (p 0)).f 0, id), (S (.call (.builtin "int.__mod__") ⟨[.int (Z.divQ (x 0) 4096) (u 30), .int (p 0) (u 36)], []⟩) [] 0 1 (ceMod (q 0)).f 0, id)] True⟩ := by cases b1 <;> kernel_rfl!
theorem files_1f (P : Params) (b1 : Bool) (S : ST) (h : Int) (k L sc n : Nat) (items : List Value) (x p q : Nat → Int) (t u : Nat → Nat) :
    trimO [false, true, true, true, true, true, false, true, false, false, false, false, true, false, false, true] (run (ftP P b1 false) (KP P) S 235 c0 none 0 [] (flowZ (bd P 87) (envAt P 87 L)) [(L, fro [en h k nScr (.ref sc)] 1), (sc, lsto items n)] 0 (mkU 42 u) 6841227045828122554961337201514732160382351468894916612455517542602733315602272321649895756948075857106341892198465 [ceLSl mSl sc (lsto items n) [.int (x 0) (t 0)], cePow (p 0), ceMod (q 0)] True) =
    some ⟨.fin (.done (.ret (.ref (u 41)))), [(u 2, tupO [.int 33188 (u 0), .int 123 (u 1)]), (u 5, tupO [.int 33261 (u 3), .int 1234 (u 4)]), (u 8, tupO [.int 16877 (u 6), .int 12345 (u 7)]), (u 11, tupO [.int 35309 (u 9), .int 1234567 (u 10)]), (u 14, tupO [.int 33188 (u 12), .int 0 (u 13)]), (sc, lsto items n), (u 38, tupO [.int (32768 + Z.modQ (x 0) 4096) (u 28), .int (q 0) (u 37)]), (u 41, lsto [.ref (u 2), .ref (u 5), .ref (u 8), .ref (u 11), .ref (u 14), .ref (u 38)] 0)], 0, okD 64 6841227045828122554961337201514732160382351468894916612455517542602733315602272321649895756948075857106341892198465 [L, sc, u 2, u 5, u 8, u 11, u 14, u 15, u 19] [(S (.call (.builtin "list.__getitem__") ⟨[.ref sc, .ref (u 19)], []⟩) [(sc, lsto items n), (u 19, slO (.int 2 (u 17)) (.int 6 (u 18)) .none)] 0 1 (ceLSl mSl sc (lsto items n) [.int (x 0) (t 0)]).f 0, fun _ => [L, u 2, u 5, u 8, u 11, u 14, u 15, sc, u 20, u 21, u 22, u 23, u 38, u 39, u 40, u 41]), (S (.call (.builtin "int.__pow__") ⟨[.int 10 (u 31), .int (1 + Z.modQ (x 0) 7) (u 35)], []⟩) [] 0 1 (cePow (p 0)).f 0, id), (S (.call (.builtin "int.__mod__") ⟨[.int (Z.divQ (x 0) 4096) (u 30), .int (p 0) (u 36)], []⟩) [] 0 1 (ceMod (q 0)).f 0, id)] True⟩ := by cases b1 <;> kernel_rfl!
theorem files_2t (P : Params) (b1 : Bool) (S : ST) (h : Int) (k L sc n : Nat) (items : List Value) (x p q : Nat → Int) (t u : Nat → Nat) :
    trimO [false, true, true, true, true, true, false, true, false, false, false, false, true, true, false, false, true] (run (ftP P b1 true) (KP P) S 294 c0 none 0 [] (flowZ (bd P 87) (envAt P 87 L)) [(L, fro [en h k nScr (.ref sc)] 1), (sc, lsto items n)] 0 (mkU 57 u) 9093550514835676156765940312015469174960053023950354860612615409620020518960617421544211811592780389346651491296117270148312140441272237763798971453505 [ceLSl mSl sc (lsto items n) [.int (x 0) (t 0), .int (x 1) (t 1)], cePow (p 0), ceMod (q 0), cePow (p 1), ceMod (q 1)] True) =
    some ⟨.fin (.done (.ret (.ref (u 56)))), [(u 2, tupO [.int 33188 (u 0), .int 123 (u 1)]), (u 5, tupO [.int 33261 (u 3), .int 1234 (u 4)]), (u 8, tupO [.int 16877 (u 6), .int 12345 (u 7)]), (u 11, tupO [.int 35309 (u 9), .int 1234567 (u 10)]), (u 14, tupO [.int 33188 (u 12), .int 0 (u 13)]), (sc, lsto items n), (u 38, tupO [.int (32768 + Z.modQ (x 0) 4096) (u 28), .int (q 0) (u 37)]), (u 53, tupO [.int (32768 + Z.modQ (x 1) 4096) (u 43), .int (q 1) (u 52)]), (u 56, lsto [.ref (u 2), .ref (u 5), .ref (u 8), .ref (u 11), .ref (u 14), .ref (u 38), .ref (u 53)] 0)], 0, okD 84 9093550514835676156765940312015469174960053023950354860612615409620020518960617421544211811592780389346651491296117270148312140441272237763798971453505 [L, sc, u 2, u 5, u 8, u 11, u 14, u 15, u 19] [(S (.call (.builtin "list.__getitem__") ⟨[.ref sc, .ref (u 19)], []⟩) [(sc, lsto items n), (u 19, slO (.int 2 (u 17)) (.int 6 (u 18)) .none)] 0 1 (ceLSl mSl sc (lsto items n) [.int (x 0) (t 0), .int (x 1) (t 1)]).f 0, fun _ => [L, u 2, u 5, u 8, u 11, u 14, u 15, sc, u 20, u 21, u 22, u 23, u 38, u 53, u 54, u 55, u 56]), (S (.call (.builtin "int.__pow__") ⟨[.int 10 (u 31), .int (1 + Z.modQ (x 0) 7) (u 35)], []⟩) [] 0 1 (cePow (p 0)).f 0, id), (S (.call (.builtin "int.__mod__") ⟨[.int (Z.divQ (x 0) 4096) (u 30), .int (p 0) (u 36)], []⟩) [] 0 1 (ceMod (q 0)).f 0, id), (S (.call (.builtin "int.__pow__") ⟨[.int 10 (u 46), .int (1 + Z.modQ (x 1) 7) (u 50)], []⟩) [] 0 1 (cePow (p 1)).f 0, id), (S (.call (.builtin "int.__mod__") ⟨[.int (Z.divQ (x 1) 4096) (u 45), .int (p 1) (u 51)], []⟩) [] 0 1 (ceMod (q 1)).f 0, id)] True⟩ := by cases b1 <;> kernel_rfl!
theorem files_2f (P : Params) (b1 : Bool) (S : ST) (h : Int) (k L sc n : Nat) (items : List Value) (x p q : Nat → Int) (t u : Nat → Nat) :
    trimO [false, true, true, true, true, true, false, true, false, false, false, false, true, true, false, false, true] (run (ftP P b1 false) (KP P) S 304 c0 none 0 [] (flowZ (bd P 87) (envAt P 87 L)) [(L, fro [en h k nScr (.ref sc)] 1), (sc, lsto items n)] 0 (mkU 57 u) 9764125516435797976839170691698618988137382461073169713481455427335907978946199934375058887221976360488503740556613081766949431443240696352053859099230391767105 [ceLSl mSl sc (lsto items n) [.int (x 0) (t 0), .int (x 1) (t 1)], cePow (p 0), ceMod (q 0), cePow (p 1), ceMod (q 1)] True) =
    some ⟨.fin (.done (.ret (.ref (u 56)))), [(u 2, tupO [.int 33188 (u 0), .int 123 (u 1)]), (u 5, tupO [.int 33261 (u 3), .int 1234 (u 4)]), (u 8, tupO [.int 16877 (u 6), .int 12345 (u 7)]), (u 11, tupO [.int 35309 (u 9), .int 1234567 (u 10)]), (u 14, tupO [.int 33188 (u 12), .int 0 (u 13)]), (sc, lsto items n), (u 38, tupO [.int (32768 + Z.modQ (x 0) 4096) (u 28), .int (q 0) (u 37)]), (u 53, tupO [.int (32768 + Z.modQ (x 1) 4096) (u 43), .int (q 1) (u 52)]), (u 56, lsto [.ref (u 2), .ref (u 5), .ref (u 8), .ref (u 11), .ref (u 14), .ref (u 38), .ref (u 53)] 0)], 0, okD 89 9764125516435797976839170691698618988137382461073169713481455427335907978946199934375058887221976360488503740556613081766949431443240696352053859099230391767105 [L, sc, u 2, u 5, u 8, u 11, u 14, u 15, u 19] [(S (.call (.builtin "list.__getitem__") ⟨[.ref sc, .ref (u 19)], []⟩) [(sc, lsto items n), (u 19, slO (.int 2 (u 17)) (.int 6 (u 18)) .none)] 0 1 (ceLSl mSl sc (lsto items n) [.int (x 0) (t 0), .int (x 1) (t 1)]).f 0, fun _ => [L, u 2, u 5, u 8, u 11, u 14, u 15, sc, u 20, u 21, u 22, u 23, u 38, u 53, u 54, u 55, u 56]), (S (.call (.builtin "int.__pow__") ⟨[.int 10 (u 31), .int (1 + Z.modQ (x 0) 7) (u 35)], []⟩) [] 0 1 (cePow (p 0)).f 0, id), (S (.call (.builtin "int.__mod__") ⟨[.int (Z.divQ (x 0) 4096) (u 30), .int (p 0) (u 36)], []⟩) [] 0 1 (ceMod (q 0)).f 0, id), (S (.call (.builtin "int.__pow__") ⟨[.int 10 (u 46), .int (1 + Z.modQ (x 1) 7) (u 50)], []⟩) [] 0 1 (cePow (p 1)).f 0, id), (S (.call (.builtin "int.__mod__") ⟨[.int (Z.divQ (x 1) 4096) (u 45), .int (p 1) (u 51)], []⟩) [] 0 1 (ceMod (q 1)).f 0, id)] True⟩ := by cases b1 <;> kernel_rfl!
theorem files_3t (P : Params) (b1 : Bool) (S : ST) (h : Int) (k L sc n : Nat) (items : List Value) (x p q : Nat → Int) (t u : Nat → Nat) :
    trimO [false, true, true, true, true, true, false, true, false, false, false, false, true, true, true, false, false, true] (run (ftP P b1 true) (KP P) S 363 c0 none 0 [] (flowZ (bd P 87) (envAt P 87 L)) [(L, fro [en h k nScr (.ref sc)] 1), (sc, lsto items n)] 0 (mkU 72 u) 12978748990804312393870356721908290495399052289636253918423179513416370934112267298038261416173449711396022787434776535517334734090573183388522416790896811762894406249160387599220554335147155263553 [ceLSl mSl sc (lsto items n) [.int (x 0) (t 0), .int (x 1) (t 1), .int (x 2) (t 2)], cePow (p 0), ceMod (q 0), cePow (p 1), ceMod (q 1), cePow (p 2), ceMod (q 2)] True) =
    some ⟨.fin (.done (.ret (.ref (u 71)))), [(u 2, tupO [.int 33188 (u 0), .int 123 (u 1)]), (u 5, tupO [.int 33261 (u 3), .int 1234 (u 4)]), (u 8, tupO [.int 16877 (u 6), .int 12345 (u 7)]), (u 11, tupO [.int 35309 (u 9), .int 1234567 (u 10)]), (u 14, tupO [.int 33188 (u 12), .int 0 (u 13)]), (sc, lsto items n), (u 38, tupO [.int (32768 + Z.modQ (x 0) 4096) (u 28), .int (q 0) (u 37)]), (u 53, tupO [.int (32768 + Z.modQ (x 1) 4096) (u 43), .int (q 1) (u 52)]), (u 68, tupO [.int (32768 + Z.modQ (x 2) 4096) (u 58), .int (q 2) (u 67)]), (u 71, lsto [.ref (u 2), .ref (u 5), .ref (u 8), .ref (u 11), .ref (u 14), .ref (u 38), .ref (u 53), .ref (u 68)] 0)], 0, okD 109 12978748990804312393870356721908290495399052289636253918423179513416370934112267298038261416173449711396022787434776535517334734090573183388522416790896811762894406249160387599220554335147155263553 [L, sc, u 2, u 5, u 8, u 11, u 14, u 15, u 19] [(S (.call (.builtin "list.__getitem__") ⟨[.ref sc, .ref (u 19)], []⟩) [(sc, lsto items n), (u 19, slO (.int 2 (u 17)) (.int 6 (u 18)) .none)] 0 1 (ceLSl mSl sc (lsto items n) [.int (x 0) (t 0), .int (x 1) (t 1), .int (x 2) (t 2)]).f 0, fun _ => [L, u 2, u 5, u 8, u 11, u 14, u 15, sc, u 20, u 21, u 22, u 23, u 38, u 53, u 68, u 69, u 70, u 71]), (S (.call (.builtin "int.__pow__") ⟨[.int 10 (u 31), .int (1 + Z.modQ (x 0) 7) (u 35)], []⟩) [] 0 1 (cePow (p 0)).f 0, id), (S (.call (.builtin "int.__mod__") ⟨[.int (Z.divQ (x 0) 4096) (u 30), .int (p 0) (u 36)], []⟩) [] 0 1 (ceMod (q 0)).f 0, id), (S (.call (.builtin "int.__pow__") ⟨[.int 10 (u 46), .int (1 + Z.modQ (x 1) 7) (u 50)], []⟩) [] 0 1 (cePow (p 1)).f 0, id), (S (.call (.builtin "int.__mod__") ⟨[.int (Z.divQ (x 1) 4096) (u 45), .int (p 1) (u 51)], []⟩) [] 0 1 (ceMod (q 1)).f 0, id), (S (.call (.builtin "int.__pow__") ⟨[.int 10 (u 61), .int (1 + Z.modQ (x 2) 7) (u 65)], []⟩) [] 0 1 (cePow (p 2)).f 0, id), (S (.call (.builtin "int.__mod__") ⟨[.int (Z.divQ (x 2) 4096) (u 60), .int (p 2) (u 66)], []⟩) [] 0 1 (ceMod (q 2)).f 0, id)] True⟩ := by cases b1 <;> kernel_rfl!
theorem files_3f (P : Params) (b1 : Bool) (S : ST) (h : Int) (k L sc n : Nat) (items : List Value) (x p q : Nat → Int) (t u : Nat → Nat) :
    trimO [false, true, true, true, true, true, false, true, false, false, false, false, true, true, true, false, false, true] (run (ftP P b1 false) (KP P) S 373 c0 none 0 [] (flowZ (bd P 87) (envAt P 87 L)) [(L, fro [en h k nScr (.ref sc)] 1), (sc, lsto items n)] 0 (mkU 72 u) 13935825614624381616860163246112468597251642013345407578894851974615126598254289709371154434790902993486639094125781238278783781000967031137078560469945769258074895285370476293818937885102684122518600814657 [ceLSl mSl sc (lsto items n) [.int (x 0) (t 0), .int (x 1) (t 1), .int (x 2) (t 2)], cePow (p 0), ceMod (q 0), cePow (p 1), ceMod (q 1), cePow (p 2), ceMod (q 2)] True) =
    some ⟨.fin (.done (.ret (.ref (u 71)))), [(u 2, tupO [.int 33188 (u 0), .int 123 (u 1)]), (u 5, tupO [.int 33261 (u 3), .int 1234 (u 4)]), (u 8, tupO [.int 16877 (u 6), .int 12345 (u 7)]), (u 11, tupO [.int 35309 (u 9), .int 1234567 (u 10)]), (u 14, tupO [.int 33188 (u 12), .int 0 (u 13)]), (sc, lsto items n), (u 38, tupO [.int (32768 + Z.modQ (x 0) 4096) (u 28), .int (q 0) (u 37)]), (u 53, tupO [.int (32768 + Z.modQ (x 1) 4096) (u 43), .int (q 1) (u 52)]), (u 68, tupO [.int (32768 + Z.modQ (x 2) 4096) (u 58), .int (q 2) (u 67)]), (u 71, lsto [.ref (u 2), .ref (u 5), .ref (u 8), .ref (u 11), .ref (u 14), .ref (u 38), .ref (u 53), .ref (u 68)] 0)], 0, okD 114 13935825614624381616860163246112468597251642013345407578894851974615126598254289709371154434790902993486639094125781238278783781000967031137078560469945769258074895285370476293818937885102684122518600814657 [L, sc, u 2, u 5, u 8, u 11, u 14, u 15, u 19] [(S (.call (.builtin "list.__getitem__") ⟨[.ref sc, .ref (u 19)], []⟩) [(sc, lsto items n), (u 19, slO (.int 2 (u 17)) (.int 6 (u 18)) .none)] 0 1 (ceLSl mSl sc (lsto items n) [.int (x 0) (t 0), .int (x 1) (t 1), .int (x 2) (t 2)]).f 0, fun _ => [L, u 2, u 5, u 8, u 11, u 14, u 15, sc, u 20, u 21, u 22, u 23, u 38, u 53, u 68, u 69, u 70, u 71]), (S (.call (.builtin "int.__pow__") ⟨[.int 10 (u 31), .int (1 + Z.modQ (x 0) 7) (u 35)], []⟩) [] 0 1 (cePow (p 0)).f 0, id), (S (.call (.builtin "int.__mod__") ⟨[.int (Z.divQ (x 0) 4096) (u 30), .int (p 0) (u 36)], []⟩) [] 0 1 (ceMod (q 0)).f 0, id), (S (.call (.builtin "int.__pow__") ⟨[.int 10 (u 46), .int (1 + Z.modQ (x 1) 7) (u 50)], []⟩) [] 0 1 (cePow (p 1)).f 0, id), (S (.call (.builtin "int.__mod__") ⟨[.int (Z.divQ (x 1) 4096) (u 45), .int (p 1) (u 51)], []⟩) [] 0 1 (ceMod (q 1)).f 0, id), (S (.call (.builtin "int.__pow__") ⟨[.int 10 (u 61), .int (1 + Z.modQ (x 2) 7) (u 65)], []⟩) [] 0 1 (cePow (p 2)).f 0, id), (S (.call (.builtin "int.__mod__") ⟨[.int (Z.divQ (x 2) 4096) (u 60), .int (p 2) (u 66)], []⟩) [] 0 1 (ceMod (q 2)).f 0, id)] True⟩ := by cases b1 <;> kernel_rfl!
theorem files_4t (P : Params) (b1 : Bool) (S : ST) (h : Int) (k L sc n : Nat) (items : List Value) (x p q : Nat → Int) (t u : Nat → Nat) :
    trimO [false, true, true, true, true, true, false, true, false, false, false, false, true, true, true, true, false, false, true] (run (ftP P b1 true) (KP P) S 432 c0 none 0 [] (flowZ (bd P 87) (envAt P 87 L)) [(L, fro [en h k nScr (.ref sc)] 1), (sc, lsto items n)] 0 (mkU 87 u) 18523889551335260181654615129264187330979816631908729364542379769781949712949920025807169383509297217090477821810513223997053634816280332075520822950278948030321144976105487504780022688422260317158686261251606311733934631079018586327893676097 [ceLSl mSl sc (lsto items n) [.int (x 0) (t 0), .int (x 1) (t 1), .int (x 2) (t 2), .int (x 3) (t 3)], cePow (p 0), ceMod (q 0), cePow (p 1), ceMod (q 1), cePow (p 2), ceMod (q 2), cePow (p 3), ceMod (q 3)] True) =
    some ⟨.fin (.done (.ret (.ref (u 86)))), [(u 2, tupO [.int 33188 (u 0), .int 123 (u 1)]), (u 5, tupO [.int 33261 (u 3), .int 1234 (u 4)]), (u 8, tupO [.int 16877 (u 6), .int 12345 (u 7)]), (u 11, tupO [.int 35309 (u 9), .int 1234567 (u 10)]), (u 14, tupO [.int 33188 (u 12), .int 0 (u 13)]), (sc, lsto items n), (u 38, tupO [.int (32768 + Z.modQ (x 0) 4096) (u 28), .int (q 0) (u 37)]), (u 53, tupO [.int (32768 + Z.modQ (x 1) 4096) (u 43), .int (q 1) (u 52)]), (u 68, tupO [.int (32768 + Z.modQ (x 2) 4096) (u 58), .int (q 2) (u 67)]), (u 83, tupO [.int (32768 + Z.modQ (x 3) 4096) (u 73), .int (q 3) (u 82)]), (u 86, lsto [.ref (u 2), .ref (u 5), .ref (u 8), .ref (u 11), .ref (u 14), .ref (u 38), .ref (u 53), .ref (u 68), .ref (u 83)] 0)], 0, okD 134 18523889551335260181654615129264187330979816631908729364542379769781949712949920025807169383509297217090477821810513223997053634816280332075520822950278948030321144976105487504780022688422260317158686261251606311733934631079018586327893676097 [L, sc, u 2, u 5, u 8, u 11, u 14, u 15, u 19] [(S (.call (.builtin "list.__getitem__") ⟨[.ref sc, .ref (u 19)], []⟩) [(sc, lsto items n), (u 19, slO (.int 2 (u 17)) (.int 6 (u 18)) .none)] 0 1 (ceLSl mSl sc (lsto items n) [.int (x 0) (t 0), .int (x 1) (t 1), .int (x 2) (t 2), .int (x 3) (t 3)]).f 0, fun _ => [L, u 2, u 5, u 8, u 11, u 14, u 15, sc, u 20, u 21, u 22, u 23, u 38, u 53, u 68, u 83, u 84, u 85, u 86]), (S (.call (.builtin "int.__pow__") ⟨[.int 10 (u 31), .int (1 + Z.modQ (x 0) 7) (u 35)], []⟩) [] 0 1 (cePow (p 0)).f 0, id), (S (.call (.builtin "int.__mod__") ⟨[.int (Z.divQ (x 0) 4096) (u 30), .int (p 0) (u 36)], []⟩) [] 0 1 (ceMod (q 0)).f 0, id), (S (.call (.builtin "int.__pow__") ⟨[.int 10 (u 46), .int (1 + Z.modQ (x 1) 7) (u 50)], []⟩) [] 0 1 (cePow (p 1)).f 0, id), (S (.call (.builtin "int.__mod__") ⟨[.int (Z.divQ (x 1) 4096) (u 45), .int (p 1) (u 51)], []⟩) [] 0 1 (ceMod (q 1)).f 0, id), (S (.call (.builtin "int.__pow__") ⟨[.int 10 (u 61), .int (1 + Z.modQ (x 2) 7) (u 65)], []⟩) [] 0 1 (cePow (p 2)).f 0, id), (S (.call (.builtin "int.__mod__") ⟨[.int (Z.divQ (x 2) 4096) (u 60), .int (p 2) (u 66)], []⟩) [] 0 1 (ceMod (q 2)).f 0, id), (S (.call (.builtin "int.__pow__") ⟨[.int 10 (u 76), .int (1 + Z.modQ (x 3) 7) (u 80)], []⟩) [] 0 1 (cePow (p 3)).f 0, id), (S (.call (.builtin "int.__mod__") ⟨[.int (Z.divQ (x 3) 4096) (u 75), .int (p 3) (u 81)], []⟩) [] 0 1 (ceMod (q 3)).f 0, id)] True⟩ := by cases b1 <;> kernel_rfl!
theorem files_4f (P : Params) (b1 : Bool) (S : ST) (h : Int) (k L sc n : Nat) (items : List Value) (x p q : Nat → Int) (t u : Nat → Nat) :
    trimO [false, true, true, true, true, true, false, true, false, false, false, false, true, true, true, true, false, false, true] (run (ftP P b1 false) (KP P) S 442 c0 none 0 [] (flowZ (bd P 87) (envAt P 87 L)) [(L, fro [en h k nScr (.ref sc)] 1), (sc, lsto items n)] 0 (mkU 87 u) 19889874954425263902964397786914124282643960017531215669406095779306370767059123549164317126126228314836853629422367451510716940473462748658095434184613578966878233512411942569791710280227901475148786283600040284091110817956431400004284339270459854913 [ceLSl mSl sc (lsto items n) [.int (x 0) (t 0), .int (x 1) (t 1), .int (x 2) (t 2), .int (x 3) (t 3)], cePow (p 0), ceMod (q 0), cePow (p 1), ceMod (q 1), cePow (p 2), ceMod (q 2), cePow (p 3), ceMod (q 3)] True) =
    some ⟨.fin (.done (.ret (.ref (u 86)))), [(u 2, tupO [.int 33188 (u 0), .int 123 (u 1)]), (u 5, tupO [.int 33261 (u 3), .int 1234 (u 4)]), (u 8, tupO [.int 16877 (u 6), .int 12345 (u 7)]), (u 11, tupO [.int 35309 (u 9), .int 1234567 (u 10)]), (u 14, tupO [.int 33188 (u 12), .int 0 (u 13)]), (sc, lsto items n), (u 38, tupO [.int (32768 + Z.modQ (x 0) 4096) (u 28), .int (q 0) (u 37)]), (u 53, tupO [.int (32768 + Z.modQ (x 1) 4096) (u 43), .int (q 1) (u 52)]), (u 68, tupO [.int (32768 + Z.modQ (x 2) 4096) (u 58), .int (q 2) (u 67)]), (u 83, tupO [.int (32768 + Z.modQ (x 3) 4096) (u 73), .int (q 3) (u 82)]), (u 86, lsto [.ref (u 2), .ref (u 5), .ref (u 8), .ref (u 11), .ref (u 14), .ref (u 38), .ref (u 53), .ref (u 68), .ref (u 83)] 0)], 0, okD 139 19889874954425263902964397786914124282643960017531215669406095779306370767059123549164317126126228314836853629422367451510716940473462748658095434184613578966878233512411942569791710280227901475148786283600040284091110817956431400004284339270459854913 [L, sc, u 2, u 5, u 8, u 11, u 14, u 15, u 19] [(S (.call (.builtin "list.__getitem__") ⟨[.ref sc, .ref (u 19)], []⟩) [(sc, lsto items n), (u 19, slO (.int 2 (u 17)) (.int 6 (u 18)) .none)] 0 1 (ceLSl mSl sc (lsto items n) [.int (x 0) (t 0), .int (x 1) (t 1), .int (x 2) (t 2), .int (x 3) (t 3)]).f 0, fun _ => [L, u 2, u 5, u 8, u 11, u 14, u 15, sc, u 20, u 21, u 22, u 23, u 38, u 53, u 68, u 83, u 84, u 85, u 86]), (S (.call (.builtin "int.__pow__") ⟨[.int 10 (u 31), .int (1 + Z.modQ (x 0) 7) (u 35)], []⟩) [] 0 1 (cePow (p 0)).f 0, id), (S (.call (.builtin "int.__mod__") ⟨[.int (Z.divQ (x 0) 4096) (u 30), .int (p 0) (u 36)], []⟩) [] 0 1 (ceMod (q 0)).f 0, id), (S (.call (.builtin "int.__pow__") ⟨[.int 10 (u 46), .int (1 + Z.modQ (x 1) 7) (u 50)], []⟩) [] 0 1 (cePow (p 1)).f 0, id), (S (.call (.builtin "int.__mod__") ⟨[.int (Z.divQ (x 1) 4096) (u 45), .int (p 1) (u 51)], []⟩) [] 0 1 (ceMod (q 1)).f 0, id), (S (.call (.builtin "int.__pow__") ⟨[.int 10 (u 61), .int (1 + Z.modQ (x 2) 7) (u 65)], []⟩) [] 0 1 (cePow (p 2)).f 0, id), (S (.call (.builtin "int.__mod__") ⟨[.int (Z.divQ (x 2) 4096) (u 60), .int (p 2) (u 66)], []⟩) [] 0 1 (ceMod (q 2)).f 0, id), (S (.call (.builtin "int.__pow__") ⟨[.int 10 (u 76), .int (1 + Z.modQ (x 3) 7) (u 80)], []⟩) [] 0 1 (cePow (p 3)).f 0, id), (S (.call (.builtin "int.__mod__") ⟨[.int (Z.divQ (x 3) 4096) (u 75), .int (p 3) (u 81)], []⟩) [] 0 1 (ceMod (q 3)).f 0, id)] True⟩ := by cases b1 <;> kernel_rfl!
end Mine
end
-- V17
section
open PySem PySem.Spec PySem.Calls PyProof.Rows PySem.W PySem.W.X
namespace Mine
/-- a file's tuple: address, mode and token, size and token -/
structure Row where
  a : Nat
  m : Int
  tm : Nat
  s : Int
  ts : Nat
noncomputable def Row.e (r : Row) : Ent := (r.a, tupO [.int r.m r.tm, .int r.s r.ts])
noncomputable def rowsE (rs : List Row) : List Ent := rs.map Row.e
noncomputable def filesO (rs : List Row) : Obj := lsto (rs.map fun r => .ref r.a) 0
noncomputable def mkRows : List (Int × Int) → (Nat → Nat) → List Row
  | [], _ => []
  | x :: l, u => ⟨u 0, x.1, u 1, x.2, u 2⟩ :: mkRows l fun i => u (i + 3)
noncomputable def baseF : List (Int × Int) := [(33188, 123), (33261, 1234), (16877, 12345), (35309, 1234567), (33188, 0)]
noncomputable def fPow (x : Int) : Nat := (1 + Int.fmod x 7).toNat
noncomputable def fOf (x : Int) : Int × Int := (32768 + Int.fmod x 4096, Int.fmod (Int.fdiv x 4096) (10 ^ fPow x))
noncomputable def filesD (xs : List Int) : List (Int × Int) := baseF ++ xs.map fOf
noncomputable def filesFn (sc : Nat) (o : Obj) (xs : List Int) : CFn := fun us => (.ok (.ret (.ref (getU us 0))), (sc, o) :: (getU us 0, filesO (mkRows (filesD xs) fun i => getU us (i + 1))) :: rowsE (mkRows (filesD xs) fun i => getU us (i + 1)))
theorem seen87 (P : Params) : FnSeen P 87 86 := ⟨by kernel_rfl!, by kernel_rfl!, by kernel_rfl!, by kernel_rfl!, by kernel_rfl!, by kernel_rfl!, by kernel_rfl!, by kernel_rfl!, by kernel_rfl!⟩
theorem bind87 (P : Params) (v : Value) : bindArgs (fd P 87) ⟨[v], []⟩ = .pure [(nScr, v)] := bind_of (by kernel_rfl!)
theorem ent87 (P : Params) (S : ST) (j sc : Nat) (o : Obj) (v : Value) (u : Nat → Nat) : trimO [true, true] (run P (KP P) S 40 c0 none 0 [] (entZ (fd P 87) 87 (bd P 87) [(nScr, v)]) [(sc, o)] j (mkU 2 u) (2 * (1 + 64)) [] True) =
  some ⟨.fin (.again (.func (bd P 87) (envAt P 87 (u 0)))), [(sc, o), (u 0, fro [en (hs P nScr) (u 1) nScr v] 1)], j, okD 2 (2 * (1 + 64)) [sc, u 0] [] True⟩ := by kernel_rfl!
theorem perm_files (A E : List Ent) (x y : Ent) : (A ++ x :: (E ++ [y]) ++ []).Perm (x :: y :: (A ++ E)) := by
  rw [List.append_nil]
  refine List.perm_middle.trans (List.Perm.cons x ?_)
  rw [← List.append_assoc]
  exact List.perm_append_comm
theorem Rel.cast {J : Nat → Array GenState → Prop} {B : Addr → Option Obj} {os : OsState} {dr : Drawn} {H H' : List Ent} {j : Nat} {s : Shared} (e : H = H') (R : Rel J B os dr H j s) : Rel J B os dr H' j s := e ▸ R
section
variable {w : World} {J : Nat → Array GenState → Prop} {d : Nat}
noncomputable def intV (xs : List (Int × Nat)) : List Value := xs.map fun p => .int p.1 p.2
theorem fmod7 (x : Int) : 1 ≤ fPow x ∧ fPow x ≤ 7 ∧ 1 + Int.fmod x 7 = (fPow x : Int) := by
  have h1 := Int.fmod_nonneg_of_pos x (b := 7) (by omega)
  have h2 := Int.fmod_lt_of_pos x (b := 7) (by omega)
  unfold fPow
  omega
theorem powS {j : Nat} {K : Frag} (x : Int) (t u : Nat) : Spec w K d J (.call (.builtin "int.__pow__") ⟨[.int 10 t, .int (1 + Z.modQ x 7) u], []⟩) [] j 1 (cePow (10 ^ fPow x)).f j := by
  obtain ⟨h1, h2, h3⟩ := fmod7 x
  rw [← Z.modQ_eq, h3]
  exact specPow t u _ h1 h2
theorem modS {j : Nat} {K : Frag} (x : Int) (t u : Nat) : Spec w K d J (.call (.builtin "int.__mod__") ⟨[.int (Z.divQ x 4096) t, .int (10 ^ fPow x) u], []⟩) [] j 1 (ceMod (fOf x).2).f j := by
  obtain ⟨h1, h2, h3⟩ := fmod7 x
  rw [← Z.divQ_eq]
  exact specModP t u _ h1 h2 rfl
set_option maxHeartbeats 4000000 in
theorem specFiles (hd : d ≤ 860) {sc n tS : Nat} {items : List Value} {xs : List (Int × Nat)} (h4 : xs.length ≤ 4) (hsz : items.length ≤ sizeLine) (hv : slicePick ⟨items⟩ (some 2) (some 6) none = ⟨intV xs⟩) :
    Spec w (KP w.params) d J (.call (.ref 87) ⟨[.ref sc], []⟩) [(sc, lsto items n)] 0 (1 + 3 * (5 + xs.length)) (filesFn sc (lsto items n) (xs.map (·.1))) 0 := by
  have key : Spec w (KP w.params) (d + 16 - 16) J (.call (.ref 87) ⟨[.ref sc], []⟩) [(sc, lsto items n)] 0 (1 + 3 * (5 + xs.length)) (filesFn sc (lsto items n) (xs.map (·.1))) 0 := by
    refine fn_spec rfl (seen87 _).ok (bind87 _ _) (by omega) (by omega) (fun u => ent87 w.params _ 0 _ _ _ u) (fun u => okD_of _ _ _ _ trivial trivial) fun u A B os dr s R hA hK Rl hR => ?_
    have hA' := hA.deeper (by omega) (envAt w.params 87 (u 0))
    have Rl' := Rl.perm (List.Perm.swap _ _ _)
    have h0 : 14 ≤ d + 16 := by omega
    refine codeAny_func ?_
    have spS : ∀ (v : Nat → Nat), Spec w (KP w.params) (d + 16) J (.call (.builtin "list.__getitem__") ⟨[.ref sc, .ref (v 19)], []⟩) [(sc, lsto items n), (v 19, slO (.int 2 (v 17)) (.int 6 (v 18)) .none)] 0 1 (ceLSl mSl sc (lsto items n) (intV xs)).f 0 := fun v =>
      specLSl mSl (.int _ _) (.int _ _) .none (by decide) hsz hv
    have mq : ∀ x : Int, Z.modQ x 4096 = Int.fmod x 4096 := fun x => by rw [← Z.modQ_eq]
    cases hb : f2 w
    · have hP : ftP w.params (f1 w) false = w.params := hb ▸ fT_eq w
      rcases xs with _ | ⟨x0, _ | ⟨x1, _ | ⟨x2, _ | ⟨x3, _ | ⟨x4, xs⟩⟩⟩⟩⟩
      · refine flow_front2 hP hA' h0 hK (Hp := [_, _]) (rest := []) Rl' (fun v => files_0f w.params _ _ _ _ (u 0) sc n items (fun i => match i with | _ => 0) (fun i => match i with | _ => 0) (fun i => match i with | _ => 0) (fun i => match i with | _ => 0) v) (fun v => okD_of _ _ _ _ ⟨spS v, trivial⟩ trivial) fun v s' R' => hR [v 26, v 2, v 0, v 1, v 5, v 3, v 4, v 8, v 6, v 7, v 11, v 9, v 10, v 14, v 12, v 13] s' rfl ?_
        try simp only [mq] at R'
        exact Rel.cast (by kernel_rfl!) (R'.perm (perm_files [_, _, _, _, _] [] _ _))
      · refine flow_front2 hP hA' h0 hK (Hp := [_, _]) (rest := []) Rl' (fun v => files_1f w.params _ _ _ _ (u 0) sc n items (fun i => match i with  | _ => x0.1) (fun i => match i with  | _ => 10 ^ fPow x0.1) (fun i => match i with  | _ => (fOf x0.1).2) (fun i => match i with  | _ => x0.2) v) (fun v => okD_of _ _ _ _ ⟨spS v, powS x0.1 _ _, modS x0.1 _ _, trivial⟩ trivial) fun v s' R' => hR [v 41, v 2, v 0, v 1, v 5, v 3, v 4, v 8, v 6, v 7, v 11, v 9, v 10, v 14, v 12, v 13, v 38, v 28, v 37] s' rfl ?_
        try simp only [mq] at R'
        exact Rel.cast (by kernel_rfl!) (R'.perm (perm_files [_, _, _, _, _] [_] _ _))
      · refine flow_front2 hP hA' h0 hK (Hp := [_, _]) (rest := []) Rl' (fun v => files_2f w.params _ _ _ _ (u 0) sc n items (fun i => match i with | 0 => x0.1 | _ => x1.1) (fun i => match i with | 0 => 10 ^ fPow x0.1 | _ => 10 ^ fPow x1.1) (fun i => match i with | 0 => (fOf x0.1).2 | _ => (fOf x1.1).2) (fun i => match i with | 0 => x0.2 | _ => x1.2) v) (fun v => okD_of _ _ _ _ ⟨spS v, powS x0.1 _ _, modS x0.1 _ _, powS x1.1 _ _, modS x1.1 _ _, trivial⟩ trivial) fun v s' R' => hR [v 56, v 2, v 0, v 1, v 5, v 3, v 4, v 8, v 6, v 7, v 11, v 9, v 10, v 14, v 12, v 13, v 38, v 28, v 37, v 53, v 43, v 52] s' rfl ?_
        try simp only [mq] at R'
        exact Rel.cast (by kernel_rfl!) (R'.perm (perm_files [_, _, _, _, _] [_, _] _ _))
      · refine flow_front2 hP hA' h0 hK (Hp := [_, _]) (rest := []) Rl' (fun v => files_3f w.params _ _ _ _ (u 0) sc n items (fun i => match i with | 0 => x0.1 | 1 => x1.1 | _ => x2.1) (fun i => match i with | 0 => 10 ^ fPow x0.1 | 1 => 10 ^ fPow x1.1 | _ => 10 ^ fPow x2.1) (fun i => match i with | 0 => (fOf x0.1).2 | 1 => (fOf x1.1).2 | _ => (fOf x2.1).2) (fun i => match i with | 0 => x0.2 | 1 => x1.2 | _ => x2.2) v) (fun v => okD_of _ _ _ _ ⟨spS v, powS x0.1 _ _, modS x0.1 _ _, powS x1.1 _ _, modS x1.1 _ _, powS x2.1 _ _, modS x2.1 _ _, trivial⟩ trivial) fun v s' R' => hR [v 71, v 2, v 0, v 1, v 5, v 3, v 4, v 8, v 6, v 7, v 11, v 9, v 10, v 14, v 12, v 13, v 38, v 28, v 37, v 53, v 43, v 52, v 68, v 58, v 67] s' rfl ?_
        try simp only [mq] at R'
        exact Rel.cast (by kernel_rfl!) (R'.perm (perm_files [_, _, _, _, _] [_, _, _] _ _))
      · refine flow_front2 hP hA' h0 hK (Hp := [_, _]) (rest := []) Rl' (fun v => files_4f w.params _ _ _ _ (u 0) sc n items (fun i => match i with | 0 => x0.1 | 1 => x1.1 | 2 => x2.1 | _ => x3.1) (fun i => match i with | 0 => 10 ^ fPow x0.1 | 1 => 10 ^ fPow x1.1 | 2 => 10 ^ fPow x2.1 | _ => 10 ^ fPow x3.1) (fun i => match i with | 0 => (fOf x0.1).2 | 1 => (fOf x1.1).2 | 2 => (fOf x2.1).2 | _ => (fOf x3.1).2) (fun i => match i with | 0 => x0.2 | 1 => x1.2 | 2 => x2.2 | _ => x3.2) v) (fun v => okD_of _ _ _ _ ⟨spS v, powS x0.1 _ _, modS x0.1 _ _, powS x1.1 _ _, modS x1.1 _ _, powS x2.1 _ _, modS x2.1 _ _, powS x3.1 _ _, modS x3.1 _ _, trivial⟩ trivial) fun v s' R' => hR [v 86, v 2, v 0, v 1, v 5, v 3, v 4, v 8, v 6, v 7, v 11, v 9, v 10, v 14, v 12, v 13, v 38, v 28, v 37, v 53, v 43, v 52, v 68, v 58, v 67, v 83, v 73, v 82] s' rfl ?_
        try simp only [mq] at R'
        exact Rel.cast (by kernel_rfl!) (R'.perm (perm_files [_, _, _, _, _] [_, _, _, _] _ _))
      · exfalso; clear hsz hv hR spS hP; simp only [List.length_cons] at h4; omega
    · have hP : ftP w.params (f1 w) true = w.params := hb ▸ fT_eq w
      rcases xs with _ | ⟨x0, _ | ⟨x1, _ | ⟨x2, _ | ⟨x3, _ | ⟨x4, xs⟩⟩⟩⟩⟩
      · refine flow_front2 hP hA' h0 hK (Hp := [_, _]) (rest := []) Rl' (fun v => files_0t w.params _ _ _ _ (u 0) sc n items (fun i => match i with | _ => 0) (fun i => match i with | _ => 0) (fun i => match i with | _ => 0) (fun i => match i with | _ => 0) v) (fun v => okD_of _ _ _ _ ⟨spS v, trivial⟩ trivial) fun v s' R' => hR [v 26, v 2, v 0, v 1, v 5, v 3, v 4, v 8, v 6, v 7, v 11, v 9, v 10, v 14, v 12, v 13] s' rfl ?_
        try simp only [mq] at R'
        exact Rel.cast (by kernel_rfl!) (R'.perm (perm_files [_, _, _, _, _] [] _ _))
      · refine flow_front2 hP hA' h0 hK (Hp := [_, _]) (rest := []) Rl' (fun v => files_1t w.params _ _ _ _ (u 0) sc n items (fun i => match i with  | _ => x0.1) (fun i => match i with  | _ => 10 ^ fPow x0.1) (fun i => match i with  | _ => (fOf x0.1).2) (fun i => match i with  | _ => x0.2) v) (fun v => okD_of _ _ _ _ ⟨spS v, powS x0.1 _ _, modS x0.1 _ _, trivial⟩ trivial) fun v s' R' => hR [v 41, v 2, v 0, v 1, v 5, v 3, v 4, v 8, v 6, v 7, v 11, v 9, v 10, v 14, v 12, v 13, v 38, v 28, v 37] s' rfl ?_
        try simp only [mq] at R'
        exact Rel.cast (by kernel_rfl!) (R'.perm (perm_files [_, _, _, _, _] [_] _ _))
      · refine flow_front2 hP hA' h0 hK (Hp := [_, _]) (rest := []) Rl' (fun v => files_2t w.params _ _ _ _ (u 0) sc n items (fun i => match i with | 0 => x0.1 | _ => x1.1) (fun i => match i with | 0 => 10 ^ fPow x0.1 | _ => 10 ^ fPow x1.1) (fun i => match i with | 0 => (fOf x0.1).2 | _ => (fOf x1.1).2) (fun i => match i with | 0 => x0.2 | _ => x1.2) v) (fun v => okD_of _ _ _ _ ⟨spS v, powS x0.1 _ _, modS x0.1 _ _, powS x1.1 _ _, modS x1.1 _ _, trivial⟩ trivial) fun v s' R' => hR [v 56, v 2, v 0, v 1, v 5, v 3, v 4, v 8, v 6, v 7, v 11, v 9, v 10, v 14, v 12, v 13, v 38, v 28, v 37, v 53, v 43, v 52] s' rfl ?_
        try simp only [mq] at R'
        exact Rel.cast (by kernel_rfl!) (R'.perm (perm_files [_, _, _, _, _] [_, _] _ _))
      · refine flow_front2 hP hA' h0 hK (Hp := [_, _]) (rest := []) Rl' (fun v => files_3t w.params _ _ _ _ (u 0) sc n items (fun i => match i with | 0 => x0.1 | 1 => x1.1 | _ => x2.1) (fun i => match i with | 0 => 10 ^ fPow x0.1 | 1 => 10 ^ fPow x1.1 | _ => 10 ^ fPow x2.1) (fun i => match i with | 0 => (fOf x0.1).2 | 1 => (fOf x1.1).2 | _ => (fOf x2.1).2) (fun i => match i with | 0 => x0.2 | 1 => x1.2 | _ => x2.2) v) (fun v => okD_of _ _ _ _ ⟨spS v, powS x0.1 _ _, modS x0.1 _ _, powS x1.1 _ _, modS x1.1 _ _, powS x2.1 _ _, modS x2.1 _ _, trivial⟩ trivial) fun v s' R' => hR [v 71, v 2, v 0, v 1, v 5, v 3, v 4, v 8, v 6, v 7, v 11, v 9, v 10, v 14, v 12, v 13, v 38, v 28, v 37, v 53, v 43, v 52, v 68, v 58, v 67] s' rfl ?_
        try simp only [mq] at R'
        exact Rel.cast (by kernel_rfl!) (R'.perm (perm_files [_, _, _, _, _] [_, _, _] _ _))
      · refine flow_front2 hP hA' h0 hK (Hp := [_, _]) (rest := []) Rl' (fun v => files_4t w.params _ _ _ _ (u 0) sc n items (fun i => match i with | 0 => x0.1 | 1 => x1.1 | 2 => x2.1 | _ => x3.1) (fun i => match i with | 0 => 10 ^ fPow x0.1 | 1 => 10 ^ fPow x1.1 | 2 => 10 ^ fPow x2.1 | _ => 10 ^ fPow x3.1) (fun i => match i with | 0 => (fOf x0.1).2 | 1 => (fOf x1.1).2 | 2 => (fOf x2.1).2 | _ => (fOf x3.1).2) (fun i => match i with | 0 => x0.2 | 1 => x1.2 | 2 => x2.2 | _ => x3.2) v) (fun v => okD_of _ _ _ _ ⟨spS v, powS x0.1 _ _, modS x0.1 _ _, powS x1.1 _ _, modS x1.1 _ _, powS x2.1 _ _, modS x2.1 _ _, powS x3.1 _ _, modS x3.1 _ _, trivial⟩ trivial) fun v s' R' => hR [v 86, v 2, v 0, v 1, v 5, v 3, v 4, v 8, v 6, v 7, v 11, v 9, v 10, v 14, v 12, v 13, v 38, v 28, v 37, v 53, v 43, v 52, v 68, v 58, v 67, v 83, v 73, v 82] s' rfl ?_
        try simp only [mq] at R'
        exact Rel.cast (by kernel_rfl!) (R'.perm (perm_files [_, _, _, _, _] [_, _, _, _] _ _))
      · exfalso; clear hsz hv hR spS hP; simp only [List.length_cons] at h4; omega
  rwa [Nat.add_sub_cancel] at key
end
end Mine
end
-- V18
section
open PySem PySem.Spec PySem.Calls PyProof.Rows PySem.W PySem.W.X
namespace Mine
/-! contracts on lists of any length -/
noncomputable def ceNx (m : List Bool) (it l : Nat) (vs : List Value) (n i : Nat) (v : Value) : CE := ⟨some "list_iterator.__next__", m, 0, fun _ => (.ok (.ret v), [(it, lstIt (.ref l) ((i + 1 : Nat) : Int)), (l, lsto vs n)]), 0, noH⟩
noncomputable def ceAp (m : List Bool) (l : Nat) (vs : List Value) (n : Nat) (x : Value) : CE := ⟨some "list.append", m, 0, fun _ => (.ok (.ret .none), [(l, lsto (vs ++ [x]) (n + 1))]), 0, noH⟩
noncomputable def cePop (m : List Bool) (l : Nat) (vs : List Value) (n : Nat) (v : Value) : CE := ⟨some "list.pop", m, 0, fun _ => (.ok (.ret v), [(l, lsto vs (n + 1))]), 0, noH⟩
noncomputable def ceRm (m : List Bool) (l : Nat) (vs : List Value) (n : Nat) : CE := ⟨some "list.remove", m, 0, fun _ => (.ok (.ret .none), [(l, lsto vs (n + 1))]), 0, noH⟩
noncomputable def ceHas (m : List Bool) (l : Nat) (o : Obj) (b : Bool) : CE := ⟨some "list.__contains__", m, 0, fun _ => (.ok (.ret (.bool b)), [(l, o)]), 0, noH⟩
noncomputable def ceLen (m : List Bool) (l : Nat) (vs : List Value) (n : Nat) : CE := ⟨some "list.__len__", m, 1, fun us => (.ok (.ret (.int (vs.length : Int) (getU us 0))), [(l, lsto vs n)]), 0, noH⟩
noncomputable def ceAt (m : List Bool) (l : Nat) (o : Obj) (v : Value) : CE := ⟨some "list.__getitem__", m, 0, fun _ => (.ok (.ret v), [(l, o)]), 0, noH⟩
section
variable {w : World} {K : Frag} {J : Nat → Array GenState → Prop} {B : Addr → Option Obj} {os : OsState} {dr : Drawn} {d : Nat}
theorem Rel.isL {H : List Ent} {j i l n : Nat} {vs : List Value} {s : Shared} (R : Rel J B os dr H j s) (e : getI H i = some (l, lsto vs n)) : s.heap.get? l = some { cls := .type "list", dict := none, data := .seq ⟨vs⟩ n, slots := #[] } := R.at e
theorem Rel.isList {H : List Ent} {j i l n : Nat} {vs : List Value} {s : Shared} (R : Rel J B os dr H j s) (e : getI H i = some (l, lsto vs n)) : s.heap.IsList l ⟨vs⟩ := ⟨_, R.at e, rfl, n, rfl⟩
theorem sizeOk {k : Nat} (h : k ≤ 1000) : k ≤ sizeLine := by rw [sizeLine_eq]; omega
theorem Rel.upd {i : Nat} {H H' : List Ent} {j : Nat} {p : Ent} {o : Obj} {f : Obj → Obj} {s : Shared} (R : Rel J B os dr H j s) (e : getI H i = some p) (ho : f p.2 = o) (hf : o.isFreed = false) (hH : setI H i (p.1, o) = H') : Rel J B os dr H' j { s with heap := s.heap.update p.1 f } := by
  subst ho; subst hH
  exact R.update e hf
theorem map_push (vs : List Value) (n : Nat) (x : Value) : Obj.mapSeq (fun xs => xs.push x) (lsto vs n) = lsto (vs ++ [x]) (n + 1) := by
  unfold Obj.mapSeq lsto
  simp
theorem map_erase (vs : List Value) (n k : Nat) (h : k < vs.length) : Obj.mapSeq (fun xs => xs.eraseIdxIfInBounds k) (lsto vs n) = lsto (vs.eraseIdx k) (n + 1) := by
  unfold Obj.mapSeq lsto
  have e : (Array.mk vs).eraseIdxIfInBounds k = ⟨vs.eraseIdx k⟩ := by
    unfold Array.eraseIdxIfInBounds
    rw [dif_pos (by simpa using h)]
    simp
  simp only [e]
  have : (vs.eraseIdx k).length ≠ vs.length := by rw [List.length_eraseIdx_of_lt h]; omega
  simp [this]
theorem specNx {it l n i : Nat} {vs : List Value} {v : Value} (m : List Bool) (hv : vs[i]? = some v) :
    Spec w K d J (.call (.builtin "list_iterator.__next__") ⟨[.ref it], []⟩) [(it, lstIt (.ref l) i), (l, lsto vs n)] 0 0 (ceNx m it l vs n i v).f 0 := by
  refine spec_val (gv := fun _ => v) (gH := fun _ => [(it, lstIt (.ref l) ((i + 1 : Nat) : Int)), (l, lsto vs n)]) fun A B os dr s Q hA hK R hQ => ?_
  have ho := R.at (i := 0) rfl
  have hol := R.at (i := 1) rfl
  have hit : s.heap.IsListIter it l i := ⟨_, ho, rfl, rfl⟩
  refine wpAny_call_entry slot_listiter_next hit.typeIs entry_listiter_next ?_ (args_listiter_next _)
  show wpAny _ _ (field (.ref it) 0 >>= _) _ _ s
  refine wpAny_bind (wpAny_field ho rfl (x := .ref l) rfl ?_)
  show wpAny _ _ (if (Value.ref l == Value.none) = true then _ else _) _ _ s
  rw [if_neg (show ¬ ((Value.ref l == Value.none) = true) from Bool.false_ne_true)]
  show wpAny _ _ (field (.ref it) 1 >>= _) _ _ s
  refine wpAny_bind (wpAny_field ho rfl (x := .int i 0) rfl ?_)
  show wpAny _ _ (seqItems? (.ref l) >>= _) _ _ s
  refine wpAny_bind (wpAny_seqItems hol rfl ?_)
  have hv' : (Array.mk vs)[i]? = some v := by simpa using hv
  simp only [Int.toNat_natCast, hv']
  refine wpAny_bind (wpAny_setField ho rfl (by simp) (wpAny_pure ⟨v, rfl, ?_⟩))
  exact hQ [] _ rfl (R.upd (i := 0) rfl (by rw [show ((i + 1 : Nat) : Int) = (i : Int) + 1 from by push_cast; rfl]; rfl) rfl rfl)
theorem specAp {l n : Nat} {vs : List Value} {x : Value} (m : List Bool) (hs : vs.length ≤ 1000) :
    Spec w K d J (.call (.builtin "list.append") ⟨[.ref l, x], []⟩) [(l, lsto vs n)] 0 0 (ceAp m l vs n x).f 0 := by
  refine spec_val (gv := fun _ => .none) (gH := fun _ => [(l, lsto (vs ++ [x]) (n + 1))]) fun A B os dr s Q hA hK R hQ => ?_
  refine call_meets F.slot_list_append (R.isList (i := 0) rfl).typeIs F.entry_list_append (F.args_list_append_2 _ _) (list_append l ⟨vs⟩ n x (sizeOk hs)) ⟨R.at (i := 0) rfl, ?_⟩
  exact hQ [] _ rfl (R.upd (i := 0) rfl (map_push vs n x) rfl rfl)
theorem specPop {l n : Nat} {vs vs' : List Value} {v : Value} (m : List Bool) (hs : vs.length ≤ 1000) (hv : vs = vs' ++ [v]) :
    Spec w K d J (.call (.builtin "list.pop") ⟨[.ref l], []⟩) [(l, lsto vs n)] 0 0 (cePop m l vs' n v).f 0 := by
  refine spec_val (gv := fun _ => v) (gH := fun _ => [(l, lsto vs' (n + 1))]) fun A B os dr s Q hA hK R hQ => ?_
  refine call_meets F.slot_list_pop (R.isList (i := 0) rfl).typeIs F.entry_list_pop (F.args_list_pop_1 _) (MeetsSeq.list_pop_last l ⟨vs⟩ n v (by subst hv; simp) (sizeOk hs)) ⟨R.at (i := 0) rfl, ?_⟩
  refine hQ [] _ rfl (R.upd (i := 0) rfl ?_ rfl rfl)
  have := map_erase vs n (vs.length - 1) (by subst hv; simp)
  rw [show vs.eraseIdx (vs.length - 1) = vs' from by subst hv; simp [List.eraseIdx_append_of_length_le]] at this
  exact this
theorem specRm {l n : Nat} {vs : List Value} {x : Str} {t : Nat} (m : List Bool) (e : Value → Bool) (k : Nat) (hs : vs.length ≤ 1000) (he : ∀ y ∈ vs, MeetsSeq.EqGives y (.str x t) (e y)) (hk : k < vs.length) (hit : e vs[k] = true) (hno : ∀ i (h : i < vs.length), i < k → e vs[i] = false) :
    Spec w K d J (.call (.builtin "list.remove") ⟨[.ref l, .str x t], []⟩) [(l, lsto vs n)] 0 0 (ceRm m l (vs.eraseIdx k) n).f 0 := by
  refine spec_val (gv := fun _ => .none) (gH := fun _ => [(l, lsto (vs.eraseIdx k) (n + 1))]) fun A B os dr s Q hA hK R hQ => ?_
  refine call_meets F.slot_list_remove (R.isList (i := 0) rfl).typeIs F.entry_list_remove (F.args_list_remove_2 _ _) (MeetsSeq.list_remove l ⟨vs⟩ n (.str x t) e (fun y hy => he y (by simpa using hy)) k (by simpa using hk) (by simpa using hit) (fun i h h2 => by simpa using hno i (by simpa using h) h2) (sizeOk hs)) ⟨R.at (i := 0) rfl, ?_⟩
  exact hQ [] _ rfl (R.upd (i := 0) rfl (map_erase vs n k hk) rfl rfl)
theorem specHas {l n : Nat} {vs : List Value} {x : Int} {t : Nat} {b : Bool} (m : List Bool) (e : Value → Bool) (he : ∀ y ∈ vs, MeetsSeq.EqGives y (.int x t) (e y)) (hb : vs.any e = b) :
    Spec w K d J (.call (.builtin "list.__contains__") ⟨[.ref l, .int x t], []⟩) [(l, lsto vs n)] 0 0 (ceHas m l (lsto vs n) b).f 0 := by
  refine spec_val (gv := fun _ => .bool b) (gH := fun _ => [(l, lsto vs n)]) fun A B os dr s Q hA hK R hQ => ?_
  refine call_meets F.slot_list_contains (R.isList (i := 0) rfl).typeIs F.entry_list_contains (F.args_list_contains_2 _ _) (MeetsSeq.list_contains l ⟨vs⟩ n (.int x t) e (fun y hy => he y (by simpa using hy))) ⟨R.at (i := 0) rfl, ?_⟩
  rw [show (Array.mk vs).any e = b from by rw [← hb]; simp]
  exact hQ [] _ rfl R
theorem specLen {l n : Nat} {vs : List Value} (m : List Bool) :
    Spec w K d J (.call (.builtin "list.__len__") ⟨[.ref l], []⟩) [(l, lsto vs n)] 0 1 (ceLen m l vs n).f 0 := by
  refine spec_val (gv := fun us => .int (vs.length : Int) (getU us 0)) (gH := fun _ => [(l, lsto vs n)]) fun A B os dr s Q hA hK R hQ => ?_
  refine call_meets F.slot_list_len (R.isList (i := 0) rfl).typeIs F.entry_list_len (F.args_list_len_1 _) (AutoListH.list___len___list_0 l ⟨vs⟩ n) ⟨R.at (i := 0) rfl, ?_⟩
  exact hQ [s.toks] _ rfl (R.toks _)
end
end Mine
end
-- V18b
section
open PySem PySem.Spec PySem.Calls PyProof.Rows PySem.W PySem.W.X
namespace Mine
noncomputable def stopO (a : Nat) : Obj := { cls := .type "StopIteration", data := .fields ⟨[.ref a, .none, .none, .none, .bool false, .none]⟩ }
noncomputable def deadIt (i : Int) : Obj := { cls := .type "list_iterator", data := .fields ⟨[.none, .int i 0]⟩ }
noncomputable def ceNxE (m : List Bool) (it l : Nat) (o : Obj) (i : Nat) : CE := ⟨some "list_iterator.__next__", m, 2, fun us => (.error (.ref (getU us 1)), [(it, deadIt i), (l, o), (getU us 0, tupO []), (getU us 1, stopO (getU us 0))]), 0, noH⟩
theorem ownStop : ownMembersOf (.type "StopIteration") [] = #[] := by rfl
section
variable {w : World} {K : Frag} {J : Nat → Array GenState → Prop} {B : Addr → Option Obj} {os : OsState} {dr : Drawn} {d : Nat}
theorem spec_err {f : Value} {args : List Value} {Hi : List Ent} {j j' n : Nat} {gv : List Nat → Value} {gH : List Nat → List Ent}
    (h : ∀ (A : Around) (B : Addr → Option Obj) (os : OsState) (dr : Drawn) (s : Shared) (E : Value → Shared → Prop), AOk d A → KIn K B → Rel J B os dr Hi j s → (∀ us s', us.length = n → Rel J B os dr (gH us) j' s' → E (gv us) s') → wpAny (Mo w) A (call f args) (fun _ _ => False) E s) :
    Spec w K d J (.call f ⟨args, []⟩) Hi j n (fun us => (.error (gv us), gH us)) j' := by
  intro A B os dr s Q hA hK R hQ
  have z := h A B os dr s (fun v s' => Q (.error v) s') hA hK R hQ
  intro Γ p hΓ
  have y := z Γ p hΓ
  have e : call f args = .call (.call f ⟨args, []⟩) none false [] fun x => (match x with | .ok fl => (Sem.pure fl : Sem Flow) | .error e => .raise e).bind fun fl => match fl with | .ret v => pure v | _ => unsupported "internal:call-without-return-value" := rfl
  rw [e, Sem.wp_call] at y
  rw [Sem.wp_call]
  refine wpCode_mono (fun r s' q => ?_) y
  cases r with
  | error e => exact q
  | ok fl =>
    cases fl with
    | ret v => exact absurd q (by intro h; exact h)
    | next => exact (wp_unsup q).elim
    | brk => exact (wp_unsup q).elim
    | cont => exact (wp_unsup q).elim
theorem specNxE {it l n i : Nat} {vs : List Value} (m : List Bool) (hv : vs[i]? = none) :
    Spec w K d J (.call (.builtin "list_iterator.__next__") ⟨[.ref it], []⟩) [(it, lstIt (.ref l) i), (l, lsto vs n)] 0 2 (ceNxE m it l (lsto vs n) i).f 0 := by
  refine spec_err (gv := fun us => .ref (getU us 1)) (gH := fun us => [(it, deadIt i), (l, lsto vs n), (getU us 0, tupO []), (getU us 1, stopO (getU us 0))]) fun A B os dr s E hA hK R hE => ?_
  have ho := R.at (i := 0) rfl
  have hol := R.at (i := 1) rfl
  have hit : s.heap.IsListIter it l i := ⟨_, ho, rfl, rfl⟩
  refine wpAny_call_entry slot_listiter_next hit.typeIs entry_listiter_next ?_ (args_listiter_next _)
  show wpAny _ _ (field (.ref it) 0 >>= _) _ _ s
  refine wpAny_bind (wpAny_field ho rfl (x := .ref l) rfl ?_)
  show wpAny _ _ (if (Value.ref l == Value.none) = true then _ else _) _ _ s
  rw [if_neg (show ¬ ((Value.ref l == Value.none) = true) from Bool.false_ne_true)]
  show wpAny _ _ (field (.ref it) 1 >>= _) _ _ s
  refine wpAny_bind (wpAny_field ho rfl (x := .int i 0) rfl ?_)
  show wpAny _ _ (seqItems? (.ref l) >>= _) _ _ s
  refine wpAny_bind (wpAny_seqItems hol rfl ?_)
  have hv' : (Array.mk vs)[i]? = none := by simpa using hv
  simp only [Int.toNat_natCast, hv']
  refine wpAny_bind (wpAny_rule (wpAny_bind (wpAny_setField ho rfl (by simp) ?_)))
  show wpAny _ _ (newExc (.type "StopIteration") [] >>= _) _ _ _
  refine wpAny_bind ?_
  simp only [newExc, newTuple]
  refine wpAny_bind (wpAny_newObj_type ?_ (by size_fits))
  refine wpAny_bind (m := firstArgMember _ _) (wpAny_of_eq (a := Value.none) (by first | rfl | (simp only [firstArgMember]; rfl)) ?_)
  refine wpAny_newObj_type ?_ (by size_fits)
  simp only [raiseNew]
  refine wpAny_bind (wpAny_handled ?_)
  rw [show A.in1.handled = none from hA.1]
  refine wpAny_bind (wpAny_pure (wpAny_throw ?_))
  rw [ownStop]
  have R1 : Rel J B os dr [(it, deadIt i), (l, lsto vs n)] 0 { s with heap := s.heap.update it (Obj.mapFields fun x => x.setIfInBounds 0 Value.none) } := R.upd (i := 0) rfl rfl rfl rfl
  have R2 := (R1.alloc (o := tupO []) rfl)
  have R3 := R2.alloc (o := stopO (s.heap.update it (Obj.mapFields fun x => x.setIfInBounds 0 Value.none)).objs.size) rfl
  exact hE [_, _] _ rfl R3
end
end Mine
end
-- V19
section
open PySem PySem.Spec PySem.Calls PyProof.Rows PySem.W PySem.W.X
namespace Mine
noncomputable def nFiles : Str := ⟨⟨[102, 105, 108, 101, 115]⟩⟩
noncomputable def nRulers : Str := ⟨⟨[114, 117, 108, 101, 114, 115]⟩⟩
noncomputable def celO (v : Option Value) : Obj := { cls := .type "cell", data := .cell v }
noncomputable def envC (P : Params) (f L : Nat) (cells : List (Str × Addr)) : Env := { envAt P f L with cells := cells }
noncomputable def dumE : Expr := .Name (Str.ofString "x") default
noncomputable def asE : Stmt → Expr
  | .Assign _ e _ => e
  | .Return (some e) _ => e
  | .Expr e _ => e
  | _ => dumE
noncomputable def lcE : Expr → Expr
  | .ListComp e _ _ _ => e
  | e => e
noncomputable def lcG : Expr → List Comprehension
  | .ListComp _ g _ _ => g
  | _ => []
noncomputable def lcS : Expr → Scope
  | .ListComp _ _ s _ => s
  | _ => default
noncomputable def lcP : Expr → Pos
  | .ListComp _ _ _ p => p
  | _ => default
/-- the comprehensions of _law_told -/
noncomputable def tO (P : Params) : Expr := asE (stm P 106 0)
noncomputable def tI (P : Params) : Expr := lcE (tO P)
noncomputable def nRuler : Str := ⟨⟨[114, 117, 108, 101, 114]⟩⟩
noncomputable def nSize : Str := ⟨⟨[115, 105, 122, 101]⟩⟩
noncomputable def nPages : Str := ⟨⟨[112, 97, 103, 101, 115]⟩⟩
noncomputable def scO (sc : Scope) (env : Env) : Scope := { sc with names := sc.names.map fun (n, k) => if (k == .free && env.scope.kind == .function && env.kindOf n == some .cell) then (n, .cell) else (n, k) }
noncomputable def envK (env : Env) (sc : Scope) (D : Nat) (cells : List (Str × Addr)) : Env := { scope := scO sc env, locals := D, globals := env.globals, cells := cells, qual := env.qual, func := none, code := env.code, frame := env.frame, builtins := env.builtins }
noncomputable def dicO (es : List DictEntry) (n : Nat) : Obj := { cls := .type "dict", data := .dict ⟨es⟩ n }
noncomputable def tE1 (P : Params) (L c1 D1 c2 : Nat) : Env := envK (envC P 106 L [(nFiles, c1)]) (lcS (tO P)) D1 [(nRuler, c2), (nFiles, c1)]
noncomputable def tE2 (P : Params) (L c1 D1 c2 D2 : Nat) : Env := envK (tE1 P L c1 D1 c2) (lcS (tI P)) D2 [(nRuler, c2)]
noncomputable def ceStr (G : Str) : CE := ⟨none, [], 1, fun us => (.ok (.ret (.str G (getU us 0))), []), 0, noH⟩
noncomputable def ceSAdd (G : Str) : CE := ⟨some "str.__add__", [], 1, fun us => (.ok (.ret (.str G (getU us 0))), []), 0, noH⟩
noncomputable def ceKeep (m : List Bool) (a : Nat) (o : Obj) (G : Str) : CE := ⟨none, m, 1, fun us => (.ok (.ret (.str G (getU us 0))), [(a, o)]), 0, noH⟩
/-- append of a text or an int: its token is taken anew -/
noncomputable def ceApS (m : List Bool) (l : Nat) (vs : List Value) (n : Nat) (x : Str) : CE := ⟨some "list.append", m, 1, fun us => (.ok (.ret .none), [(l, lsto (vs ++ [.str x (getU us 0)]) (n + 1))]), 0, noH⟩
noncomputable def ceApI (m : List Bool) (l : Nat) (vs : List Value) (n : Nat) (x : Int) : CE := ⟨some "list.append", m, 1, fun us => (.ok (.ret .none), [(l, lsto (vs ++ [.int x (getU us 0)]) (n + 1))]), 0, noH⟩
section
variable {w : World} {K : Frag} {J : Nat → Array GenState → Prop} {d : Nat}
theorem specApS {l n t : Nat} {vs : List Value} {x : Str} (m : List Bool) (hs : vs.length ≤ 1000) :
    Spec w K d J (.call (.builtin "list.append") ⟨[.ref l, .str x t], []⟩) [(l, lsto vs n)] 0 1 (ceApS m l vs n x).f 0 :=
  (specAp (x := .str x t) m hs).weak fun us h => ⟨[t], rfl, rfl⟩
theorem specApI {l n t : Nat} {vs : List Value} {x : Int} (m : List Bool) (hs : vs.length ≤ 1000) :
    Spec w K d J (.call (.builtin "list.append") ⟨[.ref l, .int x t], []⟩) [(l, lsto vs n)] 0 1 (ceApI m l vs n x).f 0 :=
  (specAp (x := .int x t) m hs).weak fun us h => ⟨[t], rfl, rfl⟩
end
end Mine
end
-- V20
section
open PySem PySem.Spec PySem.Calls PyProof.Rows PySem.W PySem.W.X
namespace Mine
noncomputable def blank : Str := ⟨⟨[32]⟩⟩

theorem told_t0 (P : Params) (b1 b2 : Bool) (S : ST) (it acc fl n rl L c1 D1 c2 D2 i k ra tm ts : Nat) (ro : Obj) (F T G A1 A2 : Str) (m s : Int) (vs ws : List Value) (u : Nat → Nat) :
    trimO [true, true, true, true, true, false, false, false, true, true] (run (ftP P b1 b2) (KP P) S 102 c0 none 0 [] (den (.compLoop (tI P) 0 (.ref it) (.ref acc) (tE2 P L c1 D1 c2 D2))) [(ra, tupO [.int m tm, .int s ts]), (it, lstIt (.ref fl) (i : Int)), (fl, lsto vs n), (c2, celO (some (.ref rl))), (rl, ro), (acc, lsto ws k), (D2, dicO [] 0)] 0 (mkU 12 u) 533994753314468517522347301616343303373968587491552440822887008346008337103037459583051948650434 [ceNx [false, true, true] it fl vs n i (.ref ra), ceStr F, ceSAdd A1, ceStr T, ceKeep [false, false, true] rl ro G, ceSAdd A2, ceApS [false, false, true] acc ws k A2] True) =
    some ⟨.fin (.again (.compLoop (tI P) 0 (.ref it) (.ref acc) (tE2 P L c1 D1 c2 D2))), [(ra, tupO [(.int m tm), (.int s ts)]), (c2, celO (some (.ref rl))), (D2, dicO [en (hs P ⟨⟨[109, 111, 100, 101]⟩⟩) (u 3) (⟨⟨[109, 111, 100, 101]⟩⟩) (.int m tm), en (hs P ⟨⟨[115, 105, 122, 101]⟩⟩) (u 4) (⟨⟨[115, 105, 122, 101]⟩⟩) (.int s ts)] 2), (it, lstIt (.ref fl) (((i + 1) : Nat) : Int)), (fl, lsto (vs) n), (rl, ro), (acc, lsto (ws ++ [Value.str A2 (getU [u 11] 0)]) (k + 1))], 0, okD 53 533994753314468517522347301616343303373968587491552440822887008346008337103037459583051948650434 [ra, it, fl, c2, rl, acc, D2] [(S (.call (.builtin "list_iterator.__next__") ⟨[(.ref it)], []⟩) [(it, lstIt (.ref fl) (((i) : Nat) : Int)), (fl, lsto (vs) n)] 0 (ceNx [false, true, true] it fl vs n i (.ref ra)).n (ceNx [false, true, true] it fl vs n i (.ref ra)).f (ceNx [false, true, true] it fl vs n i (.ref ra)).j, fun _ => [ra, c2, rl, acc, D2, it, fl, u 0, u 1, u 2]), (S (.call (.ref 68) ⟨[(.int m tm)], []⟩) [] 0 (ceStr F).n (ceStr F).f (ceStr F).j, id), (S (.call (.builtin "str.__add__") ⟨[(.str F (u 5)), (.str ⟨⟨[32]⟩⟩ (u 6))], []⟩) [] 0 (ceSAdd A1).n (ceSAdd A1).f (ceSAdd A1).j, id), (S (.call (.type "str") ⟨[(.int s ts)], []⟩) [] 0 (ceStr T).n (ceStr T).f (ceStr T).j, id), (S (.call (.ref 94) ⟨[(.ref rl), (.str T (u 8))], []⟩) [(rl, ro)] 0 (ceKeep [false, false, true] rl ro G).n (ceKeep [false, false, true] rl ro G).f (ceKeep [false, false, true] rl ro G).j, fun _ => [ra, c2, acc, D2, it, fl, u 0, u 1, u 2, rl]), (S (.call (.builtin "str.__add__") ⟨[(.str A1 (u 7)), (.str G (u 9))], []⟩) [] 0 (ceSAdd A2).n (ceSAdd A2).f (ceSAdd A2).j, id), (S (.call (.builtin "list.append") ⟨[(.ref acc), (.str A2 (u 10))], []⟩) [(acc, lsto (ws) k)] 0 (ceApS [false, false, true] acc ws k A2).n (ceApS [false, false, true] acc ws k A2).f (ceApS [false, false, true] acc ws k A2).j, fun _ => [ra, c2, D2, it, fl, u 0, u 1, u 2, rl, acc])] True⟩ := by cases b1 <;> kernel_rfl!
theorem told_t1 (P : Params) (b1 b2 : Bool) (S : ST) (it acc fl n rl L c1 D1 c2 D2 i k ra tm ts : Nat) (ro : Obj) (F T G A1 A2 : Str) (m s : Int) (vs ws : List Value) (h : Nat → Int) (q : Nat → Nat) (dn : Nat) (v1 v2 : Value) (u : Nat → Nat) :
    trimO [true, true, true, true, true, false, false, false, true, true] (run (ftP P b1 b2) (KP P) S 102 c0 none 0 [] (den (.compLoop (tI P) 0 (.ref it) (.ref acc) (tE2 P L c1 D1 c2 D2))) [(ra, tupO [.int m tm, .int s ts]), (it, lstIt (.ref fl) (i : Int)), (fl, lsto vs n), (c2, celO (some (.ref rl))), (rl, ro), (acc, lsto ws k), (D2, dicO [en (h 0) (q 0) nMode v1, en (h 1) (q 1) nSize v2] dn)] 0 (mkU 12 u) 533994753314468517522347301616343303373968587491552440822887008346008337103037459583051948650434 [ceNx [false, true, true] it fl vs n i (.ref ra), ceStr F, ceSAdd A1, ceStr T, ceKeep [false, false, true] rl ro G, ceSAdd A2, ceApS [false, false, true] acc ws k A2] True) =
    some ⟨.fin (.again (.compLoop (tI P) 0 (.ref it) (.ref acc) (tE2 P L c1 D1 c2 D2))), [(ra, tupO [(.int m tm), (.int s ts)]), (c2, celO (some (.ref rl))), (D2, dicO [en (h 0) (q 0) (⟨⟨[109, 111, 100, 101]⟩⟩) (.int m tm), en (h 1) (q 1) (⟨⟨[115, 105, 122, 101]⟩⟩) (.int s ts)] dn), (it, lstIt (.ref fl) (((i + 1) : Nat) : Int)), (fl, lsto (vs) n), (rl, ro), (acc, lsto (ws ++ [Value.str A2 (getU [u 11] 0)]) (k + 1))], 0, okD 53 533994753314468517522347301616343303373968587491552440822887008346008337103037459583051948650434 [ra, it, fl, c2, rl, acc, D2] [(S (.call (.builtin "list_iterator.__next__") ⟨[(.ref it)], []⟩) [(it, lstIt (.ref fl) (((i) : Nat) : Int)), (fl, lsto (vs) n)] 0 (ceNx [false, true, true] it fl vs n i (.ref ra)).n (ceNx [false, true, true] it fl vs n i (.ref ra)).f (ceNx [false, true, true] it fl vs n i (.ref ra)).j, fun _ => [ra, c2, rl, acc, D2, it, fl, u 0, u 1, u 2]), (S (.call (.ref 68) ⟨[(.int m tm)], []⟩) [] 0 (ceStr F).n (ceStr F).f (ceStr F).j, id), (S (.call (.builtin "str.__add__") ⟨[(.str F (u 5)), (.str ⟨⟨[32]⟩⟩ (u 6))], []⟩) [] 0 (ceSAdd A1).n (ceSAdd A1).f (ceSAdd A1).j, id), (S (.call (.type "str") ⟨[(.int s ts)], []⟩) [] 0 (ceStr T).n (ceStr T).f (ceStr T).j, id), (S (.call (.ref 94) ⟨[(.ref rl), (.str T (u 8))], []⟩) [(rl, ro)] 0 (ceKeep [false, false, true] rl ro G).n (ceKeep [false, false, true] rl ro G).f (ceKeep [false, false, true] rl ro G).j, fun _ => [ra, c2, acc, D2, it, fl, u 0, u 1, u 2, rl]), (S (.call (.builtin "str.__add__") ⟨[(.str A1 (u 7)), (.str G (u 9))], []⟩) [] 0 (ceSAdd A2).n (ceSAdd A2).f (ceSAdd A2).j, id), (S (.call (.builtin "list.append") ⟨[(.ref acc), (.str A2 (u 10))], []⟩) [(acc, lsto (ws) k)] 0 (ceApS [false, false, true] acc ws k A2).n (ceApS [false, false, true] acc ws k A2).f (ceApS [false, false, true] acc ws k A2).j, fun _ => [ra, c2, D2, it, fl, u 0, u 1, u 2, rl, acc])] True⟩ := by cases b1 <;> kernel_rfl!
theorem told_e (P : Params) (b1 b2 : Bool) (S : ST) (it acc fl n L c1 D1 c2 D2 i : Nat) (o : Obj) (u : Nat → Nat) :
    trimO [false, true] (run (ftP P b1 b2) (KP P) S 10 c0 none 0 [] (den (.compLoop (tI P) 0 (.ref it) (.ref acc) (tE2 P L c1 D1 c2 D2))) [(it, lstIt (.ref fl) (i : Int)), (fl, o)] 0 (mkU 2 u) 20417 [ceNxE [true, true] it fl o i] True) =
    some ⟨.fin (.done .next), [(fl, o)], 0, okD 3 20417 [it, fl] [(S (.call (.builtin "list_iterator.__next__") ⟨[(.ref it)], []⟩) [(it, lstIt (.ref fl) (((i) : Nat) : Int)), (fl, o)] 0 (ceNxE [true, true] it fl o i).n (ceNxE [true, true] it fl o i).f (ceNxE [true, true] it fl o i).j, fun _ => [it, fl, u 0, u 1])] True⟩ := by cases b1 <;> kernel_rfl!

end Mine
end
-- V21
section
open PySem PySem.Spec PySem.Calls PyProof.Rows PySem.W PySem.W.X
namespace Mine
/-- the letters of an int -/
noncomputable def digL (s : Int) : List Nat := (Str.ofString (toString s)).cps.toList
noncomputable def delB (B : Addr → Option Obj) (a : Nat) : Addr → Option Obj := fun x => if x = a then none else B x
section
variable {w : World} {K : Frag} {J : Nat → Array GenState → Prop} {B : Addr → Option Obj} {os : OsState} {dr : Drawn} {d : Nat}
theorem Rel.borrow {H : List Ent} {j a : Nat} {o : Obj} {s : Shared} (R : Rel J B os dr H j s) (hb : B a = some o) : Rel J (delB B a) os dr ((a, o) :: H) j s := by
  refine ⟨⟨fun x o' e => ?_, fun p hp => ?_, ?_⟩, R.os, R.dr, R.gh⟩
  · unfold delB at e
    split at e
    · cases e
    · exact R.own.keep x o' e
  · rcases List.mem_cons.mp hp with rfl | hp
    · exact ⟨R.own.keep _ _ hb, if_pos rfl⟩
    · refine ⟨(R.own.own p hp).1, ?_⟩
      unfold delB
      split
      · rfl
      · exact (R.own.own p hp).2
  · rw [List.map_cons]
    refine List.nodup_cons.mpr ⟨fun hm => ?_, R.own.nd⟩
    obtain ⟨p, hp, e⟩ := List.mem_map.mp hm
    have := (R.own.own p hp).2
    rw [show p.1 = a from e, hb] at this
    cases this
theorem Rel.giveback {H : List Ent} {j a : Nat} {o : Obj} {s : Shared} (R : Rel J (delB B a) os dr ((a, o) :: H) j s) (hb : B a = some o) : Rel J B os dr H j s := by
  have nd := List.nodup_cons.mp (by have := R.own.nd; rwa [List.map_cons] at this)
  refine ⟨⟨fun x o' e => ?_, fun p hp => ?_, nd.2⟩, R.os, R.dr, R.gh⟩
  · by_cases hx : x = a
    · subst hx
      rw [hb] at e
      cases e
      exact (R.own.own _ (.head _)).1
    · exact R.own.keep x o' (by unfold delB; rw [if_neg hx]; exact e)
  · refine ⟨(R.own.own p (.tail _ hp)).1, ?_⟩
    have h := (R.own.own p (.tail _ hp)).2
    unfold delB at h
    rw [if_neg] at h
    · exact h
    · intro e
      exact nd.1 (List.mem_map.mpr ⟨p, hp, e⟩)
theorem KIn.del {a : Nat} (hK : KIn K B) (h : lookK K a = none) : KIn K (delB B a) := fun x o e => by
  unfold delB
  rw [if_neg]
  · exact hK x o e
  · rintro rfl
    rw [h] at e; cases e
theorem lookK_app : ∀ (K R : Frag) {a : Nat} {o : Obj}, lookK K a = some o → lookK (app K R) a = some o
  | [], _, _, _, h => by cases h
  | p :: K, R, a, o, h => by
    show (match Nat.beq p.1 a with | true => some p.2 | false => lookK (app K R) a) = _
    unfold lookK at h
    cases hb : Nat.beq p.1 a with
    | true => rw [hb] at h; exact h
    | false => rw [hb] at h; exact lookK_app K R h
theorem lookK_app2 : ∀ (K R : Frag) {a : Nat}, lookK K a = none → lookK (app K R) a = lookK R a
  | [], _, _, h => rfl
  | p :: K, R, a, h => by
    show (match Nat.beq p.1 a with | true => some p.2 | false => lookK (app K R) a) = _
    unfold lookK at h
    cases hb : Nat.beq p.1 a with
    | true => rw [hb] at h; cases h
    | false => rw [hb] at h; exact lookK_app2 K R h
theorem KIn.left {R : Frag} (hK : KIn (app K R) B) : KIn K B := fun a o e => hK a o (lookK_app K R e)
theorem Spec.more {R : Frag} {c : Code} {Hi : List Ent} {j n j' : Nat} {f : CFn} (h : Spec w K d J c Hi j n f j') : Spec w (app K R) d J c Hi j n f j' :=
  fun A B os dr s Q hA hK => h A B os dr s Q hA hK.left
/-- the files of the world, laid into the preserved part -/
structure RowsOk (K : Frag) (rs : List Row) : Prop where
  nd : (rs.map Row.a).Nodup
  out : ∀ r ∈ rs, lookK K r.a = none
  mode : ∀ r ∈ rs, bitAndZ r.m 61440 = 32768 ∨ bitAndZ r.m 61440 = 16384
  sz : ∀ r ∈ rs, 0 ≤ r.s ∧ r.s < 10000000
  len : 5 ≤ rs.length ∧ rs.length ≤ 9
theorem look_rows : ∀ (rs : List Row), (rs.map Row.a).Nodup → ∀ r ∈ rs, lookK (rowsE rs) r.a = some (tupO [.int r.m r.tm, .int r.s r.ts])
  | [], _, r, h => by cases h
  | x :: rs, nd, r, h => by
    rw [List.map_cons] at nd
    obtain ⟨n1, n2⟩ := List.nodup_cons.mp nd
    show (match Nat.beq x.a r.a with | true => some (tupO [.int x.m x.tm, .int x.s x.ts]) | false => lookK (rowsE rs) r.a) = _
    rcases List.mem_cons.mp h with rfl | h
    · rw [show Nat.beq r.a r.a = true from Nat.beq_refl _]
    · have : Nat.beq x.a r.a = false := by
        cases hb : Nat.beq x.a r.a with
        | false => rfl
        | true =>
          have e := Nat.eq_of_beq_eq_true hb
          exact absurd (List.mem_map.mpr ⟨r, h, e.symm⟩) n1
      rw [this]
      exact look_rows rs n2 r h
theorem RowsOk.look {rs : List Row} (h : RowsOk K rs) {r : Row} (hr : r ∈ rs) : lookK (app K (rowsE rs)) r.a = some (tupO [.int r.m r.tm, .int r.s r.ts]) := by
  rw [lookK_app2 K _ (h.out r hr)]
  exact look_rows rs h.nd r hr
theorem specSAdd {x y : List Nat} {t u : Nat} (hl : (x ++ y).length ≤ 1000) :
    Spec w K d J (.call (.builtin "str.__add__") ⟨[.str (mkS x) t, .str (mkS y) u], []⟩) [] 0 1 (ceSAdd (mkS (x ++ y))).f 0 := by
  refine spec_val (gv := fun us => .str (mkS (x ++ y)) (getU us 0)) (gH := fun _ => []) fun A B os dr s Q hA hK R hQ => ?_
  refine call_gives F.slot_str_add (typeIs_str s _ t) F.entry_str_add (F.args_str_add_2 _ _) (gives_str_add (mkS x) (mkS y) t u) ?_
  cases x with
  | nil => exact hQ [u] s rfl R
  | cons c x =>
    cases y with
    | nil =>
      rw [List.append_nil] at hQ
      exact hQ [t] s rfl R
    | cons e y =>
      have e1 : (mkS (c :: x) ++ mkS (e :: y) : Str) = mkS (c :: x ++ e :: y) := by
        show Str.mk ((c :: x).toArray ++ (e :: y).toArray) = _
        unfold mkS
        simp
      have g1 : ((mkS (c :: x)).length == 0) = false := rfl
      have g2 : ((mkS (e :: y)).length == 0) = false := rfl
      rw [g1, g2, e1]
      exact ⟨by show (c :: x ++ e :: y).length ≤ _; exact sizeOk hl, hQ [s.toks] _ rfl (R.toks _)⟩
theorem specStrI {a : Int} {t : Nat} (ha : a.natAbs.log2 < 1920) :
    Spec w K d J (.call (.type "str") ⟨[.int a t], []⟩) [] 0 1 (ceStr (mkS (digL a))).f 0 := by
  refine spec_val (gv := fun us => .str (mkS (digL a)) (getU us 0)) (gH := fun _ => []) fun A B os dr s Q hA hK R hQ => ?_
  exact P.str_of_int ha (hQ [s.toks] _ rfl (R.toks _))
theorem comp_start {elt target iter : Expr} {ifs : List Expr} {rest : List Comprehension} {scope : Scope} {pos : Pos} {it l i : Nat} {acc : Value} {env : Env} {A : Around} {s : Shared} {R : Result → Shared → Prop} {e : Expr} (he : e = .ListComp elt (⟨target, iter, ifs, 0⟩ :: rest) scope pos) (hit : s.heap.IsListIter it l i)
    (h : codeAny (Mo w) A (.compLoop e 0 (.ref it) acc env) R s) : codeAny (Mo w) A (.compStart e 0 (.ref it) acc env) R s := by
  subst he
  exact codeAny_compStart_list h (wpAny_pyIter_listiter hit h)
end
end Mine
end
-- V22
section
open PySem PySem.Spec PySem.Calls PyProof.Rows PySem.W PySem.W.X
namespace Mine
theorem digL_nat (m : Nat) : digL ((m : Nat) : Int) = (Nat.toDigits 10 m).map Char.toNat := PySem.W.KIN.signs_num m
theorem digL_le {s : Int} {k : Nat} (h : 0 ≤ s) (hk : 0 < k) : (digL s).length ≤ k ↔ s < 10 ^ k := by
  obtain ⟨m, rfl⟩ := Int.eq_ofNat_of_zero_le h
  rw [digL_nat, List.length_map, Nat.length_toDigits_le_iff (by omega) hk]
  have : ((10 : Int) ^ k) = ((10 ^ k : Nat) : Int) := by push_cast; rfl
  rw [this]; omega
theorem digL_pos {s : Int} (h : 0 ≤ s) : 1 ≤ (digL s).length := by
  obtain ⟨m, rfl⟩ := Int.eq_ofNat_of_zero_le h
  rw [digL_nat, List.length_map]
  exact Nat.length_toDigits_pos
theorem digL_44 {s : Int} (h : 0 ≤ s) : ∀ c ∈ digL s, c ≠ 44 := by
  obtain ⟨m, rfl⟩ := Int.eq_ofNat_of_zero_le h
  rw [digL_nat]
  intro c hc e
  obtain ⟨x, hx, rfl⟩ := List.mem_map.mp hc
  have := Nat.isDigit_of_mem_toDigits (by omega) (by omega) hx
  have e2 : x = ',' := Char.ext (UInt32.toNat_inj.mp e)
  rw [e2] at this
  exact absurd this (by decide)
noncomputable def cutT (ya yb tg : Nat) (l : List Nat) : List Nat := (cutS ya yb tg l).cps.toList
theorem cutL_cnt (a b tg : Nat) : ∀ (f i : Nat) (l : List Nat) (ps : List (List Nat)), (cutL a b tg f i l ps).2.length ≤ ps.length + f
  | 0, _, l, ps => by unfold cutL; simp
  | f + 1, i, l, ps => by
    unfold cutL
    cases yAt a b tg i with
    | none => simp
    | some y =>
      cases l with
      | nil => simp
      | cons x r =>
        have := cutL_cnt a b tg f (i + 1) ((x :: r).take ((x :: r).length - y)) ((x :: r).drop ((x :: r).length - y) :: ps)
        simp only [List.length_cons] at this ⊢
        omega
theorem join_small {l : List (Str × Nat)} (h9 : l.length ≤ 9) (h : ∀ x ∈ l.map (·.1), x.length ≤ 7) : (joinS comma l).length ≤ 100 := by
  rcases l with _ | ⟨p, _ | ⟨q, l⟩⟩
  · show (0 : Nat) ≤ _; omega
  · have := h p.1 (.head _)
    show p.1.length ≤ _; omega
  · have h1 : p.1.cps.size ≤ 7 := h p.1 (.head _)
    have := fold_app comma.cps ((q :: l).map (·.1)) p.1.cps fun y hy => h y (.tail _ hy)
    rw [List.length_map, show comma.cps.size = 1 from rfl] at this
    simp only [List.length_cons] at h9 this
    show Array.size (List.foldl _ p.1.cps ((q :: l).map (·.1))) ≤ _
    omega
theorem cutT_len {ya yb tg : Nat} {l : List Nat} (hl : l.length ≤ 7) : (cutT ya yb tg l).length ≤ 100 := by
  have h7 := cutL_len ya yb tg 8 0 l [] hl (by simp)
  have h8 := cutL_cnt ya yb tg 8 0 l []
  have key : ∀ x ∈ cutP ya yb tg l, x.length ≤ 7 := by
    intro x hx
    unfold cutP at hx
    generalize cutL ya yb tg 8 0 l [] = c at hx h7
    obtain ⟨c1, c2⟩ := c
    cases c1 with
    | nil => exact h7.2 x hx
    | cons z c1 =>
      rcases List.mem_cons.mp hx with rfl | hx
      · exact h7.1
      · exact h7.2 x hx
  have cnt : (cutP ya yb tg l).length ≤ 9 := by
    unfold cutP
    generalize cutL ya yb tg 8 0 l [] = c at h8
    obtain ⟨c1, c2⟩ := c
    simp only [List.length_nil] at h8
    cases c1 with
    | nil => show c2.length ≤ 9; omega
    | cons z c1 => show (_ :: c2).length ≤ 9; rw [List.length_cons]; omega
  have := join_small (l := (cutP ya yb tg l).map fun x => (mkS x, 0)) (by rw [List.length_map]; exact cnt) (by
    intro x hx
    rw [List.map_map] at hx
    obtain ⟨z, hz, rfl⟩ := List.mem_map.mp hx
    exact key z hz)
  show Array.size (cutS ya yb tg l).cps ≤ 100
  exact this
theorem log_small {a : Int} (h : 0 ≤ a ∧ a < 10000000) : a.natAbs.log2 < 1920 := by
  have : a.natAbs < 10000000 := by omega
  rcases Nat.eq_zero_or_pos a.natAbs with h0 | h0
  · rw [h0]; decide
  · have := (Nat.log2_lt (n := a.natAbs) (Nat.pos_iff_ne_zero.mp h0) (k := 24)).mpr (by rw [show (2 : Nat) ^ 24 = 16777216 from rfl]; omega)
    omega
/-- a line of a page -/
noncomputable def fmL (m : Int) : List Nat := (fmS m).cps.toList
noncomputable def tolL (ya yb tg : Nat) (r : Row) : List Nat := fmL r.m ++ [32] ++ cutT ya yb tg (digL r.s)
theorem fmL_len (m : Int) : (fmL m).length = 10 := rfl
/-- texts with tokens -/
noncomputable def txts : List (List Nat) → List Nat → List Value
  | [], _ => []
  | x :: l, us => .str (mkS x) (us.headD 0) :: txts l us.tail
theorem txts_snoc : ∀ (l : List (List Nat)) (us : List Nat) (x : List Nat) (t : Nat), us.length = l.length → txts l us ++ [.str (mkS x) t] = txts (l ++ [x]) (us ++ [t])
  | [], [], x, t, _ => rfl
  | [], _ :: _, _, _, h => by cases h
  | y :: l, [], _, _, h => by cases h
  | y :: l, u :: us, x, t, h => by
    show _ :: (txts l us ++ _) = _ :: txts (l ++ [x]) (us ++ [t])
    rw [txts_snoc l us x t (Nat.succ.inj h)]
    rfl
theorem txts_len : ∀ (l : List (List Nat)) (us : List Nat), (txts l us).length = l.length
  | [], _ => rfl
  | x :: l, us => congrArg (· + 1) (txts_len l us.tail)
theorem tI_eq (P : Params) : tI P = .ListComp (lcE (tI P)) (lcG (tI P)) (lcS (tI P)) (lcP (tI P)) := by kernel_rfl!
noncomputable def g1 (l : List Comprehension) : Comprehension := match l with
  | g :: _ => g
  | [] => ⟨dumE, dumE, [], 0⟩
theorem tI_eq' (P : Params) : tI P = .ListComp (lcE (tI P)) (⟨(g1 (lcG (tI P))).target, (g1 (lcG (tI P))).iter, (g1 (lcG (tI P))).ifs, 0⟩ :: []) (lcS (tI P)) (lcP (tI P)) := by kernel_rfl!
end Mine
end
-- V23
section
open PySem PySem.Spec PySem.Calls PyProof.Rows PySem.W PySem.W.X
namespace Mine
noncomputable def pickL (H : List Ent) : List Nat → List Ent
  | [] => []
  | i :: l => ((getI H i).getD (0, default)) :: pickL H l
theorem getI_shift (x : Ent) (H : List Ent) : ∀ (l : List Nat), pickL (x :: H) (l.map (· + 1)) = pickL H l
  | [] => rfl
  | i :: l => by
    show _ :: pickL (x :: H) (l.map (· + 1)) = _ :: pickL H l
    rw [getI_shift x H l]; rfl
theorem pickL_range : ∀ (H : List Ent), pickL H (List.range H.length) = H
  | [] => rfl
  | x :: H => by
    rw [List.length_cons, List.range_succ_eq_map]
    show x :: pickL (x :: H) ((List.range H.length).map (· + 1)) = _
    rw [getI_shift, pickL_range H]
theorem pickL_map (H : List Ent) : ∀ (l : List Nat), pickL H l = l.map fun i => (getI H i).getD (0, default)
  | [] => rfl
  | i :: l => congrArg (_ :: ·) (pickL_map H l)
/-- blocks of entries -/
noncomputable def catB : List (List Ent) → List Ent
  | [] => []
  | b :: l => b ++ catB l
noncomputable def pickB (Bs : List (List Ent)) : List Nat → List (List Ent)
  | [] => []
  | i :: l => (getI Bs i).getD [] :: pickB Bs l
theorem pickB_map (H : List (List Ent)) : ∀ (l : List Nat), pickB H l = l.map fun i => (getI H i).getD []
  | [] => rfl
  | i :: l => congrArg (_ :: ·) (pickB_map H l)
theorem pickB_shift (x : List Ent) (H : List (List Ent)) : ∀ (l : List Nat), pickB (x :: H) (l.map (· + 1)) = pickB H l
  | [] => rfl
  | i :: l => by
    show _ :: pickB (x :: H) (l.map (· + 1)) = _ :: pickB H l
    rw [pickB_shift x H l]; rfl
theorem pickB_range : ∀ (H : List (List Ent)), pickB H (List.range H.length) = H
  | [] => rfl
  | x :: H => by
    rw [List.length_cons, List.range_succ_eq_map]
    show x :: pickB (x :: H) ((List.range H.length).map (· + 1)) = _
    rw [pickB_shift, pickB_range H]
theorem catB_perm {A B : List (List Ent)} (h : A.Perm B) : (catB A).Perm (catB B) := by
  induction h with
  | nil => exact .refl _
  | cons x _ ih => exact List.Perm.append_left x ih
  | swap x y l =>
    show (y ++ (x ++ catB l)).Perm (x ++ (y ++ catB l))
    rw [← List.append_assoc, ← List.append_assoc]
    exact List.Perm.append_right _ List.perm_append_comm
  | trans _ _ h1 h2 => exact h1.trans h2
theorem blk_perm {l r : List Ent} (Bs : List (List Ent)) (ix : List Nat) (h : ix.isPerm (List.range Bs.length) = true) (hl : catB Bs = l) (hr : catB (pickB Bs ix) = r) : l.Perm r := by
  have := (List.isPerm_iff.mp h).symm.map fun i => (getI Bs i).getD []
  rw [← pickB_map, ← pickB_map, pickB_range] at this
  rw [← hl, ← hr]
  exact catB_perm this
section
variable {w : World} {K : Frag} {J : Nat → Array GenState → Prop} {B : Addr → Option Obj} {os : OsState} {dr : Drawn} {d : Nat}
theorem Rel.reorder {H : List Ent} {j : Nat} {s : Shared} (R : Rel J B os dr H j s) (ix : List Nat) (h : ix.isPerm (List.range H.length) = true) : Rel J B os dr (pickL H ix) j s := by
  refine R.perm ?_
  have := (List.isPerm_iff.mp h).symm.map fun i => (getI H i).getD (0, default)
  rw [← pickL_map, ← pickL_map, pickL_range] at this
  exact this
theorem code_front {P : Params} (hP : P = w.params) {c : Code} {A : Around} {R : Result → Shared → Prop} {Hp rest : List Ent} {j ct n L : Nat} {ces : List CE} {s : Shared} {m : List Bool} (hA : AOk (d - 16) A) (hd : 16 ≤ d) (hc : isAst c = true) (hK : KIn K B) (Rl : Rel J B os dr (Hp ++ rest) j s)
    (h : ∀ u, ∃ r Hn j' ok, trimO m (run P K (SP w K d J) n c0 none 0 [] (den c) Hp j (mkU L u) ct ces True) = some ⟨r, Hn, j', ok⟩ ∧ ok ∧ ∀ s', Rel J B os dr (Hn ++ rest) j' s' → resQ (fun fin s' => match fin with | .done f => R (.ok f) s' | .again c' => c'.quiet = true ∧ codeAny (Mo w) A c' R s') (fun e s' => R (.error e) s') r s') : codeAny (Mo w) A c R s := by
  rw [show den = denote table from den_eq] at h
  obtain ⟨w1, w2⟩ := ast_weight hc
  exact x_code (tree_front hP (A₀ := A.under c) ⟨hA.1, by show A.depth + c.weight ≤ _; have := hA.2.1; omega, by show A.units + c.cUnits ≤ _; have := hA.2.2; omega⟩ (by omega) hK Rl h)
theorem code_front2 {P : Params} (hP : P = w.params) {c : Code} {A : Around} {R : Result → Shared → Prop} {Hp rest : List Ent} {j ct n L : Nat} {ces : List CE} {s : Shared} {m : List Bool} (hA : AOk (d - 16) A) (hd : 16 ≤ d) (hc : isAst c = true) (hK : KIn K B) (Rl : Rel J B os dr (Hp ++ rest) j s) {r : (Nat → Nat) → Res} {Hn : (Nat → Nat) → List Ent} {ok : (Nat → Nat) → Prop} {j' : Nat}
    (h : ∀ u, trimO m (run P K (SP w K d J) n c0 none 0 [] (den c) Hp j (mkU L u) ct ces True) = some ⟨(r u), Hn u, j', ok u⟩) (hok : ∀ u, ok u) (hq : ∀ u s', Rel J B os dr (Hn u ++ rest) j' s' → resQ (fun fin s' => match fin with | .done f => R (.ok f) s' | .again c' => c'.quiet = true ∧ codeAny (Mo w) A c' R s') (fun e s' => R (.error e) s') (r u) s') : codeAny (Mo w) A c R s :=
  code_front hP hA hd hc hK Rl fun u => ⟨_, _, _, _, h u, hok u, hq u⟩
end
noncomputable def toldE (ya yb tg : Nat) (rs : List Row) (fl n c2 rl acc D2 : Nat) (ro : Obj) (lst : Row) (P : Params) (x y : Nat) (ts : List Nat) : List Ent :=
  [(fl, lsto (rs.map fun r => .ref r.a) n), (c2, celO (some (.ref rl))), (rl, ro), (acc, lsto (txts (rs.map (tolL ya yb tg)) ts) rs.length),
   (D2, dicO [en (hs P nMode) x nMode (.int lst.m lst.tm), en (hs P nSize) y nSize (.int lst.s lst.ts)] 2)]
noncomputable def hMS (P : Params) : Nat → Int
  | 0 => hs P nMode
  | _ => hs P nSize
section
variable {w : World} {B : Addr → Option Obj} {os : OsState} {dr : Drawn} {d : Nat}
theorem tol_len (ya yb tg : Nat) (r : Row) (h : (digL r.s).length ≤ 7) : (tolL ya yb tg r).length ≤ 1000 := by
  unfold tolL
  rw [List.length_append, List.length_append, fmL_len]
  have := cutT_len (ya := ya) (yb := yb) (tg := tg) h
  simp only [List.length_cons, List.length_nil]
  omega
theorem ti_loop {A : Around} {R : Result → Shared → Prop} {rs : List Row} {a b : Int} {ya yb tg : Nat} {t : Nat → Nat} {rn it acc fl n rl L c1 D1 c2 D2 : Nat}
    (hA : AOk (d - 16) A) (hd : 16 ≤ d) (hd9 : d ≤ 860) (hK : KIn (app (KP w.params) (rowsE rs)) B) (ok : RowsOk (KP w.params) rs) (ha : a = ya) (ha1 : 1 ≤ ya) (ha3 : ya ≤ 3) (hb : b = yb) (hb1 : 1 ≤ yb) (hb3 : yb ≤ 3) (htg : tg ≤ 2)
    (hR : ∀ x y ts lst s', ts.length = rs.length → lst ∈ rs → Rel JB B os dr (toldE ya yb tg rs fl n c2 rl acc D2 (lsto (rulV a b tg t) rn) lst w.params x y ts) 0 s' → R (.ok .next) s') :
    ∀ (todo done : List Row) (i x y : Nat) (ts : List Nat) (D : Obj) (s : Shared), rs = done ++ todo → i = done.length → ts.length = i →
      ((done = [] ∧ D = dicO [] 0) ∨ (∃ lst ∈ rs, D = dicO [en (hs w.params nMode) x nMode (.int lst.m lst.tm), en (hs w.params nSize) y nSize (.int lst.s lst.ts)] 2)) →
      Rel JB B os dr [(it, lstIt (.ref fl) (i : Int)), (fl, lsto (rs.map fun r => .ref r.a) n), (c2, celO (some (.ref rl))), (rl, lsto (rulV a b tg t) rn), (acc, lsto (txts (done.map (tolL ya yb tg)) ts) i), (D2, D)] 0 s →
      codeAny (Mo w) A (.compLoop (tI w.params) 0 (.ref it) (.ref acc) (tE2 w.params L c1 D1 c2 D2)) R s
  | [], done, i, x, y, ts, D, s, hrs, hi, hts, hD, Rl => by
    rw [List.append_nil] at hrs
    subst hrs
    subst hi
    rcases hD with ⟨rfl, _⟩ | ⟨lst, hl, rfl⟩
    · have := ok.len.1
      simp at this
    · refine code_front2 (fT_eq w) hA hd rfl hK.left (Hp := [_, _]) (rest := [_, _, _, _]) Rl (fun u => told_e w.params _ _ _ it acc fl n L c1 D1 c2 D2 rs.length _ u) (fun u => okD_of _ _ _ _ ⟨specNxE _ (by simp), trivial⟩ trivial) fun u s' R' => hR x y ts lst s' hts hl R'
  | r :: todo, done, i, x, y, ts, D, s, hrs, hi, hts, hD, Rl => by
    have hr : r ∈ rs := by rw [hrs]; simp
    have hb' := hK _ _ (ok.look hr)
    have Rb := Rl.borrow hb'
    have hK' := hK.left.del (ok.out r hr)
    have hv : (rs.map fun r => Value.ref r.a)[i]? = some (.ref r.a) := by rw [hi, hrs]; simp
    have h7 : (digL r.s).length ≤ 7 := (digL_le (ok.sz r hr).1 (by omega)).mpr (ok.sz r hr).2
    have htl := tol_len ya yb tg r h7
    have hfl : (fmL r.m ++ [32]).length ≤ 1000 := by rw [List.length_append, fmL_len]; simp
    have hwl : (txts (done.map (tolL ya yb tg)) ts).length ≤ 1000 := by
      rw [txts_len, List.length_map]
      have := ok.len.2
      rw [hrs, List.length_append, List.length_cons] at this
      omega
    have hds : (done.map (tolL ya yb tg)).length = ts.length := by rw [List.length_map, hts, hi]
    have ew : ∀ z, txts (done.map (tolL ya yb tg)) ts ++ [.str (mkS (tolL ya yb tg r)) z] = txts ((done ++ [r]).map (tolL ya yb tg)) (ts ++ [z]) := fun z => by
      rw [List.map_append]; exact txts_snoc _ _ _ _ hds.symm
    have hrs' : rs = (done ++ [r]) ++ todo := by rw [hrs, List.append_assoc]; rfl
    have hi' : i + 1 = (done ++ [r]).length := by rw [List.length_append, hi]; rfl
    rcases hD with ⟨rfl, rfl⟩ | ⟨lst, hl, rfl⟩
    · refine code_front2 (fT_eq w) hA hd rfl hK' (Hp := [_, _, _, _, _, _, _]) (rest := []) Rb (fun u => told_t0 w.params _ _ _ it acc fl n rl L c1 D1 c2 D2 _ _ r.a r.tm r.ts _ (mkS (fmL r.m)) (mkS (digL r.s)) (mkS (cutT ya yb tg (digL r.s))) (mkS (fmL r.m ++ [32])) (mkS (tolL ya yb tg r)) r.m r.s _ _ u) (fun u => okD_of _ _ _ _ ⟨specNx _ hv, specFm hd9 (ok.mode r hr), specSAdd hfl, specStrI (log_small (ok.sz r hr)), specCut hd9 ha ha1 ha3 hb hb1 hb3 htg h7, specSAdd htl, specApS _ hwl, trivial⟩ trivial) fun u s' R' => ⟨rfl, ?_⟩
      have R2 := (R'.giveback hb').reorder [2, 3, 0, 4, 5, 1] rfl
      have R3 : Rel JB B os dr [(it, lstIt (.ref fl) ((i + 1 : Nat) : Int)), (fl, lsto (rs.map fun r => .ref r.a) n), (c2, celO (some (.ref rl))), (rl, lsto (rulV a b tg t) rn), (acc, lsto (txts (([] ++ [r]).map (tolL ya yb tg)) (ts ++ [u 11])) (i + 1)), (D2, dicO [en (hs w.params nMode) (u 3) nMode (.int r.m r.tm), en (hs w.params nSize) (u 4) nSize (.int r.s r.ts)] 2)] 0 s' := by
        rw [← ew]; exact R2
      exact ti_loop hA hd hd9 hK ok ha ha1 ha3 hb hb1 hb3 htg hR todo _ _ _ _ _ _ s' hrs' hi' (by rw [List.length_append, hts]; rfl) (.inr ⟨r, hr, rfl⟩) R3
    · refine code_front2 (fT_eq w) hA hd rfl hK' (Hp := [_, _, _, _, _, _, _]) (rest := []) Rb (fun u => told_t1 w.params _ _ _ it acc fl n rl L c1 D1 c2 D2 _ _ r.a r.tm r.ts _ (mkS (fmL r.m)) (mkS (digL r.s)) (mkS (cutT ya yb tg (digL r.s))) (mkS (fmL r.m ++ [32])) (mkS (tolL ya yb tg r)) r.m r.s _ _ (hMS w.params) (fun k => match k with | 0 => x | _ => y) 2 _ _ u) (fun u => okD_of _ _ _ _ ⟨specNx _ hv, specFm hd9 (ok.mode r hr), specSAdd hfl, specStrI (log_small (ok.sz r hr)), specCut hd9 ha ha1 ha3 hb hb1 hb3 htg h7, specSAdd htl, specApS _ hwl, trivial⟩ trivial) fun u s' R' => ⟨rfl, ?_⟩
      have R2 := (R'.giveback hb').reorder [2, 3, 0, 4, 5, 1] rfl
      have R3 : Rel JB B os dr [(it, lstIt (.ref fl) ((i + 1 : Nat) : Int)), (fl, lsto (rs.map fun r => .ref r.a) n), (c2, celO (some (.ref rl))), (rl, lsto (rulV a b tg t) rn), (acc, lsto (txts ((done ++ [r]).map (tolL ya yb tg)) (ts ++ [u 11])) (i + 1)), (D2, dicO [en (hs w.params nMode) x nMode (.int r.m r.tm), en (hs w.params nSize) y nSize (.int r.s r.ts)] 2)] 0 s' := by
        rw [← ew]; exact R2
      exact ti_loop hA hd hd9 hK ok ha ha1 ha3 hb hb1 hb3 htg hR todo _ _ _ _ _ _ s' hrs' hi' (by rw [List.length_append, hts]; rfl) (.inr ⟨r, hr, rfl⟩) R3
end
end Mine
end
-- V24
section
open PySem PySem.Spec PySem.Calls PyProof.Rows PySem.W PySem.W.X
namespace Mine
/-- a list of numbers in one -/
noncomputable def enc : List Nat → Nat
  | [] => 0
  | x :: l => 2 ^ x * (2 * enc l + 1)
theorem pow_odd : ∀ (x y a b : Nat), 2 ^ x * (2 * a + 1) = 2 ^ y * (2 * b + 1) → x = y ∧ a = b
  | 0, 0, a, b, h => by simp only [Nat.pow_zero, Nat.one_mul] at h; omega
  | 0, y + 1, a, b, h => by
    rw [Nat.pow_zero, Nat.one_mul, Nat.pow_succ, Nat.mul_comm (2 ^ y) 2, Nat.mul_assoc] at h
    omega
  | x + 1, 0, a, b, h => by
    rw [Nat.pow_zero, Nat.one_mul, Nat.pow_succ, Nat.mul_comm (2 ^ x) 2, Nat.mul_assoc] at h
    omega
  | x + 1, y + 1, a, b, h => by
    rw [Nat.pow_succ, Nat.pow_succ, Nat.mul_comm (2 ^ x) 2, Nat.mul_comm (2 ^ y) 2, Nat.mul_assoc, Nat.mul_assoc] at h
    obtain ⟨h1, h2⟩ := pow_odd x y a b (Nat.eq_of_mul_eq_mul_left (by omega) h)
    exact ⟨by rw [h1], h2⟩
theorem enc_inj : ∀ (l m : List Nat), enc l = enc m → l = m
  | [], [], _ => rfl
  | [], y :: m, h => by
    have : 0 < 2 ^ y * (2 * enc m + 1) := Nat.mul_pos (Nat.two_pow_pos _) (by omega)
    rw [show enc [] = 0 from rfl, show enc (y :: m) = 2 ^ y * (2 * enc m + 1) from rfl] at h
    omega
  | x :: l, [], h => by
    have : 0 < 2 ^ x * (2 * enc l + 1) := Nat.mul_pos (Nat.two_pow_pos _) (by omega)
    rw [show enc [] = 0 from rfl, show enc (x :: l) = 2 ^ x * (2 * enc l + 1) from rfl] at h
    omega
  | x :: l, y :: m, h => by
    obtain ⟨h1, h2⟩ := pow_odd x y _ _ h
    rw [h1, enc_inj l m h2]
open Classical in
noncomputable def dec (n : Nat) : List Nat := if h : ∃ l, enc l = n then choose h else []
theorem dec_enc (l : List Nat) : dec (enc l) = l := by
  have h : ∃ m, enc m = enc l := ⟨l, rfl⟩
  unfold dec
  rw [dif_pos h]
  exact enc_inj _ _ (Classical.choose_spec h)
noncomputable def rowAt (rs : List Row) (i : Nat) : Row := rs[i]?.getD ⟨0, 0, 0, 0, 0⟩
noncomputable def toldF (ya yb tg : Nat) (rs : List Row) (fl n c2 rl acc D2 : Nat) (ro : Obj) (P : Params) : CFn := fun us =>
  (.ok .next, toldE ya yb tg rs fl n c2 rl acc D2 ro (rowAt rs (getU us 0)) P (getU us 1) (getU us 2) (dec (getU us 3)))
section
variable {w : World} {B : Addr → Option Obj} {os : OsState} {dr : Drawn} {d : Nat}
theorem specTI {rs : List Row} {a b : Int} {ya yb tg : Nat} {t : Nat → Nat} {rn it acc fl n rl L c1 D1 c2 D2 : Nat}
    (hd9 : d ≤ 840) (ok : RowsOk (KP w.params) rs) (ha : a = ya) (ha1 : 1 ≤ ya) (ha3 : ya ≤ 3) (hb : b = yb) (hb1 : 1 ≤ yb) (hb3 : yb ≤ 3) (htg : tg ≤ 2) :
    Spec w (app (KP w.params) (rowsE rs)) d JB (.compStart (tI w.params) 0 (.ref it) (.ref acc) (tE2 w.params L c1 D1 c2 D2))
      [(it, lstIt (.ref fl) 0), (fl, lsto (rs.map fun r => .ref r.a) n), (c2, celO (some (.ref rl))), (rl, lsto (rulV a b tg t) rn), (acc, lsto [] 0), (D2, dicO [] 0)] 0 4
      (toldF ya yb tg rs fl n c2 rl acc D2 (lsto (rulV a b tg t) rn) w.params) 0 := by
  refine spec_code fun A B os dr s R hA hK Rl hR => ?_
  have hA' : AOk (d + 16 - 16) A := by rw [Nat.add_sub_cancel]; exact hA
  refine comp_start (tI_eq' w.params) (l := fl) (i := 0) ⟨_, Rl.at (i := 0) rfl, rfl, rfl⟩ ?_
  refine ti_loop (d := d + 16) hA' (by omega) (by omega) hK ok ha ha1 ha3 hb hb1 hb3 htg (fun x y ts lst s' hts hl R' => ?_) rs [] 0 0 0 [] _ s rfl rfl rfl (.inl ⟨rfl, rfl⟩) Rl
  obtain ⟨k, hk⟩ := List.getElem?_of_mem hl
  have e : rowAt rs k = lst := by unfold rowAt; rw [hk]; rfl
  refine hR [k, x, y, enc ts] s' rfl ?_
  show Rel JB B os dr (toldE ya yb tg rs fl n c2 rl acc D2 _ (rowAt rs k) w.params x y (dec (enc ts))) 0 s'
  rw [e, dec_enc]
  exact R'
end
end Mine
end
-- V25
section
open PySem PySem.Spec PySem.Calls PyProof.Rows PySem.W PySem.W.X
namespace Mine
/-! exceptions: the frames on the stack, their slots unknown -/
noncomputable def frS (es : List DictEntry) (n : Nat) (sl : Array (Option Value)) : Obj := { cls := .type "frame", data := .dict ⟨es⟩ n, slots := sl }
theorem frS_fro (es : List DictEntry) (n : Nat) : frS es n #[] = fro es n := rfl
inductive FrsAre : List Env → List Ent → Prop
  | nil : FrsAre [] []
  | cons {env : Env} {envs : List Env} {L n : Nat} {es : List DictEntry} {sl : Array (Option Value)} {fs : List Ent} : env.frame = some L → env.scope.kind ≠ .module → FrsAre envs fs → FrsAre (env :: envs) ((L, frS es n sl) :: fs)
inductive SameF : List Ent → List Ent → Prop
  | nil : SameF [] []
  | cons {L n : Nat} {es : List DictEntry} {sl sl' : Array (Option Value)} {fs fs' : List Ent} : SameF fs fs' → SameF ((L, frS es n sl) :: fs) ((L, frS es n sl') :: fs')
theorem FrsAre.same {envs : List Env} {fs fs' : List Ent} (h : FrsAre envs fs) (h' : SameF fs fs') : FrsAre envs fs' := by
  induction h generalizing fs' with
  | nil => cases h'; exact .nil
  | cons a b _ ih => cases h' with | cons h' => exact .cons a b (ih h')
theorem FrsAre.refl {envs : List Env} {fs : List Ent} (h : FrsAre envs fs) : SameF fs fs := by
  induction h with
  | nil => exact .nil
  | cons _ _ _ ih => exact .cons ih
theorem SameF.trans {a b c : List Ent} (h : SameF a b) (h' : SameF b c) : SameF a c := by
  induction h generalizing c with
  | nil => exact h'
  | cons _ ih => cases h' with | cons h' => exact .cons (ih h')
/-- a built-in exception; a traceback's entry -/
noncomputable def exO (cls : String) (a : Nat) (tb : Value) : Obj := { cls := .type cls, data := .fields ⟨[.ref a, tb, .none, .none, .bool false, .none]⟩ }
noncomputable def tbO (next : Value) (L : Nat) (fl : Value) (six : List Value) : Obj := { cls := .type "traceback", data := .fields ⟨next :: .ref L :: .none :: fl :: .none :: six⟩ }
section
variable {J : Nat → Array GenState → Prop} {B : Addr → Option Obj} {os : OsState} {dr : Drawn} {M : Model} {A : Around} {E : Value → Shared → Prop} {j : Nat}
theorem ready {envs : List Env} {fs : List Ent} (F : FrsAre envs fs) : ∀ {rest : List Ent} {s : Shared} {Q : Unit → Shared → Prop}, Rel J B os dr (fs ++ rest) j s →
    (∀ fs' s', SameF fs fs' → Rel J B os dr (fs' ++ rest) j s' → Q () s') → wpAny M A (readyFrames envs) Q E s := by
  induction F with
  | nil => intro rest s Q R h; exact wpAny_pure (h [] s .nil R)
  | @cons env envs L n es sl fs hf hk F ih =>
    intro rest s Q R h
    have ho : s.heap.get? L = some (frS es n sl) := R.at (i := 0) rfl
    simp only [readyFrames, hf]
    refine wpAny_bind (wpAny_load ho ?_)
    by_cases hr : (((frS es n sl).slots.getD 3 none).isSome) = true
    · rw [if_pos hr]
      exact wpAny_pure (h _ s (.cons F.refl) R)
    · rw [if_neg hr]
      refine wpAny_bind (wpAny_of_eq (a := false) (by simp [behindIsImport, hk]) ?_)
      refine wpAny_bind (wpAny_keptBack_false fun v => ?_)
      refine wpAny_bind (wpAny_update ho ?_)
      have R2 := R.update (i := 0) (p := (L, frS es n sl)) (f := fun o => { o with slots := #[some env.code, some (.ref env.globals), o.slots.getD 2 none, some v, o.slots.getD 4 none, env.func.map Value.ref, some (.ref env.builtins)] ++ (env.cells.map fun c => some (Value.ref c.2)).toArray }) rfl rfl
      have R3 : Rel J B os dr (fs ++ (L, frS es n (#[some env.code, some (.ref env.globals), (frS es n sl).slots.getD 2 none, some v, (frS es n sl).slots.getD 4 none, env.func.map Value.ref, some (.ref env.builtins)] ++ (env.cells.map fun c => some (Value.ref c.2)).toArray)) :: rest) j _ := R2.perm List.perm_middle.symm
      refine ih R3 fun fs' s' hs R' => ?_
      exact h _ s' (.cons hs) (R'.perm List.perm_middle)
theorem wp_setField {a k : Nat} {o : Obj} {vs : List Value} {v : Value} {H : List Ent} {s : Shared} {Q : Unit → Shared → Prop} (R : Rel J B os dr ((a, o) :: H) j s) (hd : o.data = .fields ⟨vs⟩) (hk : k < vs.length) (hfr : (o.mapFields (·.setIfInBounds k v)).isFreed = false)
    (h : Rel J B os dr ((a, o.mapFields (·.setIfInBounds k v)) :: H) j { s with heap := s.heap.update a (Obj.mapFields (·.setIfInBounds k v)) } → Q () { s with heap := s.heap.update a (Obj.mapFields (·.setIfInBounds k v)) }) : wpAny M A (setField (.ref a) k v) Q E s :=
  wpAny_setField (R.at (i := 0) rfl) hd (by simpa using hk) (h (R.update (i := 0) (p := (a, o)) rfl hfr))
theorem note_new {env : Env} {outer : List Env} {L e a : Nat} {cls : String} {fs rest : List Ent} {s : Shared} {Q : Unit → Shared → Prop} (hfr : A.frames = some (env :: outer)) (hf : env.frame = some L) (F : FrsAre (env :: outer) fs)
    (R : Rel J B os dr ((e, exO cls a .none) :: (fs ++ rest)) j s) (h : ∀ tb six fs' s', SameF fs fs' → Rel J B os dr ((e, exO cls a (.ref tb)) :: (tb, tbO .none L (rawInt L) six) :: (fs' ++ rest)) j s' → Q () s') :
    wpAny M A (noteFrame (.ref e) env) Q E s := by
  unfold noteFrame
  simp only [hf]
  refine wpAny_bind (wpAny_field (R.at (i := 0) rfl) rfl (x := .none) rfl ?_)
  rw [if_neg (by decide)]
  unfold PySem.frameOf
  refine wpAny_bind (wpAny_bind (wpAny_frameEnvs hfr ?_))
  have hdw : ((env :: outer).dropWhile fun x => x.frame != env.frame) = env :: outer := by simp [List.dropWhile]
  rw [hdw]
  unfold frameObject
  refine wpAny_bind (wpAny_bind (ready F (rest := (e, exO cls a .none) :: rest) (R.perm List.perm_middle.symm) fun fs' s' hs R1 => wpAny_pure ?_))
  rw [hf]
  refine wpAny_pure ?_
  refine wpAny_bind (wpAny_entryPlaceOf fun pl hpl => ?_)
  unfold EntryCells.newEntry newFields
  refine wpAny_bind (wpAny_newObj_type ?_ (hpl.sizeOk5 _ _ _ _ _))
  have R2 := R1.alloc (o := tbO .none L (rawInt L) (if pl.isEmpty then List.replicate 6 Value.none else pl)) rfl
  rw [snoc_eq] at R2
  have R3 := R2.perm (List.perm_append_comm.trans (List.Perm.cons _ (List.perm_middle)))
  have R4 := R3.perm (List.Perm.swap _ _ _)
  exact wp_setField R4 rfl (by simp) rfl fun R5 => h _ _ fs' _ hs R5
end
end Mine
end
-- V26
section
open PySem PySem.Spec PySem.Calls PyProof.Rows PySem.W PySem.W.X
namespace Mine
noncomputable def whT : Stmt → Expr
  | .While t _ _ _ => t
  | _ => dumE
noncomputable def whB : Stmt → List Stmt
  | .While _ b _ _ => b
  | _ => []
noncomputable def whP : Stmt → Pos
  | .While _ _ _ p => p
  | _ => default
noncomputable def trB : Stmt → List Stmt
  | .Try b _ _ _ _ => b
  | _ => []
noncomputable def trP : Stmt → Pos
  | .Try _ _ _ _ p => p
  | _ => default
noncomputable def hnT : Stmt → Expr
  | .Try _ [.ExceptHandler (some t) _ _ _] _ _ _ => t
  | _ => dumE
noncomputable def hnB : Stmt → List Stmt
  | .Try _ [.ExceptHandler _ _ b _] _ _ _ => b
  | _ => []
noncomputable def hnP : Stmt → Pos
  | .Try _ [.ExceptHandler _ _ _ p] _ _ _ => p
  | _ => default
noncomputable def nthS (l : List Stmt) (i : Nat) : Stmt := (getI l i).getD (.Pass default)
noncomputable def wB (P : Params) : List Stmt := whB (stm P 75 1)
noncomputable def wTry (P : Params) : Stmt := nthS (wB P) 1
noncomputable def nExp : Str := ⟨⟨[101, 120, 112, 101, 99, 116, 101, 100]⟩⟩
noncomputable def nAct : Str := ⟨⟨[97, 99, 116, 117, 97, 108]⟩⟩
noncomputable def nMis : Str := ⟨⟨[109, 105, 115, 115, 105, 110, 103]⟩⟩
noncomputable def nItem : Str := ⟨⟨[105, 116, 101, 109]⟩⟩
noncomputable def xE2 (h : Nat → Int) (k : Nat → Nat) (ex ac : Nat) : List DictEntry := [en (h 0) (k 0) nExp (.ref ex), en (h 1) (k 1) nAct (.ref ac)]
noncomputable def xE3 (h : Nat → Int) (k : Nat → Nat) (ex ac mi : Nat) : List DictEntry := [en (h 0) (k 0) nExp (.ref ex), en (h 1) (k 1) nAct (.ref ac), en (h 2) (k 2) nMis (.ref mi)]
noncomputable def xE4 (h : Nat → Int) (k : Nat → Nat) (ex ac mi : Nat) (v : Value) : List DictEntry := [en (h 0) (k 0) nExp (.ref ex), en (h 1) (k 1) nAct (.ref ac), en (h 2) (k 2) nMis (.ref mi), en (h 3) (k 3) nItem v]
noncomputable def ceRmE (m : List Bool) (l : Nat) (o : Obj) : CE := ⟨some "list.remove", m, 2, fun us => (.error (.ref (getU us 1)), [(l, o), (getU us 1, exO "ValueError" (getU us 0) .none)]), 0, noH⟩

theorem uld_i (P : Params) (b1 b2 : Bool) (S : ST) (L ex ac n : Nat) (h : Nat → Int) (k : Nat → Nat) (sl : Array (Option Value)) (u : Nat → Nat) :
    trimO [true, true] (run (ftP P b1 b2) (KP P) S 16 c0 none 0 [] (flowZ [stm P 75 0] (envAt P 75 L)) [(L, frS (xE2 h k ex ac) n sl)] 0 (mkU 2 u) 65 [] True) =
    some ⟨.fin (.done .next), [(L, frS (xE3 (fun i => match i with | 2 => hs P nMis | i => h i) (fun i => match i with | 2 => u 1 | i => k i) ex ac (u 0)) (n + 1) sl), (u 0, lsto [] 0)], 0, okD 2 65 [L, u 0] [] True⟩ := by cases b1 <;> kernel_rfl!
theorem uld_t3 (P : Params) (b1 b2 : Bool) (S : ST) (L ex ac mi n ne na nm tv : Nat) (h : Nat → Int) (k : Nat → Nat) (sl : Array (Option Value)) (es es2 as2 : List Value) (v : Str) (u : Nat → Nat) :
    trimO [true] (run (ftP P b1 b2) (KP P) S 8 c0 none 0 [] (valZ (whT (stm P 75 1)) (envAt P 75 L)) [(L, frS (xE3 h k ex ac mi) n sl)] 0 (mkU 0 u) 1 [] True) =
    some ⟨.fin (.done (.ret (.ref ex))), [(L, frS (xE3 h k ex ac mi) n sl)], 0, okD 1 1 [L] [] True⟩ := by cases b1 <;> kernel_rfl!
theorem uld_t4 (P : Params) (b1 b2 : Bool) (S : ST) (L ex ac mi n ne na nm tv : Nat) (h : Nat → Int) (k : Nat → Nat) (sl : Array (Option Value)) (es es2 as2 : List Value) (v : Str) (iv : Value) (u : Nat → Nat) :
    trimO [true] (run (ftP P b1 b2) (KP P) S 8 c0 none 0 [] (valZ (whT (stm P 75 1)) (envAt P 75 L)) [(L, frS (xE4 h k ex ac mi iv) n sl)] 0 (mkU 0 u) 1 [] True) =
    some ⟨.fin (.done (.ret (.ref ex))), [(L, frS (xE4 h k ex ac mi iv) n sl)], 0, okD 1 1 [L] [] True⟩ := by cases b1 <;> kernel_rfl!
theorem uld_p3 (P : Params) (b1 b2 : Bool) (S : ST) (L ex ac mi n ne na nm tv : Nat) (h : Nat → Int) (k : Nat → Nat) (sl : Array (Option Value)) (es es2 as2 : List Value) (v : Str) (u : Nat → Nat) :
    trimO [true, true] (run (ftP P b1 b2) (KP P) S 25 c0 none 0 [] (flowZ [nthS (wB P) 0] (envAt P 75 L)) [(L, frS (xE3 h k ex ac mi) n sl), (ex, lsto es ne)] 0 (mkU 1 u) 4534445809793 [cePop [false, true] ex es2 ne (.str v tv)] True) =
    some ⟨.fin (.done .next), [(L, frS (xE4 (fun i => match i with | 3 => hs P nItem | i => h i) (fun i => match i with | 3 => u 0 | i => k i) ex ac mi (.str v tv)) (n + 1) sl), (ex, lsto (es2) (ne + 1))], 0, okD 8 4534445809793 [L, ex] [(S (.call (.builtin "list.pop") ⟨[(.ref ex)], []⟩) [(ex, lsto (es) ne)] 0 (cePop [false, true] ex es2 ne (.str v tv)).n (cePop [false, true] ex es2 ne (.str v tv)).f (cePop [false, true] ex es2 ne (.str v tv)).j, fun _ => [L, ex])] True⟩ := by cases b1 <;> kernel_rfl!
theorem uld_p4 (P : Params) (b1 b2 : Bool) (S : ST) (L ex ac mi n ne na nm tv : Nat) (h : Nat → Int) (k : Nat → Nat) (sl : Array (Option Value)) (es es2 as2 : List Value) (v : Str) (iv : Value) (u : Nat → Nat) :
    trimO [true, true] (run (ftP P b1 b2) (KP P) S 25 c0 none 0 [] (flowZ [nthS (wB P) 0] (envAt P 75 L)) [(L, frS (xE4 h k ex ac mi iv) n sl), (ex, lsto es ne)] 0 (mkU 1 u) 4534445809793 [cePop [false, true] ex es2 ne (.str v tv)] True) =
    some ⟨.fin (.done .next), [(L, frS (xE4 h k ex ac mi (.str v tv)) n sl), (ex, lsto (es2) (ne + 1))], 0, okD 8 4534445809793 [L, ex] [(S (.call (.builtin "list.pop") ⟨[(.ref ex)], []⟩) [(ex, lsto (es) ne)] 0 (cePop [false, true] ex es2 ne (.str v tv)).n (cePop [false, true] ex es2 ne (.str v tv)).f (cePop [false, true] ex es2 ne (.str v tv)).j, fun _ => [L, ex])] True⟩ := by cases b1 <;> kernel_rfl!
theorem uld_r (P : Params) (b1 b2 : Bool) (S : ST) (L ex ac mi n ne na nm tv : Nat) (h : Nat → Int) (k : Nat → Nat) (sl : Array (Option Value)) (es es2 as2 : List Value) (v : Str) (u : Nat → Nat) :
    trimO [true, true] (run (ftP P b1 b2) (KP P) S 20 c0 none 0 [] (flowZ (trB (wTry P)) (envAt P 75 L)) [(L, frS (xE4 h k ex ac mi (.str v tv)) n sl), (ac, lsto es na)] 0 (mkU 0 u) 4330434863233 [ceRm [false, true] ac as2 na] True) =
    some ⟨.fin (.done .next), [(L, frS (xE4 h k ex ac mi (.str v tv)) n sl), (ac, lsto (as2) (na + 1))], 0, okD 7 4330434863233 [L, ac] [(S (.call (.builtin "list.remove") ⟨[(.ref ac), (.str v tv)], []⟩) [(ac, lsto (es) na)] 0 (ceRm [false, true] ac as2 na).n (ceRm [false, true] ac as2 na).f (ceRm [false, true] ac as2 na).j, fun _ => [L, ac])] True⟩ := by cases b1 <;> kernel_rfl!
theorem uld_x (P : Params) (b1 b2 : Bool) (S : ST) (L ex ac mi n ne na nm tv : Nat) (h : Nat → Int) (k : Nat → Nat) (sl : Array (Option Value)) (es es2 as2 : List Value) (v : Str) (u : Nat → Nat) :
    trimO [true, true, true] (run (ftP P b1 b2) (KP P) S 19 c0 none 0 [] (flowZ (trB (wTry P)) (envAt P 75 L)) [(L, frS (xE4 h k ex ac mi (.str v tv)) n sl), (ac, lsto es na)] 0 (mkU 2 u) 4330434863233 [ceRmE [false, true] ac (lsto es na)] True) =
    some ⟨.exc (.ref (u 1)), [(L, frS (xE4 h k ex ac mi (.str v tv)) n sl), (ac, lsto (es) na), (u 1, exO "ValueError" (u 0) .none)], 0, okD 7 4330434863233 [L, ac] [(S (.call (.builtin "list.remove") ⟨[(.ref ac), (.str v tv)], []⟩) [(ac, lsto (es) na)] 0 (ceRmE [false, true] ac (lsto es na)).n (ceRmE [false, true] ac (lsto es na)).f (ceRmE [false, true] ac (lsto es na)).j, fun _ => [L, ac, u 1])] True⟩ := by cases b1 <;> kernel_rfl!
theorem uld_h (P : Params) (b1 b2 : Bool) (S : ST) (L e : Nat) (u : Nat → Nat) :
    trimO [] (run (ftP P b1 b2) (KP P) S 9 c0 (some (.ref e)) 0 [] (valZ (hnT (wTry P)) (envAt P 75 L)) [] 0 (mkU 0 u) 0 [] True) =
    some ⟨.fin (.done (.ret (.type "ValueError"))), [], 0, okD 2 0 [] [] True⟩ := by cases b1 <;> kernel_rfl!
theorem uld_f3 (P : Params) (b1 b2 : Bool) (S : ST) (L ex ac mi n ne na nm tv : Nat) (h : Nat → Int) (k : Nat → Nat) (sl : Array (Option Value)) (es es2 as2 : List Value) (v : Str) (u : Nat → Nat) :
    trimO [false, true] (run (ftP P b1 b2) (KP P) S 13 c0 none 0 [] (flowZ [stm P 75 2] (envAt P 75 L)) [(L, frS (xE3 h k ex ac mi) n sl)] 0 (mkU 1 u) 65 [] True) =
    some ⟨.fin (.done (.ret (.ref (u 0)))), [(u 0, tupO [(.ref mi), (.ref ac)])], 0, okD 2 65 [L, u 0] [] True⟩ := by cases b1 <;> kernel_rfl!
theorem uld_f (P : Params) (b1 b2 : Bool) (S : ST) (L ex ac mi n ne na nm tv : Nat) (h : Nat → Int) (k : Nat → Nat) (sl : Array (Option Value)) (es es2 as2 : List Value) (v : Str) (iv : Value) (u : Nat → Nat) :
    trimO [false, true] (run (ftP P b1 b2) (KP P) S 13 c0 none 0 [] (flowZ [stm P 75 2] (envAt P 75 L)) [(L, frS (xE4 h k ex ac mi iv) n sl)] 0 (mkU 1 u) 65 [] True) =
    some ⟨.fin (.done (.ret (.ref (u 0)))), [(u 0, tupO [(.ref mi), (.ref ac)])], 0, okD 2 65 [L, u 0] [] True⟩ := by cases b1 <;> kernel_rfl!
theorem uld_s0 (P : Params) (b1 b2 : Bool) (S : ST) (L ex ac mi n nm tv e : Nat) (h : Nat → Int) (k : Nat → Nat) (sl : Array (Option Value)) (v : Str) (ms : Nat → Value) (u : Nat → Nat) :
    trimO [true, true] (run (ftP P b1 b2) (KP P) S 26 c0 (some (.ref e)) 0 [] (flowZ (hnB (wTry P)) (envAt P 75 L)) [(L, frS (xE4 h k ex ac mi (.str v tv)) n sl), (mi, lsto (mkV 0 ms) nm)] 0 (mkU 0 u) 2342443553386930305 [] True) =
    some ⟨.fin (.done .next), [(L, frS (xE4 h k ex ac mi (.str v tv)) n sl), (mi, lsto (mkV 0 ms ++ [.str v tv]) (nm + 1))], 0, okD 11 2342443553386930305 [L, mi] [] True⟩ := by cases b1 <;> kernel_rfl!
theorem uld_s1 (P : Params) (b1 b2 : Bool) (S : ST) (L ex ac mi n nm tv e : Nat) (h : Nat → Int) (k : Nat → Nat) (sl : Array (Option Value)) (v : Str) (ms : Nat → Value) (u : Nat → Nat) :
    trimO [true, true] (run (ftP P b1 b2) (KP P) S 26 c0 (some (.ref e)) 0 [] (flowZ (hnB (wTry P)) (envAt P 75 L)) [(L, frS (xE4 h k ex ac mi (.str v tv)) n sl), (mi, lsto (mkV 1 ms) nm)] 0 (mkU 0 u) 2342443553386930305 [] True) =
    some ⟨.fin (.done .next), [(L, frS (xE4 h k ex ac mi (.str v tv)) n sl), (mi, lsto (mkV 1 ms ++ [.str v tv]) (nm + 1))], 0, okD 11 2342443553386930305 [L, mi] [] True⟩ := by cases b1 <;> kernel_rfl!
theorem uld_s2 (P : Params) (b1 b2 : Bool) (S : ST) (L ex ac mi n nm tv e : Nat) (h : Nat → Int) (k : Nat → Nat) (sl : Array (Option Value)) (v : Str) (ms : Nat → Value) (u : Nat → Nat) :
    trimO [true, true] (run (ftP P b1 b2) (KP P) S 26 c0 (some (.ref e)) 0 [] (flowZ (hnB (wTry P)) (envAt P 75 L)) [(L, frS (xE4 h k ex ac mi (.str v tv)) n sl), (mi, lsto (mkV 2 ms) nm)] 0 (mkU 0 u) 2342443553386930305 [] True) =
    some ⟨.fin (.done .next), [(L, frS (xE4 h k ex ac mi (.str v tv)) n sl), (mi, lsto (mkV 2 ms ++ [.str v tv]) (nm + 1))], 0, okD 11 2342443553386930305 [L, mi] [] True⟩ := by cases b1 <;> kernel_rfl!
theorem uld_s3 (P : Params) (b1 b2 : Bool) (S : ST) (L ex ac mi n nm tv e : Nat) (h : Nat → Int) (k : Nat → Nat) (sl : Array (Option Value)) (v : Str) (ms : Nat → Value) (u : Nat → Nat) :
    trimO [true, true] (run (ftP P b1 b2) (KP P) S 26 c0 (some (.ref e)) 0 [] (flowZ (hnB (wTry P)) (envAt P 75 L)) [(L, frS (xE4 h k ex ac mi (.str v tv)) n sl), (mi, lsto (mkV 3 ms) nm)] 0 (mkU 0 u) 2342443553386930305 [] True) =
    some ⟨.fin (.done .next), [(L, frS (xE4 h k ex ac mi (.str v tv)) n sl), (mi, lsto (mkV 3 ms ++ [.str v tv]) (nm + 1))], 0, okD 11 2342443553386930305 [L, mi] [] True⟩ := by cases b1 <;> kernel_rfl!
theorem uld_s4 (P : Params) (b1 b2 : Bool) (S : ST) (L ex ac mi n nm tv e : Nat) (h : Nat → Int) (k : Nat → Nat) (sl : Array (Option Value)) (v : Str) (ms : Nat → Value) (u : Nat → Nat) :
    trimO [true, true] (run (ftP P b1 b2) (KP P) S 26 c0 (some (.ref e)) 0 [] (flowZ (hnB (wTry P)) (envAt P 75 L)) [(L, frS (xE4 h k ex ac mi (.str v tv)) n sl), (mi, lsto (mkV 4 ms) nm)] 0 (mkU 0 u) 2342443553386930305 [] True) =
    some ⟨.fin (.done .next), [(L, frS (xE4 h k ex ac mi (.str v tv)) n sl), (mi, lsto (mkV 4 ms ++ [.str v tv]) (nm + 1))], 0, okD 11 2342443553386930305 [L, mi] [] True⟩ := by cases b1 <;> kernel_rfl!
theorem uld_s5 (P : Params) (b1 b2 : Bool) (S : ST) (L ex ac mi n nm tv e : Nat) (h : Nat → Int) (k : Nat → Nat) (sl : Array (Option Value)) (v : Str) (ms : Nat → Value) (u : Nat → Nat) :
    trimO [true, true] (run (ftP P b1 b2) (KP P) S 26 c0 (some (.ref e)) 0 [] (flowZ (hnB (wTry P)) (envAt P 75 L)) [(L, frS (xE4 h k ex ac mi (.str v tv)) n sl), (mi, lsto (mkV 5 ms) nm)] 0 (mkU 0 u) 2342443553386930305 [] True) =
    some ⟨.fin (.done .next), [(L, frS (xE4 h k ex ac mi (.str v tv)) n sl), (mi, lsto (mkV 5 ms ++ [.str v tv]) (nm + 1))], 0, okD 11 2342443553386930305 [L, mi] [] True⟩ := by cases b1 <;> kernel_rfl!
theorem uld_s6 (P : Params) (b1 b2 : Bool) (S : ST) (L ex ac mi n nm tv e : Nat) (h : Nat → Int) (k : Nat → Nat) (sl : Array (Option Value)) (v : Str) (ms : Nat → Value) (u : Nat → Nat) :
    trimO [true, true] (run (ftP P b1 b2) (KP P) S 26 c0 (some (.ref e)) 0 [] (flowZ (hnB (wTry P)) (envAt P 75 L)) [(L, frS (xE4 h k ex ac mi (.str v tv)) n sl), (mi, lsto (mkV 6 ms) nm)] 0 (mkU 0 u) 2342443553386930305 [] True) =
    some ⟨.fin (.done .next), [(L, frS (xE4 h k ex ac mi (.str v tv)) n sl), (mi, lsto (mkV 6 ms ++ [.str v tv]) (nm + 1))], 0, okD 11 2342443553386930305 [L, mi] [] True⟩ := by cases b1 <;> kernel_rfl!
theorem uld_s7 (P : Params) (b1 b2 : Bool) (S : ST) (L ex ac mi n nm tv e : Nat) (h : Nat → Int) (k : Nat → Nat) (sl : Array (Option Value)) (v : Str) (ms : Nat → Value) (u : Nat → Nat) :
    trimO [true, true] (run (ftP P b1 b2) (KP P) S 26 c0 (some (.ref e)) 0 [] (flowZ (hnB (wTry P)) (envAt P 75 L)) [(L, frS (xE4 h k ex ac mi (.str v tv)) n sl), (mi, lsto (mkV 7 ms) nm)] 0 (mkU 0 u) 2342443553386930305 [] True) =
    some ⟨.fin (.done .next), [(L, frS (xE4 h k ex ac mi (.str v tv)) n sl), (mi, lsto (mkV 7 ms ++ [.str v tv]) (nm + 1))], 0, okD 11 2342443553386930305 [L, mi] [] True⟩ := by cases b1 <;> kernel_rfl!
theorem uld_s8 (P : Params) (b1 b2 : Bool) (S : ST) (L ex ac mi n nm tv e : Nat) (h : Nat → Int) (k : Nat → Nat) (sl : Array (Option Value)) (v : Str) (ms : Nat → Value) (u : Nat → Nat) :
    trimO [true, true] (run (ftP P b1 b2) (KP P) S 26 c0 (some (.ref e)) 0 [] (flowZ (hnB (wTry P)) (envAt P 75 L)) [(L, frS (xE4 h k ex ac mi (.str v tv)) n sl), (mi, lsto (mkV 8 ms) nm)] 0 (mkU 0 u) 2342443553386930305 [] True) =
    some ⟨.fin (.done .next), [(L, frS (xE4 h k ex ac mi (.str v tv)) n sl), (mi, lsto (mkV 8 ms ++ [.str v tv]) (nm + 1))], 0, okD 11 2342443553386930305 [L, mi] [] True⟩ := by cases b1 <;> kernel_rfl!

end Mine
end
-- V27
section
open PySem PySem.Spec PySem.Calls PyProof.Rows PySem.W PySem.W.X
namespace Mine
noncomputable def afterRaise (cls msg : String) (s : Shared) : Shared := { s with heap := (s.heap.push (tupO [.str (Str.ofString msg) s.toks])).push (exO cls s.heap.objs.size .none), toks := s.toks + 1 }
theorem wp_raiseW {α : Type} {M : Model} {A : Around} {E : Value → Shared → Prop} {s : Shared} {cls msg : String} {Q : α → Shared → Prop} (hp : PlainExc cls) (hh : A.handled = none)
    (h : E (.ref (s.heap.objs.size + 1)) (afterRaise cls msg s)) : wpAny M A (raiseErrorWords cls msg : Sem α) Q E s := by
  unfold raiseErrorWords
  refine wpAny_bind (wpAny_mkText (wpAny_bind ?_))
  unfold newExc newTuple
  refine wpAny_bind (wpAny_newObj_type ?_)
  refine wpAny_bind (m := firstArgMember _ _) (wpAny_of_eq (a := Value.none) (by simp only [firstArgMember, hp.first]; rfl) ?_)
  rw [hp.own]
  refine wpAny_newObj_type ?_
  unfold raiseNew
  refine wpAny_bind (wpAny_handled ?_)
  rw [hh]
  have e : (s.heap.push { cls := Value.type "tuple", data := Data.seq [Value.str (Str.ofString msg) s.toks].toArray }).objs.size = s.heap.objs.size + 1 := by
    show (s.heap.objs.push _).size = _
    rw [Array.size_push]
  refine wpAny_bind (wpAny_pure (wpAny_throw ?_))
  have h2 := h
  unfold afterRaise at h2
  rw [← e] at h2
  exact h2
theorem remove_loop_no {l : Addr} {items : Array Value} {n : Nat} {x : Value} {e : Value → Bool} (he : ∀ y, y ∈ items → MeetsSeq.EqGives y x (e y)) (hno : ∀ m (hm : m < items.size), e items[m] = false) (k : Nat) :
    ∀ i : Nat, items.size - i = k → Meets (Builtin.«list.remove.loop» ⟨[.ref l, x, rawInt i], []⟩)
      (fun A R s => s.heap.get? l = some { cls := .type "list", dict := none, data := .seq items n, slots := #[] } ∧ A.handled = none ∧ R (.error (.ref (s.heap.objs.size + 1))) (afterRaise "ValueError" "list.remove(x): x not in list" s)) := by
  induction k with
  | zero =>
    intro i hk prog w A R s h
    obtain ⟨hp, g, d, tk, os⟩ := s; obtain ⟨hl, h⟩ := h
    wp_walk using AutoSeq1.wpAny_loadPart' hl
    have hi : items[((i : Nat) : Int).toNat]? = none := by simp; omega
    rw [hi]
    wp_walk
    exact wp_raiseW plainExc_ValueError h.1 h.2
  | succ k ih =>
    intro i hk prog w A R s h
    obtain ⟨hp, g, d, tk, os⟩ := s; obtain ⟨hl, h⟩ := h
    have hlt : i < items.size := by omega
    wp_walk using AutoSeq1.wpAny_loadPart' hl
    have hi : items[((i : Nat) : Int).toNat]? = some items[i] := by simp [hlt]
    have hc : ((i : Int) + 1) = ((i + 1 : Nat) : Int) := by push_cast; rfl
    rw [hi]
    refine wpAny_bind (he _ (Array.getElem_mem hlt) prog w _ _ _ _ ?_)
    rw [hno i hlt]
    wp_walk
    rw [hc]
    exact ⟨plainId_quiet MeetsSeq.plain_remove_loop _, codeAny_builtin MeetsSeq.entry_remove_loop (by
      rw [Around.under_plainId MeetsSeq.plain_remove_loop _]
      exact ih (i + 1) (by omega) prog w A R _ ⟨hl, h⟩)⟩
theorem list_remove_no {l : Addr} {items : Array Value} {n : Nat} {x : Value} {e : Value → Bool} (he : ∀ y, y ∈ items → MeetsSeq.EqGives y x (e y)) (hno : ∀ m (hm : m < items.size), e items[m] = false) :
    Meets (Builtin.«list.remove» ⟨[.ref l, x], []⟩)
      (fun A R s => s.heap.get? l = some { cls := .type "list", dict := none, data := .seq items n, slots := #[] } ∧ A.handled = none ∧ R (.error (.ref (s.heap.objs.size + 1))) (afterRaise "ValueError" "list.remove(x): x not in list" s)) := by
  intro prog w A R s h
  obtain ⟨hp, g, d, tk, os⟩ := s; obtain ⟨hl, h⟩ := h
  wp_walk using AutoSeq1.wpAny_loadPart' hl
  exact ⟨plainId_quiet MeetsSeq.plain_remove_loop _, codeAny_builtin MeetsSeq.entry_remove_loop (by
    rw [Around.under_plainId MeetsSeq.plain_remove_loop _]
    exact remove_loop_no he hno _ 0 rfl prog w A R _ ⟨hl, h⟩)⟩
section
variable {w : World} {K : Frag} {J : Nat → Array GenState → Prop} {B : Addr → Option Obj} {os : OsState} {dr : Drawn} {d : Nat}
theorem Rel.raised {H : List Ent} {j : Nat} {cls msg : String} {s : Shared} (R : Rel J B os dr H j s) : Rel J B os dr ((s.heap.objs.size + 1, exO cls s.heap.objs.size .none) :: H) j (afterRaise cls msg s) := by
  have R1 := R.alloc (o := tupO [.str (Str.ofString msg) s.toks]) rfl
  have R2 := R1.alloc (o := exO cls s.heap.objs.size .none) rfl
  have R3 := R2.toks (s.toks + 1)
  rw [snoc_eq, snoc_eq] at R3
  have e : ({ s with heap := s.heap.push (tupO [.str (Str.ofString msg) s.toks]) } : Shared).heap.objs.size = s.heap.objs.size + 1 := by
    show (s.heap.objs.push _).size = _
    rw [Array.size_push]
  rw [e, List.append_assoc] at R3
  have R4 := R3.perm (List.perm_append_comm)
  exact Rel.front (Hp := (_ :: H)) (R4.perm (List.Perm.trans (List.Perm.swap _ _ _) (List.Perm.cons _ (List.perm_append_comm (l₁ := [_])))))
theorem specRmE {l n : Nat} {vs : List Value} {x : Str} {t : Nat} (m : List Bool) (e : Value → Bool) (he : ∀ y ∈ vs, MeetsSeq.EqGives y (.str x t) (e y)) (hno : ∀ i (h : i < vs.length), e vs[i] = false) :
    Spec w K d J (.call (.builtin "list.remove") ⟨[.ref l, .str x t], []⟩) [(l, lsto vs n)] 0 2 (ceRmE m l (lsto vs n)).f 0 := by
  refine spec_err (gv := fun us => .ref (getU us 1)) (gH := fun us => [(l, lsto vs n), (getU us 1, exO "ValueError" (getU us 0) .none)]) fun A B os dr s E hA hK R hE => ?_
  refine call_meets F.slot_list_remove (R.isList (i := 0) rfl).typeIs F.entry_list_remove (F.args_list_remove_2 _ _) (list_remove_no (l := l) (items := ⟨vs⟩) (n := n) (fun y hy => he y (by simpa using hy)) (fun i h => by simpa using hno i (by simpa using h))) ⟨R.at (i := 0) rfl, hA.1, ?_⟩
  exact hE [s.heap.objs.size, s.heap.objs.size + 1] _ rfl (R.raised.perm (List.Perm.swap _ _ _))
end
end Mine
end
-- V28
section
open PySem PySem.Spec PySem.Calls PyProof.Rows PySem.W PySem.W.X
namespace Mine
/-- values that are these texts -/
inductive TxA : List Value → List (List Nat) → Prop
  | nil : TxA [] []
  | cons {x : List Nat} {t : Nat} {vs : List Value} {l : List (List Nat)} : TxA vs l → TxA (.str (mkS x) t :: vs) (x :: l)
theorem txts_are : ∀ (l : List (List Nat)) (us : List Nat), TxA (txts l us) l
  | [], _ => .nil
  | x :: l, us => .cons (txts_are l us.tail)
theorem TxA.len {vs : List Value} {l : List (List Nat)} (h : TxA vs l) : vs.length = l.length := by
  induction h with
  | nil => rfl
  | cons _ ih => simp [ih]
theorem TxA.app {vs ws : List Value} {l m : List (List Nat)} (h : TxA vs l) (h' : TxA ws m) : TxA (vs ++ ws) (l ++ m) := by
  induction h with
  | nil => exact h'
  | cons _ ih => exact .cons ih
theorem TxA.last : ∀ {vs : List Value} {l : List (List Nat)} {x : List Nat}, TxA vs (l ++ [x]) → ∃ vs' t, vs = vs' ++ [.str (mkS x) t] ∧ TxA vs' l
  | _, [], x, h => by
    cases h with | @cons _ t _ _ h =>
    cases h
    exact ⟨[], t, rfl, .nil⟩
  | _, y :: l, x, h => by
    cases h with | @cons _ t vs _ h =>
    obtain ⟨vs', t', e, h'⟩ := TxA.last h
    exact ⟨.str (mkS y) t :: vs', t', by rw [e]; rfl, .cons h'⟩
noncomputable def eqT (x : List Nat) : Value → Bool
  | .str y _ => y.cps.toList == x
  | _ => false
theorem TxA.eqs {vs : List Value} {l : List (List Nat)} (h : TxA vs l) (x : List Nat) (t : Nat) : ∀ y ∈ vs, MeetsSeq.EqGives y (.str (mkS x) t) (eqT x y) := by
  induction h with
  | nil => intro y hy; cases hy
  | cons _ ih =>
    intro y hy
    rcases List.mem_cons.mp hy with rfl | hy
    · exact SeqRoads2.EqGives.str _ _ _ _
    · exact ih y hy
theorem TxA.none {vs : List Value} {l : List (List Nat)} (h : TxA vs l) {x : List Nat} (hx : x ∉ l) : ∀ i (hi : i < vs.length), eqT x vs[i] = false := by
  induction h with
  | nil => intro i hi; cases hi
  | @cons y t vs l h ih =>
    intro i hi
    cases i with
    | zero =>
      show (y == x) = false
      rw [beq_eq_false_iff_ne]
      intro e; exact hx (e ▸ .head _)
    | succ i => exact ih (fun hm => hx (.tail _ hm)) i (by simpa using hi)
theorem TxA.some {vs : List Value} {l : List (List Nat)} (h : TxA vs l) {x : List Nat} (hx : x ∈ l) :
    ∃ k, ∃ hk : k < vs.length, eqT x vs[k] = true ∧ (∀ i (hi : i < vs.length), i < k → eqT x vs[i] = false) ∧ TxA (vs.eraseIdx k) (l.erase x) := by
  induction h with
  | nil => cases hx
  | @cons y t vs l h ih =>
    by_cases e : y = x
    · subst e
      refine ⟨0, by simp, ?_, fun i _ hi => absurd hi (Nat.not_lt_zero _), ?_⟩
      · show (y == y) = true
        exact beq_self_eq_true _
      · rw [List.erase_cons_head]; exact h
    · have hx' : x ∈ l := by
        rcases List.mem_cons.mp hx with rfl | hx
        · exact absurd rfl e
        · exact hx
      obtain ⟨k, hk, h1, h2, h3⟩ := ih hx'
      refine ⟨k + 1, by simpa using hk, h1, fun i hi hik => ?_, ?_⟩
      · cases i with
        | zero =>
          show (y == x) = false
          rw [beq_eq_false_iff_ne]; exact e
        | succ i => exact h2 i (by simpa using hi) (by omega)
      · rw [List.erase_cons_tail (by simpa using e)]
        exact .cons h3
/-- what the list difference makes -/
noncomputable def uld : List (List Nat) → List (List Nat) → List (List Nat) → List (List Nat) × List (List Nat)
  | [], as, ms => (ms, as)
  | x :: r, as, ms => if x ∈ as then uld r (as.erase x) ms else uld r as (ms ++ [x])
section
variable {w : World} {K : Frag} {J : Nat → Array GenState → Prop} {B : Addr → Option Obj} {os : OsState} {dr : Drawn} {d : Nat} {A : Around}
theorem tree_h {P : Params} (hP : P = w.params) {hv : Option Value} {t : Sem PySem.Fin} {Q₀ : PySem.Fin → Shared → Prop} {E₀ : Value → Shared → Prop} {Hp rest : List Ent} {j ct n L : Nat} {ces : List CE} {s : Shared} {m : List Bool} (hA : A.handled = hv) (hA1 : A.depth + 14 ≤ d) (hA2 : A.units + 42 ≤ 3 * d) (hK : KIn K B) (R : Rel J B os dr (Hp ++ rest) j s)
    (h : ∀ u, ∃ r Hn j' ok, trimO m (run P K (SP w K d J) n c0 hv 0 [] t Hp j (mkU L u) ct ces True) = some ⟨r, Hn, j', ok⟩ ∧ ok ∧ ∀ s', Rel J B os dr (Hn ++ rest) j' s' → resQ Q₀ E₀ r s') : wpAny (Mo w) A t Q₀ E₀ s := by
  have e := splitM_front Hp rest
  have Rp := R.part (allT Hp)
  have hKp := hK.part R (allT Hp)
  have bk : ∀ {s' : Shared} {j' : Nat} {Hn : List Ent}, Rel J (hideB (splitM (allT Hp) (Hp ++ rest)).1 s.heap) os dr Hn j' s' → Rel J B os dr (app (splitM (allT Hp) (Hp ++ rest)).2 Hn) j' s' := fun R' => R.back (allT Hp) R'
  rw [e] at Rp hKp bk
  refine run_sound hA1 hA2 hKp n c0 hv 0 [] t Hp j ct ces True L s ⟨hA, rfl⟩ Rp fun us hl => ?_
  obtain ⟨r, Hn, j', ok, h1, h2, h3⟩ := h (getU us)
  rw [← mkU_get hl, hP] at h1
  refine trim_use h1 h2 ?_
  have key : ∀ s', Rel J (hideB Hp s.heap) os dr Hn j' s' → resQ Q₀ E₀ r s' := fun s' R' => h3 s' (by
    have := bk R'
    rw [app_eq] at this
    exact this.perm List.perm_append_comm)
  unfold Ends
  cases r with
  | fin f => exact key
  | exc e => exact key
theorem flow_h {P : Params} (hP : P = w.params) {hv : Option Value} {b : List Stmt} {env : Env} {Q : Flow → Shared → Prop} {E : Value → Shared → Prop} {Hp rest : List Ent} {j ct n L : Nat} {ces : List CE} {s : Shared} {m : List Bool} (hA : A.handled = hv) (hA1 : A.depth + 14 ≤ d) (hA2 : A.units + 42 ≤ 3 * d) (hK : KIn K B) (R : Rel J B os dr (Hp ++ rest) j s)
    (h : ∀ u, ∃ r Hn j' ok, trimO m (run P K (SP w K d J) n c0 hv 0 [] (flowZ b env) Hp j (mkU L u) ct ces True) = some ⟨r, Hn, j', ok⟩ ∧ ok ∧ ∀ s', Rel J B os dr (Hn ++ rest) j' s' → (match r with | .fin (.done f) => Q f s' | .exc e => E e s' | _ => False)) : wpAny (Mo w) A (execs b env) Q E s := by
  have z : wpAny (Mo w) A (flowZ b env) (fun fin s' => match fin with | .done f => Q f s' | .again _ => False) E s :=
    tree_h hP hA hA1 hA2 hK R (m := m) (L := L) (ct := ct) (n := n) (ces := ces) fun u => by
      obtain ⟨r, Hn, j', ok, h1, h2, h3⟩ := h u
      refine ⟨r, Hn, j', ok, h1, h2, fun s' R' => ?_⟩
      have := h3 s' R'
      cases r with
      | fin f => cases f <;> exact this
      | exc e => exact this
  rw [flowZ_eq] at z
  exact wpAny_unbind (g := fun f => PySem.Fin.done f) z
theorem flow_h2 {P : Params} (hP : P = w.params) {hv : Option Value} {b : List Stmt} {env : Env} {Q : Flow → Shared → Prop} {E : Value → Shared → Prop} {Hp rest : List Ent} {j ct n L : Nat} {ces : List CE} {s : Shared} {m : List Bool} (hA : A.handled = hv) (hA1 : A.depth + 14 ≤ d) (hA2 : A.units + 42 ≤ 3 * d) (hK : KIn K B) (R : Rel J B os dr (Hp ++ rest) j s) {r : (Nat → Nat) → Res} {Hn : (Nat → Nat) → List Ent} {ok : (Nat → Nat) → Prop} {j' : Nat}
    (h : ∀ u, trimO m (run P K (SP w K d J) n c0 hv 0 [] (flowZ b env) Hp j (mkU L u) ct ces True) = some ⟨(r u), Hn u, j', ok u⟩) (hok : ∀ u, ok u) (hq : ∀ u s', Rel J B os dr (Hn u ++ rest) j' s' → (match (r u) with | .fin (.done f) => Q f s' | .exc e => E e s' | _ => False)) : wpAny (Mo w) A (execs b env) Q E s :=
  flow_h hP hA hA1 hA2 hK R fun u => ⟨_, _, _, _, h u, hok u, hq u⟩
theorem val_h {P : Params} (hP : P = w.params) {hv : Option Value} {e : Expr} {env : Env} {Q : Value → Shared → Prop} {E : Value → Shared → Prop} {Hp rest : List Ent} {j ct n L : Nat} {ces : List CE} {s : Shared} {m : List Bool} (hA : A.handled = hv) (hA1 : A.depth + 14 ≤ d) (hA2 : A.units + 42 ≤ 3 * d) (hK : KIn K B) (R : Rel J B os dr (Hp ++ rest) j s)
    (h : ∀ u, ∃ v Hn j' ok, trimO m (run P K (SP w K d J) n c0 hv 0 [] (valZ e env) Hp j (mkU L u) ct ces True) = some ⟨.fin (.done (.ret v)), Hn, j', ok⟩ ∧ ok ∧ ∀ s', Rel J B os dr (Hn ++ rest) j' s' → Q v s') : wpAny (Mo w) A (eval e env) Q E s := by
  have z : wpAny (Mo w) A (valZ e env) (fun fin s' => match fin with | .done (.ret v) => Q v s' | _ => False) E s :=
    tree_h hP hA hA1 hA2 hK R (m := m) (L := L) (ct := ct) (n := n) (ces := ces) fun u => by
      obtain ⟨v, Hn, j', ok, h1, h2, h3⟩ := h u
      exact ⟨_, Hn, j', ok, h1, h2, h3⟩
  rw [valZ_eq] at z
  exact wpAny_unbind (g := fun v => PySem.Fin.done (.ret v)) z
theorem val_h2 {P : Params} (hP : P = w.params) {hv : Option Value} {e : Expr} {env : Env} {Q : Value → Shared → Prop} {E : Value → Shared → Prop} {Hp rest : List Ent} {j ct n L : Nat} {ces : List CE} {s : Shared} {m : List Bool} (hA : A.handled = hv) (hA1 : A.depth + 14 ≤ d) (hA2 : A.units + 42 ≤ 3 * d) (hK : KIn K B) (R : Rel J B os dr (Hp ++ rest) j s) {v : (Nat → Nat) → Value} {Hn : (Nat → Nat) → List Ent} {ok : (Nat → Nat) → Prop} {j' : Nat}
    (h : ∀ u, trimO m (run P K (SP w K d J) n c0 hv 0 [] (valZ e env) Hp j (mkU L u) ct ces True) = some ⟨.fin (.done (.ret (v u))), Hn u, j', ok u⟩) (hok : ∀ u, ok u) (hq : ∀ u s', Rel J B os dr (Hn u ++ rest) j' s' → Q (v u) s') : wpAny (Mo w) A (eval e env) Q E s :=
  val_h hP hA hA1 hA2 hK R fun u => ⟨_, _, _, _, h u, hok u, hq u⟩
theorem flight_off {M : Model} {E : Value → Shared → Prop} {e a tb L j : Nat} {cls : String} {nx fl : Value} {six : List Value} {rest : List Ent} {s : Shared} {Q : Unit → Shared → Prop}
    (R : Rel J B os dr ((e, exO cls a (.ref tb)) :: (tb, tbO nx L fl six) :: rest) j s) (h : ∀ s', Rel J B os dr ((e, exO cls a (.ref tb)) :: (tb, tbO nx L .none six) :: rest) j s' → Q () s') :
    wpAny M A (setFlight (.ref e) none) Q E s := by
  unfold setFlight
  refine wpAny_bind (wpAny_field (R.at (i := 0) rfl) rfl (x := .ref tb) rfl ?_)
  rw [if_pos (show (Value.ref tb != Value.none) = true from by simp)]
  have R1 := R.perm (List.Perm.swap _ _ _)
  exact wp_setField R1 rfl (by simp) rfl fun R2 => h _ (R2.perm (List.Perm.swap _ _ _))
theorem uld_try (P : Params) : wTry P = .Try (trB (wTry P)) [.ExceptHandler (some (hnT (wTry P))) none (hnB (wTry P)) (hnP (wTry P))] [] [] (trP (wTry P)) := by kernel_rfl!
theorem uld_hb (P : Params) : hnB (wTry P) = nthS (hnB (wTry P)) 0 :: [] := by kernel_rfl!
theorem uld_wb (P : Params) : wB P = [nthS (wB P) 0] ++ [wTry P] := by kernel_rfl!
theorem isExcV : isSubtype (.type "ValueError") (.type "BaseException") = pure true := F.isExc_ValueError
theorem notTupV : isSubtype (.type ((Manifest.find? "ValueError").elim "type" fun x => x.metatype)) (.type "tuple") = pure false := by
  rw [isSubtype_type]; kernel_rfl
theorem subVV : isSubtype (.type "ValueError") (.type "ValueError") = pure true := by rw [isSubtype_type]; kernel_rfl
end
end Mine
end
-- V29
section
open PySem PySem.Spec PySem.Calls PyProof.Rows PySem.W PySem.W.X
namespace Mine
theorem uld_s (q : Nat) (hq : q ≤ 8) (P : Params) (b1 b2 : Bool) (S : ST) (L ex ac mi n nm tv e : Nat) (h : Nat → Int) (k : Nat → Nat) (sl : Array (Option Value)) (v : Str) (ms : Nat → Value) (u : Nat → Nat) :
    trimO [true, true] (run (ftP P b1 b2) (KP P) S 26 c0 (some (.ref e)) 0 [] (flowZ (hnB (wTry P)) (envAt P 75 L)) [(L, frS (xE4 h k ex ac mi (.str v tv)) n sl), (mi, lsto (mkV q ms) nm)] 0 (mkU 0 u) 2342443553386930305 [] True) =
    some ⟨.fin (.done .next), [(L, frS (xE4 h k ex ac mi (.str v tv)) n sl), (mi, lsto (mkV q ms ++ [.str v tv]) (nm + 1))], 0, okD 11 2342443553386930305 [L, mi] [] True⟩ := by
  rcases q with _ | _ | _ | _ | _ | _ | _ | _ | _ | q
  · exact uld_s0 P b1 b2 S L ex ac mi n nm tv e h k sl v ms u
  · exact uld_s1 P b1 b2 S L ex ac mi n nm tv e h k sl v ms u
  · exact uld_s2 P b1 b2 S L ex ac mi n nm tv e h k sl v ms u
  · exact uld_s3 P b1 b2 S L ex ac mi n nm tv e h k sl v ms u
  · exact uld_s4 P b1 b2 S L ex ac mi n nm tv e h k sl v ms u
  · exact uld_s5 P b1 b2 S L ex ac mi n nm tv e h k sl v ms u
  · exact uld_s6 P b1 b2 S L ex ac mi n nm tv e h k sl v ms u
  · exact uld_s7 P b1 b2 S L ex ac mi n nm tv e h k sl v ms u
  · exact uld_s8 P b1 b2 S L ex ac mi n nm tv e h k sl v ms u
  · omega
theorem perm_a (l a e x m : Ent) (fs rest : List Ent) : ([l, a, e] ++ (x :: m :: (fs ++ rest))).Perm (e :: ((l :: fs) ++ (a :: x :: m :: rest))) :=
  blk_perm [[l], [a], [e], [x], [m], fs, rest] [2, 0, 5, 1, 3, 4, 6] (by kernel_rfl!) (by simp [catB]) (by simp [catB, pickB, getI])
theorem perm_b (e t l a x m : Ent) (fs rest : List Ent) : (e :: t :: ((l :: fs) ++ (a :: x :: m :: rest))).Perm ([l, m] ++ (e :: t :: a :: x :: (fs ++ rest))) :=
  blk_perm [[e], [t], [l], fs, [a], [x], [m], rest] [2, 6, 0, 1, 4, 5, 3, 7] (by kernel_rfl!) (by simp [catB]) (by simp [catB, pickB, getI])
theorem perm_c (e t l a x m : Ent) (fs rest : List Ent) : ([l, m] ++ (e :: t :: a :: x :: (fs ++ rest))).Perm ((l :: x :: a :: m :: (fs ++ rest)) ++ [e, t]) :=
  blk_perm [[l], [m], [e], [t], [a], [x], fs, rest] [0, 5, 4, 1, 6, 7, 2, 3] (by kernel_rfl!) (by simp [catB]) (by simp [catB, pickB, getI])
theorem perm_d (l x a m : Ent) (T : List Ent) : (l :: x :: a :: m :: T).Perm ([l, a] ++ (x :: m :: T)) :=
  blk_perm [[l], [x], [a], [m], T] [0, 2, 1, 3, 4] (by kernel_rfl!) (by simp [catB]) (by simp [catB, pickB, getI])
section
variable {w : World} {K : Frag} {J : Nat → Array GenState → Prop} {B : Addr → Option Obj} {os : OsState} {dr : Drawn} {d : Nat} {A : Around}
theorem uld_tryL {outer : List Env} {L ex ac mi n ne na nm tv : Nat} {h : Nat → Int} {k : Nat → Nat} {sl : Array (Option Value)} {es as ms : List Value} {la : List (List Nat)} {x : List Nat} {fs rest : List Ent} {s : Shared} {Q : Flow → Shared → Prop} {E : Value → Shared → Prop}
    (hA : AOk (d - 14) A) (hd : 14 ≤ d) (hK : KIn (KP w.params) B) (hfr : A.frames = some (envAt w.params 75 L :: outer)) (hk : (envAt w.params 75 L).scope.kind ≠ .module) (F : FrsAre outer fs) (ta : TxA as la) (hal : as.length ≤ 1000) (hms : ms.length ≤ 8)
    (R : Rel J B os dr ((L, frS (xE4 h k ex ac mi (.str (mkS x) tv)) n sl) :: (ex, lsto es ne) :: (ac, lsto as na) :: (mi, lsto ms nm) :: (fs ++ rest)) 0 s)
    (h1 : x ∈ la → ∀ as' s', TxA as' (la.erase x) → as'.length ≤ 1000 → Rel J B os dr ((L, frS (xE4 h k ex ac mi (.str (mkS x) tv)) n sl) :: (ex, lsto es ne) :: (ac, lsto as' (na + 1)) :: (mi, lsto ms nm) :: (fs ++ rest)) 0 s' → Q .next s')
    (h2 : x ∉ la → ∀ sl' fs' s', SameF fs fs' → Rel J B os dr ((L, frS (xE4 h k ex ac mi (.str (mkS x) tv)) n sl') :: (ex, lsto es ne) :: (ac, lsto as na) :: (mi, lsto (ms ++ [.str (mkS x) tv]) (nm + 1)) :: (fs' ++ rest)) 0 s' → Q .next s') :
    wpAny (Mo w) A (execs [wTry w.params] (envAt w.params 75 L)) Q E s := by
  refine wpAny_execs_cons ?_
  rw [uld_try]
  refine wpAny_Try_except ?_
  have hA1 : A.depth + 14 ≤ d := by have := hA.2.1; omega
  have hA2 : A.units + 42 ≤ 3 * d := by have := hA.2.2; omega
  by_cases hx : x ∈ la
  · obtain ⟨i, hi, e1, e2, e3⟩ := ta.some hx
    have hl' : (as.eraseIdx i).length ≤ 1000 := by rw [List.length_eraseIdx_of_lt hi]; omega
    refine flow_h2 (fT_eq w) hA.1 hA1 hA2 hK (Hp := [_, _]) (R.perm (perm_d _ _ _ _ _)) (fun u => uld_r w.params _ _ _ L ex ac mi n 0 na 0 tv h k sl as [] (as.eraseIdx i) (mkS x) u) (fun u => okD_of _ _ _ _ ⟨specRm _ (eqT x) i hal (ta.eqs x tv) hi e1 e2, trivial⟩ trivial) fun u s' R' => ?_
    exact wpAny_execs_nil (wpAny_execs_nil (h1 hx _ s' e3 hl' (R'.perm (perm_d _ _ _ _ _).symm)))
  · refine flow_h2 (fT_eq w) hA.1 hA1 hA2 hK (Hp := [_, _]) (R.perm (perm_d _ _ _ _ _)) (fun u => uld_x w.params _ _ _ L ex ac mi n 0 na 0 tv h k sl as [] [] (mkS x) u) (fun u => okD_of _ _ _ _ ⟨specRmE _ (eqT x) (ta.eqs x tv) (ta.none hx), trivial⟩ trivial) fun u s' R' => ?_
    have F' : FrsAre (envAt w.params 75 L :: outer) ((L, frS (xE4 h k ex ac mi (.str (mkS x) tv)) n sl) :: fs) := .cons rfl hk F
    refine note_new hfr rfl F' (R'.perm (perm_a _ _ _ _ _ _ _)) fun tb six fs' s₂ hs R₂ => ?_
    cases hs with | @cons _ _ _ _ sl' _ fs'' hs =>
    refine flight_off R₂ fun s₃ R₃ => ?_
    rw [uld_hb]
    refine wpAny_handleBy_builtin (X := "ValueError") (T := "ValueError") (b := true) isExcV notTupV subVV ?_
    have hm : (A.mark (some (.ref (u 1)))).handled = some (.ref (u 1)) := rfl
    refine val_h2 (fT_eq w) hm hA1 hA2 hK (Hp := []) R₃ (fun u2 => uld_h w.params _ _ _ L (u 1) u2) (fun u2 => okD_of _ _ _ _ trivial trivial) fun u2 s₄ R₄ => ⟨rfl, ⟨_, R₄.at (i := 0) rfl, rfl⟩, ?_⟩
    rw [if_pos rfl]
    refine flight_off R₄ fun s₅ R₅ => ?_
    obtain ⟨vv, hv⟩ := mkV_of ms
    rw [← uld_hb]
    have R₆ := R₅.perm (perm_b _ _ _ _ _ _ _ _)
    rw [hv] at R₆
    refine flow_h2 (fT_eq w) hm hA1 hA2 hK (Hp := [_, _]) R₆ (fun u3 => uld_s ms.length hms w.params _ _ _ L ex ac mi n nm tv (u 1) h k sl' (mkS x) vv u3) (fun u3 => okD_of _ _ _ _ trivial trivial) fun u3 s₇ R₇ => ?_
    rw [← hv] at R₇
    exact wpAny_execs_nil (h2 hx sl' fs'' s₇ hs (Rel.front (R₇.perm (perm_c _ _ _ _ _ _ _ _))))
end
end Mine
end
-- V30
section
open PySem PySem.Spec PySem.Calls PyProof.Rows PySem.W PySem.W.X
namespace Mine
noncomputable def nmI : Expr → Str
  | .Name i _ => i
  | _ => ⟨⟨[]⟩⟩
noncomputable def nmP : Expr → Pos
  | .Name _ p => p
  | _ => default
theorem uld_name (P : Params) : whT (stm P 75 1) = .Name (nmI (whT (stm P 75 1))) (nmP (whT (stm P 75 1))) := by kernel_rfl!
theorem uld_wh (P : Params) : stm P 75 1 = .While (whT (stm P 75 1)) (wB P) [] (whP (stm P 75 1)) := by kernel_rfl!
theorem uld_body (P : Params) : bd P 75 = [stm P 75 0] ++ ([stm P 75 1] ++ [stm P 75 2]) := by kernel_rfl!
theorem isTrue_nm {e : Expr} {i : Str} {p : Pos} (h : e = .Name i p) (env : Env) (whole : Sem Value) : isTrue e env whole = (do let v ← whole; standAt e.pos; holding [v] (truthy v)) := by
  subst h; rfl
noncomputable def isX (h : Nat → Int) (k : Nat → Nat) (ex ac mi : Nat) (o : Obj) : Prop := (∃ n sl, o = frS (xE3 h k ex ac mi) n sl) ∨ (∃ h k n v sl, o = frS (xE4 h k ex ac mi v) n sl)
section
variable {w : World} {K : Frag} {J : Nat → Array GenState → Prop} {B : Addr → Option Obj} {os : OsState} {dr : Drawn} {d : Nat} {A : Around}
inductive UldAt (J : Nat → Array GenState → Prop) (B : Addr → Option Obj) (os : OsState) (dr : Drawn) (L ex ac mi : Nat) (h : Nat → Int) (k : Nat → Nat) (fs rest : List Ent) (l la lm : List (List Nat)) (s : Shared) : Prop
  | mk (ne na nm : Nat) (es as ms : List Value) (fs' : List Ent) (o : Obj) (te : TxA es l.reverse) (ta : TxA as la) (al : as.length ≤ 1000) (tm : TxA ms lm) (len : lm.length + l.length ≤ 9) (sf : SameF fs fs') (ho : isX h k ex ac mi o)
    (R : Rel J B os dr ((L, o) :: (ex, lsto es ne) :: (ac, lsto as na) :: (mi, lsto ms nm) :: (fs' ++ rest)) 0 s)
theorem uld_loop {outer : List Env} {L ex ac mi : Nat} {h : Nat → Int} {k : Nat → Nat} {fs rest : List Ent} {R : Result → Shared → Prop} {s : Shared} {res : List (List Nat) × List (List Nat)}
    (hA : AOk (d - 14) A) (hd : 14 ≤ d) (hK : KIn (KP w.params) B) (hfr : A.frames = some (envAt w.params 75 L :: outer)) (hk : (envAt w.params 75 L).scope.kind ≠ .module) (F : FrsAre outer fs)
    {l la lm : List (List Nat)} (hres : uld l la lm = res) (h0 : UldAt J B os dr L ex ac mi h k fs rest l la lm s)
    (hR : ∀ s', UldAt J B os dr L ex ac mi h k fs rest [] res.2 res.1 s' → R (.ok .next) s') :
    codeAny (Mo w) A (.whileLoop (whT (stm w.params 75 1)) (wB w.params) [] (envAt w.params 75 L)) R s := by
  refine codeAny_whileLoop (fun n s => ∃ l la lm, l.length = n ∧ uld l la lm = res ∧ UldAt J B os dr L ex ac mi h k fs rest l la lm s) ?_ l.length ⟨l, la, lm, rfl, hres, h0⟩
  rintro n s ⟨l, la, lm, hn, hu, ne, na, nm, es, as, ms, fs', o, te, ta, hal, tm, hlen, hs, ho, Rl⟩
  have hA1 : A.depth + 14 ≤ d := by have := hA.2.1; omega
  have hA2 : A.units + 42 ≤ 3 * d := by have := hA.2.2; omega
  have hel : es.length = l.length := by rw [te.len, List.length_reverse]
  have hel9 : es.length ≤ 1000 := by rw [hel]; omega
  refine isTrue_plain ?_ (isTrue_nm (uld_name _) _ _)
  have tst : ∀ (Q : Value → Shared → Prop) (E : Value → Shared → Prop), (∀ s', Rel J B os dr ((L, o) :: (ex, lsto es ne) :: (ac, lsto as na) :: (mi, lsto ms nm) :: (fs' ++ rest)) 0 s' → Q (.ref ex) s') → wpAny (Mo w) A (eval (whT (stm w.params 75 1)) (envAt w.params 75 L)) Q E s := by
    intro Q E hQ
    rcases ho with ⟨nf, sl, rfl⟩ | ⟨h', k', nf, v, sl, rfl⟩
    · exact val_h2 (fT_eq w) hA.1 hA1 hA2 hK (Hp := [_]) Rl (fun u => uld_t3 w.params _ _ _ L ex ac mi nf 0 0 0 0 h k sl [] [] [] ⟨⟨[]⟩⟩ u) (fun u => okD_of _ _ _ _ trivial trivial) fun u => hQ
    · exact val_h2 (fT_eq w) hA.1 hA1 hA2 hK (Hp := [_]) Rl (fun u => uld_t4 w.params _ _ _ L ex ac mi nf 0 0 0 0 h' k' sl [] [] [] ⟨⟨[]⟩⟩ v u) (fun u => okD_of _ _ _ _ trivial trivial) fun u => hQ
  refine tst _ _ fun s₁ R₁ => ?_
  refine wpAny_truthy_list (R₁.isList (i := 1) rfl) (by show (es.length : Int) < _; omega) ?_
  have R₂ := R₁.toks (s₁.toks + 1 + 1)
  cases l with
  | nil =>
    have he0 : es = [] := List.length_eq_zero_iff.mp hel
    subst he0
    rw [if_neg (by simp)]
    refine wpAny_execs_nil (hR _ ?_)
    rw [← hu]
    exact ⟨ne, na, nm, [], as, ms, fs', o, .nil, ta, hal, tm, hlen, hs, ho, R₂⟩
  | cons x l =>
    rw [List.reverse_cons] at te
    obtain ⟨es', t, rfl, te'⟩ := te.last
    rw [if_pos (by simp)]
    rw [uld_wb]
    have hms : ms.length ≤ 8 := by
      rw [tm.len]
      rw [List.length_cons] at hlen
      omega
    have go : ∀ s' h' k' nf sl, Rel J B os dr ((L, frS (xE4 h' k' ex ac mi (.str (mkS x) t)) nf sl) :: (ex, lsto es' (ne + 1)) :: (ac, lsto as na) :: (mi, lsto ms nm) :: (fs' ++ rest)) 0 s' →
        wpAny (Mo w) A (execs [wTry w.params] (envAt w.params 75 L)) (fun f s₃ => match f with
            | .next | .cont => ∃ m, m < n ∧ ∃ l la lm, l.length = m ∧ uld l la lm = res ∧ UldAt J B os dr L ex ac mi h k fs rest l la lm s₃
            | .brk => R (.ok .next) s₃
            | .ret v => R (.ok (.ret v)) s₃) (notedBy (Mo w) A (envAt w.params 75 L) fun e s' => R (.error e) s') s' := by
      intro s' h' k' nf sl R₃
      refine uld_tryL hA hd hK hfr hk (F.same hs) ta hal hms R₃ (fun hx as' s'' ta' hal' R₄ => ?_) (fun hx sl' fs'' s'' hs' R₄ => ?_)
      · refine ⟨l.length, by rw [← hn]; simp, l, la.erase x, lm, rfl, ?_, ?_⟩
        · rw [← hu]; show _ = (if x ∈ la then _ else _); rw [if_pos hx]
        · exact ⟨_, _, nm, es', as', ms, fs', _, te', ta', hal', tm, by rw [List.length_cons] at hlen; omega, hs, .inr ⟨_, _, _, _, _, rfl⟩, R₄⟩
      · refine ⟨l.length, by rw [← hn]; simp, l, la, lm ++ [x], rfl, ?_, ?_⟩
        · rw [← hu]; show _ = (if x ∈ la then _ else _); rw [if_neg hx]
        · exact ⟨_, na, _, es', as, _, fs'', _, te', ta, hal, tm.app (.cons .nil), by rw [List.length_append]; rw [List.length_cons] at hlen; simp only [List.length_cons, List.length_nil]; omega, hs.trans hs', .inr ⟨_, _, _, _, _, rfl⟩, R₄⟩
    rcases ho with ⟨nf, sl, rfl⟩ | ⟨h', k', nf, v, sl, rfl⟩
    · refine execs_app _ _ (flow_h2 (fT_eq w) hA.1 hA1 hA2 hK (Hp := [_, _]) R₂ (fun u => uld_p3 w.params _ _ _ L ex ac mi nf ne 0 0 t h k sl _ es' [] (mkS x) u) (fun u => okD_of _ _ _ _ ⟨specPop _ hel9 rfl, trivial⟩ trivial) fun u s' R' => go s' _ _ _ _ R')
    · refine execs_app _ _ (flow_h2 (fT_eq w) hA.1 hA1 hA2 hK (Hp := [_, _]) R₂ (fun u => uld_p4 w.params _ _ _ L ex ac mi nf ne 0 0 t h' k' sl _ es' [] (mkS x) v u) (fun u => okD_of _ _ _ _ ⟨specPop _ hel9 rfl, trivial⟩ trivial) fun u s' R' => go s' _ _ _ _ R')
end
end Mine
end
-- V31
section
open PySem PySem.Spec PySem.Calls PyProof.Rows PySem.W PySem.W.X
namespace Mine
section
variable {w : World} {K : Frag} {J : Nat → Array GenState → Prop} {B : Addr → Option Obj} {os : OsState} {dr : Drawn} {d : Nat} {A : Around}
/-- a def called, at the level of wp -/
theorem fn_call {P : Params} (hP : P = w.params) {f : Nat} {fd : FuncData} {body : List Stmt} {args : List Value} {binds : List (Str × Value)} {Hi rest : List Ent} {j : Nat} {s : Shared} {Q : Value → Shared → Prop} {E : Value → Shared → Prop} (F : FnOk K f fd body) (hbind : bindArgs fd ⟨args, []⟩ = .pure binds) (hd : d ≤ 900) (hd' : 16 ≤ d) {mE : List Bool} {nE LE ctE : Nat} {He : (Nat → Nat) → List Ent} {envE : (Nat → Nat) → Env} {okE : (Nat → Nat) → Prop}
    (hent : ∀ u, trimO mE (run P K (SP w K d J) nE c0 none 0 [] (entZ fd f body binds) Hi j (mkU LE u) ctE [] True) = some ⟨.fin (.again (.func body (envE u))), He u, j, okE u⟩) (hok : ∀ u, okE u)
    (hA : AOk (d - 16) A) (hK : KIn K B) (Rl : Rel J B os dr (Hi ++ rest) j s)
    (hbody : ∀ u s₂, Rel J B os dr (He u ++ rest) j s₂ → codeAny (Mo w) A (.func body (envE u)) (fun r s' => match r with | .ok (.ret v) => Q v s' | .ok _ => False | .error e => E e s') s₂) : wpAny (Mo w) A (call (.ref f) args) Q E s := by
  refine wpAny_call ?_
  obtain ⟨o, ho, hdata⟩ := F.at_
  obtain ⟨c, oc, vs, t, c1, c2, c3, c4⟩ := F.code
  refine codeAny_call_function (o := o) (fd := fd) (body := body) (by have := hA.2.1; show A.depth < 1000; omega) (Rl.top hK ho) hdata F.co F.gen F.body ⟨c, oc, vs, t, c1, Rl.top hK c2, c3, c4⟩ ?_
  refine wpAny_of_eq hbind ?_
  have h : wpAny (Mo w) A.in1 (entZ fd f body binds) (fun fin s₂ => ∃ u, fin = .again (.func body (envE u)) ∧ Rel J B os dr (He u ++ rest) j s₂) (fun e s' => E e s') s := by
    refine tree_front hP (d := d) (A₀ := A.in1) ⟨hA.1, by show A.depth ≤ _; have := hA.2.1; omega, by show A.units + 1 ≤ _; have := hA.2.2; omega⟩ (by omega) hK Rl (m := mE) (L := LE) (ct := ctE) (n := nE) (ces := []) fun u => ⟨_, _, _, _, hent u, hok u, fun s₂ R₂ => ⟨u, rfl, R₂⟩⟩
  rw [entZ_eq] at h
  refine wpAny_mono (wpAny_unbind (g := fun env => PySem.Fin.again (.func body env)) h) (fun env s₂ q => ?_) fun _ _ q => q
  obtain ⟨u, e, R₂⟩ := q
  cases e
  exact ⟨noLimit hK R₂ F.lim, hbody u s₂ R₂⟩
end
theorem seen75 (P : Params) : FnSeen P 75 74 := ⟨by kernel_rfl!, by kernel_rfl!, by kernel_rfl!, by kernel_rfl!, by kernel_rfl!, by kernel_rfl!, by kernel_rfl!, by kernel_rfl!, by kernel_rfl!⟩
theorem bind75 (P : Params) (v v' : Value) : bindArgs (fd P 75) ⟨[v, v'], []⟩ = .pure [(nExp, v), (nAct, v')] := bind_of (by kernel_rfl!)
theorem ent75 (P : Params) (S : ST) (ex ac : Nat) (u : Nat → Nat) : trimO [true] (run P (KP P) S 40 c0 none 0 [] (entZ (fd P 75) 75 (bd P 75) [(nExp, .ref ex), (nAct, .ref ac)]) [] 0 (mkU 3 u) 266305 [] True) =
  some ⟨.fin (.again (.func (bd P 75) (envAt P 75 (u 0)))), [(u 0, frS (xE2 (fun i => match i with | 0 => hs P nExp | _ => hs P nAct) (fun i => match i with | 0 => u 1 | _ => u 2) ex ac) 2 #[])], 0, okD 4 266305 [u 0] [] True⟩ := by kernel_rfl!
theorem kind75 (P : Params) (L : Nat) : (envAt P 75 L).scope.kind = .function := by kernel_rfl!
theorem perm_e (l m x a : Ent) (T : List Ent) : ([l, m] ++ (x :: a :: T)).Perm (l :: x :: a :: m :: T) :=
  blk_perm [[l], [m], [x], [a], T] [0, 2, 3, 1, 4] (by kernel_rfl!) (by simp [catB]) (by simp [catB, pickB, getI])
theorem perm_f (t x a m : Ent) (T : List Ent) : ([t] ++ (x :: a :: m :: T)).Perm ((t :: m :: a :: T) ++ [x]) :=
  blk_perm [[t], [x], [a], [m], T] [0, 3, 2, 4, 1] (by kernel_rfl!) (by simp [catB]) (by simp [catB, pickB, getI])
section
variable {w : World} {J : Nat → Array GenState → Prop} {B : Addr → Option Obj} {os : OsState} {dr : Drawn} {d : Nat} {A : Around}
theorem call75 {outer : List Env} {ex ac ne na : Nat} {es as : List Value} {le la : List (List Nat)} {fs rest : List Ent} {s : Shared} {Q : Value → Shared → Prop} {E : Value → Shared → Prop}
    (hA : AOk (d - 16) A) (hd : 16 ≤ d) (hd9 : d ≤ 900) (hK : KIn (KP w.params) B) (hfr : A.frames = some outer) (F : FrsAre outer fs) (te : TxA es le) (ta : TxA as la) (hle : le.length ≤ 9) (hla : la.length ≤ 1000)
    (R : Rel J B os dr ((ex, lsto es ne) :: (ac, lsto as na) :: (fs ++ rest)) 0 s)
    (hQ : ∀ mi ms nm as' na' tup fs' s', TxA ms (uld le.reverse la []).1 → TxA as' (uld le.reverse la []).2 → SameF fs fs' → Rel J B os dr ((tup, tupO [.ref mi, .ref ac]) :: (mi, lsto ms nm) :: (ac, lsto as' na') :: (fs' ++ rest)) 0 s' → Q (.ref tup) s') :
    wpAny (Mo w) A (call (.ref 75) [.ref ex, .ref ac]) Q E s := by
  refine fn_call rfl (seen75 _).ok (bind75 _ _ _) (by omega) hd (Hi := []) (fun u => ent75 w.params _ ex ac u) (fun u => okD_of _ _ _ _ trivial trivial) hA hK R fun u s₂ R₂ => ?_
  have hA' := hA.deeper (by omega) (envAt w.params 75 (u 0))
  have hA1 : (A.deeper (envAt w.params 75 (u 0))).depth + 14 ≤ d := by have := hA'.2.1; omega
  have hA2 : (A.deeper (envAt w.params 75 (u 0))).units + 42 ≤ 3 * d := by have := hA'.2.2; omega
  refine codeAny_func ?_
  rw [uld_body]
  refine execs_app _ _ (flow_h2 (fT_eq w) hA'.1 hA1 hA2 hK (Hp := [_]) R₂ (fun v => uld_i w.params _ _ _ (u 0) ex ac 2 _ _ #[] v) (fun v => okD_of _ _ _ _ trivial trivial) fun v s₃ R₃ => ?_)
  refine execs_app _ _ (wpAny_execs_cons ?_)
  rw [uld_wh]
  refine wpAny_While ?_
  refine uld_loop hA' (by omega) hK (Around.frames_deeper hfr) (by rw [kind75]; intro h; cases h) F (l := le.reverse) (la := la) (lm := []) rfl ⟨ne, na, 0, es, as, [], fs, _, by rw [List.reverse_reverse]; exact te, ta, by rw [ta.len]; exact hla, .nil, by simpa using hle, F.refl, .inl ⟨_, _, rfl⟩, R₃.perm (perm_e _ _ _ _ _)⟩ fun s₄ h₄ => ?_
  refine wpAny_execs_nil ?_
  obtain ⟨ne', na', nm', es', as', ms', fs', o, te', ta', hal, tm, hlen, hs, ho, R₄⟩ := h₄
  rcases ho with ⟨nf, sl, rfl⟩ | ⟨h', k', nf, v', sl, rfl⟩
  · refine flow_h2 (fT_eq w) hA'.1 hA1 hA2 hK (Hp := [_]) R₄ (fun z => uld_f3 w.params _ _ _ (u 0) ex ac (v 0) nf 0 0 0 0 _ _ sl [] [] [] ⟨⟨[]⟩⟩ z) (fun z => okD_of _ _ _ _ trivial trivial) fun z s₅ R₅ => ?_
    exact hQ (v 0) ms' nm' as' na' (z 0) fs' s₅ tm ta' hs (Rel.front (R₅.perm (perm_f _ _ _ _ _)))
  · refine flow_h2 (fT_eq w) hA'.1 hA1 hA2 hK (Hp := [_]) R₄ (fun z => uld_f w.params _ _ _ (u 0) ex ac (v 0) nf 0 0 0 0 _ _ sl [] [] [] ⟨⟨[]⟩⟩ v' z) (fun z => okD_of _ _ _ _ trivial trivial) fun z s₅ R₅ => ?_
    exact hQ (v 0) ms' nm' as' na' (z 0) fs' s₅ tm ta' hs (Rel.front (R₅.perm (perm_f _ _ _ _ _)))
end
end Mine
end
-- V32
section
open PySem PySem.Spec PySem.Calls PyProof.Rows PySem.W PySem.W.X
namespace Mine
theorem perm_g (fs : List Ent) (t e : Ent) (rest : List Ent) (n : Ent) : ((fs ++ t :: e :: rest) ++ [n]).Perm (e :: n :: (fs ++ (rest ++ [t]))) :=
  blk_perm [fs, [t], [e], rest, [n]] [2, 4, 0, 3, 1] (by kernel_rfl!) (by simp [catB]) (by simp [catB, pickB, getI])
theorem sem_bind_pure {α : Type} (m : Sem α) : m.bind .pure = m := by
  induction m <;> simp only [Sem.bind, *]
section
variable {J : Nat → Array GenState → Prop} {B : Addr → Option Obj} {os : OsState} {dr : Drawn} {M : Model} {A : Around} {E : Value → Shared → Prop} {j : Nat}
theorem Rel.made {H : List Ent} {s : Shared} {h' : Heap} {e : Addr} {cls : String} {args : List Value} (R : Rel J B os dr H j s) (x : Heap.MadeExc s.heap h' e cls args) : ∃ a, Rel J B os dr ((e, exO cls a .none) :: H) j { s with heap := h' } := by
  obtain ⟨t, h1, h2, h3⟩ := x.there
  have Rg := R.grow x.keeps
  refine ⟨t, ⟨⟨Rg.own.keep, fun p hp => ?_, ?_⟩, R.os, R.dr, R.gh⟩⟩
  · rcases List.mem_cons.mp hp with rfl | hp
    · refine ⟨h1, ?_⟩
      cases q : B e with
      | none => rfl
      | some o => have := R.own.keep _ _ q; rw [x.new] at this; cases this
    · exact Rg.own.own p hp
  · rw [List.map_cons]
    refine List.nodup_cons.mpr ⟨fun hm => ?_, R.own.nd⟩
    obtain ⟨p, hp, e1⟩ := List.mem_map.mp hm
    have := (R.own.own p hp).1
    rw [show p.1 = e from e1, x.new] at this
    cases this
theorem note_same {env : Env} {L e a tb : Nat} {cls : String} {nx : Value} {six : List Value} {rest : List Ent} {s : Shared} {Q : Unit → Shared → Prop} (hf : env.frame = some L)
    (R : Rel J B os dr ((e, exO cls a (.ref tb)) :: (tb, tbO nx L (rawInt L) six) :: rest) j s) (h : Q () s) : wpAny M A (noteFrame (.ref e) env) Q E s :=
  wpAny_noteFrame_inFlight hf (R.at (i := 0) rfl) rfl (vs := ⟨_⟩) rfl (R.at (i := 1) rfl) rfl (tvs := ⟨_⟩) rfl h
theorem note_more {env : Env} {outer : List Env} {L L' e a tb : Nat} {cls : String} {nx : Value} {six : List Value} {fs rest : List Ent} {s : Shared} {Q : Unit → Shared → Prop} (hfr : A.frames = some (env :: outer)) (hf : env.frame = some L) (F : FrsAre (env :: outer) fs)
    (R : Rel J B os dr ((e, exO cls a (.ref tb)) :: (tb, tbO nx L' .none six) :: (fs ++ rest)) j s) (h : ∀ tb' six' fs' rest' s', SameF fs fs' → Rel J B os dr ((e, exO cls a (.ref tb')) :: (tb', tbO (.ref tb) L (rawInt L) six') :: (fs' ++ (rest ++ rest'))) j s' → Q () s') :
    wpAny M A (noteFrame (.ref e) env) Q E s := by
  unfold noteFrame
  simp only [hf]
  refine wpAny_bind (wpAny_field (R.at (i := 0) rfl) rfl (x := .ref tb) rfl ?_)
  rw [if_pos (show (Value.ref tb != Value.none) = true from by simp)]
  refine wpAny_bind (wpAny_field (R.at (i := 1) rfl) rfl (x := .none) rfl ?_)
  rw [if_neg (show ¬ ((Value.none == rawInt L) = true) from Bool.false_ne_true)]
  have R0 := R.perm (List.Perm.swap _ _ _)
  refine wpAny_bind (wp_setField R0 rfl (by simp) rfl fun R1 => ?_)
  unfold PySem.frameOf
  refine wpAny_bind (wpAny_bind (wpAny_frameEnvs hfr ?_))
  have hdw : ((env :: outer).dropWhile fun x => x.frame != env.frame) = env :: outer := by simp [List.dropWhile]
  rw [hdw]
  unfold frameObject
  have R1' := R1.perm (show List.Perm _ (fs ++ ((tb, _) :: (e, exO cls a (.ref tb)) :: rest)) from (List.Perm.cons _ List.perm_middle.symm).trans List.perm_middle.symm)
  refine wpAny_bind (wpAny_bind (ready F (rest := (tb, _) :: (e, exO cls a (.ref tb)) :: rest) R1' fun fs' s' hs R2 => wpAny_pure ?_))
  rw [hf]
  refine wpAny_pure ?_
  refine wpAny_bind (wpAny_entryPlaceOf fun pl hpl => ?_)
  unfold EntryCells.newEntry newFields
  refine wpAny_bind (wpAny_newObj_type ?_ (hpl.sizeOk5 _ _ _ _ _))
  have R3 := R2.alloc (o := tbO (.ref tb) L (rawInt L) (if pl.isEmpty then List.replicate 6 Value.none else pl)) rfl
  rw [snoc_eq] at R3
  have R4 := R3.perm (perm_g _ _ _ _ _)
  exact wp_setField R4 rfl (by simp) rfl fun R5 => h _ _ fs' [_] _ hs R5
theorem came_back {env : Env} {L e a tb L' : Nat} {cls : String} {nx fl : Value} {six : List Value} {rest : List Ent} {s : Shared} (hf : env.frame = some L)
    (R : Rel J B os dr ((e, exO cls a (.ref tb)) :: (tb, tbO nx L' fl six) :: rest) j s) (h : ∀ s', Rel J B os dr ((e, exO cls a (.ref tb)) :: (tb, tbO nx L' (rawInt L) six) :: rest) j s' → E (.ref e) s') :
    cameBackBy M A env E (.ref e) s := by
  unfold cameBackBy
  refine wpAny_bind (wpAny_field (R.at (i := 0) rfl) rfl (x := .ref tb) rfl ?_)
  rw [if_neg (by simp)]
  rw [hf]
  unfold setFlight
  refine wpAny_bind (wpAny_field (R.at (i := 0) rfl) rfl (x := .ref tb) rfl ?_)
  rw [if_pos (show (Value.ref tb != Value.none) = true from by simp)]
  have R1 := R.perm (List.Perm.swap _ _ _)
  exact wp_setField R1 rfl (by simp) rfl fun R2 => h _ (R2.perm (List.Perm.swap _ _ _))
end
theorem subVS : isSubtype (.type "ValueError") (.type "StopIteration") = pure false := by rw [isSubtype_type]; kernel_rfl
theorem segx_of_wp {w : World} {A : Around} {c : Code} {t : Sem PySem.Fin} {s : Shared} {P : End → Shared → Prop} (h : wpAny (Mo w) (A.over c []) t (fun fin s' => match fin with | .done f => P (.ret (.ok f)) s' | .again _ => False) (fun e s' => P (.ret (.error e)) s') s) : SegX (Mo w) A c t [] s P := by
  have z := s_cmd prg w A c [] P (m := t) (k := .pure) (s := s) (wpAny_mono h (fun fin s' q => ?_) fun e s' q => s_end prg w A c P s' (.error e) _ rfl q)
  · rw [← Sem.bind_eq_wrap, sem_bind_pure] at z
    exact z
  · cases fin with
    | done f => exact s_end prg w A c P s' (.ok f) _ rfl q
    | again _ => exact q.elim
theorem nextE {w : World} {A : Around} {s : Shared} {a g : Nat} {gs : GenState} {c₀ : Code} {t₀ : Sem PySem.Fin} {fs₀ : List Frame} {Q : Option Value → Shared → Prop} {E : Value → Shared → Prop} (hh : A.handled = none)
    (hl : s.heap.NoLimit) (hroom : A.depth < recursionLimit) (hg : s.heap.IsGen a g) (hgs : s.gens[g]? = some gs) (hst : Stg gs c₀ t₀ fs₀)
    (x : SegX (Mo w) A.in1 c₀ t₀ fs₀ (s.setGen g .running) fun e s₁ => ∃ ex nm qn, e = .ret (.error (.ref ex)) ∧ s₁.TypeIs (.ref ex) "ValueError" ∧ s₁.heap.get? a = some (genO g nm qn) ∧ E (.ref ex) (s₁.setGen g .finished)) :
    wpAny (Mo w) A (pyNext (.ref a)) Q E s := by
  unfold pyNext
  refine wpAny_bind (wpAny_attempt (wpAny_callSpecial?_slot (name := Str.ofString "__next__") hg.typeIs slot_gen_next
    (wpAny_call_entry slot_gen_next hg.typeIs entry_gen_next ?_ (args_gen_next _))))
  show wpAny _ _ (Builtin.Generator.genWake (.ref a) (.send .none)) _ _ s
  unfold Builtin.Generator.genWake
  refine wpAny_bind (wpAny_holding (wpAny_genNumber hg (wpAny_bind (wpAny_genState hgs ?_))))
  have hst' : (gs = .fresh c₀ ∧ (Resume.send .none) = .send .none ∧ t₀ = denote table c₀ ∧ fs₀ = []) ∨ (∃ k₀ l₀ p₀ cl, gs = .suspended k₀ l₀ c₀ p₀ fs₀ cl ∧ t₀ = k₀ (.send .none)) := by
    rcases hst with ⟨h1, h2, h3⟩ | h
    · exact .inl ⟨h1, rfl, by rw [h2, den_eq], h3⟩
    · exact .inr h
  cases gs with
  | running => rcases hst with ⟨h, _⟩ | ⟨k, l, p, cl, h, _⟩ <;> cases h
  | finished => rcases hst with ⟨h, _⟩ | ⟨k, l, p, cl, h, _⟩ <;> cases h
  | _ =>
    refine wpAny_bind (wpAny_roomToWake hl hroom ?_)
    show wpAny _ _ (.resume g (.send .none) [] _) _ _ s
    refine wake_any _ prg w hgs hst' (fun Γ => Γ.In A.in1) (fun _ h => h) (SegX.mono x fun e s₁ he => ?_)
    show wpAny (Mo w) A.in1 _ _ _ _
    obtain ⟨ex, nm, qn, rfl, hT, ho, hE⟩ := he
    show wpAny _ _ (Builtin.Generator.genLeft (.ref a) (.ref ex)) _ _ _
    unfold Builtin.Generator.genLeft Builtin.Generator.madeByALambda
    have hT' : (s₁.setGen g .finished).TypeIs (.ref ex) "ValueError" := hT
    refine wpAny_bind (wpAny_bind (wpAny_load (o := genO g nm qn) ho (wpAny_pure ?_)))
    refine wpAny_bind (wpAny_isInstance (T := "ValueError") (b := false) hT' subVS ?_)
    rw [if_neg (by simp)]
    unfold Builtin.Generator.genEscaped
    refine wpAny_bind (wpAny_isInstance (T := "ValueError") (b := false) hT' subVS ?_)
    rw [if_pos (by rfl)]
    refine wpAny_throw ?_
    refine wpAny_bind (wpAny_isInstance (T := "ValueError") (b := false) hT' subVS ?_)
    rw [if_neg (by simp)]
    exact wpAny_throw hE
end Mine
end
-- V33
section
open PySem PySem.Spec PySem.Calls PyProof.Rows PySem.W PySem.W.X
namespace Mine
noncomputable def geL (P : Params) : Lp := lpOf (bd P 21) 1
noncomputable def rfT (P : Params) : Stmt := stm P 101 0
noncomputable def rfL (P : Params) : Lp := lpOf (trB (rfT P)) 0
noncomputable def gE1 (h : Int) (k rl : Nat) : List DictEntry := [en h k nGrp (.ref rl)]
noncomputable def gE2 (h : Nat → Int) (k : Nat → Nat) (rl : Nat) (v : Value) : List DictEntry := [en (h 0) (k 0) nGrp (.ref rl), en (h 1) (k 1) nLast v]
noncomputable def gE3 (h : Nat → Int) (k : Nat → Nat) (rl : Nat) (v v2 : Value) : List DictEntry := [en (h 0) (k 0) nGrp (.ref rl), en (h 1) (k 1) nLast v, en (h 2) (k 2) nInt v2]
noncomputable def ceVE (m : List Bool) : CE := ⟨none, m, 2, fun us => (.ok (.ret (.ref (getU us 1))), [(getU us 1, exO "ValueError" (getU us 0) .none)]), 0, noH⟩

theorem ge_i (P : Params) (b1 b2 : Bool) (S : ST) (L n rl k : Nat) (h : Int) (sl : Array (Option Value)) (u : Nat → Nat) :
    trimO [true] (run (ftP P b1 b2) (KP P) S 14 c0 none 0 [] (flowZ [stm P 21 0] (envAt P 21 L)) [(L, frS (gE1 h k rl) n sl)] 0 (mkU 1 u) 65 [] True) =
    some ⟨.fin (.done .next), [(L, frS (gE2 (fun i => match i with | 0 => h | _ => hs P nLast) (fun i => match i with | 0 => k | _ => u 0) rl .none) (n + 1) sl)], 0, okD 2 65 [L] [] True⟩ := by cases b1 <;> kernel_rfl!
theorem ge_e (P : Params) (b1 b2 : Bool) (S : ST) (L n rl : Nat) (h : Nat → Int) (k : Nat → Nat) (v : Value) (sl : Array (Option Value)) (u : Nat → Nat) :
    trimO [true] (run (ftP P b1 b2) (KP P) S 8 c0 none 0 [] (valZ (geL P).i (envAt P 21 L)) [(L, frS (gE2 h k rl v) n sl)] 0 (mkU 0 u) 1 [] True) =
    some ⟨.fin (.done (.ret (.ref rl))), [(L, frS (gE2 h k rl v) n sl)], 0, okD 1 1 [L] [] True⟩ := by cases b1 <;> kernel_rfl!
theorem ge_t (P : Params) (b1 b2 : Bool) (S : ST) (rl n t0 t1 : Nat) (u : Nat → Nat) :
    trimO [true, true] (run (ftP P b1 b2) (KP P) S 15 c0 none 0 [] (iterZ (.ref rl)) [(rl, lsto [.int 0 t0, .int 3 t1] n)] 0 (mkU 1 u) 33816641 [] True) =
    some ⟨.fin (.done (.ret (.ref (u 0)))), [(rl, lsto [.int 0 t0, .int 3 t1] n), (u 0, lstIt (.ref rl) 0)], 0, okD 5 33816641 [rl, u 0] [] True⟩ := by cases b1 <;> kernel_rfl!
theorem ge_n (P : Params) (b1 b2 : Bool) (S : ST) (it rl n t0 t1 : Nat) (u : Nat → Nat) :
    trimO [true, true] (run (ftP P b1 b2) (KP P) S 16 c0 none 0 [] (nextZ (.ref it)) [(it, lstIt (.ref rl) 0), (rl, lsto [.int 0 t0, .int 3 t1] n)] 0 (mkU 0 u) 4468930514945 [] True) =
    some ⟨.fin (.done (.ret (.int 0 t0))), [(it, lstIt (.ref rl) 1), (rl, lsto [.int 0 t0, .int 3 t1] n)], 0, okD 8 4468930514945 [it, rl] [] True⟩ := by cases b1 <;> kernel_rfl!
theorem ge_a (P : Params) (b1 b2 : Bool) (S : ST) (L n rl t0 : Nat) (h : Nat → Int) (k : Nat → Nat) (v : Value) (sl : Array (Option Value)) (u : Nat → Nat) :
    trimO [true] (run (ftP P b1 b2) (KP P) S 13 c0 none 0 [] (assZ (geL P).t (envAt P 21 L) (.int 0 t0)) [(L, frS (gE2 h k rl v) n sl)] 0 (mkU 1 u) 65 [] True) =
    some ⟨.fin (.done .next), [(L, frS (gE3 (fun i => match i with | 2 => hs P nInt | i => h i) (fun i => match i with | 2 => u 0 | i => k i) rl v (.int 0 t0)) (n + 1) sl)], 0, okD 2 65 [L] [] True⟩ := by cases b1 <;> kernel_rfl!
theorem ge_x (P : Params) (b1 b2 : Bool) (S : ST) (L n rl t0 : Nat) (h : Nat → Int) (k : Nat → Nat) (sl : Array (Option Value)) (u : Nat → Nat) :
    trimO [true, true] (run (ftP P b1 b2) (KP P) S 44 c0 none 0 [] (flowZ (geL P).b (envAt P 21 L)) [(L, frS (gE3 h k rl .none (.int 0 t0)) n sl)] 0 (mkU 4 u) 614057576330374393626625 [ceVE []] True) =
    some ⟨.exc (.ref (u 3)), [(L, frS (gE3 h k rl .none (.int 0 t0)) n sl), (u 3, { cls := (.type "ValueError"), data := (.fields ⟨[(.ref (u 2)), .none, .none, .none, (.bool false), .none]⟩) })], 0, okD 14 614057576330374393626625 [L, u 3] [(S (.call (.type "ValueError") ⟨[(.str (⟨⟨[105, 110, 118, 97, 108, 105, 100, 32, 103, 114, 111, 117, 112, 105, 110, 103]⟩⟩) (u 1))], []⟩) [] 0 (ceVE []).n (ceVE []).f (ceVE []).j, id)] True⟩ := by cases b1 <;> kernel_rfl!
theorem rf_f (P : Params) (b1 b2 : Bool) (S : ST) (L : Nat) (u : Nat → Nat) :
    trimO [] (run (ftP P b1 b2) (KP P) S 8 c0 none 0 [] (valZ (.Name (clN (rfL P).i) (clP (rfL P).i)) (envAt P 101 L)) [] 0 (mkU 0 u) 0 [] True) =
    some ⟨.fin (.done (.ret (.ref 21))), [], 0, okD 1 0 [] [] True⟩ := by cases b1 <;> kernel_rfl!
theorem rf_a (P : Params) (b1 b2 : Bool) (S : ST) (L : Nat) (u : Nat → Nat) :
    trimO [true] (run (ftP P b1 b2) (KP P) S 10 c0 none 0 [] (valZ (clA (rfL P).i) (envAt P 101 L)) [] 0 (mkU 3 u) 0 [] True) =
    some ⟨.fin (.done (.ret (.ref (u 2)))), [(u 2, lsto [(.int 0 (u 0)), (.int 3 (u 1))] 0)], 0, okD 0 0 [u 2] [] True⟩ := by cases b1 <;> kernel_rfl!
theorem rf_h (P : Params) (b1 b2 : Bool) (S : ST) (L e : Nat) (u : Nat → Nat) :
    trimO [] (run (ftP P b1 b2) (KP P) S 9 c0 (some (.ref e)) 0 [] (valZ (hnT (rfT P)) (envAt P 101 L)) [] 0 (mkU 0 u) 0 [] True) =
    some ⟨.fin (.done (.ret (.type "ValueError"))), [], 0, okD 2 0 [] [] True⟩ := by cases b1 <;> kernel_rfl!
theorem rf_s (P : Params) (b1 b2 : Bool) (S : ST) (L e : Nat) (u : Nat → Nat) :
    trimO [] (run (ftP P b1 b2) (KP P) S 7 c0 (some (.ref e)) 0 [] (flowZ (hnB (rfT P)) (envAt P 101 L)) [] 0 (mkU 0 u) 0 [] True) =
    some ⟨.fin (.done (.ret (.bool true))), [], 0, okD 0 0 [] [] True⟩ := by cases b1 <;> kernel_rfl!

end Mine
end
-- V34
section
open PySem PySem.Spec PySem.Calls PyProof.Rows PySem.W PySem.W.X
namespace Mine
theorem perm_h (l e a b : Ent) (fs rest : List Ent) : ([l, e] ++ (a :: b :: (fs ++ rest))).Perm (e :: ((l :: fs) ++ (a :: b :: rest))) :=
  blk_perm [[l], [e], [a], [b], fs, rest] [1, 0, 4, 2, 3, 5] (by kernel_rfl!) (by simp [catB]) (by simp [catB, pickB, getI])
theorem perm_i (e t l a b : Ent) (fs rest : List Ent) : (e :: t :: ((l :: fs) ++ (a :: b :: rest))).Perm (e :: t :: (fs ++ (rest ++ [l, a, b]))) :=
  blk_perm [[e], [t], [l], fs, [a], [b], rest] [0, 1, 3, 6, 2, 4, 5] (by kernel_rfl!) (by simp [catB]) (by simp [catB, pickB, getI])
theorem ge_body (P : Params) : bd P 21 = [stm P 21 0] ++ [stm P 21 1] := by kernel_rfl!
theorem ge_for (P : Params) : stm P 21 1 = .For (geL P).t (geL P).i (geL P).b [] (forPos (stm P 21 1)) := by kernel_rfl!
theorem ge_iter (P : Params) (env : Env) (x : Value) : foldedSetIterable (geL P).i env x = pure x := by kernel_rfl!
theorem ge_own (P : Params) (it x : Value) : letOwnedTupleGo (geL P).t it x = pure () := by kernel_rfl!
theorem kind21 (P : Params) (L : Nat) : (envAt P 21 L).scope.kind = .function := by kernel_rfl!
section
variable {w : World} {K : Frag} {J : Nat → Array GenState → Prop} {B : Addr → Option Obj} {os : OsState} {dr : Drawn} {d : Nat} {A : Around}
theorem specVE {x : Str} {t : Nat} (m : List Bool) : Spec w K d J (.call (.type "ValueError") ⟨[.str x t], []⟩) [] 0 2 (ceVE m).f 0 := by
  refine spec_val (gv := fun us => .ref (getU us 1)) (gH := fun us => [(getU us 1, exO "ValueError" (getU us 0) .none)]) fun A B os dr s Q hA hK R hQ => ?_
  obtain ⟨hp, g, d, tk, os'⟩ := s
  refine wpAny_call_exc F.excCall_ValueError (fun h' e hm => ?_)
  obtain ⟨a, R'⟩ := R.made hm
  exact hQ [a, e] _ rfl R'
/-- the body of the generator, up to the raise -/
theorem ge_raises {outer : List Env} {Lg rl n t0 t1 k : Nat} {h : Int} {fs rest : List Ent} {s : Shared} {E : Value → Shared → Prop}
    (hA' : AOk (d - 14) A) (hd14 : 14 ≤ d) (hK : KIn (KP w.params) B) (hfr' : A.frames = some (envAt w.params 21 Lg :: outer)) (F : FrsAre outer fs)
    (Rl : Rel J B os dr ((Lg, frS (gE1 h k rl) 1 #[]) :: (rl, lsto [.int 0 t0, .int 3 t1] n) :: (fs ++ rest)) 0 s)
    (hR : ∀ e a tb L' six fs' junk s', SameF fs fs' → Rel J B os dr ((e, exO "ValueError" a (.ref tb)) :: (tb, tbO .none L' .none six) :: (fs' ++ (rest ++ junk))) 0 s' → E (.ref e) s') :
    wpAny (Mo w) A (den (.func (bd w.params 21) (envAt w.params 21 Lg))) (fun _ _ => False) E s := by
  have hA1 : A.depth + 14 ≤ d := by have := hA'.2.1; omega
  have hA2 : A.units + 42 ≤ 3 * d := by have := hA'.2.2; omega
  rw [den_eq]
  show wpAny _ _ (do point; match ← (execs (bd w.params 21) (envAt w.params 21 Lg)).onRaise (leaving (envAt w.params 21 Lg)) with | .ret v => ret v | _ => ret .none) _ _ s
  refine wpAny_bind (wpAny_point (wpAny_bind (wpAny_onRaise ?_)))
  rw [ge_body]
  refine execs_app _ _ (flow_h2 (fT_eq w) hA'.1 hA1 hA2 hK (Hp := [_]) Rl (fun u => ge_i w.params _ _ _ Lg 1 rl k h #[] u) (fun u => okD_of _ _ _ _ trivial trivial) fun u s₁ R₁ => ?_)
  refine wpAny_execs_cons ?_
  rw [ge_for]
  refine wpAny_For ?_ (fun x => ge_iter _ _ x)
  refine val_h2 (fT_eq w) hA'.1 hA1 hA2 hK (Hp := [_]) R₁ (fun u2 => ge_e w.params _ _ _ Lg 2 rl _ _ .none #[] u2) (fun u2 => okD_of _ _ _ _ trivial trivial) fun u2 s₂ R₂ => ?_
  refine iter_front2 (fT_eq w) hA' hd14 hK (Hp := [_]) (rest := _ :: (fs ++ rest)) (R₂.perm (List.Perm.swap _ _ _)) (fun u3 => ge_t w.params _ _ _ rl n t0 t1 u3) (fun u3 => okD_of _ _ _ _ trivial trivial) fun u3 s₃ R₃ => ?_
  refine codeAny_forLoop_any (fun _ s' => s' = s₃) ?_ 0 rfl
  rintro m _ rfl
  refine next_front (fT_eq w) hA' hd14 hK (Hp := [_, _]) (rest := _ :: (fs ++ rest)) (R₃.perm (List.Perm.swap _ _ _)) fun u4 => ⟨some _, _, 0, _, ge_n w.params _ _ _ (u3 0) rl n t0 t1 u4, okD_of _ _ _ _ trivial trivial, fun s₄ R₄ => ?_⟩
  dsimp only
  rw [ge_own]
  refine wpAny_pure ?_
  refine assign_front2 (fT_eq w) hA' hd14 hK (Hp := [_]) (rest := _ :: _ :: (fs ++ rest)) (R₄.perm ((List.Perm.cons _ (List.Perm.swap _ _ _)).trans (List.Perm.swap _ _ _))) (fun u5 => ge_a w.params _ _ _ Lg 2 rl t0 _ _ .none #[] u5) (fun u5 => okD_of _ _ _ _ trivial trivial) fun u5 s₅ R₅ => ?_
  refine flow_h2 (fT_eq w) hA'.1 hA1 hA2 hK (Hp := [_]) R₅ (fun u6 => ge_x w.params _ _ _ Lg 3 rl t0 _ _ #[] u6) (fun u6 => okD_of _ _ _ _ ⟨specVE _, trivial⟩ trivial) fun u6 s₆ R₆ => ?_
  have F' : ∀ es, FrsAre (envAt w.params 21 Lg :: outer) ((Lg, frS es 3 #[]) :: fs) := fun es => .cons rfl (by rw [kind21]; intro h; cases h) F
  have R₇ := R₆.perm (perm_h _ _ _ _ fs rest)
  refine note_new hfr' rfl (F' _) R₇ fun tb six fs' s₇ hs R₈ => ?_
  cases hs with | @cons _ _ _ _ sl' _ fs'' hs =>
  refine came_back (L := Lg) rfl R₈ fun s₈ R₉ => ?_
  unfold leaving
  refine wpAny_bind (note_same rfl R₉ (flight_off R₉ fun s₉ R₁₀ => ?_))
  exact hR _ _ tb _ six fs'' [_, _, _] s₉ hs (R₁₀.perm (perm_i _ _ _ _ _ _ _))
theorem over_deeper (A : Around) (body : List Stmt) (env : Env) : A.over (.func body env) [] = A.deeper env := by
  unfold Around.over Around.deeper
  simp [frameCount, envsOf, guardsOf, unitsOf, marksOver, pushEnvs, pushGuards]
  exact ⟨rfl, rfl, rfl, rfl⟩
end
end Mine
end
-- V35
section
open PySem PySem.Spec PySem.Calls PyProof.Rows PySem.W PySem.W.X
namespace Mine
theorem seen101 (P : Params) : FnSeen P 101 100 := ⟨by kernel_rfl!, by kernel_rfl!, by kernel_rfl!, by kernel_rfl!, by kernel_rfl!, by kernel_rfl!, by kernel_rfl!, by kernel_rfl!, by kernel_rfl!⟩
theorem bind101 (P : Params) : bindArgs (fd P 101) ⟨[], []⟩ = .pure [] := bind_of (by kernel_rfl!)
theorem ent101 (P : Params) (S : ST) (u : Nat → Nat) : trimO [true] (run P (KP P) S 40 c0 none 0 [] (entZ (fd P 101) 101 (bd P 101) []) [] 0 (mkU 1 u) 0 [] True) =
  some ⟨.fin (.again (.func (bd P 101) (envAt P 101 (u 0)))), [(u 0, frS [] 0 #[])], 0, True⟩ := by kernel_rfl!
theorem kind101 (P : Params) (L : Nat) : (envAt P 101 L).scope.kind = .function := by kernel_rfl!
theorem rf_body (P : Params) : bd P 101 = [stm P 101 0] ++ [stm P 101 1] := by kernel_rfl!
theorem rf_try (P : Params) : stm P 101 0 = .Try (trB (rfT P)) [.ExceptHandler (some (hnT (rfT P))) none (nthS (hnB (rfT P)) 0 :: []) (hnP (rfT P))] [] [] (trP (rfT P)) := by kernel_rfl!
theorem rf_hb (P : Params) : nthS (hnB (rfT P)) 0 :: [] = hnB (rfT P) := by kernel_rfl!
theorem rf_tb (P : Params) : trB (rfT P) = [.For (rfL P).t (rfL P).i (rfL P).b [] (forPos (nthS (trB (rfT P)) 0))] := by kernel_rfl!
theorem rf_iter (P : Params) (env : Env) (x : Value) : foldedSetIterable (rfL P).i env x = pure x := by kernel_rfl!
theorem rf_call (P : Params) : (rfL P).i = .Call (.Name (clN (rfL P).i) (clP (rfL P).i)) [clA (rfL P).i] [] (clQ (rfL P).i) := by kernel_rfl!
theorem rf_args (P : Params) (env : Env) : backTo (clQ (rfL P).i) (starEach [clA (rfL P).i] env) = [(false, eval (clA (rfL P).i) env)] := by kernel_rfl!
theorem perm_j (rl l lg ga : Ent) (T : List Ent) : ((rl :: l :: T) ++ [lg, ga]).Perm (ga :: rl :: l :: lg :: T) :=
  blk_perm [[rl], [l], T, [lg], [ga]] [4, 0, 1, 3, 2] (by kernel_rfl!) (by simp [catB]) (by simp [catB, pickB, getI])
theorem perm_k (ga rl l lg : Ent) (fs rest : List Ent) : (ga :: rl :: l :: lg :: (fs ++ rest)).Perm (lg :: rl :: ((l :: fs) ++ (ga :: rest))) :=
  blk_perm [[ga], [rl], [l], [lg], fs, rest] [3, 1, 2, 4, 0, 5] (by kernel_rfl!) (by simp [catB]) (by simp [catB, pickB, getI])
theorem perm_l (e t l ga : Ent) (fs rest j1 j2 : List Ent) : ([] ++ (e :: t :: ((l :: fs) ++ (((ga :: rest) ++ j1) ++ j2)))).Perm ((fs ++ rest) ++ (e :: t :: l :: ga :: (j1 ++ j2))) :=
  blk_perm [[e], [t], [l], fs, [ga], rest, j1, j2] [3, 5, 0, 1, 2, 4, 6, 7] (by kernel_rfl!) (by simp [catB]) (by simp [catB, pickB, getI])
section
variable {w : World} {B : Addr → Option Obj} {os : OsState} {dr : Drawn} {d : Nat} {A : Around}
theorem gen_raise {outer : List Env} {ga g Lg rl n t0 t1 k : Nat} {h : Int} {nm qn : Value} {fs rest : List Ent} {s : Shared} {Q : Option Value → Shared → Prop} {E : Value → Shared → Prop}
    (hA : AOk (d - 16) A) (hd : 16 ≤ d) (hd9 : d ≤ 900) (hK : KIn (KP w.params) B) (hfr : A.frames = some outer) (F : FrsAre outer fs)
    (Rl : Rel (JG g fun gs => gs = .fresh (gcd0 w.params Lg)) B os dr ((Lg, frS (gE1 h k rl) 1 #[]) :: (rl, lsto [.int 0 t0, .int 3 t1] n) :: (fs ++ ((ga, genO g nm qn) :: rest))) 0 s)
    (hE : ∀ e a tb L' six fs' junk s', SameF fs fs' → Rel JB B os dr ((e, exO "ValueError" a (.ref tb)) :: (tb, tbO .none L' .none six) :: (fs' ++ (((ga, genO g nm qn) :: rest) ++ junk))) 0 s' → E (.ref e) s') :
    wpAny (Mo w) A (pyNext (.ref ga)) Q E s := by
  obtain ⟨hb, gs, hgs, rfl⟩ := Rl.gh
  have ho : s.heap.get? ga = some (genO g nm qn) := (Rl.own.own (ga, genO g nm qn) (by simp)).1
  refine nextE hA.1 (noLimit hK Rl (lim2 _)) (by have := hA.2.1; show A.depth < 1000; omega) ⟨_, nm, qn, ho, rfl, rfl, rfl⟩ hgs (.inl ⟨rfl, rfl, rfl⟩) ?_
  refine segx_of_wp ?_
  unfold gcd0
  rw [over_deeper]
  have hA' : AOk (d + 1 - 14) (A.in1.deeper (envAt w.params 21 Lg)) := ⟨hA.1, by show A.depth + 1 ≤ _; have := hA.2.1; omega, by show A.units + 1 + 3 ≤ _; have := hA.2.2; omega⟩
  have hfr' : (A.in1.deeper (envAt w.params 21 Lg)).frames = some (envAt w.params 21 Lg :: outer) := Around.frames_deeper (A := A.in1) hfr
  have R1 := Rl.gens (J' := fun _ gens => gens = (s.setGen g .running).gens) (j' := 0) (gens := (s.setGen g .running).gens) rfl
  refine wpAny_mono (ge_raises (d := d + 1) (E := fun e s₁ => ∃ ex nm qn, (End.ret (.error e)) = .ret (.error (.ref ex)) ∧ s₁.TypeIs (.ref ex) "ValueError" ∧ s₁.heap.get? ga = some (genO g nm qn) ∧ E (.ref ex) (s₁.setGen g .finished)) hA' (by omega) hK hfr' F R1 fun e a tb L' six fs' junk s' hs R' => ?_) (fun _ _ q => q.elim) fun _ _ q => q
  refine ⟨e, nm, qn, rfl, ⟨_, R'.at (i := 0) rfl, rfl⟩, (R'.own.own (ga, genO g nm qn) (by simp)).1, ?_⟩
  have eg : s'.gens = s.gens.setIfInBounds g .running := R'.gh
  refine hE e a tb L' six fs' junk _ hs (R'.gens (J' := JB) (j' := 0) (gens := s'.gens.setIfInBounds g .finished) ?_)
  show AllBare _
  rw [eg]
  exact AllBare.set (AllBare.set hb rfl) rfl
theorem call101 {outer : List Env} {fs rest : List Ent} {s : Shared} {Q : Value → Shared → Prop}
    (hA : AOk (d - 32) A) (hd : 32 ≤ d) (hd9 : d ≤ 880) (hK : KIn (KP w.params) B) (hfr : A.frames = some outer) (F : FrsAre outer fs)
    (R : Rel JB B os dr (fs ++ rest) 0 s)
    (hQ : ∀ fs' s', SameF fs fs' → Rel JB B os dr (fs' ++ rest) 0 s' → Q (.bool true) s') :
    wpAny (Mo w) A (call (.ref 101) []) Q (fun _ _ => False) s := by
  have hA0 : AOk (d - 16 - 16) A := by rw [Nat.sub_sub]; exact hA
  refine fn_call (d := d - 16) rfl (seen101 _).ok (bind101 _) (by omega) (by omega) (Hi := []) (fun u => ent101 w.params _ u) (fun u => trivial) hA0 hK R fun u s₁ R₁ => ?_
  have hA' := hA0.deeper (by omega) (envAt w.params 101 (u 0))
  have hA5 : AOk (d - 14) (A.deeper (envAt w.params 101 (u 0))) := ⟨hA'.1, by have := hA'.2.1; omega, by have := hA'.2.2; omega⟩
  have hA6 : AOk (d - 16) (A.deeper (envAt w.params 101 (u 0))) := ⟨hA'.1, by have := hA.2.1; show A.depth + 1 ≤ _; omega, by have := hA.2.2; show A.units + 3 ≤ _; omega⟩
  have hd14 : 14 ≤ d := by omega
  have hA1 : (A.deeper (envAt w.params 101 (u 0))).depth + 14 ≤ d := by have := hA5.2.1; omega
  have hA2 : (A.deeper (envAt w.params 101 (u 0))).units + 42 ≤ 3 * d := by have := hA5.2.2; omega
  have hfr' := Around.frames_deeper (env := envAt w.params 101 (u 0)) hfr
  have F1 : FrsAre (envAt w.params 101 (u 0) :: outer) ((u 0, frS [] 0 #[]) :: fs) := .cons rfl (by rw [kind101]; intro h; cases h) F
  refine codeAny_func ?_
  rw [rf_body]
  refine execs_app _ _ (wpAny_execs_cons ?_)
  rw [rf_try]
  refine wpAny_Try_except ?_
  rw [rf_tb]
  refine wpAny_execs_cons (wpAny_For ?_ (fun x => rf_iter _ _ x))
  rw [rf_call]
  refine wpAny_Call_NameR ?_
  refine val_front2 (fT_eq w) hA5 hd14 hK (Hp := []) R₁ (fun u1 => rf_f w.params _ _ _ (u 0) u1) (fun u1 => okD_of _ _ _ _ trivial trivial) fun u1 s₂ R₂ => ?_
  rw [rf_args]
  have G := seen21 w.params
  refine callWith_function_kw (o := objAt (KP w.params) 21) (fd := fd w.params 21) (evalArgs_kw rfl (Calls.spliced_cons ?_))
  refine val_front2 (fT_eq w) hA5 hd14 hK (Hp := []) R₂ (fun u2 => rf_a w.params _ _ _ (u 0) u2) (fun u2 => okD_of _ _ _ _ trivial trivial) fun u2 s₃ R₃ => ?_
  refine Calls.spliced_nil (wpAny_evalAll_nil ⟨⟨R₃.top hK G.a1, G.a2⟩, ?_⟩)
  refine wpAny_mono (gen_made (d := d) hA6 (by omega) (by omega) hK R₃ fun g Lg k ga nm qn s₄ R₄ => ?_) (fun _ _ q => q) fun _ _ q => q.elim
  refine iter_front2 (fT_eq w) hA5 hd14 hK (Hp := [_]) (R₄.perm (perm_j _ _ _ _ _)) (fun u3 => gen_it w.params _ _ _ ga g nm qn u3) (fun u3 => okD_of _ _ _ _ trivial trivial) fun u3 s₅ R₅ => ?_
  refine codeAny_forLoop_any (fun _ s' => s' = s₅) ?_ 0 rfl
  rintro m _ rfl
  have R₅' := R₅.perm (perm_k (ga, genO g nm qn) (u2 2, lsto [.int 0 (u2 0), .int 3 (u2 1)] 0) (u 0, frS [] 0 #[]) (Lg, frS (gE1 (hs w.params nGrp) k (u2 2)) 1 #[]) fs rest)
  refine gen_raise (d := d) hA6 (by omega) (by omega) hK hfr' F1 R₅' fun e a tb L' six fs' junk s₆ hs R₆ => ?_
  cases hs with | @cons _ _ _ _ sl _ fs1 hs1 =>
  have F2 : FrsAre (envAt w.params 101 (u 0) :: outer) ((u 0, frS [] 0 sl) :: fs1) := .cons rfl (by rw [kind101]; intro h; cases h) (F.same hs1)
  refine note_more hfr' rfl F2 R₆ fun tb' six' fs2 junk2 s₇ hs2 R₇ => ?_
  refine came_back (L := u 0) rfl R₇ fun s₈ R₈ => ?_
  refine note_same rfl R₈ (flight_off R₈ fun s₉ R₉ => ?_)
  refine wpAny_handleBy_builtin (X := "ValueError") (T := "ValueError") (b := true) isExcV notTupV subVV ?_
  have hm : ((A.deeper (envAt w.params 101 (u 0))).mark (some (.ref e))).handled = some (.ref e) := rfl
  refine val_h2 (fT_eq w) hm hA1 hA2 hK (Hp := []) R₉ (fun u4 => rf_h w.params _ _ _ (u 0) e u4) (fun u4 => okD_of _ _ _ _ trivial trivial) fun u4 s₁₀ R₁₀ => ⟨rfl, ⟨_, R₁₀.at (i := 0) rfl, rfl⟩, ?_⟩
  rw [if_pos rfl]
  refine flight_off R₁₀ fun s₁₁ R₁₁ => ?_
  rw [rf_hb]
  refine flow_h2 (fT_eq w) hm hA1 hA2 hK (Hp := []) R₁₁ (fun u5 => rf_s w.params _ _ _ (u 0) e u5) (fun u5 => okD_of _ _ _ _ trivial trivial) fun u5 s₁₂ R₁₂ => ?_
  cases hs2 with | @cons _ _ _ _ sl2 _ fs3 hs3 =>
  exact hQ fs3 s₁₂ (hs1.trans hs3) (Rel.front (R₁₂.perm (perm_l _ _ _ _ _ _ _ _)))
end
end Mine
end
-- V36
section
open PySem PySem.Spec PySem.Calls PyProof.Rows PySem.W PySem.W.X
namespace Mine
noncomputable def ceTI (P : Params) (m : List Bool) (ifl irl : Nat) (fo ro : Obj) (pg : List Nat → List Value) (len : Nat) (v1 v2 : List Nat → Value) : CE := ⟨none, m, 4, fun us => (.ok .next, [(getU us ifl, fo), (getU us 2, celO (some (.ref (getU us irl)))), (getU us irl, ro), (getU us 4, lsto (pg us) len),
   (getU us 5, dicO [en (hs P nMode) (getU us 7) nMode (v1 us), en (hs P nSize) (getU us 8) nSize (v2 us)] 2)]), 0, addrH⟩
noncomputable def rE1 (h : Int) (k rls : Nat) : List DictEntry := [en h k nRulers (.ref rls)]
noncomputable def rE2 (h h2 : Int) (k k2 rls pg : Nat) : List DictEntry := [en h k nRulers (.ref rls), en h2 k2 nPages (.ref pg)]

theorem told_pt (P : Params) (b1 : Bool) (S : ST) (Rw : Frag) (L c1 rls fl ra rb m k n : Nat) (h : Int) (sl : Array (Option Value)) (fv : List Value) (fn : Nat) (ro ro2 : Obj) (pg pg2 : List Nat → List Value) (len : Nat) (v1 v2 w1 w2 : List Nat → Value) (u : Nat → Nat) :
    trimO [true, true, true, false, true, false, true, true, false, true, false, true, true] (run (ftP P b1 true) (app (KP P) Rw) S 150 c0 none 0 [] (flowZ [stm P 106 0] (envC P 106 L [(nFiles, c1)])) [(L, frS (rE1 h k rls) n sl), (c1, celO (some (.ref fl))), (rls, lsto [.ref ra, .ref rb] m), (fl, lsto fv fn), (ra, ro), (rb, ro2)] 0 (mkU 21 u) 723677792161992904401383999672973886047654204369343266066949352475239397607652949089662884203505445719310356158606551751477044457665 [ceTI P [false, false, false, true, true, false, false, false, false, true, true, true, true] 0 1 (lsto fv fn) ro pg len v1 v2, ceTI P [false, false, false, true, false, false, false, true, true, false, false, false, true, true, true] 1 0 (lsto fv fn) ro2 pg2 len w1 w2] True) =
    some ⟨.fin (.done .next), [(L, frS (rE2 h (hs P nPages) k (u 20) rls (u 1)) (n + 1) sl), (c1, celO (some (.ref fl))), (rls, lsto [(.ref ra), (.ref rb)] m), (u 1, lsto [(.ref (u 5)), (.ref (u 12))] 2), (ra, ro), (u 5, lsto (pg [fl, ra, u 3, u 4, u 5, u 6, u 7, u 8, u 9, u 10]) len), (fl, lsto (fv) fn), (rb, ro2), (u 12, lsto (pg2 [rb, fl, u 3, u 11, u 12, u 13, u 14, u 15, u 16, u 17]) len)], 0, okD 74 723677792161992904401383999672973886047654204369343266066949352475239397607652949089662884203505445719310356158606551751477044457665 [L, c1, rls, fl, ra, rb, u 0, u 1, u 2, u 3, u 4, u 5, u 6] [(S (.compStart (tI P) 0 (.ref (u 4)) (.ref (u 5)) (tE2 P L c1 (u 2) (u 3) (u 6))) [(fl, lsto (fv) fn), (ra, ro), (u 3, celO (some (.ref ra))), (u 4, lstIt (.ref fl) 0), (u 5, lsto [] 0), (u 6, dicO [] 0)] 0 (ceTI P [false, false, false, true, true, false, false, false, false, true, true, true, true] 0 1 (lsto fv fn) ro pg len v1 v2).n ((ceTI P [false, false, false, true, true, false, false, false, false, true, true, true, true] 0 1 (lsto fv fn) ro pg len v1 v2).g [(fl, lsto (fv) fn), (ra, ro), (u 3, celO (some (.ref ra))), (u 4, lstIt (.ref fl) 0), (u 5, lsto [] 0), (u 6, dicO [] 0)]) (ceTI P [false, false, false, true, true, false, false, false, false, true, true, true, true] 0 1 (lsto fv fn) ro pg len v1 v2).j, fun _ => [L, c1, rls, rb, u 0, u 1, u 2, fl, u 3, ra, u 5, u 6, u 11, u 12, u 13]), (S (.compStart (tI P) 0 (.ref (u 11)) (.ref (u 12)) (tE2 P L c1 (u 2) (u 3) (u 13))) [(rb, ro2), (fl, lsto (fv) fn), (u 3, celO (some (.ref rb))), (u 11, lstIt (.ref fl) 0), (u 12, lsto [] 0), (u 13, dicO [] 0)] 0 (ceTI P [false, false, false, true, false, false, false, true, true, false, false, false, true, true, true] 1 0 (lsto fv fn) ro2 pg2 len w1 w2).n ((ceTI P [false, false, false, true, false, false, false, true, true, false, false, false, true, true, true] 1 0 (lsto fv fn) ro2 pg2 len w1 w2).g [(rb, ro2), (fl, lsto (fv) fn), (u 3, celO (some (.ref rb))), (u 11, lstIt (.ref fl) 0), (u 12, lsto [] 0), (u 13, dicO [] 0)]) (ceTI P [false, false, false, true, false, false, false, true, true, false, false, false, true, true, true] 1 0 (lsto fv fn) ro2 pg2 len w1 w2).j, fun _ => [L, c1, rls, u 0, u 1, u 2, ra, u 5, u 6, fl, u 3, rb, u 12, u 13, u 18, u 19])] True⟩ := by cases b1 <;> kernel_rfl!
theorem told_pf (P : Params) (b1 : Bool) (S : ST) (Rw : Frag) (L c1 rls fl ra rb m k n : Nat) (h : Int) (sl : Array (Option Value)) (fv : List Value) (fn : Nat) (ro ro2 : Obj) (pg pg2 : List Nat → List Value) (len : Nat) (v1 v2 w1 w2 : List Nat → Value) (u : Nat → Nat) :
    trimO [true, true, true, false, true, false, true, true, false, true, false, true, true] (run (ftP P b1 false) (app (KP P) Rw) S 160 c0 none 0 [] (flowZ [stm P 106 0] (envC P 106 L [(nFiles, c1)])) [(L, frS (rE1 h k rls) n sl), (c1, celO (some (.ref fl))), (rls, lsto [.ref ra, .ref rb] m), (fl, lsto fv fn), (ra, ro), (rb, ro2)] 0 (mkU 21 u) 777043112544311164646999683933274383909176376320807408188843503842382465623902513914513764829772724480585293843831832176497813188688004264129 [ceTI P [false, false, false, true, true, false, false, false, false, true, true, true, true] 0 1 (lsto fv fn) ro pg len v1 v2, ceTI P [false, false, false, true, false, false, false, true, true, false, false, false, true, true, true] 1 0 (lsto fv fn) ro2 pg2 len w1 w2] True) =
    some ⟨.fin (.done .next), [(L, frS (rE2 h (hs P nPages) k (u 20) rls (u 1)) (n + 1) sl), (c1, celO (some (.ref fl))), (rls, lsto [(.ref ra), (.ref rb)] m), (u 1, lsto [(.ref (u 5)), (.ref (u 12))] 2), (ra, ro), (u 5, lsto (pg [fl, ra, u 3, u 4, u 5, u 6, u 7, u 8, u 9, u 10]) len), (fl, lsto (fv) fn), (rb, ro2), (u 12, lsto (pg2 [rb, fl, u 3, u 11, u 12, u 13, u 14, u 15, u 16, u 17]) len)], 0, okD 79 777043112544311164646999683933274383909176376320807408188843503842382465623902513914513764829772724480585293843831832176497813188688004264129 [L, c1, rls, fl, ra, rb, u 0, u 1, u 2, u 3, u 4, u 5, u 6] [(S (.compStart (tI P) 0 (.ref (u 4)) (.ref (u 5)) (tE2 P L c1 (u 2) (u 3) (u 6))) [(fl, lsto (fv) fn), (ra, ro), (u 3, celO (some (.ref ra))), (u 4, lstIt (.ref fl) 0), (u 5, lsto [] 0), (u 6, dicO [] 0)] 0 (ceTI P [false, false, false, true, true, false, false, false, false, true, true, true, true] 0 1 (lsto fv fn) ro pg len v1 v2).n ((ceTI P [false, false, false, true, true, false, false, false, false, true, true, true, true] 0 1 (lsto fv fn) ro pg len v1 v2).g [(fl, lsto (fv) fn), (ra, ro), (u 3, celO (some (.ref ra))), (u 4, lstIt (.ref fl) 0), (u 5, lsto [] 0), (u 6, dicO [] 0)]) (ceTI P [false, false, false, true, true, false, false, false, false, true, true, true, true] 0 1 (lsto fv fn) ro pg len v1 v2).j, fun _ => [L, c1, rls, rb, u 0, u 1, u 2, fl, u 3, ra, u 5, u 6, u 11, u 12, u 13]), (S (.compStart (tI P) 0 (.ref (u 11)) (.ref (u 12)) (tE2 P L c1 (u 2) (u 3) (u 13))) [(rb, ro2), (fl, lsto (fv) fn), (u 3, celO (some (.ref rb))), (u 11, lstIt (.ref fl) 0), (u 12, lsto [] 0), (u 13, dicO [] 0)] 0 (ceTI P [false, false, false, true, false, false, false, true, true, false, false, false, true, true, true] 1 0 (lsto fv fn) ro2 pg2 len w1 w2).n ((ceTI P [false, false, false, true, false, false, false, true, true, false, false, false, true, true, true] 1 0 (lsto fv fn) ro2 pg2 len w1 w2).g [(rb, ro2), (fl, lsto (fv) fn), (u 3, celO (some (.ref rb))), (u 11, lstIt (.ref fl) 0), (u 12, lsto [] 0), (u 13, dicO [] 0)]) (ceTI P [false, false, false, true, false, false, false, true, true, false, false, false, true, true, true] 1 0 (lsto fv fn) ro2 pg2 len w1 w2).j, fun _ => [L, c1, rls, u 0, u 1, u 2, ra, u 5, u 6, fl, u 3, rb, u 12, u 13, u 18, u 19])] True⟩ := by cases b1 <;> kernel_rfl!

end Mine
end
-- V37
section
open PySem PySem.Spec PySem.Calls PyProof.Rows PySem.W PySem.W.X
namespace Mine
noncomputable def lsE : Expr → Nat → Expr
  | .List l _, i => (getI l i).getD dumE
  | .Tuple l _ _, i => (getI l i).getD dumE
  | _, _ => dumE
noncomputable def lsP : Expr → Pos
  | .List _ p => p
  | .Tuple _ _ p => p
  | _ => default
noncomputable def cl2 : Expr → Nat → Expr
  | .Call _ l _ _, i => (getI l i).getD dumE
  | _, _ => dumE
noncomputable def reP : Stmt → Pos
  | .Return _ p => p
  | _ => default
noncomputable def tR (P : Params) : Expr := asE (stm P 106 1)
noncomputable def tR1 (P : Params) : Expr := lsE (tR P) 1
noncomputable def tR2 (P : Params) : Expr := lsE (tR P) 2

theorem tr_0 (P : Params) (b1 b2 : Bool) (S : ST) (L c1 : Nat) (h h2 : Int) (k k2 rls pg n : Nat) (sl : Array (Option Value)) (u : Nat → Nat) :
    trimO [true] (run (ftP P b1 b2) (KP P) S 8 c0 none 0 [] (valZ (lsE (tR P) 0) (envC P 106 L [(nFiles, c1)])) [(L, frS (rE2 h h2 k k2 rls pg) n sl)] 0 (mkU 0 u) 1 [] True) =
    some ⟨.fin (.done (.ret (.ref pg))), [(L, frS (rE2 h h2 k k2 rls pg) n sl)], 0, okD 1 1 [L] [] True⟩ := by cases b1 <;> kernel_rfl!
theorem tr_f (P : Params) (b1 b2 : Bool) (S : ST) (L c1 : Nat)  (u : Nat → Nat) :
    trimO [] (run (ftP P b1 b2) (KP P) S 8 c0 none 0 [] (valZ (.Name (clN (tR1 P)) (clP (tR1 P))) (envC P 106 L [(nFiles, c1)])) [] 0 (mkU 0 u) 0 [] True) =
    some ⟨.fin (.done (.ret (.ref 75))), [], 0, okD 1 0 [] [] True⟩ := by cases b1 <;> kernel_rfl!
theorem tr_g (P : Params) (b1 b2 : Bool) (S : ST) (L c1 : Nat)  (u : Nat → Nat) :
    trimO [] (run (ftP P b1 b2) (KP P) S 8 c0 none 0 [] (valZ (.Name (clN (tR2 P)) (clP (tR2 P))) (envC P 106 L [(nFiles, c1)])) [] 0 (mkU 0 u) 0 [] True) =
    some ⟨.fin (.done (.ret (.ref 101))), [], 0, okD 1 0 [] [] True⟩ := by cases b1 <;> kernel_rfl!
theorem tr_a0 (P : Params) (b1 b2 : Bool) (S : ST) (L c1 : Nat) (h h2 : Int) (k k2 rls pg n : Nat) (sl : Array (Option Value)) (p0 p1 m q : Nat) (vs : List Value) (u : Nat → Nat) :
    trimO [true, true, true, true] (run (ftP P b1 b2) (KP P) S 27 c0 none 0 [] (valZ (cl2 (tR1 P) 0) (envC P 106 L [(nFiles, c1)])) [(L, frS (rE2 h h2 k k2 rls pg) n sl), (pg, lsto [.ref p0, .ref p1] m), (p0, lsto vs q)] 0 (mkU 3 u) 72688955744416440449 [ceLSl [false, false, true, true] p0 (lsto vs q) vs] True) =
    some ⟨.fin (.done (.ret (.ref (u 2)))), [(L, frS (rE2 h h2 k k2 rls pg) n sl), (pg, lsto [(.ref p0), (.ref p1)] m), (p0, lsto (vs) q), (u 2, lsto (vs) 0)], 0, okD 12 72688955744416440449 [L, pg, p0, u 1] [(S (.call (.builtin "list.__getitem__") ⟨[(.ref p0), (.ref (u 1))], []⟩) [(p0, lsto (vs) q), (u 1, { cls := (.type "slice"), data := (.fields ⟨[.none, .none, .none]⟩) })] 0 (ceLSl [false, false, true, true] p0 (lsto vs q) vs).n (ceLSl [false, false, true, true] p0 (lsto vs q) vs).f (ceLSl [false, false, true, true] p0 (lsto vs q) vs).j, fun _ => [L, pg, p0, u 2])] True⟩ := by cases b1 <;> kernel_rfl!
theorem tr_a1 (P : Params) (b1 b2 : Bool) (S : ST) (L c1 : Nat) (h h2 : Int) (k k2 rls pg n : Nat) (sl : Array (Option Value)) (p0 p1 m q : Nat) (vs : List Value) (u : Nat → Nat) :
    trimO [true, true, true, true] (run (ftP P b1 b2) (KP P) S 27 c0 none 0 [] (valZ (cl2 (tR1 P) 1) (envC P 106 L [(nFiles, c1)])) [(L, frS (rE2 h h2 k k2 rls pg) n sl), (pg, lsto [.ref p0, .ref p1] m), (p1, lsto vs q)] 0 (mkU 3 u) 72688955744416440449 [ceLSl [false, false, true, true] p1 (lsto vs q) vs] True) =
    some ⟨.fin (.done (.ret (.ref (u 2)))), [(L, frS (rE2 h h2 k k2 rls pg) n sl), (pg, lsto [(.ref p0), (.ref p1)] m), (p1, lsto (vs) q), (u 2, lsto (vs) 0)], 0, okD 12 72688955744416440449 [L, pg, p1, u 1] [(S (.call (.builtin "list.__getitem__") ⟨[(.ref p1), (.ref (u 1))], []⟩) [(p1, lsto (vs) q), (u 1, { cls := (.type "slice"), data := (.fields ⟨[.none, .none, .none]⟩) })] 0 (ceLSl [false, false, true, true] p1 (lsto vs q) vs).n (ceLSl [false, false, true, true] p1 (lsto vs q) vs).f (ceLSl [false, false, true, true] p1 (lsto vs q) vs).j, fun _ => [L, pg, p1, u 2])] True⟩ := by cases b1 <;> kernel_rfl!

end Mine
end
-- V38
section
open PySem PySem.Spec PySem.Calls PyProof.Rows PySem.W PySem.W.X
namespace Mine
theorem perm_m (it fl c rl a D : Ent) : [it, fl, c, rl, a, D].Perm [fl, rl, c, it, a, D] :=
  blk_perm [[it], [fl], [c], [rl], [a], [D]] [1, 3, 2, 0, 4, 5] (by kernel_rfl!) (by simp [catB]) (by simp [catB, pickB, getI])
theorem perm_n (it fl c rl a D : Ent) : [it, fl, c, rl, a, D].Perm [rl, fl, c, it, a, D] :=
  blk_perm [[it], [fl], [c], [rl], [a], [D]] [3, 1, 2, 0, 4, 5] (by kernel_rfl!) (by simp [catB]) (by simp [catB, pickB, getI])
theorem seen106 (P : Params) : FnSeen P 106 105 := ⟨by kernel_rfl!, by kernel_rfl!, by kernel_rfl!, by kernel_rfl!, by kernel_rfl!, by kernel_rfl!, by kernel_rfl!, by kernel_rfl!, by kernel_rfl!⟩
theorem bind106 (P : Params) (v v' : Value) : bindArgs (fd P 106) ⟨[v, v'], []⟩ = .pure [(nFiles, v), (nRulers, v')] := bind_of (by kernel_rfl!)
theorem ent106 (P : Params) (S : ST) (fl rls : Nat) (u : Nat → Nat) : trimO [true, true] (run P (KP P) S 40 c0 none 0 [] (entZ (fd P 106) 106 (bd P 106) [(nFiles, .ref fl), (nRulers, .ref rls)]) [] 0 (mkU 3 u) 266370 [] True) =
  some ⟨.fin (.again (.func (bd P 106) (envC P 106 (u 0) [(nFiles, u 1)]))), [(u 0, frS (rE1 (hs P nRulers) (u 2) rls) 1 #[]), (u 1, celO (some (.ref fl)))], 0, okD 4 266370 [u 0, u 1] [] True⟩ := by kernel_rfl!
theorem kind106 (P : Params) (L : Nat) (c : List (Str × Addr)) : (envC P 106 L c).scope.kind = .function := by kernel_rfl!
theorem tr_body (P : Params) : bd P 106 = [stm P 106 0] ++ [stm P 106 1] := by kernel_rfl!
theorem tr_ret (P : Params) : stm P 106 1 = .Return (some (.List [lsE (tR P) 0, tR1 P, tR2 P] (lsP (tR P)))) (reP (stm P 106 1)) := by kernel_rfl!
theorem tr_els (P : Params) (env : Env) : backTo (lsP (tR P)) (starEach [lsE (tR P) 0, tR1 P, tR2 P] env) = [(false, eval (lsE (tR P) 0) env), (false, eval (tR1 P) env), (false, eval (tR2 P) env)] := by kernel_rfl!
theorem tr_c1 (P : Params) : tR1 P = .Call (.Name (clN (tR1 P)) (clP (tR1 P))) [cl2 (tR1 P) 0, cl2 (tR1 P) 1] [] (clQ (tR1 P)) := by kernel_rfl!
theorem tr_c2 (P : Params) : tR2 P = .Call (.Name (clN (tR2 P)) (clP (tR2 P))) [] [] (clQ (tR2 P)) := by kernel_rfl!
theorem tr_args (P : Params) (env : Env) : backTo (clQ (tR1 P)) (starEach [cl2 (tR1 P) 0, cl2 (tR1 P) 1] env) = [(false, eval (cl2 (tR1 P) 0) env), (false, eval (cl2 (tR1 P) 1) env)] := by kernel_rfl!
theorem tr_args2 (P : Params) (env : Env) : backTo (clQ (tR2 P)) (starEach [] env) = [] := by kernel_rfl!
section
variable {w : World} {K : Frag} {J : Nat → Array GenState → Prop} {B : Addr → Option Obj} {os : OsState} {dr : Drawn} {d : Nat} {A : Around}
theorem Spec.reHi {c : Code} {Hi Hi' : List Ent} {j n j' : Nat} {f f' : CFn} (h : Spec w K d J c Hi j n f j') (p : Hi.Perm Hi') (q : ∀ us, us.length = n → (f us).1 = (f' us).1 ∧ (f us).2.Perm (f' us).2) : Spec w K d J c Hi' j n f' j' := by
  intro A B os dr s Q hA hK R hQ
  refine h A B os dr s Q hA hK (R.perm p.symm) fun us s' hl R' => ?_
  obtain ⟨e1, e2⟩ := q us hl
  rw [e1]
  exact hQ us s' hl (R'.perm e2)
noncomputable def pgF (ya yb tg : Nat) (rs : List Row) : List Nat → List Value := fun us => txts (rs.map (tolL ya yb tg)) (dec (getU us 9))
noncomputable def vM (rs : List Row) : List Nat → Value := fun us => .int (rowAt rs (getU us 6)).m (rowAt rs (getU us 6)).tm
noncomputable def vS (rs : List Row) : List Nat → Value := fun us => .int (rowAt rs (getU us 6)).s (rowAt rs (getU us 6)).ts
theorem specTI1 {rs : List Row} {a b : Int} {ya yb tg : Nat} {t : Nat → Nat} {rn it acc fl n rl L c1 D1 c2 D2 : Nat} (m : List Bool)
    (hd9 : d ≤ 840) (ok : RowsOk (KP w.params) rs) (ha : a = ya) (ha1 : 1 ≤ ya) (ha3 : ya ≤ 3) (hb : b = yb) (hb1 : 1 ≤ yb) (hb3 : yb ≤ 3) (htg : tg ≤ 2) :
    Spec w (app (KP w.params) (rowsE rs)) d JB (.compStart (tI w.params) 0 (.ref it) (.ref acc) (tE2 w.params L c1 D1 c2 D2))
      [(fl, lsto (rs.map fun r => .ref r.a) n), (rl, lsto (rulV a b tg t) rn), (c2, celO (some (.ref rl))), (it, lstIt (.ref fl) 0), (acc, lsto [] 0), (D2, dicO [] 0)] 0 4
      ((ceTI w.params m 0 1 (lsto (rs.map fun r => .ref r.a) n) (lsto (rulV a b tg t) rn) (pgF ya yb tg rs) rs.length (vM rs) (vS rs)).g [(fl, lsto (rs.map fun r => .ref r.a) n), (rl, lsto (rulV a b tg t) rn), (c2, celO (some (.ref rl))), (it, lstIt (.ref fl) 0), (acc, lsto [] 0), (D2, dicO [] 0)]) 0 :=
  (specTI (rn := rn) (n := n) hd9 ok ha ha1 ha3 hb hb1 hb3 htg).reHi (perm_m _ _ _ _ _ _) fun us hl => ⟨rfl, List.Perm.refl _⟩
theorem specTI2 {rs : List Row} {a b : Int} {ya yb tg : Nat} {t : Nat → Nat} {rn it acc fl n rl L c1 D1 c2 D2 : Nat} (m : List Bool)
    (hd9 : d ≤ 840) (ok : RowsOk (KP w.params) rs) (ha : a = ya) (ha1 : 1 ≤ ya) (ha3 : ya ≤ 3) (hb : b = yb) (hb1 : 1 ≤ yb) (hb3 : yb ≤ 3) (htg : tg ≤ 2) :
    Spec w (app (KP w.params) (rowsE rs)) d JB (.compStart (tI w.params) 0 (.ref it) (.ref acc) (tE2 w.params L c1 D1 c2 D2))
      [(rl, lsto (rulV a b tg t) rn), (fl, lsto (rs.map fun r => .ref r.a) n), (c2, celO (some (.ref rl))), (it, lstIt (.ref fl) 0), (acc, lsto [] 0), (D2, dicO [] 0)] 0 4
      ((ceTI w.params m 1 0 (lsto (rs.map fun r => .ref r.a) n) (lsto (rulV a b tg t) rn) (pgF ya yb tg rs) rs.length (vM rs) (vS rs)).g [(rl, lsto (rulV a b tg t) rn), (fl, lsto (rs.map fun r => .ref r.a) n), (c2, celO (some (.ref rl))), (it, lstIt (.ref fl) 0), (acc, lsto [] 0), (D2, dicO [] 0)]) 0 :=
  (specTI (rn := rn) (n := n) hd9 ok ha ha1 ha3 hb hb1 hb3 htg).reHi (perm_n _ _ _ _ _ _) fun us hl => ⟨rfl, List.Perm.refl _⟩
end
end Mine
end
-- V39
section
open PySem PySem.Spec PySem.Calls PyProof.Rows PySem.W PySem.W.X
namespace Mine
theorem perm_o (l c1 rls fl ra rb : Ent) (T : List Ent) : ([l, c1] ++ (rls :: fl :: ra :: rb :: T)).Perm ([l, c1, rls, fl, ra, rb] ++ T) :=
  blk_perm [[l], [c1], [rls], [fl], [ra], [rb], T] [0, 1, 2, 3, 4, 5, 6] (by kernel_rfl!) (by simp [catB]) (by simp [catB, pickB, getI])
theorem perm_p (l pg p0 c1 rls ra p1 : Ent) (fl rb : Ent) (T : List Ent) : ([l] ++ (c1 :: rls :: pg :: ra :: p0 :: fl :: rb :: p1 :: T)).Perm ([l, pg, p0] ++ (c1 :: rls :: ra :: fl :: rb :: p1 :: T)) :=
  blk_perm [[l], [c1], [rls], [pg], [ra], [p0], [fl], [rb], [p1], T] [0, 3, 5, 1, 2, 4, 6, 7, 8, 9] (by kernel_rfl!) (by simp [catB]) (by simp [catB, pickB, getI])
theorem perm_q (l pg p0 x c1 rls ra p1 : Ent) (fl rb : Ent) (T : List Ent) : ([l, pg, p0, x] ++ (c1 :: rls :: ra :: fl :: rb :: p1 :: T)).Perm ([l, pg, p1] ++ (x :: p0 :: c1 :: rls :: ra :: fl :: rb :: T)) :=
  blk_perm [[l], [pg], [p0], [x], [c1], [rls], [ra], [fl], [rb], [p1], T] [0, 1, 9, 3, 2, 4, 5, 6, 7, 8, 10] (by kernel_rfl!) (by simp [catB]) (by simp [catB, pickB, getI])
theorem perm_r (l pg p1 y x p0 c1 rls ra : Ent) (fl rb : Ent) (fs rest : List Ent) : ([l, pg, p1, y] ++ (x :: p0 :: c1 :: rls :: ra :: fl :: rb :: (fs ++ rest))).Perm (x :: y :: ((l :: fs) ++ (pg :: p0 :: p1 :: c1 :: rls :: ra :: fl :: rb :: rest))) :=
  blk_perm [[l], [pg], [p1], [y], [x], [p0], [c1], [rls], [ra], [fl], [rb], fs, rest] [4, 3, 0, 11, 1, 5, 2, 6, 7, 8, 9, 10, 12] (by kernel_rfl!) (by simp [catB]) (by simp [catB, pickB, getI])
theorem perm_s (tup mi ac l : Ent) (fs rest : List Ent) : (tup :: mi :: ac :: ((l :: fs) ++ rest)).Perm ((l :: fs) ++ (tup :: mi :: ac :: rest)) :=
  blk_perm [[tup], [mi], [ac], [l], fs, rest] [3, 4, 0, 1, 2, 5] (by kernel_rfl!) (by simp [catB]) (by simp [catB, pickB, getI])
theorem perm_t (n l tup mi ac pg p0 p1 c1 rls ra : Ent) (fl rb : Ent) (fs rest : List Ent) : ((l :: fs) ++ (tup :: mi :: ac :: pg :: p0 :: p1 :: c1 :: rls :: ra :: fl :: rb :: rest) ++ [n]).Perm ((n :: pg :: p0 :: p1 :: tup :: mi :: ac :: rls :: fl :: ra :: rb :: (fs ++ rest)) ++ [l, c1]) :=
  blk_perm [[l], fs, [tup], [mi], [ac], [pg], [p0], [p1], [c1], [rls], [ra], [fl], [rb], rest, [n]] [14, 5, 6, 7, 2, 3, 4, 9, 11, 10, 12, 1, 13, 0, 8] (by kernel_rfl!) (by simp [catB]) (by simp [catB, pickB, getI])
section
variable {w : World} {B : Addr → Option Obj} {os : OsState} {dr : Drawn} {d : Nat} {A : Around}
theorem call106 {rs : List Row} {outer : List Env} {a b a' b' : Int} {ya yb tg ya' yb' tg' : Nat} {t t' : Nat → Nat} {rls fl ra rb m n rn rn' : Nat} {fs rest : List Ent} {s : Shared} {Q : Value → Shared → Prop}
    (hA : AOk (d - 64) A) (hd : 64 ≤ d) (hd9 : d ≤ 860) (hK : KIn (app (KP w.params) (rowsE rs)) B) (ok : RowsOk (KP w.params) rs) (hfr : A.frames = some outer) (F : FrsAre outer fs)
    (ha : a = ya) (ha1 : 1 ≤ ya) (ha3 : ya ≤ 3) (hb : b = yb) (hb1 : 1 ≤ yb) (hb3 : yb ≤ 3) (htg : tg ≤ 2) (ha' : a' = ya') (ha1' : 1 ≤ ya') (ha3' : ya' ≤ 3) (hb' : b' = yb') (hb1' : 1 ≤ yb') (hb3' : yb' ≤ 3) (htg' : tg' ≤ 2)
    (R : Rel JB B os dr ((rls, lsto [.ref ra, .ref rb] m) :: (fl, lsto (rs.map fun r => .ref r.a) n) :: (ra, lsto (rulV a b tg t) rn) :: (rb, lsto (rulV a' b' tg' t') rn') :: (fs ++ rest)) 0 s)
    (hQ : ∀ lst pg p0 p1 tup mi ac v0 v1 ms as n0 n1 nm na fs' s', TxA v0 (rs.map (tolL ya yb tg)) → TxA v1 (rs.map (tolL ya' yb' tg')) →
      TxA ms (uld (rs.map (tolL ya yb tg)).reverse (rs.map (tolL ya' yb' tg')) []).1 → TxA as (uld (rs.map (tolL ya yb tg)).reverse (rs.map (tolL ya' yb' tg')) []).2 → SameF fs fs' →
      Rel JB B os dr ((lst, lsto [.ref pg, .ref tup, .bool true] 0) :: (pg, lsto [.ref p0, .ref p1] 2) :: (p0, lsto v0 n0) :: (p1, lsto v1 n1) :: (tup, tupO [.ref mi, .ref ac]) :: (mi, lsto ms nm) :: (ac, lsto as na) ::
        (rls, lsto [.ref ra, .ref rb] m) :: (fl, lsto (rs.map fun r => .ref r.a) n) :: (ra, lsto (rulV a b tg t) rn) :: (rb, lsto (rulV a' b' tg' t') rn') :: (fs' ++ rest)) 0 s' → Q (.ref lst) s') :
    wpAny (Mo w) A (call (.ref 106) [.ref fl, .ref rls]) Q (fun _ _ => False) s := by
  have hK0 := hK.left
  have hA0 : AOk (d - 48 - 16) A := by rw [Nat.sub_sub]; exact hA
  refine fn_call (d := d - 48) rfl (seen106 _).ok (bind106 _ _ _) (by omega) (by omega) (Hi := []) (fun u => ent106 w.params _ fl rls u) (fun u => okD_of _ _ _ _ trivial trivial) hA0 hK0 R fun u s₁ R₁ => ?_
  have hfr' : (A.deeper (envC w.params 106 (u 0) [(nFiles, u 1)])).frames = some ((envC w.params 106 (u 0) [(nFiles, u 1)]) :: outer) := Around.frames_deeper hfr
  have hek : (envC w.params 106 (u 0) [(nFiles, u 1)]).scope.kind ≠ .module := by rw [kind106]; intro h; cases h
  have hA' := hA0.deeper (by omega) (envC w.params 106 (u 0) [(nFiles, u 1)])
  have hA1 : (A.deeper (envC w.params 106 (u 0) [(nFiles, u 1)])).depth + 14 ≤ d - 48 := by have := hA'.2.1; omega
  have hA2 : (A.deeper (envC w.params 106 (u 0) [(nFiles, u 1)])).units + 42 ≤ 3 * (d - 48) := by have := hA'.2.2; omega
  have hA75 : AOk (d - 46 - 16) (A.deeper (envC w.params 106 (u 0) [(nFiles, u 1)])) := ⟨hA'.1, by have := hA'.2.1; omega, by have := hA'.2.2; omega⟩
  have hA101 : AOk (d - 30 - 32) (A.deeper (envC w.params 106 (u 0) [(nFiles, u 1)])) := ⟨hA'.1, by have := hA'.2.1; omega, by have := hA'.2.2; omega⟩
  have hd40 : d - 48 ≤ 840 := by omega
  have hr9 : rs.length ≤ 9 := ok.len.2
  have sz0 : ∀ (v : List Value) (l : List (List Nat)), TxA v l → l.length = rs.length → v.length ≤ sizeLine := fun v l h e => sizeOk (by rw [h.len, e]; omega)
  have ml : ∀ (f : Row → List Nat), (rs.map f).length = rs.length := fun f => List.length_map f
  refine codeAny_func ?_
  rw [tr_body]
  have go : ∀ sl (kk pg p0 p1 : Nat) (v0 v1 : List Value) s₂ (E : Value → Shared → Prop), TxA v0 (rs.map (tolL ya yb tg)) → TxA v1 (rs.map (tolL ya' yb' tg')) →
      Rel JB B os dr ([(u 0, frS (rE2 (hs w.params nRulers) (hs w.params nPages) (u 2) kk rls pg) 2 sl)] ++ ((u 1, celO (some (.ref fl))) :: (rls, lsto [.ref ra, .ref rb] m) :: (pg, lsto [.ref p0, .ref p1] 2) :: (ra, lsto (rulV a b tg t) rn) :: (p0, lsto v0 rs.length) :: (fl, lsto (rs.map fun r => .ref r.a) n) :: (rb, lsto (rulV a' b' tg' t') rn') :: (p1, lsto v1 rs.length) :: (fs ++ rest))) 0 s₂ →
      wpAny (Mo w) (A.deeper (envC w.params 106 (u 0) [(nFiles, u 1)])) (execs [stm w.params 106 1] (envC w.params 106 (u 0) [(nFiles, u 1)])) (fun f s' => match (Except.ok (Flow.ret (match f with | .ret v => v | _ => .none)) : Result) with | .ok (.ret v) => Q v s' | .ok _ => False | .error e => False) E s₂ := by
    intro sl kk pg p0 p1 v0 v1 s₂ E t0 t1 R₂
    refine wpAny_execs_cons ?_
    rw [tr_ret]
    refine wpAny_Return_some ?_
    rw [arm_eval_List, tr_els]
    refine wpAny_bind (wpAny_standAt (wpAny_bind (Calls.spliced_cons ?_)))
    refine val_h2 (fT_eq w) hA'.1 hA1 hA2 hK0 (Hp := [_]) R₂ (fun v => tr_0 w.params _ _ _ (u 0) (u 1) _ _ (u 2) kk rls pg 2 sl v) (fun v => okD_of _ _ _ _ trivial trivial) fun v s₃ R₃ => ?_
    refine Calls.spliced_cons ?_
    rw [tr_c1]
    refine wpAny_Call_NameR ?_
    refine val_h2 (fT_eq w) hA'.1 hA1 hA2 hK0 (Hp := []) R₃ (fun z1 => tr_f w.params _ _ _ (u 0) (u 1) z1) (fun z1 => okD_of _ _ _ _ trivial trivial) fun z1 s₄ R₄ => ?_
    rw [tr_args]
    have G := seen75 w.params
    refine callWith_function_kw (o := objAt (KP w.params) 75) (fd := fd w.params 75) (evalArgs_kw rfl (Calls.spliced_cons ?_))
    refine val_h2 (fT_eq w) hA'.1 hA1 hA2 hK0 (Hp := [_, _, _]) (R₄.perm (perm_p _ _ _ _ _ _ _ _ _ _)) (fun z2 => tr_a0 w.params _ _ _ (u 0) (u 1) _ _ (u 2) kk rls pg 2 sl p0 p1 2 rs.length v0 z2) (fun z2 => okD_of _ _ _ _ ⟨specLSl (vl := .none) (vu := .none) (vt := .none) (lo := none) (hi := none) (st := none) _ .none .none .none (by intro h; cases h) (sz0 _ _ t0 (ml _)) (slicePick_all _), trivial⟩ trivial) fun z2 s₅ R₅ => ?_
    refine Calls.spliced_cons ?_
    refine val_h2 (fT_eq w) hA'.1 hA1 hA2 hK0 (Hp := [_, _, _]) (R₅.perm (perm_q _ _ _ _ _ _ _ _ _ _ _)) (fun z3 => tr_a1 w.params _ _ _ (u 0) (u 1) _ _ (u 2) kk rls pg 2 sl p0 p1 2 rs.length v1 z3) (fun z3 => okD_of _ _ _ _ ⟨specLSl (vl := .none) (vu := .none) (vt := .none) (lo := none) (hi := none) (st := none) _ .none .none .none (by intro h; cases h) (sz0 _ _ t1 (ml _)) (slicePick_all _), trivial⟩ trivial) fun z3 s₆ R₆ => ?_
    refine Calls.spliced_nil (wpAny_evalAll_nil ⟨⟨R₆.top hK0 G.a1, G.a2⟩, ?_⟩)
    have F1 : ∀ es sl, FrsAre ((envC w.params 106 (u 0) [(nFiles, u 1)]) :: outer) ((u 0, frS es 2 sl) :: fs) := fun es sl => .cons rfl hek F
    refine call75 (d := d - 46) hA75 (by omega) (by omega) hK0 hfr' (F1 _ _) t0 t1 (by rw [ml]; omega) (by rw [ml]; omega) (R₆.perm (perm_r _ _ _ _ _ _ _ _ _ _ _ _ _)) fun mi ms nm as' na' tup fs' s₇ tm ta hs R₇ => ?_
    cases hs with | @cons _ _ _ _ sl' _ fs1 hs1 =>
    refine Calls.spliced_cons ?_
    rw [tr_c2]
    refine wpAny_Call_NameR ?_
    refine val_h2 (fT_eq w) hA'.1 hA1 hA2 hK0 (Hp := []) R₇ (fun z4 => tr_g w.params _ _ _ (u 0) (u 1) z4) (fun z4 => okD_of _ _ _ _ trivial trivial) fun z4 s₈ R₈ => ?_
    rw [tr_args2]
    have G2 := seen101 w.params
    refine callWith_function_kw (o := objAt (KP w.params) 101) (fd := fd w.params 101) (evalArgs_kw_nil rfl (wpAny_evalAll_nil ⟨⟨R₈.top hK0 G2.a1, G2.a2⟩, ?_⟩))
    have F2 : ∀ es, FrsAre ((envC w.params 106 (u 0) [(nFiles, u 1)]) :: outer) ((u 0, frS es 2 sl') :: fs1) := fun es => .cons rfl hek (F.same hs1)
    refine wpAny_mono (call101 (d := d - 30) hA101 (by omega) (by omega) hK0 hfr' (F2 _) (R₈.perm (perm_s _ _ _ _ _ _)) fun fs2 s₉ hs2 R₉ => ?_) (fun _ _ q => q) fun _ _ q => q.elim
    cases hs2 with | @cons _ _ _ _ sl2 _ fs3 hs3 =>
    refine Calls.spliced_nil ?_
    refine wpAny_newList ?_ (sizeOk (by simp))
    have R10 := R₉.alloc (o := lsto [.ref pg, .ref tup, .bool true] 0) rfl
    rw [snoc_eq] at R10
    exact hQ _ pg p0 p1 tup mi _ v0 v1 ms as' _ _ nm na' fs3 _ t0 t1 tm ta (hs1.trans hs3) (Rel.front (R10.perm (perm_t _ _ _ _ _ _ _ _ _ _ _ _ _ _ _)))
  have tI1 : ∀ m it acc L c1 D1 c2 D2, _ := fun m it acc L c1 D1 c2 D2 => specTI1 (w := w) (d := d - 48) (rs := rs) (t := t) (rn := rn) (it := it) (acc := acc) (fl := fl) (n := n) (rl := ra) (L := L) (c1 := c1) (D1 := D1) (c2 := c2) (D2 := D2) m hd40 ok ha ha1 ha3 hb hb1 hb3 htg
  have tI2 : ∀ m it acc L c1 D1 c2 D2, _ := fun m it acc L c1 D1 c2 D2 => specTI2 (w := w) (d := d - 48) (rs := rs) (t := t') (rn := rn') (it := it) (acc := acc) (fl := fl) (n := n) (rl := rb) (L := L) (c1 := c1) (D1 := D1) (c2 := c2) (D2 := D2) m hd40 ok ha' ha1' ha3' hb' hb1' hb3' htg'
  have R₁' := R₁.perm (perm_o _ _ _ _ _ _ _)
  cases hbb : f2 w
  · have hP : ftP w.params (f1 w) false = w.params := hbb ▸ fT_eq w
    refine execs_app _ _ (flow_h hP hA'.1 hA1 hA2 hK (Hp := [_, _, _, _, _, _]) R₁' fun v => by
      have T := told_pf w.params (f1 w) (SP w (app (KP w.params) (rowsE rs)) (d - 48) JB) (rowsE rs) (u 0) (u 1) rls fl ra rb m (u 2) 1 (hs w.params nRulers) #[] (rs.map fun r => .ref r.a) n (lsto (rulV a b tg t) rn) (lsto (rulV a' b' tg' t') rn') (pgF ya yb tg rs) (pgF ya' yb' tg' rs) rs.length (vM rs) (vS rs) (vM rs) (vS rs) v
      refine ⟨_, _, 0, _, T, ?_, fun s₂ R₂ => ?_⟩
      · refine okD_of _ _ _ _ ⟨?_, ?_, trivial⟩ trivial
        · exact tI1 _ _ _ _ _ _ _ _
        · exact tI2 _ _ _ _ _ _ _ _
      · exact go _ _ _ _ _ _ _ s₂ _ (txts_are _ _) (txts_are _ _) R₂)
  · have hP : ftP w.params (f1 w) true = w.params := hbb ▸ fT_eq w
    refine execs_app _ _ (flow_h hP hA'.1 hA1 hA2 hK (Hp := [_, _, _, _, _, _]) R₁' fun v => by
      have T := told_pt w.params (f1 w) (SP w (app (KP w.params) (rowsE rs)) (d - 48) JB) (rowsE rs) (u 0) (u 1) rls fl ra rb m (u 2) 1 (hs w.params nRulers) #[] (rs.map fun r => .ref r.a) n (lsto (rulV a b tg t) rn) (lsto (rulV a' b' tg' t') rn') (pgF ya yb tg rs) (pgF ya' yb' tg' rs) rs.length (vM rs) (vS rs) (vM rs) (vS rs) v
      refine ⟨_, _, 0, _, T, ?_, fun s₂ R₂ => ?_⟩
      · refine okD_of _ _ _ _ ⟨?_, ?_, trivial⟩ trivial
        · exact tI1 _ _ _ _ _ _ _ _
        · exact tI2 _ _ _ _ _ _ _ _
      · exact go _ _ _ _ _ _ _ s₂ _ (txts_are _ _) (txts_are _ _) R₂)
end
end Mine
end
-- V40
section
open PySem PySem.Spec PySem.Calls PyProof.Rows PySem.W PySem.W.X
namespace Mine
noncomputable def nMarks : Str := ⟨⟨[109, 97, 114, 107, 115]⟩⟩
noncomputable def nLine : Str := ⟨⟨[108, 105, 110, 101]⟩⟩
noncomputable def nFigs : Str := ⟨⟨[102, 105, 103, 117, 114, 101, 115]⟩⟩
noncomputable def nK : Str := ⟨⟨[107]⟩⟩
noncomputable def nThree : Str := ⟨⟨[116, 104, 114, 101, 101]⟩⟩
noncomputable def nLst : Str := ⟨⟨[108, 97, 115, 116]⟩⟩
noncomputable def E111 (P : Params) (L cf cm : Nat) : Env := envC P 111 L [(nFigs, cf), (nMarks, cm)]
noncomputable def ceB (nm : String) (b : Bool) : CE := ⟨some nm, [], 0, fun _ => (.ok (.ret (.bool b)), []), 0, noH⟩
noncomputable def ceI (nm : String) (x : Int) : CE := ⟨some nm, [], 1, fun us => (.ok (.ret (.int x (getU us 0))), []), 0, noH⟩
noncomputable def ceT (nm : String) (x : Str) : CE := ⟨some nm, [], 1, fun us => (.ok (.ret (.str x (getU us 0))), []), 0, noH⟩
noncomputable def lE2 (h : Nat → Int) (k : Nat → Nat) (m s : Int) (tm ts : Nat) : List DictEntry := [en (h 0) (k 0) nMode (.int m tm), en (h 1) (k 1) nSize (.int s ts)]
noncomputable def lE3 (h : Nat → Int) (k : Nat → Nat) (m s : Int) (tm ts : Nat) (ln : Value) : List DictEntry := [en (h 0) (k 0) nMode (.int m tm), en (h 1) (k 1) nSize (.int s ts), en (h 2) (k 2) nLine ln]
noncomputable def lE6 (h : Nat → Int) (k : Nat → Nat) (m s : Int) (tm ts : Nat) (ln a b c : Value) : List DictEntry := [en (h 0) (k 0) nMode (.int m tm), en (h 1) (k 1) nSize (.int s ts), en (h 2) (k 2) nLine ln, en (h 3) (k 3) nK a, en (h 4) (k 4) nThree b, en (h 5) (k 5) nLst c]

theorem li_0t (P : Params) (b1 b2 : Bool) (S : ST) (L cf cm tm ts n : Nat) (h : Nat → Int) (k : Nat → Nat) (m s : Int)  (u : Nat → Nat) :
    trimO [true] (run (ftP P b1 b2) (KP P) S 21 c0 none 0 [] (flowZ [stm P 111 0] (E111 P L cf cm)) [(L, fro (lE2 h k m s tm ts) n)] 0 (mkU 3 u) 270273 [ceB "int.__lt__" true] True) =
    some ⟨.fin (.done .next), [(L, fro (lE3 (fun i => match i with | 2 => hs P nLine | i => h i) (fun i => match i with | 2 => u 2 | i => k i) m s tm ts (.str ⟨⟨[100]⟩⟩ (u 1))) (n + 1))], 0, okD 4 270273 [L] [(S (.call (.builtin "int.__lt__") ⟨[(.int m tm), (.int 32768 (u 0))], []⟩) [] 0 (ceB "int.__lt__" true).n (ceB "int.__lt__" true).f (ceB "int.__lt__" true).j, id)] True⟩ := by cases b1 <;> kernel_rfl!
theorem li_0f (P : Params) (b1 b2 : Bool) (S : ST) (L cf cm tm ts n : Nat) (h : Nat → Int) (k : Nat → Nat) (m s : Int)  (u : Nat → Nat) :
    trimO [true] (run (ftP P b1 b2) (KP P) S 21 c0 none 0 [] (flowZ [stm P 111 0] (E111 P L cf cm)) [(L, fro (lE2 h k m s tm ts) n)] 0 (mkU 3 u) 270273 [ceB "int.__lt__" false] True) =
    some ⟨.fin (.done .next), [(L, fro (lE3 (fun i => match i with | 2 => hs P nLine | i => h i) (fun i => match i with | 2 => u 2 | i => k i) m s tm ts (.str ⟨⟨[45]⟩⟩ (u 1))) (n + 1))], 0, okD 4 270273 [L] [(S (.call (.builtin "int.__lt__") ⟨[(.int m tm), (.int 32768 (u 0))], []⟩) [] 0 (ceB "int.__lt__" false).n (ceB "int.__lt__" false).f (ceB "int.__lt__" false).j, id)] True⟩ := by cases b1 <;> kernel_rfl!
theorem li_1 (P : Params) (b1 b2 : Bool) (S : ST) (L cf cm tm ts n : Nat) (h : Nat → Int) (k : Nat → Nat) (m s : Int) (ln : Str) (tl : Nat) (M : Nat → Int) (X Y A V C D : Nat → Str) (u : Nat → Nat) :
    trimO [true] (run (ftP P b1 b2) (KP P) S 539 c0 none 0 [] (flowZ [stm P 111 1] (E111 P L cf cm)) [(L, fro (lE3 h k m s tm ts (.str ln tl)) n)] 0 (mkU 124 u) 23702966527976502786250586030725536001426936017378072620310191042113774237255597644076015231099724358760435746039039054266493362669193923180365985007239035076794909190960089636298060675795342889083781457782830600365356859763687564022380933515347012729298762632809712856156056600815633718076647758066587781363662978 [ceI "int.__pow__" 64, ceI "int.__pow__" 4, ceI "int.__mul__" (M 0), ceT "str.__getitem__" (X 0), ceT "str.__getitem__" (Y 0), ceT "str.__add__" (A 0), ceT "str.__getitem__" (V 0), ceT "str.__add__" (C 0), ceT "str.__add__" (D 0), ceI "int.__pow__" 8, ceI "int.__pow__" 2, ceI "int.__mul__" (M 1), ceT "str.__getitem__" (X 1), ceT "str.__getitem__" (Y 1), ceT "str.__add__" (A 1), ceT "str.__getitem__" (V 1), ceT "str.__add__" (C 1), ceT "str.__add__" (D 1), ceI "int.__pow__" 1, ceI "int.__pow__" 1, ceI "int.__mul__" (M 2), ceT "str.__getitem__" (X 2), ceT "str.__getitem__" (Y 2), ceT "str.__add__" (A 2), ceT "str.__getitem__" (V 2), ceT "str.__add__" (C 2), ceT "str.__add__" (D 2)] True) =
    some ⟨.fin (.done .next), [(L, fro (lE6 (fun i => match i with | 3 => hs P nK | 4 => hs P nThree | 5 => hs P nLst | i => h i) (fun i => match i with | 3 => u 5 | 4 => u 11 | 5 => u 24 | i => k i) m s tm ts (.str (D 2) (u 120)) (.int 0 (u 2)) (.int (W.Z.modQ (W.Z.divQ m 1) 8) (u 88)) (.int (W.Z.modQ (W.Z.modQ (W.Z.divQ m 1) 8) 2 + M 2) (u 101))) (n + 3))], 0, okD 174 23702966527976502786250586030725536001426936017378072620310191042113774237255597644076015231099724358760435746039039054266493362669193923180365985007239035076794909190960089636298060675795342889083781457782830600365356859763687564022380933515347012729298762632809712856156056600815633718076647758066587781363662978 [L, u 3, u 4, u 38, u 77, u 116, u 122, u 123] [(S (.call (.builtin "int.__pow__") ⟨[(.int 8 (u 6)), (.int 2 (u 0))], []⟩) [] 0 (ceI "int.__pow__" 64).n (ceI "int.__pow__" 64).f (ceI "int.__pow__" 64).j, id), (S (.call (.builtin "int.__pow__") ⟨[(.int 2 (u 16)), (.int 2 (u 0))], []⟩) [] 0 (ceI "int.__pow__" 4).n (ceI "int.__pow__" 4).f (ceI "int.__pow__" 4).j, id), (S (.call (.builtin "int.__mul__") ⟨[(.int (Z.modQ (Z.divQ (Z.divQ m 512) 4) 2) (u 20)), (.int 2 (u 21))], []⟩) [] 0 (ceI "int.__mul__" (M 0)).n (ceI "int.__mul__" (M 0)).f (ceI "int.__mul__" (M 0)).j, id), (S (.call (.builtin "str.__getitem__") ⟨[(.str (⟨⟨[45, 114]⟩⟩) (u 25)), (.int (Z.divQ (Z.modQ (Z.divQ m 64) 8) 4) (u 27))], []⟩) [] 0 (ceT "str.__getitem__" (X 0)).n (ceT "str.__getitem__" (X 0)).f (ceT "str.__getitem__" (X 0)).j, id), (S (.call (.builtin "str.__getitem__") ⟨[(.str (⟨⟨[45, 119]⟩⟩) (u 29)), (.int (Z.modQ (Z.divQ (Z.modQ (Z.divQ m 64) 8) 2) 2) (u 33))], []⟩) [] 0 (ceT "str.__getitem__" (Y 0)).n (ceT "str.__getitem__" (Y 0)).f (ceT "str.__getitem__" (Y 0)).j, id), (S (.call (.builtin "str.__add__") ⟨[(.str (X 0) (u 28)), (.str (Y 0) (u 34))], []⟩) [] 0 (ceT "str.__add__" (A 0)).n (ceT "str.__add__" (A 0)).f (ceT "str.__add__" (A 0)).j, id), (S (.call (.builtin "str.__getitem__") ⟨[(.str (⟨⟨[45, 120, 83, 115]⟩⟩) (u 37)), (.int (Z.modQ (Z.modQ (Z.divQ m 64) 8) 2 + M 0) (u 23))], []⟩) [] 0 (ceT "str.__getitem__" (V 0)).n (ceT "str.__getitem__" (V 0)).f (ceT "str.__getitem__" (V 0)).j, id), (S (.call (.builtin "str.__add__") ⟨[(.str (A 0) (u 35)), (.str (V 0) (u 40))], []⟩) [] 0 (ceT "str.__add__" (C 0)).n (ceT "str.__add__" (C 0)).f (ceT "str.__add__" (C 0)).j, id), (S (.call (.builtin "str.__add__") ⟨[(.str ln tl), (.str (C 0) (u 41))], []⟩) [] 0 (ceT "str.__add__" (D 0)).n (ceT "str.__add__" (D 0)).f (ceT "str.__add__" (D 0)).j, id), (S (.call (.builtin "int.__pow__") ⟨[(.int 8 (u 45)), (.int 1 (u 1))], []⟩) [] 0 (ceI "int.__pow__" 8).n (ceI "int.__pow__" 8).f (ceI "int.__pow__" 8).j, id), (S (.call (.builtin "int.__pow__") ⟨[(.int 2 (u 55)), (.int 1 (u 1))], []⟩) [] 0 (ceI "int.__pow__" 2).n (ceI "int.__pow__" 2).f (ceI "int.__pow__" 2).j, id), (S (.call (.builtin "int.__mul__") ⟨[(.int (Z.modQ (Z.divQ (Z.divQ m 512) 2) 2) (u 59)), (.int 2 (u 60))], []⟩) [] 0 (ceI "int.__mul__" (M 1)).n (ceI "int.__mul__" (M 1)).f (ceI "int.__mul__" (M 1)).j, id), (S (.call (.builtin "str.__getitem__") ⟨[(.str (⟨⟨[45, 114]⟩⟩) (u 64)), (.int (Z.divQ (Z.modQ (Z.divQ m 8) 8) 4) (u 66))], []⟩) [] 0 (ceT "str.__getitem__" (X 1)).n (ceT "str.__getitem__" (X 1)).f (ceT "str.__getitem__" (X 1)).j, id), (S (.call (.builtin "str.__getitem__") ⟨[(.str (⟨⟨[45, 119]⟩⟩) (u 68)), (.int (Z.modQ (Z.divQ (Z.modQ (Z.divQ m 8) 8) 2) 2) (u 72))], []⟩) [] 0 (ceT "str.__getitem__" (Y 1)).n (ceT "str.__getitem__" (Y 1)).f (ceT "str.__getitem__" (Y 1)).j, id), (S (.call (.builtin "str.__add__") ⟨[(.str (X 1) (u 67)), (.str (Y 1) (u 73))], []⟩) [] 0 (ceT "str.__add__" (A 1)).n (ceT "str.__add__" (A 1)).f (ceT "str.__add__" (A 1)).j, id), (S (.call (.builtin "str.__getitem__") ⟨[(.str (⟨⟨[45, 120, 83, 115]⟩⟩) (u 76)), (.int (Z.modQ (Z.modQ (Z.divQ m 8) 8) 2 + M 1) (u 62))], []⟩) [] 0 (ceT "str.__getitem__" (V 1)).n (ceT "str.__getitem__" (V 1)).f (ceT "str.__getitem__" (V 1)).j, id), (S (.call (.builtin "str.__add__") ⟨[(.str (A 1) (u 74)), (.str (V 1) (u 79))], []⟩) [] 0 (ceT "str.__add__" (C 1)).n (ceT "str.__add__" (C 1)).f (ceT "str.__add__" (C 1)).j, id), (S (.call (.builtin "str.__add__") ⟨[(.str (D 0) (u 42)), (.str (C 1) (u 80))], []⟩) [] 0 (ceT "str.__add__" (D 1)).n (ceT "str.__add__" (D 1)).f (ceT "str.__add__" (D 1)).j, id), (S (.call (.builtin "int.__pow__") ⟨[(.int 8 (u 84)), (.int 0 (u 2))], []⟩) [] 0 (ceI "int.__pow__" 1).n (ceI "int.__pow__" 1).f (ceI "int.__pow__" 1).j, id), (S (.call (.builtin "int.__pow__") ⟨[(.int 2 (u 94)), (.int 0 (u 2))], []⟩) [] 0 (ceI "int.__pow__" 1).n (ceI "int.__pow__" 1).f (ceI "int.__pow__" 1).j, id), (S (.call (.builtin "int.__mul__") ⟨[(.int (Z.modQ (Z.divQ (Z.divQ m 512) 1) 2) (u 98)), (.int 2 (u 99))], []⟩) [] 0 (ceI "int.__mul__" (M 2)).n (ceI "int.__mul__" (M 2)).f (ceI "int.__mul__" (M 2)).j, id), (S (.call (.builtin "str.__getitem__") ⟨[(.str (⟨⟨[45, 114]⟩⟩) (u 103)), (.int (Z.divQ (Z.modQ (Z.divQ m 1) 8) 4) (u 105))], []⟩) [] 0 (ceT "str.__getitem__" (X 2)).n (ceT "str.__getitem__" (X 2)).f (ceT "str.__getitem__" (X 2)).j, id), (S (.call (.builtin "str.__getitem__") ⟨[(.str (⟨⟨[45, 119]⟩⟩) (u 107)), (.int (Z.modQ (Z.divQ (Z.modQ (Z.divQ m 1) 8) 2) 2) (u 111))], []⟩) [] 0 (ceT "str.__getitem__" (Y 2)).n (ceT "str.__getitem__" (Y 2)).f (ceT "str.__getitem__" (Y 2)).j, id), (S (.call (.builtin "str.__add__") ⟨[(.str (X 2) (u 106)), (.str (Y 2) (u 112))], []⟩) [] 0 (ceT "str.__add__" (A 2)).n (ceT "str.__add__" (A 2)).f (ceT "str.__add__" (A 2)).j, id), (S (.call (.builtin "str.__getitem__") ⟨[(.str (⟨⟨[45, 120, 84, 116]⟩⟩) (u 114)), (.int (Z.modQ (Z.modQ (Z.divQ m 1) 8) 2 + M 2) (u 101))], []⟩) [] 0 (ceT "str.__getitem__" (V 2)).n (ceT "str.__getitem__" (V 2)).f (ceT "str.__getitem__" (V 2)).j, id), (S (.call (.builtin "str.__add__") ⟨[(.str (A 2) (u 113)), (.str (V 2) (u 118))], []⟩) [] 0 (ceT "str.__add__" (C 2)).n (ceT "str.__add__" (C 2)).f (ceT "str.__add__" (C 2)).j, id), (S (.call (.builtin "str.__add__") ⟨[(.str (D 1) (u 81)), (.str (C 2) (u 119))], []⟩) [] 0 (ceT "str.__add__" (D 2)).n (ceT "str.__add__" (D 2)).f (ceT "str.__add__" (D 2)).j, id)] True⟩ := by cases b1 <;> kernel_rfl!

end Mine
end
-- V41
section
open PySem PySem.Spec PySem.Calls PyProof.Rows PySem.W PySem.W.X
namespace Mine
/-! ranges, len, signs of a text, and small arithmetic: contracts -/
noncomputable def ranO (n : Int) (t0 t1 t2 : Nat) : Obj := { cls := .type "range", data := .fields ⟨[.int 0 t0, .int n t1, .int 1 t2]⟩ }
noncomputable def ritO (x left : Int) : Obj := { cls := .type "range_iterator", data := .fields ⟨[.int x 0, .int left 0, .int 1 0]⟩ }
noncomputable def ceRan (n : Int) : CE := ⟨none, [], 4, fun us => (.ok (.ret (.ref (getU us 0))), [(getU us 0, ranO n (getU us 1) (getU us 2) (getU us 3))]), 0, noH⟩
noncomputable def ceRI (m : List Bool) (n : Int) : CE := ⟨some "range.__iter__", m, 1, fun us => (.ok (.ret (.ref (getU us 0))), [(getU us 0, ritO 0 n)]), 0, noH⟩
noncomputable def ceRN (m : List Bool) (it : Nat) (x left : Int) : CE := ⟨some "range_iterator.__next__", m, 1, fun us => (.ok (.ret (.int x (getU us 0))), [(it, ritO (x + 1) (left - 1))]), 0, noH⟩
end Mine
end
-- V42
section
open PySem PySem.Spec PySem.Calls PyProof.Rows PySem.W PySem.W.X
namespace Mine
noncomputable def jnG : Expr → Expr
  | .Call _ [e] _ _ => e
  | e => e
noncomputable def boR : Expr → Expr
  | .BinOp _ _ r _ => r
  | e => e
noncomputable def liC (P : Params) : Expr := jnG (boR (asE (stm P 111 3)))
noncomputable def ceLC (P : Params) (m : List Bool) (ma mn tT : Nat) (T : Str) (mv : List Value) (pg : List Nat → List Value) (len : Nat) (v : List Nat → Value) : CE := ⟨none, m, 3, fun us => (.ok .next, [(getU us 0, celO (some (.str T tT))), (getU us 1, celO (some (.ref ma))), (ma, lsto mv mn), (getU us 4, lsto (pg us) len), (getU us 5, dicO [en (hs P nK) (getU us 6) nK (v us)] 1)]), 0, addrH⟩
noncomputable def lE (P : Params) (L cf cm D : Nat) : Env := envK (E111 P L cf cm) (lcS (liC P)) D [(nMarks, cm), (nFigs, cf)]

theorem lc_n0 (P : Params) (b1 b2 : Bool) (S : ST) (it acc ma mn L cf cm D i q tT : Nat) (left nn : Int) (T X Y : Str) (mv ws : List Value) (u : Nat → Nat) :
    trimO [true, true, true, true, true, true] (run (ftP P b1 b2) (KP P) S 60 c0 none 0 [] (den (.compLoop (liC P) 0 (.ref it) (.ref acc) (lE P L cf cm D))) [(it, ritO (i : Int) left), (cf, celO (some (.str T tT))), (cm, celO (some (.ref ma))), (ma, lsto mv mn), (acc, lsto ws q), (D, dicO [] 0)] 0 (mkU 9 u) 85070287573337778577478465675416854465 [ceRN [true] it (i : Int) left, ceI "len" nn, ceHas [false, false, true] ma (lsto mv mn) false, ceT "str.__getitem__" X, ceT "str.__add__" Y, ceApS [false, false, true] acc ws q Y] True) =
    some ⟨.fin (.again (.compLoop (liC P) 0 (.ref it) (.ref acc) (lE P L cf cm D))), [(cf, celO (some (.str T tT))), (cm, celO (some (.ref ma))), (D, dicO [en (hs P ⟨⟨[107]⟩⟩) (u 1) ⟨⟨[107]⟩⟩ (.int (((i) : Nat) : Int) (u 0))] 1), (it, ritO ((i + 1 : Nat) : Int) (left - 1)), (ma, lsto (mv) mn), (acc, lsto (ws ++ [.str Y (u 8)]) (q + 1))], 0, okD 21 85070287573337778577478465675416854465 [it, cf, cm, ma, acc, D] [(S (.call (.builtin "range_iterator.__next__") ⟨[(.ref it)], []⟩) [(it, { cls := (.type "range_iterator"), data := (.fields ⟨[(.int (((i) : Nat) : Int) 0), (.int left 0), (.int 1 0)]⟩) })] 0 (ceRN [true] it (i : Int) left).n (ceRN [true] it (i : Int) left).f (ceRN [true] it (i : Int) left).j, fun _ => [cf, cm, ma, acc, D, it]), (S (.call (.builtin "len") ⟨[(.str T tT)], []⟩) [] 0 (ceI "len" nn).n (ceI "len" nn).f (ceI "len" nn).j, id), (S (.call (.builtin "list.__contains__") ⟨[(.ref ma), (.int (nn - ↑i) (u 4))], []⟩) [(ma, lsto (mv) mn)] 0 (ceHas [false, false, true] ma (lsto mv mn) false).n (ceHas [false, false, true] ma (lsto mv mn) false).f (ceHas [false, false, true] ma (lsto mv mn) false).j, fun _ => [cf, cm, acc, D, it, ma]), (S (.call (.builtin "str.__getitem__") ⟨[(.str T tT), (.int (((i) : Nat) : Int) (u 0))], []⟩) [] 0 (ceT "str.__getitem__" X).n (ceT "str.__getitem__" X).f (ceT "str.__getitem__" X).j, id), (S (.call (.builtin "str.__add__") ⟨[(.str ⟨⟨[]⟩⟩ (u 5)), (.str X (u 6))], []⟩) [] 0 (ceT "str.__add__" Y).n (ceT "str.__add__" Y).f (ceT "str.__add__" Y).j, id), (S (.call (.builtin "list.append") ⟨[(.ref acc), (.str Y (u 7))], []⟩) [(acc, lsto (ws) q)] 0 (ceApS [false, false, true] acc ws q Y).n (ceApS [false, false, true] acc ws q Y).f (ceApS [false, false, true] acc ws q Y).j, fun _ => [cf, cm, D, it, ma, acc])] True⟩ := by cases b1 <;> kernel_rfl!
theorem lc_z0 (P : Params) (b1 b2 : Bool) (S : ST) (it acc ma mn L cf cm D i q tT : Nat) (left nn : Int) (T X Y : Str) (mv ws : List Value) (u : Nat → Nat) :
    trimO [true, true, true, true, true, true] (run (ftP P b1 b2) (KP P) S 66 c0 none 0 [] (den (.compLoop (liC P) 0 (.ref it) (.ref acc) (lE P L cf cm D))) [(it, ritO (i : Int) left), (cf, celO (some (.str T tT))), (cm, celO (some (.ref ma))), (ma, lsto mv mn), (acc, lsto ws q), (D, dicO [] 0)] 0 (mkU 10 u) 348447897900391578534991338603186182447041 [ceRN [true] it (i : Int) left, ceI "len" nn, ceHas [false, false, true] ma (lsto mv mn) true, ceB "int.__gt__" false, ceT "str.__getitem__" X, ceT "str.__add__" Y, ceApS [false, false, true] acc ws q Y] True) =
    some ⟨.fin (.again (.compLoop (liC P) 0 (.ref it) (.ref acc) (lE P L cf cm D))), [(cf, celO (some (.str T tT))), (cm, celO (some (.ref ma))), (D, dicO [en (hs P ⟨⟨[107]⟩⟩) (u 1) ⟨⟨[107]⟩⟩ (.int (((i) : Nat) : Int) (u 0))] 1), (it, ritO ((i + 1 : Nat) : Int) (left - 1)), (ma, lsto (mv) mn), (acc, lsto (ws ++ [.str Y (u 9)]) (q + 1))], 0, okD 23 348447897900391578534991338603186182447041 [it, cf, cm, ma, acc, D] [(S (.call (.builtin "range_iterator.__next__") ⟨[(.ref it)], []⟩) [(it, { cls := (.type "range_iterator"), data := (.fields ⟨[(.int (((i) : Nat) : Int) 0), (.int left 0), (.int 1 0)]⟩) })] 0 (ceRN [true] it (i : Int) left).n (ceRN [true] it (i : Int) left).f (ceRN [true] it (i : Int) left).j, fun _ => [cf, cm, ma, acc, D, it]), (S (.call (.builtin "len") ⟨[(.str T tT)], []⟩) [] 0 (ceI "len" nn).n (ceI "len" nn).f (ceI "len" nn).j, id), (S (.call (.builtin "list.__contains__") ⟨[(.ref ma), (.int (nn - ↑i) (u 4))], []⟩) [(ma, lsto (mv) mn)] 0 (ceHas [false, false, true] ma (lsto mv mn) true).n (ceHas [false, false, true] ma (lsto mv mn) true).f (ceHas [false, false, true] ma (lsto mv mn) true).j, fun _ => [cf, cm, acc, D, it, ma]), (S (.call (.builtin "int.__gt__") ⟨[(.int (((i) : Nat) : Int) (u 0)), (.int 0 (u 5))], []⟩) [] 0 (ceB "int.__gt__" false).n (ceB "int.__gt__" false).f (ceB "int.__gt__" false).j, id), (S (.call (.builtin "str.__getitem__") ⟨[(.str T tT), (.int (((i) : Nat) : Int) (u 0))], []⟩) [] 0 (ceT "str.__getitem__" X).n (ceT "str.__getitem__" X).f (ceT "str.__getitem__" X).j, id), (S (.call (.builtin "str.__add__") ⟨[(.str ⟨⟨[]⟩⟩ (u 6)), (.str X (u 7))], []⟩) [] 0 (ceT "str.__add__" Y).n (ceT "str.__add__" Y).f (ceT "str.__add__" Y).j, id), (S (.call (.builtin "list.append") ⟨[(.ref acc), (.str Y (u 8))], []⟩) [(acc, lsto (ws) q)] 0 (ceApS [false, false, true] acc ws q Y).n (ceApS [false, false, true] acc ws q Y).f (ceApS [false, false, true] acc ws q Y).j, fun _ => [cf, cm, D, it, ma, acc])] True⟩ := by cases b1 <;> kernel_rfl!
theorem lc_y0 (P : Params) (b1 b2 : Bool) (S : ST) (it acc ma mn L cf cm D i q tT : Nat) (left nn : Int) (T X Y : Str) (mv ws : List Value) (u : Nat → Nat) :
    trimO [true, true, true, true, true, true] (run (ftP P b1 b2) (KP P) S 65 c0 none 0 [] (den (.compLoop (liC P) 0 (.ref it) (.ref acc) (lE P L cf cm D))) [(it, ritO (i : Int) left), (cf, celO (some (.str T tT))), (cm, celO (some (.ref ma))), (ma, lsto mv mn), (acc, lsto ws q), (D, dicO [] 0)] 0 (mkU 9 u) 348447897900391578534991338603186182447041 [ceRN [true] it (i : Int) left, ceI "len" nn, ceHas [false, false, true] ma (lsto mv mn) true, ceB "int.__gt__" true, ceT "str.__getitem__" X, ceT "str.__add__" Y, ceApS [false, false, true] acc ws q Y] True) =
    some ⟨.fin (.again (.compLoop (liC P) 0 (.ref it) (.ref acc) (lE P L cf cm D))), [(cf, celO (some (.str T tT))), (cm, celO (some (.ref ma))), (D, dicO [en (hs P ⟨⟨[107]⟩⟩) (u 1) ⟨⟨[107]⟩⟩ (.int (((i) : Nat) : Int) (u 0))] 1), (it, ritO ((i + 1 : Nat) : Int) (left - 1)), (ma, lsto (mv) mn), (acc, lsto (ws ++ [.str Y (u 8)]) (q + 1))], 0, okD 23 348447897900391578534991338603186182447041 [it, cf, cm, ma, acc, D] [(S (.call (.builtin "range_iterator.__next__") ⟨[(.ref it)], []⟩) [(it, { cls := (.type "range_iterator"), data := (.fields ⟨[(.int (((i) : Nat) : Int) 0), (.int left 0), (.int 1 0)]⟩) })] 0 (ceRN [true] it (i : Int) left).n (ceRN [true] it (i : Int) left).f (ceRN [true] it (i : Int) left).j, fun _ => [cf, cm, ma, acc, D, it]), (S (.call (.builtin "len") ⟨[(.str T tT)], []⟩) [] 0 (ceI "len" nn).n (ceI "len" nn).f (ceI "len" nn).j, id), (S (.call (.builtin "list.__contains__") ⟨[(.ref ma), (.int (nn - ↑i) (u 4))], []⟩) [(ma, lsto (mv) mn)] 0 (ceHas [false, false, true] ma (lsto mv mn) true).n (ceHas [false, false, true] ma (lsto mv mn) true).f (ceHas [false, false, true] ma (lsto mv mn) true).j, fun _ => [cf, cm, acc, D, it, ma]), (S (.call (.builtin "int.__gt__") ⟨[(.int (((i) : Nat) : Int) (u 0)), (.int 0 (u 5))], []⟩) [] 0 (ceB "int.__gt__" true).n (ceB "int.__gt__" true).f (ceB "int.__gt__" true).j, id), (S (.call (.builtin "str.__getitem__") ⟨[(.str T tT), (.int (((i) : Nat) : Int) (u 0))], []⟩) [] 0 (ceT "str.__getitem__" X).n (ceT "str.__getitem__" X).f (ceT "str.__getitem__" X).j, id), (S (.call (.builtin "str.__add__") ⟨[(.str ⟨⟨[44]⟩⟩ (u 2)), (.str X (u 6))], []⟩) [] 0 (ceT "str.__add__" Y).n (ceT "str.__add__" Y).f (ceT "str.__add__" Y).j, id), (S (.call (.builtin "list.append") ⟨[(.ref acc), (.str Y (u 7))], []⟩) [(acc, lsto (ws) q)] 0 (ceApS [false, false, true] acc ws q Y).n (ceApS [false, false, true] acc ws q Y).f (ceApS [false, false, true] acc ws q Y).j, fun _ => [cf, cm, D, it, ma, acc])] True⟩ := by cases b1 <;> kernel_rfl!
theorem lc_n1 (P : Params) (b1 b2 : Bool) (S : ST) (it acc ma mn L cf cm D i q tT : Nat) (left nn : Int) (T X Y : Str) (mv ws : List Value) (h : Int) (qq : Nat) (v : Value) (u : Nat → Nat) :
    trimO [true, true, true, true, true, true] (run (ftP P b1 b2) (KP P) S 60 c0 none 0 [] (den (.compLoop (liC P) 0 (.ref it) (.ref acc) (lE P L cf cm D))) [(it, ritO (i : Int) left), (cf, celO (some (.str T tT))), (cm, celO (some (.ref ma))), (ma, lsto mv mn), (acc, lsto ws q), (D, dicO [en h qq nK v] 1)] 0 (mkU 9 u) 85070287573337778577478465675416854465 [ceRN [true] it (i : Int) left, ceI "len" nn, ceHas [false, false, true] ma (lsto mv mn) false, ceT "str.__getitem__" X, ceT "str.__add__" Y, ceApS [false, false, true] acc ws q Y] True) =
    some ⟨.fin (.again (.compLoop (liC P) 0 (.ref it) (.ref acc) (lE P L cf cm D))), [(cf, celO (some (.str T tT))), (cm, celO (some (.ref ma))), (D, dicO [en h qq ⟨⟨[107]⟩⟩ (.int (((i) : Nat) : Int) (u 0))] 1), (it, ritO ((i + 1 : Nat) : Int) (left - 1)), (ma, lsto (mv) mn), (acc, lsto (ws ++ [.str Y (u 8)]) (q + 1))], 0, okD 21 85070287573337778577478465675416854465 [it, cf, cm, ma, acc, D] [(S (.call (.builtin "range_iterator.__next__") ⟨[(.ref it)], []⟩) [(it, { cls := (.type "range_iterator"), data := (.fields ⟨[(.int (((i) : Nat) : Int) 0), (.int left 0), (.int 1 0)]⟩) })] 0 (ceRN [true] it (i : Int) left).n (ceRN [true] it (i : Int) left).f (ceRN [true] it (i : Int) left).j, fun _ => [cf, cm, ma, acc, D, it]), (S (.call (.builtin "len") ⟨[(.str T tT)], []⟩) [] 0 (ceI "len" nn).n (ceI "len" nn).f (ceI "len" nn).j, id), (S (.call (.builtin "list.__contains__") ⟨[(.ref ma), (.int (nn - ↑i) (u 4))], []⟩) [(ma, lsto (mv) mn)] 0 (ceHas [false, false, true] ma (lsto mv mn) false).n (ceHas [false, false, true] ma (lsto mv mn) false).f (ceHas [false, false, true] ma (lsto mv mn) false).j, fun _ => [cf, cm, acc, D, it, ma]), (S (.call (.builtin "str.__getitem__") ⟨[(.str T tT), (.int (((i) : Nat) : Int) (u 0))], []⟩) [] 0 (ceT "str.__getitem__" X).n (ceT "str.__getitem__" X).f (ceT "str.__getitem__" X).j, id), (S (.call (.builtin "str.__add__") ⟨[(.str ⟨⟨[]⟩⟩ (u 5)), (.str X (u 6))], []⟩) [] 0 (ceT "str.__add__" Y).n (ceT "str.__add__" Y).f (ceT "str.__add__" Y).j, id), (S (.call (.builtin "list.append") ⟨[(.ref acc), (.str Y (u 7))], []⟩) [(acc, lsto (ws) q)] 0 (ceApS [false, false, true] acc ws q Y).n (ceApS [false, false, true] acc ws q Y).f (ceApS [false, false, true] acc ws q Y).j, fun _ => [cf, cm, D, it, ma, acc])] True⟩ := by cases b1 <;> kernel_rfl!
theorem lc_z1 (P : Params) (b1 b2 : Bool) (S : ST) (it acc ma mn L cf cm D i q tT : Nat) (left nn : Int) (T X Y : Str) (mv ws : List Value) (h : Int) (qq : Nat) (v : Value) (u : Nat → Nat) :
    trimO [true, true, true, true, true, true] (run (ftP P b1 b2) (KP P) S 66 c0 none 0 [] (den (.compLoop (liC P) 0 (.ref it) (.ref acc) (lE P L cf cm D))) [(it, ritO (i : Int) left), (cf, celO (some (.str T tT))), (cm, celO (some (.ref ma))), (ma, lsto mv mn), (acc, lsto ws q), (D, dicO [en h qq nK v] 1)] 0 (mkU 10 u) 348447897900391578534991338603186182447041 [ceRN [true] it (i : Int) left, ceI "len" nn, ceHas [false, false, true] ma (lsto mv mn) true, ceB "int.__gt__" false, ceT "str.__getitem__" X, ceT "str.__add__" Y, ceApS [false, false, true] acc ws q Y] True) =
    some ⟨.fin (.again (.compLoop (liC P) 0 (.ref it) (.ref acc) (lE P L cf cm D))), [(cf, celO (some (.str T tT))), (cm, celO (some (.ref ma))), (D, dicO [en h qq ⟨⟨[107]⟩⟩ (.int (((i) : Nat) : Int) (u 0))] 1), (it, ritO ((i + 1 : Nat) : Int) (left - 1)), (ma, lsto (mv) mn), (acc, lsto (ws ++ [.str Y (u 9)]) (q + 1))], 0, okD 23 348447897900391578534991338603186182447041 [it, cf, cm, ma, acc, D] [(S (.call (.builtin "range_iterator.__next__") ⟨[(.ref it)], []⟩) [(it, { cls := (.type "range_iterator"), data := (.fields ⟨[(.int (((i) : Nat) : Int) 0), (.int left 0), (.int 1 0)]⟩) })] 0 (ceRN [true] it (i : Int) left).n (ceRN [true] it (i : Int) left).f (ceRN [true] it (i : Int) left).j, fun _ => [cf, cm, ma, acc, D, it]), (S (.call (.builtin "len") ⟨[(.str T tT)], []⟩) [] 0 (ceI "len" nn).n (ceI "len" nn).f (ceI "len" nn).j, id), (S (.call (.builtin "list.__contains__") ⟨[(.ref ma), (.int (nn - ↑i) (u 4))], []⟩) [(ma, lsto (mv) mn)] 0 (ceHas [false, false, true] ma (lsto mv mn) true).n (ceHas [false, false, true] ma (lsto mv mn) true).f (ceHas [false, false, true] ma (lsto mv mn) true).j, fun _ => [cf, cm, acc, D, it, ma]), (S (.call (.builtin "int.__gt__") ⟨[(.int (((i) : Nat) : Int) (u 0)), (.int 0 (u 5))], []⟩) [] 0 (ceB "int.__gt__" false).n (ceB "int.__gt__" false).f (ceB "int.__gt__" false).j, id), (S (.call (.builtin "str.__getitem__") ⟨[(.str T tT), (.int (((i) : Nat) : Int) (u 0))], []⟩) [] 0 (ceT "str.__getitem__" X).n (ceT "str.__getitem__" X).f (ceT "str.__getitem__" X).j, id), (S (.call (.builtin "str.__add__") ⟨[(.str ⟨⟨[]⟩⟩ (u 6)), (.str X (u 7))], []⟩) [] 0 (ceT "str.__add__" Y).n (ceT "str.__add__" Y).f (ceT "str.__add__" Y).j, id), (S (.call (.builtin "list.append") ⟨[(.ref acc), (.str Y (u 8))], []⟩) [(acc, lsto (ws) q)] 0 (ceApS [false, false, true] acc ws q Y).n (ceApS [false, false, true] acc ws q Y).f (ceApS [false, false, true] acc ws q Y).j, fun _ => [cf, cm, D, it, ma, acc])] True⟩ := by cases b1 <;> kernel_rfl!
theorem lc_y1 (P : Params) (b1 b2 : Bool) (S : ST) (it acc ma mn L cf cm D i q tT : Nat) (left nn : Int) (T X Y : Str) (mv ws : List Value) (h : Int) (qq : Nat) (v : Value) (u : Nat → Nat) :
    trimO [true, true, true, true, true, true] (run (ftP P b1 b2) (KP P) S 65 c0 none 0 [] (den (.compLoop (liC P) 0 (.ref it) (.ref acc) (lE P L cf cm D))) [(it, ritO (i : Int) left), (cf, celO (some (.str T tT))), (cm, celO (some (.ref ma))), (ma, lsto mv mn), (acc, lsto ws q), (D, dicO [en h qq nK v] 1)] 0 (mkU 9 u) 348447897900391578534991338603186182447041 [ceRN [true] it (i : Int) left, ceI "len" nn, ceHas [false, false, true] ma (lsto mv mn) true, ceB "int.__gt__" true, ceT "str.__getitem__" X, ceT "str.__add__" Y, ceApS [false, false, true] acc ws q Y] True) =
    some ⟨.fin (.again (.compLoop (liC P) 0 (.ref it) (.ref acc) (lE P L cf cm D))), [(cf, celO (some (.str T tT))), (cm, celO (some (.ref ma))), (D, dicO [en h qq ⟨⟨[107]⟩⟩ (.int (((i) : Nat) : Int) (u 0))] 1), (it, ritO ((i + 1 : Nat) : Int) (left - 1)), (ma, lsto (mv) mn), (acc, lsto (ws ++ [.str Y (u 8)]) (q + 1))], 0, okD 23 348447897900391578534991338603186182447041 [it, cf, cm, ma, acc, D] [(S (.call (.builtin "range_iterator.__next__") ⟨[(.ref it)], []⟩) [(it, { cls := (.type "range_iterator"), data := (.fields ⟨[(.int (((i) : Nat) : Int) 0), (.int left 0), (.int 1 0)]⟩) })] 0 (ceRN [true] it (i : Int) left).n (ceRN [true] it (i : Int) left).f (ceRN [true] it (i : Int) left).j, fun _ => [cf, cm, ma, acc, D, it]), (S (.call (.builtin "len") ⟨[(.str T tT)], []⟩) [] 0 (ceI "len" nn).n (ceI "len" nn).f (ceI "len" nn).j, id), (S (.call (.builtin "list.__contains__") ⟨[(.ref ma), (.int (nn - ↑i) (u 4))], []⟩) [(ma, lsto (mv) mn)] 0 (ceHas [false, false, true] ma (lsto mv mn) true).n (ceHas [false, false, true] ma (lsto mv mn) true).f (ceHas [false, false, true] ma (lsto mv mn) true).j, fun _ => [cf, cm, acc, D, it, ma]), (S (.call (.builtin "int.__gt__") ⟨[(.int (((i) : Nat) : Int) (u 0)), (.int 0 (u 5))], []⟩) [] 0 (ceB "int.__gt__" true).n (ceB "int.__gt__" true).f (ceB "int.__gt__" true).j, id), (S (.call (.builtin "str.__getitem__") ⟨[(.str T tT), (.int (((i) : Nat) : Int) (u 0))], []⟩) [] 0 (ceT "str.__getitem__" X).n (ceT "str.__getitem__" X).f (ceT "str.__getitem__" X).j, id), (S (.call (.builtin "str.__add__") ⟨[(.str ⟨⟨[44]⟩⟩ (u 2)), (.str X (u 6))], []⟩) [] 0 (ceT "str.__add__" Y).n (ceT "str.__add__" Y).f (ceT "str.__add__" Y).j, id), (S (.call (.builtin "list.append") ⟨[(.ref acc), (.str Y (u 7))], []⟩) [(acc, lsto (ws) q)] 0 (ceApS [false, false, true] acc ws q Y).n (ceApS [false, false, true] acc ws q Y).f (ceApS [false, false, true] acc ws q Y).j, fun _ => [cf, cm, D, it, ma, acc])] True⟩ := by cases b1 <;> kernel_rfl!
theorem lc_e (P : Params) (b1 b2 : Bool) (S : ST) (it acc L cf cm D : Nat) (x : Int) (u : Nat → Nat) :
    trimO [] (run (ftP P b1 b2) (KP P) S 20 c0 none 0 [] (den (.compLoop (liC P) 0 (.ref it) (.ref acc) (lE P L cf cm D))) [(it, ritO x 0)] 0 (mkU 2 u) 207249215489 [] True) =
    some ⟨.fin (.done .next), [], 0, okD 7 207249215489 [it, u 0, u 1] [] True⟩ := by cases b1 <;> kernel_rfl!
theorem li_2 (P : Params) (b1 b2 : Bool) (S : ST) (L cf cm tm ts n tl : Nat) (h : Nat → Int) (k : Nat → Nat) (m s : Int) (ln : Str) (a b c : Value) (T : Str) (u : Nat → Nat) :
    trimO [true, true] (run (ftP P b1 b2) (KP P) S 20 c0 none 0 [] (flowZ [stm P 111 2] (E111 P L cf cm)) [(L, fro (lE6 h k m s tm ts (.str ln tl) a b c) n), (cf, celO none)] 0 (mkU 1 u) 2197557248 [ceStr T] True) =
    some ⟨.fin (.done .next), [(L, fro (lE6 h k m s tm ts (.str ln tl) a b c) n), (cf, celO (some (.str T (u 0))))], 0, okD 6 2197557248 [L, cf] [(S (.call (.type "str") ⟨[(.int s ts)], []⟩) [] 0 (ceStr T).n (ceStr T).f (ceStr T).j, id)] True⟩ := by cases b1 <;> kernel_rfl!
theorem li_3 (P : Params) (b1 b2 : Bool) (S : ST) (L cf cm tm ts n tl : Nat) (h : Nat → Int) (k : Nat → Nat) (m s : Int) (ln : Str) (a b c : Value) (T : Str) (tT ma mn : Nat) (G1 G G2 : Str) (nn : Int) (mv : List Value) (pg : List Nat → List Value) (len : Nat) (v : List Nat → Value) (u : Nat → Nat) :
    trimO [false, false, false, true] (run (ftP P b1 b2) (KP P) S 50 c0 none 0 [] (flowZ [stm P 111 3] (E111 P L cf cm)) [(L, fro (lE6 h k m s tm ts (.str ln tl) a b c) n), (cf, celO (some (.str T tT))), (cm, celO (some (.ref ma))), (ma, lsto mv mn)] 0 (mkU 16 u) 20764599763479445521368595952570305 [ceT "str.__add__" G1, ceI "len" nn, ceRan nn, ceRI [false, false, false, false, true] nn, ceLC P [false, true, true, true, true, true, true] ma mn tT T mv pg len v, ceJn [false, false, false, false, true] G, ceT "str.__add__" G2] True) =
    some ⟨.fin (.done (.ret (.str G2 (u 15)))), [(ma, lsto mv mn)], 0, okD 19 20764599763479445521368595952570305 [L, cf, cm, ma, u 4] [(S (.call (.builtin "str.__add__") ⟨[(.str ln tl), (.str ⟨⟨[32]⟩⟩ (u 0))], []⟩) [] 0 (ceT "str.__add__" G1).n (ceT "str.__add__" G1).f (ceT "str.__add__" G1).j, id), (S (.call (.builtin "len") ⟨[(.str T tT)], []⟩) [] 0 (ceI "len" nn).n (ceI "len" nn).f (ceI "len" nn).j, id), (S (.call (.type "range") ⟨[(.int nn (u 3))], []⟩) [] 0 (ceRan nn).n (ceRan nn).f (ceRan nn).j, id), (S (.call (.builtin "range.__iter__") ⟨[(.ref (u 4))], []⟩) [(u 4, { cls := (.type "range"), data := (.fields ⟨[(.int 0 (u 5)), (.int nn (u 6)), (.int 1 (u 7))]⟩) })] 0 (ceRI [false, false, false, false, true] nn).n (ceRI [false, false, false, false, true] nn).f (ceRI [false, false, false, false, true] nn).j, fun _ => [L, cf, cm, ma, u 8, u 9, u 10]), (S (.compStart (liC P) 0 (.ref (u 8)) (.ref (u 9)) (lE P L cf cm (u 10))) [(cf, celO (some (.str T tT))), (cm, celO (some (.ref ma))), (ma, lsto mv mn), (u 8, ritO 0 nn), (u 9, lsto [] 0), (u 10, dicO [] 0)] 0 (ceLC P [false, true, true, true, true, true, true] ma mn tT T mv pg len v).n ((ceLC P [false, true, true, true, true, true, true] ma mn tT T mv pg len v).g [(cf, celO (some (.str T tT))), (cm, celO (some (.ref ma))), (ma, lsto mv mn), (u 8, ritO 0 nn), (u 9, lsto [] 0), (u 10, dicO [] 0)]) (ceLC P [false, true, true, true, true, true, true] ma mn tT T mv pg len v).j, fun _ => [L, cf, cm, ma, u 9, u 10]), (S (.call (.builtin "str.join") ⟨[(.str ⟨⟨[]⟩⟩ (u 2)), (.ref (u 9))], []⟩) [(u 9, lsto (pg [cf, cm, ma, u 8, u 9, u 10, u 11, u 12, u 13]) len)] 0 (ceJn [false, false, false, false, true] G).n (ceJn [false, false, false, false, true] G).f (ceJn [false, false, false, false, true] G).j, fun _ => [L, cf, cm, ma, u 10]), (S (.call (.builtin "str.__add__") ⟨[(.str G1 (u 1)), (.str G (u 14))], []⟩) [] 0 (ceT "str.__add__" G2).n (ceT "str.__add__" G2).f (ceT "str.__add__" G2).j, id)] True⟩ := by cases b1 <;> kernel_rfl!

end Mine
end
-- V43
section
open PySem PySem.Spec PySem.Calls PyProof.Rows PySem.W PySem.W.X
namespace Mine
theorem small_not {a b c : Int} (h : Builtin.Range.small a b c = true) : ¬(!(Builtin.Range.rangeFitsLong a && Builtin.Range.rangeFitsLong b && Builtin.Range.rangeFitsLong c && Builtin.Range.rangeFitsLong (Builtin.Range.rangeSize a b c) && (Builtin.Range.rangeSize a b c == 0 || if c > 0 then Builtin.Range.rangeFitsLong (b + (c - 1)) else Builtin.Range.rangeFitsLong (b + (c + 1))))) = true := by
  unfold Builtin.Range.small at h
  simp [h]
section
variable {w : World} {K : Frag} {J : Nat → Array GenState → Prop} {B : Addr → Option Obj} {os : OsState} {dr : Drawn} {d : Nat}
theorem specLenS {x : Str} {t : Nat} (hx : x.length ≤ 1000) : Spec w K d J (.call (.builtin "len") ⟨[.str x t], []⟩) [] 0 1 (ceI "len" (x.length : Int)).f 0 := by
  refine spec_val (gv := fun us => .int (x.length : Int) (getU us 0)) (gH := fun _ => []) fun A B os dr s Q hA hK R hQ => ?_
  exact len_str (by omega) (hQ [s.toks + 1] _ rfl (R.toks _))
theorem specLenL {l n : Nat} {vs : List Value} (m : List Bool) (hx : vs.length ≤ 1000) : Spec w K d J (.call (.builtin "len") ⟨[.ref l], []⟩) [(l, lsto vs n)] 0 1 (fun us => (.ok (.ret (.int (vs.length : Int) (getU us 0))), [(l, lsto vs n)])) 0 := by
  refine spec_val (gv := fun us => .int (vs.length : Int) (getU us 0)) (gH := fun _ => [(l, lsto vs n)]) fun A B os dr s Q hA hK R hQ => ?_
  exact call_len_list (R.isList (i := 0) rfl) (by show (vs.length : Int) < _; omega) (hQ [s.toks + 1] _ rfl (R.toks _))
theorem specRan {n : Int} {t : Nat} : Spec w K d J (.call (.type "range") ⟨[.int n t], []⟩) [] 0 4 (ceRan n).f 0 := by
  refine spec_val (gv := fun us => .ref (getU us 0)) (gH := fun us => [(getU us 0, ranO n (getU us 1) (getU us 2) (getU us 3))]) fun A B os dr s Q hA hK R hQ => ?_
  refine call_range_1 ?_
  have R2 := (R.alloc (o := ranO n s.toks t (s.toks + 1)) rfl).toks (s.toks + 1 + 1)
  exact hQ [s.heap.objs.size, s.toks, t, s.toks + 1] _ rfl R2
theorem specRI {r t0 t1 t2 n : Nat} (m : List Bool) (hn : n ≤ 1000) : Spec w K d J (.call (.builtin "range.__iter__") ⟨[.ref r], []⟩) [(r, ranO (n : Int) t0 t1 t2)] 0 1 (ceRI m (n : Int)).f 0 := by
  refine spec_val (gv := fun us => .ref (getU us 0)) (gH := fun us => [(getU us 0, ritO 0 (n : Int))]) fun A B os dr s Q hA hK R hQ => ?_
  have ho : IsRange s.heap r 0 (n : Int) 1 t0 t1 t2 := R.at (i := 0) rfl
  have hT : s.TypeIs (.ref r) "range" := ⟨_, ho, rfl⟩
  have hsmall : Builtin.Range.small 0 (n : Int) 1 = true := small_one (by decide) (by decide) (by omega) (by omega)
  have hsz : Builtin.Range.rangeSize 0 (n : Int) 1 = (n : Int) := by rw [rangeSize_one]; split <;> omega
  refine call_meets F.slot_range_iter hT F.entry_range_iter (F.args_range_iter_1 _) (AutoRange.range___iter___range_1 r 0 n 1 t0 t1 t2 (small_not hsmall)) ⟨ho, ?_⟩
  unfold Builtin.Range.small at hsmall
  simp only [hsmall, if_true]
  rw [hsz]
  have R2 := (R.pick []).alloc (o := ritO 0 (n : Int)) rfl
  exact hQ [s.heap.objs.size] _ rfl R2
theorem specRN {it : Nat} {x left : Int} (m : List Bool) (hl : 0 < left) : Spec w K d J (.call (.builtin "range_iterator.__next__") ⟨[.ref it], []⟩) [(it, ritO x left)] 0 1 (ceRN m it x left).f 0 := by
  refine spec_val (gv := fun us => .int x (getU us 0)) (gH := fun us => [(it, ritO (x + 1) (left - 1))]) fun A B os dr s Q hA hK R hQ => ?_
  have ho := R.at (i := 0) rfl
  refine call_meets F.slot_range_iterator_next ⟨_, ho, rfl⟩ F.entry_range_iterator_next (F.args_range_iterator_next_1 _) (AutoRange.range_iterator___next___range_iterator_1 it x left 1 (by omega)) ⟨ho, ?_⟩
  have R1 : Rel J B os dr [(it, ritO (x + 1) left)] 0 { s with heap := s.heap.update it (Obj.mapFields fun z => z.setIfInBounds 0 (rawInt (x + 1))) } := R.upd (i := 0) rfl rfl rfl rfl
  have R2 : Rel J B os dr [(it, ritO (x + 1) (left - 1))] 0 { s with heap := (s.heap.update it (Obj.mapFields fun z => z.setIfInBounds 0 (rawInt (x + 1)))).update it (Obj.mapFields fun z => z.setIfInBounds 1 (rawInt (left - 1))) } := R1.upd (i := 0) rfl rfl rfl rfl
  exact hQ [s.toks] _ rfl (R2.toks (s.toks + 1))
theorem specGetI {x : Str} {i : Int} {t u c : Nat} (h0 : 0 ≤ i) (h1 : i < 1000) (h : x.cps[i.toNat]? = some c) : Spec w K d J (.call (.builtin "str.__getitem__") ⟨[.str x t, .int i u], []⟩) [] 0 1 (ceT "str.__getitem__" (mkS [c])).f 0 := by
  refine spec_gs F.slot_str_getitem (fun s => typeIs_str s x t) F.entry_str_getitem (F.args_str_getitem_2 _ _) (gives_str_getitem x i t u c (by simp; omega) ?_) (sizeOk (by show 1 ≤ _; omega)) 0
  have hlt : i.toNat < x.length := by
    have := Array.getElem?_eq_some_iff.mp h
    exact this.1
  rw [seqIndex_of h0 (by omega)]
  exact h
theorem specMulI {a b : Int} {t u : Nat} (hm : IntMulOk a b) : Spec w K d J (.call (.builtin "int.__mul__") ⟨[.int a t, .int b u], []⟩) [] 0 1 (ceI "int.__mul__" (a * b)).f 0 :=
  spec_gi F.slot_int_mul (fun s => typeIs_int s a t) F.entry_int_mul (F.args_int_mul_2 _ _) (gives_int_mul a b t u hm) 0
theorem specLtI {a b : Int} {t u : Nat} {r : Bool} (h : decide (a < b) = r) : Spec w K d J (.call (.builtin "int.__lt__") ⟨[.int a t, .int b u], []⟩) [] 0 0 (ceB "int.__lt__" r).f 0 :=
  h ▸ spec_gv F.slot_int_lt (fun s => typeIs_int s a t) F.entry_int_lt (F.args_int_lt_2 _ _) (gives_int_lt a b t u) 0
theorem specGtI {a b : Int} {t u : Nat} {r : Bool} (h : decide (a > b) = r) : Spec w K d J (.call (.builtin "int.__gt__") ⟨[.int a t, .int b u], []⟩) [] 0 0 (ceB "int.__gt__" r).f 0 :=
  h ▸ spec_gv F.slot_int_gt (fun s => typeIs_int s a t) F.entry_int_gt (F.args_int_gt_2 _ _) (gives_int_gt a b t u) 0
theorem specGeI {a b : Int} {t u : Nat} {r : Bool} (h : decide (a ≥ b) = r) : Spec w K d J (.call (.builtin "int.__ge__") ⟨[.int a t, .int b u], []⟩) [] 0 0 (ceB "int.__ge__" r).f 0 :=
  h ▸ spec_gv F.slot_int_ge (fun s => typeIs_int s a t) F.entry_int_ge (F.args_int_ge_2 _ _) (gives_int_ge a b t u) 0
end
end Mine
end
-- V44
section
open PySem PySem.Spec PySem.Calls PyProof.Rows PySem.W PySem.W.X
namespace Mine
theorem liC_eq (P : Params) : liC P = .ListComp (lcE (liC P)) (⟨(g1 (lcG (liC P))).target, (g1 (lcG (liC P))).iter, (g1 (lcG (liC P))).ifs, 0⟩ :: []) (lcS (liC P)) (lcP (liC P)) := by kernel_rfl!
/-- is the int among the values -/
noncomputable def eqI (x : Int) : Value → Bool
  | .int y _ => y == x
  | _ => false
theorem intV_eqs (xs : List (Int × Nat)) (x : Int) (t : Nat) : ∀ y ∈ intV xs, MeetsSeq.EqGives y (.int x t) (eqI x y) := by
  intro y hy
  obtain ⟨p, hp, rfl⟩ := List.mem_map.mp hy
  exact MeetsSeq.EqGives.int _ _ _ _
theorem intV_any (xs : List (Int × Nat)) (x : Int) : (intV xs).any (eqI x) = decide (x ∈ xs.map (·.1)) := by
  induction xs with
  | nil => rfl
  | cons p xs ih =>
    show (p.1 == x || (intV xs).any (eqI x)) = _
    rw [ih]
    rw [List.map_cons]
    by_cases h : p.1 = x
    · rw [show (p.1 == x) = true from by rw [h]; exact beq_self_eq_true x, Bool.true_or]
      exact (decide_eq_true (h ▸ List.mem_cons_self)).symm
    · rw [show (p.1 == x) = false from beq_eq_false_iff_ne.mpr h, Bool.false_or]
      congr 1
      exact propext ⟨fun m => List.mem_cons_of_mem _ m, fun m => (List.mem_cons.mp m).resolve_left fun e => h e.symm⟩
/-- a piece of a due line -/
noncomputable def lnP (M : List Int) (l : List Nat) (k : Nat) : List Nat := (if ((l.length : Int) - k ∈ M ∧ 0 < k) then [44] else []) ++ [l.getD k 0]
section
variable {w : World} {B : Addr → Option Obj} {os : OsState} {dr : Drawn} {d : Nat}
theorem range_snoc (f : Nat → List Nat) (i : Nat) : (List.range (i + 1)).map f = (List.range i).map f ++ [f i] := by
  rw [List.range_succ, List.map_append]; rfl
theorem lnP_len (M : List Int) (l : List Nat) (k : Nat) : (lnP M l k).length ≤ 2 := by
  unfold lnP; split <;> simp
theorem lc_loop {A : Around} {J : Nat → Array GenState → Prop} {R : Result → Shared → Prop} {l : List Nat} {xs : List (Int × Nat)} {it acc ma mn L cf cm D tT : Nat}
    (hA : AOk (d - 16) A) (hd : 16 ≤ d) (hK : KIn (KP w.params) B) (hl : l.length ≤ 7) (hx : xs.length ≤ 1000)
    (hR : ∀ kx tv ts s', ts.length = l.length → Rel J B os dr [(cf, celO (some (.str (mkS l) tT))), (cm, celO (some (.ref ma))), (ma, lsto (intV xs) mn), (acc, lsto (txts ((List.range l.length).map (lnP (xs.map (·.1)) l)) ts) l.length), (D, dicO [en (hs w.params nK) kx nK (.int ((l.length : Int) - 1) tv)] 1)] 0 s' → R (.ok .next) s')
    (h1 : 1 ≤ l.length) :
    ∀ (rem i kx tv : Nat) (ts : List Nat) (Do : Obj) (s : Shared), i + rem = l.length → ts.length = i →
      ((i = 0 ∧ Do = dicO [] 0) ∨ (0 < i ∧ Do = dicO [en (hs w.params nK) kx nK (.int ((i : Int) - 1) tv)] 1)) →
      Rel J B os dr [(it, ritO (i : Int) ((l.length : Int) - i)), (cf, celO (some (.str (mkS l) tT))), (cm, celO (some (.ref ma))), (ma, lsto (intV xs) mn), (acc, lsto (txts ((List.range i).map (lnP (xs.map (·.1)) l)) ts) i), (D, Do)] 0 s →
      codeAny (Mo w) A (.compLoop (liC w.params) 0 (.ref it) (.ref acc) (lE w.params L cf cm D)) R s
  | 0, i, kx, tv, ts, Do, s, hi, hts, hD, Rl => by
    have hi' : i = l.length := by omega
    subst hi'
    rcases hD with ⟨h0, _⟩ | ⟨_, rfl⟩
    · omega
    · rw [Int.sub_self] at Rl
      exact code_front2 (fT_eq w) hA hd rfl hK (Hp := [_]) (rest := [_, _, _, _, _]) Rl (fun u => lc_e w.params _ _ _ it acc L cf cm D _ u) (fun u => okD_of _ _ _ _ trivial trivial) fun u s' R' => hR kx tv ts s' hts R'
  | rem + 1, i, kx, tv, ts, Do, s, hi, hts, hD, Rl => by
    have hlt : i < l.length := by omega
    have hc : (mkS l).cps[((i : Nat) : Int).toNat]? = some (l.getD i 0) := by
      show l.toArray[i]? = _
      simp [hlt]
    have hwl : (txts ((List.range i).map (lnP (xs.map (·.1)) l)) ts).length ≤ 1000 := by rw [txts_len, List.length_map, List.length_range]; omega
    have hds : ts.length = ((List.range i).map (lnP (xs.map (·.1)) l)).length := by rw [List.length_map, List.length_range, hts]
    have e1 : (l.length : Int) - (i : Int) - 1 = (l.length : Int) - ((i + 1 : Nat) : Int) := by omega
    have e2 : ((i : Nat) : Int) = ((i + 1 : Nat) : Int) - 1 := by omega
    have hpos : (0 : Int) < (l.length : Int) - i := by omega
    have hn : (mkS l).length = l.length := rfl
    -- the end of a turn
    have fin : ∀ (Y : List Nat) (z kk tk : Nat) s', Y = lnP (xs.map (·.1)) l i → Rel J B os dr [(cf, celO (some (.str (mkS l) tT))), (cm, celO (some (.ref ma))), (D, dicO [en (hs w.params nK) kk nK (.int ((i : Nat) : Int) tk)] 1), (it, ritO ((i + 1 : Nat) : Int) ((l.length : Int) - i - 1)), (ma, lsto (intV xs) mn), (acc, lsto (txts ((List.range i).map (lnP (xs.map (·.1)) l)) ts ++ [.str (mkS Y) z]) (i + 1))] 0 s' →
        codeAny (Mo w) A (.compLoop (liC w.params) 0 (.ref it) (.ref acc) (lE w.params L cf cm D)) R s' := by
      intro Y z kk tk s' hY R'
      have R2 := R'.reorder [3, 0, 1, 4, 5, 2] rfl
      have R3 : Rel J B os dr [(it, ritO ((i + 1 : Nat) : Int) ((l.length : Int) - ((i + 1 : Nat) : Int))), (cf, celO (some (.str (mkS l) tT))), (cm, celO (some (.ref ma))), (ma, lsto (intV xs) mn), (acc, lsto (txts ((List.range (i + 1)).map (lnP (xs.map (·.1)) l)) (ts ++ [z])) (i + 1)), (D, dicO [en (hs w.params nK) kk nK (.int (((i + 1 : Nat) : Int) - 1) tk)] 1)] 0 s' := by
        rw [range_snoc, ← txts_snoc _ _ _ _ hds, ← e1, ← e2, ← hY]
        exact R2
      exact lc_loop hA hd hK hl hx hR h1 rem (i + 1) kk tk (ts ++ [z]) _ s' (by omega) (by rw [List.length_append, hts]; rfl) (.inr ⟨by omega, rfl⟩) R3
    have any := intV_any xs ((l.length : Int) - (i : Int))
    have gI : ∀ t u, Spec w (KP w.params) d J (.call (.builtin "str.__getitem__") ⟨[.str (mkS l) t, .int ((i : Nat) : Int) u], []⟩) [] 0 1 (ceT "str.__getitem__" (mkS [l.getD i 0])).f 0 := fun t u => specGetI (by omega) (by omega) hc
    by_cases hb : (l.length : Int) - (i : Int) ∈ xs.map (·.1)
    · have hany : (intV xs).any (eqI ((l.length : Int) - (i : Int))) = true := by rw [any]; exact decide_eq_true hb
      rcases hD with ⟨h0, rfl⟩ | ⟨h0, rfl⟩
      · have hY : [] ++ [l.getD i 0] = lnP (xs.map (·.1)) l i := by unfold lnP; rw [if_neg (by omega)]
        refine code_front2 (fT_eq w) hA hd rfl hK (Hp := [_, _, _, _, _, _]) (rest := []) Rl (fun u => lc_z0 w.params _ _ _ it acc ma mn L cf cm D i i tT _ _ (mkS l) (mkS [l.getD i 0]) (mkS ([] ++ [l.getD i 0])) (intV xs) _ u) (fun u => okD_of _ _ _ _ ⟨specRN _ hpos, specLenS (x := mkS l) (by rw [hn]; omega), specHas _ (eqI _) (intV_eqs xs _ _) hany, specGtI (decide_eq_false (by omega)), gI _ _, specSAdd (x := []) (by simp), specApS _ hwl, trivial⟩ trivial) fun u s' R' => ⟨rfl, fin _ _ _ _ s' hY R'⟩
      · have hY : [44] ++ [l.getD i 0] = lnP (xs.map (·.1)) l i := by unfold lnP; rw [if_pos ⟨hb, h0⟩]
        refine code_front2 (fT_eq w) hA hd rfl hK (Hp := [_, _, _, _, _, _]) (rest := []) Rl (fun u => lc_y1 w.params _ _ _ it acc ma mn L cf cm D i i tT _ _ (mkS l) (mkS [l.getD i 0]) (mkS ([44] ++ [l.getD i 0])) (intV xs) _ _ _ _ u) (fun u => okD_of _ _ _ _ ⟨specRN _ hpos, specLenS (x := mkS l) (by rw [hn]; omega), specHas _ (eqI _) (intV_eqs xs _ _) hany, specGtI (decide_eq_true (by omega)), gI _ _, specSAdd (x := [44]) (by simp), specApS _ hwl, trivial⟩ trivial) fun u s' R' => ⟨rfl, fin _ _ _ _ s' hY R'⟩
    · have hany : (intV xs).any (eqI ((l.length : Int) - (i : Int))) = false := by rw [any]; exact decide_eq_false hb
      have hY : [] ++ [l.getD i 0] = lnP (xs.map (·.1)) l i := by unfold lnP; rw [if_neg (fun h => hb h.1)]
      rcases hD with ⟨h0, rfl⟩ | ⟨h0, rfl⟩
      · refine code_front2 (fT_eq w) hA hd rfl hK (Hp := [_, _, _, _, _, _]) (rest := []) Rl (fun u => lc_n0 w.params _ _ _ it acc ma mn L cf cm D i i tT _ _ (mkS l) (mkS [l.getD i 0]) (mkS ([] ++ [l.getD i 0])) (intV xs) _ u) (fun u => okD_of _ _ _ _ ⟨specRN _ hpos, specLenS (x := mkS l) (by rw [hn]; omega), specHas _ (eqI _) (intV_eqs xs _ _) hany, gI _ _, specSAdd (x := []) (by simp), specApS _ hwl, trivial⟩ trivial) fun u s' R' => ⟨rfl, fin _ _ _ _ s' hY R'⟩
      · refine code_front2 (fT_eq w) hA hd rfl hK (Hp := [_, _, _, _, _, _]) (rest := []) Rl (fun u => lc_n1 w.params _ _ _ it acc ma mn L cf cm D i i tT _ _ (mkS l) (mkS [l.getD i 0]) (mkS ([] ++ [l.getD i 0])) (intV xs) _ _ _ _ u) (fun u => okD_of _ _ _ _ ⟨specRN _ hpos, specLenS (x := mkS l) (by rw [hn]; omega), specHas _ (eqI _) (intV_eqs xs _ _) hany, gI _ _, specSAdd (x := []) (by simp), specApS _ hwl, trivial⟩ trivial) fun u s' R' => ⟨rfl, fin _ _ _ _ s' hY R'⟩
end
end Mine
end
-- V45
section
open PySem PySem.Spec PySem.Calls PyProof.Rows PySem.W PySem.W.X
namespace Mine
theorem gp82 (t u : Nat) : Gives (Builtin.«int.__pow__» ⟨[.int 8 t, .int 2 u], []⟩) (.int 64) := .of_eq (by rfl)
theorem gp81 (t u : Nat) : Gives (Builtin.«int.__pow__» ⟨[.int 8 t, .int 1 u], []⟩) (.int 8) := .of_eq (by rfl)
theorem gp80 (t u : Nat) : Gives (Builtin.«int.__pow__» ⟨[.int 8 t, .int 0 u], []⟩) (.int 1) := .of_eq (by rfl)
theorem gp22 (t u : Nat) : Gives (Builtin.«int.__pow__» ⟨[.int 2 t, .int 2 u], []⟩) (.int 4) := .of_eq (by rfl)
theorem gp21 (t u : Nat) : Gives (Builtin.«int.__pow__» ⟨[.int 2 t, .int 1 u], []⟩) (.int 2) := .of_eq (by rfl)
theorem gp20 (t u : Nat) : Gives (Builtin.«int.__pow__» ⟨[.int 2 t, .int 0 u], []⟩) (.int 1) := .of_eq (by rfl)
theorem zmod {x k : Int} (hk : 0 < k) : 0 ≤ Z.modQ x k ∧ Z.modQ x k < k := by
  rw [← Z.modQ_eq]
  exact ⟨Int.fmod_nonneg_of_pos x hk, Int.fmod_lt_of_pos x hk⟩
theorem zdiv {x k n : Int} (hk : 0 < k) (h0 : 0 ≤ x) (h1 : x < k * n) : 0 ≤ Z.divQ x k ∧ Z.divQ x k < n := by
  rw [← Z.divQ_eq, Int.fdiv_eq_ediv_of_nonneg _ (by omega)]
  exact ⟨Int.ediv_nonneg h0 (by omega), Int.ediv_lt_of_lt_mul hk (by rw [Int.mul_comm]; exact h1)⟩
noncomputable def pk (l : List Nat) (i : Int) : Nat := l.getD i.toNat 0
theorem pk_some {l : List Nat} {i : Int} (h0 : 0 ≤ i) (h1 : i < (l.length : Int)) : (mkS l).cps[i.toNat]? = some (pk l i) := by
  have hlt : i.toNat < l.length := by omega
  show l.toArray[i.toNat]? = _
  unfold pk
  simp [hlt]
/-- the signs of a due line -/
noncomputable def thZ (m : Int) : Nat → Int
  | 0 => Z.modQ (Z.divQ m 64) 8
  | 1 => Z.modQ (Z.divQ m 8) 8
  | _ => Z.modQ (Z.divQ m 1) 8
noncomputable def muZ (m : Int) : Nat → Int
  | 0 => Z.modQ (Z.divQ (Z.divQ m 512) 4) 2 * 2
  | 1 => Z.modQ (Z.divQ (Z.divQ m 512) 2) 2 * 2
  | _ => Z.modQ (Z.divQ (Z.divQ m 512) 1) 2 * 2
noncomputable def tabN : Nat → List Nat
  | 0 => [45, 120, 83, 115]
  | 1 => [45, 120, 83, 115]
  | _ => [45, 120, 84, 116]
noncomputable def sgX (m : Int) (i : Nat) : Nat := pk [45, 114] (Z.divQ (thZ m i) 4)
noncomputable def sgY (m : Int) (i : Nat) : Nat := pk [45, 119] (Z.modQ (Z.divQ (thZ m i) 2) 2)
noncomputable def sgV (m : Int) (i : Nat) : Nat := pk (tabN i) (Z.modQ (thZ m i) 2 + muZ m i)
noncomputable def sgG (m : Int) (i : Nat) : List Nat := ([sgX m i] ++ [sgY m i]) ++ [sgV m i]
noncomputable def sgD (m : Int) (c : Nat) : Nat → List Nat
  | 0 => [c] ++ sgG m 0
  | 1 => ([c] ++ sgG m 0) ++ sgG m 1
  | _ => (([c] ++ sgG m 0) ++ sgG m 1) ++ sgG m 2
theorem thZ_r (m : Int) (i : Nat) : 0 ≤ thZ m i ∧ thZ m i < 8 := by
  rcases i with _ | _ | i <;> exact zmod (by omega)
theorem muZ_r (m : Int) (i : Nat) : 0 ≤ muZ m i ∧ muZ m i ≤ 2 := by
  rcases i with _ | _ | i
  · have := zmod (x := Z.divQ (Z.divQ m 512) 4) (k := 2) (by omega)
    show 0 ≤ _ * 2 ∧ _ * 2 ≤ 2
    omega
  · have := zmod (x := Z.divQ (Z.divQ m 512) 2) (k := 2) (by omega)
    show 0 ≤ _ * 2 ∧ _ * 2 ≤ 2
    omega
  · have := zmod (x := Z.divQ (Z.divQ m 512) 1) (k := 2) (by omega)
    show 0 ≤ _ * 2 ∧ _ * 2 ≤ 2
    omega
section
variable {w : World} {K : Frag} {J : Nat → Array GenState → Prop} {d : Nat}
theorem specPw {b e v : Int} {t u : Nat} (g : Gives (Builtin.«int.__pow__» ⟨[.int b t, .int e u], []⟩) (.int v)) : Spec w K d J (.call (.builtin "int.__pow__") ⟨[.int b t, .int e u], []⟩) [] 0 1 (ceI "int.__pow__" v).f 0 :=
  spec_gi F.slot_int_pow (fun s => typeIs_int s b t) F.entry_int_pow (F.args_int_pow_2 _ _) g 0
theorem spX {m : Int} {i : Nat} {t u : Nat} : Spec w K d J (.call (.builtin "str.__getitem__") ⟨[.str (mkS [45, 114]) t, .int (Z.divQ (thZ m i) 4) u], []⟩) [] 0 1 (ceT "str.__getitem__" (mkS [sgX m i])).f 0 := by
  have h := zdiv (x := thZ m i) (k := 4) (n := 2) (by omega) (thZ_r m i).1 (by have := (thZ_r m i).2; omega)
  exact specGetI h.1 (by omega) (pk_some h.1 (by show _ < (2 : Int); omega))
theorem spY {m : Int} {i : Nat} {t u : Nat} : Spec w K d J (.call (.builtin "str.__getitem__") ⟨[.str (mkS [45, 119]) t, .int (Z.modQ (Z.divQ (thZ m i) 2) 2) u], []⟩) [] 0 1 (ceT "str.__getitem__" (mkS [sgY m i])).f 0 := by
  have h := zmod (x := Z.divQ (thZ m i) 2) (k := 2) (by omega)
  exact specGetI h.1 (by omega) (pk_some h.1 (by show _ < (2 : Int); omega))
theorem spV {m : Int} {i : Nat} {t u : Nat} : Spec w K d J (.call (.builtin "str.__getitem__") ⟨[.str (mkS (tabN i)) t, .int (Z.modQ (thZ m i) 2 + muZ m i) u], []⟩) [] 0 1 (ceT "str.__getitem__" (mkS [sgV m i])).f 0 := by
  have h := zmod (x := thZ m i) (k := 2) (by omega)
  have h2 := muZ_r m i
  have hl : (tabN i).length = 4 := by rcases i with _ | _ | i <;> rfl
  exact specGetI (by omega) (by omega) (pk_some (by omega) (by rw [hl]; omega))
end
end Mine
end
-- V46
section
open PySem PySem.Spec PySem.Calls PyProof.Rows PySem.W PySem.W.X
namespace Mine
theorem seen111 (P : Params) : FnSeen P 111 110 := ⟨by kernel_rfl!, by kernel_rfl!, by kernel_rfl!, by kernel_rfl!, by kernel_rfl!, by kernel_rfl!, by kernel_rfl!, by kernel_rfl!, by kernel_rfl!⟩
theorem bind111 (P : Params) (v v' v'' : Value) : bindArgs (fd P 111) ⟨[v, v', v''], []⟩ = .pure [(nMode, v), (nSize, v'), (nMarks, v'')] := bind_of (by kernel_rfl!)
theorem ent111 (P : Params) (S : ST) (m s : Int) (tm ts ma : Nat) (o : Obj) (u : Nat → Nat) : trimO [true, true, true, true] (run P (KP P) S 40 c0 none 0 [] (entZ (fd P 111) 111 (bd P 111) [(nMode, .int m tm), (nSize, .int s ts), (nMarks, .ref ma)]) [(ma, o)] 0 (mkU 5 u) 3272089730 [] True) =
  some ⟨.fin (.again (.func (bd P 111) (E111 P (u 0) (u 2) (u 1)))), [(ma, o), (u 0, fro (lE2 (fun i => match i with | 0 => hs P nMode | _ => hs P nSize) (fun i => match i with | 0 => u 3 | _ => u 4) m s tm ts) 2), (u 1, celO (some (.ref ma))), (u 2, celO none)], 0, okD 6 3272089730 [ma, u 0, u 1, u 2] [] True⟩ := by kernel_rfl!
theorem li_body (P : Params) : bd P 111 = [stm P 111 0] ++ ([stm P 111 1] ++ ([stm P 111 2] ++ [stm P 111 3])) := by kernel_rfl!
/-- a due line -/
noncomputable def piecesL (M : List Int) (l : List Nat) : List (List Nat) := (List.range l.length).map (lnP M l)
noncomputable def c0L (m : Int) : Nat := if m < 32768 then 100 else 45
noncomputable def dueL (M : List Int) (m s : Int) : List Nat := (sgD m (c0L m) 2 ++ [32]) ++ (piecesL M (digL s)).flatten
noncomputable def txP : List (List Nat) → List Nat → List (Str × Nat)
  | [], _ => []
  | x :: l, us => (mkS x, us.headD 0) :: txP l us.tail
theorem txP_vals : ∀ (l : List (List Nat)) (us : List Nat), strValues (txP l us) = txts l us
  | [], _ => rfl
  | x :: l, us => by
    show _ :: strValues (txP l us.tail) = _ :: txts l us.tail
    rw [txP_vals l us.tail]
theorem txP_map : ∀ (l : List (List Nat)) (us : List Nat), (txP l us).map (·.1) = l.map mkS
  | [], _ => rfl
  | x :: l, us => by
    show mkS x :: (txP l us.tail).map (·.1) = _
    rw [txP_map l us.tail]; rfl
theorem glue_empty : ∀ (L : List (List Nat)) (acc : Array Nat), (L.map mkS).foldl (fun acc p => acc ++ eS.cps ++ p.cps) acc = ⟨acc.toList ++ L.flatten⟩
  | [], acc => by simp
  | x :: L, acc => by
    rw [List.map_cons, List.foldl_cons, glue_empty L, List.flatten_cons]
    show _ = _
    have : (acc ++ eS.cps ++ (mkS x).cps).toList = acc.toList ++ x := by
      simp [eS, mkS]
    rw [this, List.append_assoc]
theorem join_empty (l : List (List Nat)) (us : List Nat) : joinS eS (txP l us) = mkS l.flatten := by
  rcases l with _ | ⟨x, _ | ⟨y, l⟩⟩
  · rfl
  · show mkS x = mkS [x].flatten
    simp
  · show Builtin.Str.glued eS ((txP (x :: y :: l) us).map (·.1)) = _
    rw [txP_map]
    show Str.mk (((y :: l).map mkS).foldl (fun acc p => acc ++ eS.cps ++ p.cps) (mkS x).cps) = _
    rw [glue_empty]
    rfl
theorem flat_len (l : List (List Nat)) (h : ∀ x ∈ l, x.length ≤ 2) : l.flatten.length ≤ 2 * l.length := by
  induction l with
  | nil => simp
  | cons x l ih =>
    rw [List.flatten_cons, List.length_append, List.length_cons]
    have := h x (.head _)
    have := ih fun y hy => h y (.tail _ hy)
    omega
theorem pieces_len (M : List Int) (l : List Nat) : ∀ x ∈ piecesL M l, x.length ≤ 2 := by
  intro x hx
  obtain ⟨k, _, rfl⟩ := List.mem_map.mp hx
  exact lnP_len M l k
theorem pieces_cnt (M : List Int) (l : List Nat) : (piecesL M l).length = l.length := by unfold piecesL; rw [List.length_map, List.length_range]
section
variable {w : World} {K : Frag} {J : Nat → Array GenState → Prop} {B : Addr → Option Obj} {os : OsState} {dr : Drawn} {d : Nat}
noncomputable def pgL (M : List Int) (l : List Nat) : List Nat → List Value := fun us => txts (piecesL M l) (dec (getU us 8))
noncomputable def vK (l : List Nat) : List Nat → Value := fun us => .int ((l.length : Int) - 1) (getU us 7)
theorem specLC {l : List Nat} {xs : List (Int × Nat)} {it acc ma mn L cf cm D tT : Nat} (m : List Bool) (hd9 : d ≤ 860) (hl : l.length ≤ 7) (h1 : 1 ≤ l.length) (hx : xs.length ≤ 1000) :
    Spec w (KP w.params) d J (.compStart (liC w.params) 0 (.ref it) (.ref acc) (lE w.params L cf cm D))
      [(cf, celO (some (.str (mkS l) tT))), (cm, celO (some (.ref ma))), (ma, lsto (intV xs) mn), (it, ritO 0 (l.length : Int)), (acc, lsto [] 0), (D, dicO [] 0)] 0 3
      ((ceLC w.params m ma mn tT (mkS l) (intV xs) (pgL (xs.map (·.1)) l) l.length (vK l)).g [(cf, celO (some (.str (mkS l) tT))), (cm, celO (some (.ref ma))), (ma, lsto (intV xs) mn), (it, ritO 0 (l.length : Int)), (acc, lsto [] 0), (D, dicO [] 0)]) 0 := by
  refine spec_code fun A B os dr s R hA hK Rl hR => ?_
  have hA' : AOk (d + 16 - 16) A := by rw [Nat.add_sub_cancel]; exact hA
  rw [liC_eq]
  refine codeAny_compStart_list ?_ (wpAny_pyIter_rangeiter (Rl.at (i := 3) rfl) ?_)
  all_goals
    rw [← liC_eq]
    refine lc_loop (d := d + 16) hA' (by omega) hK hl hx (fun kx tv ts s' hts R' => ?_) h1 l.length 0 0 0 [] _ s (by omega) rfl (.inl ⟨rfl, rfl⟩) (Rl.reorder [3, 0, 1, 2, 4, 5] rfl)
    refine hR [kx, tv, enc ts] s' rfl ?_
    show Rel _ _ _ _ [(cf, celO (some (.str (mkS l) tT))), (cm, celO (some (.ref ma))), (ma, lsto (intV xs) mn), (acc, lsto (txts (piecesL (xs.map (·.1)) l) (dec (enc ts))) l.length), (D, dicO [en (hs w.params nK) kx nK (.int ((l.length : Int) - 1) tv)] 1)] 0 s'
    rw [dec_enc]
    exact R'
end
end Mine
end
-- V47
section
open PySem PySem.Spec PySem.Calls PyProof.Rows PySem.W PySem.W.X
namespace Mine
noncomputable def lineF (L : List Nat) (ma : Nat) (o : Obj) : CFn := fun us => (.ok (.ret (.str (mkS L) (getU us 0))), [(ma, o)])
section
variable {w : World} {J : Nat → Array GenState → Prop} {d : Nat}
theorem sgD_len (m : Int) (c : Nat) : (sgD m c 2).length = 10 := rfl
theorem joinOk (l : List (List Nat)) (us : List Nat) (h9 : l.length ≤ 9) (h : ∀ x ∈ l, x.length ≤ 2) : Builtin.Str.tooLong (((txP l us).map (·.1)).toArray.foldl (· + ·.length + eS.length) 0) = false := by
  unfold Builtin.Str.tooLong
  rw [txP_map, List.foldl_toArray]
  have := fold_len eS.length (l.map mkS) 0 (by
    intro x hx
    obtain ⟨y, hy, rfl⟩ := List.mem_map.mp hx
    have := h y hy
    show y.length ≤ 7
    omega)
  rw [List.length_map, show eS.length = 0 from rfl] at this
  rw [show eS.length = 0 from rfl, sizeLine_eq]
  exact decide_eq_false (by omega)
set_option maxHeartbeats 4000000 in
theorem specLine {m s : Int} {tm ts ma mn : Nat} {xs : List (Int × Nat)} (hd9 : d ≤ 840) (hs : 0 ≤ s ∧ s < 10000000) (hx : xs.length ≤ 1000) :
    Spec w (KP w.params) d J (.call (.ref 111) ⟨[.int m tm, .int s ts, .ref ma], []⟩) [(ma, lsto (intV xs) mn)] 0 1 (lineF (dueL (xs.map (·.1)) m s) ma (lsto (intV xs) mn)) 0 := by
  have key : Spec w (KP w.params) (d + 16 - 16) J (.call (.ref 111) ⟨[.int m tm, .int s ts, .ref ma], []⟩) [(ma, lsto (intV xs) mn)] 0 1 (lineF (dueL (xs.map (·.1)) m s) ma (lsto (intV xs) mn)) 0 := by
    refine fn_spec rfl (seen111 _).ok (bind111 _ _ _ _) (by omega) (by omega) (fun u => ent111 w.params _ m s tm ts ma _ u) (fun u => okD_of _ _ _ _ trivial trivial) fun u A B os dr s₁ R hA hK Rl hR => ?_
    have hA' := hA.deeper (by omega) (E111 w.params (u 0) (u 2) (u 1))
    have hd14 : 14 ≤ d + 16 := by omega
    have hl7 : (digL s).length ≤ 7 := (digL_le hs.1 (by omega)).mpr hs.2
    have hl1 := digL_pos hs.1
    refine codeAny_func ?_
    rw [li_body]
    have go : ∀ (h : Nat → Int) (k : Nat → Nat) (t : Nat) s₂, Rel J B os dr ([(u 0, fro (lE3 h k m s tm ts (.str (mkS [c0L m]) t)) 3)] ++ [(ma, lsto (intV xs) mn), (u 1, celO (some (.ref ma))), (u 2, celO none)]) 0 s₂ →
        wpAny (Mo w) (A.deeper (E111 w.params (u 0) (u 2) (u 1))) (execs ([stm w.params 111 1] ++ ([stm w.params 111 2] ++ [stm w.params 111 3])) (E111 w.params (u 0) (u 2) (u 1)))
          (fun f s' => R (.ok (.ret (match f with | .ret v => v | _ => .none))) s') (fun e s' => wpAny (Mo w) (A.deeper (E111 w.params (u 0) (u 2) (u 1))) (leaving (E111 w.params (u 0) (u 2) (u 1)) e) (fun _ s'' => R (.error e) s'') (fun e' s'' => R (.error e') s'') s') s₂ := by
      intro h k t s₂ R₂
      refine execs_app _ _ (flow_front2 (fT_eq w) hA' hd14 hK (Hp := [_]) R₂ (fun v => li_1 w.params _ _ _ (u 0) (u 2) (u 1) tm ts 3 h k m s (mkS [c0L m]) t (muZ m) (fun i => mkS [sgX m i]) (fun i => mkS [sgY m i]) (fun i => mkS ([sgX m i] ++ [sgY m i])) (fun i => mkS [sgV m i]) (fun i => mkS (sgG m i)) (fun i => mkS (sgD m (c0L m) i)) v) (fun v => okD_of _ _ _ _ ⟨specPw (gp82 _ _), specPw (gp22 _ _), specMulI (.of_right (by decide)), spX (m := m) (i := 0), spY (m := m) (i := 0), specSAdd (x := [sgX m 0]) (y := [sgY m 0]) (by simp), spV (m := m) (i := 0), specSAdd (x := [sgX m 0] ++ [sgY m 0]) (y := [sgV m 0]) (by simp), specSAdd (x := [c0L m]) (y := sgG m 0) (by simp [sgG]), specPw (gp81 _ _), specPw (gp21 _ _), specMulI (.of_right (by decide)), spX (m := m) (i := 1), spY (m := m) (i := 1), specSAdd (x := [sgX m 1]) (y := [sgY m 1]) (by simp), spV (m := m) (i := 1), specSAdd (x := [sgX m 1] ++ [sgY m 1]) (y := [sgV m 1]) (by simp), specSAdd (x := [c0L m] ++ sgG m 0) (y := sgG m 1) (by simp [sgG]), specPw (gp80 _ _), specPw (gp20 _ _), specMulI (.of_right (by decide)), spX (m := m) (i := 2), spY (m := m) (i := 2), specSAdd (x := [sgX m 2]) (y := [sgY m 2]) (by simp), spV (m := m) (i := 2), specSAdd (x := [sgX m 2] ++ [sgY m 2]) (y := [sgV m 2]) (by simp), specSAdd (x := ([c0L m] ++ sgG m 0) ++ sgG m 1) (y := sgG m 2) (by simp [sgG]), trivial⟩ trivial) fun v s₃ R₃ => ?_)
      refine execs_app _ _ (flow_front2 (fT_eq w) hA' hd14 hK (Hp := [_, _]) (rest := [_, _]) (R₃.reorder [0, 3, 1, 2] rfl) (fun v2 => li_2 w.params _ _ _ (u 0) (u 2) (u 1) tm ts 6 _ _ _ m s _ _ _ _ (mkS (digL s)) v2) (fun v2 => okD_of _ _ _ _ ⟨specStrI (log_small hs), trivial⟩ trivial) fun v2 s₄ R₄ => ?_)
      have hG2 : (sgD m (c0L m) 2 ++ [32]).length ≤ 1000 := by rw [List.length_append, sgD_len]; simp
      have hfl := flat_len _ (pieces_len (xs.map (·.1)) (digL s))
      rw [pieces_cnt] at hfl
      obtain ⟨h6, k6, tl6, a6, b6, c6, R₄'⟩ : ∃ h k tl a b c, Rel J B os dr ([(u 0, fro (lE6 h k m s tm ts (.str (mkS (sgD m (c0L m) 2)) tl) a b c) 6), (u 2, celO (some (.str (mkS (digL s)) (v2 0)))), (u 1, celO (some (.ref ma))), (ma, lsto (intV xs) mn)] ++ []) 0 s₄ := ⟨_, _, _, _, _, _, R₄.reorder [0, 1, 3, 2] rfl⟩
      have T := fun v3 => li_3 w.params (f1 w) (f2 w) (SP w (KP w.params) (d + 16) J) (u 0) (u 2) (u 1) tm ts 6 tl6 h6 k6 m s (mkS (sgD m (c0L m) 2)) a6 b6 c6 (mkS (digL s)) (v2 0) ma mn (mkS (sgD m (c0L m) 2 ++ [32])) (mkS (piecesL (xs.map (·.1)) (digL s)).flatten) (mkS (dueL (xs.map (·.1)) m s)) ((digL s).length : Int) (intV xs) (pgL (xs.map (·.1)) (digL s)) (digL s).length (vK (digL s)) v3
      refine flow_front2 (fT_eq w) hA' hd14 hK (Hp := [_, _, _, _]) (rest := []) R₄' T (fun v3 => okD_of _ _ _ _ ⟨specSAdd (x := sgD m (c0L m) 2) (y := [32]) hG2, specLenS (x := mkS (digL s)) (by show (digL s).length ≤ _; omega), specRan, specRI _ (by omega), specLC _ (by omega) hl7 hl1 hx, ?_, specSAdd (x := sgD m (c0L m) 2 ++ [32]) (y := (piecesL (xs.map (·.1)) (digL s)).flatten) (by rw [List.length_append, List.length_append, sgD_len]; simp only [List.length_cons, List.length_nil]; omega), trivial⟩ trivial) fun v3 s₅ R₅ => hR [v3 15] s₅ rfl R₅
      have z := specJn (w := w) (K := KP w.params) (J := J) (d := d + 16) 0 eS (v3 2) (v3 9) (digL s).length (txP (piecesL (xs.map (·.1)) (digL s)) (dec (v3 13))) [false, false, false, false, true] (join_empty _ _) (joinOk _ _ (by rw [pieces_cnt]; omega) (pieces_len _ _)) (sizeOk (by show (piecesL (xs.map (·.1)) (digL s)).flatten.length ≤ _; omega))
      rw [txP_vals] at z
      exact z
    by_cases hm : m < 32768
    · have hc : c0L m = 100 := if_pos hm
      refine execs_app _ _ (flow_front2 (fT_eq w) hA' hd14 hK (Hp := [_]) (rest := [_, _, _]) (Rl.reorder [1, 0, 2, 3] rfl) (fun v => li_0t w.params _ _ _ (u 0) (u 2) (u 1) tm ts 2 _ _ m s v) (fun v => okD_of _ _ _ _ ⟨specLtI (decide_eq_true hm), trivial⟩ trivial) fun v s₂ R₂ => go _ _ _ s₂ (hc ▸ R₂))
    · have hc : c0L m = 45 := if_neg hm
      refine execs_app _ _ (flow_front2 (fT_eq w) hA' hd14 hK (Hp := [_]) (rest := [_, _, _]) (Rl.reorder [1, 0, 2, 3] rfl) (fun v => li_0f w.params _ _ _ (u 0) (u 2) (u 1) tm ts 2 _ _ m s v) (fun v => okD_of _ _ _ _ ⟨specLtI (decide_eq_false hm), trivial⟩ trivial) fun v s₂ R₂ => go _ _ _ s₂ (hc ▸ R₂))
  rwa [Nat.add_sub_cancel] at key
end
end Mine
end
-- V48
section
open PySem PySem.Spec PySem.Calls PyProof.Rows PySem.W PySem.W.X
namespace Mine
noncomputable def nAlone : Str := ⟨⟨[97, 108, 111, 110, 101]⟩⟩
noncomputable def E116 (P : Params) (L cA cP cR cM cF : Nat) : Env := envC P 116 L [(nAlone, cA), (nPages, cP), (nRuler, cR), (nMarks, cM), (nFiles, cF)]
noncomputable def duL (P : Params) : Lp := lpOf (bd P 116) 1
noncomputable def duM (P : Params) : Expr := match (duL P).b with | [.Expr e _] => e | _ => dumE
noncomputable def duA (P : Params) : Expr := cl2 (duM P) 0
noncomputable def boL : Expr → Expr
  | .BinOp l _ _ _ => l
  | e => e
noncomputable def caO : Expr → Expr
  | .Call (.Attribute o _ _) _ _ _ => o
  | e => e
noncomputable def duR (P : Params) : Expr := boR (duA P)
noncomputable def duG (P : Params) : Expr := (g1 (lcG (duR P))).iter
noncomputable def ifT : Expr → Expr
  | .IfExp t _ _ _ => t
  | e => e
noncomputable def ifB : Expr → Expr
  | .IfExp _ t _ _ => t
  | e => e
noncomputable def ifE : Expr → Expr
  | .IfExp _ _ t _ => t
  | e => e
noncomputable def cpL : Expr → Expr
  | .Compare l _ _ _ => l
  | e => e
noncomputable def cpR : Expr → Expr
  | .Compare _ _ [r] _ => r
  | e => e
noncomputable def duI (P : Params) : Expr := cl2 (duG P) 1
noncomputable def cmpT (e : Expr) (env : Env) (x : Value) : Sem PySem.Fin := (comprehension e (lcS e) env (firstIterPos (lcG e) (lcP e)) (newList []) false (.pure x)).bind fun v => .pure (.done (.ret v))
noncomputable def ran2 (a b : Int) (t0 t1 t2 : Nat) : Obj := { cls := .type "range", data := .fields ⟨[.int a t0, .int b t1, .int 1 t2]⟩ }

theorem du_0 (P : Params) (b1 b2 : Bool) (S : ST) (L cA cP cR cM cF : Nat)  (u : Nat → Nat) :
    trimO [true, true] (run (ftP P b1 b2) (KP P) S 14 c0 none 0 [] (flowZ [stm P 116 0] (E116 P L cA cP cR cM cF)) [(cM, celO none)] 0 (mkU 1 u) 65 [] True) =
    some ⟨.fin (.done .next), [(cM, celO (some (.ref (u 0)))), (u 0, lsto [] 0)], 0, okD 2 65 [cM, u 0] [] True⟩ := by cases b1 <;> kernel_rfl!
theorem du_e (P : Params) (b1 b2 : Bool) (S : ST) (L cA cP cR cM cF : Nat) (h : Int) (k rls n : Nat) (u : Nat → Nat) :
    trimO [true] (run (ftP P b1 b2) (KP P) S 8 c0 none 0 [] (valZ (duL P).i (E116 P L cA cP cR cM cF)) [(L, fro (rE1 h k rls) n)] 0 (mkU 0 u) 1 [] True) =
    some ⟨.fin (.done (.ret (.ref rls))), [(L, fro (rE1 h k rls) n)], 0, okD 1 1 [L] [] True⟩ := by cases b1 <;> kernel_rfl!
theorem du_it (P : Params) (b1 b2 : Bool) (S : ST) (L cA cP cR cM cF : Nat) (rls ra rb m : Nat) (u : Nat → Nat) :
    trimO [true, true] (run (ftP P b1 b2) (KP P) S 15 c0 none 0 [] (iterZ (.ref rls)) [(rls, lsto [.ref ra, .ref rb] m)] 0 (mkU 1 u) 33816641 [] True) =
    some ⟨.fin (.done (.ret (.ref (u 0)))), [(rls, lsto [(.ref ra), (.ref rb)] m), (u 0, lstIt (.ref rls) 0)], 0, okD 5 33816641 [rls, u 0] [] True⟩ := by cases b1 <;> kernel_rfl!
theorem du_n0 (P : Params) (b1 b2 : Bool) (S : ST) (L cA cP cR cM cF : Nat) (it rls ra rb m : Nat) (u : Nat → Nat) :
    trimO [true, true] (run (ftP P b1 b2) (KP P) S 16 c0 none 0 [] (nextZ (.ref it)) [(it, lstIt (.ref rls) 0), (rls, lsto [.ref ra, .ref rb] m)] 0 (mkU 0 u) 4468930514945 [] True) =
    some ⟨.fin (.done (.ret (.ref ra))), [(it, lstIt (.ref rls) 1), (rls, lsto [(.ref ra), (.ref rb)] m)], 0, okD 8 4468930514945 [it, rls] [] True⟩ := by cases b1 <;> kernel_rfl!
theorem du_n1 (P : Params) (b1 b2 : Bool) (S : ST) (L cA cP cR cM cF : Nat) (it rls ra rb m : Nat) (u : Nat → Nat) :
    trimO [true, true] (run (ftP P b1 b2) (KP P) S 16 c0 none 0 [] (nextZ (.ref it)) [(it, lstIt (.ref rls) 1), (rls, lsto [.ref ra, .ref rb] m)] 0 (mkU 0 u) 4468930514945 [] True) =
    some ⟨.fin (.done (.ret (.ref rb))), [(it, lstIt (.ref rls) 2), (rls, lsto [(.ref ra), (.ref rb)] m)], 0, okD 8 4468930514945 [it, rls] [] True⟩ := by cases b1 <;> kernel_rfl!
theorem du_n2 (P : Params) (b1 b2 : Bool) (S : ST) (L cA cP cR cM cF : Nat) (it rls ra rb m : Nat) (u : Nat → Nat) :
    trimO [false, true] (run (ftP P b1 b2) (KP P) S 21 c0 none 0 [] (nextZ (.ref it)) [(it, lstIt (.ref rls) 2), (rls, lsto [.ref ra, .ref rb] m)] 0 (mkU 2 u) 1130368837357569 [] True) =
    some ⟨.fin (.done .next), [(rls, lsto [(.ref ra), (.ref rb)] m)], 0, okD 9 1130368837357569 [it, rls, u 0, u 1] [] True⟩ := by cases b1 <;> kernel_rfl!
theorem du_a (P : Params) (b1 b2 : Bool) (S : ST) (L cA cP cR cM cF : Nat) (ra : Nat) (x : Option Value) (u : Nat → Nat) :
    trimO [true] (run (ftP P b1 b2) (KP P) S 11 c0 none 0 [] (assZ (duL P).t (E116 P L cA cP cR cM cF) (.ref ra)) [(cR, celO x)] 0 (mkU 0 u) 65 [] True) =
    some ⟨.fin (.done .next), [(cR, celO (some (.ref ra)))], 0, okD 2 65 [cR] [] True⟩ := by cases b1 <;> kernel_rfl!
theorem du_mk (P : Params) (b1 b2 : Bool) (S : ST) (L cA cP cR cM cF : Nat) (mk : Nat) (u : Nat → Nat) :
    trimO [true] (run (ftP P b1 b2) (KP P) S 8 c0 none 0 [] (valZ (caO (duM P)) (E116 P L cA cP cR cM cF)) [(cM, celO (some (.ref mk)))] 0 (mkU 0 u) 1 [] True) =
    some ⟨.fin (.done (.ret (.ref mk))), [(cM, celO (some (.ref mk)))], 0, okD 1 1 [cM] [] True⟩ := by cases b1 <;> kernel_rfl!
theorem du_rg (P : Params) (b1 b2 : Bool) (S : ST) (L cA cP cR cM cF : Nat)  (u : Nat → Nat) :
    trimO [] (run (ftP P b1 b2) (KP P) S 9 c0 none 0 [] (valZ (.Name (clN (duG P)) (clP (duG P))) (E116 P L cA cP cR cM cF)) [] 0 (mkU 0 u) 0 [] True) =
    some ⟨.fin (.done (.ret (.type "range"))), [], 0, okD 2 0 [] [] True⟩ := by cases b1 <;> kernel_rfl!
theorem du_c1 (P : Params) (b1 b2 : Bool) (S : ST) (L cA cP cR cM cF : Nat)  (u : Nat → Nat) :
    trimO [] (run (ftP P b1 b2) (KP P) S 7 c0 none 0 [] (valZ (cl2 (duG P) 0) (E116 P L cA cP cR cM cF)) [] 0 (mkU 1 u) 0 [] True) =
    some ⟨.fin (.done (.ret (.int 1 (u 0)))), [], 0, okD 0 0 [] [] True⟩ := by cases b1 <;> kernel_rfl!
theorem du_z (P : Params) (b1 b2 : Bool) (S : ST) (L cA cP cR cM cF : Nat)  (u : Nat → Nat) :
    trimO [true] (run (ftP P b1 b2) (KP P) S 9 c0 none 0 [] (valZ (cpR (ifT (duI P))) (E116 P L cA cP cR cM cF)) [] 0 (mkU 2 u) 0 [] True) =
    some ⟨.fin (.done (.ret (.ref (u 1)))), [(u 1, lsto [(.int 0 (u 0))] 0)], 0, okD 0 0 [u 1] [] True⟩ := by cases b1 <;> kernel_rfl!
theorem du_9 (P : Params) (b1 b2 : Bool) (S : ST) (L cA cP cR cM cF : Nat)  (u : Nat → Nat) :
    trimO [] (run (ftP P b1 b2) (KP P) S 7 c0 none 0 [] (valZ (ifB (duI P)) (E116 P L cA cP cR cM cF)) [] 0 (mkU 1 u) 0 [] True) =
    some ⟨.fin (.done (.ret (.int 9 (u 0)))), [], 0, okD 0 0 [] [] True⟩ := by cases b1 <;> kernel_rfl!
theorem du_2 (P : Params) (b1 b2 : Bool) (S : ST) (L cA cP cR cM cF : Nat)  (u : Nat → Nat) :
    trimO [] (run (ftP P b1 b2) (KP P) S 7 c0 none 0 [] (valZ (ifE (duI P)) (E116 P L cA cP cR cM cF)) [] 0 (mkU 1 u) 0 [] True) =
    some ⟨.fin (.done (.ret (.int 2 (u 0)))), [], 0, okD 0 0 [] [] True⟩ := by cases b1 <;> kernel_rfl!
theorem du_l0 (P : Params) (b1 b2 : Bool) (S : ST) (L cA cP cR cM cF : Nat) (r rn : Nat) (a b : Int) (t : Nat → Nat) (u : Nat → Nat) :
    trimO [true, true, true] (run (ftP P b1 b2) (KP P) S 20 c0 none 0 [] (valZ (boL (duA P)) (E116 P L cA cP cR cM cF)) [(cR, celO (some (.ref r))), (r, lsto (rulV a b 0 t) rn)] 0 (mkU 2 u) 139586969729 [] True) =
    some ⟨.fin (.done (.ret (.ref (u 1)))), [(cR, celO (some (.ref r))), (r, lsto (rulV a b 0 t) rn), (u 1, lsto [(.int a (t 2))] 0)], 0, okD 7 139586969729 [cR, r, u 1] [] True⟩ := by cases b1 <;> kernel_rfl!
theorem du_s0 (P : Params) (b1 b2 : Bool) (S : ST) (L cA cP cR cM cF : Nat) (r rn : Nat) (a b : Int) (t : Nat → Nat) (u : Nat → Nat) :
    trimO [true, true, false, true] (run (ftP P b1 b2) (KP P) S 26 c0 none 0 [] (valZ (cpL (ifT (duI P))) (E116 P L cA cP cR cM cF)) [(cR, celO (some (.ref r))), (r, lsto (rulV a b 0 t) rn)] 0 (mkU 3 u) 151087618126401511553 [] True) =
    some ⟨.fin (.done (.ret (.ref (u 2)))), [(cR, celO (some (.ref r))), (r, lsto (rulV a b 0 t) rn), (u 2, lsto [(.int 0 (t 0))] 0)], 0, okD 12 151087618126401511553 [cR, r, u 1, u 2] [] True⟩ := by cases b1 <;> kernel_rfl!
theorem du_c0t (P : Params) (b1 : Bool) (S : ST) (L cA cP cR cM cF : Nat) (r rn : Nat) (a b : Int) (t : Nat → Nat) (rg t1 t2 t3 : Nat) (M : Nat → Int) (u : Nat → Nat) :
    trimO [false, true, true, false, true] (run (ftP P b1 true) (KP P) S 540 c0 none 0 [] (cmpT (duR P) (E116 P L cA cP cR cM cF) (.ref rg)) [(rg, ran2 1 9 t1 t2 t3), (cR, celO (some (.ref r))), (r, lsto (rulV a b 0 t) rn)] 0 (mkU 53 u) 377731901783183070918011204940995116332404704527665938460365251927764355248148353639008125393362818423034155412808981478545325403414546571532478157276050928057302643222680721301094601366380381904055860771023399758250985109972017214058644207551528037622361779165194984057144598898852278461369158614667062134255983925042954045279737262494045871966047415344026854641455879672623994795996009758675524856779705296434471268541559212065790412881875947095495338145778831926845702865546399782735989037216943261504126949449240726995009 [ceI "int.__mul__" (M 0), ceI "int.__mul__" (M 1), ceI "int.__mul__" (M 2), ceI "int.__mul__" (M 3), ceI "int.__mul__" (M 4), ceI "int.__mul__" (M 5), ceI "int.__mul__" (M 6), ceI "int.__mul__" (M 7)] True) =
    some ⟨.fin (.done (.ret (.ref (u 1)))), [(cR, celO (some (.ref r))), (r, lsto (rulV a b 0 t) rn), (u 1, lsto [(.int (a + M 0) (u 8)), (.int (a + M 1) (u 14)), (.int (a + M 2) (u 20)), (.int (a + M 3) (u 26)), (.int (a + M 4) (u 32)), (.int (a + M 5) (u 38)), (.int (a + M 6) (u 44)), (.int (a + M 7) (u 50))] 8)], 0, okD 291 377731901783183070918011204940995116332404704527665938460365251927764355248148353639008125393362818423034155412808981478545325403414546571532478157276050928057302643222680721301094601366380381904055860771023399758250985109972017214058644207551528037622361779165194984057144598898852278461369158614667062134255983925042954045279737262494045871966047415344026854641455879672623994795996009758675524856779705296434471268541559212065790412881875947095495338145778831926845702865546399782735989037216943261504126949449240726995009 [rg, cR, r, u 0, u 1, u 2, u 51, u 52] [(S (.call (.builtin "int.__mul__") ⟨[(.int b (t 3)), (.int 1 (u 3))], []⟩) [] 0 (ceI "int.__mul__" (M 0)).n (ceI "int.__mul__" (M 0)).f (ceI "int.__mul__" (M 0)).j, id), (S (.call (.builtin "int.__mul__") ⟨[(.int b (t 3)), (.int 2 (u 9))], []⟩) [] 0 (ceI "int.__mul__" (M 1)).n (ceI "int.__mul__" (M 1)).f (ceI "int.__mul__" (M 1)).j, id), (S (.call (.builtin "int.__mul__") ⟨[(.int b (t 3)), (.int 3 (u 15))], []⟩) [] 0 (ceI "int.__mul__" (M 2)).n (ceI "int.__mul__" (M 2)).f (ceI "int.__mul__" (M 2)).j, id), (S (.call (.builtin "int.__mul__") ⟨[(.int b (t 3)), (.int 4 (u 21))], []⟩) [] 0 (ceI "int.__mul__" (M 3)).n (ceI "int.__mul__" (M 3)).f (ceI "int.__mul__" (M 3)).j, id), (S (.call (.builtin "int.__mul__") ⟨[(.int b (t 3)), (.int 5 (u 27))], []⟩) [] 0 (ceI "int.__mul__" (M 4)).n (ceI "int.__mul__" (M 4)).f (ceI "int.__mul__" (M 4)).j, id), (S (.call (.builtin "int.__mul__") ⟨[(.int b (t 3)), (.int 6 (u 33))], []⟩) [] 0 (ceI "int.__mul__" (M 5)).n (ceI "int.__mul__" (M 5)).f (ceI "int.__mul__" (M 5)).j, id), (S (.call (.builtin "int.__mul__") ⟨[(.int b (t 3)), (.int 7 (u 39))], []⟩) [] 0 (ceI "int.__mul__" (M 6)).n (ceI "int.__mul__" (M 6)).f (ceI "int.__mul__" (M 6)).j, id), (S (.call (.builtin "int.__mul__") ⟨[(.int b (t 3)), (.int 8 (u 45))], []⟩) [] 0 (ceI "int.__mul__" (M 7)).n (ceI "int.__mul__" (M 7)).f (ceI "int.__mul__" (M 7)).j, id)] True⟩ := by cases b1 <;> kernel_rfl!
theorem du_c0f (P : Params) (b1 : Bool) (S : ST) (L cA cP cR cM cF : Nat) (r rn : Nat) (a b : Int) (t : Nat → Nat) (rg t1 t2 t3 : Nat) (M : Nat → Int) (u : Nat → Nat) :
    trimO [false, true, true, false, true] (run (ftP P b1 false) (KP P) S 550 c0 none 0 [] (cmpT (duR P) (E116 P L cA cP cR cM cF) (.ref rg)) [(rg, ran2 1 9 t1 t2 t3), (cR, celO (some (.ref r))), (r, lsto (rulV a b 0 t) rn)] 0 (mkU 53 u) 405586541203663843093426705645781908585848417745717083225104337311137215046330785858945622110690110147329497647248988736355474565335871063850229571833745795009140916653942435859472970467690163543477532942168711603105571801778194352382727074383412289103775359948721659497169361853402036981666433908257924448757353062590300754926843678471123603704494217821980982407699702255207811038419263415002057883875979531176009876359407608167524605929498575976044666564145340893720739561413818059348144579265324541311950255438039078800867914416193 [ceI "int.__mul__" (M 0), ceI "int.__mul__" (M 1), ceI "int.__mul__" (M 2), ceI "int.__mul__" (M 3), ceI "int.__mul__" (M 4), ceI "int.__mul__" (M 5), ceI "int.__mul__" (M 6), ceI "int.__mul__" (M 7)] True) =
    some ⟨.fin (.done (.ret (.ref (u 1)))), [(cR, celO (some (.ref r))), (r, lsto (rulV a b 0 t) rn), (u 1, lsto [(.int (a + M 0) (u 8)), (.int (a + M 1) (u 14)), (.int (a + M 2) (u 20)), (.int (a + M 3) (u 26)), (.int (a + M 4) (u 32)), (.int (a + M 5) (u 38)), (.int (a + M 6) (u 44)), (.int (a + M 7) (u 50))] 8)], 0, okD 296 405586541203663843093426705645781908585848417745717083225104337311137215046330785858945622110690110147329497647248988736355474565335871063850229571833745795009140916653942435859472970467690163543477532942168711603105571801778194352382727074383412289103775359948721659497169361853402036981666433908257924448757353062590300754926843678471123603704494217821980982407699702255207811038419263415002057883875979531176009876359407608167524605929498575976044666564145340893720739561413818059348144579265324541311950255438039078800867914416193 [rg, cR, r, u 0, u 1, u 2, u 51, u 52] [(S (.call (.builtin "int.__mul__") ⟨[(.int b (t 3)), (.int 1 (u 3))], []⟩) [] 0 (ceI "int.__mul__" (M 0)).n (ceI "int.__mul__" (M 0)).f (ceI "int.__mul__" (M 0)).j, id), (S (.call (.builtin "int.__mul__") ⟨[(.int b (t 3)), (.int 2 (u 9))], []⟩) [] 0 (ceI "int.__mul__" (M 1)).n (ceI "int.__mul__" (M 1)).f (ceI "int.__mul__" (M 1)).j, id), (S (.call (.builtin "int.__mul__") ⟨[(.int b (t 3)), (.int 3 (u 15))], []⟩) [] 0 (ceI "int.__mul__" (M 2)).n (ceI "int.__mul__" (M 2)).f (ceI "int.__mul__" (M 2)).j, id), (S (.call (.builtin "int.__mul__") ⟨[(.int b (t 3)), (.int 4 (u 21))], []⟩) [] 0 (ceI "int.__mul__" (M 3)).n (ceI "int.__mul__" (M 3)).f (ceI "int.__mul__" (M 3)).j, id), (S (.call (.builtin "int.__mul__") ⟨[(.int b (t 3)), (.int 5 (u 27))], []⟩) [] 0 (ceI "int.__mul__" (M 4)).n (ceI "int.__mul__" (M 4)).f (ceI "int.__mul__" (M 4)).j, id), (S (.call (.builtin "int.__mul__") ⟨[(.int b (t 3)), (.int 6 (u 33))], []⟩) [] 0 (ceI "int.__mul__" (M 5)).n (ceI "int.__mul__" (M 5)).f (ceI "int.__mul__" (M 5)).j, id), (S (.call (.builtin "int.__mul__") ⟨[(.int b (t 3)), (.int 7 (u 39))], []⟩) [] 0 (ceI "int.__mul__" (M 6)).n (ceI "int.__mul__" (M 6)).f (ceI "int.__mul__" (M 6)).j, id), (S (.call (.builtin "int.__mul__") ⟨[(.int b (t 3)), (.int 8 (u 45))], []⟩) [] 0 (ceI "int.__mul__" (M 7)).n (ceI "int.__mul__" (M 7)).f (ceI "int.__mul__" (M 7)).j, id)] True⟩ := by cases b1 <;> kernel_rfl!
theorem du_l1 (P : Params) (b1 b2 : Bool) (S : ST) (L cA cP cR cM cF : Nat) (r rn : Nat) (a b : Int) (t : Nat → Nat) (u : Nat → Nat) :
    trimO [true, true, true] (run (ftP P b1 b2) (KP P) S 20 c0 none 0 [] (valZ (boL (duA P)) (E116 P L cA cP cR cM cF)) [(cR, celO (some (.ref r))), (r, lsto (rulV a b 1 t) rn)] 0 (mkU 2 u) 139586969729 [] True) =
    some ⟨.fin (.done (.ret (.ref (u 1)))), [(cR, celO (some (.ref r))), (r, lsto (rulV a b 1 t) rn), (u 1, lsto [(.int a (t 2))] 0)], 0, okD 7 139586969729 [cR, r, u 1] [] True⟩ := by cases b1 <;> kernel_rfl!
theorem du_s1 (P : Params) (b1 b2 : Bool) (S : ST) (L cA cP cR cM cF : Nat) (r rn : Nat) (a b : Int) (t : Nat → Nat) (u : Nat → Nat) :
    trimO [true, true, false, true] (run (ftP P b1 b2) (KP P) S 26 c0 none 0 [] (valZ (cpL (ifT (duI P))) (E116 P L cA cP cR cM cF)) [(cR, celO (some (.ref r))), (r, lsto (rulV a b 1 t) rn)] 0 (mkU 3 u) 151087618126401511553 [] True) =
    some ⟨.fin (.done (.ret (.ref (u 2)))), [(cR, celO (some (.ref r))), (r, lsto (rulV a b 1 t) rn), (u 2, lsto [(.int 127 (t 0)), (.int 2 (t 1))] 0)], 0, okD 12 151087618126401511553 [cR, r, u 1, u 2] [] True⟩ := by cases b1 <;> kernel_rfl!
theorem du_c1t (P : Params) (b1 : Bool) (S : ST) (L cA cP cR cM cF : Nat) (r rn : Nat) (a b : Int) (t : Nat → Nat) (rg t1 t2 t3 : Nat) (M : Nat → Int) (u : Nat → Nat) :
    trimO [false, true, true, false, true] (run (ftP P b1 true) (KP P) S 106 c0 none 0 [] (cmpT (duR P) (E116 P L cA cP cR cM cF) (.ref rg)) [(rg, ran2 1 2 t1 t2 t3), (cR, celO (some (.ref r))), (r, lsto (rulV a b 1 t) rn)] 0 (mkU 11 u) 50856896835532727018146540412038088368703773548681931943962195020204315429938233621747633225793 [ceI "int.__mul__" (M 0)] True) =
    some ⟨.fin (.done (.ret (.ref (u 1)))), [(cR, celO (some (.ref r))), (r, lsto (rulV a b 1 t) rn), (u 1, lsto [(.int (a + M 0) (u 8))] 1)], 0, okD 53 50856896835532727018146540412038088368703773548681931943962195020204315429938233621747633225793 [rg, cR, r, u 0, u 1, u 2, u 9, u 10] [(S (.call (.builtin "int.__mul__") ⟨[(.int b (t 3)), (.int 1 (u 3))], []⟩) [] 0 (ceI "int.__mul__" (M 0)).n (ceI "int.__mul__" (M 0)).f (ceI "int.__mul__" (M 0)).j, id)] True⟩ := by cases b1 <;> kernel_rfl!
theorem du_c1f (P : Params) (b1 : Bool) (S : ST) (L cA cP cR cM cF : Nat) (r rn : Nat) (a b : Int) (t : Nat → Nat) (rg t1 t2 t3 : Nat) (M : Nat → Int) (u : Nat → Nat) :
    trimO [false, true, true, false, true] (run (ftP P b1 false) (KP P) S 116 c0 none 0 [] (cmpT (duR P) (E116 P L cA cP cR cM cF) (.ref rg)) [(rg, ran2 1 2 t1 t2 t3), (cR, celO (some (.ref r))), (r, lsto (rulV a b 1 t) rn)] 0 (mkU 11 u) 54607177171164738320158747401311488562485174325844690401353833068037898502413224385208974949706891526209 [ceI "int.__mul__" (M 0)] True) =
    some ⟨.fin (.done (.ret (.ref (u 1)))), [(cR, celO (some (.ref r))), (r, lsto (rulV a b 1 t) rn), (u 1, lsto [(.int (a + M 0) (u 8))] 1)], 0, okD 58 54607177171164738320158747401311488562485174325844690401353833068037898502413224385208974949706891526209 [rg, cR, r, u 0, u 1, u 2, u 9, u 10] [(S (.call (.builtin "int.__mul__") ⟨[(.int b (t 3)), (.int 1 (u 3))], []⟩) [] 0 (ceI "int.__mul__" (M 0)).n (ceI "int.__mul__" (M 0)).f (ceI "int.__mul__" (M 0)).j, id)] True⟩ := by cases b1 <;> kernel_rfl!
theorem du_l2 (P : Params) (b1 b2 : Bool) (S : ST) (L cA cP cR cM cF : Nat) (r rn : Nat) (a b : Int) (t : Nat → Nat) (u : Nat → Nat) :
    trimO [true, true, true] (run (ftP P b1 b2) (KP P) S 20 c0 none 0 [] (valZ (boL (duA P)) (E116 P L cA cP cR cM cF)) [(cR, celO (some (.ref r))), (r, lsto (rulV a b 2 t) rn)] 0 (mkU 2 u) 139586969729 [] True) =
    some ⟨.fin (.done (.ret (.ref (u 1)))), [(cR, celO (some (.ref r))), (r, lsto (rulV a b 2 t) rn), (u 1, lsto [(.int a (t 2))] 0)], 0, okD 7 139586969729 [cR, r, u 1] [] True⟩ := by cases b1 <;> kernel_rfl!
theorem du_s2 (P : Params) (b1 b2 : Bool) (S : ST) (L cA cP cR cM cF : Nat) (r rn : Nat) (a b : Int) (t : Nat → Nat) (u : Nat → Nat) :
    trimO [true, true, false, true] (run (ftP P b1 b2) (KP P) S 26 c0 none 0 [] (valZ (cpL (ifT (duI P))) (E116 P L cA cP cR cM cF)) [(cR, celO (some (.ref r))), (r, lsto (rulV a b 2 t) rn)] 0 (mkU 3 u) 151087618126401511553 [] True) =
    some ⟨.fin (.done (.ret (.ref (u 2)))), [(cR, celO (some (.ref r))), (r, lsto (rulV a b 2 t) rn), (u 2, lsto [] 0)], 0, okD 12 151087618126401511553 [cR, r, u 1, u 2] [] True⟩ := by cases b1 <;> kernel_rfl!
theorem du_c2t (P : Params) (b1 : Bool) (S : ST) (L cA cP cR cM cF : Nat) (r rn : Nat) (a b : Int) (t : Nat → Nat) (rg t1 t2 t3 : Nat) (M : Nat → Int) (u : Nat → Nat) :
    trimO [false, true, true, false, true] (run (ftP P b1 true) (KP P) S 106 c0 none 0 [] (cmpT (duR P) (E116 P L cA cP cR cM cF) (.ref rg)) [(rg, ran2 1 2 t1 t2 t3), (cR, celO (some (.ref r))), (r, lsto (rulV a b 2 t) rn)] 0 (mkU 11 u) 50856896835532727018146540412038088368703773548681931943962195020204315429938233621747633225793 [ceI "int.__mul__" (M 0)] True) =
    some ⟨.fin (.done (.ret (.ref (u 1)))), [(cR, celO (some (.ref r))), (r, lsto (rulV a b 2 t) rn), (u 1, lsto [(.int (a + M 0) (u 8))] 1)], 0, okD 53 50856896835532727018146540412038088368703773548681931943962195020204315429938233621747633225793 [rg, cR, r, u 0, u 1, u 2, u 9, u 10] [(S (.call (.builtin "int.__mul__") ⟨[(.int b (t 3)), (.int 1 (u 3))], []⟩) [] 0 (ceI "int.__mul__" (M 0)).n (ceI "int.__mul__" (M 0)).f (ceI "int.__mul__" (M 0)).j, id)] True⟩ := by cases b1 <;> kernel_rfl!
theorem du_c2f (P : Params) (b1 : Bool) (S : ST) (L cA cP cR cM cF : Nat) (r rn : Nat) (a b : Int) (t : Nat → Nat) (rg t1 t2 t3 : Nat) (M : Nat → Int) (u : Nat → Nat) :
    trimO [false, true, true, false, true] (run (ftP P b1 false) (KP P) S 116 c0 none 0 [] (cmpT (duR P) (E116 P L cA cP cR cM cF) (.ref rg)) [(rg, ran2 1 2 t1 t2 t3), (cR, celO (some (.ref r))), (r, lsto (rulV a b 2 t) rn)] 0 (mkU 11 u) 54607177171164738320158747401311488562485174325844690401353833068037898502413224385208974949706891526209 [ceI "int.__mul__" (M 0)] True) =
    some ⟨.fin (.done (.ret (.ref (u 1)))), [(cR, celO (some (.ref r))), (r, lsto (rulV a b 2 t) rn), (u 1, lsto [(.int (a + M 0) (u 8))] 1)], 0, okD 58 54607177171164738320158747401311488562485174325844690401353833068037898502413224385208974949706891526209 [rg, cR, r, u 0, u 1, u 2, u 9, u 10] [(S (.call (.builtin "int.__mul__") ⟨[(.int b (t 3)), (.int 1 (u 3))], []⟩) [] 0 (ceI "int.__mul__" (M 0)).n (ceI "int.__mul__" (M 0)).f (ceI "int.__mul__" (M 0)).j, id)] True⟩ := by cases b1 <;> kernel_rfl!

end Mine
end
-- V49
section
open PySem PySem.Spec PySem.Calls PyProof.Rows PySem.W PySem.W.X
namespace Mine
noncomputable def exP : List Stmt → Pos
  | [.Expr _ p] => p
  | _ => default
noncomputable def caP : Expr → Pos
  | .Call (.Attribute _ _ p) _ _ _ => p
  | _ => default
noncomputable def boP : Expr → Pos
  | .BinOp _ _ _ p => p
  | _ => default
noncomputable def ifP : Expr → Pos
  | .IfExp _ _ _ p => p
  | _ => default
noncomputable def cpP : Expr → Pos
  | .Compare _ _ _ p => p
  | _ => default
theorem du_b (P : Params) : (duL P).b = [.Expr (duM P) (exP (duL P).b)] := by kernel_rfl!
theorem du_M (P : Params) : duM P = .Call (.Attribute (caO (duM P)) (Str.ofString "append") (caP (duM P))) [duA P] [] (clQ (duM P)) := by kernel_rfl!
theorem du_O (P : Params) : caO (duM P) = .Name (nmI (caO (duM P))) (nmP (caO (duM P))) := by kernel_rfl!
theorem du_line (P : Params) : ((caP (duM P)).endLine == (clQ (duM P)).line) = true := by kernel_rfl!
theorem du_star (P : Params) (env : Env) : backTo (clQ (duM P)) (starEach [duA P] env) = [(false, eval (duA P) env)] := by kernel_rfl!
theorem du_A (P : Params) : duA P = .BinOp (boL (duA P)) .Add (duR P) (boP (duA P)) := by kernel_rfl!
theorem du_R (P : Params) : duR P = .ListComp (lcE (duR P)) (lcG (duR P)) (lcS (duR P)) (lcP (duR P)) := by kernel_rfl!
theorem du_first (P : Params) (env : Env) : firstIter (lcG (duR P)) env = eval (duG P) env := by kernel_rfl!
theorem du_async (P : Params) : firstAsync (lcG (duR P)) = false := by kernel_rfl!
theorem du_G (P : Params) : duG P = .Call (.Name (clN (duG P)) (clP (duG P))) [cl2 (duG P) 0, duI P] [] (clQ (duG P)) := by kernel_rfl!
theorem du_gs (P : Params) (env : Env) : backTo (clQ (duG P)) (starEach [cl2 (duG P) 0, duI P] env) = [(false, eval (cl2 (duG P) 0) env), (false, eval (duI P) env)] := by kernel_rfl!
theorem du_I (P : Params) : duI P = .IfExp (ifT (duI P)) (ifB (duI P)) (ifE (duI P)) (ifP (duI P)) := by kernel_rfl!
theorem du_T (P : Params) : ifT (duI P) = .Compare (cpL (ifT (duI P))) [.Eq] [cpR (ifT (duI P))] (cpP (ifT (duI P))) := by kernel_rfl!
theorem du_mark (P : Params) : behindInMarks .Eq (cpR (ifT (duI P))) = false := by kernel_rfl!
theorem du_inter (P : Params) (L cA cP cR cM cF : Nat) : interactive (E116 P L cA cP cR cM cF) = false := by kernel_rfl!
theorem du_swap (P : Params) (L cA cP cR cM cF : Nat) : swapsWith (duM P) none (exP (duL P).b).line (E116 P L cA cP cR cM cF) = pure false := by kernel_rfl!
theorem comp_first {M : Model} {A : Around} {e : Expr} {scope : Scope} {env : Env} {pos : Pos} {newAcc first : Sem Value} {Q : Value → Shared → Prop} {E : Value → Shared → Prop} {s : Shared}
    (h : wpAny M A first (fun x s₁ => wpAny M A (comprehension e scope env pos newAcc false (.pure x)) Q E s₁) E s) : wpAny M A (comprehension e scope env pos newAcc false first) Q E s := by
  unfold comprehension at h ⊢
  exact wpAny_bind h
/-- a ruler's marks -/
noncomputable def marksI (a b : Int) : Nat → List Int
  | 0 => [a, a + b * 1, a + b * 2, a + b * 3, a + b * 4, a + b * 5, a + b * 6, a + b * 7, a + b * 8]
  | _ => [a, a + b * 1]
noncomputable def mulI (b : Int) (i : Nat) : Int := b * ((i + 1 : Nat) : Int)
section
variable {w : World} {K : Frag} {J : Nat → Array GenState → Prop} {B : Addr → Option Obj} {os : OsState} {dr : Drawn} {d : Nat} {A : Around}
theorem truthy_b {M : Model} {b : Bool} {Q : Bool → Shared → Prop} {E : Value → Shared → Prop} {s : Shared} (h : Q b s) : wpAny M A (truthy (.bool b)) Q E s := wpAny_truthy_bool h
end
end Mine
end
-- V50
section
open PySem PySem.Spec PySem.Calls PyProof.Rows PySem.W PySem.W.X
namespace Mine
section
variable {w : World} {K : Frag} {J : Nat → Array GenState → Prop} {B : Addr → Option Obj} {os : OsState} {dr : Drawn} {d : Nat} {A : Around}
/-- choose and order the entries in front, drop the others of them -/
theorem Rel.sel {H T : List Ent} {j : Nat} {s : Shared} (R : Rel J B os dr (H ++ T) j s) (ix jx : List Nat) (h : (ix ++ jx).isPerm (List.range H.length) = true) : Rel J B os dr (pickL H ix ++ T) j s := by
  have p := (List.isPerm_iff.mp h).symm.map fun i => (getI H i).getD (0, default)
  rw [← pickL_map, pickL_range, List.map_append, ← pickL_map, ← pickL_map] at p
  have R1 := R.perm (p.append_right T)
  have R2 := R1.perm (show List.Perm _ ((pickL H ix ++ T) ++ pickL H jx) from by
    rw [List.append_assoc, List.append_assoc]
    exact List.Perm.append_left _ List.perm_append_comm)
  exact Rel.front R2
theorem sizeLe {ms : List Value} (h : ms.length ≤ 10) : (⟨ms⟩ : Array Value).size ≤ sizeLine := Nat.le_trans h (by decide)
theorem Rel.newF {H : List Ent} {j : Nat} {s : Shared} (R : Rel J B os dr H j s) {o : Obj} (hf : o.isFreed = false) (tk : Nat) : Rel J B os dr ((s.heap.objs.size, o) :: H) j { s with heap := s.heap.push o, toks := tk } := by
  have R1 := R.alloc hf
  rw [snoc_eq] at R1
  have R2 := R1.perm (List.perm_append_singleton _ _)
  exact ⟨⟨R2.own.keep, R2.own.own, R2.own.nd⟩, R2.os, R2.dr, R2.gh⟩
theorem cmp_h {P : Params} (hP : P = w.params) {hv : Option Value} {e : Expr} {env : Env} {x : Value} {Q : Value → Shared → Prop} {E : Value → Shared → Prop} {Hp rest : List Ent} {j ct n L : Nat} {ces : List CE} {s : Shared} {m : List Bool} (hA : A.handled = hv) (hA1 : A.depth + 14 ≤ d) (hA2 : A.units + 42 ≤ 3 * d) (hK : KIn K B) (R : Rel J B os dr (Hp ++ rest) j s)
    (h : ∀ u, ∃ v Hn j' ok, trimO m (run P K (SP w K d J) n c0 hv 0 [] (cmpT e env x) Hp j (mkU L u) ct ces True) = some ⟨.fin (.done (.ret v)), Hn, j', ok⟩ ∧ ok ∧ ∀ s', Rel J B os dr (Hn ++ rest) j' s' → Q v s') : wpAny (Mo w) A (comprehension e (lcS e) env (firstIterPos (lcG e) (lcP e)) (newList []) false (.pure x)) Q E s := by
  have z : wpAny (Mo w) A (cmpT e env x) (fun fin s' => match fin with | .done (.ret v) => Q v s' | _ => False) E s :=
    tree_h hP hA hA1 hA2 hK R (m := m) (L := L) (ct := ct) (n := n) (ces := ces) fun u => by
      obtain ⟨v, Hn, j', ok, h1, h2, h3⟩ := h u
      exact ⟨_, Hn, j', ok, h1, h2, h3⟩
  unfold cmpT at z
  exact wpAny_unbind (g := fun v => PySem.Fin.done (.ret v)) z
theorem mulS {b : Int} {i : Nat} {t u : Nat} (hi : i ≤ 8) : Spec w K d J (.call (.builtin "int.__mul__") ⟨[.int b t, .int ((i + 1 : Nat) : Int) u], []⟩) [] 0 1 (ceI "int.__mul__" (mulI b i)).f 0 :=
  specMulI (.of_right (intBits_le_64 (by omega) (by omega)))


set_option maxHeartbeats 2000000 in
theorem du_body0 {L cA cP cR cM cF mk q r rn : Nat} {ms : List Value} {a b : Int} {t : Nat → Nat} {rest : List Ent} {s : Shared} {Q : Flow → Shared → Prop} {E : Value → Shared → Prop}
    (hA' : AOk (d - 14) A) (hd14 : 14 ≤ d) (hd9 : d ≤ 860) (hK : KIn (KP w.params) B) (hms : ms.length ≤ 10)
    (R : Rel J B os dr ((cM, celO (some (.ref mk))) :: (mk, lsto ms q) :: (cR, celO (some (.ref r))) :: (r, lsto (rulV a b 0 t) rn) :: rest) 0 s)
    (hQ : ∀ m xs s', xs.map (·.1) = marksI a b 0 → Rel J B os dr ((cM, celO (some (.ref mk))) :: (mk, lsto (ms ++ [.ref m]) (q + 1)) :: (cR, celO (some (.ref r))) :: (r, lsto (rulV a b 0 t) rn) :: (m, lsto (intV xs) 0) :: rest) 0 s' → Q .next s') :
    wpAny (Mo w) A (execs (duL w.params).b (E116 w.params L cA cP cR cM cF)) Q E s := by
  have hA1 : A.depth + 14 ≤ d := by have := hA'.2.1; omega
  have hA2 : A.units + 42 ≤ 3 * d := by have := hA'.2.2; omega
  have hcl : A.units < cLine := by
    have : cLine = cLine := rfl
    have h2 : A.units ≤ 2600 := by omega
    exact Nat.lt_of_le_of_lt h2 (by decide)
  rw [du_b]
  refine wpAny_execs_cons (wpAny_Expr_any ?_ (du_inter ..) (du_swap ..))
  rw [du_M]
  refine wpAny_Call_method (T := "list") (id := "list.append") (by rw [du_O]; rfl) (by rw [du_star]; rfl) (du_line _) F.plainAttrs_list F.slot_list_append F.type_list_append ?_
  refine val_h2 (fT_eq w) hA'.1 hA1 hA2 hK (Hp := [_]) R (fun v1 => du_mk w.params _ _ _ L cA cP cR cM cF mk v1) (fun v1 => okD_of _ _ _ _ trivial trivial) fun v1 s₁ R₁ => ⟨⟨_, R₁.at (i := 1) rfl, rfl⟩, fun a' h' => ?_, ?_⟩
  · cases h'
    exact ⟨_, R₁.at (i := 1) rfl, rfl⟩
  rw [du_star]
  refine PySem.P.append_list ?_
  rw [du_A]
  refine wpAny_BinOp ?_
  refine val_h2 (fT_eq w) hA'.1 hA1 hA2 hK (Hp := [_, _]) (rest := _ :: _ :: rest) (Rel.sel (H := [_, _, _, _]) (T := rest) R₁ [2, 3, 0, 1] [] rfl) (fun v2 => du_l0 w.params _ _ _ L cA cP cR cM cF r rn a b t v2) (fun v2 => okD_of _ _ _ _ trivial trivial) fun v2 s₂ R₂ => ?_
  rw [du_R, eval_ListComp, du_async, du_first, ← du_R]
  refine comp_first ?_
  rw [du_G]
  refine wpAny_Call_NameR ?_
  refine val_h2 (fT_eq w) hA'.1 hA1 hA2 hK (Hp := []) R₂ (fun v3 => du_rg w.params _ _ _ L cA cP cR cM cF v3) (fun v3 => okD_of _ _ _ _ trivial trivial) fun v3 s₃ R₃ => ?_
  rw [du_gs]
  refine callWith_excType rfl (Calls.evalArgs_plain (Calls.spliced_cons ?_))
  refine val_h2 (fT_eq w) hA'.1 hA1 hA2 hK (Hp := []) R₃ (fun v4 => du_c1 w.params _ _ _ L cA cP cR cM cF v4) (fun v4 => okD_of _ _ _ _ trivial trivial) fun v4 s₄ R₄ => ?_
  refine Calls.spliced_cons ?_
  rw [du_I]
  refine wpAny_IfExp ?_
  rw [du_T]
  refine wpAny_isTrue_Compare1 ?_ (du_mark _)
  have R5 : Rel J B os dr ([(cR, celO (some (.ref r))), (r, lsto (rulV a b 0 t) rn)] ++ ((v2 1, lsto [.int a (t 2)] 0) :: (cM, celO (some (.ref mk))) :: (mk, lsto ms q) :: rest)) 0 s₄ := R₄
  refine val_h2 (fT_eq w) hA'.1 hA1 hA2 hK (Hp := [_, _]) R5 (fun v5 => du_s0 w.params _ _ _ L cA cP cR cM cF r rn a b t v5) (fun v5 => okD_of _ _ _ _ trivial trivial) fun v5 s₅ R₅ => ?_
  refine val_h2 (fT_eq w) hA'.1 hA1 hA2 hK (Hp := []) R₅ (fun v6 => du_z w.params _ _ _ L cA cP cR cM cF v6) (fun v6 => okD_of _ _ _ _ trivial trivial) fun v6 s₆ R₆ => ?_
  have R6 : Rel J B os dr ([(v6 1, lsto [.int 0 (v6 0)] 0), (cR, celO (some (.ref r))), (r, lsto (rulV a b 0 t) rn), (v5 2, lsto [.int 0 (t 0)] 0), (v2 1, lsto [.int a (t 2)] 0), (cM, celO (some (.ref mk))), (mk, lsto ms q)] ++ rest) 0 s₆ := R₆
  refine PySem.P.eq_list (e := fun _ => true) (n := 0) (n2 := 0) (items := #[.int 0 (t 0)]) (items2 := #[.int 0 (v6 0)]) (R6.at (i := 3) rfl) (R6.at (i := 0) rfl) rfl (fun j h1 h2 => by
      have hj : j = 0 := by simp at h1; omega
      subst hj
      exact MeetsSeq.EqGives.int 0 0 _ _) hcl ?_
  refine truthy_b (b := true) ?_
  rw [if_pos rfl]
  refine val_h2 (fT_eq w) hA'.1 hA1 hA2 hK (Hp := []) R6 (fun v7 => du_9 w.params _ _ _ L cA cP cR cM cF v7) (fun v7 => okD_of _ _ _ _ trivial trivial) fun v7 s₇ R₇ => ?_
  refine Calls.spliced_nil ?_
  refine call_range_2 ?_
  have R7 : Rel J B os dr ([(s₇.heap.objs.size, ran2 1 9 (v4 0) (v7 0) s₇.toks), (v6 1, lsto [.int 0 (v6 0)] 0), (cR, celO (some (.ref r))), (r, lsto (rulV a b 0 t) rn), (v5 2, lsto [.int 0 (t 0)] 0), (v2 1, lsto [.int a (t 2)] 0), (cM, celO (some (.ref mk))), (mk, lsto ms q)] ++ rest) 0 _ := Rel.newF R₇ rfl (s₇.toks + 1)
  have R8 : Rel J B os dr ([(s₇.heap.objs.size, ran2 1 9 (v4 0) (v7 0) s₇.toks), (cR, celO (some (.ref r))), (r, lsto (rulV a b 0 t) rn)] ++ ((v2 1, lsto [.int a (t 2)] 0) :: (cM, celO (some (.ref mk))) :: (mk, lsto ms q) :: rest)) 0 _ := Rel.sel R7 [0, 2, 3, 5, 6, 7] [1, 4] rfl
  rcases hbb : f2 w with _ | _
  · have hP : ftP w.params (f1 w) false = w.params := hbb ▸ fT_eq w
    refine cmp_h hP hA'.1 hA1 hA2 hK (Hp := [_, _, _]) R8 fun v8 => ⟨_, _, 0, _, du_c0f w.params (f1 w) _ L cA cP cR cM cF r rn a b t _ _ _ _ (mulI b) v8, okD_of _ _ _ _ ⟨mulS (by omega), mulS (by omega), mulS (by omega), mulS (by omega), mulS (by omega), mulS (by omega), mulS (by omega), mulS (by omega), trivial⟩ trivial, fun s₉ R₉ => ?_⟩
    have R9 : Rel J B os dr ([(cR, celO (some (.ref r))), (r, lsto (rulV a b 0 t) rn), (v8 1, lsto [.int (a + mulI b 0) (v8 8), .int (a + mulI b 1) (v8 14), .int (a + mulI b 2) (v8 20), .int (a + mulI b 3) (v8 26), .int (a + mulI b 4) (v8 32), .int (a + mulI b 5) (v8 38), .int (a + mulI b 6) (v8 44), .int (a + mulI b 7) (v8 50)] 8), (v2 1, lsto [.int a (t 2)] 0), (cM, celO (some (.ref mk))), (mk, lsto ms q)] ++ rest) 0 s₉ := R₉
    refine PySem.P.add_list (R9.at (i := 3) rfl) (R9.at (i := 2) rfl) ?_
    have Ra : Rel J B os dr ([(s₉.heap.objs.size, lsto (intV [(a, t 2), (a + mulI b 0, v8 8), (a + mulI b 1, v8 14), (a + mulI b 2, v8 20), (a + mulI b 3, v8 26), (a + mulI b 4, v8 32), (a + mulI b 5, v8 38), (a + mulI b 6, v8 44), (a + mulI b 7, v8 50)]) 0), (cR, celO (some (.ref r))), (r, lsto (rulV a b 0 t) rn), (v8 1, lsto [.int (a + mulI b 0) (v8 8), .int (a + mulI b 1) (v8 14), .int (a + mulI b 2) (v8 20), .int (a + mulI b 3) (v8 26), .int (a + mulI b 4) (v8 32), .int (a + mulI b 5) (v8 38), .int (a + mulI b 6) (v8 44), .int (a + mulI b 7) (v8 50)] 8), (v2 1, lsto [.int a (t 2)] 0), (cM, celO (some (.ref mk))), (mk, lsto ms q)] ++ rest) 0 { s₉ with heap := s₉.heap.push (lsto (intV [(a, t 2), (a + mulI b 0, v8 8), (a + mulI b 1, v8 14), (a + mulI b 2, v8 20), (a + mulI b 3, v8 26), (a + mulI b 4, v8 32), (a + mulI b 5, v8 38), (a + mulI b 6, v8 44), (a + mulI b 7, v8 50)]) 0) } := R9.newF rfl s₉.toks
    have Rc : Rel J B os dr ([(s₉.heap.objs.size, lsto (intV [(a, t 2), (a + mulI b 0, v8 8), (a + mulI b 1, v8 14), (a + mulI b 2, v8 20), (a + mulI b 3, v8 26), (a + mulI b 4, v8 32), (a + mulI b 5, v8 38), (a + mulI b 6, v8 44), (a + mulI b 7, v8 50)]) 0), (cR, celO (some (.ref r))), (r, lsto (rulV a b 0 t) rn), (v8 1, lsto [.int (a + mulI b 0) (v8 8), .int (a + mulI b 1) (v8 14), .int (a + mulI b 2) (v8 20), .int (a + mulI b 3) (v8 26), .int (a + mulI b 4) (v8 32), .int (a + mulI b 5) (v8 38), .int (a + mulI b 6) (v8 44), .int (a + mulI b 7) (v8 50)] 8), (v2 1, lsto [.int a (t 2)] 0), (cM, celO (some (.ref mk))), (mk, lsto (ms ++ [.ref s₉.heap.objs.size]) (q + 1))] ++ rest) 0 _ := Ra.upd (i := 6) (p := (mk, lsto ms q)) rfl (map_push ms q (.ref s₉.heap.objs.size)) rfl rfl
    have Rb := Rel.sel Rc [5, 6, 1, 2, 0] [3, 4] rfl
    exact ⟨_, _, sizeLe hms, Ra.at (i := 6) rfl, wpAny_execs_nil (hQ _ [(a, t 2), (a + mulI b 0, v8 8), (a + mulI b 1, v8 14), (a + mulI b 2, v8 20), (a + mulI b 3, v8 26), (a + mulI b 4, v8 32), (a + mulI b 5, v8 38), (a + mulI b 6, v8 44), (a + mulI b 7, v8 50)] _ rfl Rb)⟩
  · have hP : ftP w.params (f1 w) true = w.params := hbb ▸ fT_eq w
    refine cmp_h hP hA'.1 hA1 hA2 hK (Hp := [_, _, _]) R8 fun v8 => ⟨_, _, 0, _, du_c0t w.params (f1 w) _ L cA cP cR cM cF r rn a b t _ _ _ _ (mulI b) v8, okD_of _ _ _ _ ⟨mulS (by omega), mulS (by omega), mulS (by omega), mulS (by omega), mulS (by omega), mulS (by omega), mulS (by omega), mulS (by omega), trivial⟩ trivial, fun s₉ R₉ => ?_⟩
    have R9 : Rel J B os dr ([(cR, celO (some (.ref r))), (r, lsto (rulV a b 0 t) rn), (v8 1, lsto [.int (a + mulI b 0) (v8 8), .int (a + mulI b 1) (v8 14), .int (a + mulI b 2) (v8 20), .int (a + mulI b 3) (v8 26), .int (a + mulI b 4) (v8 32), .int (a + mulI b 5) (v8 38), .int (a + mulI b 6) (v8 44), .int (a + mulI b 7) (v8 50)] 8), (v2 1, lsto [.int a (t 2)] 0), (cM, celO (some (.ref mk))), (mk, lsto ms q)] ++ rest) 0 s₉ := R₉
    refine PySem.P.add_list (R9.at (i := 3) rfl) (R9.at (i := 2) rfl) ?_
    have Ra : Rel J B os dr ([(s₉.heap.objs.size, lsto (intV [(a, t 2), (a + mulI b 0, v8 8), (a + mulI b 1, v8 14), (a + mulI b 2, v8 20), (a + mulI b 3, v8 26), (a + mulI b 4, v8 32), (a + mulI b 5, v8 38), (a + mulI b 6, v8 44), (a + mulI b 7, v8 50)]) 0), (cR, celO (some (.ref r))), (r, lsto (rulV a b 0 t) rn), (v8 1, lsto [.int (a + mulI b 0) (v8 8), .int (a + mulI b 1) (v8 14), .int (a + mulI b 2) (v8 20), .int (a + mulI b 3) (v8 26), .int (a + mulI b 4) (v8 32), .int (a + mulI b 5) (v8 38), .int (a + mulI b 6) (v8 44), .int (a + mulI b 7) (v8 50)] 8), (v2 1, lsto [.int a (t 2)] 0), (cM, celO (some (.ref mk))), (mk, lsto ms q)] ++ rest) 0 { s₉ with heap := s₉.heap.push (lsto (intV [(a, t 2), (a + mulI b 0, v8 8), (a + mulI b 1, v8 14), (a + mulI b 2, v8 20), (a + mulI b 3, v8 26), (a + mulI b 4, v8 32), (a + mulI b 5, v8 38), (a + mulI b 6, v8 44), (a + mulI b 7, v8 50)]) 0) } := R9.newF rfl s₉.toks
    have Rc : Rel J B os dr ([(s₉.heap.objs.size, lsto (intV [(a, t 2), (a + mulI b 0, v8 8), (a + mulI b 1, v8 14), (a + mulI b 2, v8 20), (a + mulI b 3, v8 26), (a + mulI b 4, v8 32), (a + mulI b 5, v8 38), (a + mulI b 6, v8 44), (a + mulI b 7, v8 50)]) 0), (cR, celO (some (.ref r))), (r, lsto (rulV a b 0 t) rn), (v8 1, lsto [.int (a + mulI b 0) (v8 8), .int (a + mulI b 1) (v8 14), .int (a + mulI b 2) (v8 20), .int (a + mulI b 3) (v8 26), .int (a + mulI b 4) (v8 32), .int (a + mulI b 5) (v8 38), .int (a + mulI b 6) (v8 44), .int (a + mulI b 7) (v8 50)] 8), (v2 1, lsto [.int a (t 2)] 0), (cM, celO (some (.ref mk))), (mk, lsto (ms ++ [.ref s₉.heap.objs.size]) (q + 1))] ++ rest) 0 _ := Ra.upd (i := 6) (p := (mk, lsto ms q)) rfl (map_push ms q (.ref s₉.heap.objs.size)) rfl rfl
    have Rb := Rel.sel Rc [5, 6, 1, 2, 0] [3, 4] rfl
    exact ⟨_, _, sizeLe hms, Ra.at (i := 6) rfl, wpAny_execs_nil (hQ _ [(a, t 2), (a + mulI b 0, v8 8), (a + mulI b 1, v8 14), (a + mulI b 2, v8 20), (a + mulI b 3, v8 26), (a + mulI b 4, v8 32), (a + mulI b 5, v8 38), (a + mulI b 6, v8 44), (a + mulI b 7, v8 50)] _ rfl Rb)⟩


set_option maxHeartbeats 2000000 in
theorem du_body1 {L cA cP cR cM cF mk q r rn : Nat} {ms : List Value} {a b : Int} {t : Nat → Nat} {rest : List Ent} {s : Shared} {Q : Flow → Shared → Prop} {E : Value → Shared → Prop}
    (hA' : AOk (d - 14) A) (hd14 : 14 ≤ d) (hd9 : d ≤ 860) (hK : KIn (KP w.params) B) (hms : ms.length ≤ 10)
    (R : Rel J B os dr ((cM, celO (some (.ref mk))) :: (mk, lsto ms q) :: (cR, celO (some (.ref r))) :: (r, lsto (rulV a b 1 t) rn) :: rest) 0 s)
    (hQ : ∀ m xs s', xs.map (·.1) = marksI a b 1 → Rel J B os dr ((cM, celO (some (.ref mk))) :: (mk, lsto (ms ++ [.ref m]) (q + 1)) :: (cR, celO (some (.ref r))) :: (r, lsto (rulV a b 1 t) rn) :: (m, lsto (intV xs) 0) :: rest) 0 s' → Q .next s') :
    wpAny (Mo w) A (execs (duL w.params).b (E116 w.params L cA cP cR cM cF)) Q E s := by
  have hA1 : A.depth + 14 ≤ d := by have := hA'.2.1; omega
  have hA2 : A.units + 42 ≤ 3 * d := by have := hA'.2.2; omega
  have hcl : A.units < cLine := by
    have : cLine = cLine := rfl
    have h2 : A.units ≤ 2600 := by omega
    exact Nat.lt_of_le_of_lt h2 (by decide)
  rw [du_b]
  refine wpAny_execs_cons (wpAny_Expr_any ?_ (du_inter ..) (du_swap ..))
  rw [du_M]
  refine wpAny_Call_method (T := "list") (id := "list.append") (by rw [du_O]; rfl) (by rw [du_star]; rfl) (du_line _) F.plainAttrs_list F.slot_list_append F.type_list_append ?_
  refine val_h2 (fT_eq w) hA'.1 hA1 hA2 hK (Hp := [_]) R (fun v1 => du_mk w.params _ _ _ L cA cP cR cM cF mk v1) (fun v1 => okD_of _ _ _ _ trivial trivial) fun v1 s₁ R₁ => ⟨⟨_, R₁.at (i := 1) rfl, rfl⟩, fun a' h' => ?_, ?_⟩
  · cases h'
    exact ⟨_, R₁.at (i := 1) rfl, rfl⟩
  rw [du_star]
  refine PySem.P.append_list ?_
  rw [du_A]
  refine wpAny_BinOp ?_
  refine val_h2 (fT_eq w) hA'.1 hA1 hA2 hK (Hp := [_, _]) (rest := _ :: _ :: rest) (Rel.sel (H := [_, _, _, _]) (T := rest) R₁ [2, 3, 0, 1] [] rfl) (fun v2 => du_l1 w.params _ _ _ L cA cP cR cM cF r rn a b t v2) (fun v2 => okD_of _ _ _ _ trivial trivial) fun v2 s₂ R₂ => ?_
  rw [du_R, eval_ListComp, du_async, du_first, ← du_R]
  refine comp_first ?_
  rw [du_G]
  refine wpAny_Call_NameR ?_
  refine val_h2 (fT_eq w) hA'.1 hA1 hA2 hK (Hp := []) R₂ (fun v3 => du_rg w.params _ _ _ L cA cP cR cM cF v3) (fun v3 => okD_of _ _ _ _ trivial trivial) fun v3 s₃ R₃ => ?_
  rw [du_gs]
  refine callWith_excType rfl (Calls.evalArgs_plain (Calls.spliced_cons ?_))
  refine val_h2 (fT_eq w) hA'.1 hA1 hA2 hK (Hp := []) R₃ (fun v4 => du_c1 w.params _ _ _ L cA cP cR cM cF v4) (fun v4 => okD_of _ _ _ _ trivial trivial) fun v4 s₄ R₄ => ?_
  refine Calls.spliced_cons ?_
  rw [du_I]
  refine wpAny_IfExp ?_
  rw [du_T]
  refine wpAny_isTrue_Compare1 ?_ (du_mark _)
  have R5 : Rel J B os dr ([(cR, celO (some (.ref r))), (r, lsto (rulV a b 1 t) rn)] ++ ((v2 1, lsto [.int a (t 2)] 0) :: (cM, celO (some (.ref mk))) :: (mk, lsto ms q) :: rest)) 0 s₄ := R₄
  refine val_h2 (fT_eq w) hA'.1 hA1 hA2 hK (Hp := [_, _]) R5 (fun v5 => du_s1 w.params _ _ _ L cA cP cR cM cF r rn a b t v5) (fun v5 => okD_of _ _ _ _ trivial trivial) fun v5 s₅ R₅ => ?_
  refine val_h2 (fT_eq w) hA'.1 hA1 hA2 hK (Hp := []) R₅ (fun v6 => du_z w.params _ _ _ L cA cP cR cM cF v6) (fun v6 => okD_of _ _ _ _ trivial trivial) fun v6 s₆ R₆ => ?_
  have R6 : Rel J B os dr ([(v6 1, lsto [.int 0 (v6 0)] 0), (cR, celO (some (.ref r))), (r, lsto (rulV a b 1 t) rn), (v5 2, lsto [.int 127 (t 0), .int 2 (t 1)] 0), (v2 1, lsto [.int a (t 2)] 0), (cM, celO (some (.ref mk))), (mk, lsto ms q)] ++ rest) 0 s₆ := R₆
  refine PySem.P.eq_list_lengths (n := 0) (n2 := 0) (items := #[.int 127 (t 0), .int 2 (t 1)]) (items2 := #[.int 0 (v6 0)]) (R6.at (i := 3) rfl) (R6.at (i := 0) rfl) rfl hcl ?_
  refine truthy_b (b := false) ?_
  rw [if_neg (by intro h; cases h)]
  refine val_h2 (fT_eq w) hA'.1 hA1 hA2 hK (Hp := []) R6 (fun v7 => du_2 w.params _ _ _ L cA cP cR cM cF v7) (fun v7 => okD_of _ _ _ _ trivial trivial) fun v7 s₇ R₇ => ?_
  refine Calls.spliced_nil ?_
  refine call_range_2 ?_
  have R7 : Rel J B os dr ([(s₇.heap.objs.size, ran2 1 2 (v4 0) (v7 0) s₇.toks), (v6 1, lsto [.int 0 (v6 0)] 0), (cR, celO (some (.ref r))), (r, lsto (rulV a b 1 t) rn), (v5 2, lsto [.int 127 (t 0), .int 2 (t 1)] 0), (v2 1, lsto [.int a (t 2)] 0), (cM, celO (some (.ref mk))), (mk, lsto ms q)] ++ rest) 0 _ := Rel.newF R₇ rfl (s₇.toks + 1)
  have R8 : Rel J B os dr ([(s₇.heap.objs.size, ran2 1 2 (v4 0) (v7 0) s₇.toks), (cR, celO (some (.ref r))), (r, lsto (rulV a b 1 t) rn)] ++ ((v2 1, lsto [.int a (t 2)] 0) :: (cM, celO (some (.ref mk))) :: (mk, lsto ms q) :: rest)) 0 _ := Rel.sel R7 [0, 2, 3, 5, 6, 7] [1, 4] rfl
  rcases hbb : f2 w with _ | _
  · have hP : ftP w.params (f1 w) false = w.params := hbb ▸ fT_eq w
    refine cmp_h hP hA'.1 hA1 hA2 hK (Hp := [_, _, _]) R8 fun v8 => ⟨_, _, 0, _, du_c1f w.params (f1 w) _ L cA cP cR cM cF r rn a b t _ _ _ _ (mulI b) v8, okD_of _ _ _ _ ⟨mulS (by omega), trivial⟩ trivial, fun s₉ R₉ => ?_⟩
    have R9 : Rel J B os dr ([(cR, celO (some (.ref r))), (r, lsto (rulV a b 1 t) rn), (v8 1, lsto [.int (a + mulI b 0) (v8 8)] 1), (v2 1, lsto [.int a (t 2)] 0), (cM, celO (some (.ref mk))), (mk, lsto ms q)] ++ rest) 0 s₉ := R₉
    refine PySem.P.add_list (R9.at (i := 3) rfl) (R9.at (i := 2) rfl) ?_
    have Ra : Rel J B os dr ([(s₉.heap.objs.size, lsto (intV [(a, t 2), (a + mulI b 0, v8 8)]) 0), (cR, celO (some (.ref r))), (r, lsto (rulV a b 1 t) rn), (v8 1, lsto [.int (a + mulI b 0) (v8 8)] 1), (v2 1, lsto [.int a (t 2)] 0), (cM, celO (some (.ref mk))), (mk, lsto ms q)] ++ rest) 0 { s₉ with heap := s₉.heap.push (lsto (intV [(a, t 2), (a + mulI b 0, v8 8)]) 0) } := R9.newF rfl s₉.toks
    have Rc : Rel J B os dr ([(s₉.heap.objs.size, lsto (intV [(a, t 2), (a + mulI b 0, v8 8)]) 0), (cR, celO (some (.ref r))), (r, lsto (rulV a b 1 t) rn), (v8 1, lsto [.int (a + mulI b 0) (v8 8)] 1), (v2 1, lsto [.int a (t 2)] 0), (cM, celO (some (.ref mk))), (mk, lsto (ms ++ [.ref s₉.heap.objs.size]) (q + 1))] ++ rest) 0 _ := Ra.upd (i := 6) (p := (mk, lsto ms q)) rfl (map_push ms q (.ref s₉.heap.objs.size)) rfl rfl
    have Rb := Rel.sel Rc [5, 6, 1, 2, 0] [3, 4] rfl
    exact ⟨_, _, sizeLe hms, Ra.at (i := 6) rfl, wpAny_execs_nil (hQ _ [(a, t 2), (a + mulI b 0, v8 8)] _ rfl Rb)⟩
  · have hP : ftP w.params (f1 w) true = w.params := hbb ▸ fT_eq w
    refine cmp_h hP hA'.1 hA1 hA2 hK (Hp := [_, _, _]) R8 fun v8 => ⟨_, _, 0, _, du_c1t w.params (f1 w) _ L cA cP cR cM cF r rn a b t _ _ _ _ (mulI b) v8, okD_of _ _ _ _ ⟨mulS (by omega), trivial⟩ trivial, fun s₉ R₉ => ?_⟩
    have R9 : Rel J B os dr ([(cR, celO (some (.ref r))), (r, lsto (rulV a b 1 t) rn), (v8 1, lsto [.int (a + mulI b 0) (v8 8)] 1), (v2 1, lsto [.int a (t 2)] 0), (cM, celO (some (.ref mk))), (mk, lsto ms q)] ++ rest) 0 s₉ := R₉
    refine PySem.P.add_list (R9.at (i := 3) rfl) (R9.at (i := 2) rfl) ?_
    have Ra : Rel J B os dr ([(s₉.heap.objs.size, lsto (intV [(a, t 2), (a + mulI b 0, v8 8)]) 0), (cR, celO (some (.ref r))), (r, lsto (rulV a b 1 t) rn), (v8 1, lsto [.int (a + mulI b 0) (v8 8)] 1), (v2 1, lsto [.int a (t 2)] 0), (cM, celO (some (.ref mk))), (mk, lsto ms q)] ++ rest) 0 { s₉ with heap := s₉.heap.push (lsto (intV [(a, t 2), (a + mulI b 0, v8 8)]) 0) } := R9.newF rfl s₉.toks
    have Rc : Rel J B os dr ([(s₉.heap.objs.size, lsto (intV [(a, t 2), (a + mulI b 0, v8 8)]) 0), (cR, celO (some (.ref r))), (r, lsto (rulV a b 1 t) rn), (v8 1, lsto [.int (a + mulI b 0) (v8 8)] 1), (v2 1, lsto [.int a (t 2)] 0), (cM, celO (some (.ref mk))), (mk, lsto (ms ++ [.ref s₉.heap.objs.size]) (q + 1))] ++ rest) 0 _ := Ra.upd (i := 6) (p := (mk, lsto ms q)) rfl (map_push ms q (.ref s₉.heap.objs.size)) rfl rfl
    have Rb := Rel.sel Rc [5, 6, 1, 2, 0] [3, 4] rfl
    exact ⟨_, _, sizeLe hms, Ra.at (i := 6) rfl, wpAny_execs_nil (hQ _ [(a, t 2), (a + mulI b 0, v8 8)] _ rfl Rb)⟩


set_option maxHeartbeats 2000000 in
theorem du_body2 {L cA cP cR cM cF mk q r rn : Nat} {ms : List Value} {a b : Int} {t : Nat → Nat} {rest : List Ent} {s : Shared} {Q : Flow → Shared → Prop} {E : Value → Shared → Prop}
    (hA' : AOk (d - 14) A) (hd14 : 14 ≤ d) (hd9 : d ≤ 860) (hK : KIn (KP w.params) B) (hms : ms.length ≤ 10)
    (R : Rel J B os dr ((cM, celO (some (.ref mk))) :: (mk, lsto ms q) :: (cR, celO (some (.ref r))) :: (r, lsto (rulV a b 2 t) rn) :: rest) 0 s)
    (hQ : ∀ m xs s', xs.map (·.1) = marksI a b 2 → Rel J B os dr ((cM, celO (some (.ref mk))) :: (mk, lsto (ms ++ [.ref m]) (q + 1)) :: (cR, celO (some (.ref r))) :: (r, lsto (rulV a b 2 t) rn) :: (m, lsto (intV xs) 0) :: rest) 0 s' → Q .next s') :
    wpAny (Mo w) A (execs (duL w.params).b (E116 w.params L cA cP cR cM cF)) Q E s := by
  have hA1 : A.depth + 14 ≤ d := by have := hA'.2.1; omega
  have hA2 : A.units + 42 ≤ 3 * d := by have := hA'.2.2; omega
  have hcl : A.units < cLine := by
    have : cLine = cLine := rfl
    have h2 : A.units ≤ 2600 := by omega
    exact Nat.lt_of_le_of_lt h2 (by decide)
  rw [du_b]
  refine wpAny_execs_cons (wpAny_Expr_any ?_ (du_inter ..) (du_swap ..))
  rw [du_M]
  refine wpAny_Call_method (T := "list") (id := "list.append") (by rw [du_O]; rfl) (by rw [du_star]; rfl) (du_line _) F.plainAttrs_list F.slot_list_append F.type_list_append ?_
  refine val_h2 (fT_eq w) hA'.1 hA1 hA2 hK (Hp := [_]) R (fun v1 => du_mk w.params _ _ _ L cA cP cR cM cF mk v1) (fun v1 => okD_of _ _ _ _ trivial trivial) fun v1 s₁ R₁ => ⟨⟨_, R₁.at (i := 1) rfl, rfl⟩, fun a' h' => ?_, ?_⟩
  · cases h'
    exact ⟨_, R₁.at (i := 1) rfl, rfl⟩
  rw [du_star]
  refine PySem.P.append_list ?_
  rw [du_A]
  refine wpAny_BinOp ?_
  refine val_h2 (fT_eq w) hA'.1 hA1 hA2 hK (Hp := [_, _]) (rest := _ :: _ :: rest) (Rel.sel (H := [_, _, _, _]) (T := rest) R₁ [2, 3, 0, 1] [] rfl) (fun v2 => du_l2 w.params _ _ _ L cA cP cR cM cF r rn a b t v2) (fun v2 => okD_of _ _ _ _ trivial trivial) fun v2 s₂ R₂ => ?_
  rw [du_R, eval_ListComp, du_async, du_first, ← du_R]
  refine comp_first ?_
  rw [du_G]
  refine wpAny_Call_NameR ?_
  refine val_h2 (fT_eq w) hA'.1 hA1 hA2 hK (Hp := []) R₂ (fun v3 => du_rg w.params _ _ _ L cA cP cR cM cF v3) (fun v3 => okD_of _ _ _ _ trivial trivial) fun v3 s₃ R₃ => ?_
  rw [du_gs]
  refine callWith_excType rfl (Calls.evalArgs_plain (Calls.spliced_cons ?_))
  refine val_h2 (fT_eq w) hA'.1 hA1 hA2 hK (Hp := []) R₃ (fun v4 => du_c1 w.params _ _ _ L cA cP cR cM cF v4) (fun v4 => okD_of _ _ _ _ trivial trivial) fun v4 s₄ R₄ => ?_
  refine Calls.spliced_cons ?_
  rw [du_I]
  refine wpAny_IfExp ?_
  rw [du_T]
  refine wpAny_isTrue_Compare1 ?_ (du_mark _)
  have R5 : Rel J B os dr ([(cR, celO (some (.ref r))), (r, lsto (rulV a b 2 t) rn)] ++ ((v2 1, lsto [.int a (t 2)] 0) :: (cM, celO (some (.ref mk))) :: (mk, lsto ms q) :: rest)) 0 s₄ := R₄
  refine val_h2 (fT_eq w) hA'.1 hA1 hA2 hK (Hp := [_, _]) R5 (fun v5 => du_s2 w.params _ _ _ L cA cP cR cM cF r rn a b t v5) (fun v5 => okD_of _ _ _ _ trivial trivial) fun v5 s₅ R₅ => ?_
  refine val_h2 (fT_eq w) hA'.1 hA1 hA2 hK (Hp := []) R₅ (fun v6 => du_z w.params _ _ _ L cA cP cR cM cF v6) (fun v6 => okD_of _ _ _ _ trivial trivial) fun v6 s₆ R₆ => ?_
  have R6 : Rel J B os dr ([(v6 1, lsto [.int 0 (v6 0)] 0), (cR, celO (some (.ref r))), (r, lsto (rulV a b 2 t) rn), (v5 2, lsto [] 0), (v2 1, lsto [.int a (t 2)] 0), (cM, celO (some (.ref mk))), (mk, lsto ms q)] ++ rest) 0 s₆ := R₆
  refine PySem.P.eq_list_lengths (n := 0) (n2 := 0) (items := #[]) (items2 := #[.int 0 (v6 0)]) (R6.at (i := 3) rfl) (R6.at (i := 0) rfl) rfl hcl ?_
  refine truthy_b (b := false) ?_
  rw [if_neg (by intro h; cases h)]
  refine val_h2 (fT_eq w) hA'.1 hA1 hA2 hK (Hp := []) R6 (fun v7 => du_2 w.params _ _ _ L cA cP cR cM cF v7) (fun v7 => okD_of _ _ _ _ trivial trivial) fun v7 s₇ R₇ => ?_
  refine Calls.spliced_nil ?_
  refine call_range_2 ?_
  have R7 : Rel J B os dr ([(s₇.heap.objs.size, ran2 1 2 (v4 0) (v7 0) s₇.toks), (v6 1, lsto [.int 0 (v6 0)] 0), (cR, celO (some (.ref r))), (r, lsto (rulV a b 2 t) rn), (v5 2, lsto [] 0), (v2 1, lsto [.int a (t 2)] 0), (cM, celO (some (.ref mk))), (mk, lsto ms q)] ++ rest) 0 _ := Rel.newF R₇ rfl (s₇.toks + 1)
  have R8 : Rel J B os dr ([(s₇.heap.objs.size, ran2 1 2 (v4 0) (v7 0) s₇.toks), (cR, celO (some (.ref r))), (r, lsto (rulV a b 2 t) rn)] ++ ((v2 1, lsto [.int a (t 2)] 0) :: (cM, celO (some (.ref mk))) :: (mk, lsto ms q) :: rest)) 0 _ := Rel.sel R7 [0, 2, 3, 5, 6, 7] [1, 4] rfl
  rcases hbb : f2 w with _ | _
  · have hP : ftP w.params (f1 w) false = w.params := hbb ▸ fT_eq w
    refine cmp_h hP hA'.1 hA1 hA2 hK (Hp := [_, _, _]) R8 fun v8 => ⟨_, _, 0, _, du_c2f w.params (f1 w) _ L cA cP cR cM cF r rn a b t _ _ _ _ (mulI b) v8, okD_of _ _ _ _ ⟨mulS (by omega), trivial⟩ trivial, fun s₉ R₉ => ?_⟩
    have R9 : Rel J B os dr ([(cR, celO (some (.ref r))), (r, lsto (rulV a b 2 t) rn), (v8 1, lsto [.int (a + mulI b 0) (v8 8)] 1), (v2 1, lsto [.int a (t 2)] 0), (cM, celO (some (.ref mk))), (mk, lsto ms q)] ++ rest) 0 s₉ := R₉
    refine PySem.P.add_list (R9.at (i := 3) rfl) (R9.at (i := 2) rfl) ?_
    have Ra : Rel J B os dr ([(s₉.heap.objs.size, lsto (intV [(a, t 2), (a + mulI b 0, v8 8)]) 0), (cR, celO (some (.ref r))), (r, lsto (rulV a b 2 t) rn), (v8 1, lsto [.int (a + mulI b 0) (v8 8)] 1), (v2 1, lsto [.int a (t 2)] 0), (cM, celO (some (.ref mk))), (mk, lsto ms q)] ++ rest) 0 { s₉ with heap := s₉.heap.push (lsto (intV [(a, t 2), (a + mulI b 0, v8 8)]) 0) } := R9.newF rfl s₉.toks
    have Rc : Rel J B os dr ([(s₉.heap.objs.size, lsto (intV [(a, t 2), (a + mulI b 0, v8 8)]) 0), (cR, celO (some (.ref r))), (r, lsto (rulV a b 2 t) rn), (v8 1, lsto [.int (a + mulI b 0) (v8 8)] 1), (v2 1, lsto [.int a (t 2)] 0), (cM, celO (some (.ref mk))), (mk, lsto (ms ++ [.ref s₉.heap.objs.size]) (q + 1))] ++ rest) 0 _ := Ra.upd (i := 6) (p := (mk, lsto ms q)) rfl (map_push ms q (.ref s₉.heap.objs.size)) rfl rfl
    have Rb := Rel.sel Rc [5, 6, 1, 2, 0] [3, 4] rfl
    exact ⟨_, _, sizeLe hms, Ra.at (i := 6) rfl, wpAny_execs_nil (hQ _ [(a, t 2), (a + mulI b 0, v8 8)] _ rfl Rb)⟩
  · have hP : ftP w.params (f1 w) true = w.params := hbb ▸ fT_eq w
    refine cmp_h hP hA'.1 hA1 hA2 hK (Hp := [_, _, _]) R8 fun v8 => ⟨_, _, 0, _, du_c2t w.params (f1 w) _ L cA cP cR cM cF r rn a b t _ _ _ _ (mulI b) v8, okD_of _ _ _ _ ⟨mulS (by omega), trivial⟩ trivial, fun s₉ R₉ => ?_⟩
    have R9 : Rel J B os dr ([(cR, celO (some (.ref r))), (r, lsto (rulV a b 2 t) rn), (v8 1, lsto [.int (a + mulI b 0) (v8 8)] 1), (v2 1, lsto [.int a (t 2)] 0), (cM, celO (some (.ref mk))), (mk, lsto ms q)] ++ rest) 0 s₉ := R₉
    refine PySem.P.add_list (R9.at (i := 3) rfl) (R9.at (i := 2) rfl) ?_
    have Ra : Rel J B os dr ([(s₉.heap.objs.size, lsto (intV [(a, t 2), (a + mulI b 0, v8 8)]) 0), (cR, celO (some (.ref r))), (r, lsto (rulV a b 2 t) rn), (v8 1, lsto [.int (a + mulI b 0) (v8 8)] 1), (v2 1, lsto [.int a (t 2)] 0), (cM, celO (some (.ref mk))), (mk, lsto ms q)] ++ rest) 0 { s₉ with heap := s₉.heap.push (lsto (intV [(a, t 2), (a + mulI b 0, v8 8)]) 0) } := R9.newF rfl s₉.toks
    have Rc : Rel J B os dr ([(s₉.heap.objs.size, lsto (intV [(a, t 2), (a + mulI b 0, v8 8)]) 0), (cR, celO (some (.ref r))), (r, lsto (rulV a b 2 t) rn), (v8 1, lsto [.int (a + mulI b 0) (v8 8)] 1), (v2 1, lsto [.int a (t 2)] 0), (cM, celO (some (.ref mk))), (mk, lsto (ms ++ [.ref s₉.heap.objs.size]) (q + 1))] ++ rest) 0 _ := Ra.upd (i := 6) (p := (mk, lsto ms q)) rfl (map_push ms q (.ref s₉.heap.objs.size)) rfl rfl
    have Rb := Rel.sel Rc [5, 6, 1, 2, 0] [3, 4] rfl
    exact ⟨_, _, sizeLe hms, Ra.at (i := 6) rfl, wpAny_execs_nil (hQ _ [(a, t 2), (a + mulI b 0, v8 8)] _ rfl Rb)⟩

end
end Mine
end
-- V51
section
open PySem PySem.Spec PySem.Calls PyProof.Rows PySem.W PySem.W.X
namespace Mine
theorem du_for (P : Params) : stm P 116 1 = .For (duL P).t (duL P).i (duL P).b [] (forPos (stm P 116 1)) := by kernel_rfl!
theorem du_iter (P : Params) (env : Env) (x : Value) : foldedSetIterable (duL P).i env x = pure x := by kernel_rfl!
theorem du_stms (P : Params) : bd P 116 = [stm P 116 0] ++ ([stm P 116 1] ++ ([stm P 116 2] ++ ([stm P 116 3] ++ ([stm P 116 4] ++ [stm P 116 5])))) := by kernel_rfl!
section
variable {w : World} {K : Frag} {J : Nat → Array GenState → Prop} {B : Addr → Option Obj} {os : OsState} {dr : Drawn} {d : Nat} {A : Around}
theorem du_go {x : Value} {it : Value} {Q : Unit → Shared → Prop} {E : Value → Shared → Prop} {s : Shared} (h : Q () s) : wpAny (Mo w) A (letOwnedTupleGo (duL w.params).t it x) Q E s := by
  have e : ∀ P, letOwnedTupleGo (duL P).t it x = pure () := fun P => by kernel_rfl!
  rw [e]; exact wpAny_pure h
theorem du_body {tg L cA cP cR cM cF mk q r rn : Nat} {ms : List Value} {a b : Int} {t : Nat → Nat} {rest : List Ent} {s : Shared} {Q : Flow → Shared → Prop} {E : Value → Shared → Prop} (htg : tg ≤ 2)
    (hA' : AOk (d - 14) A) (hd14 : 14 ≤ d) (hd9 : d ≤ 860) (hK : KIn (KP w.params) B) (hms : ms.length ≤ 10)
    (R : Rel J B os dr ((cM, celO (some (.ref mk))) :: (mk, lsto ms q) :: (cR, celO (some (.ref r))) :: (r, lsto (rulV a b tg t) rn) :: rest) 0 s)
    (hQ : ∀ m xs s', xs.map (·.1) = marksI a b tg → Rel J B os dr ((cM, celO (some (.ref mk))) :: (mk, lsto (ms ++ [.ref m]) (q + 1)) :: (cR, celO (some (.ref r))) :: (r, lsto (rulV a b tg t) rn) :: (m, lsto (intV xs) 0) :: rest) 0 s' → Q .next s') :
    wpAny (Mo w) A (execs (duL w.params).b (E116 w.params L cA cP cR cM cF)) Q E s := by
  rcases tg with _ | _ | _ | tg
  · exact du_body0 hA' hd14 hd9 hK hms R hQ
  · exact du_body1 hA' hd14 hd9 hK hms R hQ
  · exact du_body2 hA' hd14 hd9 hK hms R hQ
  · omega

theorem du_loop {tg tg' L cA cP cR cM cF it rls ra rb m mk rn rn' : Nat} {a b a' b' : Int} {t t' : Nat → Nat} {rest : List Ent} {s : Shared} {R : Result → Shared → Prop} (htg : tg ≤ 2) (htg' : tg' ≤ 2)
    (hA' : AOk (d - 14) A) (hd14 : 14 ≤ d) (hd9 : d ≤ 860) (hK : KIn (KP w.params) B)
    (R0 : Rel J B os dr ([(it, lstIt (.ref rls) 0), (rls, lsto [.ref ra, .ref rb] m), (cM, celO (some (.ref mk))), (mk, lsto [] 0), (cR, celO none), (ra, lsto (rulV a b tg t) rn), (rb, lsto (rulV a' b' tg' t') rn')] ++ rest) 0 s)
    (hR : ∀ m1 m2 xs1 xs2 s', xs1.map (·.1) = marksI a b tg → xs2.map (·.1) = marksI a' b' tg' → Rel J B os dr ([(rls, lsto [.ref ra, .ref rb] m), (cM, celO (some (.ref mk))), (mk, lsto [.ref m1, .ref m2] 2), (cR, celO (some (.ref rb))), (ra, lsto (rulV a b tg t) rn), (rb, lsto (rulV a' b' tg' t') rn'), (m1, lsto (intV xs1) 0), (m2, lsto (intV xs2) 0)] ++ rest) 0 s' → R (.ok .next) s') :
    codeAny (Mo w) A (.forLoop (duL w.params).t (.ref it) (duL w.params).b [] (E116 w.params L cA cP cR cM cF)) R s := by
  refine codeAny_forLoop_any (fun n s => (n = 3 ∧ Rel J B os dr ([(it, lstIt (.ref rls) 0), (rls, lsto [.ref ra, .ref rb] m), (cM, celO (some (.ref mk))), (mk, lsto [] 0), (cR, celO none), (ra, lsto (rulV a b tg t) rn), (rb, lsto (rulV a' b' tg' t') rn')] ++ rest) 0 s) ∨ (n = 2 ∧ ∃ m1 xs1, xs1.map (·.1) = marksI a b tg ∧ Rel J B os dr ([(it, lstIt (.ref rls) 1), (rls, lsto [.ref ra, .ref rb] m), (cM, celO (some (.ref mk))), (mk, lsto [.ref m1] 1), (cR, celO (some (.ref ra))), (ra, lsto (rulV a b tg t) rn), (rb, lsto (rulV a' b' tg' t') rn'), (m1, lsto (intV xs1) 0)] ++ rest) 0 s) ∨ (n = 1 ∧ ∃ m1 xs1 m2 xs2, xs1.map (·.1) = marksI a b tg ∧ xs2.map (·.1) = marksI a' b' tg' ∧ Rel J B os dr ([(it, lstIt (.ref rls) 2), (rls, lsto [.ref ra, .ref rb] m), (cM, celO (some (.ref mk))), (mk, lsto [.ref m1, .ref m2] 2), (cR, celO (some (.ref rb))), (ra, lsto (rulV a b tg t) rn), (rb, lsto (rulV a' b' tg' t') rn'), (m1, lsto (intV xs1) 0), (m2, lsto (intV xs2) 0)] ++ rest) 0 s)) ?_ 3 (.inl ⟨rfl, R0⟩)
  rintro n s (⟨rfl, Rl⟩ | ⟨rfl, m1, xs1, e1, Rl⟩ | ⟨rfl, m1, xs1, m2, xs2, e1, e2, Rl⟩)
  · skip
    refine next_front (fT_eq w) hA' hd14 hK (Hp := [_, _]) Rl fun v => ⟨some (.ref ra), _, 0, _, du_n0 w.params _ _ _ L cA cP cR cM cF it rls ra rb m v, okD_of _ _ _ _ trivial trivial, fun s₁ R₁ => ?_⟩
    dsimp only
    refine du_go ?_
    have R2 : Rel J B os dr ([(it, lstIt (.ref rls) 1), (rls, lsto [.ref ra, .ref rb] m), (cM, celO (some (.ref mk))), (mk, lsto [] 0), (cR, celO none), (ra, lsto (rulV a b tg t) rn), (rb, lsto (rulV a' b' tg' t') rn')] ++ rest) 0 s₁ := R₁
    have R3 : Rel J B os dr ([(cR, celO none), (it, lstIt (.ref rls) 1), (rls, lsto [.ref ra, .ref rb] m), (cM, celO (some (.ref mk))), (mk, lsto [] 0), (ra, lsto (rulV a b tg t) rn), (rb, lsto (rulV a' b' tg' t') rn')] ++ rest) 0 s₁ := Rel.sel R2 [4, 0, 1, 2, 3, 5, 6] [] rfl
    refine assign_front2 (fT_eq w) hA' hd14 hK (Hp := [_]) R3 (fun v => du_a w.params _ _ _ L cA cP cR cM cF ra none v) (fun v => okD_of _ _ _ _ trivial trivial) fun v s₂ R₄ => ?_
    have R4 : Rel J B os dr ([(cR, celO (some (.ref ra))), (it, lstIt (.ref rls) 1), (rls, lsto [.ref ra, .ref rb] m), (cM, celO (some (.ref mk))), (mk, lsto [] 0), (ra, lsto (rulV a b tg t) rn), (rb, lsto (rulV a' b' tg' t') rn')] ++ rest) 0 s₂ := R₄
    have R5 : Rel J B os dr ([(cM, celO (some (.ref mk))), (mk, lsto [] 0), (cR, celO (some (.ref ra))), (ra, lsto (rulV a b tg t) rn), (it, lstIt (.ref rls) 1), (rls, lsto [.ref ra, .ref rb] m), (rb, lsto (rulV a' b' tg' t') rn')] ++ rest) 0 s₂ := Rel.sel R4 [3, 4, 0, 5, 1, 2, 6] [] rfl
    refine du_body htg hA' hd14 hd9 hK (by simp) R5 fun m1 xs1 s₃ e1 R₆ => ?_
    have R6 : Rel J B os dr ([(cM, celO (some (.ref mk))), (mk, lsto ([] ++ [.ref m1]) (0 + 1)), (cR, celO (some (.ref ra))), (ra, lsto (rulV a b tg t) rn), (m1, lsto (intV xs1) 0), (it, lstIt (.ref rls) 1), (rls, lsto [.ref ra, .ref rb] m), (rb, lsto (rulV a' b' tg' t') rn')] ++ rest) 0 s₃ := R₆
    have R7 : Rel J B os dr ([(it, lstIt (.ref rls) 1), (rls, lsto [.ref ra, .ref rb] m), (cM, celO (some (.ref mk))), (mk, lsto ([] ++ [.ref m1]) (0 + 1)), (cR, celO (some (.ref ra))), (ra, lsto (rulV a b tg t) rn), (rb, lsto (rulV a' b' tg' t') rn'), (m1, lsto (intV xs1) 0)] ++ rest) 0 s₃ := Rel.sel R6 [5, 6, 0, 1, 2, 3, 7, 4] [] rfl
    exact ⟨2, by omega, .inr (.inl ⟨rfl, m1, xs1, e1, R7⟩)⟩
  · skip
    refine next_front (fT_eq w) hA' hd14 hK (Hp := [_, _]) Rl fun v => ⟨some (.ref rb), _, 0, _, du_n1 w.params _ _ _ L cA cP cR cM cF it rls ra rb m v, okD_of _ _ _ _ trivial trivial, fun s₁ R₁ => ?_⟩
    dsimp only
    refine du_go ?_
    have R2 : Rel J B os dr ([(it, lstIt (.ref rls) 2), (rls, lsto [.ref ra, .ref rb] m), (cM, celO (some (.ref mk))), (mk, lsto [.ref m1] 1), (cR, celO (some (.ref ra))), (ra, lsto (rulV a b tg t) rn), (rb, lsto (rulV a' b' tg' t') rn'), (m1, lsto (intV xs1) 0)] ++ rest) 0 s₁ := R₁
    have R3 : Rel J B os dr ([(cR, celO (some (.ref ra))), (it, lstIt (.ref rls) 2), (rls, lsto [.ref ra, .ref rb] m), (cM, celO (some (.ref mk))), (mk, lsto [.ref m1] 1), (ra, lsto (rulV a b tg t) rn), (rb, lsto (rulV a' b' tg' t') rn'), (m1, lsto (intV xs1) 0)] ++ rest) 0 s₁ := Rel.sel R2 [4, 0, 1, 2, 3, 5, 6, 7] [] rfl
    refine assign_front2 (fT_eq w) hA' hd14 hK (Hp := [_]) R3 (fun v => du_a w.params _ _ _ L cA cP cR cM cF rb (some (.ref ra)) v) (fun v => okD_of _ _ _ _ trivial trivial) fun v s₂ R₄ => ?_
    have R4 : Rel J B os dr ([(cR, celO (some (.ref rb))), (it, lstIt (.ref rls) 2), (rls, lsto [.ref ra, .ref rb] m), (cM, celO (some (.ref mk))), (mk, lsto [.ref m1] 1), (ra, lsto (rulV a b tg t) rn), (rb, lsto (rulV a' b' tg' t') rn'), (m1, lsto (intV xs1) 0)] ++ rest) 0 s₂ := R₄
    have R5 : Rel J B os dr ([(cM, celO (some (.ref mk))), (mk, lsto [.ref m1] 1), (cR, celO (some (.ref rb))), (rb, lsto (rulV a' b' tg' t') rn'), (it, lstIt (.ref rls) 2), (rls, lsto [.ref ra, .ref rb] m), (ra, lsto (rulV a b tg t) rn), (m1, lsto (intV xs1) 0)] ++ rest) 0 s₂ := Rel.sel R4 [3, 4, 0, 6, 1, 2, 5, 7] [] rfl
    refine du_body htg' hA' hd14 hd9 hK (by simp) R5 fun m2 xs2 s₃ e2 R₆ => ?_
    have R6 : Rel J B os dr ([(cM, celO (some (.ref mk))), (mk, lsto ([.ref m1] ++ [.ref m2]) (1 + 1)), (cR, celO (some (.ref rb))), (rb, lsto (rulV a' b' tg' t') rn'), (m2, lsto (intV xs2) 0), (it, lstIt (.ref rls) 2), (rls, lsto [.ref ra, .ref rb] m), (ra, lsto (rulV a b tg t) rn), (m1, lsto (intV xs1) 0)] ++ rest) 0 s₃ := R₆
    have R7 : Rel J B os dr ([(it, lstIt (.ref rls) 2), (rls, lsto [.ref ra, .ref rb] m), (cM, celO (some (.ref mk))), (mk, lsto ([.ref m1] ++ [.ref m2]) (1 + 1)), (cR, celO (some (.ref rb))), (ra, lsto (rulV a b tg t) rn), (rb, lsto (rulV a' b' tg' t') rn'), (m1, lsto (intV xs1) 0), (m2, lsto (intV xs2) 0)] ++ rest) 0 s₃ := Rel.sel R6 [5, 6, 0, 1, 2, 7, 3, 8, 4] [] rfl
    exact ⟨1, by omega, .inr (.inr ⟨rfl, m1, xs1, m2, xs2, e1, e2, R7⟩)⟩
  · refine next_front (fT_eq w) hA' hd14 hK (Hp := [_, _]) Rl fun v => ⟨none, _, 0, _, du_n2 w.params _ _ _ L cA cP cR cM cF it rls ra rb m v, okD_of _ _ _ _ trivial trivial, fun s₁ R₁ => ?_⟩
    dsimp only
    exact wpAny_execs_nil (hR m1 m2 xs1 xs2 s₁ e1 e2 R₁)
end
end Mine
end
-- V52
section
open PySem PySem.Spec PySem.Calls PyProof.Rows PySem.W PySem.W.X
namespace Mine
noncomputable def nX : Str := ⟨⟨[120]⟩⟩
noncomputable def dO (P : Params) : Expr := asE (stm P 116 2)
noncomputable def dI (P : Params) : Expr := lcE (dO P)
noncomputable def dE1 (P : Params) (L cA cP cR cM cF D1 c2 : Nat) : Env := envK (E116 P L cA cP cR cM cF) (lcS (dO P)) D1 [(nX, c2), (nFiles, cF)]
noncomputable def dE2 (P : Params) (L cA cP cR cM cF D1 c2 D2 : Nat) : Env := envK (dE1 P L cA cP cR cM cF D1 c2) (lcS (dI P)) D2 [(nX, c2)]

theorem dl_t0 (P : Params) (b1 b2 : Bool) (S : ST) (it acc fl n mx L cA cP cR cM cF D1 c2 D2 i k ra tm ts : Nat) (ro : Obj) (G : Str) (m s : Int) (vs ws : List Value) (u : Nat → Nat) :
    trimO [true, true, true, true, true, false, false, false, true, true] (run (ftP P b1 b2) (KP P) S 83 c0 none 0 [] (den (.compLoop (dI P) 0 (.ref it) (.ref acc) (dE2 P L cA cP cR cM cF D1 c2 D2))) [(ra, tupO [.int m tm, .int s ts]), (it, lstIt (.ref fl) (i : Int)), (fl, lsto vs n), (c2, celO (some (.ref mx))), (mx, ro), (acc, lsto ws k), (D2, dicO [] 0)] 0 (mkU 7 u) 1896674656835968058353958304291341813816481083003406228386465213345875854035808194 [ceNx [false, true, true] it fl vs n i (.ref ra), ceKeep [false, false, true] mx ro G, ceApS [false, false, true] acc ws k G] True) =
    some ⟨.fin (.again (.compLoop (dI P) 0 (.ref it) (.ref acc) (dE2 P L cA cP cR cM cF D1 c2 D2))), [(ra, tupO [(.int m tm), (.int s ts)]), (c2, celO (some (.ref mx))), (D2, dicO [en (hs P ⟨⟨[109, 111, 100, 101]⟩⟩) (u 3) (⟨⟨[109, 111, 100, 101]⟩⟩) (.int m tm), en (hs P ⟨⟨[115, 105, 122, 101]⟩⟩) (u 4) (⟨⟨[115, 105, 122, 101]⟩⟩) (.int s ts)] 2), (it, lstIt (.ref fl) (((i + 1) : Nat) : Int)), (fl, lsto (vs) n), (mx, ro), (acc, lsto (ws ++ [Value.str G (getU (noH [(acc, lsto ws k)] [u 6]) 0)]) (k + 1))], 0, okD 45 1896674656835968058353958304291341813816481083003406228386465213345875854035808194 [ra, it, fl, c2, mx, acc, D2] [(S (.call (.builtin "list_iterator.__next__") ⟨[(.ref it)], []⟩) [(it, lstIt (.ref fl) (((i) : Nat) : Int)), (fl, lsto (vs) n)] 0 (ceNx [false, true, true] it fl vs n i (.ref ra)).n (ceNx [false, true, true] it fl vs n i (.ref ra)).f (ceNx [false, true, true] it fl vs n i (.ref ra)).j, fun _ => [ra, c2, mx, acc, D2, it, fl, u 0, u 1, u 2]), (S (.call (.ref 111) ⟨[(.int m tm), (.int s ts), (.ref mx)], []⟩) [(mx, ro)] 0 (ceKeep [false, false, true] mx ro G).n (ceKeep [false, false, true] mx ro G).f (ceKeep [false, false, true] mx ro G).j, fun _ => [ra, c2, acc, D2, it, fl, u 0, u 1, u 2, mx]), (S (.call (.builtin "list.append") ⟨[(.ref acc), (.str G (u 5))], []⟩) [(acc, lsto (ws) k)] 0 (ceApS [false, false, true] acc ws k G).n (ceApS [false, false, true] acc ws k G).f (ceApS [false, false, true] acc ws k G).j, fun _ => [ra, c2, D2, it, fl, u 0, u 1, u 2, mx, acc])] True⟩ := by cases b1 <;> kernel_rfl!
theorem dl_t1 (P : Params) (b1 b2 : Bool) (S : ST) (it acc fl n mx L cA cP cR cM cF D1 c2 D2 i k ra tm ts : Nat) (ro : Obj) (G : Str) (m s : Int) (vs ws : List Value) (h : Nat → Int) (q : Nat → Nat) (dn : Nat) (v1 v2 : Value) (u : Nat → Nat) :
    trimO [true, true, true, true, true, false, false, false, true, true] (run (ftP P b1 b2) (KP P) S 83 c0 none 0 [] (den (.compLoop (dI P) 0 (.ref it) (.ref acc) (dE2 P L cA cP cR cM cF D1 c2 D2))) [(ra, tupO [.int m tm, .int s ts]), (it, lstIt (.ref fl) (i : Int)), (fl, lsto vs n), (c2, celO (some (.ref mx))), (mx, ro), (acc, lsto ws k), (D2, dicO [en (h 0) (q 0) nMode v1, en (h 1) (q 1) nSize v2] dn)] 0 (mkU 7 u) 1896674656835968058353958304291341813816481083003406228386465213345875854035808194 [ceNx [false, true, true] it fl vs n i (.ref ra), ceKeep [false, false, true] mx ro G, ceApS [false, false, true] acc ws k G] True) =
    some ⟨.fin (.again (.compLoop (dI P) 0 (.ref it) (.ref acc) (dE2 P L cA cP cR cM cF D1 c2 D2))), [(ra, tupO [(.int m tm), (.int s ts)]), (c2, celO (some (.ref mx))), (D2, dicO [en (h 0) (q 0) (⟨⟨[109, 111, 100, 101]⟩⟩) (.int m tm), en (h 1) (q 1) (⟨⟨[115, 105, 122, 101]⟩⟩) (.int s ts)] dn), (it, lstIt (.ref fl) (((i + 1) : Nat) : Int)), (fl, lsto (vs) n), (mx, ro), (acc, lsto (ws ++ [Value.str G (getU (noH [(acc, lsto ws k)] [u 6]) 0)]) (k + 1))], 0, okD 45 1896674656835968058353958304291341813816481083003406228386465213345875854035808194 [ra, it, fl, c2, mx, acc, D2] [(S (.call (.builtin "list_iterator.__next__") ⟨[(.ref it)], []⟩) [(it, lstIt (.ref fl) (((i) : Nat) : Int)), (fl, lsto (vs) n)] 0 (ceNx [false, true, true] it fl vs n i (.ref ra)).n (ceNx [false, true, true] it fl vs n i (.ref ra)).f (ceNx [false, true, true] it fl vs n i (.ref ra)).j, fun _ => [ra, c2, mx, acc, D2, it, fl, u 0, u 1, u 2]), (S (.call (.ref 111) ⟨[(.int m tm), (.int s ts), (.ref mx)], []⟩) [(mx, ro)] 0 (ceKeep [false, false, true] mx ro G).n (ceKeep [false, false, true] mx ro G).f (ceKeep [false, false, true] mx ro G).j, fun _ => [ra, c2, acc, D2, it, fl, u 0, u 1, u 2, mx]), (S (.call (.builtin "list.append") ⟨[(.ref acc), (.str G (u 5))], []⟩) [(acc, lsto (ws) k)] 0 (ceApS [false, false, true] acc ws k G).n (ceApS [false, false, true] acc ws k G).f (ceApS [false, false, true] acc ws k G).j, fun _ => [ra, c2, D2, it, fl, u 0, u 1, u 2, mx, acc])] True⟩ := by cases b1 <;> kernel_rfl!
theorem dl_e (P : Params) (b1 b2 : Bool) (S : ST) (it acc fl n L cA cP cR cM cF D1 c2 D2 i : Nat) (o : Obj) (u : Nat → Nat) :
    trimO [false, true] (run (ftP P b1 b2) (KP P) S 10 c0 none 0 [] (den (.compLoop (dI P) 0 (.ref it) (.ref acc) (dE2 P L cA cP cR cM cF D1 c2 D2))) [(it, lstIt (.ref fl) (i : Int)), (fl, o)] 0 (mkU 2 u) 20417 [ceNxE [true, true] it fl o i] True) =
    some ⟨.fin (.done .next), [(fl, o)], 0, okD 3 20417 [it, fl] [(S (.call (.builtin "list_iterator.__next__") ⟨[(.ref it)], []⟩) [(it, lstIt (.ref fl) (((i) : Nat) : Int)), (fl, o)] 0 (ceNxE [true, true] it fl o i).n (ceNxE [true, true] it fl o i).f (ceNxE [true, true] it fl o i).j, fun _ => [it, fl, u 0, u 1])] True⟩ := by cases b1 <;> kernel_rfl!

end Mine
end
-- V53
section
open PySem PySem.Spec PySem.Calls PyProof.Rows PySem.W PySem.W.X
namespace Mine
theorem dI_eq' (P : Params) : dI P = .ListComp (lcE (dI P)) (⟨(g1 (lcG (dI P))).target, (g1 (lcG (dI P))).iter, (g1 (lcG (dI P))).ifs, 0⟩ :: []) (lcS (dI P)) (lcP (dI P)) := by kernel_rfl!
noncomputable def dlL (M : List Int) (r : Row) : List Nat := dueL M r.m r.s
noncomputable def dueE (M : List Int) (rs : List Row) (fl n c2 mx acc D2 : Nat) (ro : Obj) (lst : Row) (P : Params) (x y : Nat) (ts : List Nat) : List Ent :=
  [(fl, lsto (rs.map fun r => .ref r.a) n), (c2, celO (some (.ref mx))), (mx, ro), (acc, lsto (txts (rs.map (dlL M)) ts) rs.length),
   (D2, dicO [en (hs P nMode) x nMode (.int lst.m lst.tm), en (hs P nSize) y nSize (.int lst.s lst.ts)] 2)]
noncomputable def dueF (M : List Int) (rs : List Row) (fl n c2 mx acc D2 : Nat) (ro : Obj) (P : Params) : CFn := fun us =>
  (.ok .next, dueE M rs fl n c2 mx acc D2 ro (rowAt rs (getU us 0)) P (getU us 1) (getU us 2) (dec (getU us 3)))
section
variable {w : World} {J : Nat → Array GenState → Prop} {B : Addr → Option Obj} {os : OsState} {dr : Drawn} {d : Nat}
theorem di_loop {A : Around} {R : Result → Shared → Prop} {rs : List Row} {xs : List (Int × Nat)} {it acc fl n mx mn L cA cP cR cM cF D1 c2 D2 : Nat}
    (hA : AOk (d - 16) A) (hd : 16 ≤ d) (hd9 : d ≤ 840) (hK : KIn (app (KP w.params) (rowsE rs)) B) (ok : RowsOk (KP w.params) rs) (hx : xs.length ≤ 1000)
    (hR : ∀ x y ts lst s', ts.length = rs.length → lst ∈ rs → Rel J B os dr (dueE (xs.map fun z : Int × Nat => z.1) rs fl n c2 mx acc D2 (lsto (intV xs) mn) lst w.params x y ts) 0 s' → R (.ok .next) s') :
    ∀ (todo done : List Row) (i x y : Nat) (ts : List Nat) (D : Obj) (s : Shared), rs = done ++ todo → i = done.length → ts.length = i →
      ((done = [] ∧ D = dicO [] 0) ∨ (∃ lst ∈ rs, D = dicO [en (hs w.params nMode) x nMode (.int lst.m lst.tm), en (hs w.params nSize) y nSize (.int lst.s lst.ts)] 2)) →
      Rel J B os dr [(it, lstIt (.ref fl) (i : Int)), (fl, lsto (rs.map fun r => .ref r.a) n), (c2, celO (some (.ref mx))), (mx, lsto (intV xs) mn), (acc, lsto (txts (done.map (dlL (xs.map fun z : Int × Nat => z.1))) ts) i), (D2, D)] 0 s →
      codeAny (Mo w) A (.compLoop (dI w.params) 0 (.ref it) (.ref acc) (dE2 w.params L cA cP cR cM cF D1 c2 D2)) R s
  | [], done, i, x, y, ts, D, s, hrs, hi, hts, hD, Rl => by
    rw [List.append_nil] at hrs
    subst hrs
    subst hi
    rcases hD with ⟨rfl, _⟩ | ⟨lst, hl, rfl⟩
    · have := ok.len.1
      simp at this
    · refine code_front2 (fT_eq w) hA hd rfl hK.left (Hp := [_, _]) (rest := [_, _, _, _]) Rl (fun u => dl_e w.params _ _ _ it acc fl n L cA cP cR cM cF D1 c2 D2 rs.length _ u) (fun u => okD_of _ _ _ _ ⟨specNxE _ (by simp), trivial⟩ trivial) fun u s' R' => hR x y ts lst s' hts hl R'
  | r :: todo, done, i, x, y, ts, D, s, hrs, hi, hts, hD, Rl => by
    have hr : r ∈ rs := by rw [hrs]; simp
    have hb' := hK _ _ (ok.look hr)
    have Rb := Rl.borrow hb'
    have hK' := hK.left.del (ok.out r hr)
    have hv : (rs.map fun r => Value.ref r.a)[i]? = some (.ref r.a) := by rw [hi, hrs]; simp
    have hwl : (txts (done.map (dlL (xs.map fun z : Int × Nat => z.1))) ts).length ≤ 1000 := by
      rw [txts_len, List.length_map]
      have := ok.len.2
      rw [hrs, List.length_append, List.length_cons] at this
      omega
    have hds : (done.map (dlL (xs.map fun z : Int × Nat => z.1))).length = ts.length := by rw [List.length_map, hts, hi]
    have ew : ∀ z, txts (done.map (dlL (xs.map fun z : Int × Nat => z.1))) ts ++ [.str (mkS (dlL (xs.map fun z : Int × Nat => z.1) r)) z] = txts ((done ++ [r]).map (dlL (xs.map fun z : Int × Nat => z.1))) (ts ++ [z]) := fun z => by
      rw [List.map_append]; exact txts_snoc _ _ _ _ hds.symm
    have hrs' : rs = (done ++ [r]) ++ todo := by rw [hrs, List.append_assoc]; rfl
    have hi' : i + 1 = (done ++ [r]).length := by rw [List.length_append, hi]; rfl
    rcases hD with ⟨rfl, rfl⟩ | ⟨lst, hl, rfl⟩
    · have T := fun u => dl_t0 w.params (f1 w) (f2 w) (SP w (KP w.params) d J) it acc fl n mx L cA cP cR cM cF D1 c2 D2 i i r.a r.tm r.ts (lsto (intV xs) mn) (mkS (dlL (xs.map fun z : Int × Nat => z.1) r)) r.m r.s (rs.map fun r => .ref r.a) (txts (([] : List Row).map (dlL (xs.map fun z : Int × Nat => z.1))) ts) u
      refine code_front2 (fT_eq w) hA hd rfl hK' (Hp := [_, _, _, _, _, _, _]) (rest := []) Rb T (fun u => okD_of _ _ _ _ ⟨specNx _ hv, specLine hd9 (ok.sz r hr) hx, specApS _ hwl, trivial⟩ trivial) fun u s' R' => ⟨rfl, ?_⟩
      have R2 := (R'.giveback hb').reorder [2, 3, 0, 4, 5, 1] rfl
      have R3 : Rel J B os dr [(it, lstIt (.ref fl) ((i + 1 : Nat) : Int)), (fl, lsto (rs.map fun r => .ref r.a) n), (c2, celO (some (.ref mx))), (mx, lsto (intV xs) mn), (acc, lsto (txts (([] ++ [r]).map (dlL (xs.map fun z : Int × Nat => z.1))) (ts ++ [u 6])) (i + 1)), (D2, dicO [en (hs w.params nMode) (u 3) nMode (.int r.m r.tm), en (hs w.params nSize) (u 4) nSize (.int r.s r.ts)] 2)] 0 s' := by
        rw [← ew]; exact R2
      exact di_loop hA hd hd9 hK ok hx hR todo _ _ _ _ _ _ s' hrs' hi' (by rw [List.length_append, hts]; rfl) (.inr ⟨r, hr, rfl⟩) R3
    · have T := fun u => dl_t1 w.params (f1 w) (f2 w) (SP w (KP w.params) d J) it acc fl n mx L cA cP cR cM cF D1 c2 D2 i i r.a r.tm r.ts (lsto (intV xs) mn) (mkS (dlL (xs.map fun z : Int × Nat => z.1) r)) r.m r.s (rs.map fun r => .ref r.a) (txts (done.map (dlL (xs.map fun z : Int × Nat => z.1))) ts) (hMS w.params) (fun k => match k with | 0 => x | _ => y) 2 (.int lst.m lst.tm) (.int lst.s lst.ts) u
      refine code_front2 (fT_eq w) hA hd rfl hK' (Hp := [_, _, _, _, _, _, _]) (rest := []) Rb T (fun u => okD_of _ _ _ _ ⟨specNx _ hv, specLine hd9 (ok.sz r hr) hx, specApS _ hwl, trivial⟩ trivial) fun u s' R' => ⟨rfl, ?_⟩
      have R2 := (R'.giveback hb').reorder [2, 3, 0, 4, 5, 1] rfl
      have R3 : Rel J B os dr [(it, lstIt (.ref fl) ((i + 1 : Nat) : Int)), (fl, lsto (rs.map fun r => .ref r.a) n), (c2, celO (some (.ref mx))), (mx, lsto (intV xs) mn), (acc, lsto (txts ((done ++ [r]).map (dlL (xs.map fun z : Int × Nat => z.1))) (ts ++ [u 6])) (i + 1)), (D2, dicO [en (hs w.params nMode) x nMode (.int r.m r.tm), en (hs w.params nSize) y nSize (.int r.s r.ts)] 2)] 0 s' := by
        rw [← ew]; exact R2
      exact di_loop hA hd hd9 hK ok hx hR todo _ _ _ _ _ _ s' hrs' hi' (by rw [List.length_append, hts]; rfl) (.inr ⟨r, hr, rfl⟩) R3
theorem specDI {rs : List Row} {xs : List (Int × Nat)} {it acc fl n mx mn L cA cP cR cM cF D1 c2 D2 : Nat}
    (hd9 : d ≤ 820) (ok : RowsOk (KP w.params) rs) (hx : xs.length ≤ 1000) :
    Spec w (app (KP w.params) (rowsE rs)) d J (.compStart (dI w.params) 0 (.ref it) (.ref acc) (dE2 w.params L cA cP cR cM cF D1 c2 D2))
      [(it, lstIt (.ref fl) 0), (fl, lsto (rs.map fun r => .ref r.a) n), (c2, celO (some (.ref mx))), (mx, lsto (intV xs) mn), (acc, lsto [] 0), (D2, dicO [] 0)] 0 4
      (dueF (xs.map fun z : Int × Nat => z.1) rs fl n c2 mx acc D2 (lsto (intV xs) mn) w.params) 0 := by
  refine spec_code fun A B os dr s R hA hK Rl hR => ?_
  have hA' : AOk (d + 16 - 16) A := by rw [Nat.add_sub_cancel]; exact hA
  refine comp_start (dI_eq' w.params) (l := fl) (i := 0) ⟨_, Rl.at (i := 0) rfl, rfl, rfl⟩ ?_
  refine di_loop (d := d + 16) hA' (by omega) (by omega) hK ok hx (fun x y ts lst s' hts hl R' => ?_) rs [] 0 0 0 [] _ s rfl rfl rfl (.inl ⟨rfl, rfl⟩) Rl
  obtain ⟨k, hk⟩ := List.getElem?_of_mem hl
  have e : rowAt rs k = lst := by unfold rowAt; rw [hk]; rfl
  refine hR [k, x, y, enc ts] s' rfl ?_
  show Rel J B os dr (dueE _ rs fl n c2 mx acc D2 _ (rowAt rs k) w.params x y (dec (enc ts))) 0 s'
  rw [e, dec_enc]
  exact R'
end
end Mine
end
-- V54
section
open PySem PySem.Spec PySem.Calls PyProof.Rows PySem.W PySem.W.X
namespace Mine

theorem due_pt (P : Params) (b1 : Bool) (S : ST) (Rw : Frag) (L cA cP cR cM cF mk fl ma mb q : Nat) (fv : List Value) (fn : Nat) (ro ro2 : Obj) (pg pg2 : List Nat → List Value) (len : Nat) (v1 v2 w1 w2 : List Nat → Value) (u : Nat → Nat) :
    trimO [true, true, true, true, false, true, false, true, true, false, true, false, true, true] (run (ftP P b1 true) (app (KP P) Rw) S 146 c0 none 0 [] (flowZ [stm P 116 2] (E116 P L cA cP cR cM cF)) [(cP, celO none), (cM, celO (some (.ref mk))), (cF, celO (some (.ref fl))), (mk, lsto [.ref ma, .ref mb] q), (fl, lsto fv fn), (ma, ro), (mb, ro2)] 0 (mkU 20 u) 723853834682254504038081194081891009212453883274033105805883411723525697682542190982863235141062811029037894336124896827704636096770 [ceTI P [false, false, false, false, true, true, false, false, false, false, true, true, true, true] 0 1 (lsto fv fn) ro pg len v1 v2, ceTI P [false, false, false, false, true, false, false, false, true, true, false, false, false, true, true, true] 1 0 (lsto fv fn) ro2 pg2 len w1 w2] True) =
    some ⟨.fin (.done .next), [(cP, celO (some (.ref (u 1)))), (cM, celO (some (.ref mk))), (cF, celO (some (.ref fl))), (mk, lsto [(.ref ma), (.ref mb)] q), (u 1, lsto [(.ref (u 5)), (.ref (u 12))] 2), (ma, ro), (u 5, lsto (pg [fl, ma, u 3, u 4, u 5, u 6, u 7, u 8, u 9, u 10]) len), (fl, lsto (fv) fn), (mb, ro2), (u 12, lsto (pg2 [mb, fl, u 3, u 11, u 12, u 13, u 14, u 15, u 16, u 17]) len)], 0, okD 74 723853834682254504038081194081891009212453883274033105805883411723525697682542190982863235141062811029037894336124896827704636096770 [cP, cM, cF, mk, fl, ma, mb, u 0, u 1, u 2, u 3, u 4, u 5, u 6] [(S (.compStart (dI P) 0 (.ref (u 4)) (.ref (u 5)) (dE2 P L cA cP cR cM cF (u 2) (u 3) (u 6))) [(fl, lsto (fv) fn), (ma, ro), (u 3, celO (some (.ref ma))), (u 4, lstIt (.ref fl) 0), (u 5, lsto [] 0), (u 6, dicO [] 0)] 0 (ceTI P [false, false, false, false, true, true, false, false, false, false, true, true, true, true] 0 1 (lsto fv fn) ro pg len v1 v2).n ((ceTI P [false, false, false, false, true, true, false, false, false, false, true, true, true, true] 0 1 (lsto fv fn) ro pg len v1 v2).g [(fl, lsto (fv) fn), (ma, ro), (u 3, celO (some (.ref ma))), (u 4, lstIt (.ref fl) 0), (u 5, lsto [] 0), (u 6, dicO [] 0)]) (ceTI P [false, false, false, false, true, true, false, false, false, false, true, true, true, true] 0 1 (lsto fv fn) ro pg len v1 v2).j, fun _ => [cP, cM, cF, mk, mb, u 0, u 1, u 2, fl, u 3, ma, u 5, u 6, u 11, u 12, u 13]), (S (.compStart (dI P) 0 (.ref (u 11)) (.ref (u 12)) (dE2 P L cA cP cR cM cF (u 2) (u 3) (u 13))) [(mb, ro2), (fl, lsto (fv) fn), (u 3, celO (some (.ref mb))), (u 11, lstIt (.ref fl) 0), (u 12, lsto [] 0), (u 13, dicO [] 0)] 0 (ceTI P [false, false, false, false, true, false, false, false, true, true, false, false, false, true, true, true] 1 0 (lsto fv fn) ro2 pg2 len w1 w2).n ((ceTI P [false, false, false, false, true, false, false, false, true, true, false, false, false, true, true, true] 1 0 (lsto fv fn) ro2 pg2 len w1 w2).g [(mb, ro2), (fl, lsto (fv) fn), (u 3, celO (some (.ref mb))), (u 11, lstIt (.ref fl) 0), (u 12, lsto [] 0), (u 13, dicO [] 0)]) (ceTI P [false, false, false, false, true, false, false, false, true, true, false, false, false, true, true, true] 1 0 (lsto fv fn) ro2 pg2 len w1 w2).j, fun _ => [cP, cM, cF, mk, u 0, u 1, u 2, ma, u 5, u 6, fl, u 3, mb, u 12, u 13, u 18, u 19])] True⟩ := by cases b1 <;> kernel_rfl!
theorem due_pf (P : Params) (b1 : Bool) (S : ST) (Rw : Frag) (L cA cP cR cM cF mk fl ma mb q : Nat) (fv : List Value) (fn : Nat) (ro ro2 : Obj) (pg pg2 : List Nat → List Value) (len : Nat) (v1 v2 w1 w2 : List Nat → Value) (u : Nat → Nat) :
    trimO [true, true, true, true, false, true, false, true, true, false, true, false, true, true] (run (ftP P b1 false) (app (KP P) Rw) S 156 c0 none 0 [] (flowZ [stm P 116 2] (E116 P L cA cP cR cM cF)) [(cP, celO none), (cM, celO (some (.ref mk))), (cF, celO (some (.ref fl))), (mk, lsto [.ref ma, .ref mb] q), (fl, lsto fv fn), (ma, ro), (mb, ro2)] 0 (mkU 20 u) 777232136761118411598064666793587657600981036142543398864394244435361466340525425102895922842905680012886465629590015812181615717690359431426 [ceTI P [false, false, false, false, true, true, false, false, false, false, true, true, true, true] 0 1 (lsto fv fn) ro pg len v1 v2, ceTI P [false, false, false, false, true, false, false, false, true, true, false, false, false, true, true, true] 1 0 (lsto fv fn) ro2 pg2 len w1 w2] True) =
    some ⟨.fin (.done .next), [(cP, celO (some (.ref (u 1)))), (cM, celO (some (.ref mk))), (cF, celO (some (.ref fl))), (mk, lsto [(.ref ma), (.ref mb)] q), (u 1, lsto [(.ref (u 5)), (.ref (u 12))] 2), (ma, ro), (u 5, lsto (pg [fl, ma, u 3, u 4, u 5, u 6, u 7, u 8, u 9, u 10]) len), (fl, lsto (fv) fn), (mb, ro2), (u 12, lsto (pg2 [mb, fl, u 3, u 11, u 12, u 13, u 14, u 15, u 16, u 17]) len)], 0, okD 79 777232136761118411598064666793587657600981036142543398864394244435361466340525425102895922842905680012886465629590015812181615717690359431426 [cP, cM, cF, mk, fl, ma, mb, u 0, u 1, u 2, u 3, u 4, u 5, u 6] [(S (.compStart (dI P) 0 (.ref (u 4)) (.ref (u 5)) (dE2 P L cA cP cR cM cF (u 2) (u 3) (u 6))) [(fl, lsto (fv) fn), (ma, ro), (u 3, celO (some (.ref ma))), (u 4, lstIt (.ref fl) 0), (u 5, lsto [] 0), (u 6, dicO [] 0)] 0 (ceTI P [false, false, false, false, true, true, false, false, false, false, true, true, true, true] 0 1 (lsto fv fn) ro pg len v1 v2).n ((ceTI P [false, false, false, false, true, true, false, false, false, false, true, true, true, true] 0 1 (lsto fv fn) ro pg len v1 v2).g [(fl, lsto (fv) fn), (ma, ro), (u 3, celO (some (.ref ma))), (u 4, lstIt (.ref fl) 0), (u 5, lsto [] 0), (u 6, dicO [] 0)]) (ceTI P [false, false, false, false, true, true, false, false, false, false, true, true, true, true] 0 1 (lsto fv fn) ro pg len v1 v2).j, fun _ => [cP, cM, cF, mk, mb, u 0, u 1, u 2, fl, u 3, ma, u 5, u 6, u 11, u 12, u 13]), (S (.compStart (dI P) 0 (.ref (u 11)) (.ref (u 12)) (dE2 P L cA cP cR cM cF (u 2) (u 3) (u 13))) [(mb, ro2), (fl, lsto (fv) fn), (u 3, celO (some (.ref mb))), (u 11, lstIt (.ref fl) 0), (u 12, lsto [] 0), (u 13, dicO [] 0)] 0 (ceTI P [false, false, false, false, true, false, false, false, true, true, false, false, false, true, true, true] 1 0 (lsto fv fn) ro2 pg2 len w1 w2).n ((ceTI P [false, false, false, false, true, false, false, false, true, true, false, false, false, true, true, true] 1 0 (lsto fv fn) ro2 pg2 len w1 w2).g [(mb, ro2), (fl, lsto (fv) fn), (u 3, celO (some (.ref mb))), (u 11, lstIt (.ref fl) 0), (u 12, lsto [] 0), (u 13, dicO [] 0)]) (ceTI P [false, false, false, false, true, false, false, false, true, true, false, false, false, true, true, true] 1 0 (lsto fv fn) ro2 pg2 len w1 w2).j, fun _ => [cP, cM, cF, mk, u 0, u 1, u 2, ma, u 5, u 6, fl, u 3, mb, u 12, u 13, u 18, u 19])] True⟩ := by cases b1 <;> kernel_rfl!

end Mine
end
-- V55
section
open PySem PySem.Spec PySem.Calls PyProof.Rows PySem.W PySem.W.X
namespace Mine
noncomputable def fstI (z : Int × Nat) : Int := z.1
noncomputable def pgD (M : List Int) (rs : List Row) : List Nat → List Value := fun us => txts (rs.map (dlL M)) (dec (getU us 9))
section
variable {w : World} {J : Nat → Array GenState → Prop} {B : Addr → Option Obj} {os : OsState} {dr : Drawn} {d : Nat} {A : Around}
theorem specDI1 {rs : List Row} {xs : List (Int × Nat)} {it acc fl n mx mn L cA cP cR cM cF D1 c2 D2 : Nat} (m : List Bool)
    (hd9 : d ≤ 820) (ok : RowsOk (KP w.params) rs) (hx : xs.length ≤ 1000) :
    Spec w (app (KP w.params) (rowsE rs)) d J (.compStart (dI w.params) 0 (.ref it) (.ref acc) (dE2 w.params L cA cP cR cM cF D1 c2 D2))
      [(fl, lsto (rs.map fun r => .ref r.a) n), (mx, lsto (intV xs) mn), (c2, celO (some (.ref mx))), (it, lstIt (.ref fl) 0), (acc, lsto [] 0), (D2, dicO [] 0)] 0 4
      ((ceTI w.params m 0 1 (lsto (rs.map fun r => .ref r.a) n) (lsto (intV xs) mn) (pgD (xs.map fun z : Int × Nat => z.1) rs) rs.length (vM rs) (vS rs)).g [(fl, lsto (rs.map fun r => .ref r.a) n), (mx, lsto (intV xs) mn), (c2, celO (some (.ref mx))), (it, lstIt (.ref fl) 0), (acc, lsto [] 0), (D2, dicO [] 0)]) 0 :=
  (specDI (mn := mn) (n := n) hd9 ok hx).reHi (perm_m _ _ _ _ _ _) fun us hl => ⟨rfl, List.Perm.refl _⟩
theorem specDI2 {rs : List Row} {xs : List (Int × Nat)} {it acc fl n mx mn L cA cP cR cM cF D1 c2 D2 : Nat} (m : List Bool)
    (hd9 : d ≤ 820) (ok : RowsOk (KP w.params) rs) (hx : xs.length ≤ 1000) :
    Spec w (app (KP w.params) (rowsE rs)) d J (.compStart (dI w.params) 0 (.ref it) (.ref acc) (dE2 w.params L cA cP cR cM cF D1 c2 D2))
      [(mx, lsto (intV xs) mn), (fl, lsto (rs.map fun r => .ref r.a) n), (c2, celO (some (.ref mx))), (it, lstIt (.ref fl) 0), (acc, lsto [] 0), (D2, dicO [] 0)] 0 4
      ((ceTI w.params m 1 0 (lsto (rs.map fun r => .ref r.a) n) (lsto (intV xs) mn) (pgD (xs.map fun z : Int × Nat => z.1) rs) rs.length (vM rs) (vS rs)).g [(mx, lsto (intV xs) mn), (fl, lsto (rs.map fun r => .ref r.a) n), (c2, celO (some (.ref mx))), (it, lstIt (.ref fl) 0), (acc, lsto [] 0), (D2, dicO [] 0)]) 0 :=
  (specDI (mn := mn) (n := n) hd9 ok hx).reHi (perm_n _ _ _ _ _ _) fun us hl => ⟨rfl, List.Perm.refl _⟩
theorem due_pages {rs : List Row} {xs ys : List (Int × Nat)} {L cA cP cR cM cF mk fl ma mb q n xn yn : Nat} {rest : List Ent} {s : Shared} {Q : Flow → Shared → Prop} {E : Value → Shared → Prop}
    (hA' : AOk (d - 14) A) (hd14 : 14 ≤ d) (hd9 : d ≤ 820) (hK : KIn (app (KP w.params) (rowsE rs)) B) (ok : RowsOk (KP w.params) rs) (hx : xs.length ≤ 1000) (hy : ys.length ≤ 1000)
    (R : Rel J B os dr ([(cP, celO none), (cM, celO (some (.ref mk))), (cF, celO (some (.ref fl))), (mk, lsto [.ref ma, .ref mb] q), (fl, lsto (rs.map fun r => .ref r.a) n), (ma, lsto (intV xs) xn), (mb, lsto (intV ys) yn)] ++ rest) 0 s)
    (hQ : ∀ pg p0 p1 v0 v1 s', TxA v0 (rs.map (dlL (xs.map fun z : Int × Nat => z.1))) → TxA v1 (rs.map (dlL (ys.map fun z : Int × Nat => z.1))) →
      Rel J B os dr ([(cP, celO (some (.ref pg))), (cM, celO (some (.ref mk))), (cF, celO (some (.ref fl))), (mk, lsto [.ref ma, .ref mb] q), (pg, lsto [.ref p0, .ref p1] 2), (ma, lsto (intV xs) xn), (p0, lsto v0 rs.length), (fl, lsto (rs.map fun r => .ref r.a) n), (mb, lsto (intV ys) yn), (p1, lsto v1 rs.length)] ++ rest) 0 s' → Q .next s') :
    wpAny (Mo w) A (execs [stm w.params 116 2] (E116 w.params L cA cP cR cM cF)) Q E s := by
  have hA1 : A.depth + 14 ≤ d := by have := hA'.2.1; omega
  have hA2 : A.units + 42 ≤ 3 * d := by have := hA'.2.2; omega
  have tI1 : ∀ m it acc D1 c2 D2, _ := fun m it acc D1 c2 D2 => specDI1 (w := w) (J := J) (d := d) (rs := rs) (xs := xs) (mn := xn) (it := it) (acc := acc) (fl := fl) (n := n) (mx := ma) (L := L) (cA := cA) (cP := cP) (cR := cR) (cM := cM) (cF := cF) (D1 := D1) (c2 := c2) (D2 := D2) m hd9 ok hx
  have tI2 : ∀ m it acc D1 c2 D2, _ := fun m it acc D1 c2 D2 => specDI2 (w := w) (J := J) (d := d) (rs := rs) (xs := ys) (mn := yn) (it := it) (acc := acc) (fl := fl) (n := n) (mx := mb) (L := L) (cA := cA) (cP := cP) (cR := cR) (cM := cM) (cF := cF) (D1 := D1) (c2 := c2) (D2 := D2) m hd9 ok hy
  cases hbb : f2 w
  · have hP : ftP w.params (f1 w) false = w.params := hbb ▸ fT_eq w
    refine flow_h hP hA'.1 hA1 hA2 hK (Hp := [_, _, _, _, _, _, _]) R fun v => by
      have T := due_pf w.params (f1 w) (SP w (app (KP w.params) (rowsE rs)) d J) (rowsE rs) L cA cP cR cM cF mk fl ma mb q (rs.map fun r => .ref r.a) n (lsto (intV xs) xn) (lsto (intV ys) yn) (pgD (xs.map fun z : Int × Nat => z.1) rs) (pgD (ys.map fun z : Int × Nat => z.1) rs) rs.length (vM rs) (vS rs) (vM rs) (vS rs) v
      refine ⟨_, _, 0, _, T, ?_, fun s₂ R₂ => ?_⟩
      · refine okD_of _ _ _ _ ⟨?_, ?_, trivial⟩ trivial
        · exact tI1 _ _ _ _ _ _
        · exact tI2 _ _ _ _ _ _
      · exact hQ _ _ _ _ _ s₂ (txts_are _ _) (txts_are _ _) R₂
  · have hP : ftP w.params (f1 w) true = w.params := hbb ▸ fT_eq w
    refine flow_h hP hA'.1 hA1 hA2 hK (Hp := [_, _, _, _, _, _, _]) R fun v => by
      have T := due_pt w.params (f1 w) (SP w (app (KP w.params) (rowsE rs)) d J) (rowsE rs) L cA cP cR cM cF mk fl ma mb q (rs.map fun r => .ref r.a) n (lsto (intV xs) xn) (lsto (intV ys) yn) (pgD (xs.map fun z : Int × Nat => z.1) rs) (pgD (ys.map fun z : Int × Nat => z.1) rs) rs.length (vM rs) (vS rs) (vM rs) (vS rs) v
      refine ⟨_, _, 0, _, T, ?_, fun s₂ R₂ => ?_⟩
      · refine okD_of _ _ _ _ ⟨?_, ?_, trivial⟩ trivial
        · exact tI1 _ _ _ _ _ _
        · exact tI2 _ _ _ _ _ _
      · exact hQ _ _ _ _ _ s₂ (txts_are _ _) (txts_are _ _) R₂
end
end Mine
end
-- V56
section
open PySem PySem.Spec PySem.Calls PyProof.Rows PySem.W PySem.W.X
namespace Mine
noncomputable def aC (P : Params) : Expr := asE (stm P 116 3)
noncomputable def aE (P : Params) (L cA cP cR cM cF D : Nat) : Env := envK (E116 P L cA cP cR cM cF) (lcS (aC P)) D [(nMarks, cM)]
noncomputable def intP : List Int → List Nat → List (Int × Nat)
  | [], _ => []
  | x :: l, us => (x, us.headD 0) :: intP l us.tail
noncomputable def ceAl (P : Params) (m : List Bool) (mt q ma mb : Nat) (mo no : Obj) (A : List Int) : CE := ⟨none, m, 3, fun us => (.ok .next, [(getU us 0, celO (some (.ref mt))), (mt, lsto [.ref ma, .ref mb] q), (ma, mo), (mb, no), (getU us 5, lsto (intV (intP A (dec (getU us 9)))) A.length), (getU us 6, dicO [en (hs P nK) (getU us 7) nK (.int 8 (getU us 8))] 1)]), 0, addrH⟩

theorem al_tt0 (P : Params) (b1 b2 : Bool) (S : ST) (it acc mt q ma mb L cA cP cR cM cF D w : Nat) (x left : Int) (mn nn : Nat) (mv nv : List Value) (ws : List Value) (u : Nat → Nat) :
    trimO [true, true, true, true, true, true, true] (run (ftP P b1 b2) (KP P) S 57 c0 none 0 [] (den (.compLoop (aC P) 0 (.ref it) (.ref acc) (aE P L cA cP cR cM cF D))) [(it, ritO x left), (cM, celO (some (.ref mt))), (mt, lsto [.ref ma, .ref mb] q), (ma, lsto mv mn), (mb, lsto nv nn), (acc, lsto ws w), (D, dicO [] 0)] 0 (mkU 4 u) 89984563282721368069374223525129245097855578049 [ceRN [true] it x left, ceHas [false, false, true] ma (lsto mv mn) true, ceHas [false, false, true] mb (lsto nv nn) true] True) =
    some ⟨.fin (.again (.compLoop (aC P) 0 (.ref it) (.ref acc) (aE P L cA cP cR cM cF D))), [(cM, celO (some (.ref mt))), (mt, lsto [(.ref ma), (.ref mb)] q), (acc, lsto (ws) w), (D, dicO [en (hs P ⟨⟨[107]⟩⟩) (u 1) ⟨⟨[107]⟩⟩ (.int x (u 0))] 1), (it, ritO (x + 1) (left - 1)), (ma, lsto (mv) mn), (mb, lsto (nv) nn)], 0, okD 27 89984563282721368069374223525129245097855578049 [it, cM, mt, ma, mb, acc, D] [(S (.call (.builtin "range_iterator.__next__") ⟨[(.ref it)], []⟩) [(it, { cls := (.type "range_iterator"), data := (.fields ⟨[(.int x 0), (.int left 0), (.int 1 0)]⟩) })] 0 (ceRN [true] it x left).n (ceRN [true] it x left).f (ceRN [true] it x left).j, fun _ => [cM, mt, ma, mb, acc, D, it]), (S (.call (.builtin "list.__contains__") ⟨[(.ref ma), (.int x (u 0))], []⟩) [(ma, lsto (mv) mn)] 0 (ceHas [false, false, true] ma (lsto mv mn) true).n (ceHas [false, false, true] ma (lsto mv mn) true).f (ceHas [false, false, true] ma (lsto mv mn) true).j, fun _ => [cM, mt, mb, acc, D, it, ma]), (S (.call (.builtin "list.__contains__") ⟨[(.ref mb), (.int x (u 0))], []⟩) [(mb, lsto (nv) nn)] 0 (ceHas [false, false, true] mb (lsto nv nn) true).n (ceHas [false, false, true] mb (lsto nv nn) true).f (ceHas [false, false, true] mb (lsto nv nn) true).j, fun _ => [cM, mt, acc, D, it, ma, mb])] True⟩ := by cases b1 <;> kernel_rfl!
theorem al_tf0 (P : Params) (b1 b2 : Bool) (S : ST) (it acc mt q ma mb L cA cP cR cM cF D w : Nat) (x left : Int) (mn nn : Nat) (mv nv : List Value) (ws : List Value) (u : Nat → Nat) :
    trimO [true, true, true, true, true, true, true] (run (ftP P b1 b2) (KP P) S 60 c0 none 0 [] (den (.compLoop (aC P) 0 (.ref it) (.ref acc) (aE P L cA cP cR cM cF D))) [(it, ritO x left), (cM, celO (some (.ref mt))), (mt, lsto [.ref ma, .ref mb] q), (ma, lsto mv mn), (mb, lsto nv nn), (acc, lsto ws w), (D, dicO [] 0)] 0 (mkU 5 u) 23594572417633379432848357313595198198570472829382593 [ceRN [true] it x left, ceHas [false, false, true] ma (lsto mv mn) true, ceHas [false, false, true] mb (lsto nv nn) false, ceApI [false, false, true] acc ws w x] True) =
    some ⟨.fin (.again (.compLoop (aC P) 0 (.ref it) (.ref acc) (aE P L cA cP cR cM cF D))), [(cM, celO (some (.ref mt))), (mt, lsto [(.ref ma), (.ref mb)] q), (D, dicO [en (hs P ⟨⟨[107]⟩⟩) (u 1) ⟨⟨[107]⟩⟩ (.int x (u 0))] 1), (it, ritO (x + 1) (left - 1)), (ma, lsto (mv) mn), (mb, lsto (nv) nn), (acc, lsto (ws ++ [Value.int x (getU (noH [(acc, lsto ws w)] [u 4]) 0)]) (w + 1))], 0, okD 29 23594572417633379432848357313595198198570472829382593 [it, cM, mt, ma, mb, acc, D] [(S (.call (.builtin "range_iterator.__next__") ⟨[(.ref it)], []⟩) [(it, { cls := (.type "range_iterator"), data := (.fields ⟨[(.int x 0), (.int left 0), (.int 1 0)]⟩) })] 0 (ceRN [true] it x left).n (ceRN [true] it x left).f (ceRN [true] it x left).j, fun _ => [cM, mt, ma, mb, acc, D, it]), (S (.call (.builtin "list.__contains__") ⟨[(.ref ma), (.int x (u 0))], []⟩) [(ma, lsto (mv) mn)] 0 (ceHas [false, false, true] ma (lsto mv mn) true).n (ceHas [false, false, true] ma (lsto mv mn) true).f (ceHas [false, false, true] ma (lsto mv mn) true).j, fun _ => [cM, mt, mb, acc, D, it, ma]), (S (.call (.builtin "list.__contains__") ⟨[(.ref mb), (.int x (u 0))], []⟩) [(mb, lsto (nv) nn)] 0 (ceHas [false, false, true] mb (lsto nv nn) false).n (ceHas [false, false, true] mb (lsto nv nn) false).f (ceHas [false, false, true] mb (lsto nv nn) false).j, fun _ => [cM, mt, acc, D, it, ma, mb]), (S (.call (.builtin "list.append") ⟨[(.ref acc), (.int x (u 0))], []⟩) [(acc, lsto (ws) w)] 0 (ceApI [false, false, true] acc ws w x).n (ceApI [false, false, true] acc ws w x).f (ceApI [false, false, true] acc ws w x).j, fun _ => [cM, mt, D, it, ma, mb, acc])] True⟩ := by cases b1 <;> kernel_rfl!
theorem al_ft0 (P : Params) (b1 b2 : Bool) (S : ST) (it acc mt q ma mb L cA cP cR cM cF D w : Nat) (x left : Int) (mn nn : Nat) (mv nv : List Value) (ws : List Value) (u : Nat → Nat) :
    trimO [true, true, true, true, true, true, true] (run (ftP P b1 b2) (KP P) S 60 c0 none 0 [] (den (.compLoop (aC P) 0 (.ref it) (.ref acc) (aE P L cA cP cR cM cF D))) [(it, ritO x left), (cM, celO (some (.ref mt))), (mt, lsto [.ref ma, .ref mb] q), (ma, lsto mv mn), (mb, lsto nv nn), (acc, lsto ws w), (D, dicO [] 0)] 0 (mkU 5 u) 23594572417633379432848357313595198198570472829382593 [ceRN [true] it x left, ceHas [false, false, true] ma (lsto mv mn) false, ceHas [false, false, true] mb (lsto nv nn) true, ceApI [false, false, true] acc ws w x] True) =
    some ⟨.fin (.again (.compLoop (aC P) 0 (.ref it) (.ref acc) (aE P L cA cP cR cM cF D))), [(cM, celO (some (.ref mt))), (mt, lsto [(.ref ma), (.ref mb)] q), (D, dicO [en (hs P ⟨⟨[107]⟩⟩) (u 1) ⟨⟨[107]⟩⟩ (.int x (u 0))] 1), (it, ritO (x + 1) (left - 1)), (ma, lsto (mv) mn), (mb, lsto (nv) nn), (acc, lsto (ws ++ [Value.int x (getU (noH [(acc, lsto ws w)] [u 4]) 0)]) (w + 1))], 0, okD 29 23594572417633379432848357313595198198570472829382593 [it, cM, mt, ma, mb, acc, D] [(S (.call (.builtin "range_iterator.__next__") ⟨[(.ref it)], []⟩) [(it, { cls := (.type "range_iterator"), data := (.fields ⟨[(.int x 0), (.int left 0), (.int 1 0)]⟩) })] 0 (ceRN [true] it x left).n (ceRN [true] it x left).f (ceRN [true] it x left).j, fun _ => [cM, mt, ma, mb, acc, D, it]), (S (.call (.builtin "list.__contains__") ⟨[(.ref ma), (.int x (u 0))], []⟩) [(ma, lsto (mv) mn)] 0 (ceHas [false, false, true] ma (lsto mv mn) false).n (ceHas [false, false, true] ma (lsto mv mn) false).f (ceHas [false, false, true] ma (lsto mv mn) false).j, fun _ => [cM, mt, mb, acc, D, it, ma]), (S (.call (.builtin "list.__contains__") ⟨[(.ref mb), (.int x (u 0))], []⟩) [(mb, lsto (nv) nn)] 0 (ceHas [false, false, true] mb (lsto nv nn) true).n (ceHas [false, false, true] mb (lsto nv nn) true).f (ceHas [false, false, true] mb (lsto nv nn) true).j, fun _ => [cM, mt, acc, D, it, ma, mb]), (S (.call (.builtin "list.append") ⟨[(.ref acc), (.int x (u 0))], []⟩) [(acc, lsto (ws) w)] 0 (ceApI [false, false, true] acc ws w x).n (ceApI [false, false, true] acc ws w x).f (ceApI [false, false, true] acc ws w x).j, fun _ => [cM, mt, D, it, ma, mb, acc])] True⟩ := by cases b1 <;> kernel_rfl!
theorem al_ff0 (P : Params) (b1 b2 : Bool) (S : ST) (it acc mt q ma mb L cA cP cR cM cF D w : Nat) (x left : Int) (mn nn : Nat) (mv nv : List Value) (ws : List Value) (u : Nat → Nat) :
    trimO [true, true, true, true, true, true, true] (run (ftP P b1 b2) (KP P) S 57 c0 none 0 [] (den (.compLoop (aC P) 0 (.ref it) (.ref acc) (aE P L cA cP cR cM cF D))) [(it, ritO x left), (cM, celO (some (.ref mt))), (mt, lsto [.ref ma, .ref mb] q), (ma, lsto mv mn), (mb, lsto nv nn), (acc, lsto ws w), (D, dicO [] 0)] 0 (mkU 4 u) 89984563282721368069374223525129245097855578049 [ceRN [true] it x left, ceHas [false, false, true] ma (lsto mv mn) false, ceHas [false, false, true] mb (lsto nv nn) false] True) =
    some ⟨.fin (.again (.compLoop (aC P) 0 (.ref it) (.ref acc) (aE P L cA cP cR cM cF D))), [(cM, celO (some (.ref mt))), (mt, lsto [(.ref ma), (.ref mb)] q), (acc, lsto (ws) w), (D, dicO [en (hs P ⟨⟨[107]⟩⟩) (u 1) ⟨⟨[107]⟩⟩ (.int x (u 0))] 1), (it, ritO (x + 1) (left - 1)), (ma, lsto (mv) mn), (mb, lsto (nv) nn)], 0, okD 27 89984563282721368069374223525129245097855578049 [it, cM, mt, ma, mb, acc, D] [(S (.call (.builtin "range_iterator.__next__") ⟨[(.ref it)], []⟩) [(it, { cls := (.type "range_iterator"), data := (.fields ⟨[(.int x 0), (.int left 0), (.int 1 0)]⟩) })] 0 (ceRN [true] it x left).n (ceRN [true] it x left).f (ceRN [true] it x left).j, fun _ => [cM, mt, ma, mb, acc, D, it]), (S (.call (.builtin "list.__contains__") ⟨[(.ref ma), (.int x (u 0))], []⟩) [(ma, lsto (mv) mn)] 0 (ceHas [false, false, true] ma (lsto mv mn) false).n (ceHas [false, false, true] ma (lsto mv mn) false).f (ceHas [false, false, true] ma (lsto mv mn) false).j, fun _ => [cM, mt, mb, acc, D, it, ma]), (S (.call (.builtin "list.__contains__") ⟨[(.ref mb), (.int x (u 0))], []⟩) [(mb, lsto (nv) nn)] 0 (ceHas [false, false, true] mb (lsto nv nn) false).n (ceHas [false, false, true] mb (lsto nv nn) false).f (ceHas [false, false, true] mb (lsto nv nn) false).j, fun _ => [cM, mt, acc, D, it, ma, mb])] True⟩ := by cases b1 <;> kernel_rfl!
theorem al_tt1 (P : Params) (b1 b2 : Bool) (S : ST) (it acc mt q ma mb L cA cP cR cM cF D w : Nat) (x left : Int) (mn nn : Nat) (mv nv : List Value) (ws : List Value) (h : Int) (qq : Nat) (v : Value) (u : Nat → Nat) :
    trimO [true, true, true, true, true, true, true] (run (ftP P b1 b2) (KP P) S 57 c0 none 0 [] (den (.compLoop (aC P) 0 (.ref it) (.ref acc) (aE P L cA cP cR cM cF D))) [(it, ritO x left), (cM, celO (some (.ref mt))), (mt, lsto [.ref ma, .ref mb] q), (ma, lsto mv mn), (mb, lsto nv nn), (acc, lsto ws w), (D, dicO [en h qq nK v] 1)] 0 (mkU 4 u) 89984563282721368069374223525129245097855578049 [ceRN [true] it x left, ceHas [false, false, true] ma (lsto mv mn) true, ceHas [false, false, true] mb (lsto nv nn) true] True) =
    some ⟨.fin (.again (.compLoop (aC P) 0 (.ref it) (.ref acc) (aE P L cA cP cR cM cF D))), [(cM, celO (some (.ref mt))), (mt, lsto [(.ref ma), (.ref mb)] q), (acc, lsto (ws) w), (D, dicO [en h qq ⟨⟨[107]⟩⟩ (.int x (u 0))] 1), (it, ritO (x + 1) (left - 1)), (ma, lsto (mv) mn), (mb, lsto (nv) nn)], 0, okD 27 89984563282721368069374223525129245097855578049 [it, cM, mt, ma, mb, acc, D] [(S (.call (.builtin "range_iterator.__next__") ⟨[(.ref it)], []⟩) [(it, { cls := (.type "range_iterator"), data := (.fields ⟨[(.int x 0), (.int left 0), (.int 1 0)]⟩) })] 0 (ceRN [true] it x left).n (ceRN [true] it x left).f (ceRN [true] it x left).j, fun _ => [cM, mt, ma, mb, acc, D, it]), (S (.call (.builtin "list.__contains__") ⟨[(.ref ma), (.int x (u 0))], []⟩) [(ma, lsto (mv) mn)] 0 (ceHas [false, false, true] ma (lsto mv mn) true).n (ceHas [false, false, true] ma (lsto mv mn) true).f (ceHas [false, false, true] ma (lsto mv mn) true).j, fun _ => [cM, mt, mb, acc, D, it, ma]), (S (.call (.builtin "list.__contains__") ⟨[(.ref mb), (.int x (u 0))], []⟩) [(mb, lsto (nv) nn)] 0 (ceHas [false, false, true] mb (lsto nv nn) true).n (ceHas [false, false, true] mb (lsto nv nn) true).f (ceHas [false, false, true] mb (lsto nv nn) true).j, fun _ => [cM, mt, acc, D, it, ma, mb])] True⟩ := by cases b1 <;> kernel_rfl!
theorem al_tf1 (P : Params) (b1 b2 : Bool) (S : ST) (it acc mt q ma mb L cA cP cR cM cF D w : Nat) (x left : Int) (mn nn : Nat) (mv nv : List Value) (ws : List Value) (h : Int) (qq : Nat) (v : Value) (u : Nat → Nat) :
    trimO [true, true, true, true, true, true, true] (run (ftP P b1 b2) (KP P) S 60 c0 none 0 [] (den (.compLoop (aC P) 0 (.ref it) (.ref acc) (aE P L cA cP cR cM cF D))) [(it, ritO x left), (cM, celO (some (.ref mt))), (mt, lsto [.ref ma, .ref mb] q), (ma, lsto mv mn), (mb, lsto nv nn), (acc, lsto ws w), (D, dicO [en h qq nK v] 1)] 0 (mkU 5 u) 23594572417633379432848357313595198198570472829382593 [ceRN [true] it x left, ceHas [false, false, true] ma (lsto mv mn) true, ceHas [false, false, true] mb (lsto nv nn) false, ceApI [false, false, true] acc ws w x] True) =
    some ⟨.fin (.again (.compLoop (aC P) 0 (.ref it) (.ref acc) (aE P L cA cP cR cM cF D))), [(cM, celO (some (.ref mt))), (mt, lsto [(.ref ma), (.ref mb)] q), (D, dicO [en h qq ⟨⟨[107]⟩⟩ (.int x (u 0))] 1), (it, ritO (x + 1) (left - 1)), (ma, lsto (mv) mn), (mb, lsto (nv) nn), (acc, lsto (ws ++ [Value.int x (getU (noH [(acc, lsto ws w)] [u 4]) 0)]) (w + 1))], 0, okD 29 23594572417633379432848357313595198198570472829382593 [it, cM, mt, ma, mb, acc, D] [(S (.call (.builtin "range_iterator.__next__") ⟨[(.ref it)], []⟩) [(it, { cls := (.type "range_iterator"), data := (.fields ⟨[(.int x 0), (.int left 0), (.int 1 0)]⟩) })] 0 (ceRN [true] it x left).n (ceRN [true] it x left).f (ceRN [true] it x left).j, fun _ => [cM, mt, ma, mb, acc, D, it]), (S (.call (.builtin "list.__contains__") ⟨[(.ref ma), (.int x (u 0))], []⟩) [(ma, lsto (mv) mn)] 0 (ceHas [false, false, true] ma (lsto mv mn) true).n (ceHas [false, false, true] ma (lsto mv mn) true).f (ceHas [false, false, true] ma (lsto mv mn) true).j, fun _ => [cM, mt, mb, acc, D, it, ma]), (S (.call (.builtin "list.__contains__") ⟨[(.ref mb), (.int x (u 0))], []⟩) [(mb, lsto (nv) nn)] 0 (ceHas [false, false, true] mb (lsto nv nn) false).n (ceHas [false, false, true] mb (lsto nv nn) false).f (ceHas [false, false, true] mb (lsto nv nn) false).j, fun _ => [cM, mt, acc, D, it, ma, mb]), (S (.call (.builtin "list.append") ⟨[(.ref acc), (.int x (u 0))], []⟩) [(acc, lsto (ws) w)] 0 (ceApI [false, false, true] acc ws w x).n (ceApI [false, false, true] acc ws w x).f (ceApI [false, false, true] acc ws w x).j, fun _ => [cM, mt, D, it, ma, mb, acc])] True⟩ := by cases b1 <;> kernel_rfl!
theorem al_ft1 (P : Params) (b1 b2 : Bool) (S : ST) (it acc mt q ma mb L cA cP cR cM cF D w : Nat) (x left : Int) (mn nn : Nat) (mv nv : List Value) (ws : List Value) (h : Int) (qq : Nat) (v : Value) (u : Nat → Nat) :
    trimO [true, true, true, true, true, true, true] (run (ftP P b1 b2) (KP P) S 60 c0 none 0 [] (den (.compLoop (aC P) 0 (.ref it) (.ref acc) (aE P L cA cP cR cM cF D))) [(it, ritO x left), (cM, celO (some (.ref mt))), (mt, lsto [.ref ma, .ref mb] q), (ma, lsto mv mn), (mb, lsto nv nn), (acc, lsto ws w), (D, dicO [en h qq nK v] 1)] 0 (mkU 5 u) 23594572417633379432848357313595198198570472829382593 [ceRN [true] it x left, ceHas [false, false, true] ma (lsto mv mn) false, ceHas [false, false, true] mb (lsto nv nn) true, ceApI [false, false, true] acc ws w x] True) =
    some ⟨.fin (.again (.compLoop (aC P) 0 (.ref it) (.ref acc) (aE P L cA cP cR cM cF D))), [(cM, celO (some (.ref mt))), (mt, lsto [(.ref ma), (.ref mb)] q), (D, dicO [en h qq ⟨⟨[107]⟩⟩ (.int x (u 0))] 1), (it, ritO (x + 1) (left - 1)), (ma, lsto (mv) mn), (mb, lsto (nv) nn), (acc, lsto (ws ++ [Value.int x (getU (noH [(acc, lsto ws w)] [u 4]) 0)]) (w + 1))], 0, okD 29 23594572417633379432848357313595198198570472829382593 [it, cM, mt, ma, mb, acc, D] [(S (.call (.builtin "range_iterator.__next__") ⟨[(.ref it)], []⟩) [(it, { cls := (.type "range_iterator"), data := (.fields ⟨[(.int x 0), (.int left 0), (.int 1 0)]⟩) })] 0 (ceRN [true] it x left).n (ceRN [true] it x left).f (ceRN [true] it x left).j, fun _ => [cM, mt, ma, mb, acc, D, it]), (S (.call (.builtin "list.__contains__") ⟨[(.ref ma), (.int x (u 0))], []⟩) [(ma, lsto (mv) mn)] 0 (ceHas [false, false, true] ma (lsto mv mn) false).n (ceHas [false, false, true] ma (lsto mv mn) false).f (ceHas [false, false, true] ma (lsto mv mn) false).j, fun _ => [cM, mt, mb, acc, D, it, ma]), (S (.call (.builtin "list.__contains__") ⟨[(.ref mb), (.int x (u 0))], []⟩) [(mb, lsto (nv) nn)] 0 (ceHas [false, false, true] mb (lsto nv nn) true).n (ceHas [false, false, true] mb (lsto nv nn) true).f (ceHas [false, false, true] mb (lsto nv nn) true).j, fun _ => [cM, mt, acc, D, it, ma, mb]), (S (.call (.builtin "list.append") ⟨[(.ref acc), (.int x (u 0))], []⟩) [(acc, lsto (ws) w)] 0 (ceApI [false, false, true] acc ws w x).n (ceApI [false, false, true] acc ws w x).f (ceApI [false, false, true] acc ws w x).j, fun _ => [cM, mt, D, it, ma, mb, acc])] True⟩ := by cases b1 <;> kernel_rfl!
theorem al_ff1 (P : Params) (b1 b2 : Bool) (S : ST) (it acc mt q ma mb L cA cP cR cM cF D w : Nat) (x left : Int) (mn nn : Nat) (mv nv : List Value) (ws : List Value) (h : Int) (qq : Nat) (v : Value) (u : Nat → Nat) :
    trimO [true, true, true, true, true, true, true] (run (ftP P b1 b2) (KP P) S 57 c0 none 0 [] (den (.compLoop (aC P) 0 (.ref it) (.ref acc) (aE P L cA cP cR cM cF D))) [(it, ritO x left), (cM, celO (some (.ref mt))), (mt, lsto [.ref ma, .ref mb] q), (ma, lsto mv mn), (mb, lsto nv nn), (acc, lsto ws w), (D, dicO [en h qq nK v] 1)] 0 (mkU 4 u) 89984563282721368069374223525129245097855578049 [ceRN [true] it x left, ceHas [false, false, true] ma (lsto mv mn) false, ceHas [false, false, true] mb (lsto nv nn) false] True) =
    some ⟨.fin (.again (.compLoop (aC P) 0 (.ref it) (.ref acc) (aE P L cA cP cR cM cF D))), [(cM, celO (some (.ref mt))), (mt, lsto [(.ref ma), (.ref mb)] q), (acc, lsto (ws) w), (D, dicO [en h qq ⟨⟨[107]⟩⟩ (.int x (u 0))] 1), (it, ritO (x + 1) (left - 1)), (ma, lsto (mv) mn), (mb, lsto (nv) nn)], 0, okD 27 89984563282721368069374223525129245097855578049 [it, cM, mt, ma, mb, acc, D] [(S (.call (.builtin "range_iterator.__next__") ⟨[(.ref it)], []⟩) [(it, { cls := (.type "range_iterator"), data := (.fields ⟨[(.int x 0), (.int left 0), (.int 1 0)]⟩) })] 0 (ceRN [true] it x left).n (ceRN [true] it x left).f (ceRN [true] it x left).j, fun _ => [cM, mt, ma, mb, acc, D, it]), (S (.call (.builtin "list.__contains__") ⟨[(.ref ma), (.int x (u 0))], []⟩) [(ma, lsto (mv) mn)] 0 (ceHas [false, false, true] ma (lsto mv mn) false).n (ceHas [false, false, true] ma (lsto mv mn) false).f (ceHas [false, false, true] ma (lsto mv mn) false).j, fun _ => [cM, mt, mb, acc, D, it, ma]), (S (.call (.builtin "list.__contains__") ⟨[(.ref mb), (.int x (u 0))], []⟩) [(mb, lsto (nv) nn)] 0 (ceHas [false, false, true] mb (lsto nv nn) false).n (ceHas [false, false, true] mb (lsto nv nn) false).f (ceHas [false, false, true] mb (lsto nv nn) false).j, fun _ => [cM, mt, acc, D, it, ma, mb])] True⟩ := by cases b1 <;> kernel_rfl!
theorem al_e (P : Params) (b1 b2 : Bool) (S : ST) (it acc L cA cP cR cM cF D : Nat) (x : Int) (u : Nat → Nat) :
    trimO [] (run (ftP P b1 b2) (KP P) S 20 c0 none 0 [] (den (.compLoop (aC P) 0 (.ref it) (.ref acc) (aE P L cA cP cR cM cF D))) [(it, ritO x 0)] 0 (mkU 2 u) 207249215489 [] True) =
    some ⟨.fin (.done .next), [], 0, okD 7 207249215489 [it, u 0, u 1] [] True⟩ := by cases b1 <;> kernel_rfl!
theorem al_s (P : Params) (b1 b2 : Bool) (S : ST) (mt q ma mb L cA cP cR cM cF : Nat) (mn nn : Nat) (mv nv : List Value) (A : List Int) (u : Nat → Nat) :
    trimO [true, false, true, true, true, true, true] (run (ftP P b1 b2) (KP P) S 55 c0 none 0 [] (flowZ [stm P 116 3] (E116 P L cA cP cR cM cF)) [(cA, celO none), (cM, celO (some (.ref mt))), (mt, lsto [.ref ma, .ref mb] q), (ma, lsto mv mn), (mb, lsto nv nn)] 0 (mkU 10 u) 5540391356089525674119005544578371551232 [ceAl P [false, true, true, true, true, false, true, true, true] mt q ma mb (lsto mv mn) (lsto nv nn) A] True) =
    some ⟨.fin (.done .next), [(cA, celO (some (.ref (u 5)))), (cM, celO (some (.ref mt))), (mt, lsto [(.ref ma), (.ref mb)] q), (ma, lsto (mv) mn), (mb, lsto (nv) nn), (u 5, lsto (intV (intP A (dec (u 9)))) A.length)], 0, okD 23 5540391356089525674119005544578371551232 [cA, cM, mt, ma, mb, u 3, u 4, u 5, u 6] [(S (.compStart (aC P) 0 (.ref (u 4)) (.ref (u 5)) (aE P L cA cP cR cM cF (u 6))) [(cM, celO (some (.ref mt))), (mt, lsto [.ref ma, .ref mb] q), (ma, lsto mv mn), (mb, lsto nv nn), (u 4, ritO 1 8), (u 5, lsto [] 0), (u 6, dicO [] 0)] 0 (ceAl P [false, true, true, true, true, false, true, true, true] mt q ma mb (lsto mv mn) (lsto nv nn) A).n ((ceAl P [false, true, true, true, true, false, true, true, true] mt q ma mb (lsto mv mn) (lsto nv nn) A).g [(cM, celO (some (.ref mt))), (mt, lsto [.ref ma, .ref mb] q), (ma, lsto mv mn), (mb, lsto nv nn), (u 4, ritO 1 8), (u 5, lsto [] 0), (u 6, dicO [] 0)]) (ceAl P [false, true, true, true, true, false, true, true, true] mt q ma mb (lsto mv mn) (lsto nv nn) A).j, fun _ => [cA, u 3, cM, mt, ma, mb, u 5, u 6])] True⟩ := by cases b1 <;> kernel_rfl!

end Mine
end
-- V57
section
open PySem PySem.Spec PySem.Calls PyProof.Rows PySem.W PySem.W.X
namespace Mine
noncomputable def pC (P : Params) : Expr := asE (stm P 116 4)
noncomputable def pE (P : Params) (L cA cP cR cM cF D : Nat) : Env := envK (E116 P L cA cP cR cM cF) (lcS (pC P)) D [(nFiles, cF), (nAlone, cA)]
noncomputable def ceLAdd (m : List Bool) (al an : Nat) (av : List Value) (A : List Int) : CE := ⟨some "list.__add__", m, 2, fun us => (.ok (.ret (.ref (getU us 2))), [(al, lsto av an), (getU us 2, lsto (intV (intP A (dec (getU us 3)))) 0)]), 0, addrH⟩
noncomputable def ceAtI (m : List Bool) (x : Int) : CE := ⟨some "list.__getitem__", m, 1, fun us => (.ok (.ret (.int x (getU us 0))), []), 0, noH⟩
noncomputable def ceApt (P : Params) (m : List Bool) (fl al : Nat) (fo ao : Obj) (A : List Int) (v : List Nat → Value) : CE := ⟨none, m, 3, fun us => (.ok .next, [(getU us 0, celO (some (.ref al))), (getU us 1, celO (some (.ref fl))), (fl, fo), (al, ao), (getU us 5, lsto (intV (intP A (dec (getU us 9)))) A.length), (getU us 6, dicO [en (hs P nK) (getU us 7) nK (v us)] 1)]), 0, addrH⟩
noncomputable def ceLenL (m : List Bool) (l : Nat) (o : Obj) (nn : Int) : CE := ⟨some "len", m, 1, fun us => (.ok (.ret (.int nn (getU us 0))), [(l, o)]), 0, noH⟩
noncomputable def nApart : Str := ⟨⟨[97, 112, 97, 114, 116]⟩⟩
noncomputable def rE3 (h h2 : Int) (k k2 rls ap : Nat) : List DictEntry := [en h k nRulers (.ref rls), en h2 k2 nApart (.ref ap)]

theorem ap_t0 (P : Params) (b1 b2 : Bool) (S : ST) (it acc fl fln al an L cA cP cR cM cF D w ra tm ts : Nat) (x left m s A0 V : Int) (vs av ws : List Value) (A : List Int) (u : Nat → Nat) :
    trimO [true, true, true, true, true, true, true, true] (run (ftP P b1 b2) (KP P) S 66 c0 none 0 [] (den (.compLoop (pC P) 0 (.ref it) (.ref acc) (pE P L cA cP cR cM cF D))) [(ra, tupO [.int m tm, .int s ts]), (it, ritO x left), (cA, celO (some (.ref al))), (cF, celO (some (.ref fl))), (fl, lsto vs fln), (al, lsto av an), (acc, lsto ws w), (D, dicO [] 0)] 0 (mkU 12 u) 96690884775621127588604334919993783932886716711119388610 [ceRN [false, true] it x left, ceAt [false, false, false, true] fl (lsto vs fln) (.ref ra), ceLAdd [false, false, false, true, false, false, false, false, true] al an av A, ceAtI [false, false, false, false, false, false, false, false, true] A0, ceI "int.__pow__" V, ceB "int.__ge__" true, ceApI [false, false, false, true] acc ws w x] True) =
    some ⟨.fin (.again (.compLoop (pC P) 0 (.ref it) (.ref acc) (pE P L cA cP cR cM cF D))), [(ra, tupO [(.int m tm), (.int s ts)]), (cA, celO (some (.ref al))), (cF, celO (some (.ref fl))), (D, dicO [en (hs P ⟨⟨[107]⟩⟩) (u 1) ⟨⟨[107]⟩⟩ (.int x (u 0))] 1), (it, ritO (x + 1) (left - 1)), (fl, lsto (vs) fln), (al, lsto (av) an), (acc, lsto (ws ++ [Value.int x (getU (noH [(acc, lsto ws w)] [u 11]) 0)]) (w + 1))], 0, okD 31 96690884775621127588604334919993783932886716711119388610 [ra, it, cA, cF, fl, al, acc, D] [(S (.call (.builtin "range_iterator.__next__") ⟨[(.ref it)], []⟩) [(it, { cls := (.type "range_iterator"), data := (.fields ⟨[(.int x 0), (.int left 0), (.int 1 0)]⟩) })] 0 (ceRN [false, true] it x left).n (ceRN [false, true] it x left).f (ceRN [false, true] it x left).j, fun _ => [ra, cA, cF, fl, al, acc, D, it]), (S (.call (.builtin "list.__getitem__") ⟨[(.ref fl), (.int x (u 0))], []⟩) [(fl, lsto (vs) fln)] 0 (ceAt [false, false, false, true] fl (lsto vs fln) (.ref ra)).n (ceAt [false, false, false, true] fl (lsto vs fln) (.ref ra)).f (ceAt [false, false, false, true] fl (lsto vs fln) (.ref ra)).j, fun _ => [ra, cA, cF, al, acc, D, it, fl, u 5]), (S (.call (.builtin "list.__add__") ⟨[(.ref al), (.ref (u 5))], []⟩) [(al, lsto (av) an), (u 5, lsto [(.int 9 (u 4))] 0)] 0 (ceLAdd [false, false, false, true, false, false, false, false, true] al an av A).n ((ceLAdd [false, false, false, true, false, false, false, false, true] al an av A).g [(al, lsto (av) an), (u 5, lsto [(.int 9 (u 4))] 0)]) (ceLAdd [false, false, false, true, false, false, false, false, true] al an av A).j, fun _ => [ra, cA, cF, acc, D, it, fl, al, u 6]), (S (.call (.builtin "list.__getitem__") ⟨[(.ref (u 6)), (.int 0 (u 8))], []⟩) [(u 6, lsto (intV (intP A (dec (u 7)))) 0)] 0 (ceAtI [false, false, false, false, false, false, false, false, true] A0).n (ceAtI [false, false, false, false, false, false, false, false, true] A0).f (ceAtI [false, false, false, false, false, false, false, false, true] A0).j, fun _ => [ra, cA, cF, acc, D, it, fl, al]), (S (.call (.builtin "int.__pow__") ⟨[(.int 10 (u 3)), (.int A0 (u 9))], []⟩) [] 0 (ceI "int.__pow__" V).n (ceI "int.__pow__" V).f (ceI "int.__pow__" V).j, id), (S (.call (.builtin "int.__ge__") ⟨[(.int s ts), (.int V (u 10))], []⟩) [] 0 (ceB "int.__ge__" true).n (ceB "int.__ge__" true).f (ceB "int.__ge__" true).j, id), (S (.call (.builtin "list.append") ⟨[(.ref acc), (.int x (u 0))], []⟩) [(acc, lsto (ws) w)] 0 (ceApI [false, false, false, true] acc ws w x).n (ceApI [false, false, false, true] acc ws w x).f (ceApI [false, false, false, true] acc ws w x).j, fun _ => [ra, cA, cF, D, it, fl, al, acc])] True⟩ := by cases b1 <;> kernel_rfl!
theorem ap_f0 (P : Params) (b1 b2 : Bool) (S : ST) (it acc fl fln al an L cA cP cR cM cF D w ra tm ts : Nat) (x left m s A0 V : Int) (vs av ws : List Value) (A : List Int) (u : Nat → Nat) :
    trimO [true, true, true, true, true, true, true, true] (run (ftP P b1 b2) (KP P) S 63 c0 none 0 [] (den (.compLoop (pC P) 0 (.ref it) (.ref acc) (pE P L cA cP cR cM cF D))) [(ra, tupO [.int m tm, .int s ts]), (it, ritO x left), (cA, celO (some (.ref al))), (cF, celO (some (.ref fl))), (fl, lsto vs fln), (al, lsto av an), (acc, lsto ws w), (D, dicO [] 0)] 0 (mkU 11 u) 23939486939981944969226348028187459935938019631857602 [ceRN [false, true] it x left, ceAt [false, false, false, true] fl (lsto vs fln) (.ref ra), ceLAdd [false, false, false, true, false, false, false, false, true] al an av A, ceAtI [false, false, false, false, false, false, false, false, true] A0, ceI "int.__pow__" V, ceB "int.__ge__" false] True) =
    some ⟨.fin (.again (.compLoop (pC P) 0 (.ref it) (.ref acc) (pE P L cA cP cR cM cF D))), [(ra, tupO [(.int m tm), (.int s ts)]), (cA, celO (some (.ref al))), (cF, celO (some (.ref fl))), (acc, lsto (ws) w), (D, dicO [en (hs P ⟨⟨[107]⟩⟩) (u 1) ⟨⟨[107]⟩⟩ (.int x (u 0))] 1), (it, ritO (x + 1) (left - 1)), (fl, lsto (vs) fln), (al, lsto (av) an)], 0, okD 29 23939486939981944969226348028187459935938019631857602 [ra, it, cA, cF, fl, al, acc, D] [(S (.call (.builtin "range_iterator.__next__") ⟨[(.ref it)], []⟩) [(it, { cls := (.type "range_iterator"), data := (.fields ⟨[(.int x 0), (.int left 0), (.int 1 0)]⟩) })] 0 (ceRN [false, true] it x left).n (ceRN [false, true] it x left).f (ceRN [false, true] it x left).j, fun _ => [ra, cA, cF, fl, al, acc, D, it]), (S (.call (.builtin "list.__getitem__") ⟨[(.ref fl), (.int x (u 0))], []⟩) [(fl, lsto (vs) fln)] 0 (ceAt [false, false, false, true] fl (lsto vs fln) (.ref ra)).n (ceAt [false, false, false, true] fl (lsto vs fln) (.ref ra)).f (ceAt [false, false, false, true] fl (lsto vs fln) (.ref ra)).j, fun _ => [ra, cA, cF, al, acc, D, it, fl, u 5]), (S (.call (.builtin "list.__add__") ⟨[(.ref al), (.ref (u 5))], []⟩) [(al, lsto (av) an), (u 5, lsto [(.int 9 (u 4))] 0)] 0 (ceLAdd [false, false, false, true, false, false, false, false, true] al an av A).n ((ceLAdd [false, false, false, true, false, false, false, false, true] al an av A).g [(al, lsto (av) an), (u 5, lsto [(.int 9 (u 4))] 0)]) (ceLAdd [false, false, false, true, false, false, false, false, true] al an av A).j, fun _ => [ra, cA, cF, acc, D, it, fl, al, u 6]), (S (.call (.builtin "list.__getitem__") ⟨[(.ref (u 6)), (.int 0 (u 8))], []⟩) [(u 6, lsto (intV (intP A (dec (u 7)))) 0)] 0 (ceAtI [false, false, false, false, false, false, false, false, true] A0).n (ceAtI [false, false, false, false, false, false, false, false, true] A0).f (ceAtI [false, false, false, false, false, false, false, false, true] A0).j, fun _ => [ra, cA, cF, acc, D, it, fl, al]), (S (.call (.builtin "int.__pow__") ⟨[(.int 10 (u 3)), (.int A0 (u 9))], []⟩) [] 0 (ceI "int.__pow__" V).n (ceI "int.__pow__" V).f (ceI "int.__pow__" V).j, id), (S (.call (.builtin "int.__ge__") ⟨[(.int s ts), (.int V (u 10))], []⟩) [] 0 (ceB "int.__ge__" false).n (ceB "int.__ge__" false).f (ceB "int.__ge__" false).j, id)] True⟩ := by cases b1 <;> kernel_rfl!
theorem ap_t1 (P : Params) (b1 b2 : Bool) (S : ST) (it acc fl fln al an L cA cP cR cM cF D w ra tm ts : Nat) (x left m s A0 V : Int) (vs av ws : List Value) (A : List Int) (h : Int) (qq : Nat) (v : Value) (u : Nat → Nat) :
    trimO [true, true, true, true, true, true, true, true] (run (ftP P b1 b2) (KP P) S 66 c0 none 0 [] (den (.compLoop (pC P) 0 (.ref it) (.ref acc) (pE P L cA cP cR cM cF D))) [(ra, tupO [.int m tm, .int s ts]), (it, ritO x left), (cA, celO (some (.ref al))), (cF, celO (some (.ref fl))), (fl, lsto vs fln), (al, lsto av an), (acc, lsto ws w), (D, dicO [en h qq nK v] 1)] 0 (mkU 12 u) 96690884775621127588604334919993783932886716711119388610 [ceRN [false, true] it x left, ceAt [false, false, false, true] fl (lsto vs fln) (.ref ra), ceLAdd [false, false, false, true, false, false, false, false, true] al an av A, ceAtI [false, false, false, false, false, false, false, false, true] A0, ceI "int.__pow__" V, ceB "int.__ge__" true, ceApI [false, false, false, true] acc ws w x] True) =
    some ⟨.fin (.again (.compLoop (pC P) 0 (.ref it) (.ref acc) (pE P L cA cP cR cM cF D))), [(ra, tupO [(.int m tm), (.int s ts)]), (cA, celO (some (.ref al))), (cF, celO (some (.ref fl))), (D, dicO [en h qq ⟨⟨[107]⟩⟩ (.int x (u 0))] 1), (it, ritO (x + 1) (left - 1)), (fl, lsto (vs) fln), (al, lsto (av) an), (acc, lsto (ws ++ [Value.int x (getU (noH [(acc, lsto ws w)] [u 11]) 0)]) (w + 1))], 0, okD 31 96690884775621127588604334919993783932886716711119388610 [ra, it, cA, cF, fl, al, acc, D] [(S (.call (.builtin "range_iterator.__next__") ⟨[(.ref it)], []⟩) [(it, { cls := (.type "range_iterator"), data := (.fields ⟨[(.int x 0), (.int left 0), (.int 1 0)]⟩) })] 0 (ceRN [false, true] it x left).n (ceRN [false, true] it x left).f (ceRN [false, true] it x left).j, fun _ => [ra, cA, cF, fl, al, acc, D, it]), (S (.call (.builtin "list.__getitem__") ⟨[(.ref fl), (.int x (u 0))], []⟩) [(fl, lsto (vs) fln)] 0 (ceAt [false, false, false, true] fl (lsto vs fln) (.ref ra)).n (ceAt [false, false, false, true] fl (lsto vs fln) (.ref ra)).f (ceAt [false, false, false, true] fl (lsto vs fln) (.ref ra)).j, fun _ => [ra, cA, cF, al, acc, D, it, fl, u 5]), (S (.call (.builtin "list.__add__") ⟨[(.ref al), (.ref (u 5))], []⟩) [(al, lsto (av) an), (u 5, lsto [(.int 9 (u 4))] 0)] 0 (ceLAdd [false, false, false, true, false, false, false, false, true] al an av A).n ((ceLAdd [false, false, false, true, false, false, false, false, true] al an av A).g [(al, lsto (av) an), (u 5, lsto [(.int 9 (u 4))] 0)]) (ceLAdd [false, false, false, true, false, false, false, false, true] al an av A).j, fun _ => [ra, cA, cF, acc, D, it, fl, al, u 6]), (S (.call (.builtin "list.__getitem__") ⟨[(.ref (u 6)), (.int 0 (u 8))], []⟩) [(u 6, lsto (intV (intP A (dec (u 7)))) 0)] 0 (ceAtI [false, false, false, false, false, false, false, false, true] A0).n (ceAtI [false, false, false, false, false, false, false, false, true] A0).f (ceAtI [false, false, false, false, false, false, false, false, true] A0).j, fun _ => [ra, cA, cF, acc, D, it, fl, al]), (S (.call (.builtin "int.__pow__") ⟨[(.int 10 (u 3)), (.int A0 (u 9))], []⟩) [] 0 (ceI "int.__pow__" V).n (ceI "int.__pow__" V).f (ceI "int.__pow__" V).j, id), (S (.call (.builtin "int.__ge__") ⟨[(.int s ts), (.int V (u 10))], []⟩) [] 0 (ceB "int.__ge__" true).n (ceB "int.__ge__" true).f (ceB "int.__ge__" true).j, id), (S (.call (.builtin "list.append") ⟨[(.ref acc), (.int x (u 0))], []⟩) [(acc, lsto (ws) w)] 0 (ceApI [false, false, false, true] acc ws w x).n (ceApI [false, false, false, true] acc ws w x).f (ceApI [false, false, false, true] acc ws w x).j, fun _ => [ra, cA, cF, D, it, fl, al, acc])] True⟩ := by cases b1 <;> kernel_rfl!
theorem ap_f1 (P : Params) (b1 b2 : Bool) (S : ST) (it acc fl fln al an L cA cP cR cM cF D w ra tm ts : Nat) (x left m s A0 V : Int) (vs av ws : List Value) (A : List Int) (h : Int) (qq : Nat) (v : Value) (u : Nat → Nat) :
    trimO [true, true, true, true, true, true, true, true] (run (ftP P b1 b2) (KP P) S 63 c0 none 0 [] (den (.compLoop (pC P) 0 (.ref it) (.ref acc) (pE P L cA cP cR cM cF D))) [(ra, tupO [.int m tm, .int s ts]), (it, ritO x left), (cA, celO (some (.ref al))), (cF, celO (some (.ref fl))), (fl, lsto vs fln), (al, lsto av an), (acc, lsto ws w), (D, dicO [en h qq nK v] 1)] 0 (mkU 11 u) 23939486939981944969226348028187459935938019631857602 [ceRN [false, true] it x left, ceAt [false, false, false, true] fl (lsto vs fln) (.ref ra), ceLAdd [false, false, false, true, false, false, false, false, true] al an av A, ceAtI [false, false, false, false, false, false, false, false, true] A0, ceI "int.__pow__" V, ceB "int.__ge__" false] True) =
    some ⟨.fin (.again (.compLoop (pC P) 0 (.ref it) (.ref acc) (pE P L cA cP cR cM cF D))), [(ra, tupO [(.int m tm), (.int s ts)]), (cA, celO (some (.ref al))), (cF, celO (some (.ref fl))), (acc, lsto (ws) w), (D, dicO [en h qq ⟨⟨[107]⟩⟩ (.int x (u 0))] 1), (it, ritO (x + 1) (left - 1)), (fl, lsto (vs) fln), (al, lsto (av) an)], 0, okD 29 23939486939981944969226348028187459935938019631857602 [ra, it, cA, cF, fl, al, acc, D] [(S (.call (.builtin "range_iterator.__next__") ⟨[(.ref it)], []⟩) [(it, { cls := (.type "range_iterator"), data := (.fields ⟨[(.int x 0), (.int left 0), (.int 1 0)]⟩) })] 0 (ceRN [false, true] it x left).n (ceRN [false, true] it x left).f (ceRN [false, true] it x left).j, fun _ => [ra, cA, cF, fl, al, acc, D, it]), (S (.call (.builtin "list.__getitem__") ⟨[(.ref fl), (.int x (u 0))], []⟩) [(fl, lsto (vs) fln)] 0 (ceAt [false, false, false, true] fl (lsto vs fln) (.ref ra)).n (ceAt [false, false, false, true] fl (lsto vs fln) (.ref ra)).f (ceAt [false, false, false, true] fl (lsto vs fln) (.ref ra)).j, fun _ => [ra, cA, cF, al, acc, D, it, fl, u 5]), (S (.call (.builtin "list.__add__") ⟨[(.ref al), (.ref (u 5))], []⟩) [(al, lsto (av) an), (u 5, lsto [(.int 9 (u 4))] 0)] 0 (ceLAdd [false, false, false, true, false, false, false, false, true] al an av A).n ((ceLAdd [false, false, false, true, false, false, false, false, true] al an av A).g [(al, lsto (av) an), (u 5, lsto [(.int 9 (u 4))] 0)]) (ceLAdd [false, false, false, true, false, false, false, false, true] al an av A).j, fun _ => [ra, cA, cF, acc, D, it, fl, al, u 6]), (S (.call (.builtin "list.__getitem__") ⟨[(.ref (u 6)), (.int 0 (u 8))], []⟩) [(u 6, lsto (intV (intP A (dec (u 7)))) 0)] 0 (ceAtI [false, false, false, false, false, false, false, false, true] A0).n (ceAtI [false, false, false, false, false, false, false, false, true] A0).f (ceAtI [false, false, false, false, false, false, false, false, true] A0).j, fun _ => [ra, cA, cF, acc, D, it, fl, al]), (S (.call (.builtin "int.__pow__") ⟨[(.int 10 (u 3)), (.int A0 (u 9))], []⟩) [] 0 (ceI "int.__pow__" V).n (ceI "int.__pow__" V).f (ceI "int.__pow__" V).j, id), (S (.call (.builtin "int.__ge__") ⟨[(.int s ts), (.int V (u 10))], []⟩) [] 0 (ceB "int.__ge__" false).n (ceB "int.__ge__" false).f (ceB "int.__ge__" false).j, id)] True⟩ := by cases b1 <;> kernel_rfl!
theorem ap_e (P : Params) (b1 b2 : Bool) (S : ST) (it acc L cA cP cR cM cF D : Nat) (x : Int) (u : Nat → Nat) :
    trimO [] (run (ftP P b1 b2) (KP P) S 20 c0 none 0 [] (den (.compLoop (pC P) 0 (.ref it) (.ref acc) (pE P L cA cP cR cM cF D))) [(it, ritO x 0)] 0 (mkU 2 u) 207249215489 [] True) =
    some ⟨.fin (.done .next), [], 0, okD 7 207249215489 [it, u 0, u 1] [] True⟩ := by cases b1 <;> kernel_rfl!
theorem ap_s (P : Params) (b1 b2 : Bool) (S : ST) (Rw : Frag) (fl al L cA cP cR cM cF rls k n : Nat) (h nn : Int) (fo ao : Obj) (A : List Int) (v : List Nat → Value) (u : Nat → Nat) :
    trimO [true, true, true, true, true, true] (run (ftP P b1 b2) (app (KP P) Rw) S 44 c0 none 0 [] (flowZ [stm P 116 4] (E116 P L cA cP cR cM cF)) [(L, fro (rE1 h k rls) n), (cA, celO (some (.ref al))), (cF, celO (some (.ref fl))), (fl, fo), (al, ao)] 0 (mkU 12 u) 563398429177099912417315389440 [ceLenL [false, false, false, true] fl fo nn, ceRan nn, ceRI [false, false, false, false, false, true] nn, ceApt P [false, true, true, true, true, true, true, true] fl al fo ao A v] True) =
    some ⟨.fin (.done .next), [(L, fro (rE3 h (hs P nApart) k (u 11) rls (u 6)) (n + 1)), (cA, celO (some (.ref al))), (cF, celO (some (.ref fl))), (fl, fo), (al, ao), (u 6, lsto (intV (intP A (dec (u 10)))) A.length)], 0, okD 17 563398429177099912417315389440 [L, cA, cF, fl, al] [(S (.call (.builtin "len") ⟨[(.ref fl)], []⟩) [(fl, fo)] 0 (ceLenL [false, false, false, true] fl fo nn).n (ceLenL [false, false, false, true] fl fo nn).f (ceLenL [false, false, false, true] fl fo nn).j, fun _ => [L, cA, cF, al, fl, u 1]), (S (.call (.type "range") ⟨[(.int nn (u 0))], []⟩) [] 0 (ceRan nn).n (ceRan nn).f (ceRan nn).j, id), (S (.call (.builtin "range.__iter__") ⟨[(.ref (u 1))], []⟩) [(u 1, { cls := (.type "range"), data := (.fields ⟨[(.int 0 (u 2)), (.int nn (u 3)), (.int 1 (u 4))]⟩) })] 0 (ceRI [false, false, false, false, false, true] nn).n (ceRI [false, false, false, false, false, true] nn).f (ceRI [false, false, false, false, false, true] nn).j, fun _ => [L, cA, cF, al, fl, u 5, u 6, u 7]), (S (.compStart (pC P) 0 (.ref (u 5)) (.ref (u 6)) (pE P L cA cP cR cM cF (u 7))) [(cA, celO (some (.ref al))), (cF, celO (some (.ref fl))), (al, ao), (fl, fo), (u 5, ritO 0 nn), (u 6, lsto [] 0), (u 7, dicO [] 0)] 0 (ceApt P [false, true, true, true, true, true, true, true] fl al fo ao A v).n ((ceApt P [false, true, true, true, true, true, true, true] fl al fo ao A v).g [(cA, celO (some (.ref al))), (cF, celO (some (.ref fl))), (al, ao), (fl, fo), (u 5, ritO 0 nn), (u 6, lsto [] 0), (u 7, dicO [] 0)]) (ceApt P [false, true, true, true, true, true, true, true] fl al fo ao A v).j, fun _ => [L, cA, cF, fl, al, u 6, u 7])] True⟩ := by cases b1 <;> kernel_rfl!

end Mine
end
-- V58
section
open PySem PySem.Spec PySem.Calls PyProof.Rows PySem.W PySem.W.X
namespace Mine
noncomputable def rT5 (P : Params) : Expr := lsE (asE (stm P 116 5)) 1
noncomputable def rC (P : Params) (i : Nat) : Expr := lsE (rT5 P) i
noncomputable def rE (P : Params) (i : Nat) (L cA cP cR cM cF D : Nat) : Env := envK (E116 P L cA cP cR cM cF) (lcS (rC P i)) D [(nPages, cP)]
noncomputable def ceAtS (m : List Bool) (l : Nat) (o : Obj) (x : Str) : CE := ⟨some "list.__getitem__", m, 1, fun us => (.ok (.ret (.str x (getU us 0))), [(l, o)]), 0, noH⟩
noncomputable def ceGt (P : Params) (d0 : Bool) (dv : List Nat → Value) (m : List Bool) (i0 : Nat) (pg p0 p1 gn pp : Nat) (po lo : Obj) (G : List (List Nat)) (il ia : Nat) : CE := ⟨none, m, 3, fun us => (.ok .next, [(getU us i0, celO (some (.ref pg))), (pg, lsto [.ref p0, .ref p1] gn), (pp, po), (getU us il, lo), (getU us ia, lsto (txts G (dec (getU us 7))) G.length), (getU us (ia + 1), match d0 with | true => dicO [] 0 | false => dicO [en (hs P nK) (getU us 8) nK (dv us)] 1)]), 0, addrH⟩

theorem rt0_0 (P : Params) (b1 b2 : Bool) (S : ST) (it acc al pg p0 p1 gn an L cA cP cR cM cF D w i tx : Nat) (x : Int) (pw : Nat) (pv : List Value) (G : Str) (vs ws : List Value) (u : Nat → Nat) :
    trimO [true, true, true, true, true, true, true] (run (ftP P b1 b2) (KP P) S 38 c0 none 0 [] (den (.compLoop (rC P 0) 0 (.ref it) (.ref acc) (rE P 0 L cA cP cR cM cF D))) [(it, lstIt (.ref al) (i : Int)), (cP, celO (some (.ref pg))), (pg, lsto [.ref p0, .ref p1] gn), (p0, lsto pv pw), (al, lsto vs an), (acc, lsto ws w), (D, dicO [] 0)] 0 (mkU 4 u) 319526000429660870558485176410049 [ceNx [true, false, false, false, true] it al vs an i (.int x tx), ceAtS [false, false, true] p0 (lsto pv pw) G, ceApS [false, false, true] acc ws w G] True) =
    some ⟨.fin (.again (.compLoop (rC P 0) 0 (.ref it) (.ref acc) (rE P 0 L cA cP cR cM cF D))), [(cP, celO (some (.ref pg))), (pg, lsto [(.ref p0), (.ref p1)] gn), (D, dicO [en (hs P ⟨⟨[107]⟩⟩) (u 0) ⟨⟨[107]⟩⟩ (.int x tx)] 1), (it, lstIt (.ref al) (((i + 1) : Nat) : Int)), (al, lsto (vs) an), (p0, lsto (pv) pw), (acc, lsto (ws ++ [Value.str G (getU (noH [(acc, lsto ws w)] [u 3]) 0)]) (w + 1))], 0, okD 18 319526000429660870558485176410049 [it, cP, pg, p0, al, acc, D] [(S (.call (.builtin "list_iterator.__next__") ⟨[(.ref it)], []⟩) [(it, lstIt (.ref al) (((i) : Nat) : Int)), (al, lsto (vs) an)] 0 (ceNx [true, false, false, false, true] it al vs an i (.int x tx)).n (ceNx [true, false, false, false, true] it al vs an i (.int x tx)).f (ceNx [true, false, false, false, true] it al vs an i (.int x tx)).j, fun _ => [cP, pg, p0, acc, D, it, al]), (S (.call (.builtin "list.__getitem__") ⟨[(.ref p0), (.int x tx)], []⟩) [(p0, lsto (pv) pw)] 0 (ceAtS [false, false, true] p0 (lsto pv pw) G).n (ceAtS [false, false, true] p0 (lsto pv pw) G).f (ceAtS [false, false, true] p0 (lsto pv pw) G).j, fun _ => [cP, pg, acc, D, it, al, p0]), (S (.call (.builtin "list.append") ⟨[(.ref acc), (.str G (u 2))], []⟩) [(acc, lsto (ws) w)] 0 (ceApS [false, false, true] acc ws w G).n (ceApS [false, false, true] acc ws w G).f (ceApS [false, false, true] acc ws w G).j, fun _ => [cP, pg, D, it, al, p0, acc])] True⟩ := by cases b1 <;> kernel_rfl!
theorem rt0_1 (P : Params) (b1 b2 : Bool) (S : ST) (it acc al pg p0 p1 gn an L cA cP cR cM cF D w i tx : Nat) (x : Int) (pw : Nat) (pv : List Value) (G : Str) (vs ws : List Value) (h : Int) (qq : Nat) (v : Value) (u : Nat → Nat) :
    trimO [true, true, true, true, true, true, true] (run (ftP P b1 b2) (KP P) S 38 c0 none 0 [] (den (.compLoop (rC P 0) 0 (.ref it) (.ref acc) (rE P 0 L cA cP cR cM cF D))) [(it, lstIt (.ref al) (i : Int)), (cP, celO (some (.ref pg))), (pg, lsto [.ref p0, .ref p1] gn), (p0, lsto pv pw), (al, lsto vs an), (acc, lsto ws w), (D, dicO [en h qq nK v] 1)] 0 (mkU 4 u) 319526000429660870558485176410049 [ceNx [true, false, false, false, true] it al vs an i (.int x tx), ceAtS [false, false, true] p0 (lsto pv pw) G, ceApS [false, false, true] acc ws w G] True) =
    some ⟨.fin (.again (.compLoop (rC P 0) 0 (.ref it) (.ref acc) (rE P 0 L cA cP cR cM cF D))), [(cP, celO (some (.ref pg))), (pg, lsto [(.ref p0), (.ref p1)] gn), (D, dicO [en h qq ⟨⟨[107]⟩⟩ (.int x tx)] 1), (it, lstIt (.ref al) (((i + 1) : Nat) : Int)), (al, lsto (vs) an), (p0, lsto (pv) pw), (acc, lsto (ws ++ [Value.str G (getU (noH [(acc, lsto ws w)] [u 3]) 0)]) (w + 1))], 0, okD 18 319526000429660870558485176410049 [it, cP, pg, p0, al, acc, D] [(S (.call (.builtin "list_iterator.__next__") ⟨[(.ref it)], []⟩) [(it, lstIt (.ref al) (((i) : Nat) : Int)), (al, lsto (vs) an)] 0 (ceNx [true, false, false, false, true] it al vs an i (.int x tx)).n (ceNx [true, false, false, false, true] it al vs an i (.int x tx)).f (ceNx [true, false, false, false, true] it al vs an i (.int x tx)).j, fun _ => [cP, pg, p0, acc, D, it, al]), (S (.call (.builtin "list.__getitem__") ⟨[(.ref p0), (.int x tx)], []⟩) [(p0, lsto (pv) pw)] 0 (ceAtS [false, false, true] p0 (lsto pv pw) G).n (ceAtS [false, false, true] p0 (lsto pv pw) G).f (ceAtS [false, false, true] p0 (lsto pv pw) G).j, fun _ => [cP, pg, acc, D, it, al, p0]), (S (.call (.builtin "list.append") ⟨[(.ref acc), (.str G (u 2))], []⟩) [(acc, lsto (ws) w)] 0 (ceApS [false, false, true] acc ws w G).n (ceApS [false, false, true] acc ws w G).f (ceApS [false, false, true] acc ws w G).j, fun _ => [cP, pg, D, it, al, p0, acc])] True⟩ := by cases b1 <;> kernel_rfl!
theorem rt0_e (P : Params) (b1 b2 : Bool) (S : ST) (it acc al L cA cP cR cM cF D i : Nat) (o : Obj) (u : Nat → Nat) :
    trimO [false, true] (run (ftP P b1 b2) (KP P) S 10 c0 none 0 [] (den (.compLoop (rC P 0) 0 (.ref it) (.ref acc) (rE P 0 L cA cP cR cM cF D))) [(it, lstIt (.ref al) (i : Int)), (al, o)] 0 (mkU 2 u) 20417 [ceNxE [true, true] it al o i] True) =
    some ⟨.fin (.done .next), [(al, o)], 0, okD 3 20417 [it, al] [(S (.call (.builtin "list_iterator.__next__") ⟨[(.ref it)], []⟩) [(it, lstIt (.ref al) (((i) : Nat) : Int)), (al, o)] 0 (ceNxE [true, true] it al o i).n (ceNxE [true, true] it al o i).f (ceNxE [true, true] it al o i).j, fun _ => [it, al, u 0, u 1])] True⟩ := by cases b1 <;> kernel_rfl!
theorem rt1_0 (P : Params) (b1 b2 : Bool) (S : ST) (it acc al pg p0 p1 gn an L cA cP cR cM cF D w i tx : Nat) (x : Int) (pw : Nat) (pv : List Value) (G : Str) (vs ws : List Value) (u : Nat → Nat) :
    trimO [true, true, true, true, true, true, true] (run (ftP P b1 b2) (KP P) S 38 c0 none 0 [] (den (.compLoop (rC P 1) 0 (.ref it) (.ref acc) (rE P 1 L cA cP cR cM cF D))) [(it, lstIt (.ref al) (i : Int)), (cP, celO (some (.ref pg))), (pg, lsto [.ref p0, .ref p1] gn), (p1, lsto pv pw), (al, lsto vs an), (acc, lsto ws w), (D, dicO [] 0)] 0 (mkU 4 u) 319526000429660870558485176410049 [ceNx [true, false, false, false, true] it al vs an i (.int x tx), ceAtS [false, false, true] p1 (lsto pv pw) G, ceApS [false, false, true] acc ws w G] True) =
    some ⟨.fin (.again (.compLoop (rC P 1) 0 (.ref it) (.ref acc) (rE P 1 L cA cP cR cM cF D))), [(cP, celO (some (.ref pg))), (pg, lsto [(.ref p0), (.ref p1)] gn), (D, dicO [en (hs P ⟨⟨[107]⟩⟩) (u 0) ⟨⟨[107]⟩⟩ (.int x tx)] 1), (it, lstIt (.ref al) (((i + 1) : Nat) : Int)), (al, lsto (vs) an), (p1, lsto (pv) pw), (acc, lsto (ws ++ [Value.str G (getU (noH [(acc, lsto ws w)] [u 3]) 0)]) (w + 1))], 0, okD 18 319526000429660870558485176410049 [it, cP, pg, p1, al, acc, D] [(S (.call (.builtin "list_iterator.__next__") ⟨[(.ref it)], []⟩) [(it, lstIt (.ref al) (((i) : Nat) : Int)), (al, lsto (vs) an)] 0 (ceNx [true, false, false, false, true] it al vs an i (.int x tx)).n (ceNx [true, false, false, false, true] it al vs an i (.int x tx)).f (ceNx [true, false, false, false, true] it al vs an i (.int x tx)).j, fun _ => [cP, pg, p1, acc, D, it, al]), (S (.call (.builtin "list.__getitem__") ⟨[(.ref p1), (.int x tx)], []⟩) [(p1, lsto (pv) pw)] 0 (ceAtS [false, false, true] p1 (lsto pv pw) G).n (ceAtS [false, false, true] p1 (lsto pv pw) G).f (ceAtS [false, false, true] p1 (lsto pv pw) G).j, fun _ => [cP, pg, acc, D, it, al, p1]), (S (.call (.builtin "list.append") ⟨[(.ref acc), (.str G (u 2))], []⟩) [(acc, lsto (ws) w)] 0 (ceApS [false, false, true] acc ws w G).n (ceApS [false, false, true] acc ws w G).f (ceApS [false, false, true] acc ws w G).j, fun _ => [cP, pg, D, it, al, p1, acc])] True⟩ := by cases b1 <;> kernel_rfl!
theorem rt1_1 (P : Params) (b1 b2 : Bool) (S : ST) (it acc al pg p0 p1 gn an L cA cP cR cM cF D w i tx : Nat) (x : Int) (pw : Nat) (pv : List Value) (G : Str) (vs ws : List Value) (h : Int) (qq : Nat) (v : Value) (u : Nat → Nat) :
    trimO [true, true, true, true, true, true, true] (run (ftP P b1 b2) (KP P) S 38 c0 none 0 [] (den (.compLoop (rC P 1) 0 (.ref it) (.ref acc) (rE P 1 L cA cP cR cM cF D))) [(it, lstIt (.ref al) (i : Int)), (cP, celO (some (.ref pg))), (pg, lsto [.ref p0, .ref p1] gn), (p1, lsto pv pw), (al, lsto vs an), (acc, lsto ws w), (D, dicO [en h qq nK v] 1)] 0 (mkU 4 u) 319526000429660870558485176410049 [ceNx [true, false, false, false, true] it al vs an i (.int x tx), ceAtS [false, false, true] p1 (lsto pv pw) G, ceApS [false, false, true] acc ws w G] True) =
    some ⟨.fin (.again (.compLoop (rC P 1) 0 (.ref it) (.ref acc) (rE P 1 L cA cP cR cM cF D))), [(cP, celO (some (.ref pg))), (pg, lsto [(.ref p0), (.ref p1)] gn), (D, dicO [en h qq ⟨⟨[107]⟩⟩ (.int x tx)] 1), (it, lstIt (.ref al) (((i + 1) : Nat) : Int)), (al, lsto (vs) an), (p1, lsto (pv) pw), (acc, lsto (ws ++ [Value.str G (getU (noH [(acc, lsto ws w)] [u 3]) 0)]) (w + 1))], 0, okD 18 319526000429660870558485176410049 [it, cP, pg, p1, al, acc, D] [(S (.call (.builtin "list_iterator.__next__") ⟨[(.ref it)], []⟩) [(it, lstIt (.ref al) (((i) : Nat) : Int)), (al, lsto (vs) an)] 0 (ceNx [true, false, false, false, true] it al vs an i (.int x tx)).n (ceNx [true, false, false, false, true] it al vs an i (.int x tx)).f (ceNx [true, false, false, false, true] it al vs an i (.int x tx)).j, fun _ => [cP, pg, p1, acc, D, it, al]), (S (.call (.builtin "list.__getitem__") ⟨[(.ref p1), (.int x tx)], []⟩) [(p1, lsto (pv) pw)] 0 (ceAtS [false, false, true] p1 (lsto pv pw) G).n (ceAtS [false, false, true] p1 (lsto pv pw) G).f (ceAtS [false, false, true] p1 (lsto pv pw) G).j, fun _ => [cP, pg, acc, D, it, al, p1]), (S (.call (.builtin "list.append") ⟨[(.ref acc), (.str G (u 2))], []⟩) [(acc, lsto (ws) w)] 0 (ceApS [false, false, true] acc ws w G).n (ceApS [false, false, true] acc ws w G).f (ceApS [false, false, true] acc ws w G).j, fun _ => [cP, pg, D, it, al, p1, acc])] True⟩ := by cases b1 <;> kernel_rfl!
theorem rt1_e (P : Params) (b1 b2 : Bool) (S : ST) (it acc al L cA cP cR cM cF D i : Nat) (o : Obj) (u : Nat → Nat) :
    trimO [false, true] (run (ftP P b1 b2) (KP P) S 10 c0 none 0 [] (den (.compLoop (rC P 1) 0 (.ref it) (.ref acc) (rE P 1 L cA cP cR cM cF D))) [(it, lstIt (.ref al) (i : Int)), (al, o)] 0 (mkU 2 u) 20417 [ceNxE [true, true] it al o i] True) =
    some ⟨.fin (.done .next), [(al, o)], 0, okD 3 20417 [it, al] [(S (.call (.builtin "list_iterator.__next__") ⟨[(.ref it)], []⟩) [(it, lstIt (.ref al) (((i) : Nat) : Int)), (al, o)] 0 (ceNxE [true, true] it al o i).n (ceNxE [true, true] it al o i).f (ceNxE [true, true] it al o i).j, fun _ => [it, al, u 0, u 1])] True⟩ := by cases b1 <;> kernel_rfl!
theorem rt_se (P : Params) (b1 b2 : Bool) (S : ST) (pg p0 p1 gn al an L cA cP cR cM cF rls k n : Nat) (h h2 : Int) (k2 : Nat) (po0 po1 : Obj) (av ar : List Value) (G0 G1 : List (List Nat)) (d0 d1 : List Nat → Value) (u : Nat → Nat) :
    trimO [false, true, false, true, false, false, true, true, false, true, false, true, true] (run (ftP P b1 b2) (KP P) S 58 c0 none 0 [] (flowZ [stm P 116 5] (E116 P L cA cP cR cM cF)) [(L, fro (rE3 h h2 k k2 rls al) n), (cP, celO (some (.ref pg))), (pg, lsto [.ref p0, .ref p1] gn), (p0, po0), (p1, po1), (al, lsto av an)] 0 (mkU 18 u) 1019726538438453511566855392269658751042 [ceLSl [false, false, false, false, false, true, true] al (lsto av an) ar, ceGt P true d0 [false, true, true, true, false, false, true, true, true, true] 0 pg p0 p1 gn p0 po0 (lsto ar 0) G0 3 5, ceGt P true d1 [false, true, true, true, true, false, false, false, false, true, true, true] 2 pg p0 p1 gn p1 po1 (lsto av an) G1 1 5] True) =
    some ⟨.fin (.done (.ret (.ref (u 17)))), [(p0, po0), (u 5, lsto (txts G0 (dec (u 7))) G0.length), (pg, lsto [(.ref p0), (.ref p1)] gn), (p1, po1), (u 11, lsto (txts G1 (dec (u 13))) G1.length), (u 16, tupO [(.ref (u 5)), (.ref (u 11))]), (u 17, lsto [(.ref pg), (.ref (u 16)), (.bool true)] 0)], 0, okD 22 1019726538438453511566855392269658751042 [L, cP, pg, p0, p1, al, u 2] [(S (.call (.builtin "list.__getitem__") ⟨[(.ref al), (.ref (u 2))], []⟩) [(al, lsto av an), (u 2, slO .none .none (.int (-1) (u 1)))] 0 (ceLSl [false, false, false, false, false, true, true] al (lsto av an) ar).n (ceLSl [false, false, false, false, false, true, true] al (lsto av an) ar).f (ceLSl [false, false, false, false, false, true, true] al (lsto av an) ar).j, fun _ => [L, cP, pg, p0, p1, al, u 3, u 4, u 5, u 6]), (S (.compStart (rC P 0) 0 (.ref (u 4)) (.ref (u 5)) (rE P 0 L cA cP cR cM cF (u 6))) [(cP, celO (some (.ref pg))), (pg, lsto [.ref p0, .ref p1] gn), (p0, po0), (u 3, lsto ar 0), (u 4, lstIt (.ref (u 3)) 0), (u 5, lsto [] 0), (u 6, dicO [] 0)] 0 (ceGt P true d0 [false, true, true, true, false, false, true, true, true, true] 0 pg p0 p1 gn p0 po0 (lsto ar 0) G0 3 5).n ((ceGt P true d0 [false, true, true, true, false, false, true, true, true, true] 0 pg p0 p1 gn p0 po0 (lsto ar 0) G0 3 5).g [(cP, celO (some (.ref pg))), (pg, lsto [.ref p0, .ref p1] gn), (p0, po0), (u 3, lsto ar 0), (u 4, lstIt (.ref (u 3)) 0), (u 5, lsto [] 0), (u 6, dicO [] 0)]) (ceGt P true d0 [false, true, true, true, false, false, true, true, true, true] 0 pg p0 p1 gn p0 po0 (lsto ar 0) G0 3 5).j, fun _ => [L, p1, al, cP, pg, p0, u 3, u 5, u 6, u 10, u 11, u 12]), (S (.compStart (rC P 1) 0 (.ref (u 10)) (.ref (u 11)) (rE P 1 L cA cP cR cM cF (u 12))) [(p1, po1), (al, lsto av an), (cP, celO (some (.ref pg))), (pg, lsto [.ref p0, .ref p1] gn), (u 10, lstIt (.ref al) 0), (u 11, lsto [] 0), (u 12, dicO [] 0)] 0 (ceGt P true d1 [false, true, true, true, true, false, false, false, false, true, true, true] 2 pg p0 p1 gn p1 po1 (lsto av an) G1 1 5).n ((ceGt P true d1 [false, true, true, true, true, false, false, false, false, true, true, true] 2 pg p0 p1 gn p1 po1 (lsto av an) G1 1 5).g [(p1, po1), (al, lsto av an), (cP, celO (some (.ref pg))), (pg, lsto [.ref p0, .ref p1] gn), (u 10, lstIt (.ref al) 0), (u 11, lsto [] 0), (u 12, dicO [] 0)]) (ceGt P true d1 [false, true, true, true, true, false, false, false, false, true, true, true] 2 pg p0 p1 gn p1 po1 (lsto av an) G1 1 5).j, fun _ => [L, p0, u 3, u 5, u 6, cP, pg, p1, al, u 11, u 12, u 16, u 17])] True⟩ := by cases b1 <;> kernel_rfl!
theorem rt_sn (P : Params) (b1 b2 : Bool) (S : ST) (pg p0 p1 gn al an L cA cP cR cM cF rls k n : Nat) (h h2 : Int) (k2 : Nat) (po0 po1 : Obj) (av ar : List Value) (G0 G1 : List (List Nat)) (d0 d1 : List Nat → Value) (u : Nat → Nat) :
    trimO [false, true, false, true, false, false, true, true, false, true, false, true, true] (run (ftP P b1 b2) (KP P) S 66 c0 none 0 [] (flowZ [stm P 116 5] (E116 P L cA cP cR cM cF)) [(L, fro (rE3 h h2 k k2 rls al) n), (cP, celO (some (.ref pg))), (pg, lsto [.ref p0, .ref p1] gn), (p0, po0), (p1, po1), (al, lsto av an)] 0 (mkU 18 u) 15949209616850839450737471770615175035101904962 [ceLSl [false, false, false, false, false, true, true] al (lsto av an) ar, ceGt P false d0 [false, true, true, true, false, false, true, true, true, true] 0 pg p0 p1 gn p0 po0 (lsto ar 0) G0 3 5, ceGt P false d1 [false, true, true, true, true, false, false, false, false, true, true, true] 2 pg p0 p1 gn p1 po1 (lsto av an) G1 1 5] True) =
    some ⟨.fin (.done (.ret (.ref (u 17)))), [(p0, po0), (u 5, lsto (txts G0 (dec (u 7))) G0.length), (pg, lsto [(.ref p0), (.ref p1)] gn), (p1, po1), (u 11, lsto (txts G1 (dec (u 13))) G1.length), (u 16, tupO [(.ref (u 5)), (.ref (u 11))]), (u 17, lsto [(.ref pg), (.ref (u 16)), (.bool true)] 0)], 0, okD 26 15949209616850839450737471770615175035101904962 [L, cP, pg, p0, p1, al, u 2] [(S (.call (.builtin "list.__getitem__") ⟨[(.ref al), (.ref (u 2))], []⟩) [(al, lsto av an), (u 2, slO .none .none (.int (-1) (u 1)))] 0 (ceLSl [false, false, false, false, false, true, true] al (lsto av an) ar).n (ceLSl [false, false, false, false, false, true, true] al (lsto av an) ar).f (ceLSl [false, false, false, false, false, true, true] al (lsto av an) ar).j, fun _ => [L, cP, pg, p0, p1, al, u 3, u 4, u 5, u 6]), (S (.compStart (rC P 0) 0 (.ref (u 4)) (.ref (u 5)) (rE P 0 L cA cP cR cM cF (u 6))) [(cP, celO (some (.ref pg))), (pg, lsto [.ref p0, .ref p1] gn), (p0, po0), (u 3, lsto ar 0), (u 4, lstIt (.ref (u 3)) 0), (u 5, lsto [] 0), (u 6, dicO [] 0)] 0 (ceGt P false d0 [false, true, true, true, false, false, true, true, true, true] 0 pg p0 p1 gn p0 po0 (lsto ar 0) G0 3 5).n ((ceGt P false d0 [false, true, true, true, false, false, true, true, true, true] 0 pg p0 p1 gn p0 po0 (lsto ar 0) G0 3 5).g [(cP, celO (some (.ref pg))), (pg, lsto [.ref p0, .ref p1] gn), (p0, po0), (u 3, lsto ar 0), (u 4, lstIt (.ref (u 3)) 0), (u 5, lsto [] 0), (u 6, dicO [] 0)]) (ceGt P false d0 [false, true, true, true, false, false, true, true, true, true] 0 pg p0 p1 gn p0 po0 (lsto ar 0) G0 3 5).j, fun _ => [L, p1, al, cP, pg, p0, u 3, u 5, u 6, u 10, u 11, u 12]), (S (.compStart (rC P 1) 0 (.ref (u 10)) (.ref (u 11)) (rE P 1 L cA cP cR cM cF (u 12))) [(p1, po1), (al, lsto av an), (cP, celO (some (.ref pg))), (pg, lsto [.ref p0, .ref p1] gn), (u 10, lstIt (.ref al) 0), (u 11, lsto [] 0), (u 12, dicO [] 0)] 0 (ceGt P false d1 [false, true, true, true, true, false, false, false, false, true, true, true] 2 pg p0 p1 gn p1 po1 (lsto av an) G1 1 5).n ((ceGt P false d1 [false, true, true, true, true, false, false, false, false, true, true, true] 2 pg p0 p1 gn p1 po1 (lsto av an) G1 1 5).g [(p1, po1), (al, lsto av an), (cP, celO (some (.ref pg))), (pg, lsto [.ref p0, .ref p1] gn), (u 10, lstIt (.ref al) 0), (u 11, lsto [] 0), (u 12, dicO [] 0)]) (ceGt P false d1 [false, true, true, true, true, false, false, false, false, true, true, true] 2 pg p0 p1 gn p1 po1 (lsto av an) G1 1 5).j, fun _ => [L, p0, u 3, u 5, u 6, cP, pg, p1, al, u 11, u 12, u 16, u 17])] True⟩ := by cases b1 <;> kernel_rfl!

end Mine
end
-- V59
section
open PySem PySem.Spec PySem.Calls PyProof.Rows PySem.W PySem.W.X
namespace Mine
/-! the marks that one ruler alone has -/
noncomputable def alB (M N : List Int) (x : Int) : Bool := decide (x ∈ M) != decide (x ∈ N)
noncomputable def aloneL (M N : List Int) (k : Nat) : List Int := ((List.range k).map fun i : Nat => (i : Int) + 1).filter (alB M N)
theorem alone_t {M N : List Int} {k : Nat} (h : alB M N ((k : Int) + 1) = true) : aloneL M N (k + 1) = aloneL M N k ++ [(k : Int) + 1] := by
  unfold aloneL
  rw [List.range_succ, List.map_append, List.filter_append, List.map_cons, List.map_nil, List.filter_cons_of_pos h]; rfl
theorem alone_f {M N : List Int} {k : Nat} (h : alB M N ((k : Int) + 1) = false) : aloneL M N (k + 1) = aloneL M N k := by
  unfold aloneL
  rw [List.range_succ, List.map_append, List.filter_append, List.map_cons, List.map_nil, List.filter_cons_of_neg (by rw [h]; decide), List.filter_nil, List.append_nil]
theorem alone_le (M N : List Int) (k : Nat) : (aloneL M N k).length ≤ k := by
  unfold aloneL
  refine Nat.le_trans (List.length_filter_le _ _) ?_
  rw [List.length_map, List.length_range]; exact Nat.le_refl _
theorem intP_snoc : ∀ (l : List Int) (us : List Nat) (x : Int) (t : Nat), us.length = l.length → intV (intP l us) ++ [.int x t] = intV (intP (l ++ [x]) (us ++ [t]))
  | [], [], x, t, _ => rfl
  | [], _ :: _, _, _, h => by cases h
  | y :: l, [], _, _, h => by cases h
  | y :: l, u :: us, x, t, h => by
    show _ :: (intV (intP l us) ++ _) = _ :: intV (intP (l ++ [x]) (us ++ [t]))
    rw [intP_snoc l us x t (Nat.succ.inj h)]
    rfl
theorem intP_len : ∀ (l : List Int) (us : List Nat), (intV (intP l us)).length = l.length
  | [], _ => rfl
  | x :: l, us => congrArg (· + 1) (intP_len l us.tail)
theorem intP_fst : ∀ (l : List Int) (us : List Nat), (intP l us).map (·.1) = l
  | [], _ => rfl
  | x :: l, us => by show x :: (intP l us.tail).map (·.1) = _; rw [intP_fst l us.tail]
theorem aC_eq (P : Params) : aC P = .ListComp (lcE (aC P)) (⟨(g1 (lcG (aC P))).target, (g1 (lcG (aC P))).iter, (g1 (lcG (aC P))).ifs, 0⟩ :: []) (lcS (aC P)) (lcP (aC P)) := by kernel_rfl!
section
variable {w : World} {J : Nat → Array GenState → Prop} {B : Addr → Option Obj} {os : OsState} {dr : Drawn} {d : Nat}
theorem specHasI {K : Frag} {l n : Nat} {xs : List (Int × Nat)} {x : Int} {t : Nat} {b : Bool} (m : List Bool) (hb : decide (x ∈ xs.map (·.1)) = b) :
    Spec w K d J (.call (.builtin "list.__contains__") ⟨[.ref l, .int x t], []⟩) [(l, lsto (intV xs) n)] 0 0 (ceHas m l (lsto (intV xs) n) b).f 0 :=
  specHas m (eqI _) (intV_eqs xs _ _) (by rw [intV_any]; exact hb)
theorem al_loop {A : Around} {R : Result → Shared → Prop} {xs ys : List (Int × Nat)} {it acc mt q ma mb xn yn L cA cP cR cM cF D : Nat}
    (hA : AOk (d - 16) A) (hd : 16 ≤ d) (hK : KIn (KP w.params) B)
    (hR : ∀ kx tv ts s', ts.length = (aloneL (xs.map (·.1)) (ys.map (·.1)) 8).length → Rel J B os dr [(cM, celO (some (.ref mt))), (mt, lsto [.ref ma, .ref mb] q), (ma, lsto (intV xs) xn), (mb, lsto (intV ys) yn), (acc, lsto (intV (intP (aloneL (xs.map (·.1)) (ys.map (·.1)) 8) ts)) (aloneL (xs.map (·.1)) (ys.map (·.1)) 8).length), (D, dicO [en (hs w.params nK) kx nK (.int 8 tv)] 1)] 0 s' → R (.ok .next) s') :
    ∀ (rem i kx tv : Nat) (ts : List Nat) (Do : Obj) (s : Shared), i + rem = 8 → ts.length = (aloneL (xs.map (·.1)) (ys.map (·.1)) i).length →
      ((i = 0 ∧ Do = dicO [] 0) ∨ (0 < i ∧ Do = dicO [en (hs w.params nK) kx nK (.int (i : Int) tv)] 1)) →
      Rel J B os dr [(it, ritO ((i : Int) + 1) (8 - (i : Int))), (cM, celO (some (.ref mt))), (mt, lsto [.ref ma, .ref mb] q), (ma, lsto (intV xs) xn), (mb, lsto (intV ys) yn), (acc, lsto (intV (intP (aloneL (xs.map (·.1)) (ys.map (·.1)) i) ts)) (aloneL (xs.map (·.1)) (ys.map (·.1)) i).length), (D, Do)] 0 s →
      codeAny (Mo w) A (.compLoop (aC w.params) 0 (.ref it) (.ref acc) (aE w.params L cA cP cR cM cF D)) R s
  | 0, i, kx, tv, ts, Do, s, hi, hts, hD, Rl => by
    have hi' : i = 8 := by omega
    subst hi'
    rcases hD with ⟨h0, _⟩ | ⟨_, rfl⟩
    · omega
    · exact code_front2 (fT_eq w) hA hd rfl hK (Hp := [_]) (rest := [_, _, _, _, _, _]) Rl (fun u => al_e w.params _ _ _ it acc L cA cP cR cM cF D _ u) (fun u => okD_of _ _ _ _ trivial trivial) fun u s' R' => hR kx tv ts s' hts R'
  | rem + 1, i, kx, tv, ts, Do, s, hi, hts, hD, Rl => by
    have hwl : (intV (intP (aloneL (xs.map (·.1)) (ys.map (·.1)) i) ts)).length ≤ 1000 := by
      rw [intP_len]; have := alone_le (xs.map (·.1)) (ys.map (·.1)) i; omega
    have e1 : (8 : Int) - (i : Int) - 1 = 8 - ((i + 1 : Nat) : Int) := by omega
    have e2 : (i : Int) + 1 = ((i + 1 : Nat) : Int) := by omega
    have hpos : (0 : Int) < 8 - (i : Int) := by omega
    have finN : ∀ (kk tk : Nat) s', alB (xs.map (·.1)) (ys.map (·.1)) ((i : Int) + 1) = false →
        Rel J B os dr [(cM, celO (some (.ref mt))), (mt, lsto [.ref ma, .ref mb] q), (acc, lsto (intV (intP (aloneL (xs.map (·.1)) (ys.map (·.1)) i) ts)) (aloneL (xs.map (·.1)) (ys.map (·.1)) i).length), (D, dicO [en (hs w.params nK) kk nK (.int ((i : Int) + 1) tk)] 1), (it, ritO ((i : Int) + 1 + 1) (8 - (i : Int) - 1)), (ma, lsto (intV xs) xn), (mb, lsto (intV ys) yn)] 0 s' →
        codeAny (Mo w) A (.compLoop (aC w.params) 0 (.ref it) (.ref acc) (aE w.params L cA cP cR cM cF D)) R s' := by
      intro kk tk s' hb R'
      rw [e1, e2] at R'
      have R2 := R'.reorder [4, 0, 1, 5, 6, 2, 3] rfl
      exact al_loop hA hd hK hR rem (i + 1) kk tk ts _ s' (by omega) (by rw [alone_f hb]; exact hts) (.inr ⟨by omega, rfl⟩) (by rw [alone_f hb]; exact R2)
    have finY : ∀ (z kk tk : Nat) s', alB (xs.map (·.1)) (ys.map (·.1)) ((i : Int) + 1) = true →
        Rel J B os dr [(cM, celO (some (.ref mt))), (mt, lsto [.ref ma, .ref mb] q), (D, dicO [en (hs w.params nK) kk nK (.int ((i : Int) + 1) tk)] 1), (it, ritO ((i : Int) + 1 + 1) (8 - (i : Int) - 1)), (ma, lsto (intV xs) xn), (mb, lsto (intV ys) yn), (acc, lsto (intV (intP (aloneL (xs.map (·.1)) (ys.map (·.1)) i) ts) ++ [.int ((i : Int) + 1) z]) ((aloneL (xs.map (·.1)) (ys.map (·.1)) i).length + 1))] 0 s' →
        codeAny (Mo w) A (.compLoop (aC w.params) 0 (.ref it) (.ref acc) (aE w.params L cA cP cR cM cF D)) R s' := by
      intro z kk tk s' hb R'
      have el : (aloneL (xs.map (·.1)) (ys.map (·.1)) i).length + 1 = (aloneL (xs.map (·.1)) (ys.map (·.1)) (i + 1)).length := by rw [alone_t hb, List.length_append]; rfl
      rw [intP_snoc _ _ _ _ hts, ← alone_t hb, el, e1, e2] at R'
      have R2 := R'.reorder [3, 0, 1, 4, 5, 6, 2] rfl
      exact al_loop hA hd hK hR rem (i + 1) kk tk (ts ++ [z]) _ s' (by omega) (by rw [← el, List.length_append, hts]; rfl) (.inr ⟨by omega, rfl⟩) R2
    cases hx : decide ((i : Int) + 1 ∈ xs.map (·.1)) <;> cases hy : decide ((i : Int) + 1 ∈ ys.map (·.1))
    all_goals rcases hD with ⟨h0, rfl⟩ | ⟨h0, rfl⟩
    · exact code_front2 (fT_eq w) hA hd rfl hK (Hp := [_, _, _, _, _, _, _]) (rest := []) Rl (fun u => al_ff0 w.params _ _ _ it acc mt q ma mb L cA cP cR cM cF D _ _ _ xn yn (intV xs) (intV ys) _ u) (fun u => okD_of _ _ _ _ ⟨specRN _ hpos, specHasI _ hx, specHasI _ hy, trivial⟩ trivial) fun u s' R' => ⟨rfl, finN _ _ s' (by unfold alB; rw [hx, hy]; rfl) R'⟩
    · exact code_front2 (fT_eq w) hA hd rfl hK (Hp := [_, _, _, _, _, _, _]) (rest := []) Rl (fun u => al_ff1 w.params _ _ _ it acc mt q ma mb L cA cP cR cM cF D _ _ _ xn yn (intV xs) (intV ys) _ _ _ _ u) (fun u => okD_of _ _ _ _ ⟨specRN _ hpos, specHasI _ hx, specHasI _ hy, trivial⟩ trivial) fun u s' R' => ⟨rfl, finN _ _ s' (by unfold alB; rw [hx, hy]; rfl) R'⟩
    · exact code_front2 (fT_eq w) hA hd rfl hK (Hp := [_, _, _, _, _, _, _]) (rest := []) Rl (fun u => al_ft0 w.params _ _ _ it acc mt q ma mb L cA cP cR cM cF D _ _ _ xn yn (intV xs) (intV ys) _ u) (fun u => okD_of _ _ _ _ ⟨specRN _ hpos, specHasI _ hx, specHasI _ hy, specApI _ hwl, trivial⟩ trivial) fun u s' R' => ⟨rfl, finY _ _ _ s' (by unfold alB; rw [hx, hy]; rfl) R'⟩
    · exact code_front2 (fT_eq w) hA hd rfl hK (Hp := [_, _, _, _, _, _, _]) (rest := []) Rl (fun u => al_ft1 w.params _ _ _ it acc mt q ma mb L cA cP cR cM cF D _ _ _ xn yn (intV xs) (intV ys) _ _ _ _ u) (fun u => okD_of _ _ _ _ ⟨specRN _ hpos, specHasI _ hx, specHasI _ hy, specApI _ hwl, trivial⟩ trivial) fun u s' R' => ⟨rfl, finY _ _ _ s' (by unfold alB; rw [hx, hy]; rfl) R'⟩
    · exact code_front2 (fT_eq w) hA hd rfl hK (Hp := [_, _, _, _, _, _, _]) (rest := []) Rl (fun u => al_tf0 w.params _ _ _ it acc mt q ma mb L cA cP cR cM cF D _ _ _ xn yn (intV xs) (intV ys) _ u) (fun u => okD_of _ _ _ _ ⟨specRN _ hpos, specHasI _ hx, specHasI _ hy, specApI _ hwl, trivial⟩ trivial) fun u s' R' => ⟨rfl, finY _ _ _ s' (by unfold alB; rw [hx, hy]; rfl) R'⟩
    · exact code_front2 (fT_eq w) hA hd rfl hK (Hp := [_, _, _, _, _, _, _]) (rest := []) Rl (fun u => al_tf1 w.params _ _ _ it acc mt q ma mb L cA cP cR cM cF D _ _ _ xn yn (intV xs) (intV ys) _ _ _ _ u) (fun u => okD_of _ _ _ _ ⟨specRN _ hpos, specHasI _ hx, specHasI _ hy, specApI _ hwl, trivial⟩ trivial) fun u s' R' => ⟨rfl, finY _ _ _ s' (by unfold alB; rw [hx, hy]; rfl) R'⟩
    · exact code_front2 (fT_eq w) hA hd rfl hK (Hp := [_, _, _, _, _, _, _]) (rest := []) Rl (fun u => al_tt0 w.params _ _ _ it acc mt q ma mb L cA cP cR cM cF D _ _ _ xn yn (intV xs) (intV ys) _ u) (fun u => okD_of _ _ _ _ ⟨specRN _ hpos, specHasI _ hx, specHasI _ hy, trivial⟩ trivial) fun u s' R' => ⟨rfl, finN _ _ s' (by unfold alB; rw [hx, hy]; rfl) R'⟩
    · exact code_front2 (fT_eq w) hA hd rfl hK (Hp := [_, _, _, _, _, _, _]) (rest := []) Rl (fun u => al_tt1 w.params _ _ _ it acc mt q ma mb L cA cP cR cM cF D _ _ _ xn yn (intV xs) (intV ys) _ _ _ _ u) (fun u => okD_of _ _ _ _ ⟨specRN _ hpos, specHasI _ hx, specHasI _ hy, trivial⟩ trivial) fun u s' R' => ⟨rfl, finN _ _ s' (by unfold alB; rw [hx, hy]; rfl) R'⟩
theorem specAl {xs ys : List (Int × Nat)} {it acc mt q ma mb xn yn L cA cP cR cM cF D : Nat} (m : List Bool) (hd9 : d ≤ 860) :
    Spec w (KP w.params) d J (.compStart (aC w.params) 0 (.ref it) (.ref acc) (aE w.params L cA cP cR cM cF D))
      [(cM, celO (some (.ref mt))), (mt, lsto [.ref ma, .ref mb] q), (ma, lsto (intV xs) xn), (mb, lsto (intV ys) yn), (it, ritO 1 8), (acc, lsto [] 0), (D, dicO [] 0)] 0 3
      ((ceAl w.params m mt q ma mb (lsto (intV xs) xn) (lsto (intV ys) yn) (aloneL (xs.map (·.1)) (ys.map (·.1)) 8)).g [(cM, celO (some (.ref mt))), (mt, lsto [.ref ma, .ref mb] q), (ma, lsto (intV xs) xn), (mb, lsto (intV ys) yn), (it, ritO 1 8), (acc, lsto [] 0), (D, dicO [] 0)]) 0 := by
  refine spec_code fun A B os dr s R hA hK Rl hR => ?_
  have hA' : AOk (d + 16 - 16) A := by rw [Nat.add_sub_cancel]; exact hA
  rw [aC_eq]
  refine codeAny_compStart_list ?_ (wpAny_pyIter_rangeiter (Rl.at (i := 4) rfl) ?_)
  all_goals
    rw [← aC_eq]
    refine al_loop (d := d + 16) (xs := xs) (ys := ys) (mt := mt) (q := q) (ma := ma) (mb := mb) (xn := xn) (yn := yn) (cM := cM) hA' (by omega) hK (fun kx tv ts s' hts R' => ?_) 8 0 0 0 [] _ s (by omega) rfl (.inl ⟨rfl, rfl⟩) (Rl.reorder [4, 0, 1, 2, 3, 5, 6] rfl)
    refine hR [kx, tv, enc ts] s' rfl ?_
    show Rel _ _ _ _ [(cM, celO (some (.ref mt))), (mt, lsto [.ref ma, .ref mb] q), (ma, lsto (intV xs) xn), (mb, lsto (intV ys) yn), (acc, lsto (intV (intP (aloneL (xs.map (·.1)) (ys.map (·.1)) 8) (dec (enc ts)))) (aloneL (xs.map (·.1)) (ys.map (·.1)) 8).length), (D, dicO [en (hs w.params nK) kx nK (.int 8 tv)] 1)] 0 s'
    rw [dec_enc]
    exact R'
end
end Mine
end
-- V60
section
open PySem PySem.Spec PySem.Calls PyProof.Rows PySem.W PySem.W.X
namespace Mine
/-! the files whose size is great enough -/
theorem intP_zip : ∀ (zs : List (Int × Nat)), intP (zs.map (·.1)) (zs.map (·.2)) = zs
  | [] => rfl
  | z :: zs => by show (z.1, z.2) :: intP (zs.map (·.1)) (zs.map (·.2)) = _; rw [intP_zip zs]
noncomputable def a0L (A : List Int) : Int := (A ++ [9]).headD 9
noncomputable def apB (e : Nat) (r : Row) : Bool := decide (r.s ≥ 10 ^ e)
noncomputable def apI (e : Nat) (rs : List Row) (k : Nat) : List Nat := (List.range k).filter fun i => apB e (rowAt rs i)
noncomputable def apL (e : Nat) (rs : List Row) (k : Nat) : List Int := (apI e rs k).map fun i : Nat => (i : Int)
theorem apL_t {e : Nat} {rs : List Row} {k : Nat} (h : apB e (rowAt rs k) = true) : apL e rs (k + 1) = apL e rs k ++ [(k : Int)] := by
  unfold apL apI
  rw [List.range_succ, List.filter_append, List.filter_cons_of_pos (p := fun i => apB e (rowAt rs i)) h, List.map_append]; rfl
theorem apL_f {e : Nat} {rs : List Row} {k : Nat} (h : apB e (rowAt rs k) = false) : apL e rs (k + 1) = apL e rs k := by
  unfold apL apI
  rw [List.range_succ, List.filter_append, List.filter_cons_of_neg (p := fun i => apB e (rowAt rs i)) (by rw [h]; decide), List.filter_nil, List.append_nil]
theorem apL_le (e : Nat) (rs : List Row) (k : Nat) : (apL e rs k).length ≤ k := by
  unfold apL apI
  rw [List.length_map]
  refine Nat.le_trans (List.length_filter_le _ _) ?_
  rw [List.length_range]; exact Nat.le_refl _
theorem pC_eq (P : Params) : pC P = .ListComp (lcE (pC P)) (⟨(g1 (lcG (pC P))).target, (g1 (lcG (pC P))).iter, (g1 (lcG (pC P))).ifs, 0⟩ :: []) (lcS (pC P)) (lcP (pC P)) := by kernel_rfl!
theorem gives_pow8 (t u : Nat) : Gives (Builtin.«int.__pow__» ⟨[.int 10 t, .int 8 u], []⟩) (.int 100000000) := .of_eq (by rfl)
theorem gives_pow9 (t u : Nat) : Gives (Builtin.«int.__pow__» ⟨[.int 10 t, .int 9 u], []⟩) (.int 1000000000) := .of_eq (by rfl)
section
variable {w : World} {J : Nat → Array GenState → Prop} {B : Addr → Option Obj} {os : OsState} {dr : Drawn} {d : Nat}
theorem wp_atI {A : Around} {l : Nat} {k : Int} {t : Nat} {items : Array Value} {v : Value} {s : Shared} {Q : Value → Shared → Prop} {E : Value → Shared → Prop} (hl : s.heap.IsList l items) (h0 : 0 ≤ k) (hfit : k < 2 ^ 63) (hx : items[k.toNat]? = some v) (h : Q v s) : wpAny (Mo w) A (call (.builtin "list.__getitem__") [.ref l, .int k t]) Q E s := by
  obtain ⟨o, ho, hc, ne, hd⟩ := id hl
  refine wpAny_call_entry slot_list_getitem hl.typeIs entry_list_getitem ?_ (args_list_getitem _ _)
  show wpAny _ _ (Builtin.List.listSubscript? (.int k t) >>= _) _ _ s
  refine wpAny_bind (wpAny_listSubscript_int (fitsIndex_of h0 hfit) ?_)
  clear hfit
  obtain ⟨j, rfl⟩ := Int.eq_ofNat_of_zero_le h0
  have hx' : items[j]? = some v := hx
  show wpAny _ _ ((seqItemAt l j >>= fun r => pure (r.map (j, ·))) >>= _) _ _ s
  refine wpAny_bind (wpAny_bind (wpAny_seqItemAt ho hd (wpAny_pure ?_)))
  rw [hx']
  first
    | exact wpAny_bind (wpAny_pure (wpAny_pure ⟨v, rfl, h⟩))
    | exact wpAny_pure ⟨v, rfl, h⟩
theorem small63 {k : Int} (h : k ≤ 1000) : k < 2 ^ 63 := by omega
theorem wp_at {A : Around} {l n i t : Nat} {vs : List Value} {v : Value} {s : Shared} {Q : Value → Shared → Prop} {E : Value → Shared → Prop} (hl : s.heap.IsList l ⟨vs⟩) (hi : i ≤ 1000) (hv : vs[i]? = some v) (h : Q v s) : wpAny (Mo w) A (call (.builtin "list.__getitem__") [.ref l, .int (i : Int) t]) Q E s :=
  wp_atI hl (Int.natCast_nonneg i) (small63 (by omega)) (by simpa using hv) h
theorem specAt {K : Frag} {l n i t : Nat} {vs : List Value} {v : Value} (m : List Bool) (hi : i ≤ 1000) (hv : vs[i]? = some v) :
    Spec w K d J (.call (.builtin "list.__getitem__") ⟨[.ref l, .int (i : Int) t], []⟩) [(l, lsto vs n)] 0 0 (ceAt m l (lsto vs n) v).f 0 :=
  spec_val (gv := fun _ => v) (gH := fun _ => [(l, lsto vs n)]) fun A B os dr s Q hA hK R hQ => wp_at (n := n) (R.isList (i := 0) rfl) hi hv (hQ [] s rfl R)
theorem specAtS {K : Frag} {l n i t t' : Nat} {vs : List Value} {G : Str} (m : List Bool) (hi : i ≤ 1000) (hv : vs[i]? = some (.str G t')) :
    Spec w K d J (.call (.builtin "list.__getitem__") ⟨[.ref l, .int (i : Int) t], []⟩) [(l, lsto vs n)] 0 1 (ceAtS m l (lsto vs n) G).f 0 :=
  (specAt m hi hv).weak fun us h => ⟨[t'], rfl, rfl⟩
theorem specAtI {K : Frag} {l n t t' : Nat} {vs : List Value} {x : Int} (m : List Bool) (hv : vs[0]? = some (.int x t')) :
    Spec w K d J (.call (.builtin "list.__getitem__") ⟨[.ref l, .int 0 t], []⟩) [(l, lsto vs n)] 0 1 (ceAtI m x).f 0 :=
  spec_val (gv := fun us => .int x (getU us 0)) (gH := fun _ => []) fun A B os dr s Q hA hK R hQ => wp_at (n := n) (i := 0) (R.isList (i := 0) rfl) (by omega) hv (hQ [t'] s rfl (R.pick []))
theorem specLAdd {K : Frag} {al an b t9 : Nat} {zs : List (Int × Nat)} (m : List Bool) (hz : zs.length ≤ 10) :
    Spec w K d J (.call (.builtin "list.__add__") ⟨[.ref al, .ref b], []⟩) [(al, lsto (intV zs) an), (b, lsto [.int 9 t9] 0)] 0 2
      ((ceLAdd m al an (intV zs) (zs.map (·.1) ++ [9])).g [(al, lsto (intV zs) an), (b, lsto [.int 9 t9] 0)]) 0 := by
  refine spec_val (gv := fun us => .ref (getU us 0)) (gH := fun us => [(al, lsto (intV zs) an), (getU us 0, lsto (intV (intP (zs.map (·.1) ++ [9]) (dec (getU us 1)))) 0)]) fun A B os dr s Q hA hK R hQ => ?_
  have hsz : (Array.mk (intV zs)).size + (Array.mk [Value.int 9 t9]).size ≤ sizeLine := by
    refine sizeOk ?_
    show (intV zs).length + 1 ≤ 1000
    unfold intV; rw [List.length_map]; omega
  refine call_meets F.slot_list_add (R.isList (i := 0) rfl).typeIs F.entry_list_add (F.args_list_add_2 _ _) (AutoSeq1.list___add___list_list_0 al ⟨intV zs⟩ an b ⟨[.int 9 t9]⟩ 0 hsz) ⟨R.at (i := 0) rfl, R.at (i := 1) rfl, ?_⟩
  have R2 := (R.pick [true]).alloc (o := lsto (intV zs ++ [.int 9 t9]) 0) rfl
  have e : intV zs ++ [.int 9 t9] = intV (intP (zs.map (·.1) ++ [9]) (dec (enc (zs.map (·.2) ++ [t9])))) := by
    rw [dec_enc, ← intP_snoc _ _ _ _ (by rw [List.length_map, List.length_map]), intP_zip]
  have e2 : ({ cls := Value.type "list", data := Data.seq (Array.mk (intV zs) ++ Array.mk [Value.int 9 t9]) } : Obj) = lsto (intV zs ++ [.int 9 t9]) 0 := by unfold lsto; simp
  rw [e2]
  refine hQ [s.heap.objs.size, enc (zs.map (·.2) ++ [t9])] _ rfl ?_
  show Rel J B os dr [(al, lsto (intV zs) an), (s.heap.objs.size, lsto (intV (intP (zs.map (·.1) ++ [9]) (dec (enc (zs.map (·.2) ++ [t9]))))) 0)] 0 _
  rw [← e]
  exact R2
theorem specPw9 {K : Frag} (t u k : Nat) (h1 : 1 ≤ k) (h9 : k ≤ 9) : Spec w K d J (.call (.builtin "int.__pow__") ⟨[.int 10 t, .int (k : Int) u], []⟩) [] 0 1 (ceI "int.__pow__" (10 ^ k)).f 0 := by
  by_cases h7 : k ≤ 7
  · exact specPow t u k h1 h7
  · have : k = 8 ∨ k = 9 := by omega
    rcases this with rfl | rfl
    · exact spec_gi F.slot_int_pow (fun s => typeIs_int s 10 t) F.entry_int_pow (F.args_int_pow_2 _ _) (gives_pow8 t u) 0
    · exact spec_gi F.slot_int_pow (fun s => typeIs_int s 10 t) F.entry_int_pow (F.args_int_pow_2 _ _) (gives_pow9 t u) 0
theorem a0_head (A : List Int) (ts : List Nat) : ∃ t, (intV (intP (A ++ [9]) ts))[0]? = some (.int (a0L A) t) := by
  cases A with
  | nil => exact ⟨_, rfl⟩
  | cons x A => exact ⟨_, rfl⟩
theorem ap_loop {A : Around} {R : Result → Shared → Prop} {rs : List Row} {zs : List (Int × Nat)} {e it acc fl fln al an L cA cP cR cM cF D : Nat}
    (hA : AOk (d - 16) A) (hd : 16 ≤ d) (hK : KIn (app (KP w.params) (rowsE rs)) B) (ok : RowsOk (KP w.params) rs) (hz : zs.length ≤ 10) (he : a0L (zs.map (·.1)) = (e : Int)) (he1 : 1 ≤ e) (he9 : e ≤ 9)
    (hR : ∀ kx tv ts s', ts.length = (apL e rs rs.length).length → Rel J B os dr [(cA, celO (some (.ref al))), (cF, celO (some (.ref fl))), (fl, lsto (rs.map fun r => .ref r.a) fln), (al, lsto (intV zs) an), (acc, lsto (intV (intP (apL e rs rs.length) ts)) (apL e rs rs.length).length), (D, dicO [en (hs w.params nK) kx nK (.int ((rs.length : Int) - 1) tv)] 1)] 0 s' → R (.ok .next) s') :
    ∀ (rem i kx tv : Nat) (ts : List Nat) (Do : Obj) (s : Shared), i + rem = rs.length → ts.length = (apL e rs i).length →
      ((i = 0 ∧ Do = dicO [] 0) ∨ (0 < i ∧ Do = dicO [en (hs w.params nK) kx nK (.int ((i : Int) - 1) tv)] 1)) →
      Rel J B os dr [(it, ritO (i : Int) ((rs.length : Int) - (i : Int))), (cA, celO (some (.ref al))), (cF, celO (some (.ref fl))), (fl, lsto (rs.map fun r => .ref r.a) fln), (al, lsto (intV zs) an), (acc, lsto (intV (intP (apL e rs i) ts)) (apL e rs i).length), (D, Do)] 0 s →
      codeAny (Mo w) A (.compLoop (pC w.params) 0 (.ref it) (.ref acc) (pE w.params L cA cP cR cM cF D)) R s
  | 0, i, kx, tv, ts, Do, s, hi, hts, hD, Rl => by
    have hi' : i = rs.length := by omega
    subst hi'
    rcases hD with ⟨h0, _⟩ | ⟨_, rfl⟩
    · have := ok.len.1
      omega
    · rw [Int.sub_self] at Rl
      exact code_front2 (fT_eq w) hA hd rfl hK.left (Hp := [_]) (rest := [_, _, _, _, _, _]) Rl (fun u => ap_e w.params _ _ _ it acc L cA cP cR cM cF D _ u) (fun u => okD_of _ _ _ _ trivial trivial) fun u s' R' => hR kx tv ts s' hts R'
  | rem + 1, i, kx, tv, ts, Do, s, hi, hts, hD, Rl => by
    have hlt : i < rs.length := by omega
    have hn9 := ok.len.2
    have hwl : (intV (intP (apL e rs i) ts)).length ≤ 1000 := by
      rw [intP_len]; have := apL_le e rs i; omega
    obtain ⟨r, hr⟩ : ∃ r, rowAt rs i = r := ⟨_, rfl⟩
    have hri : rs[i]? = some r := by
      unfold rowAt at hr
      rw [List.getElem?_eq_getElem hlt] at hr ⊢
      rw [← hr]; rfl
    have hmem : r ∈ rs := List.mem_of_getElem? hri
    have hb' := hK _ _ (ok.look hmem)
    have Rb := Rl.borrow hb'
    have hK' := hK.left.del (ok.out r hmem)
    have hv : (rs.map fun r => Value.ref r.a)[i]? = some (.ref r.a) := by rw [List.getElem?_map, hri]; rfl
    have e1 : (rs.length : Int) - (i : Int) - 1 = (rs.length : Int) - ((i + 1 : Nat) : Int) := by omega
    have e2 : (i : Int) + 1 = ((i + 1 : Nat) : Int) := by omega
    have e3 : (i : Int) = ((i + 1 : Nat) : Int) - 1 := by omega
    have hpos : (0 : Int) < (rs.length : Int) - (i : Int) := by omega
    have finN : ∀ (kk tk : Nat) s', apB e r = false →
        Rel J (delB B r.a) os dr [(r.a, tupO [.int r.m r.tm, .int r.s r.ts]), (cA, celO (some (.ref al))), (cF, celO (some (.ref fl))), (acc, lsto (intV (intP (apL e rs i) ts)) (apL e rs i).length), (D, dicO [en (hs w.params nK) kk nK (.int (i : Int) tk)] 1), (it, ritO ((i : Int) + 1) ((rs.length : Int) - (i : Int) - 1)), (fl, lsto (rs.map fun r => .ref r.a) fln), (al, lsto (intV zs) an)] 0 s' →
        codeAny (Mo w) A (.compLoop (pC w.params) 0 (.ref it) (.ref acc) (pE w.params L cA cP cR cM cF D)) R s' := by
      intro kk tk s' hb R'
      have R1 := R'.giveback hb'
      rw [← hr] at hb
      have R2 := R1.reorder [4, 0, 1, 5, 6, 2, 3] rfl
      have R3 : Rel J B os dr [(it, ritO ((i + 1 : Nat) : Int) ((rs.length : Int) - ((i + 1 : Nat) : Int))), (cA, celO (some (.ref al))), (cF, celO (some (.ref fl))), (fl, lsto (rs.map fun r => .ref r.a) fln), (al, lsto (intV zs) an), (acc, lsto (intV (intP (apL e rs (i + 1)) ts)) (apL e rs (i + 1)).length), (D, dicO [en (hs w.params nK) kk nK (.int (((i + 1 : Nat) : Int) - 1) tk)] 1)] 0 s' := by
        rw [apL_f hb, ← e3, ← e1, ← e2]; exact R2
      exact ap_loop hA hd hK ok hz he he1 he9 hR rem (i + 1) kk tk ts _ s' (by omega) (by rw [apL_f hb]; exact hts) (.inr ⟨by omega, rfl⟩) R3
    have finY : ∀ (z kk tk : Nat) s', apB e r = true →
        Rel J (delB B r.a) os dr [(r.a, tupO [.int r.m r.tm, .int r.s r.ts]), (cA, celO (some (.ref al))), (cF, celO (some (.ref fl))), (D, dicO [en (hs w.params nK) kk nK (.int (i : Int) tk)] 1), (it, ritO ((i : Int) + 1) ((rs.length : Int) - (i : Int) - 1)), (fl, lsto (rs.map fun r => .ref r.a) fln), (al, lsto (intV zs) an), (acc, lsto (intV (intP (apL e rs i) ts) ++ [.int (i : Int) z]) ((apL e rs i).length + 1))] 0 s' →
        codeAny (Mo w) A (.compLoop (pC w.params) 0 (.ref it) (.ref acc) (pE w.params L cA cP cR cM cF D)) R s' := by
      intro z kk tk s' hb R'
      have R1 := R'.giveback hb'
      rw [← hr] at hb
      have el : (apL e rs i).length + 1 = (apL e rs (i + 1)).length := by rw [apL_t hb, List.length_append]; rfl
      have R2 := R1.reorder [3, 0, 1, 4, 5, 6, 2] rfl
      have R3 : Rel J B os dr [(it, ritO ((i + 1 : Nat) : Int) ((rs.length : Int) - ((i + 1 : Nat) : Int))), (cA, celO (some (.ref al))), (cF, celO (some (.ref fl))), (fl, lsto (rs.map fun r => .ref r.a) fln), (al, lsto (intV zs) an), (acc, lsto (intV (intP (apL e rs (i + 1)) (ts ++ [z]))) (apL e rs (i + 1)).length), (D, dicO [en (hs w.params nK) kk nK (.int (((i + 1 : Nat) : Int) - 1) tk)] 1)] 0 s' := by
        rw [← el, apL_t hb, ← intP_snoc _ _ _ _ hts, ← e3, ← e1, ← e2]; exact R2
      exact ap_loop hA hd hK ok hz he he1 he9 hR rem (i + 1) kk tk (ts ++ [z]) _ s' (by omega) (by rw [← el, List.length_append, hts]; rfl) (.inr ⟨by omega, rfl⟩) R3
    have sI : ∀ m l n t ts', Spec w (KP w.params) d J (.call (.builtin "list.__getitem__") ⟨[.ref l, .int 0 t], []⟩) [(l, lsto (intV (intP (zs.map (·.1) ++ [9]) ts')) n)] 0 1 (ceAtI m (e : Int)).f 0 := by
      intro m l n t ts'
      obtain ⟨t', ht⟩ := a0_head (zs.map (·.1)) ts'
      rw [he] at ht
      exact specAtI m ht
    cases hc : decide (r.s ≥ 10 ^ e)
    all_goals rcases hD with ⟨h0, rfl⟩ | ⟨h0, rfl⟩
    · have T := fun u => ap_f0 w.params (f1 w) (f2 w) (SP w (KP w.params) d J) it acc fl fln al an L cA cP cR cM cF D (apL e rs i).length r.a r.tm r.ts (i : Int) ((rs.length : Int) - (i : Int)) r.m r.s (e : Int) (10 ^ e) (rs.map fun r => .ref r.a) (intV zs) (intV (intP (apL e rs i) ts)) (zs.map (·.1) ++ [9]) u
      exact code_front2 (fT_eq w) hA hd rfl hK' (Hp := [_, _, _, _, _, _, _, _]) (rest := []) Rb T (fun u => okD_of _ _ _ _ ⟨specRN _ hpos, specAt _ (by omega) hv, specLAdd _ hz, sI _ _ _ _ _, specPw9 _ _ _ he1 he9, specGeI hc, trivial⟩ trivial) fun u s' R' => ⟨rfl, finN _ _ s' hc R'⟩
    · have T := fun u => ap_f1 w.params (f1 w) (f2 w) (SP w (KP w.params) d J) it acc fl fln al an L cA cP cR cM cF D (apL e rs i).length r.a r.tm r.ts (i : Int) ((rs.length : Int) - (i : Int)) r.m r.s (e : Int) (10 ^ e) (rs.map fun r => .ref r.a) (intV zs) (intV (intP (apL e rs i) ts)) (zs.map (·.1) ++ [9]) (hs w.params nK) kx (.int ((i : Int) - 1) tv) u
      exact code_front2 (fT_eq w) hA hd rfl hK' (Hp := [_, _, _, _, _, _, _, _]) (rest := []) Rb T (fun u => okD_of _ _ _ _ ⟨specRN _ hpos, specAt _ (by omega) hv, specLAdd _ hz, sI _ _ _ _ _, specPw9 _ _ _ he1 he9, specGeI hc, trivial⟩ trivial) fun u s' R' => ⟨rfl, finN _ _ s' hc R'⟩
    · have T := fun u => ap_t0 w.params (f1 w) (f2 w) (SP w (KP w.params) d J) it acc fl fln al an L cA cP cR cM cF D (apL e rs i).length r.a r.tm r.ts (i : Int) ((rs.length : Int) - (i : Int)) r.m r.s (e : Int) (10 ^ e) (rs.map fun r => .ref r.a) (intV zs) (intV (intP (apL e rs i) ts)) (zs.map (·.1) ++ [9]) u
      exact code_front2 (fT_eq w) hA hd rfl hK' (Hp := [_, _, _, _, _, _, _, _]) (rest := []) Rb T (fun u => okD_of _ _ _ _ ⟨specRN _ hpos, specAt _ (by omega) hv, specLAdd _ hz, sI _ _ _ _ _, specPw9 _ _ _ he1 he9, specGeI hc, specApI _ hwl, trivial⟩ trivial) fun u s' R' => ⟨rfl, finY _ _ _ s' hc R'⟩
    · have T := fun u => ap_t1 w.params (f1 w) (f2 w) (SP w (KP w.params) d J) it acc fl fln al an L cA cP cR cM cF D (apL e rs i).length r.a r.tm r.ts (i : Int) ((rs.length : Int) - (i : Int)) r.m r.s (e : Int) (10 ^ e) (rs.map fun r => .ref r.a) (intV zs) (intV (intP (apL e rs i) ts)) (zs.map (·.1) ++ [9]) (hs w.params nK) kx (.int ((i : Int) - 1) tv) u
      exact code_front2 (fT_eq w) hA hd rfl hK' (Hp := [_, _, _, _, _, _, _, _]) (rest := []) Rb T (fun u => okD_of _ _ _ _ ⟨specRN _ hpos, specAt _ (by omega) hv, specLAdd _ hz, sI _ _ _ _ _, specPw9 _ _ _ he1 he9, specGeI hc, specApI _ hwl, trivial⟩ trivial) fun u s' R' => ⟨rfl, finY _ _ _ s' hc R'⟩
end
end Mine
end
-- V61
section
open PySem PySem.Spec PySem.Calls PyProof.Rows PySem.W PySem.W.X
namespace Mine
/-! the two comprehensions of due's return, and apart's contract -/
noncomputable def gtL (L : List (List Nat)) (zs : List (Int × Nat)) : List (List Nat) := (zs.map (·.1)).map fun x => L.getD x.toNat []
noncomputable def dvZ (zs : List (Int × Nat)) : List Nat → Value := fun _ => match zs.getLast? with
  | some z => .int z.1 z.2
  | none => .none
noncomputable def vN (n : Nat) : List Nat → Value := fun us => .int ((n : Int) - 1) (getU us 8)
theorem TxA.at {v : List Value} {L : List (List Nat)} (h : TxA v L) : ∀ {k : Nat}, k < L.length → ∃ t : Nat, v[k]? = Option.some (Value.str (mkS (L.getD k [])) t) := by
  induction h with
  | nil => intro k hk; cases hk
  | @cons x t vs l _ ih =>
    intro k hk
    cases k with
    | zero => exact ⟨t, rfl⟩
    | succ k =>
      obtain ⟨t', e⟩ := ih (k := k) (by simpa using hk)
      refine ⟨t', ?_⟩
      simpa using e
theorem intV_at (zs : List (Int × Nat)) (i : Nat) : (intV zs)[i]? = zs[i]?.map fun z => .int z.1 z.2 := by
  unfold intV
  rw [List.getElem?_map]
section
variable {w : World} {J : Nat → Array GenState → Prop} {B : Addr → Option Obj} {os : OsState} {dr : Drawn} {d : Nat}
theorem specApt {rs : List Row} {zs : List (Int × Nat)} {e it acc fl fln al an L cA cP cR cM cF D : Nat} (m : List Bool) (hd9 : d ≤ 860)
    (ok : RowsOk (KP w.params) rs) (hz : zs.length ≤ 10) (he : a0L (zs.map (·.1)) = (e : Int)) (he1 : 1 ≤ e) (he9 : e ≤ 9) :
    Spec w (app (KP w.params) (rowsE rs)) d J (.compStart (pC w.params) 0 (.ref it) (.ref acc) (pE w.params L cA cP cR cM cF D))
      [(cA, celO (some (.ref al))), (cF, celO (some (.ref fl))), (al, lsto (intV zs) an), (fl, lsto (rs.map fun r => .ref r.a) fln), (it, ritO 0 (rs.length : Int)), (acc, lsto [] 0), (D, dicO [] 0)] 0 3
      ((ceApt w.params m fl al (lsto (rs.map fun r => .ref r.a) fln) (lsto (intV zs) an) (apL e rs rs.length) (vN rs.length)).g [(cA, celO (some (.ref al))), (cF, celO (some (.ref fl))), (al, lsto (intV zs) an), (fl, lsto (rs.map fun r => .ref r.a) fln), (it, ritO 0 (rs.length : Int)), (acc, lsto [] 0), (D, dicO [] 0)]) 0 := by
  refine spec_code fun A B os dr s R hA hK Rl hR => ?_
  have hA' : AOk (d + 16 - 16) A := by rw [Nat.add_sub_cancel]; exact hA
  have R1 : Rel J B os dr [(it, ritO ((0 : Nat) : Int) ((rs.length : Int) - ((0 : Nat) : Int))), (cA, celO (some (.ref al))), (cF, celO (some (.ref fl))), (fl, lsto (rs.map fun r => .ref r.a) fln), (al, lsto (intV zs) an), (acc, lsto (intV (intP (apL e rs 0) [])) (apL e rs 0).length), (D, dicO [] 0)] 0 s := by
    rw [show ((0 : Nat) : Int) = 0 from rfl, Int.sub_zero]; exact Rl.reorder [4, 0, 1, 3, 2, 5, 6] rfl
  rw [pC_eq]
  refine codeAny_compStart_list ?_ (wpAny_pyIter_rangeiter (Rl.at (i := 4) rfl) ?_)
  all_goals
    rw [← pC_eq]
    refine ap_loop (d := d + 16) (rs := rs) (zs := zs) (e := e) hA' (by omega) hK ok hz he he1 he9 (fun kx tv ts s' hts R' => ?_) rs.length 0 0 0 [] _ s (by omega) rfl (.inl ⟨rfl, rfl⟩) R1
    refine hR [kx, tv, enc ts] s' rfl ?_
    show Rel _ _ _ _ [(cA, celO (some (.ref al))), (cF, celO (some (.ref fl))), (fl, lsto (rs.map fun r => .ref r.a) fln), (al, lsto (intV zs) an), (acc, lsto (intV (intP (apL e rs rs.length) (dec (enc ts)))) (apL e rs rs.length).length), (D, dicO [en (hs w.params nK) kx nK (.int ((rs.length : Int) - 1) tv)] 1)] 0 s'
    rw [dec_enc]
    exact R'

theorem rC_eq0 (P : Params) : rC P 0 = .ListComp (lcE (rC P 0)) (⟨(g1 (lcG (rC P 0))).target, (g1 (lcG (rC P 0))).iter, (g1 (lcG (rC P 0))).ifs, 0⟩ :: []) (lcS (rC P 0)) (lcP (rC P 0)) := by kernel_rfl!
theorem rt_loop0 {A : Around} {R : Result → Shared → Prop} {zs : List (Int × Nat)} {pv : List Value} {Lp : List (List Nat)} {it acc al an pg p0 p1 gn pw L cA cP cR cM cF D : Nat}
    (hA : AOk (d - 16) A) (hd : 16 ≤ d) (hK : KIn (KP w.params) B) (hz : zs.length ≤ 10) (tx : TxA pv Lp) (hl : Lp.length ≤ 9) (hi : ∀ z ∈ zs, ∃ k : Nat, z.1 = (k : Int) ∧ k < Lp.length)
    (hR : ∀ kx ts s', ts.length = zs.length → Rel J B os dr [(cP, celO (some (.ref pg))), (pg, lsto [.ref p0, .ref p1] gn), (p0, lsto pv pw), (al, lsto (intV zs) an), (acc, lsto (txts (gtL Lp zs) ts) zs.length), (D, match zs.isEmpty with | true => dicO [] 0 | false => dicO [en (hs w.params nK) kx nK (dvZ zs [])] 1)] 0 s' → R (.ok .next) s') :
    ∀ (todo done : List (Int × Nat)) (kx : Nat) (ts : List Nat) (Do : Obj) (s : Shared), zs = done ++ todo → ts.length = done.length →
      ((done = [] ∧ Do = dicO [] 0) ∨ (∃ lst, done.getLast? = some lst ∧ Do = dicO [en (hs w.params nK) kx nK (.int lst.1 lst.2)] 1)) →
      Rel J B os dr [(it, lstIt (.ref al) (done.length : Int)), (cP, celO (some (.ref pg))), (pg, lsto [.ref p0, .ref p1] gn), (p0, lsto pv pw), (al, lsto (intV zs) an), (acc, lsto (txts (gtL Lp done) ts) done.length), (D, Do)] 0 s →
      codeAny (Mo w) A (.compLoop (rC w.params 0) 0 (.ref it) (.ref acc) (rE w.params 0 L cA cP cR cM cF D)) R s
  | [], done, kx, ts, Do, s, hzs, hts, hD, Rl => by
    rw [List.append_nil] at hzs
    subst hzs
    refine code_front2 (fT_eq w) hA hd rfl hK (Hp := [_, _]) (rest := [_, _, _, _, _]) (Rl.reorder [0, 4, 1, 2, 3, 5, 6] rfl) (fun u => rt0_e w.params _ _ _ it acc al L cA cP cR cM cF D zs.length _ u) (fun u => okD_of _ _ _ _ ⟨specNxE _ (by rw [intV_at, List.getElem?_eq_none (Nat.le_refl _)]; rfl), trivial⟩ trivial) fun u s' R' => ?_
    have R2 := R'.reorder [1, 2, 3, 0, 4, 5] rfl
    refine hR kx ts s' hts ?_
    rcases hD with ⟨rfl, rfl⟩ | ⟨lst, hl', rfl⟩
    · exact R2
    · have e1 : zs.isEmpty = false := by cases zs with | nil => cases hl' | cons z zs => rfl
      have e2 : dvZ zs [] = .int lst.1 lst.2 := by unfold dvZ; rw [hl']
      rw [e1, e2]
      exact R2
  | z :: todo, done, kx, ts, Do, s, hzs, hts, hD, Rl => by
    have hmem : z ∈ zs := by rw [hzs]; simp
    have hn : done.length < zs.length := by rw [hzs, List.length_append, List.length_cons]; omega
    obtain ⟨k, hk, hlt⟩ := hi z hmem
    obtain ⟨t', ht⟩ := tx.at hlt
    obtain ⟨zx, zt⟩ := z
    dsimp only at hk
    subst hk
    have hv : (intV zs)[done.length]? = some (.int (k : Int) zt) := by rw [intV_at, hzs]; simp
    have hwl : (txts (gtL Lp done) ts).length ≤ 1000 := by rw [txts_len]; unfold gtL; rw [List.length_map, List.length_map]; omega
    have hds : ts.length = (gtL Lp done).length := by unfold gtL; rw [List.length_map, List.length_map, hts]
    have hzs' : zs = (done ++ [((k : Int), zt)]) ++ todo := by rw [hzs, List.append_assoc]; rfl
    have ew : ∀ y, txts (gtL Lp done) ts ++ [.str (mkS (Lp.getD k [])) y] = txts (gtL Lp (done ++ [((k : Int), zt)])) (ts ++ [y]) := fun y => by
      rw [txts_snoc _ _ _ _ hds]
      unfold gtL
      rw [List.map_append, List.map_append]; rfl
    have el : ((done.length + 1 : Nat) : Int) = ((done ++ [((k : Int), zt)]).length : Int) := by rw [List.length_append]; rfl
    have el2 : done.length + 1 = (done ++ [((k : Int), zt)]).length := by rw [List.length_append]; rfl
    have fin : ∀ (y kk : Nat) s', Rel J B os dr [(cP, celO (some (.ref pg))), (pg, lsto [.ref p0, .ref p1] gn), (D, dicO [en (hs w.params nK) kk nK (.int (k : Int) zt)] 1), (it, lstIt (.ref al) ((done.length + 1 : Nat) : Int)), (al, lsto (intV zs) an), (p0, lsto pv pw), (acc, lsto (txts (gtL Lp done) ts ++ [.str (mkS (Lp.getD k [])) y]) (done.length + 1))] 0 s' →
        codeAny (Mo w) A (.compLoop (rC w.params 0) 0 (.ref it) (.ref acc) (rE w.params 0 L cA cP cR cM cF D)) R s' := by
      intro y kk s' R'
      rw [ew, el, el2] at R'
      have R2 := R'.reorder [3, 0, 1, 5, 4, 6, 2] rfl
      exact rt_loop0 hA hd hK hz tx hl hi hR todo (done ++ [((k : Int), zt)]) kk (ts ++ [y]) _ s' hzs' (by rw [List.length_append, List.length_append, hts]; rfl) (.inr ⟨((k : Int), zt), by simp, rfl⟩) R2
    rcases hD with ⟨rfl, rfl⟩ | ⟨lst, hl', rfl⟩
    · have T := fun u => rt0_0 w.params (f1 w) (f2 w) (SP w (KP w.params) d J) it acc al pg p0 p1 gn an L cA cP cR cM cF D 0 0 zt (k : Int) pw pv (mkS (Lp.getD k [])) (intV zs) (txts (gtL Lp []) ts) u
      exact code_front2 (fT_eq w) hA hd rfl hK (Hp := [_, _, _, _, _, _, _]) (rest := []) Rl T (fun u => okD_of _ _ _ _ ⟨specNx _ hv, specAtS _ (by omega) ht, specApS _ hwl, trivial⟩ trivial) fun u s' R' => ⟨rfl, fin _ _ s' R'⟩
    · have T := fun u => rt0_1 w.params (f1 w) (f2 w) (SP w (KP w.params) d J) it acc al pg p0 p1 gn an L cA cP cR cM cF D done.length done.length zt (k : Int) pw pv (mkS (Lp.getD k [])) (intV zs) (txts (gtL Lp done) ts) (hs w.params nK) kx (.int lst.1 lst.2) u
      exact code_front2 (fT_eq w) hA hd rfl hK (Hp := [_, _, _, _, _, _, _]) (rest := []) Rl T (fun u => okD_of _ _ _ _ ⟨specNx _ hv, specAtS _ (by omega) ht, specApS _ hwl, trivial⟩ trivial) fun u s' R' => ⟨rfl, fin _ _ s' R'⟩
theorem specGt0 {zs : List (Int × Nat)} {pv : List Value} {Lp : List (List Nat)} {it acc al an pg p0 p1 gn pw L cA cP cR cM cF D : Nat} {b : Bool} (m : List Bool) (hd9 : d ≤ 860)
    (hz : zs.length ≤ 10) (tx : TxA pv Lp) (hl : Lp.length ≤ 9) (hi : ∀ z ∈ zs, ∃ k : Nat, z.1 = (k : Int) ∧ k < Lp.length) (hb : zs.isEmpty = b) :
    Spec w (KP w.params) d J (.compStart (rC w.params 0) 0 (.ref it) (.ref acc) (rE w.params 0 L cA cP cR cM cF D))
      [(cP, celO (some (.ref pg))), (pg, lsto [.ref p0, .ref p1] gn), (p0, lsto pv pw), (al, lsto (intV zs) an), (it, lstIt (.ref al) 0), (acc, lsto [] 0), (D, dicO [] 0)] 0 3
      ((ceGt w.params b (dvZ zs) m 0 pg p0 p1 gn p0 (lsto pv pw) (lsto (intV zs) an) (gtL Lp zs) 3 5).g [(cP, celO (some (.ref pg))), (pg, lsto [.ref p0, .ref p1] gn), (p0, lsto pv pw), (al, lsto (intV zs) an), (it, lstIt (.ref al) 0), (acc, lsto [] 0), (D, dicO [] 0)]) 0 := by
  subst hb
  refine spec_code fun A B os dr s R hA hK Rl hR => ?_
  have hA' : AOk (d + 16 - 16) A := by rw [Nat.add_sub_cancel]; exact hA
  refine comp_start (rC_eq0 w.params) (l := al) (i := 0) ⟨_, Rl.at (i := 4) rfl, rfl, rfl⟩ ?_
  have R1 : Rel J B os dr [(it, lstIt (.ref al) ((([] : List (Int × Nat)).length : Nat) : Int)), (cP, celO (some (.ref pg))), (pg, lsto [.ref p0, .ref p1] gn), (p0, lsto pv pw), (al, lsto (intV zs) an), (acc, lsto (txts (gtL Lp []) []) ([] : List (Int × Nat)).length), (D, dicO [] 0)] 0 s := Rl.reorder [4, 0, 1, 2, 3, 5, 6] rfl
  refine rt_loop0 (d := d + 16) (zs := zs) (pv := pv) (Lp := Lp) hA' (by omega) hK hz tx hl hi (fun kx ts s' hts R' => ?_) zs [] 0 [] _ s rfl rfl (.inl ⟨rfl, rfl⟩) R1
  have gl : (gtL Lp zs).length = zs.length := by unfold gtL; rw [List.length_map, List.length_map]
  refine hR [enc ts, kx, 0] s' rfl ?_
  show Rel J B os dr [(cP, celO (some (.ref pg))), (pg, lsto [.ref p0, .ref p1] gn), (p0, lsto pv pw), (al, lsto (intV zs) an), (acc, lsto (txts (gtL Lp zs) (dec (enc ts))) (gtL Lp zs).length), (D, match zs.isEmpty with | true => dicO [] 0 | false => dicO [en (hs w.params nK) kx nK (dvZ zs [])] 1)] 0 s'
  rw [dec_enc, gl]
  exact R'

theorem rC_eq1 (P : Params) : rC P 1 = .ListComp (lcE (rC P 1)) (⟨(g1 (lcG (rC P 1))).target, (g1 (lcG (rC P 1))).iter, (g1 (lcG (rC P 1))).ifs, 0⟩ :: []) (lcS (rC P 1)) (lcP (rC P 1)) := by kernel_rfl!
theorem rt_loop1 {A : Around} {R : Result → Shared → Prop} {zs : List (Int × Nat)} {pv : List Value} {Lp : List (List Nat)} {it acc al an pg p0 p1 gn pw L cA cP cR cM cF D : Nat}
    (hA : AOk (d - 16) A) (hd : 16 ≤ d) (hK : KIn (KP w.params) B) (hz : zs.length ≤ 10) (tx : TxA pv Lp) (hl : Lp.length ≤ 9) (hi : ∀ z ∈ zs, ∃ k : Nat, z.1 = (k : Int) ∧ k < Lp.length)
    (hR : ∀ kx ts s', ts.length = zs.length → Rel J B os dr [(cP, celO (some (.ref pg))), (pg, lsto [.ref p0, .ref p1] gn), (p1, lsto pv pw), (al, lsto (intV zs) an), (acc, lsto (txts (gtL Lp zs) ts) zs.length), (D, match zs.isEmpty with | true => dicO [] 0 | false => dicO [en (hs w.params nK) kx nK (dvZ zs [])] 1)] 0 s' → R (.ok .next) s') :
    ∀ (todo done : List (Int × Nat)) (kx : Nat) (ts : List Nat) (Do : Obj) (s : Shared), zs = done ++ todo → ts.length = done.length →
      ((done = [] ∧ Do = dicO [] 0) ∨ (∃ lst, done.getLast? = some lst ∧ Do = dicO [en (hs w.params nK) kx nK (.int lst.1 lst.2)] 1)) →
      Rel J B os dr [(it, lstIt (.ref al) (done.length : Int)), (cP, celO (some (.ref pg))), (pg, lsto [.ref p0, .ref p1] gn), (p1, lsto pv pw), (al, lsto (intV zs) an), (acc, lsto (txts (gtL Lp done) ts) done.length), (D, Do)] 0 s →
      codeAny (Mo w) A (.compLoop (rC w.params 1) 0 (.ref it) (.ref acc) (rE w.params 1 L cA cP cR cM cF D)) R s
  | [], done, kx, ts, Do, s, hzs, hts, hD, Rl => by
    rw [List.append_nil] at hzs
    subst hzs
    refine code_front2 (fT_eq w) hA hd rfl hK (Hp := [_, _]) (rest := [_, _, _, _, _]) (Rl.reorder [0, 4, 1, 2, 3, 5, 6] rfl) (fun u => rt1_e w.params _ _ _ it acc al L cA cP cR cM cF D zs.length _ u) (fun u => okD_of _ _ _ _ ⟨specNxE _ (by rw [intV_at, List.getElem?_eq_none (Nat.le_refl _)]; rfl), trivial⟩ trivial) fun u s' R' => ?_
    have R2 := R'.reorder [1, 2, 3, 0, 4, 5] rfl
    refine hR kx ts s' hts ?_
    rcases hD with ⟨rfl, rfl⟩ | ⟨lst, hl', rfl⟩
    · exact R2
    · have e1 : zs.isEmpty = false := by cases zs with | nil => cases hl' | cons z zs => rfl
      have e2 : dvZ zs [] = .int lst.1 lst.2 := by unfold dvZ; rw [hl']
      rw [e1, e2]
      exact R2
  | z :: todo, done, kx, ts, Do, s, hzs, hts, hD, Rl => by
    have hmem : z ∈ zs := by rw [hzs]; simp
    have hn : done.length < zs.length := by rw [hzs, List.length_append, List.length_cons]; omega
    obtain ⟨k, hk, hlt⟩ := hi z hmem
    obtain ⟨t', ht⟩ := tx.at hlt
    obtain ⟨zx, zt⟩ := z
    dsimp only at hk
    subst hk
    have hv : (intV zs)[done.length]? = some (.int (k : Int) zt) := by rw [intV_at, hzs]; simp
    have hwl : (txts (gtL Lp done) ts).length ≤ 1000 := by rw [txts_len]; unfold gtL; rw [List.length_map, List.length_map]; omega
    have hds : ts.length = (gtL Lp done).length := by unfold gtL; rw [List.length_map, List.length_map, hts]
    have hzs' : zs = (done ++ [((k : Int), zt)]) ++ todo := by rw [hzs, List.append_assoc]; rfl
    have ew : ∀ y, txts (gtL Lp done) ts ++ [.str (mkS (Lp.getD k [])) y] = txts (gtL Lp (done ++ [((k : Int), zt)])) (ts ++ [y]) := fun y => by
      rw [txts_snoc _ _ _ _ hds]
      unfold gtL
      rw [List.map_append, List.map_append]; rfl
    have el : ((done.length + 1 : Nat) : Int) = ((done ++ [((k : Int), zt)]).length : Int) := by rw [List.length_append]; rfl
    have el2 : done.length + 1 = (done ++ [((k : Int), zt)]).length := by rw [List.length_append]; rfl
    have fin : ∀ (y kk : Nat) s', Rel J B os dr [(cP, celO (some (.ref pg))), (pg, lsto [.ref p0, .ref p1] gn), (D, dicO [en (hs w.params nK) kk nK (.int (k : Int) zt)] 1), (it, lstIt (.ref al) ((done.length + 1 : Nat) : Int)), (al, lsto (intV zs) an), (p1, lsto pv pw), (acc, lsto (txts (gtL Lp done) ts ++ [.str (mkS (Lp.getD k [])) y]) (done.length + 1))] 0 s' →
        codeAny (Mo w) A (.compLoop (rC w.params 1) 0 (.ref it) (.ref acc) (rE w.params 1 L cA cP cR cM cF D)) R s' := by
      intro y kk s' R'
      rw [ew, el, el2] at R'
      have R2 := R'.reorder [3, 0, 1, 5, 4, 6, 2] rfl
      exact rt_loop1 hA hd hK hz tx hl hi hR todo (done ++ [((k : Int), zt)]) kk (ts ++ [y]) _ s' hzs' (by rw [List.length_append, List.length_append, hts]; rfl) (.inr ⟨((k : Int), zt), by simp, rfl⟩) R2
    rcases hD with ⟨rfl, rfl⟩ | ⟨lst, hl', rfl⟩
    · have T := fun u => rt1_0 w.params (f1 w) (f2 w) (SP w (KP w.params) d J) it acc al pg p0 p1 gn an L cA cP cR cM cF D 0 0 zt (k : Int) pw pv (mkS (Lp.getD k [])) (intV zs) (txts (gtL Lp []) ts) u
      exact code_front2 (fT_eq w) hA hd rfl hK (Hp := [_, _, _, _, _, _, _]) (rest := []) Rl T (fun u => okD_of _ _ _ _ ⟨specNx _ hv, specAtS _ (by omega) ht, specApS _ hwl, trivial⟩ trivial) fun u s' R' => ⟨rfl, fin _ _ s' R'⟩
    · have T := fun u => rt1_1 w.params (f1 w) (f2 w) (SP w (KP w.params) d J) it acc al pg p0 p1 gn an L cA cP cR cM cF D done.length done.length zt (k : Int) pw pv (mkS (Lp.getD k [])) (intV zs) (txts (gtL Lp done) ts) (hs w.params nK) kx (.int lst.1 lst.2) u
      exact code_front2 (fT_eq w) hA hd rfl hK (Hp := [_, _, _, _, _, _, _]) (rest := []) Rl T (fun u => okD_of _ _ _ _ ⟨specNx _ hv, specAtS _ (by omega) ht, specApS _ hwl, trivial⟩ trivial) fun u s' R' => ⟨rfl, fin _ _ s' R'⟩
theorem specGt1 {zs : List (Int × Nat)} {pv : List Value} {Lp : List (List Nat)} {it acc al an pg p0 p1 gn pw L cA cP cR cM cF D : Nat} {b : Bool} (m : List Bool) (hd9 : d ≤ 860)
    (hz : zs.length ≤ 10) (tx : TxA pv Lp) (hl : Lp.length ≤ 9) (hi : ∀ z ∈ zs, ∃ k : Nat, z.1 = (k : Int) ∧ k < Lp.length) (hb : zs.isEmpty = b) :
    Spec w (KP w.params) d J (.compStart (rC w.params 1) 0 (.ref it) (.ref acc) (rE w.params 1 L cA cP cR cM cF D))
      [(p1, lsto pv pw), (al, lsto (intV zs) an), (cP, celO (some (.ref pg))), (pg, lsto [.ref p0, .ref p1] gn), (it, lstIt (.ref al) 0), (acc, lsto [] 0), (D, dicO [] 0)] 0 3
      ((ceGt w.params b (dvZ zs) m 2 pg p0 p1 gn p1 (lsto pv pw) (lsto (intV zs) an) (gtL Lp zs) 1 5).g [(p1, lsto pv pw), (al, lsto (intV zs) an), (cP, celO (some (.ref pg))), (pg, lsto [.ref p0, .ref p1] gn), (it, lstIt (.ref al) 0), (acc, lsto [] 0), (D, dicO [] 0)]) 0 := by
  subst hb
  refine spec_code fun A B os dr s R hA hK Rl hR => ?_
  have hA' : AOk (d + 16 - 16) A := by rw [Nat.add_sub_cancel]; exact hA
  refine comp_start (rC_eq1 w.params) (l := al) (i := 0) ⟨_, Rl.at (i := 4) rfl, rfl, rfl⟩ ?_
  have R1 : Rel J B os dr [(it, lstIt (.ref al) ((([] : List (Int × Nat)).length : Nat) : Int)), (cP, celO (some (.ref pg))), (pg, lsto [.ref p0, .ref p1] gn), (p1, lsto pv pw), (al, lsto (intV zs) an), (acc, lsto (txts (gtL Lp []) []) ([] : List (Int × Nat)).length), (D, dicO [] 0)] 0 s := Rl.reorder [4, 2, 3, 0, 1, 5, 6] rfl
  refine rt_loop1 (d := d + 16) (zs := zs) (pv := pv) (Lp := Lp) hA' (by omega) hK hz tx hl hi (fun kx ts s' hts R' => ?_) zs [] 0 [] _ s rfl rfl (.inl ⟨rfl, rfl⟩) R1
  have gl : (gtL Lp zs).length = zs.length := by unfold gtL; rw [List.length_map, List.length_map]
  refine hR [enc ts, kx, 0] s' rfl ?_
  show Rel J B os dr [(cP, celO (some (.ref pg))), (pg, lsto [.ref p0, .ref p1] gn), (p1, lsto pv pw), (al, lsto (intV zs) an), (acc, lsto (txts (gtL Lp zs) (dec (enc ts))) (gtL Lp zs).length), (D, match zs.isEmpty with | true => dicO [] 0 | false => dicO [en (hs w.params nK) kx nK (dvZ zs [])] 1)] 0 s'
  rw [dec_enc, gl]
  exact R'

end
end Mine
end
-- V62
section
open PySem PySem.Spec PySem.Calls PyProof.Rows PySem.W PySem.W.X
namespace Mine
theorem seen116 (P : Params) : FnSeen P 116 115 := ⟨by kernel_rfl!, by kernel_rfl!, by kernel_rfl!, by kernel_rfl!, by kernel_rfl!, by kernel_rfl!, by kernel_rfl!, by kernel_rfl!, by kernel_rfl!⟩
theorem bind116 (P : Params) (v v' : Value) : bindArgs (fd P 116) ⟨[v, v'], []⟩ = .pure [(nFiles, v), (nRulers, v')] := bind_of (by kernel_rfl!)
theorem ent116 (P : Params) (S : ST) (fl rls : Nat) (u : Nat → Nat) : trimO [true, true, true, true, true, true] (run P (KP P) S 40 c0 none 0 [] (entZ (fd P 116) 116 (bd P 116) [(nFiles, .ref fl), (nRulers, .ref rls)]) [] 0 (mkU 7 u) 266370 [] True) =
  some ⟨.fin (.again (.func (bd P 116) (E116 P (u 0) (u 5) (u 4) (u 3) (u 2) (u 1)))), [(u 0, fro (rE1 (hs P nRulers) (u 6) rls) 1), (u 1, celO (some (.ref fl))), (u 2, celO none), (u 3, celO none), (u 4, celO none), (u 5, celO none)], 0, okD 4 266370 [u 0, u 1, u 2, u 3, u 4, u 5] [] True⟩ := by kernel_rfl!
theorem marks_len (a b : Int) (tg : Nat) : (marksI a b tg).length ≤ 9 := by
  unfold marksI
  split <;> simp
theorem alone_mem {M N : List Int} {k : Nat} {x : Int} (h : x ∈ aloneL M N k) : 1 ≤ x ∧ x ≤ k ∧ alB M N x = true := by
  unfold aloneL at h
  obtain ⟨h1, h2⟩ := List.mem_filter.mp h
  obtain ⟨i, hi, rfl⟩ := List.mem_map.mp h1
  have := List.mem_range.mp hi
  exact ⟨by omega, by omega, h2⟩
theorem a0_range (M N : List Int) : ∃ e : Nat, a0L (aloneL M N 8) = (e : Int) ∧ 1 ≤ e ∧ e ≤ 9 := by
  have key : 1 ≤ a0L (aloneL M N 8) ∧ a0L (aloneL M N 8) ≤ 9 := by
    unfold a0L
    cases h : aloneL M N 8 with
    | nil => exact ⟨by decide, by decide⟩
    | cons x l =>
      have := alone_mem (M := M) (N := N) (k := 8) (x := x) (by rw [h]; exact .head _)
      show 1 ≤ x ∧ x ≤ 9
      omega
  exact ⟨(a0L (aloneL M N 8)).toNat, by omega, by omega, by omega⟩
/-- what the due pages differ in -/
noncomputable def e0 (M N : List Int) : Nat := (a0L (aloneL M N 8)).toNat
noncomputable def dueMs (M N : List Int) (rs : List Row) : List (List Nat) := (apL (e0 M N) rs rs.length).reverse.map fun x => (rs.map (dlL M)).getD x.toNat []
noncomputable def dueAs (M N : List Int) (rs : List Row) : List (List Nat) := (apL (e0 M N) rs rs.length).map fun x => (rs.map (dlL N)).getD x.toNat []
theorem ap_idx {e : Nat} {rs : List Row} {x : Int} (h : x ∈ apL e rs rs.length) : ∃ k : Nat, x = (k : Int) ∧ k < rs.length := by
  unfold apL apI at h
  obtain ⟨i, hi, rfl⟩ := List.mem_map.mp h
  exact ⟨i, rfl, List.mem_range.mp (List.mem_filter.mp hi).1⟩
section
variable {w : World} {J : Nat → Array GenState → Prop} {B : Addr → Option Obj} {os : OsState} {dr : Drawn} {d : Nat} {A : Around}
theorem lenFiles {K : Frag} {fl n : Nat} {rs : List Row} (m : List Bool) (h : rs.length ≤ 9) : Spec w K d J (.call (.builtin "len") ⟨[.ref fl], []⟩) [(fl, lsto (rs.map fun r => .ref r.a) n)] 0 1 (ceLenL m fl (lsto (rs.map fun r => .ref r.a) n) (rs.length : Int)).f 0 := by
  have := specLenL (w := w) (K := K) (J := J) (d := d) (l := fl) (n := n) (vs := rs.map fun r => Value.ref r.a) m (by rw [List.length_map]; omega)
  rw [List.length_map] at this
  exact this
set_option maxHeartbeats 4000000 in
theorem call116 {rs : List Row} {a b a' b' : Int} {tg tg' : Nat} {t t' : Nat → Nat} {rls fl ra rb m n rn rn' : Nat} {rest : List Ent} {s : Shared} {Q : Value → Shared → Prop}
    (hA : AOk (d - 64) A) (hd : 64 ≤ d) (hd9 : d ≤ 860) (hK : KIn (app (KP w.params) (rowsE rs)) B) (ok : RowsOk (KP w.params) rs) (htg : tg ≤ 2) (htg' : tg' ≤ 2)
    (R : Rel J B os dr ((rls, lsto [.ref ra, .ref rb] m) :: (fl, lsto (rs.map fun r => .ref r.a) n) :: (ra, lsto (rulV a b tg t) rn) :: (rb, lsto (rulV a' b' tg' t') rn') :: rest) 0 s)
    (hQ : ∀ lst pg p0 p1 tup mi ac v0 v1 ms as n0 n1 nm na s', TxA v0 (rs.map (dlL (marksI a b tg))) → TxA v1 (rs.map (dlL (marksI a' b' tg'))) →
      TxA ms (dueMs (marksI a b tg) (marksI a' b' tg') rs) → TxA as (dueAs (marksI a b tg) (marksI a' b' tg') rs) →
      Rel J B os dr ((lst, lsto [.ref pg, .ref tup, .bool true] 0) :: (pg, lsto [.ref p0, .ref p1] 2) :: (p0, lsto v0 n0) :: (p1, lsto v1 n1) :: (tup, tupO [.ref mi, .ref ac]) :: (mi, lsto ms nm) :: (ac, lsto as na) :: rest) 0 s' → Q (.ref lst) s') :
    wpAny (Mo w) A (call (.ref 116) [.ref fl, .ref rls]) Q (fun _ _ => False) s := by
  have hK0 := hK.left
  have hA0 : AOk (d - 48 - 16) A := by rw [Nat.sub_sub]; exact hA
  refine fn_call (d := d - 48) rfl (seen116 _).ok (bind116 _ _ _) (by omega) (by omega) (Hi := []) (fun u => ent116 w.params _ fl rls u) (fun u => okD_of _ _ _ _ trivial trivial) hA0 hK0 R fun u s₁ R₁ => ?_
  obtain ⟨L, hL⟩ : ∃ x, x = u 0 := ⟨_, rfl⟩
  obtain ⟨cF, hF⟩ : ∃ x, x = u 1 := ⟨_, rfl⟩
  obtain ⟨cM, hM⟩ : ∃ x, x = u 2 := ⟨_, rfl⟩
  obtain ⟨cR, hR⟩ : ∃ x, x = u 3 := ⟨_, rfl⟩
  obtain ⟨cP, hP⟩ : ∃ x, x = u 4 := ⟨_, rfl⟩
  obtain ⟨cA, hAA⟩ : ∃ x, x = u 5 := ⟨_, rfl⟩
  rw [← hL, ← hF, ← hM, ← hR, ← hP, ← hAA] at R₁ ⊢
  have hA' := hA0.deeper (by omega) (E116 w.params L cA cP cR cM cF)
  have hd14 : 14 ≤ d - 48 := by omega
  have hd40 : d - 48 ≤ 820 := by omega
  have hr9 : rs.length ≤ 9 := ok.len.2
  refine codeAny_func ?_
  rw [du_stms]
  have R1 : Rel J B os dr ([(cM, celO none), (L, fro (rE1 (hs w.params nRulers) (u 6) rls) 1), (cF, celO (some (.ref fl))), (cR, celO none), (cP, celO none), (cA, celO none), (rls, lsto [.ref ra, .ref rb] m), (fl, lsto (rs.map fun r => .ref r.a) n), (ra, lsto (rulV a b tg t) rn), (rb, lsto (rulV a' b' tg' t') rn')] ++ rest) 0 s₁ :=
    Rel.sel (H := [_, _, _, _, _, _, _, _, _, _]) (T := rest) R₁ [2, 0, 1, 3, 4, 5, 6, 7, 8, 9] [] (by kernel_rfl!)
  refine execs_app _ _ (flow_front2 (fT_eq w) hA' hd14 hK0 (Hp := [_]) (rest := _ :: _ :: _ :: _ :: _ :: _ :: _ :: _ :: _ :: rest) R1 (fun v0 => du_0 w.params _ _ _ L cA cP cR cM cF v0) (fun v0 => okD_of _ _ _ _ trivial trivial) fun v0 s₂ R₂ => ?_)
  obtain ⟨mk, hmk⟩ : ∃ x, x = v0 0 := ⟨_, rfl⟩
  rw [← hmk] at R₂
  have R2 : Rel J B os dr ([(L, fro (rE1 (hs w.params nRulers) (u 6) rls) 1), (cM, celO (some (.ref mk))), (mk, lsto [] 0), (cF, celO (some (.ref fl))), (cR, celO none), (cP, celO none), (cA, celO none), (rls, lsto [.ref ra, .ref rb] m), (fl, lsto (rs.map fun r => .ref r.a) n), (ra, lsto (rulV a b tg t) rn), (rb, lsto (rulV a' b' tg' t') rn')] ++ rest) 0 s₂ :=
    Rel.sel (H := [_, _, _, _, _, _, _, _, _, _, _]) (T := rest) R₂ [2, 0, 1, 3, 4, 5, 6, 7, 8, 9, 10] [] (by kernel_rfl!)
  refine execs_app _ _ (wpAny_execs_cons ?_)
  rw [du_for]
  refine wpAny_For ?_ (fun x => du_iter _ _ x)
  refine val_front2 (fT_eq w) hA' hd14 hK0 (Hp := [_]) (rest := _ :: _ :: _ :: _ :: _ :: _ :: _ :: _ :: _ :: _ :: rest) R2 (fun v1 => du_e w.params _ _ _ L cA cP cR cM cF _ _ rls 1 v1) (fun v1 => okD_of _ _ _ _ trivial trivial) fun v1 s₃ R₃ => ?_
  have R3 : Rel J B os dr ([(rls, lsto [.ref ra, .ref rb] m), (L, fro (rE1 (hs w.params nRulers) (u 6) rls) 1), (cM, celO (some (.ref mk))), (mk, lsto [] 0), (cF, celO (some (.ref fl))), (cR, celO none), (cP, celO none), (cA, celO none), (fl, lsto (rs.map fun r => .ref r.a) n), (ra, lsto (rulV a b tg t) rn), (rb, lsto (rulV a' b' tg' t') rn')] ++ rest) 0 s₃ :=
    Rel.sel (H := [_, _, _, _, _, _, _, _, _, _, _]) (T := rest) R₃ [7, 0, 1, 2, 3, 4, 5, 6, 8, 9, 10] [] (by kernel_rfl!)
  refine iter_front2 (fT_eq w) hA' hd14 hK0 (Hp := [_]) (rest := _ :: _ :: _ :: _ :: _ :: _ :: _ :: _ :: _ :: _ :: rest) R3 (fun v2 => du_it w.params _ _ _ L cA cP cR cM cF rls ra rb m v2) (fun v2 => okD_of _ _ _ _ trivial trivial) fun v2 s₄ R₄ => ?_
  obtain ⟨it, hit⟩ : ∃ x, x = v2 0 := ⟨_, rfl⟩
  rw [← hit] at R₄ ⊢
  have R4 : Rel J B os dr ([(it, lstIt (.ref rls) 0), (rls, lsto [.ref ra, .ref rb] m), (cM, celO (some (.ref mk))), (mk, lsto [] 0), (cR, celO none), (ra, lsto (rulV a b tg t) rn), (rb, lsto (rulV a' b' tg' t') rn')] ++ ((L, fro (rE1 (hs w.params nRulers) (u 6) rls) 1) :: (cF, celO (some (.ref fl))) :: (cP, celO none) :: (cA, celO none) :: (fl, lsto (rs.map fun r => .ref r.a) n) :: rest)) 0 s₄ :=
    Rel.sel (H := [_, _, _, _, _, _, _, _, _, _, _, _]) (T := rest) R₄ [1, 0, 3, 4, 6, 10, 11, 2, 5, 7, 8, 9] [] (by kernel_rfl!)
  refine du_loop htg htg' hA' hd14 (by omega) hK0 R4 fun m1 m2 xs1 xs2 s₅ e1 e2 R₅ => ?_
  have hx1 : xs1.length ≤ 1000 := by
    have := congrArg List.length e1
    rw [List.length_map] at this
    have := marks_len a b tg; omega
  have hx2 : xs2.length ≤ 1000 := by
    have := congrArg List.length e2
    rw [List.length_map] at this
    have := marks_len a' b' tg'; omega
  have R5 : Rel J B os dr ([(cP, celO none), (cM, celO (some (.ref mk))), (cF, celO (some (.ref fl))), (mk, lsto [.ref m1, .ref m2] 2), (fl, lsto (rs.map fun r => .ref r.a) n), (m1, lsto (intV xs1) 0), (m2, lsto (intV xs2) 0)] ++ ((L, fro (rE1 (hs w.params nRulers) (u 6) rls) 1) :: (cA, celO none) :: rest)) 0 s₅ :=
    Rel.sel (H := [_, _, _, _, _, _, _, _, _, _, _, _, _]) (T := rest) R₅ [10, 1, 9, 2, 12, 6, 7, 8, 11] [0, 3, 4, 5] (by kernel_rfl!)
  refine wpAny_execs_nil ?_
  refine execs_app _ _ (due_pages hA' hd14 hd40 hK ok hx1 hx2 R5 fun pg p0 p1 w0 w1 s₆ t0 t1 R₆ => ?_)
  rw [show (xs1.map fun z : Int × Nat => z.1) = marksI a b tg from e1] at t0
  rw [show (xs2.map fun z : Int × Nat => z.1) = marksI a' b' tg' from e2] at t1
  have R6 : Rel J B os dr ([(cA, celO none), (cM, celO (some (.ref mk))), (mk, lsto [.ref m1, .ref m2] 2), (m1, lsto (intV xs1) 0), (m2, lsto (intV xs2) 0)] ++ ((cP, celO (some (.ref pg))) :: (cF, celO (some (.ref fl))) :: (pg, lsto [.ref p0, .ref p1] 2) :: (p0, lsto w0 rs.length) :: (fl, lsto (rs.map fun r => .ref r.a) n) :: (p1, lsto w1 rs.length) :: (L, fro (rE1 (hs w.params nRulers) (u 6) rls) 1) :: rest)) 0 s₆ :=
    Rel.sel (H := [_, _, _, _, _, _, _, _, _, _, _, _]) (T := rest) R₆ [11, 1, 3, 5, 8, 0, 2, 4, 6, 7, 9, 10] [] (by kernel_rfl!)
  have T3 := fun v => al_s w.params (f1 w) (f2 w) (SP w (KP w.params) (d - 48) J) mk 2 m1 m2 L cA cP cR cM cF 0 0 (intV xs1) (intV xs2) (aloneL (xs1.map (·.1)) (xs2.map (·.1)) 8) v
  refine execs_app _ _ (flow_front2 (fT_eq w) hA' hd14 hK0 (Hp := [_, _, _, _, _]) R6 T3 (fun v3 => okD_of _ _ _ _ ⟨specAl _ (by omega), trivial⟩ trivial) fun v3 s₇ R₇ => ?_)
  obtain ⟨al, hal⟩ : ∃ x, x = v3 5 := ⟨_, rfl⟩
  obtain ⟨zs, hzs⟩ : ∃ z, z = intP (aloneL (xs1.map (·.1)) (xs2.map (·.1)) 8) (dec (v3 9)) := ⟨_, rfl⟩
  have hz1 : zs.map (·.1) = aloneL (marksI a b tg) (marksI a' b' tg') 8 := by rw [hzs, intP_fst, e1, e2]
  have hz10 : zs.length ≤ 10 := by
    have := congrArg List.length hz1
    rw [List.length_map] at this
    have := alone_le (marksI a b tg) (marksI a' b' tg') 8; omega
  rw [← hal, ← hzs] at R₇
  obtain ⟨e, he, he1, he9⟩ := a0_range (marksI a b tg) (marksI a' b' tg')
  have hee : e0 (marksI a b tg) (marksI a' b' tg') = e := by unfold e0; rw [he]; rfl
  rw [← hz1] at he
  have R7 : Rel J B os dr ([(L, fro (rE1 (hs w.params nRulers) (u 6) rls) 1), (cA, celO (some (.ref al))), (cF, celO (some (.ref fl))), (fl, lsto (rs.map fun r => .ref r.a) n), (al, lsto (intV zs) (aloneL (xs1.map (·.1)) (xs2.map (·.1)) 8).length)] ++ ((cP, celO (some (.ref pg))) :: (pg, lsto [.ref p0, .ref p1] 2) :: (p0, lsto w0 rs.length) :: (p1, lsto w1 rs.length) :: rest)) 0 s₇ :=
    Rel.sel (H := [_, _, _, _, _, _, _, _, _, _, _, _, _]) (T := rest) R₇ [12, 0, 7, 10, 5, 6, 8, 9, 11] [1, 2, 3, 4] (by kernel_rfl!)
  have T4 := fun v => ap_s w.params (f1 w) (f2 w) (SP w (app (KP w.params) (rowsE rs)) (d - 48) J) (rowsE rs) fl al L cA cP cR cM cF rls (u 6) 1 (hs w.params nRulers) (rs.length : Int) (lsto (rs.map fun r => .ref r.a) n) (lsto (intV zs) (aloneL (xs1.map (·.1)) (xs2.map (·.1)) 8).length) (apL e rs rs.length) (vN rs.length) v
  refine execs_app _ _ (flow_front2 (fT_eq w) hA' hd14 hK (Hp := [_, _, _, _, _]) R7 T4 (fun v4 => okD_of _ _ _ _ ⟨lenFiles _ hr9, specRan, specRI _ (by omega), specApt _ (by omega) ok hz10 he he1 he9, trivial⟩ trivial) fun v4 s₈ R₈ => ?_)
  obtain ⟨ap, hap⟩ : ∃ x, x = v4 6 := ⟨_, rfl⟩
  obtain ⟨ys, hys⟩ : ∃ z, z = intP (apL e rs rs.length) (dec (v4 10)) := ⟨_, rfl⟩
  have hy1 : ys.map (·.1) = apL e rs rs.length := by rw [hys, intP_fst]
  have hy10 : ys.length ≤ 10 := by
    have := congrArg List.length hy1
    rw [List.length_map] at this
    have := apL_le e rs rs.length; omega
  rw [← hap, ← hys] at R₈
  have R8 : Rel J B os dr ([(L, fro (rE3 (hs w.params nRulers) (hs w.params nApart) (u 6) (v4 11) rls ap) 2), (cP, celO (some (.ref pg))), (pg, lsto [.ref p0, .ref p1] 2), (p0, lsto w0 rs.length), (p1, lsto w1 rs.length), (ap, lsto (intV ys) (apL e rs rs.length).length)] ++ rest) 0 s₈ :=
    Rel.sel (H := [_, _, _, _, _, _, _, _, _, _]) (T := rest) R₈ [0, 6, 7, 8, 9, 5] [1, 2, 3, 4] (by kernel_rfl!)
  have idx : ∀ z ∈ ys, ∃ k : Nat, z.1 = (k : Int) ∧ k < rs.length := fun z hz => ap_idx (e := e) (rs := rs) (by rw [← hy1]; exact List.mem_map.mpr ⟨z, hz, rfl⟩)
  have ml : ∀ (f : Row → List Nat), (rs.map f).length = rs.length := fun f => List.length_map f
  have gM : gtL (rs.map (dlL (marksI a b tg))) ys.reverse = dueMs (marksI a b tg) (marksI a' b' tg') rs := by
    unfold gtL dueMs
    rw [List.map_reverse, hy1, hee]
  have gA : gtL (rs.map (dlL (marksI a' b' tg'))) ys = dueAs (marksI a b tg) (marksI a' b' tg') rs := by
    unfold gtL dueAs
    rw [hy1, hee]
  have hrv : slicePick ⟨intV ys⟩ none none (some (-1)) = ⟨intV ys.reverse⟩ := by
    rw [krv_pick]
    unfold intV
    rw [List.map_reverse]
  have hyl : (intV ys).length ≤ sizeLine := sizeOk (by unfold intV; rw [List.length_map]; omega)
  have fin : ∀ lst tup mi ac G0 G1 us0 us1 s', G0 = dueMs (marksI a b tg) (marksI a' b' tg') rs → G1 = dueAs (marksI a b tg) (marksI a' b' tg') rs →
      Rel J B os dr ([(p0, lsto w0 rs.length), (mi, lsto (txts G0 us0) G0.length), (pg, lsto [.ref p0, .ref p1] 2), (p1, lsto w1 rs.length), (ac, lsto (txts G1 us1) G1.length), (tup, tupO [.ref mi, .ref ac]), (lst, lsto [.ref pg, .ref tup, .bool true] 0)] ++ rest) 0 s' → Q (.ref lst) s' := by
    intro lst tup mi ac G0 G1 us0 us1 s' g0 g1 R'
    have R2' : Rel J B os dr ([(lst, lsto [.ref pg, .ref tup, .bool true] 0), (pg, lsto [.ref p0, .ref p1] 2), (p0, lsto w0 rs.length), (p1, lsto w1 rs.length), (tup, tupO [.ref mi, .ref ac]), (mi, lsto (txts G0 us0) G0.length), (ac, lsto (txts G1 us1) G1.length)] ++ rest) 0 s' :=
      Rel.sel (H := [_, _, _, _, _, _, _]) (T := rest) R' [6, 2, 0, 3, 5, 1, 4] [] (by kernel_rfl!)
    exact hQ lst pg p0 p1 tup mi ac w0 w1 _ _ _ _ _ _ s' t0 t1 (g0 ▸ txts_are _ _) (g1 ▸ txts_are _ _) R2'
  cases hb : ys.isEmpty
  · have hb2 : ys.reverse.isEmpty = false := by rw [List.isEmpty_reverse]; exact hb
    have T5 := fun v => rt_sn w.params (f1 w) (f2 w) (SP w (KP w.params) (d - 48) J) pg p0 p1 2 ap (apL e rs rs.length).length L cA cP cR cM cF rls (u 6) 2 (hs w.params nRulers) (hs w.params nApart) (v4 11) (lsto w0 rs.length) (lsto w1 rs.length) (intV ys) (intV ys.reverse) (gtL (rs.map (dlL (marksI a b tg))) ys.reverse) (gtL (rs.map (dlL (marksI a' b' tg'))) ys) (dvZ ys.reverse) (dvZ ys) v
    refine flow_front2 (fT_eq w) hA' hd14 hK0 (Hp := [_, _, _, _, _, _]) R8 T5 (fun v5 => okD_of _ _ _ _ ⟨specLSl _ .none .none (.int _ _) (by decide) hyl hrv, specGt0 _ (by omega) (by rw [List.length_reverse]; exact hy10) t0 (by rw [ml]; exact hr9) (by rw [ml]; exact fun z hz => idx z (List.mem_reverse.mp hz)) hb2, specGt1 _ (by omega) hy10 t1 (by rw [ml]; exact hr9) (by rw [ml]; exact idx) hb, trivial⟩ trivial) fun v5 s₉ R₉ => ?_
    exact fin _ _ _ _ _ _ _ _ s₉ gM gA R₉
  · have hb2 : ys.reverse.isEmpty = true := by rw [List.isEmpty_reverse]; exact hb
    have T5 := fun v => rt_se w.params (f1 w) (f2 w) (SP w (KP w.params) (d - 48) J) pg p0 p1 2 ap (apL e rs rs.length).length L cA cP cR cM cF rls (u 6) 2 (hs w.params nRulers) (hs w.params nApart) (v4 11) (lsto w0 rs.length) (lsto w1 rs.length) (intV ys) (intV ys.reverse) (gtL (rs.map (dlL (marksI a b tg))) ys.reverse) (gtL (rs.map (dlL (marksI a' b' tg'))) ys) (dvZ ys.reverse) (dvZ ys) v
    refine flow_front2 (fT_eq w) hA' hd14 hK0 (Hp := [_, _, _, _, _, _]) R8 T5 (fun v5 => okD_of _ _ _ _ ⟨specLSl _ .none .none (.int _ _) (by decide) hyl hrv, specGt0 _ (by omega) (by rw [List.length_reverse]; exact hy10) t0 (by rw [ml]; exact hr9) (by rw [ml]; exact fun z hz => idx z (List.mem_reverse.mp hz)) hb2, specGt1 _ (by omega) hy10 t1 (by rw [ml]; exact hr9) (by rw [ml]; exact idx) hb, trivial⟩ trivial) fun v5 s₉ R₉ => ?_
    exact fin _ _ _ _ _ _ _ _ s₉ gM gA R₉
end
end Mine
end
-- PL1
section
open PySem PySem.Spec PySem.Calls PyProof.Rows PySem.W PySem.W.X
namespace Mine
/-! the plain law, part 1: the difference of the two pages, and commas -/
section
variable {α : Type} (rs : List α) (f0 f1 : α → List Nat) (q : α → Bool)
theorem uld_go (h1 : ∀ r ∈ rs, q r = false → f0 r = f1 r) (h2 : ∀ r ∈ rs, ∀ r' ∈ rs, q r = true → f0 r ≠ f1 r')
    (h3 : ∀ r ∈ rs, ∀ r' ∈ rs, f1 r = f1 r' → q r = q r') : ∀ (todo : List α) (as ms : List (List Nat)), (∀ r ∈ todo, r ∈ rs) →
      as.filter (fun x => decide (x ∈ (rs.filter q).map f1)) = (rs.filter q).map f1 →
      (as.filter (fun x => !decide (x ∈ (rs.filter q).map f1))).Perm ((todo.filter fun r => !q r).map f1) →
      uld (todo.map f0) as ms = (ms ++ (todo.filter q).map f0, (rs.filter q).map f1)
  | [], as, ms, _, e1, e2 => by
    have e3 : as.filter (fun x => !decide (x ∈ (rs.filter q).map f1)) = [] := List.perm_nil.mp e2
    have e4 : as.filter (fun x => decide (x ∈ (rs.filter q).map f1)) = as := by
      refine List.filter_eq_self.mpr fun x hx => ?_
      have := List.filter_eq_nil_iff.mp e3 x hx
      by_cases hd : x ∈ (rs.filter q).map f1
      · exact decide_eq_true hd
      · rw [show decide (x ∈ (rs.filter q).map f1) = false from decide_eq_false hd] at this
        exact absurd rfl this
    show (ms, as) = _
    rw [← e1, e4]
    simp
  | r :: todo, as, ms, hm, e1, e2 => by
    have hr : r ∈ rs := hm r (.head _)
    have hm' : ∀ x ∈ todo, x ∈ rs := fun x hx => hm x (.tail _ hx)
    cases hq : q r with
    | true =>
      have hn : f0 r ∉ as := by
        intro hx
        by_cases hc : f0 r ∈ (rs.filter q).map f1
        · obtain ⟨r', hr', e⟩ := List.mem_map.mp hc
          exact h2 r hr r' (List.mem_filter.mp hr').1 hq e.symm
        · have : f0 r ∈ as.filter (fun x => !decide (x ∈ (rs.filter q).map f1)) := List.mem_filter.mpr ⟨hx, by rw [show decide (f0 r ∈ (rs.filter q).map f1) = false from decide_eq_false hc]; rfl⟩
          have := e2.mem_iff.mp this
          obtain ⟨r', hr', e⟩ := List.mem_map.mp this
          exact h2 r hr r' (hm r' (List.mem_filter.mp hr').1) hq e.symm
      show (if f0 r ∈ as then uld (todo.map f0) (as.erase (f0 r)) ms else uld (todo.map f0) as (ms ++ [f0 r])) = _
      rw [if_neg hn, uld_go h1 h2 h3 todo as (ms ++ [f0 r]) hm' e1 (by rw [List.filter_cons_of_neg (by simp [hq])] at e2; exact e2)]
      rw [List.filter_cons_of_pos hq, List.map_cons, List.append_assoc]
      rfl
    | false =>
      have e := h1 r hr hq
      have hnc : f0 r ∉ (rs.filter q).map f1 := by
        intro hc
        obtain ⟨r', hr', e'⟩ := List.mem_map.mp hc
        have hr2 := List.mem_filter.mp hr'
        have := h3 r' hr2.1 r hr (by rw [e', e])
        rw [hq] at this
        rw [this] at hr2
        exact absurd hr2.2 (by decide)
      rw [List.filter_cons_of_pos (by simp [hq]), List.map_cons, ← e] at e2
      have hx : f0 r ∈ as := (List.mem_filter.mp (e2.mem_iff.mpr (.head _))).1
      show (if f0 r ∈ as then uld (todo.map f0) (as.erase (f0 r)) ms else uld (todo.map f0) as (ms ++ [f0 r])) = _
      rw [if_pos hx, uld_go h1 h2 h3 todo (as.erase (f0 r)) ms hm' ?_ ?_]
      · rw [List.filter_cons_of_neg (by simp [hq])]
      · rw [← List.erase_filter, e1, List.erase_of_not_mem hnc]
      · rw [← List.erase_filter]
        have := e2.erase (f0 r)
        rw [List.erase_cons_head] at this
        exact this
theorem uld_law (h1 : ∀ r ∈ rs, q r = false → f0 r = f1 r) (h2 : ∀ r ∈ rs, ∀ r' ∈ rs, q r = true → f0 r ≠ f1 r')
    (h3 : ∀ r ∈ rs, ∀ r' ∈ rs, f1 r = f1 r' → q r = q r') :
    uld (rs.map f0).reverse (rs.map f1) [] = (((rs.filter q).map f0).reverse, (rs.filter q).map f1) := by
  have hc : ∀ r ∈ rs, decide (f1 r ∈ (rs.filter q).map f1) = q r := by
    intro r hr
    cases hq : q r with
    | true => exact decide_eq_true (List.mem_map.mpr ⟨r, List.mem_filter.mpr ⟨hr, hq⟩, rfl⟩)
    | false =>
      refine decide_eq_false fun hm => ?_
      obtain ⟨r', hr', e⟩ := List.mem_map.mp hm
      have hr2 := List.mem_filter.mp hr'
      have := h3 r' hr2.1 r hr e
      rw [hr2.2, hq] at this
      cases this
  rw [← List.map_reverse, uld_go rs f0 f1 q h1 h2 h3 rs.reverse (rs.map f1) [] (fun r hr => List.mem_reverse.mp hr) ?_ ?_]
  · rw [List.nil_append, List.filter_reverse, List.map_reverse]
  · rw [List.filter_map]
    congr 1
    exact List.filter_congr fun r hr => hc r hr
  · rw [List.filter_map, List.filter_reverse, List.map_reverse]
    refine List.Perm.trans ?_ (List.reverse_perm _).symm
    refine List.Perm.of_eq ?_
    congr 1
    exact List.filter_congr fun r hr => by show (!decide _) = _; rw [hc r hr]
end
/-- letters with commas ahead of some -/
noncomputable def cmL (b : Nat → Bool) : Nat → List Nat → List Nat
  | _, [] => []
  | k, c :: l => (if b k then [44] else []) ++ c :: cmL b (k + 1) l
noncomputable def bM (M : List Int) (n : Nat) (k : Nat) : Bool := decide ((n : Int) - k ∈ M ∧ 0 < k)
theorem pieces_cm (M : List Int) (T : List Nat) : ∀ (l pre : List Nat), T = pre ++ l →
    ((List.range l.length).map fun i => lnP M T (pre.length + i)).flatten = cmL (bM M T.length) pre.length l
  | [], pre, _ => rfl
  | c :: l, pre, h => by
    rw [List.length_cons, List.range_succ_eq_map, List.map_cons, List.map_map, List.flatten_cons]
    have ih := pieces_cm M T l (pre ++ [c]) (by rw [h]; simp)
    rw [List.length_append] at ih
    have e : ((fun i => lnP M T (pre.length + i)) ∘ Nat.succ) = fun i => lnP M T (pre.length + [c].length + i) := by
      funext i
      show lnP M T (pre.length + (i + 1)) = lnP M T (pre.length + 1 + i)
      congr 1; omega
    rw [e, ih]
    show lnP M T pre.length ++ cmL _ (pre.length + 1) l = (if bM M T.length pre.length then [44] else []) ++ c :: cmL _ (pre.length + 1) l
    have e2 : lnP M T pre.length = (if bM M T.length pre.length then [44] else []) ++ [c] := by
      unfold lnP bM
      have e3 : T.getD pre.length 0 = c := by rw [h]; simp
      rw [e3]
      congr 1
      by_cases hh : (T.length : Int) - pre.length ∈ M ∧ 0 < pre.length
      · rw [if_pos hh, if_pos (by simpa using hh)]
      · rw [if_neg hh, if_neg (by simpa using hh)]
    rw [e2]
    simp
theorem pieces_eq (M : List Int) (l : List Nat) : (piecesL M l).flatten = cmL (bM M l.length) 0 l := by
  have := pieces_cm M l l [] rfl
  simpa [piecesL] using this
theorem cm_strip (b : Nat → Bool) : ∀ (l : List Nat) (k : Nat), (∀ c ∈ l, c ≠ 44) → (cmL b k l).filter (fun c => !decide (c = 44)) = l
  | [], _, _ => rfl
  | c :: l, k, h => by
    have hc := h c (.head _)
    have ih := cm_strip b l (k + 1) fun x hx => h x (.tail _ hx)
    unfold cmL
    rw [List.filter_append, List.filter_cons_of_pos (by simp [hc]), ih]
    cases b k <;> simp
theorem cm_inj (b b' : Nat → Bool) : ∀ (l : List Nat) (k : Nat), (∀ c ∈ l, c ≠ 44) → cmL b k l = cmL b' k l → ∀ i, i < l.length → b (k + i) = b' (k + i)
  | [], _, _, _, i, hi => by cases hi
  | c :: l, k, h, e, i, hi => by
    have hc := h c (.head _)
    unfold cmL at e
    have key : b k = b' k ∧ cmL b (k + 1) l = cmL b' (k + 1) l := by
      cases h1 : b k <;> cases h2 : b' k <;> rw [h1, h2] at e <;> simp at e
      · exact ⟨rfl, e⟩
      · exact absurd e.1 hc
      · exact absurd e.1.symm hc
      · exact ⟨rfl, e⟩
    cases i with
    | zero => exact key.1
    | succ i =>
      have := cm_inj b b' l (k + 1) (fun x hx => h x (.tail _ hx)) key.2 i (by simpa using hi)
      rw [show k + (i + 1) = k + 1 + i from by omega]
      exact this
theorem cm_congr (b b' : Nat → Bool) : ∀ (l : List Nat) (k : Nat), (∀ i, i < l.length → b (k + i) = b' (k + i)) → cmL b k l = cmL b' k l
  | [], _, _ => rfl
  | c :: l, k, h => by
    unfold cmL
    rw [show b k = b' k from h 0 (by simp), cm_congr b b' l (k + 1) fun i hi => by
      have := h (i + 1) (by simpa using hi)
      rw [show k + 1 + i = k + (i + 1) from by omega]; exact this]
end Mine
end
-- PL2
section
open PySem PySem.Spec PySem.Calls PyProof.Rows PySem.W PySem.W.X
namespace Mine
/-! the plain law, part 2: the signs of a mode -/
section
variable (dv md : Int → Int → Int)
noncomputable def thP (m : Int) : Nat → Int
  | 0 => md (dv m 64) 8
  | 1 => md (dv m 8) 8
  | _ => md (dv m 1) 8
noncomputable def muP (m : Int) : Nat → Int
  | 0 => md (dv (dv m 512) 4) 2 * 2
  | 1 => md (dv (dv m 512) 2) 2 * 2
  | _ => md (dv (dv m 512) 1) 2 * 2
noncomputable def sgP (m : Int) (i : Nat) : List Nat := [pk [45, 114] (dv (thP dv md m i) 4), pk [45, 119] (md (dv (thP dv md m i) 2) 2), pk (tabN i) (md (thP dv md m i) 2 + muP dv md m i)]
noncomputable def sgDP (m : Int) (c : Nat) : List Nat := (([c] ++ sgP dv md m 0) ++ sgP dv md m 1) ++ sgP dv md m 2
end
theorem sgD_p (m : Int) (c : Nat) : sgD m c 2 = sgDP Int.fdiv Int.fmod m c := by
  rw [Z.divQ_eq, Z.modQ_eq]; rfl
theorem bz (a b : Nat) : bitAndZ (a : Int) (b : Int) = ((a &&& b : Nat) : Int) := by
  unfold bitAndZ
  rw [← PySem.W.ZFast.ze4806658248164788318]
  rfl
theorem and_all (a m : Nat) : a &&& m = m ↔ ∀ i, m.testBit i = true → a.testBit i = true := by
  constructor
  · intro h i hi
    have := congrArg (fun x => x.testBit i) h
    simp only [Nat.testBit_and] at this
    rw [hi] at this
    simpa using this
  · intro h
    refine Nat.eq_of_testBit_eq fun i => ?_
    rw [Nat.testBit_and]
    cases hm : m.testBit i with
    | false => simp
    | true => rw [h i hm]; rfl
theorem tb (a k : Nat) : a.testBit k = true ↔ a / 2 ^ k % 2 = 1 := by
  rw [Nat.testBit_eq_decide_div_mod_eq]
  exact decide_eq_true_iff
theorem bit1 (a k : Nat) : a &&& 2 ^ k = 2 ^ k ↔ a / 2 ^ k % 2 = 1 := by
  rw [and_all, ← tb]
  constructor
  · intro h
    exact h k (by rw [Nat.testBit_two_pow]; exact decide_eq_true rfl)
  · intro h i hi
    rw [Nat.testBit_two_pow] at hi
    rw [← of_decide_eq_true hi]; exact h
theorem bit2 (a j k : Nat) : a &&& (2 ^ j ||| 2 ^ k) = 2 ^ j ||| 2 ^ k ↔ a / 2 ^ j % 2 = 1 ∧ a / 2 ^ k % 2 = 1 := by
  rw [and_all, ← tb, ← tb]
  constructor
  · intro h
    constructor
    · exact h j (by rw [Nat.testBit_or, Nat.testBit_two_pow, Nat.testBit_two_pow, decide_eq_true (rfl : j = j)]; rfl)
    · exact h k (by rw [Nat.testBit_or, Nat.testBit_two_pow, Nat.testBit_two_pow, decide_eq_true (rfl : k = k), Bool.or_true])
  · rintro ⟨h1, h2⟩ i hi
    rw [Nat.testBit_or, Nat.testBit_two_pow, Nat.testBit_two_pow, Bool.or_eq_true] at hi
    rcases hi with hi | hi
    · rw [← of_decide_eq_true hi]; exact h1
    · rw [← of_decide_eq_true hi]; exact h2
theorem bz1 (a k b : Nat) (h : b = 2 ^ k) : bitAndZ (a : Int) (b : Int) = (b : Int) ↔ a / 2 ^ k % 2 = 1 := by
  rw [bz, ← bit1, h]; exact Int.ofNat_inj
theorem bz2 (a j k b : Nat) (h : b = 2 ^ j ||| 2 ^ k) : bitAndZ (a : Int) (b : Int) = (b : Int) ↔ a / 2 ^ j % 2 = 1 ∧ a / 2 ^ k % 2 = 1 := by
  rw [bz, ← bit2, h]; exact Int.ofNat_inj
theorem one (P : Prop) [Decidable P] (x n : Nat) (h : P ↔ n % 2 = 1) : (if P then x else 45) = [45, x].getD (n % 2) 0 := by
  rcases Nat.mod_two_eq_zero_or_one n with e | e
  · rw [if_neg (fun hp => by have := h.mp hp; omega), e]; rfl
  · rw [if_pos (h.mpr e), e]; rfl
theorem tri (P Q R : Prop) [Decidable P] [Decidable Q] [Decidable R] (x y z n m : Nat) (hP : P ↔ m % 2 = 1 ∧ n % 2 = 1) (hQ : Q ↔ m % 2 = 1) (hR : R ↔ n % 2 = 1) :
    (if P then x else if Q then y else if R then z else 45) = [45, z, y, x].getD (n % 2 + m % 2 * 2) 0 := by
  rcases Nat.mod_two_eq_zero_or_one n with e | e <;> rcases Nat.mod_two_eq_zero_or_one m with f | f
  · rw [if_neg (fun hp => by have := hP.mp hp; omega), if_neg (fun hp => by have := hQ.mp hp; omega), if_neg (fun hp => by have := hR.mp hp; omega), e, f]; rfl
  · rw [if_neg (fun hp => by have := hP.mp hp; omega), if_pos (hQ.mpr f), e, f]; rfl
  · rw [if_neg (fun hp => by have := hP.mp hp; omega), if_neg (fun hp => by have := hQ.mp hp; omega), if_pos (hR.mpr e), e, f]; rfl
  · rw [if_pos (hP.mpr ⟨f, e⟩), e, f]; rfl
theorem pkN (l : List Nat) (i : Int) (n : Nat) (h : i.toNat = n) : l.getD n 0 = pk l i := by rw [← h]; rfl
theorem fdE (x k : Int) (hk : 0 ≤ k) : Int.fdiv x k = x / k := Int.fdiv_eq_ediv_of_nonneg x hk
theorem fmE (x k : Int) (hk : 0 ≤ k) : Int.fmod x k = x % k := Int.fmod_eq_emod_of_nonneg x hk
theorem q4 (x : Nat) : ((x : Int) % 8 / 4).toNat = x / 4 % 2 := Nat.mod_mul_right_div_self x 4 2
theorem q2 (x : Nat) : ((x : Int) % 8 / 2 % 2).toNat = x / 2 % 2 := by
  show x % (2 * 4) / 2 % 2 = _
  rw [Nat.mod_mul_right_div_self]
  exact Nat.mod_mod_of_dvd _ ⟨2, rfl⟩
theorem q1 (x y : Nat) : ((x : Int) % 8 % 2 + (y : Int) % 2 * 2).toNat = x % 2 + y % 2 * 2 := by
  have e : x % 8 % 2 = x % 2 := Nat.mod_mod_of_dvd x ⟨4, rfl⟩
  show x % 8 % 2 + y % 2 * 2 = _
  rw [e]
theorem hX (a k : Nat) : (Int.fdiv (Int.fmod (Int.fdiv (a : Int) (k : Int)) 8) 4).toNat = a / (k * 4) % 2 := by
  rw [fdE _ _ (by decide), fmE _ _ (by decide), fdE _ _ (Int.natCast_nonneg k), ← Nat.div_div_eq_div_mul]
  exact q4 (a / k)
theorem hY (a k : Nat) : (Int.fmod (Int.fdiv (Int.fmod (Int.fdiv (a : Int) (k : Int)) 8) 2) 2).toNat = a / (k * 2) % 2 := by
  rw [fmE _ 2 (by decide), fdE _ 2 (by decide), fmE _ _ (by decide), fdE _ _ (Int.natCast_nonneg k), ← Nat.div_div_eq_div_mul]
  exact q2 (a / k)
theorem hV (a k l : Nat) : (Int.fmod (Int.fmod (Int.fdiv (a : Int) (k : Int)) 8) 2 + Int.fmod (Int.fdiv (Int.fdiv (a : Int) 512) (l : Int)) 2 * 2).toNat = a / k % 2 + a / (512 * l) % 2 * 2 := by
  rw [fmE _ 2 (by decide), fmE _ 2 (by decide), fmE _ _ (by decide), fdE _ (k : Int) (Int.natCast_nonneg k), fdE _ (l : Int) (Int.natCast_nonneg l), fdE _ 512 (by decide), ← Nat.div_div_eq_div_mul]
  exact q1 (a / k) (a / 512 / l)
theorem signs3 (a k l : Nat) (p0 p1 p2 : Prop) [Decidable p0] [Decidable p1] [Decidable p2] (p3 p4 : Prop) [Decidable p3] [Decidable p4] (x y z : Nat)
    (e0 : p0 ↔ a / (k * 4) % 2 = 1) (e1 : p1 ↔ a / (k * 2) % 2 = 1) (e2 : p2 ↔ a / (512 * l) % 2 = 1 ∧ a / k % 2 = 1) (e3 : p3 ↔ a / (512 * l) % 2 = 1) (e4 : p4 ↔ a / k % 2 = 1) :
    [if p0 then 114 else 45, if p1 then 119 else 45, if p2 then x else if p3 then y else if p4 then z else 45] =
      [pk [45, 114] (Int.fdiv (Int.fmod (Int.fdiv (a : Int) (k : Int)) 8) 4), pk [45, 119] (Int.fmod (Int.fdiv (Int.fmod (Int.fdiv (a : Int) (k : Int)) 8) 2) 2),
       pk [45, z, y, x] (Int.fmod (Int.fmod (Int.fdiv (a : Int) (k : Int)) 8) 2 + Int.fmod (Int.fdiv (Int.fdiv (a : Int) 512) (l : Int)) 2 * 2)] := by
  rw [(one p0 114 _ e0).trans (pkN _ _ _ (hX a k)), (one p1 119 _ e1).trans (pkN _ _ _ (hY a k)), (tri p2 p3 p4 x y z _ _ e2 e3 e4).trans (pkN _ _ _ (hV a k l))]
/-- the signs of a natural number -/
theorem fm_nat (a : Nat) (c : Nat) (h0 : (if bitAndZ (a : Int) 61440 = 32768 then 45 else 100) = c) : fmL (a : Int) = sgDP Int.fdiv Int.fmod (a : Int) c := by
  have t0 := signs3 a 64 4 _ _ _ _ _ 115 83 120 (bz1 a 8 256 rfl) (bz1 a 7 128 rfl) (bz2 a 11 6 2112 rfl) (bz1 a 11 2048 rfl) (bz1 a 6 64 rfl)
  have t1 := signs3 a 8 2 _ _ _ _ _ 115 83 120 (bz1 a 5 32 rfl) (bz1 a 4 16 rfl) (bz2 a 10 3 1032 rfl) (bz1 a 10 1024 rfl) (bz1 a 3 8 rfl)
  have t2 := signs3 a 1 1 _ _ _ _ _ 116 84 120 (bz1 a 2 4 rfl) (bz1 a 1 2 rfl) (bz2 a 9 0 513 rfl) (bz1 a 9 512 rfl) (bz1 a 0 1 rfl)
  have e : fmL (a : Int) = [fmK a 0] ++ [fmK a 1, fmK a 2, fmK a 3] ++ [fmK a 4, fmK a 5, fmK a 6] ++ [fmK a 7, fmK a 8, fmK a 9] := rfl
  rw [e, show [fmK a 0] = [c] from congrArg (fun x => [x]) h0, show [fmK a 1, fmK a 2, fmK a 3] = _ from t0, show [fmK a 4, fmK a 5, fmK a 6] = _ from t1, show [fmK a 7, fmK a 8, fmK a 9] = _ from t2]
  rfl
noncomputable def topAll : Nat → Nat → Bool
  | 0, _ => true
  | n + 1, r => match decide (bitAndZ (Int.ofNat r) 61440 = 32768) with
    | true => topAll n (r + 1)
    | false => false
theorem top_at : ∀ (n r i : Nat), topAll n r = true → i < n → bitAndZ (((r + i : Nat)) : Int) 61440 = 32768
  | 0, _, _, _, h => by omega
  | n + 1, r, i, h, hi => by
    unfold topAll at h
    cases hd : decide (bitAndZ (Int.ofNat r) 61440 = 32768) with
    | false => rw [hd] at h; cases h
    | true =>
      rw [hd] at h
      cases i with
      | zero => exact of_decide_eq_true hd
      | succ i =>
        have := top_at n (r + 1) i h (by omega)
        rw [show r + (i + 1) = r + 1 + i from by omega]; exact this
theorem top_0 : topAll 1024 32768 = true := by kernel_rfl!
theorem top_1 : topAll 1024 33792 = true := by kernel_rfl!
theorem top_2 : topAll 1024 34816 = true := by kernel_rfl!
theorem top_3 : topAll 1024 35840 = true := by kernel_rfl!
theorem top_reg (r : Nat) (h : r < 4096) : bitAndZ (((32768 + r : Nat)) : Int) 61440 = 32768 := by
  by_cases h1 : r < 1024
  · exact top_at _ _ r top_0 h1
  by_cases h2 : r < 2048
  · have := top_at _ _ (r - 1024) top_1 (by omega)
    rw [show 33792 + (r - 1024) = 32768 + r from by omega] at this; exact this
  by_cases h3 : r < 3072
  · have := top_at _ _ (r - 2048) top_2 (by omega)
    rw [show 34816 + (r - 2048) = 32768 + r from by omega] at this; exact this
  · have := top_at _ _ (r - 3072) top_3 (by omega)
    rw [show 35840 + (r - 3072) = 32768 + r from by omega] at this; exact this
/-- the modes of the files -/
noncomputable def MdOk (m : Int) : Prop := m = 16877 ∨ ∃ r : Nat, r < 4096 ∧ m = ((32768 + r : Nat) : Int)
theorem MdOk.mode {m : Int} (h : MdOk m) : bitAndZ m 61440 = 32768 ∨ bitAndZ m 61440 = 16384 := by
  rcases h with rfl | ⟨r, hr, rfl⟩
  · exact .inr (bz 16877 61440)
  · exact .inl (top_reg r hr)
theorem MdOk.signs {m : Int} (h : MdOk m) : fmL m = sgD m (c0L m) 2 := by
  rw [sgD_p]
  rcases h with rfl | ⟨r, hr, rfl⟩
  · exact fm_nat 16877 100 (by
      rw [if_neg]
      rw [show bitAndZ ((16877 : Nat) : Int) 61440 = 16384 from bz 16877 61440]
      decide)
  · have hc : c0L ((32768 + r : Nat) : Int) = 45 := by unfold c0L; rw [if_neg (by omega)]
    rw [hc]
    exact fm_nat _ 45 (if_pos (top_reg r hr))
end Mine
end
-- PL3
section
open PySem PySem.Spec PySem.Calls PyProof.Rows PySem.W PySem.W.X
namespace Mine
/-! the plain law, part 3: commas -/
noncomputable def cutAt (ya yb tg : Nat) (l : List Nat) : Prop := cutT ya yb tg l = (piecesL (marksI (ya : Int) (yb : Int) tg) l).flatten
theorem cut_at {ya yb tg : Nat} (h1 : ∀ a, cutAt ya yb tg [a]) (h2 : ∀ a b, cutAt ya yb tg [a, b]) (h3 : ∀ a b c, cutAt ya yb tg [a, b, c]) (h4 : ∀ a b c d, cutAt ya yb tg [a, b, c, d])
    (h5 : ∀ a b c d e, cutAt ya yb tg [a, b, c, d, e]) (h6 : ∀ a b c d e f, cutAt ya yb tg [a, b, c, d, e, f]) (h7 : ∀ a b c d e f g, cutAt ya yb tg [a, b, c, d, e, f, g]) :
    ∀ (l : List Nat), 1 ≤ l.length → l.length ≤ 7 → cutAt ya yb tg l
  | [], h, _ => absurd h (by decide)
  | [a], _, _ => h1 a
  | [a, b], _, _ => h2 a b
  | [a, b, c], _, _ => h3 a b c
  | [a, b, c, d], _, _ => h4 a b c d
  | [a, b, c, d, e], _, _ => h5 a b c d e
  | [a, b, c, d, e, f], _, _ => h6 a b c d e f
  | [a, b, c, d, e, f, g], _, _ => h7 a b c d e f g
  | a :: b :: c :: d :: e :: f :: g :: x :: l, _, h => by simp only [List.length_cons] at h; omega
theorem cut_110 : ∀ (l : List Nat), 1 ≤ l.length → l.length ≤ 7 → cutAt 1 1 0 l := cut_at (fun a => by unfold cutAt; kernel_rfl!) (fun a b => by unfold cutAt; kernel_rfl!) (fun a b c => by unfold cutAt; kernel_rfl!) (fun a b c d => by unfold cutAt; kernel_rfl!) (fun a b c d e => by unfold cutAt; kernel_rfl!) (fun a b c d e f => by unfold cutAt; kernel_rfl!) (fun a b c d e f g => by unfold cutAt; kernel_rfl!)
theorem cut_111 : ∀ (l : List Nat), 1 ≤ l.length → l.length ≤ 7 → cutAt 1 1 1 l := cut_at (fun a => by unfold cutAt; kernel_rfl!) (fun a b => by unfold cutAt; kernel_rfl!) (fun a b c => by unfold cutAt; kernel_rfl!) (fun a b c d => by unfold cutAt; kernel_rfl!) (fun a b c d e => by unfold cutAt; kernel_rfl!) (fun a b c d e f => by unfold cutAt; kernel_rfl!) (fun a b c d e f g => by unfold cutAt; kernel_rfl!)
theorem cut_112 : ∀ (l : List Nat), 1 ≤ l.length → l.length ≤ 7 → cutAt 1 1 2 l := cut_at (fun a => by unfold cutAt; kernel_rfl!) (fun a b => by unfold cutAt; kernel_rfl!) (fun a b c => by unfold cutAt; kernel_rfl!) (fun a b c d => by unfold cutAt; kernel_rfl!) (fun a b c d e => by unfold cutAt; kernel_rfl!) (fun a b c d e f => by unfold cutAt; kernel_rfl!) (fun a b c d e f g => by unfold cutAt; kernel_rfl!)
theorem cut_120 : ∀ (l : List Nat), 1 ≤ l.length → l.length ≤ 7 → cutAt 1 2 0 l := cut_at (fun a => by unfold cutAt; kernel_rfl!) (fun a b => by unfold cutAt; kernel_rfl!) (fun a b c => by unfold cutAt; kernel_rfl!) (fun a b c d => by unfold cutAt; kernel_rfl!) (fun a b c d e => by unfold cutAt; kernel_rfl!) (fun a b c d e f => by unfold cutAt; kernel_rfl!) (fun a b c d e f g => by unfold cutAt; kernel_rfl!)
theorem cut_121 : ∀ (l : List Nat), 1 ≤ l.length → l.length ≤ 7 → cutAt 1 2 1 l := cut_at (fun a => by unfold cutAt; kernel_rfl!) (fun a b => by unfold cutAt; kernel_rfl!) (fun a b c => by unfold cutAt; kernel_rfl!) (fun a b c d => by unfold cutAt; kernel_rfl!) (fun a b c d e => by unfold cutAt; kernel_rfl!) (fun a b c d e f => by unfold cutAt; kernel_rfl!) (fun a b c d e f g => by unfold cutAt; kernel_rfl!)
theorem cut_122 : ∀ (l : List Nat), 1 ≤ l.length → l.length ≤ 7 → cutAt 1 2 2 l := cut_at (fun a => by unfold cutAt; kernel_rfl!) (fun a b => by unfold cutAt; kernel_rfl!) (fun a b c => by unfold cutAt; kernel_rfl!) (fun a b c d => by unfold cutAt; kernel_rfl!) (fun a b c d e => by unfold cutAt; kernel_rfl!) (fun a b c d e f => by unfold cutAt; kernel_rfl!) (fun a b c d e f g => by unfold cutAt; kernel_rfl!)
theorem cut_130 : ∀ (l : List Nat), 1 ≤ l.length → l.length ≤ 7 → cutAt 1 3 0 l := cut_at (fun a => by unfold cutAt; kernel_rfl!) (fun a b => by unfold cutAt; kernel_rfl!) (fun a b c => by unfold cutAt; kernel_rfl!) (fun a b c d => by unfold cutAt; kernel_rfl!) (fun a b c d e => by unfold cutAt; kernel_rfl!) (fun a b c d e f => by unfold cutAt; kernel_rfl!) (fun a b c d e f g => by unfold cutAt; kernel_rfl!)
theorem cut_131 : ∀ (l : List Nat), 1 ≤ l.length → l.length ≤ 7 → cutAt 1 3 1 l := cut_at (fun a => by unfold cutAt; kernel_rfl!) (fun a b => by unfold cutAt; kernel_rfl!) (fun a b c => by unfold cutAt; kernel_rfl!) (fun a b c d => by unfold cutAt; kernel_rfl!) (fun a b c d e => by unfold cutAt; kernel_rfl!) (fun a b c d e f => by unfold cutAt; kernel_rfl!) (fun a b c d e f g => by unfold cutAt; kernel_rfl!)
theorem cut_132 : ∀ (l : List Nat), 1 ≤ l.length → l.length ≤ 7 → cutAt 1 3 2 l := cut_at (fun a => by unfold cutAt; kernel_rfl!) (fun a b => by unfold cutAt; kernel_rfl!) (fun a b c => by unfold cutAt; kernel_rfl!) (fun a b c d => by unfold cutAt; kernel_rfl!) (fun a b c d e => by unfold cutAt; kernel_rfl!) (fun a b c d e f => by unfold cutAt; kernel_rfl!) (fun a b c d e f g => by unfold cutAt; kernel_rfl!)
theorem cut_210 : ∀ (l : List Nat), 1 ≤ l.length → l.length ≤ 7 → cutAt 2 1 0 l := cut_at (fun a => by unfold cutAt; kernel_rfl!) (fun a b => by unfold cutAt; kernel_rfl!) (fun a b c => by unfold cutAt; kernel_rfl!) (fun a b c d => by unfold cutAt; kernel_rfl!) (fun a b c d e => by unfold cutAt; kernel_rfl!) (fun a b c d e f => by unfold cutAt; kernel_rfl!) (fun a b c d e f g => by unfold cutAt; kernel_rfl!)
theorem cut_211 : ∀ (l : List Nat), 1 ≤ l.length → l.length ≤ 7 → cutAt 2 1 1 l := cut_at (fun a => by unfold cutAt; kernel_rfl!) (fun a b => by unfold cutAt; kernel_rfl!) (fun a b c => by unfold cutAt; kernel_rfl!) (fun a b c d => by unfold cutAt; kernel_rfl!) (fun a b c d e => by unfold cutAt; kernel_rfl!) (fun a b c d e f => by unfold cutAt; kernel_rfl!) (fun a b c d e f g => by unfold cutAt; kernel_rfl!)
theorem cut_212 : ∀ (l : List Nat), 1 ≤ l.length → l.length ≤ 7 → cutAt 2 1 2 l := cut_at (fun a => by unfold cutAt; kernel_rfl!) (fun a b => by unfold cutAt; kernel_rfl!) (fun a b c => by unfold cutAt; kernel_rfl!) (fun a b c d => by unfold cutAt; kernel_rfl!) (fun a b c d e => by unfold cutAt; kernel_rfl!) (fun a b c d e f => by unfold cutAt; kernel_rfl!) (fun a b c d e f g => by unfold cutAt; kernel_rfl!)
theorem cut_220 : ∀ (l : List Nat), 1 ≤ l.length → l.length ≤ 7 → cutAt 2 2 0 l := cut_at (fun a => by unfold cutAt; kernel_rfl!) (fun a b => by unfold cutAt; kernel_rfl!) (fun a b c => by unfold cutAt; kernel_rfl!) (fun a b c d => by unfold cutAt; kernel_rfl!) (fun a b c d e => by unfold cutAt; kernel_rfl!) (fun a b c d e f => by unfold cutAt; kernel_rfl!) (fun a b c d e f g => by unfold cutAt; kernel_rfl!)
theorem cut_221 : ∀ (l : List Nat), 1 ≤ l.length → l.length ≤ 7 → cutAt 2 2 1 l := cut_at (fun a => by unfold cutAt; kernel_rfl!) (fun a b => by unfold cutAt; kernel_rfl!) (fun a b c => by unfold cutAt; kernel_rfl!) (fun a b c d => by unfold cutAt; kernel_rfl!) (fun a b c d e => by unfold cutAt; kernel_rfl!) (fun a b c d e f => by unfold cutAt; kernel_rfl!) (fun a b c d e f g => by unfold cutAt; kernel_rfl!)
theorem cut_222 : ∀ (l : List Nat), 1 ≤ l.length → l.length ≤ 7 → cutAt 2 2 2 l := cut_at (fun a => by unfold cutAt; kernel_rfl!) (fun a b => by unfold cutAt; kernel_rfl!) (fun a b c => by unfold cutAt; kernel_rfl!) (fun a b c d => by unfold cutAt; kernel_rfl!) (fun a b c d e => by unfold cutAt; kernel_rfl!) (fun a b c d e f => by unfold cutAt; kernel_rfl!) (fun a b c d e f g => by unfold cutAt; kernel_rfl!)
theorem cut_230 : ∀ (l : List Nat), 1 ≤ l.length → l.length ≤ 7 → cutAt 2 3 0 l := cut_at (fun a => by unfold cutAt; kernel_rfl!) (fun a b => by unfold cutAt; kernel_rfl!) (fun a b c => by unfold cutAt; kernel_rfl!) (fun a b c d => by unfold cutAt; kernel_rfl!) (fun a b c d e => by unfold cutAt; kernel_rfl!) (fun a b c d e f => by unfold cutAt; kernel_rfl!) (fun a b c d e f g => by unfold cutAt; kernel_rfl!)
theorem cut_231 : ∀ (l : List Nat), 1 ≤ l.length → l.length ≤ 7 → cutAt 2 3 1 l := cut_at (fun a => by unfold cutAt; kernel_rfl!) (fun a b => by unfold cutAt; kernel_rfl!) (fun a b c => by unfold cutAt; kernel_rfl!) (fun a b c d => by unfold cutAt; kernel_rfl!) (fun a b c d e => by unfold cutAt; kernel_rfl!) (fun a b c d e f => by unfold cutAt; kernel_rfl!) (fun a b c d e f g => by unfold cutAt; kernel_rfl!)
theorem cut_232 : ∀ (l : List Nat), 1 ≤ l.length → l.length ≤ 7 → cutAt 2 3 2 l := cut_at (fun a => by unfold cutAt; kernel_rfl!) (fun a b => by unfold cutAt; kernel_rfl!) (fun a b c => by unfold cutAt; kernel_rfl!) (fun a b c d => by unfold cutAt; kernel_rfl!) (fun a b c d e => by unfold cutAt; kernel_rfl!) (fun a b c d e f => by unfold cutAt; kernel_rfl!) (fun a b c d e f g => by unfold cutAt; kernel_rfl!)
theorem cut_310 : ∀ (l : List Nat), 1 ≤ l.length → l.length ≤ 7 → cutAt 3 1 0 l := cut_at (fun a => by unfold cutAt; kernel_rfl!) (fun a b => by unfold cutAt; kernel_rfl!) (fun a b c => by unfold cutAt; kernel_rfl!) (fun a b c d => by unfold cutAt; kernel_rfl!) (fun a b c d e => by unfold cutAt; kernel_rfl!) (fun a b c d e f => by unfold cutAt; kernel_rfl!) (fun a b c d e f g => by unfold cutAt; kernel_rfl!)
theorem cut_311 : ∀ (l : List Nat), 1 ≤ l.length → l.length ≤ 7 → cutAt 3 1 1 l := cut_at (fun a => by unfold cutAt; kernel_rfl!) (fun a b => by unfold cutAt; kernel_rfl!) (fun a b c => by unfold cutAt; kernel_rfl!) (fun a b c d => by unfold cutAt; kernel_rfl!) (fun a b c d e => by unfold cutAt; kernel_rfl!) (fun a b c d e f => by unfold cutAt; kernel_rfl!) (fun a b c d e f g => by unfold cutAt; kernel_rfl!)
theorem cut_312 : ∀ (l : List Nat), 1 ≤ l.length → l.length ≤ 7 → cutAt 3 1 2 l := cut_at (fun a => by unfold cutAt; kernel_rfl!) (fun a b => by unfold cutAt; kernel_rfl!) (fun a b c => by unfold cutAt; kernel_rfl!) (fun a b c d => by unfold cutAt; kernel_rfl!) (fun a b c d e => by unfold cutAt; kernel_rfl!) (fun a b c d e f => by unfold cutAt; kernel_rfl!) (fun a b c d e f g => by unfold cutAt; kernel_rfl!)
theorem cut_320 : ∀ (l : List Nat), 1 ≤ l.length → l.length ≤ 7 → cutAt 3 2 0 l := cut_at (fun a => by unfold cutAt; kernel_rfl!) (fun a b => by unfold cutAt; kernel_rfl!) (fun a b c => by unfold cutAt; kernel_rfl!) (fun a b c d => by unfold cutAt; kernel_rfl!) (fun a b c d e => by unfold cutAt; kernel_rfl!) (fun a b c d e f => by unfold cutAt; kernel_rfl!) (fun a b c d e f g => by unfold cutAt; kernel_rfl!)
theorem cut_321 : ∀ (l : List Nat), 1 ≤ l.length → l.length ≤ 7 → cutAt 3 2 1 l := cut_at (fun a => by unfold cutAt; kernel_rfl!) (fun a b => by unfold cutAt; kernel_rfl!) (fun a b c => by unfold cutAt; kernel_rfl!) (fun a b c d => by unfold cutAt; kernel_rfl!) (fun a b c d e => by unfold cutAt; kernel_rfl!) (fun a b c d e f => by unfold cutAt; kernel_rfl!) (fun a b c d e f g => by unfold cutAt; kernel_rfl!)
theorem cut_322 : ∀ (l : List Nat), 1 ≤ l.length → l.length ≤ 7 → cutAt 3 2 2 l := cut_at (fun a => by unfold cutAt; kernel_rfl!) (fun a b => by unfold cutAt; kernel_rfl!) (fun a b c => by unfold cutAt; kernel_rfl!) (fun a b c d => by unfold cutAt; kernel_rfl!) (fun a b c d e => by unfold cutAt; kernel_rfl!) (fun a b c d e f => by unfold cutAt; kernel_rfl!) (fun a b c d e f g => by unfold cutAt; kernel_rfl!)
theorem cut_330 : ∀ (l : List Nat), 1 ≤ l.length → l.length ≤ 7 → cutAt 3 3 0 l := cut_at (fun a => by unfold cutAt; kernel_rfl!) (fun a b => by unfold cutAt; kernel_rfl!) (fun a b c => by unfold cutAt; kernel_rfl!) (fun a b c d => by unfold cutAt; kernel_rfl!) (fun a b c d e => by unfold cutAt; kernel_rfl!) (fun a b c d e f => by unfold cutAt; kernel_rfl!) (fun a b c d e f g => by unfold cutAt; kernel_rfl!)
theorem cut_331 : ∀ (l : List Nat), 1 ≤ l.length → l.length ≤ 7 → cutAt 3 3 1 l := cut_at (fun a => by unfold cutAt; kernel_rfl!) (fun a b => by unfold cutAt; kernel_rfl!) (fun a b c => by unfold cutAt; kernel_rfl!) (fun a b c d => by unfold cutAt; kernel_rfl!) (fun a b c d e => by unfold cutAt; kernel_rfl!) (fun a b c d e f => by unfold cutAt; kernel_rfl!) (fun a b c d e f g => by unfold cutAt; kernel_rfl!)
theorem cut_332 : ∀ (l : List Nat), 1 ≤ l.length → l.length ≤ 7 → cutAt 3 3 2 l := cut_at (fun a => by unfold cutAt; kernel_rfl!) (fun a b => by unfold cutAt; kernel_rfl!) (fun a b c => by unfold cutAt; kernel_rfl!) (fun a b c d => by unfold cutAt; kernel_rfl!) (fun a b c d e => by unfold cutAt; kernel_rfl!) (fun a b c d e f => by unfold cutAt; kernel_rfl!) (fun a b c d e f g => by unfold cutAt; kernel_rfl!)
theorem cut_due {ya yb tg : Nat} (ha1 : 1 ≤ ya) (ha3 : ya ≤ 3) (hb1 : 1 ≤ yb) (hb3 : yb ≤ 3) (htg : tg ≤ 2) {l : List Nat} (h1 : 1 ≤ l.length) (h7 : l.length ≤ 7) : cutAt ya yb tg l := by
  have ha : ya = 1 ∨ ya = 2 ∨ ya = 3 := by omega
  have hb : yb = 1 ∨ yb = 2 ∨ yb = 3 := by omega
  have ht : tg = 0 ∨ tg = 1 ∨ tg = 2 := by omega
  rcases ha with rfl | rfl | rfl <;> rcases hb with rfl | rfl | rfl <;> rcases ht with rfl | rfl | rfl
  · exact cut_110 l h1 h7
  · exact cut_111 l h1 h7
  · exact cut_112 l h1 h7
  · exact cut_120 l h1 h7
  · exact cut_121 l h1 h7
  · exact cut_122 l h1 h7
  · exact cut_130 l h1 h7
  · exact cut_131 l h1 h7
  · exact cut_132 l h1 h7
  · exact cut_210 l h1 h7
  · exact cut_211 l h1 h7
  · exact cut_212 l h1 h7
  · exact cut_220 l h1 h7
  · exact cut_221 l h1 h7
  · exact cut_222 l h1 h7
  · exact cut_230 l h1 h7
  · exact cut_231 l h1 h7
  · exact cut_232 l h1 h7
  · exact cut_310 l h1 h7
  · exact cut_311 l h1 h7
  · exact cut_312 l h1 h7
  · exact cut_320 l h1 h7
  · exact cut_321 l h1 h7
  · exact cut_322 l h1 h7
  · exact cut_330 l h1 h7
  · exact cut_331 l h1 h7
  · exact cut_332 l h1 h7
/-- a row of the files -/
noncomputable def RwOk (r : Row) : Prop := MdOk r.m ∧ 0 ≤ r.s ∧ r.s < 10000000
theorem RwOk.line {r : Row} (h : RwOk r) {ya yb tg : Nat} (ha1 : 1 ≤ ya) (ha3 : ya ≤ 3) (hb1 : 1 ≤ yb) (hb3 : yb ≤ 3) (htg : tg ≤ 2) : tolL ya yb tg r = dlL (marksI (ya : Int) (yb : Int) tg) r := by
  have h7 : (digL r.s).length ≤ 7 := (digL_le h.2.1 (by omega)).mpr h.2.2
  have := cut_due ha1 ha3 hb1 hb3 htg (digL_pos h.2.1) h7
  unfold cutAt at this
  show fmL r.m ++ [32] ++ cutT ya yb tg (digL r.s) = (sgD r.m (c0L r.m) 2 ++ [32]) ++ (piecesL (marksI (ya : Int) (yb : Int) tg) (digL r.s)).flatten
  rw [this, h.1.signs]
/-! the difference -/
theorem alone_iff {M N : List Int} {x : Int} (h1 : 1 ≤ x) (h8 : x ≤ 8) : x ∈ aloneL M N 8 ↔ alB M N x = true := by
  unfold aloneL
  rw [List.mem_filter]
  constructor
  · exact fun h => h.2
  · refine fun h => ⟨List.mem_map.mpr ⟨(x - 1).toNat, List.mem_range.mpr (by omega), by omega⟩, h⟩
theorem alone_sorted (M N : List Int) (k : Nat) : (aloneL M N k).Pairwise (· < ·) := by
  unfold aloneL
  refine List.Pairwise.filter _ ?_
  rw [List.pairwise_map]
  exact List.pairwise_lt_range.imp fun h => by omega
theorem a0_low {M N : List Int} {x : Int} (h1 : 1 ≤ x) (hx : x < (e0 M N : Int)) : x ∈ M ↔ x ∈ N := by
  obtain ⟨e, he, he1, he9⟩ := a0_range M N
  have hee : e0 M N = e := by unfold e0; rw [he]; rfl
  rw [hee] at hx
  have hno : ¬ (alB M N x = true) := by
    intro hb
    have hm := (alone_iff h1 (by omega)).mpr hb
    unfold a0L at he
    have hs := alone_sorted M N 8
    cases hA : aloneL M N 8 with
    | nil => rw [hA] at hm; cases hm
    | cons y l =>
      rw [hA] at hm hs he
      have hy : y = (e : Int) := he
      rcases List.mem_cons.mp hm with rfl | hm
      · omega
      · have := (List.pairwise_cons.mp hs).1 x hm
        omega
  unfold alB at hno
  by_cases a : x ∈ M <;> by_cases b : x ∈ N <;> simp [a, b] at hno ⊢
theorem a0_hit {M N : List Int} (h : e0 M N ≤ 8) : ¬ ((e0 M N : Int) ∈ M ↔ (e0 M N : Int) ∈ N) := by
  obtain ⟨e, he, he1, he9⟩ := a0_range M N
  have hee : e0 M N = e := by unfold e0; rw [he]; rfl
  rw [hee] at h ⊢
  have hb : alB M N (e : Int) = true := by
    unfold a0L at he
    cases hA : aloneL M N 8 with
    | nil => rw [hA] at he; have : (9 : Int) = (e : Int) := he; omega
    | cons y l =>
      rw [hA] at he
      have hy : y = (e : Int) := he
      exact (alone_mem (k := 8) (by rw [hA, ← hy]; exact .head _)).2.2
  unfold alB at hb
  intro hi
  by_cases a : (e : Int) ∈ M
  · simp [a, hi.mp a] at hb
  · simp [a, mt hi.mpr a] at hb
section
variable {M N : List Int} {r r' : Row}
theorem dl_split (M : List Int) (r : Row) : dlL M r = (sgD r.m (c0L r.m) 2 ++ [32]) ++ cmL (bM M (digL r.s).length) 0 (digL r.s) := by
  show (sgD r.m (c0L r.m) 2 ++ [32]) ++ (piecesL M (digL r.s)).flatten = _
  rw [pieces_eq]
theorem dl_inj {M N : List Int} (h : dlL M r = dlL N r') : cmL (bM M (digL r.s).length) 0 (digL r.s) = cmL (bM N (digL r'.s).length) 0 (digL r'.s) := by
  rw [dl_split, dl_split] at h
  exact (List.append_inj h (by rw [List.length_append, List.length_append, sgD_len, sgD_len])).2
theorem dl_dig {M N : List Int} (hr : 0 ≤ r.s) (hr' : 0 ≤ r'.s) (h : dlL M r = dlL N r') : digL r.s = digL r'.s := by
  have e := congrArg (List.filter fun c => !decide (c = 44)) (dl_inj h)
  rw [cm_strip _ _ _ (digL_44 hr), cm_strip _ _ _ (digL_44 hr')] at e
  exact e
theorem ap_iff {e : Nat} (he : 1 ≤ e) (hr : 0 ≤ r.s) : apB e r = true ↔ e < (digL r.s).length := by
  unfold apB
  rw [decide_eq_true_iff]
  have := digL_le hr (k := e) he
  constructor
  · intro h
    by_cases hl : (digL r.s).length ≤ e
    · have := this.mp hl; omega
    · omega
  · intro h
    by_cases hl : r.s < 10 ^ e
    · have := this.mpr hl; omega
    · omega
end
theorem e0_range (M N : List Int) : 1 ≤ e0 M N ∧ e0 M N ≤ 9 := by
  obtain ⟨e, he, he1, he9⟩ := a0_range M N
  have hee : e0 M N = e := by unfold e0; rw [he]; rfl
  omega
theorem rows_range (rs : List Row) : (List.range rs.length).map (rowAt rs) = rs := by
  refine List.ext_getElem (by rw [List.length_map, List.length_range]) fun i h1 h2 => ?_
  rw [List.getElem_map, List.getElem_range]
  unfold rowAt
  rw [List.getElem?_eq_getElem h2]; rfl
theorem ap_map (e : Nat) (rs : List Row) (f : Row → List Nat) : (apL e rs rs.length).map (fun x => (rs.map f).getD x.toNat []) = (rs.filter (apB e)).map f := by
  unfold apL apI
  rw [List.map_map]
  have e1 : ∀ i ∈ (List.range rs.length).filter (fun i => apB e (rowAt rs i)), ((fun x : Int => (rs.map f).getD x.toNat []) ∘ fun i : Nat => (i : Int)) i = f (rowAt rs i) := by
    intro i hi
    have hlt := List.mem_range.mp (List.mem_filter.mp hi).1
    show (rs.map f).getD i [] = _
    unfold rowAt
    simp [hlt]
  rw [List.map_congr_left e1]
  have e2 : (rs.filter (apB e)).map f = (((List.range rs.length).map (rowAt rs)).filter (apB e)).map f := by rw [rows_range]
  rw [e2, List.filter_map, List.map_map]
  rfl
theorem diff_law {rs : List Row} (M N : List Int) (h : ∀ r ∈ rs, RwOk r) : uld (rs.map (dlL M)).reverse (rs.map (dlL N)) [] = (dueMs M N rs, dueAs M N rs) := by
  obtain ⟨he1, he9⟩ := e0_range M N
  have l7 : ∀ r ∈ rs, (digL r.s).length ≤ 7 := fun r hr => (digL_le (h r hr).2.1 (by omega)).mpr (h r hr).2.2
  rw [uld_law rs (dlL M) (dlL N) (apB (e0 M N)) ?_ ?_ ?_]
  · unfold dueMs dueAs
    rw [List.map_reverse, ap_map, ap_map]
  · intro r hr hq
    have hn : ¬ (e0 M N < (digL r.s).length) := fun hl => by rw [(ap_iff he1 (h r hr).2.1).mpr hl] at hq; cases hq
    rw [dl_split, dl_split]
    congr 1
    refine cm_congr _ _ _ _ fun i hi => ?_
    unfold bM
    rw [Nat.zero_add]
    by_cases h0 : 0 < i
    · have := a0_low (M := M) (N := N) (x := ((digL r.s).length : Int) - i) (by omega) (by omega)
      simp only [this]
    · simp [h0]
  · intro r hr r' hr' hq heq
    have hlt := (ap_iff he1 (h r hr).2.1).mp hq
    have hd := dl_dig (h r hr).2.1 (h r' hr').2.1 heq
    have hc := dl_inj heq
    rw [← hd] at hc
    have := cm_inj _ _ _ 0 (digL_44 (h r hr).2.1) hc ((digL r.s).length - e0 M N) (by omega)
    rw [Nat.zero_add] at this
    have l := l7 r hr
    refine a0_hit (M := M) (N := N) (by omega) ?_
    unfold bM at this
    have e1 : ((digL r.s).length : Int) - (((digL r.s).length - e0 M N : Nat) : Int) = (e0 M N : Int) := by omega
    rw [e1] at this
    have h0 : 0 < (digL r.s).length - e0 M N := by omega
    have := decide_eq_decide.mp this
    exact ⟨fun a => (this.mp ⟨a, h0⟩).1, fun a => (this.mpr ⟨a, h0⟩).1⟩
  · intro r hr r' hr' heq
    have hd := dl_dig (h r hr).2.1 (h r' hr').2.1 heq
    have i1 := ap_iff he1 (h r hr).2.1
    have i2 := ap_iff he1 (h r' hr').2.1
    rw [hd] at i1
    cases ha : apB (e0 M N) r <;> cases hb : apB (e0 M N) r'
    · rfl
    · rw [ha] at i1; rw [hb] at i2; exact absurd (i1.mpr (i2.mp rfl)) (by decide)
    · rw [ha] at i1; rw [hb] at i2; exact absurd (i2.mpr (i1.mp rfl)) (by decide)
    · rfl
end Mine
end
-- V63
section
open PySem PySem.Spec PySem.Calls PyProof.Rows PySem.W PySem.W.X
namespace Mine
noncomputable def nScript : Str := ⟨⟨[115, 99, 114, 105, 112, 116]⟩⟩
noncomputable def aE1 (h : Nat → Int) (k : Nat → Nat) (sc : Nat) : List DictEntry := [en (h 0) (k 0) nScript (.ref sc)]
noncomputable def aE2 (h : Nat → Int) (k : Nat → Nat) (sc fl : Nat) : List DictEntry := [en (h 0) (k 0) nScript (.ref sc), en (h 1) (k 1) nFiles (.ref fl)]
noncomputable def aE3 (h : Nat → Int) (k : Nat → Nat) (sc fl rl : Nat) : List DictEntry := [en (h 0) (k 0) nScript (.ref sc), en (h 1) (k 1) nFiles (.ref fl), en (h 2) (k 2) nRulers (.ref rl)]
noncomputable def tgE : Stmt → Expr
  | .Assign [t] _ _ => t
  | _ => dumE
noncomputable def ceSum (m : List Bool) (x : Int) : CE := ⟨some "sum", m, 1, fun us => (.ok (.ret (.int x (getU us 0))), []), 0, noH⟩
noncomputable def ceRul (n : Int) : CE := ⟨none, [], 5, rulFn n, 0, noH⟩
noncomputable def laF (P : Params) : Expr := asE (stm P 123 0)
noncomputable def laC (P : Params) : Expr := asE (stm P 123 2)
noncomputable def laT (P : Params) : Expr := cpL (laC P)
noncomputable def laD (P : Params) : Expr := cpR (laC P)

theorem ent123 (P : Params) (S : ST) (sc : Nat) (u : Nat → Nat) :
    trimO [true] (run (P) (KP P) S 11 c0 none 0 [] (entZ (fd P 123) 123 (bd P 123) [(nScript, .ref sc)]) [] 0 (mkU 2 u) 65 [] True) =
    some ⟨.fin (.again (.func (bd P 123) (envAt P 123 (u 0)))), [(u 0, fro (aE1 (fun _ => hs P nScript) (fun _ => u 1) sc) 1)], 0, okD 2 65 [u 0] [] True⟩ := by kernel_rfl!
theorem la_f (P : Params) (b1 b2 : Bool) (S : ST) (L : Nat)  (u : Nat → Nat) :
    trimO [] (run (ftP P b1 b2) (KP P) S 8 c0 none 0 [] (valZ (.Name (clN (laF P)) (clP (laF P))) (envAt P 123 L)) [] 0 (mkU 0 u) 0 [] True) =
    some ⟨.fin (.done (.ret (.ref 87))), [], 0, okD 1 0 [] [] True⟩ := by cases b1 <;> kernel_rfl!
theorem la_a (P : Params) (b1 b2 : Bool) (S : ST) (L : Nat) (h : Nat → Int) (k : Nat → Nat) (n sc fl rl : Nat) (u : Nat → Nat) :
    trimO [true] (run (ftP P b1 b2) (KP P) S 8 c0 none 0 [] (valZ (cl2 (laF P) 0) (envAt P 123 L)) [(L, fro (aE1 h k sc) n)] 0 (mkU 0 u) 1 [] True) =
    some ⟨.fin (.done (.ret (.ref sc))), [(L, fro (aE1 h k sc) n)], 0, okD 1 1 [L] [] True⟩ := by cases b1 <;> kernel_rfl!
theorem la_s (P : Params) (b1 b2 : Bool) (S : ST) (L : Nat) (h : Nat → Int) (k : Nat → Nat) (n sc fl rl : Nat) (u : Nat → Nat) :
    trimO [true] (run (ftP P b1 b2) (KP P) S 13 c0 none 0 [] (assZ (tgE (stm P 123 0)) (envAt P 123 L) (.ref fl)) [(L, fro (aE1 h k sc) n)] 0 (mkU 1 u) 65 [] True) =
    some ⟨.fin (.done .next), [(L, fro (aE2 (fun i => match i with | 1 => hs P nFiles | i => h i) (fun i => match i with | 1 => u 0 | i => k i) sc fl) (n + 1))], 0, okD 2 65 [L] [] True⟩ := by cases b1 <;> kernel_rfl!
theorem la_1 (P : Params) (b1 b2 : Bool) (S : ST) (L : Nat) (h : Nat → Int) (k : Nat → Nat) (n sc fl rl : Nat) (sn : Nat) (items r0 r1 : List Value) (S0 S1 : Int) (u : Nat → Nat) :
    trimO [true, true, true, true, true] (run (ftP P b1 b2) (KP P) S 73 c0 none 0 [] (flowZ [stm P 123 1] (envAt P 123 L)) [(L, fro (aE2 h k sc fl) n), (sc, lsto items sn)] 0 (mkU 25 u) 1471500819009775967161635861426662063915401216 [ceLSl [false, true, true] sc (lsto items sn) r0, ceSum [false, false, true] S0, ceRul (10 + S0), ceLSl [false, true, false, true] sc (lsto items sn) r1, ceSum [false, false, false, true] S1, ceRul (1 + S1)] True) =
    some ⟨.fin (.done .next), [(L, fro (aE3 (fun i => match i with | 2 => hs P nRulers | i => h i) (fun i => match i with | 2 => u 24 | i => k i) sc fl (u 23)) (n + 1)), (u 10, lsto (rulV (rA (10 + S0)) (rB (10 + S0)) (rT (10 + S0)) (getU [u 6, u 7, u 8, u 9, u 10])) 0), (sc, lsto (items) sn), (u 22, lsto (rulV (rA (1 + S1)) (rB (1 + S1)) (rT (1 + S1)) (getU [u 18, u 19, u 20, u 21, u 22])) 0), (u 23, lsto [(.ref (u 10)), (.ref (u 22))] 0)], 0, okD 26 1471500819009775967161635861426662063915401216 [L, sc, u 2] [(S (.call (.builtin "list.__getitem__") ⟨[(.ref sc), (.ref (u 2))], []⟩) [(sc, lsto items sn), (u 2, slO .none (.int 1 (u 1)) .none)] 0 (ceLSl [false, true, true] sc (lsto items sn) r0).n (ceLSl [false, true, true] sc (lsto items sn) r0).f (ceLSl [false, true, true] sc (lsto items sn) r0).j, fun _ => [L, sc, u 3]), (S (.call (.builtin "sum") ⟨[(.ref (u 3))], []⟩) [(u 3, lsto (r0) 0)] 0 (ceSum [false, false, true] S0).n (ceSum [false, false, true] S0).f (ceSum [false, false, true] S0).j, fun _ => [L, sc, u 10, u 14]), (S (.call (.ref 82) ⟨[(.int (10 + S0) (u 5))], []⟩) [] 0 (ceRul (10 + S0)).n (ceRul (10 + S0)).f (ceRul (10 + S0)).j, id), (S (.call (.builtin "list.__getitem__") ⟨[(.ref sc), (.ref (u 14))], []⟩) [(sc, lsto items sn), (u 14, slO (.int 1 (u 12)) (.int 2 (u 13)) .none)] 0 (ceLSl [false, true, false, true] sc (lsto items sn) r1).n (ceLSl [false, true, false, true] sc (lsto items sn) r1).f (ceLSl [false, true, false, true] sc (lsto items sn) r1).j, fun _ => [L, u 10, sc, u 15]), (S (.call (.builtin "sum") ⟨[(.ref (u 15))], []⟩) [(u 15, lsto (r1) 0)] 0 (ceSum [false, false, false, true] S1).n (ceSum [false, false, false, true] S1).f (ceSum [false, false, false, true] S1).j, fun _ => [L, u 10, sc, u 22, u 23]), (S (.call (.ref 82) ⟨[(.int (1 + S1) (u 17))], []⟩) [] 0 (ceRul (1 + S1)).n (ceRul (1 + S1)).f (ceRul (1 + S1)).j, id)] True⟩ := by cases b1 <;> kernel_rfl!
theorem la_t (P : Params) (b1 b2 : Bool) (S : ST) (L : Nat)  (u : Nat → Nat) :
    trimO [] (run (ftP P b1 b2) (KP P) S 8 c0 none 0 [] (valZ (.Name (clN (laT P)) (clP (laT P))) (envAt P 123 L)) [] 0 (mkU 0 u) 0 [] True) =
    some ⟨.fin (.done (.ret (.ref 106))), [], 0, okD 1 0 [] [] True⟩ := by cases b1 <;> kernel_rfl!
theorem la_t0 (P : Params) (b1 b2 : Bool) (S : ST) (L : Nat) (h : Nat → Int) (k : Nat → Nat) (n sc fl rl : Nat) (sl : Array (Option Value)) (u : Nat → Nat) :
    trimO [true] (run (ftP P b1 b2) (KP P) S 8 c0 none 0 [] (valZ (cl2 (laT P) 0) (envAt P 123 L)) [(L, frS (aE3 h k sc fl rl) n sl)] 0 (mkU 0 u) 1 [] True) =
    some ⟨.fin (.done (.ret (.ref fl))), [(L, frS (aE3 h k sc fl rl) n sl)], 0, okD 1 1 [L] [] True⟩ := by cases b1 <;> kernel_rfl!
theorem la_t1 (P : Params) (b1 b2 : Bool) (S : ST) (L : Nat) (h : Nat → Int) (k : Nat → Nat) (n sc fl rl : Nat) (sl : Array (Option Value)) (u : Nat → Nat) :
    trimO [true] (run (ftP P b1 b2) (KP P) S 8 c0 none 0 [] (valZ (cl2 (laT P) 1) (envAt P 123 L)) [(L, frS (aE3 h k sc fl rl) n sl)] 0 (mkU 0 u) 1 [] True) =
    some ⟨.fin (.done (.ret (.ref rl))), [(L, frS (aE3 h k sc fl rl) n sl)], 0, okD 1 1 [L] [] True⟩ := by cases b1 <;> kernel_rfl!
theorem la_d (P : Params) (b1 b2 : Bool) (S : ST) (L : Nat)  (u : Nat → Nat) :
    trimO [] (run (ftP P b1 b2) (KP P) S 8 c0 none 0 [] (valZ (.Name (clN (laD P)) (clP (laD P))) (envAt P 123 L)) [] 0 (mkU 0 u) 0 [] True) =
    some ⟨.fin (.done (.ret (.ref 116))), [], 0, okD 1 0 [] [] True⟩ := by cases b1 <;> kernel_rfl!
theorem la_d0 (P : Params) (b1 b2 : Bool) (S : ST) (L : Nat) (h : Nat → Int) (k : Nat → Nat) (n sc fl rl : Nat) (sl : Array (Option Value)) (u : Nat → Nat) :
    trimO [true] (run (ftP P b1 b2) (KP P) S 8 c0 none 0 [] (valZ (cl2 (laD P) 0) (envAt P 123 L)) [(L, frS (aE3 h k sc fl rl) n sl)] 0 (mkU 0 u) 1 [] True) =
    some ⟨.fin (.done (.ret (.ref fl))), [(L, frS (aE3 h k sc fl rl) n sl)], 0, okD 1 1 [L] [] True⟩ := by cases b1 <;> kernel_rfl!
theorem la_d1 (P : Params) (b1 b2 : Bool) (S : ST) (L : Nat) (h : Nat → Int) (k : Nat → Nat) (n sc fl rl : Nat) (sl : Array (Option Value)) (u : Nat → Nat) :
    trimO [true] (run (ftP P b1 b2) (KP P) S 8 c0 none 0 [] (valZ (cl2 (laD P) 1) (envAt P 123 L)) [(L, frS (aE3 h k sc fl rl) n sl)] 0 (mkU 0 u) 1 [] True) =
    some ⟨.fin (.done (.ret (.ref rl))), [(L, frS (aE3 h k sc fl rl) n sl)], 0, okD 1 1 [L] [] True⟩ := by cases b1 <;> kernel_rfl!

end Mine
end
-- V64
section
open PySem PySem.Spec PySem.Calls PyProof.Rows PySem.W PySem.W.X PySem.SeqAt
namespace Mine
/-! parts of the law's walk -/
theorem wpAny_Assign_1 {M : Model} {A : Around} {env : Env} {t value : Expr} {pos : Pos} {Q : Flow → Shared → Prop} {E : Value → Shared → Prop} {s : Shared}
    (h : wpAny M A (eval value env) (fun v s₁ => wpAny M A (assign t env v) (fun _ => Q .next) E s₁) E s)
    (he : (assignEach [t] env).map (·.2) = [assign t env])
    (hs : swapsWithSole [t] value pos.line env = pure false) (hw : swappedStores [t] value env = pure none) : wpAny M A (exec (.Assign [t] value pos) env) Q E s := by
  refine wpAny_Assign_stores (wpAny_mono h (fun v s₁ h₁ => ?_) fun _ _ x => x) hs hw
  rw [he]
  exact h₁
noncomputable def putB (B : Addr → Option Obj) (rs : List Row) : Addr → Option Obj := fun a => match lookK (rowsE rs) a with
  | some o => some o
  | none => B a
theorem lookK_mem : ∀ {K : Frag} {a : Nat} {o : Obj}, lookK K a = some o → (a, o) ∈ K
  | [], _, _, h => by cases h
  | p :: K, a, o, h => by
    unfold lookK at h
    cases hb : Nat.beq p.1 a with
    | true =>
      rw [hb] at h
      cases h
      have := Nat.eq_of_beq_eq_true hb
      subst this
      exact .head _
    | false => rw [hb] at h; exact .tail _ (lookK_mem h)
theorem rows_key {rs : List Row} {a : Nat} {o : Obj} (h : lookK (rowsE rs) a = some o) : ∃ r ∈ rs, r.a = a := by
  obtain ⟨r, hr, e⟩ := List.mem_map.mp (lookK_mem h)
  exact ⟨r, hr, congrArg Prod.fst e⟩
theorem mkRows_mem : ∀ (l : List (Int × Int)) (u : Nat → Nat), ∀ r ∈ mkRows l u, (r.m, r.s) ∈ l
  | [], _, r, h => by cases h
  | x :: l, u, r, h => by
    rcases List.mem_cons.mp h with rfl | h
    · exact .head _
    · exact .tail _ (mkRows_mem l _ r h)
theorem mkRows_len : ∀ (l : List (Int × Int)) (u : Nat → Nat), (mkRows l u).length = l.length
  | [], _ => rfl
  | x :: l, u => congrArg (· + 1) (mkRows_len l _)
theorem fOf_ok (x : Int) : MdOk (fOf x).1 ∧ 0 ≤ (fOf x).2 ∧ (fOf x).2 < 10000000 := by
  have h1 := Int.fmod_nonneg_of_pos x (b := 4096) (by omega)
  have h2 := Int.fmod_lt_of_pos x (b := 4096) (by omega)
  obtain ⟨k1, k2, k3⟩ := fmod7 x
  refine ⟨.inr ⟨(Int.fmod x 4096).toNat, by omega, ?_⟩, ?_, ?_⟩
  · show 32768 + Int.fmod x 4096 = _
    omega
  · exact Int.fmod_nonneg_of_pos _ (Int.pow_pos (by omega))
  · have h3 := Int.fmod_lt_of_pos (Int.fdiv x 4096) (b := 10 ^ fPow x) (Int.pow_pos (by omega))
    have h4 : (10 : Int) ^ fPow x ≤ 10 ^ 7 := by
      have : (10 : Nat) ^ fPow x ≤ 10 ^ 7 := Nat.pow_le_pow_right (by omega) k2
      have e1 : ((10 ^ fPow x : Nat) : Int) = (10 : Int) ^ fPow x := by push_cast; rfl
      rw [← e1]
      have : ((10 ^ fPow x : Nat) : Int) ≤ ((10 ^ 7 : Nat) : Int) := Int.ofNat_le.mpr this
      exact this
    exact Int.lt_of_lt_of_le h3 h4
theorem files_ok (xs : List Int) (u : Nat → Nat) : ∀ r ∈ mkRows (filesD xs) u, RwOk r := by
  intro r hr
  have h := mkRows_mem _ _ r hr
  have key : MdOk (r.m, r.s).1 ∧ 0 ≤ (r.m, r.s).2 ∧ (r.m, r.s).2 < 10000000 := by
    generalize (r.m, r.s) = p at h
    rcases List.mem_append.mp h with h | h
    · unfold baseF at h
      simp only [List.mem_cons, List.not_mem_nil, or_false] at h
      rcases h with rfl | rfl | rfl | rfl | rfl
      · exact ⟨.inr ⟨420, by omega, rfl⟩, by decide, by decide⟩
      · exact ⟨.inr ⟨493, by omega, rfl⟩, by decide, by decide⟩
      · exact ⟨.inl rfl, by decide, by decide⟩
      · exact ⟨.inr ⟨2541, by omega, rfl⟩, by decide, by decide⟩
      · exact ⟨.inr ⟨420, by omega, rfl⟩, by decide, by decide⟩
    · obtain ⟨x, _, rfl⟩ := List.mem_map.mp h
      exact fOf_ok x
  exact key
theorem pick_int (xs : List (Int × Nat)) (lo hi : Option Int) : slicePick ⟨intV xs⟩ lo hi none = ⟨intV ((xs.drop (kms_lo lo xs.length)).take (kms_hi hi xs.length - kms_lo lo xs.length))⟩ := by
  rw [kms_pick_eq]
  unfold kms_pick intV
  simp
theorem r_range (n : Int) : (∃ y : Nat, rA n = (y : Int) ∧ 1 ≤ y ∧ y ≤ 3) ∧ (∃ y : Nat, rB n = (y : Int) ∧ 1 ≤ y ∧ y ≤ 3) ∧ rT n ≤ 2 := by
  refine ⟨⟨(rA n).toNat, ?_⟩, ⟨(rB n).toNat, ?_⟩, ?_⟩
  · unfold rA
    rcases fmod3 n with h | h | h <;> rw [h] <;> decide
  · unfold rB
    rcases fmod3 (Int.fdiv n 3) with h | h | h <;> rw [h] <;> decide
  · unfold rT
    rcases fmod3 (Int.fdiv n 9) with h | h | h <;> rw [h] <;> decide
section
variable {w : World} {K : Frag} {J : Nat → Array GenState → Prop} {B : Addr → Option Obj} {os : OsState} {dr : Drawn} {d : Nat} {A : Around}
theorem call_spec {f : Value} {args : List Value} {Hi rest : List Ent} {j j' n : Nat} {gv : List Nat → Value} {gH : List Nat → List Ent} {s : Shared} {Q : Value → Shared → Prop} {E : Value → Shared → Prop}
    (sp : Spec w K d J (.call f ⟨args, []⟩) Hi j n (fun us => (.ok (.ret (gv us)), gH us)) j') (hA : AOk d A) (hK : KIn K B) (R : Rel J B os dr (Hi ++ rest) j s)
    (h : ∀ us s', us.length = n → Rel J B os dr (gH us ++ rest) j' s' → Q (gv us) s') : wpAny (Mo w) A (call f args) Q E s := by
  have e := splitM_front Hi rest
  have Rp := R.part (allT Hi)
  have hKp := hK.part R (allT Hi)
  have bk : ∀ {s' : Shared} {Hn : List Ent}, Rel J (hideB (splitM (allT Hi) (Hi ++ rest)).1 s.heap) os dr Hn j' s' → Rel J B os dr (app (splitM (allT Hi) (Hi ++ rest)).2 Hn) j' s' := fun R' => R.back (allT Hi) R'
  rw [e] at Rp hKp bk
  have z := sp A _ os dr s (fun r s' => match r with | .ok (.ret v) => Q v s' | _ => False) hA hKp Rp fun us s' hl R' => by
    have R2 := bk R'
    rw [app_eq] at R2
    exact h us s' hl (R2.perm List.perm_append_comm)
  intro Γ p hΓ
  have y := z Γ p hΓ
  have ec : call f args = .call (.call f ⟨args, []⟩) none false [] fun x => (match x with | .ok fl => (Sem.pure fl : Sem Flow) | .error e => .raise e).bind fun fl => match fl with | .ret v => pure v | _ => unsupported "internal:call-without-return-value" := rfl
  rw [ec, Sem.wp_call]
  rw [Sem.wp_call] at y
  refine wpCode_mono (fun r s' q => ?_) y
  cases r with
  | error e => exact absurd q (by intro h; exact h)
  | ok fl =>
    cases fl with
    | ret v => exact q
    | next => exact absurd q (by intro h; exact h)
    | brk => exact absurd q (by intro h; exact h)
    | cont => exact absurd q (by intro h; exact h)
theorem Rel.rows_none {H : List Ent} {rs : List Row} {j : Nat} {s : Shared} (R : Rel J B os dr (H ++ rowsE rs) j s) : ∀ r ∈ rs, B r.a = none := fun r hr =>
  (R.own.own r.e (List.mem_append_right _ (List.mem_map_of_mem hr))).2
theorem Rel.rows_nd {H : List Ent} {rs : List Row} {j : Nat} {s : Shared} (R : Rel J B os dr (H ++ rowsE rs) j s) : (rs.map Row.a).Nodup := by
  have := R.own.nd
  rw [List.map_append] at this
  have h2 := (List.nodup_append.mp this).2.1
  unfold rowsE at h2
  rw [List.map_map] at h2
  exact h2
theorem Rel.put {H : List Ent} {rs : List Row} {j : Nat} {s : Shared} (R : Rel J B os dr (H ++ rowsE rs) j s) : Rel J (putB B rs) os dr H j s := by
  have nd := R.own.nd
  rw [List.map_append] at nd
  have nda := List.nodup_append.mp nd
  refine ⟨⟨fun a o e => ?_, fun p hp => ⟨(R.own.own p (List.mem_append_left _ hp)).1, ?_⟩, nda.1⟩, R.os, R.dr, R.gh⟩
  · unfold putB at e
    cases hl : lookK (rowsE rs) a with
    | some o' =>
      rw [hl] at e
      cases e
      exact (R.own.own _ (List.mem_append_right _ (lookK_mem hl))).1
    | none => rw [hl] at e; exact R.own.keep a o e
  · unfold putB
    cases hl : lookK (rowsE rs) p.1 with
    | some o' => exact absurd rfl (nda.2.2 p.1 (List.mem_map_of_mem hp) p.1 (List.mem_map.mpr ⟨_, lookK_mem hl, rfl⟩))
    | none => exact (R.own.own p (List.mem_append_left _ hp)).2
theorem Rel.unput {H : List Ent} {rs : List Row} {j : Nat} {s : Shared} (hB : ∀ r ∈ rs, B r.a = none) (R : Rel J (putB B rs) os dr H j s) : Rel J B os dr H j s := by
  refine ⟨⟨fun a o e => ?_, fun p hp => ⟨(R.own.own p hp).1, ?_⟩, R.own.nd⟩, R.os, R.dr, R.gh⟩
  · refine R.own.keep a o ?_
    unfold putB
    cases hl : lookK (rowsE rs) a with
    | some o' =>
      obtain ⟨r, hr, rfl⟩ := rows_key hl
      rw [hB r hr] at e; cases e
    | none => exact e
  · have := (R.own.own p hp).2
    unfold putB at this
    cases hl : lookK (rowsE rs) p.1 with
    | some o' => rw [hl] at this; cases this
    | none => rw [hl] at this; exact this
theorem KIn.put {rs : List Row} (hK : KIn K B) (hB : ∀ r ∈ rs, B r.a = none) : KIn (app K (rowsE rs)) (putB B rs) := by
  intro a o e
  unfold putB
  cases hl : lookK (rowsE rs) a with
  | some o' =>
    obtain ⟨r, hr, rfl⟩ := rows_key hl
    cases hk : lookK K r.a with
    | some o2 => have := hK _ _ hk; rw [hB r hr] at this; cases this
    | none => rw [lookK_app2 K _ hk, hl] at e; exact e
  | none =>
    cases hk : lookK K a with
    | some o2 => rw [lookK_app K _ hk] at e; cases e; exact hK _ _ hk
    | none => rw [lookK_app2 K _ hk, hl] at e; cases e
theorem specSum {l n : Nat} {xs : List (Int × Nat)} (m : List Bool) : Spec w K d J (.call (.builtin "sum") ⟨[.ref l], []⟩) [(l, lsto (intV xs) n)] 0 1 (ceSum m (preSum (numAt xs.toArray) xs.toArray.size)).f 0 := by
  refine spec_val (gv := fun us => .int (preSum (numAt xs.toArray) xs.toArray.size) (getU us 0)) (gH := fun _ => []) fun A B os dr s Q hA hK R hQ => ?_
  have hl : s.heap.IsList l (intItems xs.toArray) := by
    have e : intItems xs.toArray = ⟨intV xs⟩ := by unfold intItems intV; simp
    rw [e]; exact R.isList (i := 0) rfl
  refine sum_intListG hA.1 hl fun h' tk t' hk => ?_
  have R2 := (R.pick []).grow hk
  exact hQ [t'] _ rfl (R2.toks tk)
theorem Rel.ne {H : List Ent} {j : Nat} {s : Shared} (R : Rel J B os dr H j s) {i k : Nat} {p q : Ent} (hi : getI H i = some p) (hk : getI H k = some q) (hne : i ≠ k) : p.1 ≠ q.1 := by
  have nd := R.own.nd
  clear R
  induction H generalizing i k with
  | nil => cases hi
  | cons x H ih =>
    rw [List.map_cons] at nd
    obtain ⟨n1, n2⟩ := List.nodup_cons.mp nd
    cases i with
    | zero =>
      cases k with
      | zero => exact absurd rfl hne
      | succ k =>
        cases hi
        intro e
        exact n1 (List.mem_map.mpr ⟨q, getI_mem (l := H) (i := k) hk, e.symm⟩)
    | succ i =>
      cases k with
      | zero =>
        cases hk
        intro e
        exact n1 (List.mem_map.mpr ⟨p, getI_mem (l := H) (i := i) hi, e⟩)
      | succ k => exact ih (i := i) (k := k) hi hk (by omega) n2
theorem tx_eq {s : Shared} : ∀ {v v' : List Value} {l : List (List Nat)}, TxA v l → TxA v' l → ∀ (j : Nat) (h1 : j < v.length) (h2 : j < v'.length), EqAt A s v[j] v'[j] true := by
  intro v v' l h
  induction h generalizing v' with
  | nil => intro _ j h1; cases h1
  | @cons x t vs l _ ih =>
    intro h'
    cases h' with
    | @cons _ t' vs' _ h' =>
      intro j h1 h2
      cases j with
      | zero =>
        have := EqAt.str_str (A := A) (s := s) (mkS x) t (mkS x) t'
        rw [beq_self_eq_true] at this
        exact this
      | succ j => exact ih h' j (by simpa using h1) (by simpa using h2)
theorem all_true (n : Nat) : (List.range n).all (fun _ => true) = true := by
  rw [List.all_eq_true]; exact fun _ _ => rfl
/-- two lists of texts -/
theorem eq_txt {s : Shared} {a b : Nat} {v v' : List Value} {l : List (List Nat)} (hne : a ≠ b) (ha : s.heap.IsList a ⟨v⟩) (hb : s.heap.IsList b ⟨v'⟩) (t : TxA v l) (t' : TxA v' l) (hu : A.units < cLine) : EqAt A s (.ref a) (.ref b) true := by
  refine EqAt.of_refs hne ?_
  have := RcAt.lists (A := A) (e := fun _ => true) ha hb (by show v.length = v'.length; rw [t.len, t'.len]) hu (fun j h1 h2 => tx_eq t t' j h1 h2)
  rw [all_true] at this
  exact this
end
end Mine
end
-- V65
section
open PySem PySem.Spec PySem.Calls PyProof.Rows PySem.W PySem.W.X PySem.SeqAt
namespace Mine
/-! the law -/
noncomputable def asP : Stmt → Pos
  | .Assign _ _ p => p
  | _ => default
theorem seen123 (P : Params) : FnSeen P 123 122 := ⟨by kernel_rfl!, by kernel_rfl!, by kernel_rfl!, by kernel_rfl!, by kernel_rfl!, by kernel_rfl!, by kernel_rfl!, by kernel_rfl!, by kernel_rfl!⟩
theorem bind123 (P : Params) (v : Value) : bindArgs (fd P 123) ⟨[v], []⟩ = .pure [(nScript, v)] := bind_of (by kernel_rfl!)
theorem kind123 (P : Params) (L : Nat) : (envAt P 123 L).scope.kind = .function := by kernel_rfl!
theorem la_body (P : Params) : bd P 123 = [stm P 123 0] ++ ([stm P 123 1] ++ [stm P 123 2]) := by kernel_rfl!
theorem la_0 (P : Params) : stm P 123 0 = .Assign [tgE (stm P 123 0)] (laF P) (asP (stm P 123 0)) := by kernel_rfl!
theorem la_each (P : Params) (env : Env) : (assignEach [tgE (stm P 123 0)] env).map (·.2) = [assign (tgE (stm P 123 0)) env] := by kernel_rfl!
theorem la_sw (P : Params) (L : Nat) : swapsWithSole [tgE (stm P 123 0)] (laF P) (asP (stm P 123 0)).line (envAt P 123 L) = pure false := by kernel_rfl!
theorem la_st (P : Params) (L : Nat) : swappedStores [tgE (stm P 123 0)] (laF P) (envAt P 123 L) = pure none := by kernel_rfl!
theorem la_c (P : Params) : laF P = .Call (.Name (clN (laF P)) (clP (laF P))) [cl2 (laF P) 0] [] (clQ (laF P)) := by kernel_rfl!
theorem la_args (P : Params) (env : Env) : backTo (clQ (laF P)) (starEach [cl2 (laF P) 0] env) = [(false, eval (cl2 (laF P) 0) env)] := by kernel_rfl!
theorem la_2 (P : Params) : stm P 123 2 = .Return (some (laC P)) (reP (stm P 123 2)) := by kernel_rfl!
theorem la_C (P : Params) : laC P = .Compare (laT P) [.Eq] [laD P] (cpP (laC P)) := by kernel_rfl!
theorem la_mark (P : Params) : behindInMarks .Eq (laD P) = false := by kernel_rfl!
theorem la_T (P : Params) : laT P = .Call (.Name (clN (laT P)) (clP (laT P))) [cl2 (laT P) 0, cl2 (laT P) 1] [] (clQ (laT P)) := by kernel_rfl!
theorem la_D (P : Params) : laD P = .Call (.Name (clN (laD P)) (clP (laD P))) [cl2 (laD P) 0, cl2 (laD P) 1] [] (clQ (laD P)) := by kernel_rfl!
theorem la_ta (P : Params) (env : Env) : backTo (clQ (laT P)) (starEach [cl2 (laT P) 0, cl2 (laT P) 1] env) = [(false, eval (cl2 (laT P) 0) env), (false, eval (cl2 (laT P) 1) env)] := by kernel_rfl!
theorem la_da (P : Params) (env : Env) : backTo (clQ (laD P)) (starEach [cl2 (laD P) 0, cl2 (laD P) 1] env) = [(false, eval (cl2 (laD P) 0) env), (false, eval (cl2 (laD P) 1) env)] := by kernel_rfl!
section
variable {w : World} {B : Addr → Option Obj} {os : OsState} {dr : Drawn} {A : Around}
/-- the two answers are equal -/
theorem eq_answers {s : Shared} {J : Nat → Array GenState → Prop} {lst pg p0 p1 tup mi ac lst' pg' p0' p1' tup' mi' ac' n0 n1 nm na n0' n1' nm' na' : Nat} {v0 v1 ms as v0' v1' ms' as' : List Value} {P0 P1 M A' : List (List Nat)} {rest : List Ent} {Q : Value → Shared → Prop} {E : Value → Shared → Prop}
    (hu : A.units < 2000)
    (t0 : TxA v0 P0) (t1 : TxA v1 P1) (tm : TxA ms M) (ta : TxA as A') (t0' : TxA v0' P0) (t1' : TxA v1' P1) (tm' : TxA ms' M) (ta' : TxA as' A')
    (R : Rel J B os dr ((lst', lsto [.ref pg', .ref tup', .bool true] 0) :: (pg', lsto [.ref p0', .ref p1'] 2) :: (p0', lsto v0' n0') :: (p1', lsto v1' n1') :: (tup', tupO [.ref mi', .ref ac']) :: (mi', lsto ms' nm') :: (ac', lsto as' na') ::
      (lst, lsto [.ref pg, .ref tup, .bool true] 0) :: (pg, lsto [.ref p0, .ref p1] 2) :: (p0, lsto v0 n0) :: (p1, lsto v1 n1) :: (tup, tupO [.ref mi, .ref ac]) :: (mi, lsto ms nm) :: (ac, lsto as na) :: rest) 0 s)
    (hQ : Q (.bool true) s) : wpAny (Mo w) A (compareOp .Eq (.ref lst) (.ref lst')) Q E s := by
  have hcl : ∀ n, n < 2600 → n < cLine := fun n h => Nat.lt_of_lt_of_le h (by decide)
  have u0 : A.units < cLine := hcl _ (by omega)
  have u1 : A.in1.units < cLine := hcl _ (by show A.units + 1 < _; omega)
  have u2 : A.in1.in1.units < cLine := hcl _ (by show A.units + 1 + 1 < _; omega)
  have e0 := eq_txt (A := A.in1.in1) (R.ne (i := 9) (k := 2) rfl rfl (by decide)) (R.isList (i := 9) rfl) (R.isList (i := 2) rfl) t0 t0' u2
  have e1 := eq_txt (A := A.in1.in1) (R.ne (i := 10) (k := 3) rfl rfl (by decide)) (R.isList (i := 10) rfl) (R.isList (i := 3) rfl) t1 t1' u2
  have e2 := eq_txt (A := A.in1.in1) (R.ne (i := 12) (k := 5) rfl rfl (by decide)) (R.isList (i := 12) rfl) (R.isList (i := 5) rfl) tm tm' u2
  have e3 := eq_txt (A := A.in1.in1) (R.ne (i := 13) (k := 6) rfl rfl (by decide)) (R.isList (i := 13) rfl) (R.isList (i := 6) rfl) ta ta' u2
  have ep : EqAt A.in1 s (.ref pg) (.ref pg') true := by
    refine EqAt.of_refs (R.ne (i := 8) (k := 1) rfl rfl (by decide)) ?_
    refine RcAt.lists (A := A.in1) (e := fun _ => true) (R.isList (i := 8) rfl) (R.isList (i := 1) rfl) rfl u1 fun j h1 h2 => ?_
    rcases j with _ | _ | j
    · exact e0
    · exact e1
    · exact absurd h1 (by show ¬ (j + 1 + 1 < 2); omega)
  have et : EqAt A.in1 s (.ref tup) (.ref tup') true := by
    refine EqAt.of_refs (R.ne (i := 11) (k := 4) rfl rfl (by decide)) ?_
    refine RcAt.tuples (A := A.in1) (e := fun _ => true) (items := ⟨[.ref mi, .ref ac]⟩) (items2 := ⟨[.ref mi', .ref ac']⟩) ⟨_, R.at (i := 11) rfl, rfl, 0, rfl⟩ ⟨_, R.at (i := 4) rfl, rfl, 0, rfl⟩ u1 fun j h1 h2 => ?_
    rcases j with _ | _ | j
    · exact e2
    · exact e3
    · exact absurd h1 (by show ¬ (j + 1 + 1 < 2); omega)
  refine eq_listAt (e := fun _ => true) (R.isList (i := 7) rfl) (R.isList (i := 0) rfl) rfl u0 (fun j h1 h2 => ?_) hQ
  rcases j with _ | _ | _ | j
  · exact ep
  · exact et
  · exact EqAt.same _
  · exact absurd h1 (by show ¬ (j + 1 + 1 + 1 < 3); omega)
end
end Mine
end
-- V66
section
open PySem PySem.Spec PySem.Calls PyProof.Rows PySem.W PySem.W.X PySem.SeqAt
namespace Mine
theorem mkI_len (us : List Nat) : us.length = us.length := rfl
section
variable {w : World} {B : Addr → Option Obj} {os : OsState} {dr : Drawn} {A : Around}
theorem kms26 (n : Nat) : kms_hi (some 6) n - kms_lo (some 2) n ≤ 4 := by
  unfold kms_hi kms_lo
  simp only
  rw [if_neg (by decide), if_neg (by decide)]
  show min 6 n - min 2 n ≤ 4
  omega
set_option maxHeartbeats 4000000 in
theorem law_body {s : Shared} {xs : List (Int × Nat)} {n sc : Nat} {Q : Value → Shared → Prop} (hA : A.handled = none) (hdep : A.depth ≤ 400) (hun : A.units ≤ 400) (hfr : A.frames = some []) (hK : KIn (KP w.params) B) (hsz : (intV xs).length ≤ sizeLine)
    (R : Rel JB B os dr ([] ++ [(sc, lsto (intV xs) n)]) 0 s)
    (hQ : ∀ H s', Rel JB B os dr ((sc, lsto (intV xs) n) :: H) 0 s' → Q (.bool true) s') :
    wpAny (Mo w) A (call (.ref 123) [.ref sc]) Q (fun _ _ => False) s := by
  have hA0 : AOk (840 - 16) A := ⟨hA, by omega, by omega⟩
  refine fn_call (d := 840) rfl (seen123 _).ok (bind123 _ _) (by omega) (by omega) (Hi := []) (fun u => ent123 w.params _ sc u) (fun u => okD_of _ _ _ _ trivial trivial) hA0 hK R fun u s₁ R₁ => ?_
  obtain ⟨L, hL⟩ : ∃ x, x = u 0 := ⟨_, rfl⟩
  rw [← hL] at R₁ ⊢
  have dp : (A.deeper (envAt w.params 123 L)).depth = A.depth + 1 := rfl
  have un : (A.deeper (envAt w.params 123 L)).units = A.units + 3 := rfl
  have hh : (A.deeper (envAt w.params 123 L)).handled = none := hA
  have hfr' : (A.deeper (envAt w.params 123 L)).frames = some [envAt w.params 123 L] := Around.frames_deeper hfr
  have hek : (envAt w.params 123 L).scope.kind ≠ .module := by rw [kind123]; intro h; cases h
  have hA' : AOk (840 - 14) (A.deeper (envAt w.params 123 L)) := ⟨hh, by omega, by omega⟩
  have hA8 : AOk 840 (A.deeper (envAt w.params 123 L)) := ⟨hh, by omega, by omega⟩
  have hA6 : AOk (840 - 64) (A.deeper (envAt w.params 123 L)) := ⟨hh, by omega, by omega⟩
  have hu2 : (A.deeper (envAt w.params 123 L)).units < 2000 := by omega
  have hd14 : 14 ≤ 840 := by omega
  refine codeAny_func ?_
  rw [la_body]
  refine execs_app _ _ (wpAny_execs_cons ?_)
  rw [la_0]
  refine wpAny_Assign_1 ?_ (la_each _ _) (la_sw _ _) (la_st _ _)
  rw [la_c]
  refine wpAny_Call_NameR ?_
  refine val_front2 (fT_eq w) hA' hd14 hK (Hp := []) R₁ (fun v1 => la_f w.params _ _ _ L v1) (fun v1 => okD_of _ _ _ _ trivial trivial) fun v1 s₂ R₂ => ?_
  rw [la_args]
  have G := seen87 w.params
  refine callWith_function_kw (o := objAt (KP w.params) 87) (fd := fd w.params 87) (evalArgs_kw rfl (Calls.spliced_cons ?_))
  refine val_front2 (fT_eq w) hA' hd14 hK (Hp := [_]) R₂ (fun v2 => la_a w.params _ _ _ L _ _ 1 sc 0 0 v2) (fun v2 => okD_of _ _ _ _ trivial trivial) fun v2 s₃ R₃ => ?_
  refine Calls.spliced_nil (wpAny_evalAll_nil ⟨⟨R₃.top hK G.a1, G.a2⟩, ?_⟩)
  have R3 : Rel JB B os dr ([(sc, lsto (intV xs) n)] ++ [(L, fro (aE1 (fun _ => hs w.params nScript) (fun _ => u 1) sc) 1)]) 0 s₃ := R₃.reorder [1, 0] rfl
  obtain ⟨ys, hys⟩ : ∃ ys, ys = (xs.drop (kms_lo (some 2) xs.length)).take (kms_hi (some 6) xs.length - kms_lo (some 2) xs.length) := ⟨_, rfl⟩
  have hpick : slicePick ⟨intV xs⟩ (some 2) (some 6) none = ⟨intV ys⟩ := by rw [pick_int, ← hys]
  have hy4 : ys.length ≤ 4 := by
    rw [hys, List.length_take]
    exact Nat.le_trans (Nat.min_le_left _ _) (kms26 _)
  have SF := specFiles (w := w) (J := JB) (d := 840) (by omega) (sc := sc) (n := n) (tS := 0) (items := intV xs) (xs := ys) hy4 hsz hpick
  refine call_spec (gv := fun us => .ref (getU us 0)) (gH := fun us => (sc, lsto (intV xs) n) :: (getU us 0, filesO (mkRows (filesD (ys.map (·.1))) fun i => getU us (i + 1))) :: rowsE (mkRows (filesD (ys.map (·.1))) fun i => getU us (i + 1))) SF hA8 hK R3 fun us s₄ hl R₄ => ?_
  obtain ⟨rs, hrs⟩ : ∃ rs, rs = mkRows (filesD (ys.map (·.1))) (fun i => getU us (i + 1)) := ⟨_, rfl⟩
  obtain ⟨fl, hfl⟩ : ∃ x, x = getU us 0 := ⟨_, rfl⟩
  rw [← hrs, ← hfl] at R₄
  rw [← hfl]
  have hrow : ∀ r ∈ rs, RwOk r := by rw [hrs]; exact files_ok _ _
  have hlen : 5 ≤ rs.length ∧ rs.length ≤ 9 := by
    rw [hrs, mkRows_len]
    unfold filesD
    rw [List.length_append, List.length_map, List.length_map]
    have : baseF.length = 5 := rfl
    omega
  have R4 : Rel JB B os dr ([(L, fro (aE1 (fun _ => hs w.params nScript) (fun _ => u 1) sc) 1), (sc, lsto (intV xs) n), (fl, filesO rs)] ++ rowsE rs) 0 s₄ :=
    R₄.perm (show ((sc, lsto (intV xs) n) :: (fl, filesO rs) :: rowsE rs ++ [(L, fro (aE1 (fun _ => hs w.params nScript) (fun _ => u 1) sc) 1)]).Perm _ from
      List.perm_append_comm (l₁ := (sc, lsto (intV xs) n) :: (fl, filesO rs) :: rowsE rs) (l₂ := [_]))
  have hB := R4.rows_none
  have hnd := R4.rows_nd
  have R5 := R4.put
  have hK2 := hK.put hB
  have hK3 := hK2.left
  have hout : ∀ r ∈ rs, lookK (KP w.params) r.a = none := fun r hr => by
    cases hk : lookK (KP w.params) r.a with
    | none => rfl
    | some o => exact absurd (hK _ _ hk) (by rw [hB r hr]; intro h; cases h)
  have ok : RowsOk (KP w.params) rs := ⟨hnd, hout, fun r hr => (hrow r hr).1.mode, fun r hr => (hrow r hr).2, hlen⟩
  refine assign_front2 (fT_eq w) hA' hd14 hK3 (Hp := [_]) R5 (fun v3 => la_s w.params _ _ _ L _ _ 1 sc fl 0 v3) (fun v3 => okD_of _ _ _ _ trivial trivial) fun v3 s₅ R₆ => ?_
  refine wpAny_execs_nil ?_
  obtain ⟨h5, k5, R6⟩ : ∃ h k, Rel JB (putB B rs) os dr ([(L, fro (aE2 h k sc fl) 2), (sc, lsto (intV xs) n)] ++ [(fl, filesO rs)]) 0 s₅ := ⟨_, _, R₆⟩
  clear R₆
  obtain ⟨z0, hz0⟩ : ∃ z, z = (xs.drop (kms_lo none xs.length)).take (kms_hi (some 1) xs.length - kms_lo none xs.length) := ⟨_, rfl⟩
  obtain ⟨z1, hz1⟩ : ∃ z, z = (xs.drop (kms_lo (some 1) xs.length)).take (kms_hi (some 2) xs.length - kms_lo (some 1) xs.length) := ⟨_, rfl⟩
  have hp0 : slicePick ⟨intV xs⟩ none (some 1) none = ⟨intV z0⟩ := by rw [pick_int, ← hz0]
  have hp1 : slicePick ⟨intV xs⟩ (some 1) (some 2) none = ⟨intV z1⟩ := by rw [pick_int, ← hz1]
  obtain ⟨S0, hS0⟩ : ∃ x, x = preSum (numAt z0.toArray) z0.toArray.size := ⟨_, rfl⟩
  obtain ⟨S1, hS1⟩ : ∃ x, x = preSum (numAt z1.toArray) z1.toArray.size := ⟨_, rfl⟩
  have sp0 : ∀ m l, Spec w (KP w.params) 840 JB (.call (.builtin "sum") ⟨[.ref l], []⟩) [(l, lsto (intV z0) 0)] 0 1 (ceSum m S0).f 0 := fun m l => hS0 ▸ specSum m
  have sp1 : ∀ m l, Spec w (KP w.params) 840 JB (.call (.builtin "sum") ⟨[.ref l], []⟩) [(l, lsto (intV z1) 0)] 0 1 (ceSum m S1).f 0 := fun m l => hS1 ▸ specSum m
  have T1 := fun v => la_1 w.params (f1 w) (f2 w) (SP w (KP w.params) 840 JB) L h5 k5 2 sc fl 0 n (intV xs) (intV z0) (intV z1) S0 S1 v
  refine execs_app _ _ (flow_front2 (fT_eq w) hA' hd14 hK3 (Hp := [_, _]) R6 T1 (fun v4 => okD_of _ _ _ _ ⟨specLSl _ .none (.int _ _) .none (by decide) hsz hp0, sp0 _ _, specRul (by omega), specLSl _ (.int _ _) (.int _ _) .none (by decide) hsz hp1, sp1 _ _, specRul (by omega), trivial⟩ trivial) fun v4 s₆ R₇ => ?_)
  obtain ⟨h6, k6, ra, rb, rls, t, t', R7⟩ : ∃ h k ra rb rls t t', Rel JB (putB B rs) os dr [(rls, lsto [.ref ra, .ref rb] 0), (fl, lsto (rs.map fun r => .ref r.a) 0), (ra, lsto (rulV (rA (10 + S0)) (rB (10 + S0)) (rT (10 + S0)) t) 0), (rb, lsto (rulV (rA (1 + S1)) (rB (1 + S1)) (rT (1 + S1)) t') 0), (L, frS (aE3 h k sc fl rls) 3 #[]), (sc, lsto (intV xs) n)] 0 s₆ :=
    ⟨_, _, _, _, _, _, _, R₇.reorder [4, 5, 1, 3, 0, 2] rfl⟩
  clear R₇ T1
  obtain ⟨⟨ya, ha, ha1, ha3⟩, ⟨yb, hb, hb1, hb3⟩, htg⟩ := r_range (10 + S0)
  obtain ⟨⟨ya', ha', ha1', ha3'⟩, ⟨yb', hb', hb1', hb3'⟩, htg'⟩ := r_range (1 + S1)
  generalize rA (10 + S0) = a at ha R7
  generalize rB (10 + S0) = b at hb R7
  generalize rT (10 + S0) = tg at htg R7
  generalize rA (1 + S1) = a' at ha' R7
  generalize rB (1 + S1) = b' at hb' R7
  generalize rT (1 + S1) = tg' at htg' R7
  refine wpAny_execs_cons ?_
  rw [la_2]
  refine wpAny_Return_some ?_
  rw [la_C]
  refine wpAny_Compare1 ?_ (la_mark _)
  rw [la_T]
  refine wpAny_Call_NameR ?_
  refine val_front2 (fT_eq w) hA' hd14 hK3 (Hp := []) R7 (fun w1 => la_t w.params _ _ _ L w1) (fun w1 => okD_of _ _ _ _ trivial trivial) fun w1 s₇ R₈ => ?_
  rw [la_ta]
  have G1 := seen106 w.params
  refine callWith_function_kw (o := objAt (KP w.params) 106) (fd := fd w.params 106) (evalArgs_kw rfl (Calls.spliced_cons ?_))
  have R8 : Rel JB (putB B rs) os dr ([(L, frS (aE3 h6 k6 sc fl rls) 3 #[])] ++ [(rls, lsto [.ref ra, .ref rb] 0), (fl, lsto (rs.map fun r => .ref r.a) 0), (ra, lsto (rulV a b tg t) 0), (rb, lsto (rulV a' b' tg' t') 0), (sc, lsto (intV xs) n)]) 0 s₇ := R₈.reorder [4, 0, 1, 2, 3, 5] rfl
  refine val_front2 (fT_eq w) hA' hd14 hK3 (Hp := [_]) R8 (fun w2 => la_t0 w.params _ _ _ L h6 k6 3 sc fl rls #[] w2) (fun w2 => okD_of _ _ _ _ trivial trivial) fun w2 s₈ R₉ => ?_
  refine Calls.spliced_cons ?_
  refine val_front2 (fT_eq w) hA' hd14 hK3 (Hp := [_]) R₉ (fun w3 => la_t1 w.params _ _ _ L h6 k6 3 sc fl rls #[] w3) (fun w3 => okD_of _ _ _ _ trivial trivial) fun w3 s₉ R10 => ?_
  refine Calls.spliced_nil (wpAny_evalAll_nil ⟨⟨R10.top hK3 G1.a1, G1.a2⟩, ?_⟩)
  have R11 : Rel JB (putB B rs) os dr ((rls, lsto [.ref ra, .ref rb] 0) :: (fl, lsto (rs.map fun r => .ref r.a) 0) :: (ra, lsto (rulV a b tg t) 0) :: (rb, lsto (rulV a' b' tg' t') 0) :: ([(L, frS (aE3 h6 k6 sc fl rls) 3 #[])] ++ [(sc, lsto (intV xs) n)])) 0 s₉ := R10.reorder [1, 2, 3, 4, 0, 5] rfl
  have F : FrsAre [envAt w.params 123 L] [(L, frS (aE3 h6 k6 sc fl rls) 3 #[])] := .cons rfl hek .nil
  refine wpAny_mono (call106 (d := 840) hA6 (by omega) (by omega) hK2 ok hfr' F ha ha1 ha3 hb hb1 hb3 htg ha' ha1' ha3' hb' hb1' hb3' htg' R11 fun lst pg p0 p1 tup mi ac v0 v1 ms as n0 n1 nm na fs' s₁₀ t0 t1 tm ta hsf R12 => ?_) (fun _ _ q => q) fun _ _ q => q.elim
  cases hsf with | @cons _ _ _ _ sl' _ fs1 hs1 =>
  cases hs1
  have l0 : rs.map (tolL ya yb tg) = rs.map (dlL (marksI a b tg)) := List.map_congr_left fun r hr => by rw [ha, hb]; exact (hrow r hr).line ha1 ha3 hb1 hb3 htg
  have l1 : rs.map (tolL ya' yb' tg') = rs.map (dlL (marksI a' b' tg')) := List.map_congr_left fun r hr => by rw [ha', hb']; exact (hrow r hr).line ha1' ha3' hb1' hb3' htg'
  rw [l0, l1, diff_law _ _ hrow] at tm ta
  rw [l0] at t0
  rw [l1] at t1
  rw [la_D]
  refine wpAny_Call_NameR ?_
  have R13 : Rel JB (putB B rs) os dr ([(L, frS (aE3 h6 k6 sc fl rls) 3 sl')] ++ [(rls, lsto [.ref ra, .ref rb] 0), (fl, lsto (rs.map fun r => .ref r.a) 0), (ra, lsto (rulV a b tg t) 0), (rb, lsto (rulV a' b' tg' t') 0), (lst, lsto [.ref pg, .ref tup, .bool true] 0), (pg, lsto [.ref p0, .ref p1] 2), (p0, lsto v0 n0), (p1, lsto v1 n1), (tup, tupO [.ref mi, .ref ac]), (mi, lsto ms nm), (ac, lsto as na), (sc, lsto (intV xs) n)]) 0 s₁₀ :=
    R12.reorder [11, 7, 8, 9, 10, 0, 1, 2, 3, 4, 5, 6, 12] (by kernel_rfl!)
  refine val_front2 (fT_eq w) hA' hd14 hK3 (Hp := []) R13 (fun w4 => la_d w.params _ _ _ L w4) (fun w4 => okD_of _ _ _ _ trivial trivial) fun w4 s₁₁ R14 => ?_
  rw [la_da]
  have G2 := seen116 w.params
  refine callWith_function_kw (o := objAt (KP w.params) 116) (fd := fd w.params 116) (evalArgs_kw rfl (Calls.spliced_cons ?_))
  refine val_front2 (fT_eq w) hA' hd14 hK3 (Hp := [_]) R14 (fun w5 => la_d0 w.params _ _ _ L h6 k6 3 sc fl rls sl' w5) (fun w5 => okD_of _ _ _ _ trivial trivial) fun w5 s₁₂ R15 => ?_
  refine Calls.spliced_cons ?_
  refine val_front2 (fT_eq w) hA' hd14 hK3 (Hp := [_]) R15 (fun w6 => la_d1 w.params _ _ _ L h6 k6 3 sc fl rls sl' w6) (fun w6 => okD_of _ _ _ _ trivial trivial) fun w6 s₁₃ R16 => ?_
  refine Calls.spliced_nil (wpAny_evalAll_nil ⟨⟨R16.top hK3 G2.a1, G2.a2⟩, ?_⟩)
  have R17 : Rel JB (putB B rs) os dr ((rls, lsto [.ref ra, .ref rb] 0) :: (fl, lsto (rs.map fun r => .ref r.a) 0) :: (ra, lsto (rulV a b tg t) 0) :: (rb, lsto (rulV a' b' tg' t') 0) :: [(lst, lsto [.ref pg, .ref tup, .bool true] 0), (pg, lsto [.ref p0, .ref p1] 2), (p0, lsto v0 n0), (p1, lsto v1 n1), (tup, tupO [.ref mi, .ref ac]), (mi, lsto ms nm), (ac, lsto as na), (sc, lsto (intV xs) n)]) 0 s₁₃ :=
    Rel.sel (H := [_, _, _, _, _, _, _, _, _, _, _, _, _]) (T := []) R16 [1, 2, 3, 4, 5, 6, 7, 8, 9, 10, 11, 12] [0] (by kernel_rfl!)
  refine wpAny_mono (call116 (d := 840) hA6 (by omega) (by omega) hK2 ok htg htg' R17 fun lst' pg' p0' p1' tup' mi' ac' v0' v1' ms' as' n0' n1' nm' na' s₁₄ t0' t1' tm' ta' R18 => ?_) (fun _ _ q => q) fun _ _ q => q.elim
  refine eq_answers hu2 t0 t1 tm ta t0' t1' tm' ta' R18 ?_
  have R19 : Rel JB (putB B rs) os dr ((sc, lsto (intV xs) n) :: []) 0 s₁₄ :=
    Rel.sel (H := [_, _, _, _, _, _, _, _, _, _, _, _, _, _, _]) (T := []) R18 [14] [0, 1, 2, 3, 4, 5, 6, 7, 8, 9, 10, 11, 12, 13] (by kernel_rfl!)
  exact hQ [] s₁₄ (R19.unput hB)
end
end Mine
end
-- V67
section
open PySem PySem.Spec PySem.Calls PyProof.Rows PySem.W PySem.W.X PySem.W.ZRun
namespace Mine
theorem lookK_map {F G : Frag} : ∀ {K : Frag}, K.map (fun p => F.lookup p.1) = K.map (fun p => some p.2) → ∀ p ∈ K, F.lookup p.1 = some p.2
  | [], _, p, h => by cases h
  | x :: K, e, p, h => by
    rw [List.map_cons, List.map_cons] at e
    injection e with e1 e2
    rcases List.mem_cons.mp h with rfl | h
    · exact e1
    · exact lookK_map (G := G) e2 p h
theorem kin_of {P : Params} {F : Frag} {h : Heap} (hF : F.In h) (e : (KP P).map (fun p => F.lookup p.1) = (KP P).map (fun p => some p.2)) : KIn (KP P) (fun a => h.get? a) := by
  intro a o hk
  have hm := lookK_mem hk
  exact hF a o (lookK_map (G := F) e (a, o) hm)
theorem ints_pairs : ∀ {vs : List Value} {ns : List Int}, IntsAre vs ns → ∃ xs : List (Int × Nat), vs = intV xs
  | _, _, h => by
    obtain ⟨xs, hx⟩ := h.allInts.items
    refine ⟨xs.toList, ?_⟩
    have := congrArg Array.toList hx
    simp only [intItems] at this
    unfold intV
    simpa using this
/-- the law's call answers True, and leaves all that stood -/
theorem law_true {w : World} {s : Shared} {vs : List Value} {ns : List Int} {Q : Value → Shared → Prop} {E : Value → Shared → Prop} {F : Frag} (hF : F.In s.heap) (e : (KP w.params).map (fun p => F.lookup p.1) = (KP w.params).map (fun p => some p.2))
    (hn : lookK (KP w.params) 124 = none) (ho : s.heap.get? 124 = some { cls := .type "list", data := .seq vs.toArray }) (hi : IntsAre vs ns) (hl : vs.length ≤ 2 ^ 20) (hg : s.gens = #[])
    (hQ : ∀ s', (∀ a o, s.heap.get? a = some o → s'.heap.get? a = some o) → s'.os = s.os → AllBare s'.gens → Q (.bool true) s') :
    wpAny (Mo w) callerA (call (.ref 123) [.ref 124]) Q E s := by
  obtain ⟨xs, rfl⟩ := ints_pairs hi
  have hK := kin_of hF e
  have hbare : AllBare s.gens := by rw [hg]; exact AllBare.empty
  have R0 : Rel JB (fun a => s.heap.get? a) s.os s.drawn [] 0 s := ⟨⟨fun a o h => h, (fun p hp => by cases hp), List.nodup_nil⟩, rfl, rfl, hbare⟩
  have hb : (fun a => s.heap.get? a) 124 = some (lsto (intV xs) 0) := ho
  have R1 := R0.borrow hb
  have hK1 := hK.del hn
  have hsz : (intV xs).length ≤ sizeLine := by rw [sizeLine_eq]; omega
  refine wpAny_mono (law_body (w := w) (A := callerA) (xs := xs) (n := 0) (sc := 124) rfl (by decide) (by decide) rfl hK1 hsz R1 fun H s' R' => ?_) (fun _ _ q => q) fun _ _ q => q.elim
  have R2 := Rel.giveback R' hb
  exact hQ s' R2.own.keep R2.os R2.gh
end Mine
end
open PySem PySem.Spec PySem.Calls PyProof.Rows PySem.W PySem.W.X PySem.W.ZRun
set_option maxHeartbeats 8000000 in
theorem PySem.Challenge.cw_oy0049_01_holds : PySem.Challenge.rw_oy0049_01.Holds := by
  refine Mine.hd ?_
  k_fill
  intro w s₀ s₁ mg mb G y fa o pm cd doc dV kV ho hd hcd hD hmg hg args vals as L hpre hlay hrd hwl hlo
  z_open y L KX ZH ZN ZT
  refine Ground.open G ?_
  intro T B D TE TW
  wrow_args hpre hlay hrd hwl hlo
  obtain ⟨hat, hsz⟩ := script_at L
  have htk := script_toks L ZT
  rw [ZN] at hat hsz
  subst hat
  x_fa T KX hmg
  all_lens
  clear hmg hD hcd hd
  z_lists L
  z_lens
  refine Mine.law_true KX ?_ ?_ (by assumption) (by assumption) ?_ hg (fun s' hk hos hb => ?_)
  · kernel_rfl!
  · kernel_rfl!
  · omega
  · exact ⟨.inl ⟨_, _, [], rfl, (fun _ => rfl), ReadsW.bool true, (by first | rfl | wrow_post), fun _ => ⟨List.nodup_nil, fun _ hm => (nomatch hm)⟩⟩, .of_keep hk, hos, hb⟩
