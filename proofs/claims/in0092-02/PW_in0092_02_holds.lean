import PyProof.Rows.All
import Wide.All
import Open.Line
import OpenK.KCall
import Wide.FinOn
import PyProof.NeKinds
import PyProof.Rows.IntBool
import PyProof.WalkInts
import PyProof.StrLawsIn
import PyProof.ObjNew
import PyProof.InstEq
import PyProof.FactsAll.object_1
import PyProof.Rows.TopObjD
import PyProof.RulesAs
import PyProof.StationsW
import PyProof.NsDelKeeps
import PyProof.ExcStrCall
import PyProof.Rows.Exc
import PyProof.FactsAll.str_4
import PyProof.Rows.Catch
import PyProof.ExcStrAll.ValueError
import PyProof.FString3
import PyProof.Rows.StrIntSpec
import PyProof.EnumMake
import PyProof.EnumFor
import PyProof.SetRoads
import PyProof.SetNew
import PyProof.Rows.SetObj
import PyProof.AutoIntOps
import PyProof.StrBlock2
import KE.KDictOf
import PyProof.Rows.EqNone
import Lean
import PySem.Challenge.RW_in0092_02
set_option Elab.async false
-- part S2
section
open PySem PySem.W
set_option maxRecDepth 100000
namespace Mine
set_option maxHeartbeats 8000000 in
/-- the look at the law's text -/
theorem said2 : OpenLaw.wellSaid PySem.Challenge.rw_in0092_02 = true := by decide +kernel
end Mine
end
-- part T0
section
open PySem
namespace Mine
/-- what comes later has no fewer tokens -/
theorem any_toks {α : Type} {M : Model} {A : Around} {t : Sem α} {Q : α → Shared → Prop} {E : Value → Shared → Prop} {s : Shared}
    (h : wpAny M A t (fun a s' => s.toks ≤ s'.toks → Q a s') (fun e s' => s.toks ≤ s'.toks → E e s') s) : wpAny M A t Q E s :=
  wpAny_with_toks (Nat.le_refl _) h
end Mine
end
-- part C0
section
open PySem PySem.Spec PySem.Calls PyProof.Rows PySem.W
namespace Mine

abbrev FMap := Addr → Option Obj
abbrev Locs := List (Str × Option Value)
abbrev Owns := List (Addr × (Obj → Prop))

def mOf (l : Locs) (x : Str) : Option Value := (l.lookup x).join

theorem mOf_cons_self {x : Str} {o : Option Value} {r : Locs} : mOf ((x, o) :: r) x = o := by simp [mOf, List.lookup]
theorem mOf_cons_ne {x y : Str} {o : Option Value} {r : Locs} (h : y ≠ x) : mOf ((x, o) :: r) y = mOf r y := by
  have : (y == x) = false := beq_eq_false_iff_ne.mpr h
  simp [mOf, List.lookup, this]

inductive Get : Locs → Str → Value → Prop
  | here {x v r} : Get ((x, some v) :: r) x v
  | there {p r x v} : Get r x v → Get (p :: r) x v
inductive Put : Locs → Str → Value → Locs → Prop
  | here {x o v r} : Put ((x, o) :: r) x v ((x, some v) :: r)
  | there {p r x v r'} : Put r x v r' → Put (p :: r) x v (p :: r')

theorem Get.mem {l x v} (h : Get l x v) : (x, some v) ∈ l := by
  induction h with
  | here => exact .head _
  | there _ ih => exact .tail _ ih
theorem mOf_of_mem : ∀ {l : Locs} {x v}, (l.map (·.1)).Nodup → (x, some v) ∈ l → mOf l x = some v
  | [], _, _, _, h => nomatch h
  | (y, o) :: r, x, v, hn, h => by
    rw [List.map_cons, List.nodup_cons] at hn
    cases h with
    | head => exact mOf_cons_self
    | tail _ h =>
      have : x ≠ y := fun e => hn.1 (e ▸ List.mem_map_of_mem (f := (·.1)) h)
      rw [mOf_cons_ne this]; exact mOf_of_mem hn.2 h
theorem Get.mOf {l x v} (h : Get l x v) (hn : (l.map (·.1)).Nodup) : mOf l x = some v := mOf_of_mem hn h.mem
theorem Put.keys {l x v l'} (h : Put l x v l') : l'.map (·.1) = l.map (·.1) := by
  induction h with
  | here => rfl
  | there _ ih => simp [ih]
theorem Put.mem {l x v l'} (h : Put l x v l') : x ∈ l.map (·.1) := by
  induction h with
  | here => simp
  | there _ ih => simp at ih ⊢; exact .inr ih
theorem Put.mOf {l x v l'} (h : Put l x v l') : (l.map (·.1)).Nodup → Mine.mOf l' = fun y => if y = x then some v else Mine.mOf l y := by
  induction h with
  | @here x o v r =>
    intro _; funext y
    by_cases e : y = x
    · subst e; simp [mOf_cons_self]
    · rw [if_neg e, mOf_cons_ne e, mOf_cons_ne e]
  | @there p r x v r' h ih =>
    intro hn
    rw [List.map_cons, List.nodup_cons] at hn
    obtain ⟨z, o⟩ := p
    funext y
    have hx : x ≠ z := fun e => hn.1 (e ▸ h.mem)
    by_cases e : y = z
    · subst e; rw [mOf_cons_self, mOf_cons_self, if_neg (Ne.symm hx)]
    · rw [mOf_cons_ne e, mOf_cons_ne e, ih hn.2]

/-- what stands fixed while one frame runs -/
structure Fx where
  p : Program
  loose : List Str
  mean : ExcName → Option Value
  mg : Str → Option Value
  mb : Str → Option Value
  env : Env
  h0 : Heap
  B0 : FMap
  gens : Array GenState
  os : OsState
  drawn : Drawn

def Sub (B B' : FMap) : Prop := ∀ b o, B b = some o → B' b = some o
theorem Sub.refl (B : FMap) : Sub B B := fun _ _ h => h
theorem Sub.trans {B B' B'' : FMap} (h : Sub B B') (h' : Sub B' B'') : Sub B B'' := fun b o e => h' b o (h b o e)
def Keep (h h' : Heap) : Prop := ∀ b o, h.get? b = some o → h'.get? b = some o
theorem Keep.refl (h : Heap) : Keep h h := fun _ _ e => e
theorem Keep.trans {a b c : Heap} (h : Keep a b) (h' : Keep b c) : Keep a c := fun x o e => h' x o (h x o e)

/-- what is frozen stands in the heap -/
structure Fz (B : FMap) (h : Heap) : Prop where
  fz : ∀ b o, B b = some o → h.get? b = some o
  low : ∀ b o, B b = some o → b ≠ sysModules

/-- nothing that stood is turned; the frozen part has grown by new objects alone -/
structure Grow (B : FMap) (s : Shared) (B' : FMap) (s' : Shared) : Prop where
  sub : Sub B B'
  fz : ∀ b o, B' b = some o → s'.heap.get? b = some o
  low : ∀ b o, B' b = some o → b ≠ sysModules
  keep : Keep s.heap s'.heap
  new : ∀ b o, B' b = some o → B b = some o ∨ s.heap.get? b = none
  gens : s'.gens = s.gens
  os : s'.os = s.os
  drawn : s'.drawn = s.drawn
  tk : 0 < s'.toks

structure St (X : Fx) (B : FMap) (O : Owns) (l : Locs) (s : Shared) : Prop where
  ns : s.heap.Ns X.env.locals (mOf l)
  nd : (l.map (·.1)).Nodup
  kind : ∀ x ∈ l.map (·.1), X.env.kindOf x = some .local ∧ (x == ("__debug__" : Str)) = false
  fn : X.env.scope.kind = .function
  gl : X.env.globals = mainGlobals
  bl : X.env.builtins = builtinsNs
  top : Top X.p X.loose X.mean X.mg X.mb X.h0
  kept : Keep X.h0 s.heap
  offh : X.h0.get? X.env.locals = none
  fz : ∀ b o, B b = some o → s.heap.get? b = some o
  low : ∀ b o, B b = some o → b ≠ sysModules
  lowO : ∀ q ∈ O, q.1 ≠ sysModules
  b0 : Sub X.B0 B
  new : ∀ b o, B b = some o → X.B0 b = some o ∨ X.h0.get? b = none
  offL : B X.env.locals = none
  own : ∀ q ∈ O, (∃ o, s.heap.get? q.1 = some o ∧ q.2 o) ∧ q.1 ≠ X.env.locals ∧ B q.1 = none ∧ X.h0.get? q.1 = none
  apart : (O.map (·.1)).Nodup
  gens : s.gens = X.gens
  os : s.os = X.os
  drawn : s.drawn = X.drawn
  tk : 0 < s.toks

section
variable {X : Fx} {B B' : FMap} {O : Owns} {l l' : Locs} {s s' : Shared} {prog : Program} {w : World} {A : Around} {E : Value → Shared → Prop}

theorem tk_self (H : St X B O l s) : 0 < s.toks := H.tk
/-- a heap that keeps all: St stays -/
theorem St.to (H : St X B O l s) (hk : Keep s.heap s'.heap) (hg : s'.gens = s.gens) (ho : s'.os = s.os) (hd : s'.drawn = s.drawn) (hn : 0 < s'.toks := by first | exact Nat.succ_pos _ | assumption | exact tk_self (by assumption) | (refine Nat.lt_of_lt_of_le (tk_self (by assumption)) ?_; first | assumption | exact Nat.le_refl _ | omega)) : St X B O l s' where
  ns := H.ns.keeps hk
  nd := H.nd
  kind := H.kind
  fn := H.fn
  gl := H.gl
  bl := H.bl
  top := H.top
  kept := H.kept.trans hk
  offh := H.offh
  fz := fun b o e => hk b o (H.fz b o e)
  low := H.low
  lowO := H.lowO
  b0 := H.b0
  new := H.new
  offL := H.offL
  own := fun q hq => let ⟨⟨o, ho, hp⟩, r⟩ := H.own q hq; ⟨⟨o, hk _ _ ho, hp⟩, r⟩
  apart := H.apart
  gens := hg.trans H.gens
  os := ho.trans H.os
  drawn := hd.trans H.drawn
  tk := hn
theorem St.keeps (H : St X B O l s) {h' : Heap} {n : Tok} (hk : Keep s.heap h') (hn : 0 < n := by first | exact Nat.succ_pos _ | assumption | exact tk_self (by assumption) | (refine Nat.lt_of_lt_of_le (tk_self (by assumption)) ?_; first | assumption | exact Nat.le_refl _ | omega)) : St X B O l { s with heap := h', toks := n } := H.to (s' := { s with heap := h', toks := n }) hk rfl rfl rfl hn
theorem St.tok (H : St X B O l s) {n : Tok} (hn : 0 < n := by first | exact Nat.succ_pos _ | assumption | exact tk_self (by assumption) | (refine Nat.lt_of_lt_of_le (tk_self (by assumption)) ?_; first | assumption | exact Nat.le_refl _ | omega)) : St X B O l { s with toks := n } := H.to (s' := { s with toks := n }) (Keep.refl _) rfl rfl rfl hn
theorem keep_push (h : Heap) (o : Obj) : Keep h (h.push o) := fun _ _ e => Heap.get?_push_of_some o e
theorem St.pushed (H : St X B O l s) {o : Obj} {n : Tok} (hn : 0 < n := by first | exact Nat.succ_pos _ | assumption | exact tk_self (by assumption) | (refine Nat.lt_of_lt_of_le (tk_self (by assumption)) ?_; first | assumption | exact Nat.le_refl _ | omega)) : St X B O l { s with heap := s.heap.push o, toks := n } := H.keeps (keep_push _ _) hn

theorem none_of_le {h : Heap} {a : Addr} (e : h.objs.size ≤ a) : h.get? a = none := by
  cases q : h.get? a with
  | none => rfl
  | some o => exact absurd (Heap.lt_size q) (Nat.not_lt.mpr e)
theorem none_of_keep {h h' : Heap} (k : Keep h h') {a : Addr} (e : h'.get? a = none) : h.get? a = none := by
  cases q : h.get? a with
  | none => rfl
  | some o => rw [k _ _ q] at e; cases e
theorem St.Lsome (H : St X B O l s) : ∃ o, s.heap.get? X.env.locals = some o := let ⟨o, _, _, h, _⟩ := H.ns; ⟨o, h⟩
theorem St.Bnone (H : St X B O l s) {a : Addr} (e : s.heap.get? a = none) : B a = none := by
  cases q : B a with
  | none => rfl
  | some o => rw [H.fz _ _ q] at e; cases e

theorem St.sysm (H : St X B O l s) : sysModules < s.heap.objs.size := modules_low (H.top.nolimit.keeps H.kept)
theorem St.fzIn (H : St X B O l s) : Fz B s.heap := ⟨H.fz, H.low⟩

/-- a new object, frozen from its first day -/
theorem St.push (H : St X B O l s) {o : Obj} (hf : o.isFreed = false) {n : Tok} (hn : 0 < n := by first | exact Nat.succ_pos _ | assumption | exact tk_self (by assumption) | (refine Nat.lt_of_lt_of_le (tk_self (by assumption)) ?_; first | assumption | exact Nat.le_refl _ | omega)) :
    ∃ B', Sub B B' ∧ B' s.heap.objs.size = some o ∧ St X B' O l { s with heap := s.heap.push o, toks := n } := by
  have hN := none_of_le (h := s.heap) (Nat.le_refl _)
  have hB := H.Bnone hN
  have H' : St X B O l { s with heap := s.heap.push o, toks := n } := H.pushed
  have neq : ∀ {b : Addr} {o' : Obj}, s.heap.get? b = some o' → b ≠ s.heap.objs.size := fun e q => by rw [q, hN] at e; cases e
  refine ⟨fun b => if b = s.heap.objs.size then some o else B b, fun b o' e => ?_, if_pos rfl, { H' with fz := fun b o' e => ?_, low := fun b o' e => ?_, b0 := fun b o' e => ?_, new := fun b o' e => ?_, offL := ?_, own := fun q hq => ?_ }⟩
  · show (if b = _ then _ else _) = _
    rw [if_neg (neq (H.fz _ _ e))]; exact e
  · by_cases q : b = s.heap.objs.size
    · subst q; rw [if_pos rfl] at e; cases e; exact Heap.get?_push_size _ hf
    · rw [if_neg q] at e; exact H'.fz _ _ e
  · by_cases q : b = s.heap.objs.size
    · subst q; exact Nat.ne_of_gt H.sysm
    · rw [if_neg q] at e; exact H.low _ _ e
  · show (if b = _ then _ else _) = _
    rw [if_neg (neq (H.fz _ _ (H.b0 _ _ e)))]; exact H.b0 _ _ e
  · by_cases q : b = s.heap.objs.size
    · subst q; exact .inr (none_of_keep H.kept hN)
    · rw [if_neg q] at e; exact H.new _ _ e
  · obtain ⟨oL, hL⟩ := H.Lsome
    show (if _ = _ then _ else _) = _
    rw [if_neg (neq hL)]; exact H.offL
  · obtain ⟨⟨oq, h1, h2⟩, h3, h4, h5⟩ := H'.own q hq
    refine ⟨⟨oq, h1, h2⟩, h3, ?_, h5⟩
    obtain ⟨⟨oq', h1', _⟩, _⟩ := H.own q hq
    show (if _ = _ then _ else _) = _
    rw [if_neg (neq h1')]; exact h4

/-- a new object, owned: it may be turned -/
theorem St.pushO (H : St X B O l s) {o : Obj} (hf : o.isFreed = false) {n : Tok} {P : Obj → Prop} (hP : P o) (hn : 0 < n := by first | exact Nat.succ_pos _ | assumption | exact tk_self (by assumption) | (refine Nat.lt_of_lt_of_le (tk_self (by assumption)) ?_; first | assumption | exact Nat.le_refl _ | omega)) :
    St X B ((s.heap.objs.size, P) :: O) l { s with heap := s.heap.push o, toks := n } := by
  have hN := none_of_le (h := s.heap) (Nat.le_refl _)
  have H' : St X B O l { s with heap := s.heap.push o, toks := n } := H.pushed
  have neq : ∀ {b : Addr} {o' : Obj}, s.heap.get? b = some o' → b ≠ s.heap.objs.size := fun e q => by rw [q, hN] at e; cases e
  obtain ⟨oL, hL⟩ := H.Lsome
  refine { H' with lowO := fun q hq => ?_, own := fun q hq => ?_, apart := ?_ }
  · rcases List.mem_cons.mp hq with rfl | hq
    · exact Nat.ne_of_gt H.sysm
    · exact H.lowO q hq
  · rcases List.mem_cons.mp hq with rfl | hq
    · exact ⟨⟨o, Heap.get?_push_size _ hf, hP⟩, Ne.symm (neq hL), H.Bnone hN, none_of_keep H.kept hN⟩
    · exact H'.own q hq
  · rw [List.map_cons, List.nodup_cons]
    refine ⟨fun hm => ?_, H.apart⟩
    obtain ⟨q, hq, e⟩ := List.mem_map.mp hm
    obtain ⟨⟨oq, h1, _⟩, _⟩ := H.own q hq
    exact neq h1 e

/-- an owned object is turned -/
theorem St.turn (H : St X B O l s) {O₁ O₂ : Owns} {a : Addr} {P P' : Obj → Prop} (hO : O = O₁ ++ (a, P) :: O₂) {h' : Heap} {n : Tok} (hs : ∀ b o, b ≠ a → s.heap.get? b = some o → h'.get? b = some o)
    {o' : Obj} (ho : h'.get? a = some o') (hP : P' o') (hn : 0 < n := by first | exact Nat.succ_pos _ | assumption | exact tk_self (by assumption) | (refine Nat.lt_of_lt_of_le (tk_self (by assumption)) ?_; first | assumption | exact Nat.le_refl _ | omega)) : St X B (O₁ ++ (a, P') :: O₂) l { s with heap := h', toks := n } := by
  subst hO
  obtain ⟨_, haL, haB, hah⟩ := H.own (a, P) (by simp)
  have hap := H.apart
  rw [List.map_append, List.map_cons] at hap
  have hn1 : ∀ q ∈ O₁, q.1 ≠ a := fun q hq e => (List.nodup_append.mp hap).2.2 q.1 (List.mem_map_of_mem hq) a (.head _) e
  have hn2 : ∀ q ∈ O₂, q.1 ≠ a := fun q hq e => (List.nodup_cons.mp (List.nodup_append.mp hap).2.1).1 (by rw [← e]; exact List.mem_map_of_mem (f := (·.1)) hq)
  refine { H with tk := hn, ns := ?_, kept := fun b o e => hs b o (fun q => ?_) (H.kept _ _ e), fz := fun b o e => hs b o (fun q => ?_) (H.fz _ _ e), lowO := fun q hq => ?_, own := fun q hq => ?_, apart := ?_ }
  rotate_left 3
  · rcases List.mem_append.mp hq with hq | hq
    · exact H.lowO q (List.mem_append_left _ hq)
    · rcases List.mem_cons.mp hq with rfl | hq
      · exact H.lowO (a, P) (by simp)
      · exact H.lowO q (List.mem_append_right _ (.tail _ hq))
  rotate_left 2
  · exact H.ns.extBut (b := a) (fun b o hb e => hs b o hb e) (Ne.symm haL)
  · rw [q, hah] at e; cases e
  · rw [q, haB] at e; cases e
  · rcases List.mem_append.mp hq with hq | hq
    · obtain ⟨⟨oq, h1, h2⟩, r⟩ := H.own q (List.mem_append_left _ hq)
      exact ⟨⟨oq, hs _ _ (hn1 q hq) h1, h2⟩, r⟩
    · rcases List.mem_cons.mp hq with rfl | hq
      · exact ⟨⟨o', ho, hP⟩, haL, haB, hah⟩
      · obtain ⟨⟨oq, h1, h2⟩, r⟩ := H.own q (List.mem_append_right _ (.tail _ hq))
        exact ⟨⟨oq, hs _ _ (hn2 q hq) h1, h2⟩, r⟩
  · rw [List.map_append, List.map_cons]; exact hap

/-- an owned object is let go -/
theorem St.drop (H : St X B O l s) {O₁ O₂ : Owns} {a : Addr} {P : Obj → Prop} (hO : O = O₁ ++ (a, P) :: O₂) : St X B (O₁ ++ O₂) l s := by
  subst hO
  have hap := H.apart
  rw [List.map_append, List.map_cons] at hap
  have h3 := List.nodup_append.mp hap
  refine { H with lowO := fun q hq => H.lowO q ?_, own := fun q hq => H.own q ?_, apart := ?_ }
  · rcases List.mem_append.mp hq with hq | hq
    · exact List.mem_append_left _ hq
    · exact List.mem_append_right _ (.tail _ hq)
  · rcases List.mem_append.mp hq with hq | hq
    · exact List.mem_append_left _ hq
    · exact List.mem_append_right _ (.tail _ hq)
  · rw [List.map_append]
    exact List.nodup_append.mpr ⟨h3.1, (List.nodup_cons.mp h3.2.1).2, fun x hx y hy => h3.2.2 x hx y (.tail _ hy)⟩

/-- an owned object is frozen -/
theorem St.freeze (H : St X B O l s) {O₁ O₂ : Owns} {a : Addr} {P : Obj → Prop} (hO : O = O₁ ++ (a, P) :: O₂) :
    ∃ B' o, Sub B B' ∧ B' a = some o ∧ P o ∧ St X B' (O₁ ++ O₂) l s := by
  have H2 := H.drop hO
  subst hO
  obtain ⟨⟨o, ho, hp⟩, haL, haB, hah⟩ := H.own (a, P) (by simp)
  have hap := H.apart
  rw [List.map_append, List.map_cons] at hap
  have h3 := List.nodup_append.mp hap
  refine ⟨fun b => if b = a then some o else B b, o, fun b o' e => ?_, if_pos rfl, hp, { H2 with fz := fun b o' e => ?_, low := fun b o' e => ?_, b0 := fun b o' e => ?_, new := fun b o' e => ?_, offL := ?_, own := fun q hq => ?_ }⟩
  · show (if b = a then _ else _) = _
    rw [if_neg (fun q => by rw [q, haB] at e; cases e)]; exact e
  · by_cases q : b = a
    · subst q; rw [if_pos rfl] at e; cases e; exact ho
    · rw [if_neg q] at e; exact H.fz _ _ e
  · by_cases q : b = a
    · subst q; exact H.lowO _ (by simp : (b, P) ∈ O₁ ++ (b, P) :: O₂)
    · rw [if_neg q] at e; exact H.low _ _ e
  · show (if b = a then _ else _) = _
    rw [if_neg (fun q => by have := H.b0 _ _ e; rw [q, haB] at this; cases this)]; exact H.b0 _ _ e
  · by_cases q : b = a
    · subst q; exact .inr hah
    · rw [if_neg q] at e; exact H.new _ _ e
  · show (if _ = a then _ else _) = _
    rw [if_neg (Ne.symm haL)]; exact H.offL
  · obtain ⟨h1, h2, h4, h5⟩ := H2.own q hq
    refine ⟨h1, h2, ?_, h5⟩
    show (if q.1 = a then _ else _) = _
    rw [if_neg fun e => ?_]; · exact h4
    rcases List.mem_append.mp hq with hq | hq
    · exact h3.2.2 q.1 (List.mem_map_of_mem hq) a (.head _) e
    · exact (List.nodup_cons.mp h3.2.1).1 (by rw [← e]; exact List.mem_map_of_mem (f := (·.1)) hq)

/-- a call came back: it turned nothing that stood -/
theorem St.grow (H : St X B O l s) (G : Grow B s B' s') : St X B' O l s' := by
  have H' : St X B O l s' := H.to G.keep G.gens G.os G.drawn G.tk
  refine { H' with fz := G.fz, low := G.low, b0 := fun b o e => G.sub _ _ (H.b0 _ _ e), new := fun b o e => ?_, offL := ?_, own := fun q hq => ?_ }
  · rcases G.new _ _ e with h | h
    · exact H.new _ _ h
    · exact .inr (none_of_keep H.kept h)
  · cases q : B' X.env.locals with
    | none => rfl
    | some o =>
      rcases G.new _ _ q with h | h
      · rw [H.offL] at h; cases h
      · obtain ⟨oL, hL⟩ := H.Lsome; rw [hL] at h; cases h
  · obtain ⟨h1, h2, h3, h4⟩ := H'.own q hq
    refine ⟨h1, h2, ?_, h4⟩
    cases e : B' q.1 with
    | none => rfl
    | some o =>
      rcases G.new _ _ e with h | h
      · rw [h3] at h; cases h
      · obtain ⟨⟨oq, hq1, _⟩, _⟩ := H.own q hq; rw [hq1] at h; cases h

/-- what the caller learns of a call whose frame was X, begun at s₀ with all of its heap kept -/
theorem St.back (H : St X B O l s) {s₀ : Shared} (h0 : X.h0 = s₀.heap) (hg : X.gens = s₀.gens) (ho : X.os = s₀.os) (hd : X.drawn = s₀.drawn) : Grow X.B0 s₀ B s :=
  ⟨H.b0, H.fz, H.low, h0 ▸ H.kept, fun b o e => h0 ▸ H.new b o e, H.gens.trans hg, H.os.trans ho, H.drawn.trans hd, H.tk⟩

theorem w_store {x : Str} {v : Value} {Q : Unit → Shared → Prop} (H : St X B O l s) (hp : Put l x v l') (h : ∀ s', St X B O l' s' → Q () s') :
    wpAny (model prog w) A (storeName X.env x v) Q E s := by
  refine wpAny_storeName_local (H.kind x hp.mem).1 H.ns (fun h' hn hs => h _ ?_) (by rw [H.fn]; rfl)
  rw [← hp.mOf H.nd] at hn
  have ne : ∀ {b : Addr}, (b = X.env.locals → False) → ∀ {o : Obj}, s.heap.get? b = some o → h'.get? b = some o := fun hb _ e => (hs.2 _ hb).trans e
  exact { H with tk := Nat.succ_pos _, ns := hn, nd := by rw [hp.keys]; exact H.nd, kind := by rw [hp.keys]; exact H.kind, kept := fun b o e => ne (fun q => by rw [q, H.offh] at e; cases e) (H.kept _ _ e), fz := fun b o e => ne (fun q => by rw [q, H.offL] at e; cases e) (H.fz _ _ e), own := fun q hq => let ⟨⟨o, h1, h2⟩, h3, r⟩ := H.own q hq; ⟨⟨o, ne h3 h1, h2⟩, h3, r⟩ }
theorem w_load {x : Str} {v : Value} {Q : Value → Shared → Prop} (H : St X B O l s) (hp : Get l x v) (h : Q v s) : wpAny (model prog w) A (loadName X.env x) Q E s :=
  wpAny_loadName_local H.fn (H.kind x (List.mem_map_of_mem (f := (·.1)) hp.mem)).1 H.ns (hp.mOf H.nd) h
theorem w_local {x : Str} {pos : Pos} {v : Value} {Q : Value → Shared → Prop} (H : St X B O l s) (hp : Get l x v) (h : Q v s) :
    wpAny (model prog w) A (eval (.Name x pos) X.env) Q E s := wpAny_Name (w_load H hp h) (H.kind x (List.mem_map_of_mem (f := (·.1)) hp.mem)).2

theorem St.ns_g (H : St X B O l s) : s.heap.Ns X.env.globals X.mg := by rw [H.gl]; exact H.top.g.keeps H.kept
theorem St.ns_b (H : St X B O l s) : s.heap.Ns X.env.builtins X.mb := by rw [H.bl]; exact H.top.b.keeps H.kept

theorem w_glob {x : Str} {pos : Pos} {v : Value} {Q : Value → Shared → Prop} (H : St X B O l s) (hx : X.env.kindOf x = some .globalImplicit) (hg : X.mg x = some v) (h : Q v s) (hd : (x == ("__debug__" : Str)) = false := by decide) :
    wpAny (model prog w) A (eval (.Name x pos) X.env) Q E s := Name_function_global H.fn hx (loadGlobal_global H.ns_g hg h) hd
theorem w_builtin {x : Str} {pos : Pos} {v : Value} {Q : Value → Shared → Prop} (H : St X B O l s) (hx : X.env.kindOf x = some .globalImplicit) (hg : X.mg x = none) (hv : bootBuiltins x = some v) (hn : x ≠ "__name__") (h : Q v s)
    (hd : (x == ("__debug__" : Str)) = false := by decide) : wpAny (model prog w) A (eval (.Name x pos) X.env) Q E s :=
  Name_function_global H.fn hx (loadGlobal_builtin H.ns_g hg H.ns_b ((H.top.builtins x hn).trans hv) h) hd

end
end Mine
end
-- part C1
section
open PySem PySem.Spec PySem.Calls PyProof.Rows PySem.W
namespace Mine

/-- a text by its signs -/
def S (l : List Nat) : Str := ⟨l.toArray⟩
@[simp] theorem S_length (l : List Nat) : (S l).length = l.length := by simp [S, Str.length]
theorem S_append (a b : List Nat) : S a ++ S b = S (a ++ b) := by
  show Str.mk (a.toArray ++ b.toArray) = Str.mk (a ++ b).toArray
  rw [List.append_toArray]
theorem S_toList (l : List Nat) : (S l).cps.toList = l := rfl
theorem S_inj {a b : List Nat} : S a = S b ↔ a = b := by
  constructor
  · intro h; have := congrArg (fun x : Str => x.cps.toList) h; simpa [S] using this
  · intro h; rw [h]
theorem S_beq (a b : List Nat) : (S a == S b) = (a == b) := by
  by_cases h : a = b
  · subst h; rw [beq_self_eq_true, beq_self_eq_true]
  · have : ¬ S a = S b := fun e => h (S_inj.mp e)
    rw [beq_eq_false_iff_ne.mpr this, beq_eq_false_iff_ne.mpr h]
theorem S_bne (a b : List Nat) : (S a != S b) = (a != b) := by unfold bne; rw [S_beq]
theorem S_eta (x : Str) : S x.cps.toList = x := by cases x; simp [S]

section
variable {M : Model} {A : Around} {E : Value → Shared → Prop} {env : Env} {s : Shared}

theorem ite_tt' {a b : Prop} (h : a) : if true = true then a else b := by simpa using h
theorem ite_ff' {a b : Prop} (h : b) : if false = true then a else b := by simpa using h
theorem ite_t {c : Bool} {a b : Prop} (hc : c = true) (h : a) : if c = true then a else b := by rw [if_pos hc]; exact h
theorem ite_f {c : Bool} {a b : Prop} (hc : c = false) (h : b) : if c = true then a else b := by rw [hc]; simpa using h
theorem ite_b {c : Bool} {a b : Prop} (h1 : c = true → a) (h2 : c = false → b) : if c = true then a else b := by
  cases c with
  | true => simpa using h1 rfl
  | false => simpa using h2 rfl


def Then (M : Model) (A : Around) (E : Value → Shared → Prop) (rest : List Stmt) (env : Env) (Q : Flow → Shared → Prop) (f : Flow) (s' : Shared) : Prop :=
  match f with | .next => wpAny M A (execs rest env) Q E s' | f => Q f s'
variable {rest : List Stmt} {Q : Flow → Shared → Prop}
theorem then_next (h : wpAny M A (execs rest env) Q E s) : Then M A E rest env Q .next s := h
theorem then_ret {v : Value} (h : Q (.ret v) s) : Then M A E rest env Q (.ret v) s := h
theorem x_nil (h : Q .next s) : wpAny M A (execs [] env) Q E s := wpAny_execs_nil h
theorem x_assign {x : Str} {pp pos : Pos} {value : Expr} (h : wpAny M A (eval value env) (fun v s₁ => wpAny M A (storeName env x v) (fun _ s₂ => wpAny M A (execs rest env) Q E s₂) E s₁) E s)
    (hs : swapsWith value (some (.Name x pp)) pos.line env = pure false := by rfl) : wpAny M A (execs (.Assign [.Name x pp] value pos :: rest) env) Q E s :=
  wpAny_execs_cons (wpAny_Assign_Name h hs)
theorem x_aug {x : Str} {pp pos : Pos} {op : Operator} {value : Expr}
    (h : wpAny M A (loadName env x) (fun old s₁ => wpAny M A (eval value env) (fun v s₂ => wpAny M A (inplaceOp op old v) (fun r s₃ => wpAny M A (storeName env x r) (fun _ s₄ => wpAny M A (execs rest env) Q E s₄) E s₃) E s₂) E s₁) E s) :
    wpAny M A (execs (.AugAssign (.Name x pp) op value pos :: rest) env) Q E s := wpAny_execs_cons (wpAny_AugAssign_Name h)
theorem x_if {test : Expr} {body orelse : List Stmt} {pos : Pos}
    (h : wpAny M A (isTrue test env (eval test env)) (fun c s₂ => if c = true then wpAny M A (execs body env) (Then M A E rest env Q) E s₂ else wpAny M A (execs orelse env) (Then M A E rest env Q) E s₂) E s) :
    wpAny M A (execs (.If test body orelse pos :: rest) env) Q E s := wpAny_execs_cons (wpAny_If h)
theorem x_gen {st a : Stmt} {tl : List Stmt} (h : ∀ rest, rest = a :: tl → wpAny M A (execs (st :: rest) env) Q E s) : wpAny M A (execs (st :: a :: tl) env) Q E s := h _ rfl
theorem x_rest {tl : List Stmt} (e : rest = tl) (h : wpAny M A (execs tl env) Q E s) : wpAny M A (execs rest env) Q E s := by rw [e]; exact h
theorem x_ifG {test : Expr} {body orelse : List Stmt} {pos : Pos}
    (h : ∀ bd ob, bd = body → ob = orelse → wpAny M A (isTrue test env (eval test env)) (fun c s₂ => if c = true then wpAny M A (execs bd env) (Then M A E rest env Q) E s₂ else wpAny M A (execs ob env) (Then M A E rest env Q) E s₂) E s) :
    wpAny M A (execs (.If test body orelse pos :: rest) env) Q E s := x_if (h _ _ rfl rfl)
theorem x_ret {e : Expr} {pos : Pos} (h : wpAny M A (eval e env) (fun v s' => Q (.ret v) s') E s) : wpAny M A (execs (.Return (some e) pos :: rest) env) Q E s :=
  wpAny_execs_cons (wpAny_Return_some h)
theorem x_expr {prog : Program} {w : World} {e : Expr} {pos : Pos} (hk : env.scope.kind = .function)
    (h : wpAny (model prog w) A (eval e env) (fun _ s' => wpAny (model prog w) A (execs rest env) Q E s') E s)
    (hs : swapsWith e none pos.line env = pure false := by rfl) : wpAny (model prog w) A (execs (.Expr e pos :: rest) env) Q E s :=
  wpAny_execs_cons (wpAny_Expr_any h (by unfold interactive; rw [hk]; rfl) hs)
theorem x_pass {pos : Pos} (h : wpAny M A (execs rest env) Q E s) : wpAny M A (execs (.Pass pos :: rest) env) Q E s := wpAny_execs_cons (wpAny_Pass h)
end

section
variable {X : Fx} {B B' : FMap} {O : Owns} {l l' : Locs} {s s' : Shared} {prog : Program} {w : World} {A : Around} {E : Value → Shared → Prop} {Q : Value → Shared → Prop} {env : Env}

theorem c_int {i : Int} {k : Nat} {pos : Pos} (H : St X B O l s) (h : ∀ t s', St X B O l s' → Q (.int i t) s') : wpAny (model prog w) A (eval (.Constant (.int i) k pos) env) Q E s := wpAny_Constant_int (h _ _ H.tok)
theorem c_str {x : Str} {k : Nat} {pos : Pos} (H : St X B O l s) (h : ∀ t s', St X B O l s' → Q (.str x t) s') : wpAny (model prog w) A (eval (.Constant (.str x) k pos) env) Q E s := wpAny_Constant_str (h _ _ H.tok)
theorem b_add {a b : Int} {t u : Tok} (H : St X B O l s) (h : ∀ t s', St X B O l s' → Q (.int (a + b) t) s') : wpAny (model prog w) A (binaryOp .Add (.int a t) (.int b u)) Q E s := add_int (h _ _ H.tok)
theorem b_sub {a b : Int} {t u : Tok} (H : St X B O l s) (h : ∀ t s', St X B O l s' → Q (.int (a - b) t) s') : wpAny (model prog w) A (binaryOp .Sub (.int a t) (.int b u)) Q E s := sub_int (h _ _ H.tok)
theorem b_mul {a b : Int} {t u : Tok} (H : St X B O l s) (hm : IntMulOk a b) (h : ∀ t s', St X B O l s' → Q (.int (a * b) t) s') : wpAny (model prog w) A (binaryOp .Mult (.int a t) (.int b u)) Q E s := mul_int (h _ _ H.tok) hm
theorem i_add {a b : Int} {t u : Tok} (H : St X B O l s) (h : ∀ t s', St X B O l s' → Q (.int (a + b) t) s') : wpAny (model prog w) A (inplaceOp .Add (.int a t) (.int b u)) Q E s := iadd_int (h _ _ H.tok)
theorem b_cat {a b : List Nat} {t u : Tok} (H : St X B O l s) (hz : a.length + b.length ≤ sizeLine) (h : ∀ t s', St X B O l s' → Q (.str (S (a ++ b)) t) s') : wpAny (model prog w) A (binaryOp .Add (.str (S a) t) (.str (S b) u)) Q E s :=
  any_toks (add_str (fun t' tk (hle : s.toks ≤ tk) => by rw [S_append]; exact h _ _ H.tok) (by simpa using hz))
theorem i_cat {a b : List Nat} {t u : Tok} (H : St X B O l s) (hz : a.length + b.length ≤ sizeLine) (h : ∀ t s', St X B O l s' → Q (.str (S (a ++ b)) t) s') : wpAny (model prog w) A (inplaceOp .Add (.str (S a) t) (.str (S b) u)) Q E s :=
  any_toks (iadd_str (fun t' tk (hle : s.toks ≤ tk) => by rw [S_append]; exact h _ _ H.tok) (by simpa using hz))
theorem q_eq {a b : List Nat} {t u : Tok} (h : Q (.bool (a == b)) s) : wpAny (model prog w) A (compareOp .Eq (.str (S a) t) (.str (S b) u)) Q E s := eq_str (by rw [S_beq]; exact h)
theorem q_ne {a b : List Nat} {t u : Tok} (h : Q (.bool (a != b)) s) : wpAny (model prog w) A (compareOp .NotEq (.str (S a) t) (.str (S b) u)) Q E s := ne_str (by rw [S_bne]; exact h)
theorem fits_small {i : Int} (h0 : -9223372036854775808 ≤ i) (h1 : i < 9223372036854775808) : (decide (i < -(2 ^ 63 : Int)) || decide (i ≥ 2 ^ 63)) = false := by
  simp only [Bool.or_eq_false_iff, decide_eq_false_iff_not]
  omega
theorem seqIndex_nat {i n : Nat} (h : i < n) : seqIndex? (i : Int) n = some i := by
  unfold seqIndex?
  have h1 : ¬ ((i : Int) < 0) := by omega
  simp only [h1, if_false]
  simp [h]
/-- text[i] -/
theorem e_item {a : List Nat} {i c : Nat} {i' : Int} {t u : Tok} {value slice : Expr} (H : St X B O l s) (hc : a[i]? = some c) (hz : a.length ≤ sizeLine) (h : ∀ t s', St X B O l s' → Q (.str (S [c]) t) s')
    (hi : i' = (i : Int) := by first | rfl | omega)
    (hs : ∀ x t i u, subscripted slice false (.str x t) (.int i u) = operate [.str x t, .int i u] (getItem (.str x t) (.int i u)) := by intro _ _ _ _; with_unfolding_all rfl)
    (ht : ∀ x t r, letTemporaryGo value (.str x t) r = pure () := by intro _ _ _; with_unfolding_all rfl) :
    wpAny (model prog w) A (subscriptTail value slice (.str (S a) t) (.int i' u)) Q E s := by
  subst hi
  have hi : i < a.length := (List.getElem?_eq_some_iff.mp hc).1
  have hzz : sizeLine = 16777216 := by decide
  refine tail_of_ItemOn ⟨"str", _, slot_str_getitem.lookup, typeIs_str _ _ _, ?_⟩ (hs _ _ _ _) (ht _ _)
  refine getItem_str (c := c) (fits_small (by omega) (by omega)) ?_ (h _ _ H.tok)
  show (seqIndex? (i : Int) (S a).length).bind _ = _
  rw [S_length, seqIndex_nat hi]
  simp [S, hc]
end
end Mine
end
-- part C2
section
open PySem PySem.Spec PySem.Calls PyProof.Rows PySem.W
namespace Mine

/-- room around a call: d frames may still be laid -/
structure Rm (A : Around) (d : Nat) : Prop where
  handled : A.handled = none
  guards : A.guards = some []
  depth : A.depth + d < recursionLimit
  units : A.units + (4 * d + 300) < cLine
theorem Rm.le {A : Around} {d e : Nat} (h : Rm A d) (he : e ≤ d) : Rm A e := ⟨h.handled, h.guards, Nat.lt_of_le_of_lt (Nat.add_le_add_left he _) h.depth, Nat.lt_of_le_of_lt (Nat.add_le_add_left (Nat.add_le_add_right (Nat.mul_le_mul_left 4 he) 300) _) h.units⟩
theorem Rm.deeper {A : Around} {d : Nat} (h : Rm A (d + 1)) (env : Env) : Rm (A.deeper env) d :=
  ⟨h.handled, h.guards, Nat.lt_of_le_of_lt (Nat.le_of_eq (by show A.depth + 1 + d = A.depth + (d + 1); omega)) h.depth, Nat.lt_of_le_of_lt (by show A.units + 3 + (4 * d + 300) ≤ A.units + (4 * (d + 1) + 300); omega) h.units⟩
theorem Rm.room {A : Around} {d : Nat} (h : Rm A d) : A.depth < recursionLimit := Nat.lt_of_le_of_lt (Nat.le_add_right _ _) h.depth

def Returns (B : FMap) (s : Shared) (P : FMap → Value → Prop) (r : Result) (s' : Shared) : Prop := ∃ v B', r = .ok (.ret v) ∧ Grow B s B' s' ∧ P B' v

/-- the program's top, as the library tells it of a heap -/
structure Tp where
  p : Program
  loose : List Str
  mean : ExcName → Option Value
  mg : Str → Option Value
  mb : Str → Option Value
def Tp.At (T : Tp) (h : Heap) : Prop := Top T.p T.loose T.mean T.mg T.mb h
def Fx.T (X : Fx) : Tp := ⟨X.p, X.loose, X.mean, X.mg, X.mb⟩

section
variable {prog : Program} {w : World}

/-- a call of the def d with these arguments, begun at s, comes back with P and turns nothing that stood -/
def Sp (prog : Program) (w : World) (d : DefRec) (A : Around) (vals : List Value) (B : FMap) (s : Shared) (P : FMap → Value → Prop) : Prop :=
  0 < s.toks → ∀ f o pm code doc, s.heap.get? f = some o → o.data = .func (docDef d.name d.params d.body d.scope pm code doc) → s.heap.CodeRec code d.name →
    codeAny (model prog w) A (.call (.ref f) ⟨vals, []⟩) (Returns B s P) s

/-- how a frame of the def d stands at its start -/
structure Frm (X : Fx) (T : Tp) (s : Shared) (B : FMap) (d : DefRec) : Prop where
  env : ∃ L a cd, X.env = envOf d.name d.scope L a cd
  T : X.T = T
  h0 : X.h0 = s.heap
  B0 : X.B0 = B
  gens : X.gens = s.gens
  os : X.os = s.os
  drawn : X.drawn = s.drawn

theorem mOf_none : ∀ (ns : List Str) (x : Str), mOf (ns.map fun n => (n, none)) x = none
  | [], _ => rfl
  | n :: ns, x => by
    by_cases h : x = n
    · subst h; exact mOf_cons_self
    · rw [List.map_cons, mOf_cons_ne h]; exact mOf_none ns x
theorem mOf_binds : ∀ (bs : List (Str × Value)) (r : Locs) (x : Str), mOf (bs.map (fun b => (b.1, some b.2)) ++ r) x = (bs.lookup x).or (mOf r x)
  | [], r, x => by simp
  | (y, v) :: bs, r, x => by
    by_cases h : x = y
    · subst h; rw [List.map_cons, List.cons_append, mOf_cons_self]; simp [List.lookup]
    · have : (x == y) = false := beq_eq_false_iff_ne.mpr h
      rw [List.map_cons, List.cons_append, mOf_cons_ne h, mOf_binds bs r x]; simp [List.lookup, this]
theorem lookup_not : ∀ {bs : List (Str × Value)} {x : Str}, x ∉ bs.map (·.1) → bs.lookup x = none
  | [], _, _ => rfl
  | (y, v) :: bs, x, h => by
    rw [List.map_cons, List.mem_cons, not_or] at h
    have : (x == y) = false := beq_eq_false_iff_ne.mpr h.1
    simp [List.lookup, this, lookup_not h.2]
theorem lookup_rev : ∀ {bs : List (Str × Value)}, (bs.map (·.1)).Nodup → ∀ x, bs.reverse.lookup x = bs.lookup x
  | [], _, x => rfl
  | (y, v) :: bs, hn, x => by
    rw [List.map_cons, List.nodup_cons] at hn
    rw [List.reverse_cons, List.lookup_append, lookup_rev hn.2]
    by_cases h : x = y
    · subst h
      have : bs.lookup x = none := lookup_not hn.1
      rw [this]; simp [List.lookup]
    · have : (x == y) = false := beq_eq_false_iff_ne.mpr h
      simp [List.lookup, this]

theorem enter {d : DefRec} {A : Around} {k : Nat} (R : Rm A (k + 1)) {T : Tp} {s : Shared} {B : FMap} (hT : T.At s.heap) (hB : Fz B s.heap) {vals : List Value} {P : FMap → Value → Prop} {binds : List (Str × Value)} (ns : List Str)
    (hbind : ∀ pm cd doc, bindArgs (docDef d.name d.params d.body d.scope pm cd doc) ⟨vals, []⟩ = pure binds)
    (hloc : ((binds.map (·.1) ++ ns).all fun x => decide (d.scope.names.lookup x = some .local ∧ (x == ("__debug__" : Str)) = false)) = true) (hnd : (binds.map (·.1) ++ ns).Nodup)
    (hco : d.scope.isCoroutine = false) (hgen : d.scope.isGenerator = false) (hk : d.scope.kind = .function) (hcell : ∀ x ∈ d.scope.names, x.2 ≠ .cell)
    (h : ∀ X A' (Q : Flow → Shared → Prop) s', Frm X T s B d → St X B [] (binds.map (fun b => (b.1, some b.2)) ++ ns.map fun n => (n, none)) s' → Rm A' k →
      (∀ {v B' O l s''}, St X B' O l s'' → P B' v → Q (.ret v) s'') → wpAny (model prog w) A' (execs d.body X.env) Q (fun _ _ => False) s') :
    Sp prog w d A vals B s P := by
  intro htk f o pm code doc ho hd hcd
  have hall := List.all_eq_true.mp hloc
  have hndb : (binds.map (·.1)).Nodup := (List.nodup_append.mp hnd).1
  refine call_plain_ret R.room ho hd (Top.nolimit hT) hcd (hbind pm code doc) (fun x hx => (of_decide_eq_true (hall _ (List.mem_append_left _ (List.mem_map_of_mem hx)))).1) (fun h₁ F => ?_) hco hgen hk hcell
  let X : Fx := { p := T.p, loose := T.loose, mean := T.mean, mg := T.mg, mb := T.mb, env := envOf d.name d.scope s.heap.objs.size f code, h0 := s.heap, B0 := B, gens := s.gens, os := s.os, drawn := s.drawn }
  have keys : (binds.map (fun b => (b.1, some b.2)) ++ ns.map fun n => (n, (none : Option Value))).map (·.1) = binds.map (·.1) ++ ns := by simp [Function.comp_def]
  have hst : St X B [] (binds.map (fun b => (b.1, some b.2)) ++ ns.map fun n => (n, none)) { s with heap := h₁, toks := s.toks + binds.length } := by
    refine { ns := ?_, nd := by rw [keys]; exact hnd, kind := fun x hx => ?_, fn := hk, gl := rfl, bl := rfl, top := hT, kept := F.keep, offh := none_of_le (Nat.le_refl _), fz := fun b o e => F.keep _ _ (hB.fz _ _ e), low := hB.low, lowO := fun q hq => absurd hq (by simp), b0 := Sub.refl _, new := fun b o e => .inl e, offL := ?_, own := fun q hq => absurd hq (by simp), apart := List.nodup_nil, gens := rfl, os := rfl, drawn := rfl, tk := Nat.lt_of_lt_of_le htk (Nat.le_add_right _ _) }
    · have e : mOf (binds.map (fun b => (b.1, some b.2)) ++ ns.map fun n => (n, none)) = fun x => binds.reverse.lookup x := by
        funext x
        rw [mOf_binds, mOf_none, lookup_rev hndb]
        cases binds.lookup x <;> rfl
      rw [e]; exact F.ns
    · rw [keys] at hx
      exact of_decide_eq_true (hall _ hx)
    · show B s.heap.objs.size = none
      cases q : B s.heap.objs.size with
      | none => rfl
      | some o' => exact absurd (Heap.lt_size (hB.fz _ _ q)) (Nat.lt_irrefl _)
  have hfr : Frm X T s B d := ⟨⟨_, _, _, rfl⟩, rfl, rfl, rfl, rfl, rfl, rfl⟩
  refine wpAny_mono (h X _ (fun fl s'' => ∃ v B', fl = .ret v ∧ Grow B s B' s'' ∧ P B' v) _ hfr hst (R.deeper _) fun {v B' O l s''} H hp => ⟨v, B', rfl, hfr.B0 ▸ H.back hfr.h0 hfr.gens hfr.os hfr.drawn, hp⟩) (fun fl s'' hq => ?_) fun _ _ x => x
  obtain ⟨v, B', rfl, hg, hp⟩ := hq
  exact ⟨v, B', rfl, hg, hp⟩

variable {X : Fx} {B B' : FMap} {O : Owns} {l l' : Locs} {s s' : Shared} {A : Around} {E : Value → Shared → Prop} {Q : Value → Shared → Prop}

theorem St.tp (H : St X B O l s) : X.T.At s.heap := Top.keeps H.top H.kept
/-- f(e, ..) where f is a def of the text -/
theorem e_call {d : DefRec} {n : Str} {e : Expr} {rest : List Expr} {np pos : Pos} (H : St X B O l s) (hx : X.env.kindOf n = some .globalImplicit) (hd : (recsOf X.p).find? (fun r => r.name == n) = some d)
    (h : wpAny (model prog w) A (spliced (backTo pos (starEach (e :: rest) X.env))) (fun vs s₁ => ∃ B₁ O₁ l₁ P, St X B₁ O₁ l₁ s₁ ∧ Sp prog w d A vs B₁ s₁ P ∧ ∀ v B₂ s₂, Sub B₁ B₂ → P B₂ v → St X B₂ O₁ l₁ s₂ → Q v s₂) E s)
    (hdb : (n == ("__debug__" : Str)) = false := by decide)
    (he : starEach (e :: rest) X.env = (false, eval e X.env) :: starEach rest X.env := by rfl) :
    wpAny (model prog w) A (eval (.Call (.Name n np) (e :: rest) [] pos) X.env) Q E s := by
  refine Call_ ?_
  have hmem := List.mem_of_find?_eq_some hd
  have hname : d.name = n := by have := List.find?_some hd; exact eq_of_beq this
  obtain ⟨f, o, pm, code, doc, h1, h2, h3, h4⟩ := H.top.fn d hmem
  refine w_glob H hx (hname ▸ h1) ?_ hdb
  refine callWith_def h3 (wpAny_mono h (fun vs s₁ hq => ?_) fun _ _ x => x) he
  obtain ⟨B₁, O₁, l₁, P, H₁, hsp, hQ⟩ := hq
  refine ⟨H₁.kept _ _ h2, wpAny_call (codeAny_mono (hsp H₁.tk f o pm code doc (H₁.kept _ _ h2) h3 (h4.keeps H₁.kept)) fun r s₂ hr => ?_)⟩
  obtain ⟨v, B₂, rfl, hg, hp⟩ := hr
  exact hQ v B₂ s₂ hg.sub hp (H₁.grow hg)
end
end Mine
end
-- part C3
section
open PySem PySem.Spec PySem.Calls PyProof.Rows PySem.W
namespace Mine
section
variable {X : Fx} {B B' : FMap} {O : Owns} {l l' : Locs} {s s' : Shared} {prog : Program} {w : World} {A : Around} {E : Value → Shared → Prop} {Q : Value → Shared → Prop} {env : Env}

theorem e_len {a : List Nat} {t : Tok} (H : St X B O l s) (hz : a.length ≤ sizeLine) (h : ∀ t s', St X B O l s' → Q (.int (a.length : Int) t) s') : wpAny (model prog w) A (call (.builtin "len") [.str (S a) t]) Q E s := by
  have hzz : sizeLine = 16777216 := by decide
  refine len_str (by rw [S_length]; omega) ?_
  rw [S_length]; exact h _ _ H.tok

theorem take_range {α : Type} (l : List α) : ∀ n : Nat, (List.range n).filterMap (fun k => l[k]?) = l.take n
  | 0 => by simp
  | n + 1 => by
    rw [List.range_succ, List.filterMap_append, take_range l n, List.take_add_one]
    cases h : l[n]? <;> simp [h]
theorem clip_nat (i n : Nat) : max (0 : Int) (min (i : Int) (n : Int)) = ((min i n : Nat) : Int) := by
  rw [show min (i : Int) (n : Int) = ((min i n : Nat) : Int) by rcases Nat.le_total i n with h | h <;> simp only [Nat.min_eq_left, Nat.min_eq_right, Int.min_eq_left, Int.min_eq_right, Int.ofNat_le, h]]; exact Int.max_eq_right (Int.natCast_nonneg _)
theorem span_nat (a b : Nat) : (if (a : Int) < (b : Int) then (b : Int) - (a : Int) + 1 - 1 else 0).toNat = b - a := by
  rw [Int.add_sub_cancel]
  split
  · exact Int.toNat_sub b a
  · rename_i h; rw [Nat.sub_eq_zero_of_le (Int.ofNat_le.mp (Int.not_lt.mp h))]; rfl
theorem neg_nat (i : Nat) : ¬ ((i : Int) < 0) := Int.not_lt.mpr (Int.natCast_nonneg _)
theorem sliceIdx_nat (i j n : Nat) : Builtin.Str.strSliceIndices (some (i : Int)) (some (j : Int)) 1 n = (List.range (min j n - min i n)).map fun k => min i n + k := by
  unfold Builtin.Str.strSliceIndices sliceRange
  simp only [neg_nat, if_false, show (1 : Int) > 0 by decide, if_true, Int.ediv_one, Int.one_mul, clip_nat, span_nat]
  refine List.map_congr_left fun k _ => ?_
  first | rfl | (rw [← Int.natCast_add]; exact Int.toNat_natCast _)
theorem slice_nat (a : List Nat) (i j : Nat) : Txt.slice (S a) (some (i : Int)) (some (j : Int)) = S ((a.drop i).take (j - i)) := by
  unfold Txt.slice
  rw [S_length, sliceIdx_nat]
  simp only [List.length_map, List.length_range]
  have e : (a.drop i).take (j - i) = (List.map (fun k => min i a.length + k) (List.range (min j a.length - min i a.length))).filterMap (fun k => a[k]?) := by
    rw [List.filterMap_map]
    have : ((fun k => a[k]?) ∘ fun k => min i a.length + k) = fun k => (a.drop (min i a.length))[k]? := by funext k; simp
    rw [this, take_range]
    by_cases h : i ≤ a.length
    · rw [Nat.min_eq_left h]
      apply List.ext_getElem?
      intro k
      simp only [List.getElem?_take, List.getElem?_drop]
      by_cases h1 : k < j - i
      · by_cases h2 : k < min j a.length - i
        · simp [h1, h2]
        · rw [if_pos h1, if_neg h2]
          exact List.getElem?_eq_none (by omega)
      · rw [if_neg h1, if_neg (by omega)]
    · rw [Nat.min_eq_right (a := i) (by omega), List.drop_of_length_le (by omega : a.length ≤ i), List.drop_length]; simp
  split
  · rename_i hc
    simp only [beq_self_eq_true, Bool.true_and, beq_iff_eq] at hc
    congr 1
    by_cases h : a.length = 0
    · rw [List.length_eq_zero_iff] at h; subst h; simp
    · have hi : i = 0 := by omega
      subst hi
      simp only [List.drop_zero, Nat.sub_zero]
      rw [List.take_of_length_le (by omega)]
  · rw [e]
    show Str.mk _ = Str.mk _
    congr 2
    refine congrArg (fun f => List.filterMap f _) (funext fun k => ?_)
    simp [S]

def CutEnd (Q : Value → Shared → Prop) (o iv jv : Value) (s₃ : Shared) : Prop :=
  ∃ X B O l a t i ti j tj, o = .str (S a) t ∧ iv = .int i ti ∧ jv = .int j tj ∧ a.length ≤ sizeLine ∧ St X B O l s₃ ∧ ∀ t s', St X B O l s' → Q (.str (Txt.slice (S a) (some i) (some j)) t) s'
theorem cut_end {a : List Nat} {t ti tj : Tok} {i' j' : Int} (i j : Nat) (H : St X B O l s) (hz : a.length ≤ sizeLine) (hi : i' = i) (hj : j' = j) (h : ∀ t s', St X B O l s' → Q (.str (S ((a.drop i).take (j - i))) t) s') :
    CutEnd Q (.str (S a) t) (.int i' ti) (.int j' tj) s := by
  subst hi; subst hj
  exact ⟨X, B, O, l, a, t, _, ti, _, tj, rfl, rfl, rfl, hz, H, fun t s' H => by rw [slice_nat]; exact h t s' H⟩
/-- text[i:j] -/
theorem e_cut {value lo hi : Expr} {p pos : Pos}
    (h : wpAny (model prog w) A (eval value env) (fun o s₁ => wpAny (model prog w) A (eval lo env) (fun iv s₂ => wpAny (model prog w) A (eval hi env) (fun jv s₃ => CutEnd Q o iv jv s₃) E s₂) E s₁) E s)
    (hs : ∀ o i, (∃ x t, o = Value.str x t) → (∃ a, i = Value.ref a) → subscripted (.Slice (some lo) (some hi) none p) false o i = operate [i, o] (getItem o i) := by rintro _ _ ⟨_, _, rfl⟩ ⟨_, rfl⟩; with_unfolding_all rfl)
    (ht : ∀ o r, (∃ x t, o = Value.str x t) → letTemporaryGo value o r = pure () := by rintro _ _ ⟨_, _, rfl⟩; with_unfolding_all rfl) :
    wpAny (model prog w) A (eval (.Subscript value (.Slice (some lo) (some hi) none p) pos) env) Q E s := by
  refine Subscript_ (wpAny_mono h (fun o s₁ h₁ => ?_) fun _ _ x => x)
  refine wpAny_Slice (wpAny_evalPart_some (wpAny_mono h₁ (fun iv s₂ h₂ => wpAny_evalPart_some (wpAny_mono h₂ (fun jv s₃ h₃ => wpAny_evalPart_none ?_) fun _ _ x => x)) fun _ _ x => x))
  obtain ⟨X, B, O, l, a, t, i, ti, j, tj, rfl, rfl, rfl, hz, H, hQ⟩ := h₃
  refine any_toks ?_
  refine tail_of_ItemOn (SBH.sliceItem_ss (P := fun h' => Keep s₃.heap h') (fun h ob k => k.trans (keep_push _ _)) (Keep.refl _) (fun h' t' k hk (hle : s₃.toks ≤ k) => hQ _ _ (H.keeps hk)) (by simpa using hz)) (hs _ _ ⟨_, _, rfl⟩ ⟨_, rfl⟩) fun r => ht _ _ ⟨_, _, rfl⟩


theorem kindOf_frm {T : Tp} {d : DefRec} {s₀ : Shared} {B₀ : FMap} {x : Str} {k : NameKind} (F : Frm X T s₀ B₀ d) (h : d.scope.names.lookup x = some k) : X.env.kindOf x = some k := by
  obtain ⟨L, a, cd, e⟩ := F.env
  rw [e]; exact h
/-- the program and the loose names of a frame's top -/
structure Pg (X : Fx) (p : Program) (loose : List Str) : Prop where
  p : X.p = p
  loose : X.loose = loose
theorem Frm.pg {T : Tp} {d : DefRec} {s₀ : Shared} {B₀ : FMap} (F : Frm X T s₀ B₀ d) : Pg X T.p T.loose := ⟨congrArg Tp.p F.T, congrArg Tp.loose F.T⟩
end
end Mine
end
-- part C4
section
open PySem PySem.Spec PySem.Calls PyProof.Rows PySem.W
namespace Mine
section
variable {X : Fx} {B B' : FMap} {O : Owns} {l l' : Locs} {s s' : Shared} {prog : Program} {w : World} {A : Around} {E : Value → Shared → Prop} {Q : Value → Shared → Prop} {env : Env}

/-- a frozen dict -/
def BD {K : Type} [DecidableEq K] (knd : PySem.KeyKind prog w K) (B : FMap) (d : Addr) (kvs : List (K × Value)) : Prop :=
  (d == sysModules) = false ∧ ∃ o, B d = some o ∧ o.IsDictOf knd kvs
theorem BD.sub {K : Type} [DecidableEq K] {knd : PySem.KeyKind prog w K} {B B' : FMap} {d : Addr} {kvs : List (K × Value)} (h : BD knd B d kvs) (hs : Sub B B') : BD knd B' d kvs := ⟨h.1, let ⟨o, e, r⟩ := h.2; ⟨o, hs _ _ e, r⟩⟩
theorem BD.at {K : Type} [DecidableEq K] {knd : PySem.KeyKind prog w K} {d : Addr} {kvs : List (K × Value)} (h : BD knd B d kvs) (H : St X B O l s) : s.heap.DictOf knd d kvs :=
  let ⟨o, e, r⟩ := h.2; Heap.dictOf_iff.mpr ⟨o, H.fz _ _ e, r⟩


/-- the end of a dict display -/
def DictEnd {K : Type} [DecidableEq K] (knd : PySem.KeyKind prog w K) (d : Addr) (Q : Value → Shared → Prop) (vs : List (Value × Value)) (s₂ : Shared) : Prop :=
  ∃ X B O l kvs, St X B ((d, fun o => o.IsDictOf knd []) :: O) l s₂ ∧ Carries knd vs kvs ∧ ∀ B' s', Sub B B' → BD knd B' d (merged [] kvs) → St X B' O l s' → Q (.ref d) s'
theorem dict_end {K : Type} [DecidableEq K] {knd : PySem.KeyKind prog w K} {d : Addr} {vs : List (Value × Value)} (kvs : List (K × Value)) (H : St X B ((d, fun o => o.IsDictOf knd []) :: O) l s) (hc : Carries knd vs kvs)
    (h : ∀ B' s', Sub B B' → BD knd B' d (merged [] kvs) → St X B' O l s' → Q (.ref d) s') : DictEnd knd d Q vs s := ⟨X, B, O, l, kvs, H, hc, h⟩

theorem e_dict {K : Type} [DecidableEq K] (knd : PySem.KeyKind prog w K) {keys : List (Option Expr)} {values : List Expr} {pos : Pos} (H : St X B O l s)
    (h : ∀ d s', (d == sysModules) = false → St X B ((d, fun o => o.IsDictOf knd []) :: O) l s' → wpAny (model prog w) A (evalPairs (pairTrees keys values env pos)) (DictEnd knd d Q) E s')
    (h1 : keys.all (·.isSome) = true := by rfl) (h2 : keys.length = values.length := by rfl) (h3 : keys.isEmpty = false := by rfl) (h4 : Nat.ble keys.length 15 = true := by rfl) :
    wpAny (model prog w) A (eval (.Dict keys values pos) env) Q E s := by
  have hsys : (s.heap.objs.size == sysModules) = false := beq_eq_false_iff_ne.mpr fun e => by have := H.sysm; rw [← e] at this; exact Nat.lt_irrefl _ this
  refine wpAny_Dict_walk (knd := knd) h1 h2 (fun e => by rw [e] at h3; cases h3) (Nat.le_of_ble_eq_true h4) ?_
  have hnew : ({ cls := .type "dict", data := .dict #[] } : Obj).IsDictOf knd [] := by
    have := Heap.DictOf.new (knd := knd) s.heap
    obtain ⟨o, ho, r⟩ := Heap.dictOf_iff.mp this
    rw [Heap.get?_push_size _ rfl] at ho
    cases ho; exact r
  refine wpAny_mono (h s.heap.objs.size _ hsys (H.pushO (o := { cls := .type "dict", data := .dict #[] }) (n := s.toks) rfl hnew)) (fun vs s₂ h₂ => ?_) fun _ _ x => x
  obtain ⟨X, B, O, l, kvs, H₂, hc, hQ⟩ := h₂
  obtain ⟨⟨od, hod, hp⟩, _⟩ := H₂.own _ (.head _)
  refine ⟨kvs, hc, Heap.dictOf_iff.mpr ⟨od, hod, hp⟩, fun h' hd hs => ?_⟩
  obtain ⟨o', ho', hp'⟩ := Heap.dictOf_iff.mp hd
  have H3 := H₂.turn (O₁ := []) rfl (h' := h') (n := s₂.toks + vs.length) (P' := fun o => o.IsDictOf knd (merged [] kvs)) (fun b o hb e => hs.extBut b o hb e) ho' hp'
  obtain ⟨B', o'', hsub, hB, hP, H4⟩ := H3.freeze (O₁ := []) rfl
  exact hQ B' _ hsub ⟨hsys, o'', hB, hP⟩ H4

theorem e_dget {K : Type} [DecidableEq K] {knd : PySem.KeyKind prog w K} {d : Addr} {kvs : List (K × Value)} {k : K} {key dflt : Value} (H : St X B O l s) (hd : BD knd B d kvs) (hk : knd.is k key = true)
    (h : ∀ s', St X B O l s' → Q ((valueAt kvs k).getD dflt) s') : wpAny (model prog w) A (call (.builtin "dict.get") [.ref d, key, dflt]) Q E s :=
  call_meetsIn PySem.F.slot_dict_get (hd.at H).typeIs PySem.F.entry_dict_get (PySem.F.args_dict_get_3 _ _ _) (meets_dict_get_default knd d hk hd.1 dflt) ⟨_, (hd.at H).mapOf, h _ H.tok⟩
theorem e_ditem {K : Type} [DecidableEq K] {knd : PySem.KeyKind prog w K} {d : Addr} {kvs : List (K × Value)} {k : K} {key v : Value} {value slice : Expr} (H : St X B O l s) (hd : BD knd B d kvs) (hk : knd.is k key = true)
    (hv : valueAt kvs k = some v) (h : ∀ s', St X B O l s' → Q v s') (hs : subscripted slice false (.ref d) key = operate [.ref d, key] (getItem (.ref d) key)) :
    wpAny (model prog w) A (subscriptTail value slice (.ref d) key) Q E s :=
  tail_any (hd.at H).typeIs slot_dict_getitem.lookup (wpAny_getItem_of hk (hd.at H).mapOf hv (h _ H.tok)) hs
theorem e_din {K : Type} [DecidableEq K] {knd : PySem.KeyKind prog w K} {d : Addr} {kvs : List (K × Value)} {k : K} {key : Value} (H : St X B O l s) (hd : BD knd B d kvs) (hk : knd.is k key = true)
    (h : ∀ s', St X B O l s' → Q (.bool (valueAt kvs k).isSome) s') : wpAny (model prog w) A (compareOp .In key (.ref d)) Q E s := wpAny_in_of hk hd.1 (hd.at H).mapOf (h _ H.tok)
theorem m_dget {K : Type} [DecidableEq K] {knd : PySem.KeyKind prog w K} {d : Addr} {kvs : List (K × Value)} {pl : Sem Bool} {Q : Value × List Value → Shared → Prop} (H : St X B O l s) (hd : BD knd B d kvs) (h : Q (.builtin "dict.get", [.ref d]) s) :
    wpAny (model prog w) A (getMethod (.ref d) "get" pl) Q E s := by
  exact getMethod_builtin (hd.at H).typeIs PySem.F.plainAttrs_dict PySem.F.slot_dict_get PySem.F.type_dict_get (hd.at H).mapOf.noDict h

/-- obj.method(e, ..) of a built-in: the call behind the look-up -/
theorem e_bcall {pos : Pos} {id : String} {self : Value} {e : Expr} {rest : List Expr}
    (h : wpAny (model prog w) A (spliced (backTo pos (starEach (e :: rest) env))) (fun vs s₁ => wpAny (model prog w) A (call (.builtin id) (self :: vs)) Q E s₁) E s)
    (he : starEach (e :: rest) env = (false, eval e env) :: starEach rest env := by rfl)
    (hplain : (backTo pos (starEach rest env)).any (·.1) = false := by rfl) :
    wpAny (model prog w) A (callWith pos (.builtin id) [self] (backTo pos (starEach (e :: rest) env)) []) Q E s := by
  rw [he] at h ⊢
  exact PySem.Calls.callWith_builtin (by show (false || (backTo pos (starEach rest env)).any (·.1)) = false; rw [hplain]; rfl) (PySem.Calls.evalArgs_plain h)

theorem e_chr {i : Int} {n : Nat} {t : Tok} (H : St X B O l s) (hi : i = (n : Int)) (hn : n ≤ 1114111) (h : ∀ t s', St X B O l s' → Q (.str (S [n]) t) s') : wpAny (model prog w) A (call (.builtin "chr") [.int i t]) Q E s := by
  subst hi
  exact chr_of_range (by omega) (by omega) (h _ _ H.tok)
theorem q_in {a : List Nat} {c : Nat} {t u : Tok} (h : Q (.bool (decide (c ∈ a))) s) : wpAny (model prog w) A (compareOp .In (.str (S [c]) u) (.str (S a) t)) Q E s := by
  refine P.in_str ?_
  have e : S [c] = (⟨#[c]⟩ : Str) := rfl
  rw [e, StrLaws.found_one, S_toList]; exact h
theorem q_notin {a : List Nat} {c : Nat} {t u : Tok} (h : Q (.bool (!decide (c ∈ a))) s) : wpAny (model prog w) A (compareOp .NotIn (.str (S [c]) u) (.str (S a) t)) Q E s := by
  refine notIn_str ?_
  have e : S [c] = (⟨#[c]⟩ : Str) := rfl
  rw [e, StrLaws.found_one, S_toList]; exact h
theorem e_tuple {vs : List Value} (H : St X B O l s) (hz : vs.length ≤ sizeLine) (h : ∀ a B' s', Sub B B' → B' a = some { cls := .type "tuple", data := .seq vs.toArray } → St X B' O l s' → Q (.ref a) s') : wpAny (model prog w) A (newTuple vs) Q E s := by
  obtain ⟨B', h1, h2, H'⟩ := H.push (o := { cls := .type "tuple", data := .seq vs.toArray }) rfl (n := s.toks)
  exact wpAny_newTuple (h _ B' _ h1 h2 H') hz
/-- a list that is turned no more -/
theorem e_listF {vs : List Value} (H : St X B O l s) (hz : vs.length ≤ sizeLine) (h : ∀ a B' s', Sub B B' → B' a = some { cls := .type "list", data := .seq vs.toArray } → St X B' O l s' → Q (.ref a) s') : wpAny (model prog w) A (newList vs) Q E s := by
  obtain ⟨B', h1, h2, H'⟩ := H.push (o := { cls := .type "list", data := .seq vs.toArray }) rfl (n := s.toks)
  exact wpAny_newList (h _ B' _ h1 h2 H') hz
theorem e_index {a : List Nat} {c v : Nat} {r : List Nat} {t u : Tok} (H : St X B O l s) (hv : Builtin.Str.occurrences (S a) (S [c]) 0 (S a).length 1 = v :: r) (h : ∀ t s', St X B O l s' → Q (.int (v : Int) t) s') :
    wpAny (model prog w) A (call (.builtin "str.index") [.str (S a) t, .str (S [c]) u]) Q E s := SC.index hv (h _ _ H.tok)
theorem test_lastE {pos : Pos} {v : Value} {op : CmpOp} {e : Expr} {Q : Bool → Shared → Prop}
    (h : wpAny (model prog w) A (eval e env) (fun b s₁ => wpAny (model prog w) A (compareOp op v b) (fun c s₂ => wpAny (model prog w) A (truthy c) Q E s₂) E s₁) E s) : wpAny (model prog w) A (testChain pos v [op] (eval e env :: evalEach [] env)) Q E s := test_last h
/-- an owned list's object -/
def LO (vs : List Value) (o : Obj) : Prop := ∃ n, o = { cls := .type "list", data := .seq vs.toArray n }
theorem e_listO {vs : List Value} (H : St X B O l s) (hz : vs.length ≤ sizeLine) (h : ∀ a s', St X B ((a, LO vs) :: O) l s' → Q (.ref a) s') : wpAny (model prog w) A (newList vs) Q E s :=
  wpAny_newList (h _ _ (H.pushO (o := { cls := .type "list", data := .seq vs.toArray }) (n := s.toks) rfl ⟨0, rfl⟩)) hz
end
end Mine
end
-- part C5
section
open PySem PySem.Spec PySem.Calls PyProof.Rows PySem.W
namespace Mine
section
variable {prog : Program} {w : World} {A : Around}

theorem St.let1 {X : Fx} {B : FMap} {O : Owns} {l : Locs} {s : Shared} {a : Addr} {P : Obj → Prop} (H : St X B ((a, P) :: O) l s) {h' : Heap} {n : Tok} (hs : ∀ b o, b ≠ a → s.heap.get? b = some o → h'.get? b = some o) (hn : 0 < n := by first | exact Nat.succ_pos _ | assumption | exact tk_self (by assumption) | (refine Nat.lt_of_lt_of_le (tk_self (by assumption)) ?_; first | assumption | exact Nat.le_refl _ | omega)) :
    St X B O l { s with heap := h', toks := n } := by
  obtain ⟨_, haL, haB, hah⟩ := H.own (a, P) (.head _)
  have hap := H.apart
  rw [List.map_cons, List.nodup_cons] at hap
  refine { H with tk := hn, ns := H.ns.extBut (b := a) (fun b o hb e => hs b o hb e) (Ne.symm haL), kept := fun b o e => hs b o (fun q => by rw [q, hah] at e; cases e) (H.kept _ _ e), fz := fun b o e => hs b o (fun q => by rw [q, haB] at e; cases e) (H.fz _ _ e), lowO := fun q hq => H.lowO q (.tail _ hq), own := fun q hq => ?_, apart := hap.2 }
  obtain ⟨⟨oq, h1, h2⟩, r⟩ := H.own q (.tail _ hq)
  exact ⟨⟨oq, hs _ _ (fun e => hap.1 (by rw [← e]; exact List.mem_map_of_mem (f := (·.1)) hq)) h1, h2⟩, r⟩

/-- an iterator that stands among the owned objects; its source is told by Sr of the frozen part -/
structure It (prog : Program) (w : World) (A : Around) (target : Expr) (I : Addr) (n : Nat) (T : Nat → Owns) (Sr : FMap → Prop) (P : FMap → Nat → Value → Prop) : Prop where
  mono : ∀ B B', Sub B B' → Sr B → Sr B'
  self : ∀ {X B O l s} i (Q : Value → Shared → Prop) (E : Value → Shared → Prop), Sr B → St X B (T i ++ O) l s → Q (.ref I) s → wpAny (model prog w) A (pyIter (.ref I)) Q E s
  turn : ∀ {X B O l s} i (Q : Option Value → Shared → Prop) (E : Value → Shared → Prop), i < n → Sr B → St X B (T i ++ O) l s →
    (∀ v s₁, (∀ (Q' : Unit → Shared → Prop) (E' : Value → Shared → Prop), (∀ B' s', Sub B B' → P B' i v → St X B' (T (i + 1) ++ O) l s' → Q' () s') → wpAny (model prog w) A (letOwnedTupleGo target (.ref I) v) Q' E' s₁) → Q (some v) s₁) →
    wpAny (model prog w) A (pyNext (.ref I)) Q E s
  done : ∀ {X B O l s} (Q : Option Value → Shared → Prop) (E : Value → Shared → Prop), Sr B → St X B (T n ++ O) l s →
    (∀ s', St X B O l s' → Q none s') → wpAny (model prog w) A (pyNext (.ref I)) Q E s

/-- targets of a for that take a list's item as it is -/
def Takes (target : Expr) (tys : List String) : Prop := ∀ (prog : Program) (w : World) (A : Around) (I : Addr) (v : Value) (o : Obj) (ty : String) (fs : Array Value) (s : Shared) (Q : Unit → Shared → Prop) (E : Value → Shared → Prop),
  ty ∈ tys → s.heap.get? I = some o → o.cls = .type ty → o.data = .fields fs → Q () s → wpAny (model prog w) A (letOwnedTupleGo target (.ref I) v) Q E s
theorem takes_name {x : Str} {p : Pos} {tys : List String} : Takes (.Name x p) tys := fun _ _ _ _ _ _ _ _ _ _ _ _ _ _ _ hq => wpAny_pure hq
def plainIters : List String := ["list_iterator", "tuple_iterator", "dict_keyiterator", "range_iterator"]
theorem takes_tuple {es : List Expr} {k : Nat} {p : Pos} : Takes (.Tuple es k p) plainIters := fun prog w A I v o ty fs s Q E hty ho hc hd hq => by
  unfold letOwnedTupleGo
  cases v with
  | ref a =>
    refine wpAny_bind (wpAny_load ho ?_)
    rw [hc, hd]
    have hn : ["enumerate", "zip", "dict_itemiterator", "dict_reverseitemiterator", "odict_iterator", "itertools.zip_longest", "itertools.pairwise"].contains ty = false := by
      simp only [plainIters, List.mem_cons, List.not_mem_nil, or_false] at hty
      rcases hty with rfl | rfl | rfl | rfl <;> decide +kernel
    simp only [hn, Bool.false_and, Bool.false_eq_true, if_false]
    exact wpAny_pure hq
  | _ => exact wpAny_pure hq

def listIt (l : Addr) (i : Nat) (o : Obj) : Prop := o.cls = .type "list_iterator" ∧ o.data = .fields #[.ref l, .int i 0]
theorem It.list (hh : A.handled = none) {target : Expr} {I a : Addr} {vs : List Value} (hgo : Takes target plainIters) :
    It prog w A target I vs.length (fun i => [(I, listIt a i)]) (fun B => ∃ o n, B a = some o ∧ o.cls = .type "list" ∧ o.data = .seq vs.toArray n) (fun _ i v => vs[i]? = some v) where
  mono := fun B B' hs ⟨o, n, h, r⟩ => ⟨o, n, hs _ _ h, r⟩
  self := fun {X B O l s} i Q E _ H hQ => by
    obtain ⟨⟨oi, hoi, hti⟩, _⟩ := H.own _ (.head _)
    exact wpAny_pyIter_listiter ⟨oi, hoi, hti⟩ hQ
  turn := fun {X B O l s} i Q E hi ⟨o, n, hB, hc, hd⟩ H hQ => by
    obtain ⟨⟨oi, hoi, hti⟩, _, hnB, _⟩ := H.own _ (.head _)
    refine wpAny_pyNext_list_item (l := a) (i := i) (items := vs.toArray) (x := vs[i]) ⟨oi, hoi, hti⟩ ⟨o, H.fz _ _ hB, hc, n, hd⟩ (by simp [hi]) fun h' hit hs => ?_
    obtain ⟨o', ho', ht'⟩ := hit
    refine hQ _ _ fun Q' E' h => hgo _ _ _ _ _ _ _ _ _ _ _ (by decide) ho' ht'.1 ht'.2 ?_
    exact h B _ (Sub.refl _) (by simp [hi]) (H.turn (O₁ := []) rfl (n := s.toks) (fun b o hb e => hs.extBut b o hb e) ho' ht')
  done := fun {X B O l s} Q E ⟨o, n, hB, hc, hd⟩ H hQ => by
    obtain ⟨⟨oi, hoi, hti⟩, hL, hnB, hh0⟩ := H.own _ (.head _)
    refine wpAny_pyNext_list_end (l := a) (i := vs.length) (items := vs.toArray) hh ⟨oi, hoi, hti⟩ ⟨o, H.fz _ _ hB, hc, n, hd⟩ (by simp) fun h' he => ?_
    exact hQ _ (H.let1 (n := s.toks) he)

def strIt (x : Str) (tk : Tok) (i : Nat) (o : Obj) : Prop := o.cls = .type (strIterType x) ∧ o.data = .fields #[.str x tk, .int i 0]
theorem It.str (hh : A.handled = none) {xn : Str} {pp : Pos} {I : Addr} {a : List Nat} {tk : Tok} :
    It prog w A (.Name xn pp) I a.length (fun i => [(I, strIt (S a) tk i)]) (fun _ => True) (fun _ i v => ∃ c t, a[i]? = some c ∧ v = .str (S [c]) t) where
  mono := fun _ _ _ h => h
  self := fun {X B O l s} i Q E _ H hQ => by
    obtain ⟨⟨oi, hoi, hc, hd⟩, _⟩ := H.own _ (.head _)
    unfold strIterType at hc
    split at hc
    · exact wpAny_pyIter_striter_ascii ⟨oi, hoi, hc, hd⟩ hQ
    · exact wpAny_pyIter_striter_wide ⟨oi, hoi, hc, hd⟩ hQ
  turn := fun {X B O l s} i Q E hi _ H hQ => by
    obtain ⟨⟨oi, hoi, hc, hd⟩, _⟩ := H.own _ (.head _)
    have hx : (S a).cps[i]? = some a[i] := by simp [S, hi]
    unfold strIterType at hc
    split at hc
    · rename_i hty
      refine wpAny_pyNext_ascii_item (x := S a) (t := tk) (i := i) (c := a[i]) ⟨oi, hoi, hc, hd⟩ hx fun h' hit hs => ?_
      obtain ⟨o', ho', hc', hd'⟩ := hit
      exact hQ _ _ fun Q' E' h => wpAny_pure (h B _ (Sub.refl _) ⟨a[i], _, by simp [hi], rfl⟩ (H.turn (O₁ := []) rfl (n := s.toks + 1) (fun b o hb e => hs.extBut b o hb e) ho' ⟨by unfold strIterType; rw [if_pos hty]; exact hc', hd'⟩))
    · rename_i hty
      refine wpAny_pyNext_wide_item (x := S a) (t := tk) (i := i) (c := a[i]) ⟨oi, hoi, hc, hd⟩ hx fun h' hit hs => ?_
      obtain ⟨o', ho', hc', hd'⟩ := hit
      exact hQ _ _ fun Q' E' h => wpAny_pure (h B _ (Sub.refl _) ⟨a[i], _, by simp [hi], rfl⟩ (H.turn (O₁ := []) rfl (n := s.toks + 1) (fun b o hb e => hs.extBut b o hb e) ho' ⟨by unfold strIterType; rw [if_neg hty]; exact hc', hd'⟩))
  done := fun {X B O l s} Q E _ H hQ => by
    obtain ⟨⟨oi, hoi, hc, hd⟩, _⟩ := H.own _ (.head _)
    have hx : (S a).cps[a.length]? = none := by simp [S]
    unfold strIterType at hc
    split at hc
    · exact wpAny_pyNext_ascii_end (x := S a) (t := tk) (i := a.length) hh ⟨oi, hoi, hc, hd⟩ hx fun h' he => hQ _ (H.let1 (n := s.toks) he)
    · exact wpAny_pyNext_wide_end (x := S a) (t := tk) (i := a.length) hh ⟨oi, hoi, hc, hd⟩ hx fun h' he => hQ _ (H.let1 (n := s.toks) he)

variable {X : Fx} {B B' : FMap} {O : Owns} {l l' : Locs} {s s' : Shared} {E : Value → Shared → Prop}

/-- what a turn of a loop must come back with, behind the name Qe -/
def Turn (X : Fx) (B : FMap) (J : FMap → Owns → Locs → Prop) (q : Owns) (Qe : Flow → Shared → Prop) : Prop :=
  ∀ {B' O' l' s'}, Sub B B' → J B' O' l' → St X B' (q ++ O') l' s' → Qe .next s'
/-- how a value is walked -/
def Iterates (prog : Program) (w : World) (A : Around) (target : Expr) (X : Fx) (B : FMap) (O : Owns) (l : Locs) (s : Shared) (xv : Value) (n : Nat) (P : FMap → Nat → Value → Prop) : Prop :=
  ∀ (Q : Value → Shared → Prop) (E : Value → Shared → Prop), (∀ I T Sr s', It prog w A target I n T Sr P → Sr B → St X B (T 0 ++ O) l s' → Q (.ref I) s') → wpAny (model prog w) A (pyIter xv) Q E s
theorem it_list (hh : A.handled = none) {target : Expr} (hgo : Takes target plainIters) (H : St X B O l s) {a : Addr} {vs : List Value} {o : Obj} {m : Nat} (hB : B a = some o) (hc : o.cls = .type "list") (hd : o.data = .seq vs.toArray m) :
    Iterates prog w A target X B O l s (.ref a) vs.length fun _ i v => vs[i]? = some v := fun Q E h => by
  refine wpAny_pyIter_list (items := vs.toArray) ⟨o, H.fz _ _ hB, hc, m, hd⟩ ?_
  exact h _ _ _ _ (It.list hh (a := a) hgo) ⟨o, m, hB, hc, hd⟩ (H.pushO (n := s.toks) rfl ⟨rfl, rfl⟩)
theorem it_str (hh : A.handled = none) {xn : Str} {pp : Pos} (H : St X B O l s) {a : List Nat} {tk : Tok} :
    Iterates prog w A (.Name xn pp) X B O l s (.str (S a) tk) a.length fun _ i v => ∃ c t, a[i]? = some c ∧ v = .str (S [c]) t := fun Q E h => by
  refine wpAny_pyIter_strU ?_
  exact h _ _ _ _ (It.str hh) trivial (H.pushO (n := s.toks) rfl ⟨rfl, rfl⟩)

theorem loop_it {R : Result → Shared → Prop} {target : Expr} {I : Addr} {n : Nat} {T : Nat → Owns} {Sr : FMap → Prop} {P : FMap → Nat → Value → Prop} (W : It prog w A target I n T Sr P) (hS : Sr B)
    (H : St X B (T 0 ++ O) l s) {body : List Stmt} (J : Nat → FMap → Owns → Locs → Prop) (h0 : J 0 B O l)
    (step : ∀ i v B₁ B₂ O₁ l₁ s₁ q Qe, Turn X B₂ (J (i + 1)) q Qe → i < n → P B₂ i v → Sub B B₁ → J i B₁ O₁ l₁ → Sub B₁ B₂ → St X B₂ (q ++ O₁) l₁ s₁ →
      wpAny (model prog w) A (assign target X.env v) (fun _ s₂ => wpAny (model prog w) A (execs body X.env) Qe (fun _ _ => False) s₂) (fun _ _ => False) s₁)
    (after : ∀ B₁ O₁ l₁ s₁, Sub B B₁ → J n B₁ O₁ l₁ → St X B₁ O₁ l₁ s₁ → R (.ok .next) s₁) :
    codeAny (model prog w) A (.forLoop target (.ref I) body [] X.env) R s := by
  refine codeAny_forLoop_any (fun k s' => ∃ i B₁ O₁ l₁, k = n - i ∧ i ≤ n ∧ Sub B B₁ ∧ J i B₁ O₁ l₁ ∧ St X B₁ (T i ++ O₁) l₁ s') ?_ n ⟨0, B, O, l, rfl, Nat.zero_le _, Sub.refl _, h0, H⟩
  rintro k s₁ ⟨i, B₁, O₁, l₁, rfl, hi, hsub, hJ, H₁⟩
  by_cases hlt : i < n
  · refine W.turn i _ _ hlt (W.mono _ _ hsub hS) H₁ fun v s₂ hgo => ?_
    refine hgo _ _ fun B₂ s₃ hs₂ hP H₂ => ?_
    refine wpAny_mono (step i v B₁ B₂ O₁ l₁ s₃ _ (fun f s₄ => f = .next ∧ ∃ B' O' l', Sub B₂ B' ∧ J (i + 1) B' O' l' ∧ St X B' (T (i + 1) ++ O') l' s₄) (fun hs hj H => ⟨rfl, _, _, _, hs, hj, H⟩) hlt hP hsub hJ hs₂ H₂)
      (fun _ s₃ h₃ => wpAny_mono h₃ (fun f s₄ h₄ => ?_) fun _ _ x => x.elim) fun _ _ x => x.elim
    obtain ⟨rfl, B₄, O₄, l₄, hs₄, hJ₄, H₄⟩ := h₄
    exact ⟨n - (i + 1), by omega, i + 1, B₄, O₄, l₄, rfl, hlt, (hsub.trans hs₂).trans hs₄, hJ₄, H₄⟩
  · have : i = n := by omega
    subst this
    exact W.done _ _ (W.mono _ _ hsub hS) H₁ fun s₂ H₂ => wpAny_execs_nil (after B₁ O₁ l₁ s₂ hsub hJ H₂)

/-- the iterable of a for has been reckoned: how it is walked -/
def ForSrc (prog : Program) (w : World) (A : Around) (target : Expr) (X : Fx) (body rest : List Stmt) (Q : Flow → Shared → Prop) (E : Value → Shared → Prop) (xv : Value) (s : Shared) : Prop :=
  ∃ (n : Nat) (P : FMap → Nat → Value → Prop) (B : FMap) (O : Owns) (l : Locs) (J : Nat → FMap → Owns → Locs → Prop), Iterates prog w A target X B O l s xv n P ∧ J 0 B O l ∧
    (∀ i v B₁ B₂ O₁ l₁ s₁ q Qe, Turn X B₂ (J (i + 1)) q Qe → i < n → P B₂ i v → Sub B B₁ → J i B₁ O₁ l₁ → Sub B₁ B₂ → St X B₂ (q ++ O₁) l₁ s₁ →
      wpAny (model prog w) A (assign target X.env v) (fun _ s₂ => wpAny (model prog w) A (execs body X.env) Qe (fun _ _ => False) s₂) (fun _ _ => False) s₁) ∧
    (∀ B₁ O₁ l₁ s₁, Sub B B₁ → J n B₁ O₁ l₁ → St X B₁ O₁ l₁ s₁ → wpAny (model prog w) A (execs rest X.env) Q E s₁)

theorem x_for {target iter : Expr} {body rest : List Stmt} {pos : Pos} {Q : Flow → Shared → Prop} (h : ∀ bd, bd = body → wpAny (model prog w) A (eval iter X.env) (ForSrc prog w A target X bd rest Q E) E s)
    (hs : ∀ x, foldedSetIterable iter X.env x = pure x := by intro _; rfl) :
    wpAny (model prog w) A (execs (.For target iter body [] pos :: rest) X.env) Q E s := by
  refine wpAny_execs_cons (wpAny_For (wpAny_mono (h _ rfl) (fun xv s₁ h₁ => ?_) fun _ _ x => x) hs)
  obtain ⟨n, P, B, O, l, J, W, h0, step, after⟩ := h₁
  refine W _ _ fun I T Sr s' W hS H => ?_
  exact loop_it W hS H J h0 step after
theorem for_it {target : Expr} {body rest : List Stmt} {Q : Flow → Shared → Prop} {xv : Value} {n : Nat} {P : FMap → Nat → Value → Prop} (W : Iterates prog w A target X B O l s xv n P)
    (J : Nat → FMap → Owns → Locs → Prop) (h0 : J 0 B O l)
    (step : ∀ i v B₁ B₂ O₁ l₁ s₁ q Qe, Turn X B₂ (J (i + 1)) q Qe → i < n → P B₂ i v → Sub B B₁ → J i B₁ O₁ l₁ → Sub B₁ B₂ → St X B₂ (q ++ O₁) l₁ s₁ →
      wpAny (model prog w) A (assign target X.env v) (fun _ s₂ => wpAny (model prog w) A (execs body X.env) Qe (fun _ _ => False) s₂) (fun _ _ => False) s₁)
    (after : ∀ B₁ O₁ l₁ s₁, Sub B B₁ → J n B₁ O₁ l₁ → St X B₁ O₁ l₁ s₁ → wpAny (model prog w) A (execs rest X.env) Q E s₁) :
    ForSrc prog w A target X body rest Q E xv s := ⟨n, P, B, O, l, J, W, h0, step, after⟩
theorem a_name {xn : Str} {pp : Pos} {env : Env} {v : Value} {Q : Unit → Shared → Prop} (h : wpAny (model prog w) A (storeName env xn v) Q E s) : wpAny (model prog w) A (assign (.Name xn pp) env v) Q E s := wpAny_assign_Name h

theorem x_while {test : Expr} {body rest : List Stmt} {pos : Pos} {Q : Flow → Shared → Prop} (H : St X B O l s) (J : Nat → FMap → Owns → Locs → Prop) (n : Nat) (h0 : J n B O l)
    (step : ∀ bd, bd = body → ∀ n B₁ O₁ l₁ s₁ (Qe : Flow → Shared → Prop), (∀ {m B₂ O₂ l₂ s₂}, m < n → Sub B₁ B₂ → J m B₂ O₂ l₂ → St X B₂ O₂ l₂ s₂ → Qe .next s₂) →
      Sub B B₁ → J n B₁ O₁ l₁ → St X B₁ O₁ l₁ s₁ → wpAny (model prog w) A (isTrue test X.env (eval test X.env))
      (fun b s₂ => if b = true then wpAny (model prog w) A (execs bd X.env) Qe (fun _ _ => False) s₂
        else wpAny (model prog w) A (execs rest X.env) Q E s₂) (fun _ _ => False) s₁) :
    wpAny (model prog w) A (execs (.While test body [] pos :: rest) X.env) Q E s := by
  refine wpAny_execs_cons (wpAny_While (codeAny_whileLoop (fun n s' => ∃ B₁ O₁ l₁, Sub B B₁ ∧ J n B₁ O₁ l₁ ∧ St X B₁ O₁ l₁ s') ?_ n ⟨B, O, l, Sub.refl _, h0, H⟩))
  rintro n s₁ ⟨B₁, O₁, l₁, hsub, hJ, H₁⟩
  refine wpAny_mono (step _ rfl n B₁ O₁ l₁ s₁ (fun f s₃ => f = .next ∧ ∃ m B₂ O₂ l₂, m < n ∧ Sub B₁ B₂ ∧ J m B₂ O₂ l₂ ∧ St X B₂ O₂ l₂ s₃) (fun hm hs hj H => ⟨rfl, _, _, _, _, hm, hs, hj, H⟩) hsub hJ H₁) (fun b s₂ h₂ => ?_) fun _ _ x => x.elim
  cases b with
  | true =>
    rw [if_pos rfl] at h₂ ⊢
    refine wpAny_mono h₂ (fun f s₃ h₃ => ?_) fun _ _ x => x.elim
    obtain ⟨rfl, m, B₂, O₂, l₂, hm, hs₂, hJ₂, H₂⟩ := h₃
    exact ⟨m, hm, B₂, O₂, l₂, hsub.trans hs₂, hJ₂, H₂⟩
  | false =>
    rw [if_neg (by simp)] at h₂ ⊢
    exact wpAny_execs_nil h₂
end
end Mine
end
-- part C6
section
open PySem PySem.Spec PySem.Calls PyProof.Rows PySem.W
namespace Mine
section
variable {X : Fx} {B B' : FMap} {O : Owns} {l l' : Locs} {s s' : Shared} {prog : Program} {w : World} {A : Around} {E : Value → Shared → Prop} {Q : Value → Shared → Prop} {env : Env}
end
end Mine
namespace Mine
section
variable {K : Type} [DecidableEq K]
theorem merged_nodup : ∀ (kvs acc : List (K × Value)), ((acc ++ kvs).map (·.1)).Nodup → merged acc kvs = acc ++ kvs
  | [], acc, _ => by simp [merged]
  | (k, v) :: r, acc, h => by
    have hst : stored acc k v = acc ++ [(k, v)] := by
      unfold stored
      rw [if_neg]
      intro hany
      obtain ⟨x, hx, he⟩ := List.any_eq_true.mp hany
      rw [List.map_append, List.nodup_append] at h
      exact h.2.2 x.1 (List.mem_map_of_mem hx) k (by simp) (of_decide_eq_true he)
    show merged (stored acc k v) r = _
    rw [hst, merged_nodup r _ (by simpa using h)]
    simp
theorem merged_nil {kvs : List (K × Value)} (h : (kvs.map (·.1)).Nodup) : merged [] kvs = kvs := by rw [merged_nodup kvs [] (by simpa using h)]; simp
theorem valueAt_nil (k : K) : valueAt ([] : List (K × Value)) k = none := rfl
theorem valueAt_cons (k k' : K) (v : Value) (r : List (K × Value)) : valueAt ((k', v) :: r) k = if k' = k then some v else valueAt r k := by
  unfold valueAt
  rw [List.find?_cons]
  by_cases h : k' = k
  · simp [h]
  · simp [h]
end
theorem beq1 (a b : Nat) : (([a] : List Nat) == [b]) = (a == b) := by
  by_cases h : a = b
  · subst h; simp
  · rw [beq_eq_false_iff_ne.mpr h, beq_eq_false_iff_ne]; simpa using h
theorem bne1 (a b : Nat) : (([a] : List Nat) != [b]) = (a != b) := by unfold bne; rw [beq1]
theorem lt1 (a b : Nat) : decide (([a] : List Nat) < [b]) = decide (a < b) := by
  have e : ([a] < [b]) ↔ a < b := by
    rw [List.cons_lt_cons_iff]
    simp
  simp only [e]

def fig16 : List Nat := [48, 49, 50, 51, 52, 53, 54, 55, 56, 57, 97, 98, 99, 100, 101, 102]
theorem idx16 {v d : Nat} (h : fig16[v]? = some d) : Builtin.Str.occurrences (S fig16) (S [d]) 0 (S fig16).length 1 = [v] := by
  have key : ∀ i : Fin 16, Builtin.Str.occurrences (S fig16) (S [fig16[i.val]!]) 0 (S fig16).length 1 = [i.val] := by decide +kernel
  have hv : v < 16 := (List.getElem?_eq_some_iff.mp h).1
  have := key ⟨v, hv⟩
  simp only at this
  rw [List.getElem!_eq_getElem?_getD, h] at this
  exact this
def fig10 : List Nat := [48, 49, 50, 51, 52, 53, 54, 55, 56, 57]
theorem idx10 {v d : Nat} (h : fig10[v]? = some d) : Builtin.Str.occurrences (S fig10) (S [d]) 0 (S fig10).length 1 = [v] := by
  have key : ∀ i : Fin 10, Builtin.Str.occurrences (S fig10) (S [fig10[i.val]!]) 0 (S fig10).length 1 = [i.val] := by decide +kernel
  have hv : v < 10 := (List.getElem?_eq_some_iff.mp h).1
  have := key ⟨v, hv⟩
  simp only at this
  rw [List.getElem!_eq_getElem?_getD, h] at this
  exact this
theorem mulOk_l {a b : Int} (h1 : -(2 ^ 64) < a) (h2 : a < 2 ^ 64) : IntMulOk a b := IntMulOk.of_left (intBits_le_64 h1 h2)
end Mine
end
-- part C7
section
open PySem PySem.Spec PySem.Calls PyProof.Rows PySem.W
namespace Mine
noncomputable def n_dot0 : Str := Str.ofString ".0"
noncomputable def n_Formatter : Str := Str.ofString "Formatter"
noncomputable def n_IndexError : Str := Str.ofString "IndexError"
noncomputable def n_KeyError : Str := Str.ofString "KeyError"
noncomputable def n_TypeError : Str := Str.ofString "TypeError"
noncomputable def n_ValueError : Str := Str.ofString "ValueError"
noncomputable def n__ : Str := Str.ofString "_"
noncomputable def n___name__ : Str := Str.ofString "__name__"
noncomputable def n__law_cells : Str := Str.ofString "_law_cells"
noncomputable def n__law_close : Str := Str.ofString "_law_close"
noncomputable def n__law_drawn : Str := Str.ofString "_law_drawn"
noncomputable def n__law_fields : Str := Str.ofString "_law_fields"
noncomputable def n__law_found : Str := Str.ofString "_law_found"
noncomputable def n__law_past : Str := Str.ofString "_law_past"
noncomputable def n__law_read : Str := Str.ofString "_law_read"
noncomputable def n__law_text : Str := Str.ofString "_law_text"
noncomputable def n__law_thing : Str := Str.ofString "_law_thing"
noncomputable def n__law_things : Str := Str.ofString "_law_things"
noncomputable def n__law_told : Str := Str.ofString "_law_told"
noncomputable def n__law_word : Str := Str.ofString "_law_word"
noncomputable def n__pe_name : Str := Str.ofString "_pe_name"
noncomputable def n__vformat : Str := Str.ofString "_vformat"
noncomputable def n__wall : Str := Str.ofString "_wall"
noncomputable def n_abs : Str := Str.ofString "abs"
noncomputable def n_any_sign : Str := Str.ofString "any_sign"
noncomputable def n_arg_used : Str := Str.ofString "arg_used"
noncomputable def n_args : Str := Str.ofString "args"
noncomputable def n_ascii : Str := Str.ofString "ascii"
noncomputable def n_auto_arg_index : Str := Str.ofString "auto_arg_index"
noncomputable def n_begin : Str := Str.ofString "begin"
noncomputable def n_bool : Str := Str.ofString "bool"
noncomputable def n_cell : Str := Str.ofString "cell"
noncomputable def n_cells : Str := Str.ofString "cells"
noncomputable def n_check_unused_args : Str := Str.ofString "check_unused_args"
noncomputable def n_chr : Str := Str.ofString "chr"
noncomputable def n_code : Str := Str.ofString "code"
noncomputable def n_conversion : Str := Str.ofString "conversion"
noncomputable def n_convert_field : Str := Str.ofString "convert_field"
noncomputable def n_dict : Str := Str.ofString "dict"
noncomputable def n_divmod : Str := Str.ofString "divmod"
noncomputable def n_due : Str := Str.ofString "due"
noncomputable def n_end : Str := Str.ofString "end"
noncomputable def n_enumerate : Str := Str.ofString "enumerate"
noncomputable def n_fault : Str := Str.ofString "fault"
noncomputable def n_field_name : Str := Str.ofString "field_name"
noncomputable def n_fields : Str := Str.ofString "fields"
noncomputable def n_figure : Str := Str.ofString "figure"
noncomputable def n_figures : Str := Str.ofString "figures"
noncomputable def n_fill : Str := Str.ofString "fill"
noncomputable def n_first : Str := Str.ofString "first"
noncomputable def n_format : Str := Str.ofString "format"
noncomputable def n_format_field : Str := Str.ofString "format_field"
noncomputable def n_format_spec : Str := Str.ofString "format_spec"
noncomputable def n_format_string : Str := Str.ofString "format_string"
noncomputable def n_further : Str := Str.ofString "further"
noncomputable def n_get_field : Str := Str.ofString "get_field"
noncomputable def n_get_value : Str := Str.ofString "get_value"
noncomputable def n_getattr : Str := Str.ofString "getattr"
noncomputable def n_grows : Str := Str.ofString "grows"
noncomputable def n_held : Str := Str.ofString "held"
noncomputable def n_i : Str := Str.ofString "i"
noncomputable def n_int : Str := Str.ofString "int"
noncomputable def n_is_attr : Str := Str.ofString "is_attr"
noncomputable def n_isinstance : Str := Str.ofString "isinstance"
noncomputable def n_k : Str := Str.ofString "k"
noncomputable def n_kept : Str := Str.ofString "kept"
noncomputable def n_key : Str := Str.ofString "key"
noncomputable def n_keys : Str := Str.ofString "keys"
noncomputable def n_kind : Str := Str.ofString "kind"
noncomputable def n_kinds : Str := Str.ofString "kinds"
noncomputable def n_kwargs : Str := Str.ofString "kwargs"
noncomputable def n_law : Str := Str.ofString "law"
noncomputable def n_left : Str := Str.ofString "left"
noncomputable def n_len : Str := Str.ofString "len"
noncomputable def n_list : Str := Str.ofString "list"
noncomputable def n_literal_text : Str := Str.ofString "literal_text"
noncomputable def n_maker : Str := Str.ofString "maker"
noncomputable def n_mark : Str := Str.ofString "mark"
noncomputable def n_max : Str := Str.ofString "max"
noncomputable def n_n : Str := Str.ofString "n"
noncomputable def n_name : Str := Str.ofString "name"
noncomputable def n_names : Str := Str.ofString "names"
noncomputable def n_number : Str := Str.ofString "number"
noncomputable def n_obj : Str := Str.ofString "obj"
noncomputable def n_one : Str := Str.ofString "one"
noncomputable def n_other : Str := Str.ofString "other"
noncomputable def n_over : Str := Str.ofString "over"
noncomputable def n_page : Str := Str.ofString "page"
noncomputable def n_parse : Str := Str.ofString "parse"
noncomputable def n_place : Str := Str.ofString "place"
noncomputable def n_plain : Str := Str.ofString "plain"
noncomputable def n_quote : Str := Str.ofString "quote"
noncomputable def n_range : Str := Str.ofString "range"
noncomputable def n_read : Str := Str.ofString "read"
noncomputable def n_recursion_depth : Str := Str.ofString "recursion_depth"
noncomputable def n_repr : Str := Str.ofString "repr"
noncomputable def n_rest : Str := Str.ofString "rest"
noncomputable def n_result : Str := Str.ofString "result"
noncomputable def n_row : Str := Str.ofString "row"
noncomputable def n_rows : Str := Str.ofString "rows"
noncomputable def n_script : Str := Str.ofString "script"
noncomputable def n_self : Str := Str.ofString "self"
noncomputable def n_set : Str := Str.ofString "set"
noncomputable def n_short : Str := Str.ofString "short"
noncomputable def n_shown : Str := Str.ofString "shown"
noncomputable def n_side : Str := Str.ofString "side"
noncomputable def n_sign : Str := Str.ofString "sign"
noncomputable def n_size : Str := Str.ofString "size"
noncomputable def n_stop : Str := Str.ofString "stop"
noncomputable def n_str : Str := Str.ofString "str"
noncomputable def n_text : Str := Str.ofString "text"
noncomputable def n_thing : Str := Str.ofString "thing"
noncomputable def n_things : Str := Str.ofString "things"
noncomputable def n_told : Str := Str.ofString "told"
noncomputable def n_tuple : Str := Str.ofString "tuple"
noncomputable def n_turn : Str := Str.ofString "turn"
noncomputable def n_type : Str := Str.ofString "type"
noncomputable def n_unknown : Str := Str.ofString "unknown"
noncomputable def n_used : Str := Str.ofString "used"
noncomputable def n_used_args : Str := Str.ofString "used_args"
noncomputable def n_value : Str := Str.ofString "value"
noncomputable def n_vformat : Str := Str.ofString "vformat"
noncomputable def n_way : Str := Str.ofString "way"
noncomputable def n_width : Str := Str.ofString "width"
noncomputable def n_word : Str := Str.ofString "word"
noncomputable def n_written : Str := Str.ofString "written"
noncomputable def n_x : Str := Str.ofString "x"
noncomputable def n_zip : Str := Str.ofString "zip"
/-- the names of the text -/
theorem names_ : Str.ofString ".0" = n_dot0 ∧ Str.ofString "Formatter" = n_Formatter ∧ Str.ofString "IndexError" = n_IndexError ∧ Str.ofString "KeyError" = n_KeyError ∧ Str.ofString "TypeError" = n_TypeError ∧ Str.ofString "ValueError" = n_ValueError ∧ Str.ofString "_" = n__ ∧ Str.ofString "__name__" = n___name__ ∧ Str.ofString "_law_cells" = n__law_cells ∧ Str.ofString "_law_close" = n__law_close ∧ Str.ofString "_law_drawn" = n__law_drawn ∧ Str.ofString "_law_fields" = n__law_fields ∧ Str.ofString "_law_found" = n__law_found ∧ Str.ofString "_law_past" = n__law_past ∧ Str.ofString "_law_read" = n__law_read ∧ Str.ofString "_law_text" = n__law_text ∧ Str.ofString "_law_thing" = n__law_thing ∧ Str.ofString "_law_things" = n__law_things ∧ Str.ofString "_law_told" = n__law_told ∧ Str.ofString "_law_word" = n__law_word ∧ Str.ofString "_pe_name" = n__pe_name ∧ Str.ofString "_vformat" = n__vformat ∧ Str.ofString "_wall" = n__wall ∧ Str.ofString "abs" = n_abs ∧ Str.ofString "any_sign" = n_any_sign ∧ Str.ofString "arg_used" = n_arg_used ∧ Str.ofString "args" = n_args ∧ Str.ofString "ascii" = n_ascii ∧ Str.ofString "auto_arg_index" = n_auto_arg_index ∧ Str.ofString "begin" = n_begin ∧ Str.ofString "bool" = n_bool ∧ Str.ofString "cell" = n_cell ∧ Str.ofString "cells" = n_cells ∧ Str.ofString "check_unused_args" = n_check_unused_args ∧ Str.ofString "chr" = n_chr ∧ Str.ofString "code" = n_code ∧ Str.ofString "conversion" = n_conversion ∧ Str.ofString "convert_field" = n_convert_field ∧ Str.ofString "dict" = n_dict ∧ Str.ofString "divmod" = n_divmod ∧ Str.ofString "due" = n_due ∧ Str.ofString "end" = n_end ∧ Str.ofString "enumerate" = n_enumerate ∧ Str.ofString "fault" = n_fault ∧ Str.ofString "field_name" = n_field_name ∧ Str.ofString "fields" = n_fields ∧ Str.ofString "figure" = n_figure ∧ Str.ofString "figures" = n_figures ∧ Str.ofString "fill" = n_fill ∧ Str.ofString "first" = n_first ∧ Str.ofString "format" = n_format ∧ Str.ofString "format_field" = n_format_field ∧ Str.ofString "format_spec" = n_format_spec ∧ Str.ofString "format_string" = n_format_string ∧ Str.ofString "further" = n_further ∧ Str.ofString "get_field" = n_get_field ∧ Str.ofString "get_value" = n_get_value ∧ Str.ofString "getattr" = n_getattr ∧ Str.ofString "grows" = n_grows ∧ Str.ofString "held" = n_held ∧ Str.ofString "i" = n_i ∧ Str.ofString "int" = n_int ∧ Str.ofString "is_attr" = n_is_attr ∧ Str.ofString "isinstance" = n_isinstance ∧ Str.ofString "k" = n_k ∧ Str.ofString "kept" = n_kept ∧ Str.ofString "key" = n_key ∧ Str.ofString "keys" = n_keys ∧ Str.ofString "kind" = n_kind ∧ Str.ofString "kinds" = n_kinds ∧ Str.ofString "kwargs" = n_kwargs ∧ Str.ofString "law" = n_law ∧ Str.ofString "left" = n_left ∧ Str.ofString "len" = n_len ∧ Str.ofString "list" = n_list ∧ Str.ofString "literal_text" = n_literal_text ∧ Str.ofString "maker" = n_maker ∧ Str.ofString "mark" = n_mark ∧ Str.ofString "max" = n_max ∧ Str.ofString "n" = n_n ∧ Str.ofString "name" = n_name ∧ Str.ofString "names" = n_names ∧ Str.ofString "number" = n_number ∧ Str.ofString "obj" = n_obj ∧ Str.ofString "one" = n_one ∧ Str.ofString "other" = n_other ∧ Str.ofString "over" = n_over ∧ Str.ofString "page" = n_page ∧ Str.ofString "parse" = n_parse ∧ Str.ofString "place" = n_place ∧ Str.ofString "plain" = n_plain ∧ Str.ofString "quote" = n_quote ∧ Str.ofString "range" = n_range ∧ Str.ofString "read" = n_read ∧ Str.ofString "recursion_depth" = n_recursion_depth ∧ Str.ofString "repr" = n_repr ∧ Str.ofString "rest" = n_rest ∧ Str.ofString "result" = n_result ∧ Str.ofString "row" = n_row ∧ Str.ofString "rows" = n_rows ∧ Str.ofString "script" = n_script ∧ Str.ofString "self" = n_self ∧ Str.ofString "set" = n_set ∧ Str.ofString "short" = n_short ∧ Str.ofString "shown" = n_shown ∧ Str.ofString "side" = n_side ∧ Str.ofString "sign" = n_sign ∧ Str.ofString "size" = n_size ∧ Str.ofString "stop" = n_stop ∧ Str.ofString "str" = n_str ∧ Str.ofString "text" = n_text ∧ Str.ofString "thing" = n_thing ∧ Str.ofString "things" = n_things ∧ Str.ofString "told" = n_told ∧ Str.ofString "tuple" = n_tuple ∧ Str.ofString "turn" = n_turn ∧ Str.ofString "type" = n_type ∧ Str.ofString "unknown" = n_unknown ∧ Str.ofString "used" = n_used ∧ Str.ofString "used_args" = n_used_args ∧ Str.ofString "value" = n_value ∧ Str.ofString "vformat" = n_vformat ∧ Str.ofString "way" = n_way ∧ Str.ofString "width" = n_width ∧ Str.ofString "word" = n_word ∧ Str.ofString "written" = n_written ∧ Str.ofString "x" = n_x ∧ Str.ofString "zip" = n_zip := ⟨rfl, rfl, rfl, rfl, rfl, rfl, rfl, rfl, rfl, rfl, rfl, rfl, rfl, rfl, rfl, rfl, rfl, rfl, rfl, rfl, rfl, rfl, rfl, rfl, rfl, rfl, rfl, rfl, rfl, rfl, rfl, rfl, rfl, rfl, rfl, rfl, rfl, rfl, rfl, rfl, rfl, rfl, rfl, rfl, rfl, rfl, rfl, rfl, rfl, rfl, rfl, rfl, rfl, rfl, rfl, rfl, rfl, rfl, rfl, rfl, rfl, rfl, rfl, rfl, rfl, rfl, rfl, rfl, rfl, rfl, rfl, rfl, rfl, rfl, rfl, rfl, rfl, rfl, rfl, rfl, rfl, rfl, rfl, rfl, rfl, rfl, rfl, rfl, rfl, rfl, rfl, rfl, rfl, rfl, rfl, rfl, rfl, rfl, rfl, rfl, rfl, rfl, rfl, rfl, rfl, rfl, rfl, rfl, rfl, rfl, rfl, rfl, rfl, rfl, rfl, rfl, rfl, rfl, rfl, rfl, rfl, rfl, rfl, rfl, rfl, rfl, rfl, rfl⟩
theorem lit_of {a : Str} {b : List Nat} (h : a = S b) : Const.str a = Const.str (S b) := congrArg _ h
/-- the texts of the text -/
theorem slits : Const.str (Str.ofString " ") = Const.str (S [32]) ∧ Const.str (Str.ofString " .*é<") = Const.str (S [32, 46, 42, 233, 60]) ∧ Const.str (Str.ofString "") = Const.str (S []) ∧ Const.str (Str.ofString "'") = Const.str (S [39]) ∧ Const.str (Str.ofString "'\"") = Const.str (S [39, 34]) ∧ Const.str (Str.ofString "'\"\\\n\u000d\t|é a0\u007f\u00ad.\u2028*") = Const.str (S [39, 34, 92, 10, 13, 9, 124, 233, 32, 97, 48, 127, 173, 46, 8232, 42]) ∧ Const.str (Str.ofString "(") = Const.str (S [40]) ∧ Const.str (Str.ofString "-") = Const.str (S [45]) ∧ Const.str (Str.ofString "-1") = Const.str (S [45, 49]) ∧ Const.str (Str.ofString "0") = Const.str (S [48]) ∧ Const.str (Str.ofString "0123456789") = Const.str (S [48, 49, 50, 51, 52, 53, 54, 55, 56, 57]) ∧ Const.str (Str.ofString "0123456789abcdef") = Const.str (S [48, 49, 50, 51, 52, 53, 54, 55, 56, 57, 97, 98, 99, 100, 101, 102]) ∧ Const.str (Str.ofString "1.5") = Const.str (S [49, 46, 53]) ∧ Const.str (Str.ofString ": ") = Const.str (S [58, 32]) ∧ Const.str (Str.ofString ":") = Const.str (S [58]) ∧ Const.str (Str.ofString "<") = Const.str (S [60]) ∧ Const.str (Str.ofString ">") = Const.str (S [62]) ∧ Const.str (Str.ofString "False") = Const.str (S [70, 97, 108, 115, 101]) ∧ Const.str (Str.ofString "IndexError") = Const.str (S [73, 110, 100, 101, 120, 69, 114, 114, 111, 114]) ∧ Const.str (Str.ofString "KeyError") = Const.str (S [75, 101, 121, 69, 114, 114, 111, 114]) ∧ Const.str (Str.ofString "None") = Const.str (S [78, 111, 110, 101]) ∧ Const.str (Str.ofString "True") = Const.str (S [84, 114, 117, 101]) ∧ Const.str (Str.ofString "U") = Const.str (S [85]) ∧ Const.str (Str.ofString "Unknown conversion specifier ") = Const.str (S [85, 110, 107, 110, 111, 119, 110, 32, 99, 111, 110, 118, 101, 114, 115, 105, 111, 110, 32, 115, 112, 101, 99, 105, 102, 105, 101, 114, 32]) ∧ Const.str (Str.ofString "Unknown conversion specifier {0!s}") = Const.str (S [85, 110, 107, 110, 111, 119, 110, 32, 99, 111, 110, 118, 101, 114, 115, 105, 111, 110, 32, 115, 112, 101, 99, 105, 102, 105, 101, 114, 32, 123, 48, 33, 115, 125]) ∧ Const.str (Str.ofString "[") = Const.str (S [91]) ∧ Const.str (Str.ofString "[({") = Const.str (S [91, 40, 123]) ∧ Const.str (Str.ofString "\"") = Const.str (S [34]) ∧ Const.str (Str.ofString "\\") = Const.str (S [92]) ∧ Const.str (Str.ofString "\n") = Const.str (S [10]) ∧ Const.str (Str.ofString "\n\u000d\t") = Const.str (S [10, 13, 9]) ∧ Const.str (Str.ofString "\n\u000d\té 0\u007f\u00ad") = Const.str (S [10, 13, 9, 233, 32, 48, 127, 173]) ∧ Const.str (Str.ofString "\t") = Const.str (S [9]) ∧ Const.str (Str.ofString "\u000d") = Const.str (S [13]) ∧ Const.str (Str.ofString "\u007f") = Const.str (S [127]) ∧ Const.str (Str.ofString "]") = Const.str (S [93]) ∧ Const.str (Str.ofString "^") = Const.str (S [94]) ∧ Const.str (Str.ofString "a") = Const.str (S [97]) ∧ Const.str (Str.ofString "key") = Const.str (S [107, 101, 121]) ∧ Const.str (Str.ofString "x y") = Const.str (S [120, 32, 121]) ∧ Const.str (Str.ofString "é") = Const.str (S [233]) ∧ Const.str (Str.ofString "list") = Const.str (S [108, 105, 115, 116]) ∧ Const.str (Str.ofString "n") = Const.str (S [110]) ∧ Const.str (Str.ofString "r") = Const.str (S [114]) ∧ Const.str (Str.ofString "s") = Const.str (S [115]) ∧ Const.str (Str.ofString "t") = Const.str (S [116]) ∧ Const.str (Str.ofString "table") = Const.str (S [116, 97, 98, 108, 101]) ∧ Const.str (Str.ofString "tuple") = Const.str (S [116, 117, 112, 108, 101]) ∧ Const.str (Str.ofString "u") = Const.str (S [117]) ∧ Const.str (Str.ofString "x") = Const.str (S [120]) ∧ Const.str (Str.ofString "{") = Const.str (S [123]) ∧ Const.str (Str.ofString "}") = Const.str (S [125]) ∧ Const.str (Str.ofString ")") = Const.str (S [41]) ∧ Const.str (Str.ofString "])}") = Const.str (S [93, 41, 125]) ∧ Const.str (Str.ofString ", ") = Const.str (S [44, 32]) ∧ Const.str (Str.ofString ",") = Const.str (S [44]) ∧ Const.str (Str.ofString ",)") = Const.str (S [44, 41]) ∧ Const.str (Str.ofString "|") = Const.str (S [124]) ∧ Const.str (Str.ofString "| .*é<") = Const.str (S [124, 32, 46, 42, 233, 60]) ∧ Const.str (Str.ofString "~") = Const.str (S [126]) ∧ Const.str (Str.ofString "not ") = Const.str (S [110, 111, 116, 32]) ∧ Const.str (Str.ofString "cpy313.string") = Const.str (S [99, 112, 121, 51, 49, 51, 46, 115, 116, 114, 105, 110, 103]) := ⟨lit_of (by decide +kernel), lit_of (by decide +kernel), lit_of (by decide +kernel), lit_of (by decide +kernel), lit_of (by decide +kernel), lit_of (by decide +kernel), lit_of (by decide +kernel), lit_of (by decide +kernel), lit_of (by decide +kernel), lit_of (by decide +kernel), lit_of (by decide +kernel), lit_of (by decide +kernel), lit_of (by decide +kernel), lit_of (by decide +kernel), lit_of (by decide +kernel), lit_of (by decide +kernel), lit_of (by decide +kernel), lit_of (by decide +kernel), lit_of (by decide +kernel), lit_of (by decide +kernel), lit_of (by decide +kernel), lit_of (by decide +kernel), lit_of (by decide +kernel), lit_of (by decide +kernel), lit_of (by decide +kernel), lit_of (by decide +kernel), lit_of (by decide +kernel), lit_of (by decide +kernel), lit_of (by decide +kernel), lit_of (by decide +kernel), lit_of (by decide +kernel), lit_of (by decide +kernel), lit_of (by decide +kernel), lit_of (by decide +kernel), lit_of (by decide +kernel), lit_of (by decide +kernel), lit_of (by decide +kernel), lit_of (by decide +kernel), lit_of (by decide +kernel), lit_of (by decide +kernel), lit_of (by decide +kernel), lit_of (by decide +kernel), lit_of (by decide +kernel), lit_of (by decide +kernel), lit_of (by decide +kernel), lit_of (by decide +kernel), lit_of (by decide +kernel), lit_of (by decide +kernel), lit_of (by decide +kernel), lit_of (by decide +kernel), lit_of (by decide +kernel), lit_of (by decide +kernel), lit_of (by decide +kernel), lit_of (by decide +kernel), lit_of (by decide +kernel), lit_of (by decide +kernel), lit_of (by decide +kernel), lit_of (by decide +kernel), lit_of (by decide +kernel), lit_of (by decide +kernel), lit_of (by decide +kernel), lit_of (by decide +kernel)⟩
theorem bn_len : bootBuiltins n_len = some (.builtin "len") := rfl
theorem bn_isinstance : bootBuiltins n_isinstance = some (.builtin "isinstance") := rfl
theorem bn_chr : bootBuiltins n_chr = some (.builtin "chr") := rfl
theorem bn_divmod : bootBuiltins n_divmod = some (.builtin "divmod") := rfl
theorem bn_abs : bootBuiltins n_abs = some (.builtin "abs") := rfl
theorem bn_repr : bootBuiltins n_repr = some (.builtin "repr") := rfl
theorem bn_ascii : bootBuiltins n_ascii = some (.builtin "ascii") := rfl
theorem bn_format : bootBuiltins n_format = some (.builtin "format") := rfl
theorem bn_max : bootBuiltins n_max = some (.builtin "max") := rfl
theorem bn_str : bootBuiltins n_str = some (.type "str") := rfl
theorem bn_dict : bootBuiltins n_dict = some (.type "dict") := rfl
theorem bn_bool : bootBuiltins n_bool = some (.type "bool") := rfl
theorem bn_int : bootBuiltins n_int = some (.type "int") := rfl
theorem bn_range : bootBuiltins n_range = some (.type "range") := rfl
theorem bn_enumerate : bootBuiltins n_enumerate = some (.type "enumerate") := rfl
theorem bn_set : bootBuiltins n_set = some (.type "set") := rfl
end Mine
end
-- part C8
section
open PySem PySem.Spec PySem.Calls PyProof.Rows PySem.W
namespace Mine
theorem idx_hi (lo : Option Int) (n : Nat) : Builtin.Str.strSliceIndices lo none 1 n = Builtin.Str.strSliceIndices lo (some ((n : Nat) : Int)) 1 n := by
  unfold Builtin.Str.strSliceIndices
  simp only [show (1 : Int) > 0 by decide, if_true]
  congr 1
  have : ¬ ((n : Int) < 0) := by omega
  rw [if_neg this]
  omega
theorem slice_lo (a : List Nat) (i : Nat) : Txt.slice (S a) (some (i : Int)) none = S (a.drop i) := by
  have e : Txt.slice (S a) (some (i : Int)) none = Txt.slice (S a) (some (i : Int)) (some ((S a).length : Int)) := by unfold Txt.slice; rw [idx_hi]
  rw [e, slice_nat, List.take_of_length_le (by simp)]

section
variable {X : Fx} {B B' : FMap} {O : Owns} {l l' : Locs} {s s' : Shared} {prog : Program} {w : World} {A : Around} {E : Value → Shared → Prop} {Q : Value → Shared → Prop} {env : Env}

def CutLo (Q : Value → Shared → Prop) (o iv : Value) (s₃ : Shared) : Prop :=
  ∃ X B O l a t i ti, o = .str (S a) t ∧ iv = .int i ti ∧ a.length ≤ sizeLine ∧ St X B O l s₃ ∧ ∀ t s', St X B O l s' → Q (.str (Txt.slice (S a) (some i) none) t) s'
theorem cut_lo {a : List Nat} {t ti : Tok} {i' : Int} (i : Nat) (H : St X B O l s) (hz : a.length ≤ sizeLine) (hi : i' = i) (h : ∀ t s', St X B O l s' → Q (.str (S (a.drop i)) t) s') :
    CutLo Q (.str (S a) t) (.int i' ti) s := by
  subst hi
  exact ⟨X, B, O, l, a, t, _, ti, rfl, rfl, hz, H, fun t s' H => by rw [slice_lo]; exact h t s' H⟩
/-- text[i:] -/
theorem e_cutL {value lo : Expr} {p pos : Pos}
    (h : wpAny (model prog w) A (eval value env) (fun o s₁ => wpAny (model prog w) A (eval lo env) (fun iv s₂ => CutLo Q o iv s₂) E s₁) E s)
    (hs : ∀ o i, (∃ x t, o = Value.str x t) → (∃ a, i = Value.ref a) → subscripted (.Slice (some lo) none none p) false o i = operate [i, o] (getItem o i) := by rintro _ _ ⟨_, _, rfl⟩ ⟨_, rfl⟩; with_unfolding_all rfl)
    (ht : ∀ o r, (∃ x t, o = Value.str x t) → letTemporaryGo value o r = pure () := by rintro _ _ ⟨_, _, rfl⟩; with_unfolding_all rfl) :
    wpAny (model prog w) A (eval (.Subscript value (.Slice (some lo) none none p) pos) env) Q E s := by
  refine Subscript_ (wpAny_mono h (fun o s₁ h₁ => ?_) fun _ _ x => x)
  refine wpAny_Slice (wpAny_evalPart_some (wpAny_mono h₁ (fun iv s₂ h₂ => wpAny_evalPart_none (wpAny_evalPart_none ?_)) fun _ _ x => x))
  obtain ⟨X, B, O, l, a, t, i, ti, rfl, rfl, hz, H, hQ⟩ := h₂
  refine any_toks ?_
  refine tail_of_ItemOn (SBH.sliceItem_sn (P := fun h' => Keep s₂.heap h') (fun h ob k => k.trans (keep_push _ _)) (Keep.refl _) (fun h' t' k hk (hle : s₂.toks ≤ k) => hQ _ _ (H.keeps hk)) (by simpa using hz)) (hs _ _ ⟨_, _, rfl⟩ ⟨_, rfl⟩) fun r => ht _ _ ⟨_, _, rfl⟩
/-- text in / not in a list of texts -/
def strIs (a : List Nat) (v : Value) : Bool := match v with | .str x _ => x == S a | _ => false
theorem strIs_str (a b : List Nat) (t : Tok) : strIs a (.str (S b) t) = (b == a) := S_beq b a
def AllStr (vs : List Value) : Prop := ∀ v ∈ vs, ∃ x t, v = Value.str x t
theorem q_inL {a : List Nat} {t : Tok} {x : Addr} {vs : List Value} (H : St X B O l s) (hx : B x = some { cls := .type "list", data := .seq vs.toArray }) (hv : AllStr vs) (h : Q (.bool (vs.any (strIs a))) s) :
    wpAny (model prog w) A (compareOp .In (.str (S a) t) (.ref x)) Q E s := by
  refine SeqAt.in_listAt (items := vs.toArray) (strIs a) ⟨_, H.fz _ _ hx, rfl, 0, rfl⟩ (fun y hy => ?_) (by simpa using h)
  obtain ⟨z, u, rfl⟩ := hv y (by simpa using hy)
  exact SeqAt.EqAt.str_str _ _ _ _
theorem u_neg {i : Int} {t : Tok} (H : St X B O l s) (h : ∀ t s', St X B O l s' → Q (.int (-i) t) s') : wpAny (model prog w) A (unaryOp .USub (.int i t)) Q E s := PyProof.Rows.neg_int (h _ _ H.tok)
end
end Mine
end
-- part C9
section
open PySem PySem.Spec PySem.Calls PyProof.Rows PySem.W
namespace Mine
/-- a key of a table: a whole number or a text -/
inductive Ky where
  | i (n : Int)
  | s (x : Str)
deriving DecidableEq
def Ky.dat : Ky → PyData
  | .i n => .int n
  | .s x => .str x
def Ky.is : Ky → Value → Bool
  | .i n, .int m _ => m == n
  | .s x, .str y _ => y == x
  | _, _ => false
theorem Ky.is_i {n : Int} {v : Value} (h : Ky.is (.i n) v = true) : ∃ t, v = .int n t := by
  cases v <;> simp [Ky.is] at h
  exact ⟨_, by rw [h]⟩
theorem Ky.is_s {x : Str} {v : Value} (h : Ky.is (.s x) v = true) : ∃ t, v = .str x t := by
  cases v <;> simp [Ky.is] at h
  exact ⟨_, by rw [h]⟩
def mixKind (prog : Program) (w : World) : PySem.KeyKind prog w Ky where
  is := Ky.is
  hash := fun k => match k with | .i n => hashInt n | .s x => hashStr w x
  inj := fun v a b ha hb => by
    cases a <;> cases b
    · obtain ⟨t, rfl⟩ := Ky.is_i ha; obtain ⟨u, h⟩ := Ky.is_i hb; cases h; rfl
    · obtain ⟨t, rfl⟩ := Ky.is_i ha; obtain ⟨u, h⟩ := Ky.is_s hb; cases h
    · obtain ⟨t, rfl⟩ := Ky.is_s ha; obtain ⟨u, h⟩ := Ky.is_i hb; cases h
    · obtain ⟨t, rfl⟩ := Ky.is_s ha; obtain ⟨u, h⟩ := Ky.is_s hb; cases h; rfl
  byValue := fun k v h => by
    cases k
    · obtain ⟨t, rfl⟩ := Ky.is_i h; rfl
    · obtain ⟨t, rfl⟩ := Ky.is_s h; rfl
  pyHash := fun {A E s k v Q} hv h => by
    cases k
    · obtain ⟨t, rfl⟩ := Ky.is_i hv; exact wpAny_pyHash_int h
    · obtain ⟨t, rfl⟩ := Ky.is_s hv; exact wpAny_pyHash_str h
  eqBool := fun {A E s a b u v Q} hu hv h => by
    cases a <;> cases b
    · obtain ⟨t, rfl⟩ := Ky.is_i hu; obtain ⟨t', rfl⟩ := Ky.is_i hv
      refine wpAny_eqBool_int ?_
      rename_i n1 n2
      have e : (n1 == n2) = decide (Ky.i n1 = Ky.i n2) := by rw [Bool.eq_iff_iff]; simp
      rw [e]; exact h
    · obtain ⟨t, rfl⟩ := Ky.is_i hu; obtain ⟨t', rfl⟩ := Ky.is_s hv
      refine SeqAt.EqAt.int_str _ _ _ _ prog w E Q ?_
      simpa using h
    · obtain ⟨t, rfl⟩ := Ky.is_s hu; obtain ⟨t', rfl⟩ := Ky.is_i hv
      refine SeqAt.EqAt.str_int _ _ _ _ prog w E Q ?_
      simpa using h
    · obtain ⟨t, rfl⟩ := Ky.is_s hu; obtain ⟨t', rfl⟩ := Ky.is_s hv
      refine wpAny_eqBool_str ?_
      simpa using h
  «strs» := fun k x t v h => by
    cases k
    · obtain ⟨u, hu⟩ := Ky.is_i h; cases hu
    · obtain ⟨u, hu⟩ := Ky.is_s h
      cases hu
      cases v <;> rfl
mutual
/-- a value that is this thing, by the frozen objects alone -/
inductive Rd (prog : Program) (w : World) (B : FMap) : Value → PyData → Prop
  | none : Rd prog w B .none .none
  | bool (b) : Rd prog w B (.bool b) (.bool b)
  | int (i t) : Rd prog w B (.int i t) (.int i)
  | str (x t) : Rd prog w B (.str x t) (.str x)
  | list {a o vs n ds} : B a = some o → o.cls = .type "list" → o.data = .seq vs n → RdAll prog w B vs.toList ds → Rd prog w B (.ref a) (.list ds)
  | tuple {a o vs n ds} : B a = some o → o.cls = .type "tuple" → o.data = .seq vs n → RdAll prog w B vs.toList ds → Rd prog w B (.ref a) (.tuple ds)
  | dict {a kvs ks ds} : BD (mixKind prog w) B a kvs → ks = kvs.map (fun kv => kv.1) → RdAll prog w B (kvs.map (fun kv => kv.2)) ds → Rd prog w B (.ref a) (.dict (List.zipWith (fun k d => (Ky.dat k, d)) ks ds))
inductive RdAll (prog : Program) (w : World) (B : FMap) : List Value → List PyData → Prop
  | nil : RdAll prog w B [] []
  | cons {v vs d ds} : Rd prog w B v d → RdAll prog w B vs ds → RdAll prog w B (v :: vs) (d :: ds)
end

variable {prog : Program} {w : World} {B B' : FMap}
mutual
theorem Rd.sub {v d} (hs : Sub B B') : Rd prog w B v d → Rd prog w B' v d
  | .none => .none
  | .bool b => .bool b
  | .int i t => .int i t
  | .str x t => .str x t
  | .list h1 h2 h3 h4 => .list (hs _ _ h1) h2 h3 (h4.sub hs)
  | .tuple h1 h2 h3 h4 => .tuple (hs _ _ h1) h2 h3 (h4.sub hs)
  | .dict h1 h2 h3 => .dict (h1.sub hs) h2 (h3.sub hs)
theorem RdAll.sub {vs ds} (hs : Sub B B') : RdAll prog w B vs ds → RdAll prog w B' vs ds
  | .nil => .nil
  | .cons h1 h2 => .cons (h1.sub hs) (h2.sub hs)
end
theorem RdAll.length {vs ds} : RdAll prog w B vs ds → vs.length = ds.length
  | .nil => rfl
  | .cons _ h => by simp [h.length]
theorem RdAll.append {vs ds vs' ds'} : RdAll prog w B vs ds → RdAll prog w B vs' ds' → RdAll prog w B (vs ++ vs') (ds ++ ds')
  | .nil, h => h
  | .cons h1 h2, h => .cons h1 (h2.append h)
theorem RdAll.get {vs ds} : RdAll prog w B vs ds → ∀ {i : Nat} {v}, vs[i]? = some v → ∃ d, ds[i]? = some d ∧ Rd prog w B v d
  | .nil, _, _, h => by simp at h
  | .cons h1 h2, 0, v, h => by simp at h; subst h; exact ⟨_, rfl, h1⟩
  | .cons h1 h2, i + 1, v, h => by simpa using h2.get (by simpa using h)
theorem zip_fst : ∀ {ks : List Ky} {ds : List PyData}, ks.length = ds.length → (List.zipWith (fun k d => (Ky.dat k, d)) ks ds).map (·.1) = ks.map Ky.dat
  | [], [], _ => rfl
  | k :: ks, d :: ds, h => by simp [zip_fst (ks := ks) (ds := ds) (by simpa using h)]
theorem zip_snd : ∀ {ks : List Ky} {ds : List PyData}, ks.length = ds.length → (List.zipWith (fun k d => (Ky.dat k, d)) ks ds).map (·.2) = ds
  | [], [], _ => rfl
  | k :: ks, d :: ds, h => by simp [zip_snd (ks := ks) (ds := ds) (by simpa using h)]
theorem key_read {h : Heap} {k : Ky} {v : Value} (hk : (mixKind prog w).is k v = true) : Reads h v k.dat [] := by
  cases k
  · obtain ⟨t, rfl⟩ := Ky.is_i hk; exact .int _ _
  · obtain ⟨t, rfl⟩ := Ky.is_s hk; exact .str _ _
theorem keys_read {h : Heap} {es : List DictEntry} {kvs : List (Ky × Value)} (hp : Pairs (mixKind prog w) es kvs) : ReadsAll h (es.map (·.key)) (kvs.map fun kv => kv.1.dat) [] := by
  induction hp with
  | nil => exact .nil
  | cons h1 h2 _ ih => exact .cons (as := []) (bs := []) (key_read h1) ih
theorem vals_eq {es : List DictEntry} {kvs : List (Ky × Value)} (hp : Pairs (mixKind prog w) es kvs) : es.map (·.val) = kvs.map (·.2) := by
  induction hp with
  | nil => rfl
  | cons h1 h2 _ ih => simp [h2, ih]

mutual
theorem Rd.reads {h : Heap} (hB : Fz B h) {v d} : Rd prog w B v d → ∃ as, Reads h v d as ∧ sysModules ∉ as
  | .none => ⟨_, .none, by simp⟩
  | .bool b => ⟨_, .bool b, by simp⟩
  | .int i t => ⟨_, .int i t, by simp⟩
  | .str x t => ⟨_, .str x t, by simp⟩
  | .list h1 h2 h3 h4 => by
    obtain ⟨as, ha, hn⟩ := h4.reads hB
    exact ⟨_, .list (hB.fz _ _ h1) h2 h3 ha, by simp; exact ⟨fun e => hB.low _ _ h1 e.symm, hn⟩⟩
  | .tuple h1 h2 h3 h4 => by
    obtain ⟨as, ha, hn⟩ := h4.reads hB
    exact ⟨_, .tuple (hB.fz _ _ h1) h2 h3 ha, hn⟩
  | .dict h1 h2 h3 => by
    obtain ⟨as, ha, hn⟩ := h3.reads hB
    obtain ⟨_, o, ho, es, ep, h5, h6, h7, h8, h9⟩ := h1
    subst h2
    have hl := h3.length
    rw [List.length_map] at hl
    replace hl := (List.length_map (fun kv : Ky × Value => kv.1)).trans hl
    refine ⟨_, .dict (hB.fz _ _ ho) h5.1 h6 (as := []) (bs := as) ?_ ?_, ?_⟩
    · rw [zip_fst hl, List.map_map]; exact keys_read h8
    · rw [zip_snd hl, vals_eq h8]; exact ha
    · simp; exact ⟨fun e => hB.low _ _ ho e.symm, hn⟩
theorem RdAll.reads {h : Heap} (hB : Fz B h) {vs ds} : RdAll prog w B vs ds → ∃ as, ReadsAll h vs ds as ∧ sysModules ∉ as
  | .nil => ⟨_, .nil, by simp⟩
  | .cons h1 h2 => by
    obtain ⟨as, ha, hn⟩ := h1.reads hB
    obtain ⟨bs, hb, hm⟩ := h2.reads hB
    exact ⟨_, .cons ha hb, by simp [hn, hm]⟩
end
end Mine
end
-- part C10
section
open PySem PySem.Spec PySem.Calls PyProof.Rows PySem.W
namespace Mine
/-- among the owned objects the one at a goes over -/
inductive OPut : Owns → Addr → (Obj → Prop) → (Obj → Prop) → Owns → Prop
  | here {a P P' r} : OPut ((a, P) :: r) a P P' ((a, P') :: r)
  | there {q r a P P' r'} : OPut r a P P' r' → OPut (q :: r) a P P' (q :: r')
theorem OPut.split {O a P P' O'} (h : OPut O a P P' O') : ∃ O₁ O₂, O = O₁ ++ (a, P) :: O₂ ∧ O' = O₁ ++ (a, P') :: O₂ := by
  induction h with
  | here => exact ⟨[], _, rfl, rfl⟩
  | @there q _ _ _ _ _ _ ih => obtain ⟨O₁, O₂, h1, h2⟩ := ih; exact ⟨q :: O₁, O₂, by rw [h1]; rfl, by rw [h2]; rfl⟩
/-- the owned object at a, and the others -/
inductive OPop : Owns → Addr → (Obj → Prop) → Owns → Prop
  | here {a P r} : OPop ((a, P) :: r) a P r
  | there {q r a P r'} : OPop r a P r' → OPop (q :: r) a P (q :: r')
theorem OPop.split {O a P O'} (h : OPop O a P O') : ∃ O₁ O₂, O = O₁ ++ (a, P) :: O₂ ∧ O' = O₁ ++ O₂ := by
  induction h with
  | here => exact ⟨[], _, rfl, rfl⟩
  | @there q _ _ _ _ _ ih => obtain ⟨O₁, O₂, h1, h2⟩ := ih; exact ⟨q :: O₁, O₂, by rw [h1]; rfl, by rw [h2]; rfl⟩

section
variable {X : Fx} {B B' : FMap} {O O' : Owns} {l l' : Locs} {s s' : Shared} {prog : Program} {w : World} {A : Around} {E : Value → Shared → Prop} {Q : Value → Shared → Prop} {env : Env}

theorem St.ownAt {a : Addr} {P : Obj → Prop} (H : St X B O l s) (ho : OPop O a P O') : ∃ o, s.heap.get? a = some o ∧ P o := by
  obtain ⟨O₁, O₂, rfl, _⟩ := ho.split
  exact (H.own (a, P) (by simp)).1
theorem e_append {a : Addr} {vs : List Value} {x : Value} (H : St X B O l s) (ho : OPut O a (LO vs) (LO (vs ++ [x])) O') (hz : vs.length ≤ sizeLine) (h : ∀ s', St X B O' l s' → Q .none s') :
    wpAny (model prog w) A (call (.builtin "list.append") [.ref a, x]) Q E s := by
  obtain ⟨O₁, O₂, rfl, rfl⟩ := ho.split
  obtain ⟨o, ho', n, rfl⟩ := (H.own (a, LO vs) (by simp)).1
  refine wpAny_list_append_plain (items := vs.toArray) ⟨n, ho'⟩ (fun h' ⟨n', hl⟩ hs => ?_) (by simpa using hz)
  exact h _ (H.turn rfl (n := s.toks) (fun b o hb e => (hs.2 b hb).trans e) hl ⟨n', by simp⟩)
theorem m_append {a : Addr} {vs : List Value} {pl : Sem Bool} {Q : Value × List Value → Shared → Prop} (H : St X B O l s) (ho : OPop O a (LO vs) O') (h : Q (.builtin "list.append", [.ref a]) s) :
    wpAny (model prog w) A (getMethod (.ref a) "append" pl) Q E s := by
  obtain ⟨o, ho', n, rfl⟩ := H.ownAt ho
  exact getMethod_builtin ⟨_, ho', rfl⟩ PySem.F.plainAttrs_list PySem.F.slot_list_append PySem.F.type_list_append (fun b e => by cases e; exact ⟨_, ho', rfl⟩) h
theorem x_unpack {elts : List Expr} {k : Nat} {tpos pos : Pos} {value : Expr} {rest : List Stmt} {Q : Flow → Shared → Prop} (h : wpAny (model prog w) A (eval value env) (fun v s₁ => wpAny (model prog w) A (assign (.Tuple elts k tpos) env v) (fun _ s₂ => wpAny (model prog w) A (execs rest env) Q E s₂) E s₁) E s)
    (hs : swapsWithSole [.Tuple elts k tpos] value pos.line env = pure false := by rfl)
    (hw : swappedStores [.Tuple elts k tpos] value env = pure none := by rfl) :
    wpAny (model prog w) A (execs (.Assign [.Tuple elts k tpos] value pos :: rest) env) Q E s := wpAny_execs_cons (Assign_Tuple h hs hw)
theorem a_two {x y : Str} {p1 p2 tpos : Pos} {k : Nat} {t : Addr} {v1 v2 : Value} {Q : Unit → Shared → Prop} (hh : A.handled = none) (H : St X B O l s) (ht : B t = some { cls := .type "tuple", data := .seq #[v1, v2] })
    (h : ∀ s', St X B O l s' → wpAny (model prog w) A (storeName X.env x v1) (fun _ s₁ => wpAny (model prog w) A (storeName X.env y v2) Q E s₁) E s') :
    wpAny (model prog w) A (assign (.Tuple [.Name x p1, .Name y p2] k tpos) X.env (.ref t)) Q E s := by
  refine wpAny_assign_Tuple (items := #[v1, v2]) hh ⟨_, H.fz _ _ ht, rfl, 0, rfl⟩ rfl rfl fun h' he => ?_
  have hk : Keep s.heap h' := fun b o e => he b o (Nat.ne_of_lt (Heap.lt_size e)) e
  refine wpAny_assignInOrder_more (wpAny_assign_Name (wpAny_mono (h _ (H.keeps (n := s.toks) hk)) (fun _ s₁ h₁ => ?_) fun _ _ x => x))
  exact wpAny_assignInOrder_more (wpAny_assign_Name (wpAny_mono h₁ (fun _ s₂ h₂ => wpAny_assignInOrder_none h₂) fun _ _ x => x))
end
end Mine
end
-- part C11
section
open PySem PySem.Spec PySem.Calls PyProof.Rows PySem.W
namespace Mine
/-- the frame of a comprehension that stands in X -/
def Fx.comp (X : Fx) (scope : Scope) (cl : List (Str × Addr)) (C : Addr) (h : Heap) (B : FMap) : Fx := { X with env := compEnvC scope cl C X.env, h0 := h, B0 := B }
section
variable {X : Fx} {B B' : FMap} {O O' its : Owns} {l l' : Locs} {s s' : Shared} {prog : Program} {w : World} {A : Around}
theorem hid_some {a : Addr} {o : Obj} (e : s.heap.get? a = some o) (hn : a ∉ its.map (·.1)) : (hideAll s.heap (its.map (·.1))).get? a = some o := hideAll_get _ e hn
theorem St.noIt (H : St X B (its ++ O) l s) {a : Addr} {o : Obj} (e : X.h0.get? a = some o) : a ∉ its.map (·.1) := fun hm => by
  obtain ⟨q, hq, rfl⟩ := List.mem_map.mp hm
  rw [(H.own q (List.mem_append_left _ hq)).2.2.2] at e; cases e
theorem St.noItL (H : St X B (its ++ O) l s) : X.env.locals ∉ its.map (·.1) := fun hm => by
  obtain ⟨q, hq, e⟩ := List.mem_map.mp hm
  exact (H.own q (List.mem_append_left _ hq)).2.1 e

/-- into the comprehension's frame -/
theorem St.down (H : St X B (its ++ O) l s) {ns : List Str} {scope : Scope} {cl : List (Str × Addr)} {C D : Addr} {P : Obj → Prop} (hk : Keep s.heap s'.heap) (hg : s'.gens = s.gens) (ho : s'.os = s.os) (hd : s'.drawn = s.drawn)
    (hkind : scope.kind = .function) (hns : ∀ x ∈ ns, scope.names.lookup x = some .local ∧ (x == ("__debug__" : Str)) = false) (hnd : ns.Nodup) (hC : s'.heap.Ns C fun _ => none) (hCn : s.heap.get? C = none)
    (hD : ∃ o, s'.heap.get? D = some o ∧ P o) (hDn : s.heap.objs.size ≤ D) (hDC : D ≠ C) (hn : 0 < s'.toks := by first | exact Nat.succ_pos _ | assumption | exact tk_self (by assumption) | (refine Nat.lt_of_lt_of_le (tk_self (by assumption)) ?_; first | assumption | exact Nat.le_refl _ | omega)) : St (X.comp scope cl C (hideAll s.heap (its.map (·.1))) B) B (its ++ [(D, P)]) (ns.map fun n => (n, none)) s' where
  tk := hn
  ns := by
    have e : mOf (ns.map fun n => (n, none)) = fun _ => none := by funext x; exact mOf_none ns x
    rw [e]; exact hC
  nd := by simpa [Function.comp_def] using hnd
  kind := fun x hx => by
    have hx' : x ∈ ns := by simpa [Function.comp_def] using hx
    exact ⟨lookup_relabel_local (hns x hx').1, (hns x hx').2⟩
  fn := hkind
  gl := H.gl
  bl := H.bl
  top := Top.keeps H.top fun b o e => hid_some (H.kept _ _ e) (H.noIt e)
  kept := fun b o e => hk _ _ (of_hideAll _ e)
  offh := by
    show (hideAll _ _).get? C = none
    cases q : (hideAll s.heap (its.map (·.1))).get? C with
    | none => rfl
    | some o => rw [of_hideAll _ q] at hCn; cases hCn
  fz := fun b o e => hk _ _ (H.fz _ _ e)
  low := H.low
  lowO := fun q hq => by
    rcases List.mem_append.mp hq with hq | hq
    · exact H.lowO q (List.mem_append_left _ hq)
    · rw [List.mem_singleton] at hq; subst hq; exact Nat.ne_of_gt (Nat.lt_of_lt_of_le H.sysm hDn)
  b0 := Sub.refl _
  new := fun b o e => .inl e
  offL := H.Bnone hCn
  own := fun q hq => by
    rcases List.mem_append.mp hq with hq | hq
    · obtain ⟨⟨o, h1, h2⟩, h3, h4, h5⟩ := H.own q (List.mem_append_left _ hq)
      refine ⟨⟨o, hk _ _ h1, h2⟩, ?_, h4, hideAll_none _ (List.mem_map_of_mem hq)⟩
      intro e
      have e' : q.1 = C := e
      rw [e', hCn] at h1; cases h1
    · rw [List.mem_singleton] at hq; subst hq
      refine ⟨hD, hDC, H.Bnone (none_of_le hDn), ?_⟩
      show (hideAll _ _).get? D = none
      cases q : (hideAll s.heap (its.map (·.1))).get? D with
      | none => rfl
      | some o => exact absurd (Heap.lt_size (of_hideAll _ q)) (Nat.not_lt.mpr hDn)
  apart := by
    have hap := H.apart
    rw [List.map_append] at hap ⊢
    have h3 := List.nodup_append.mp hap
    refine List.nodup_append.mpr ⟨h3.1, by simp, fun a ha b hb e => ?_⟩
    simp at hb; subst hb; subst e
    obtain ⟨q, hq, e⟩ := List.mem_map.mp ha
    obtain ⟨⟨o, h1, _⟩, _⟩ := H.own q (List.mem_append_left _ hq)
    rw [e] at h1
    exact absurd (Heap.lt_size h1) (Nat.not_lt.mpr hDn)
  gens := hg.trans H.gens
  os := ho.trans H.os
  drawn := hd.trans H.drawn

def NsAt (C : Addr) (o : Obj) : Prop := ∃ m, ∀ h : Heap, h.get? C = some o → h.Ns C m
theorem nsAt {h : Heap} {C : Addr} {m : Str → Option Value} (x : h.Ns C m) : ∃ o, h.get? C = some o ∧ NsAt C o := by
  obtain ⟨o, _, _, ho, _⟩ := id x
  exact ⟨o, ho, m, fun h' e => x.at' fun o' e' => by rw [ho] at e'; cases e'; exact e⟩

/-- back from the comprehension's frame -/
theorem St.upC (H : St X B (its ++ O) l s) {scope : Scope} {cl : List (Str × Addr)} {C : Addr} (H' : St (X.comp scope cl C (hideAll s.heap (its.map (·.1))) B) B' O' l' s') (hCs : C ≠ sysModules) :
    St X B' ((C, NsAt C) :: O) l s' := by
  have key : ∀ {b : Addr} {o : Obj}, s.heap.get? b = some o → b ∉ its.map (·.1) → s'.heap.get? b = some o ∧ b ≠ C := fun {b o} e hn => by
    have h1 : (hideAll s.heap (its.map (·.1))).get? b = some o := hid_some e hn
    refine ⟨H'.kept _ _ h1, fun q => ?_⟩
    have h2 := H'.offh
    subst q
    have h3 : (hideAll s.heap (its.map (·.1))).get? b = none := h2
    rw [h1] at h3; cases h3
  have back : ∀ {b : Addr} {o o' : Obj}, s.heap.get? b = some o → b ∉ its.map (·.1) → B' b = some o' → B b = some o' := fun {b o o'} e hn hb => by
    rcases H'.new _ _ hb with h1 | h1
    · exact h1
    · have h3 : (hideAll s.heap (its.map (·.1))).get? b = none := h1
      rw [hid_some e hn] at h3; cases h3
  have none0 : ∀ {b : Addr}, (hideAll s.heap (its.map (·.1))).get? b = none → X.h0.get? b = none := fun {b} h3 => by
    cases q : X.h0.get? b with
    | none => rfl
    | some o' => rw [hid_some (H.kept _ _ q) (H.noIt q)] at h3; cases h3
  obtain ⟨oL, hL⟩ := H.Lsome
  have hap := H.apart
  rw [List.map_append] at hap
  have hap3 := List.nodup_append.mp hap
  have hOn : ∀ q ∈ O, q.1 ∉ its.map (·.1) := fun q hq hm => hap3.2.2 q.1 hm q.1 (List.mem_map_of_mem hq) rfl
  have hCB : B' C = none := H'.offL
  have hC0 : X.h0.get? C = none := none0 H'.offh
  refine { H with tk := H'.tk, ns := H.ns.at' fun o e => (key e H.noItL).1, kept := fun b o e => (key (H.kept _ _ e) (H.noIt e)).1, fz := H'.fz, low := H'.low, lowO := fun q hq => ?_, b0 := fun b o e => H'.b0 _ _ (H.b0 _ _ e), new := fun b o e => ?_, offL := ?_, own := fun q hq => ?_, apart := ?_, gens := H'.gens, os := H'.os, drawn := H'.drawn }
  · rcases List.mem_cons.mp hq with rfl | hq
    · exact hCs
    · exact H.lowO q (List.mem_append_right _ hq)
  · rcases H'.new _ _ e with h1 | h1
    · exact H.new _ _ h1
    · exact .inr (none0 h1)
  · cases q : B' X.env.locals with
    | none => rfl
    | some o => have := back hL H.noItL q; rw [H.offL] at this; cases this
  · rcases List.mem_cons.mp hq with rfl | hq
    · exact ⟨nsAt H'.ns, fun e => (key hL H.noItL).2 e.symm, hCB, hC0⟩
    · obtain ⟨⟨o, h1, h2⟩, h3, h4, h5⟩ := H.own q (List.mem_append_right _ hq)
      refine ⟨⟨o, (key h1 (hOn q hq)).1, h2⟩, h3, ?_, h5⟩
      cases e : B' q.1 with
      | none => rfl
      | some o' => have := back h1 (hOn q hq) e; rw [h4] at this; cases this
  · rw [List.map_cons, List.nodup_cons]
    refine ⟨fun hm => ?_, hap3.2.1⟩
    obtain ⟨q, hq, e⟩ := List.mem_map.mp hm
    obtain ⟨⟨o, h1, _⟩, _⟩ := H.own q (List.mem_append_right _ hq)
    exact (key h1 (hOn q hq)).2 e

end
end Mine
end
-- part C12
section
open PySem PySem.Spec PySem.Calls PyProof.Rows PySem.W
namespace Mine
theorem OPut.last : ∀ {O : Owns} {a P P'}, OPut (O ++ [(a, P)]) a P P' (O ++ [(a, P')])
  | [], _, _, _ => .here
  | _ :: O, _, _, _ => .there (OPut.last (O := O))
section
variable {prog : Program} {w : World} {A : Around}
/-- the tests of a comprehension -/
def tests (ifs : List Expr) (env : Env) : Sem Bool := forIn ifs true fun c r => if r = true then do let ok ← isTrue c env (eval c env); pure (ForInStep.yield ok) else pure (ForInStep.yield r)
theorem tests_nil {env : Env} {Q : Bool → Shared → Prop} {E : Value → Shared → Prop} {s : Shared} (h : Q true s) : wpAny (model prog w) A (tests [] env) Q E s := wpAny_tests_nil h
theorem tests_one {env : Env} {c : Expr} {Q : Bool → Shared → Prop} {E : Value → Shared → Prop} {s : Shared} (h : wpAny (model prog w) A (isTrue c env (eval c env)) Q E s) : wpAny (model prog w) A (tests [c] env) Q E s := wpAny_tests_one h

/-- what a turn of a list comprehension must come back with -/
structure LTurn (X : Fx) (B : FMap) (J : FMap → Locs → List Value → Prop) (q : Owns) (D : Addr) (ys : List Value) (Qy : Value → Shared → Prop) (Qn : Shared → Prop) : Prop where
  y : ∀ {y B' l' s'}, Sub B B' → J B' l' (ys ++ [y]) → St X B' (q ++ [(D, LO ys)]) l' s' → Qy y s'
  n : ∀ {B' l' s'}, Sub B B' → J B' l' ys → St X B' (q ++ [(D, LO ys)]) l' s' → Qn s'
structure DTurn {prog : Program} {w : World} {K : Type} [DecidableEq K] (knd : PySem.KeyKind prog w K) (X : Fx) (B : FMap) (J : FMap → Locs → List (K × Value) → Prop) (q : Owns) (D : Addr) (ys : List (K × Value)) (Qy : Value → Value → Shared → Prop) (Qn : Shared → Prop) : Prop where
  y : ∀ {kv y B' l' s' k}, knd.is k kv = true → Sub B B' → J B' l' (stored ys k y) → St X B' (q ++ [(D, fun o => o.IsDictOf knd ys)]) l' s' → Qy kv y s'
  n : ∀ {B' l' s'}, Sub B B' → J B' l' ys → St X B' (q ++ [(D, fun o => o.IsDictOf knd ys)]) l' s' → Qn s'
theorem loop_list {X : Fx} {B : FMap} {l : Locs} {s : Shared} {R : Result → Shared → Prop} {elt target iter : Expr} {ifs : List Expr} {scope : Scope} {pos : Pos} {I D : Addr} {n : Nat} {T : Nat → Owns} {Sr : FMap → Prop} {P : FMap → Nat → Value → Prop}
    (W : It prog w A target I n T Sr P) (hS : Sr B) (H : St X B (T 0 ++ [(D, LO [])]) l s) (hz : n ≤ sizeLine) (J : Nat → FMap → Locs → List Value → Prop) (h0 : J 0 B l [])
    (step : ∀ i v B₁ B₂ l₁ ys s₁ q Qy Qn, LTurn X B₂ (J (i + 1)) q D ys Qy Qn → i < n → P B₂ i v → Sub B B₁ → J i B₁ l₁ ys → Sub B₁ B₂ → St X B₂ (q ++ [(D, LO ys)]) l₁ s₁ →
      wpAny (model prog w) A (assign target X.env v) (fun _ s₂ => wpAny (model prog w) A (tests ifs X.env) (fun ok s₃ =>
        if ok = true then wpAny (model prog w) A (eval elt X.env) Qy (fun _ _ => False) s₃ else Qn s₃) (fun _ _ => False) s₂) (fun _ _ => False) s₁)
    (after : ∀ B₁ l₁ ys s₁, Sub B B₁ → J n B₁ l₁ ys → St X B₁ [(D, LO ys)] l₁ s₁ → R (.ok .next) s₁) :
    codeAny (model prog w) A (.compLoop (.ListComp elt [⟨target, iter, ifs, 0⟩] scope pos) 0 (.ref I) (.ref D) X.env) R s := by
  refine codeAny_loop rfl (fun k s' => ∃ i B₁ l₁ ys, k = n - i ∧ i ≤ n ∧ ys.length ≤ i ∧ Sub B B₁ ∧ J i B₁ l₁ ys ∧ St X B₁ (T i ++ [(D, LO ys)]) l₁ s') (fun k s hI => ?_) n ⟨0, B, l, [], rfl, Nat.zero_le _, Nat.le_refl _, Sub.refl _, h0, H⟩
  obtain ⟨i, B₁, l₁, ys, rfl, hi, hlen, hsub, hJ, H₁⟩ := hI
  show wpAny _ A ((compTurn (.ListComp elt [⟨target, iter, ifs, 0⟩] scope pos) 0 (.ref I) (.ref D) X.env).onRaise (fun x => do noteFrame x X.env; theTreesLotGoes x)) _ _ s
  refine wpAny_noted ?_
  rw [compTurn_list]
  refine wpAny_bind (wpAny_standAt (wpAny_bind ?_))
  by_cases hlt : i < n
  · refine W.turn i _ _ hlt (W.mono _ _ hsub hS) H₁ fun v s₂ hgo => ?_
    refine wpAny_bind (hgo _ _ fun B' s₂ hs' hP H₂ => ?_)
    refine wpAny_bind (wpAny_mono (step i v B₁ B' l₁ ys s₂ (T (i + 1)) (fun y s₄ => ∃ B₂ l₂, Sub B' B₂ ∧ J (i + 1) B₂ l₂ (ys ++ [y]) ∧ St X B₂ (T (i + 1) ++ [(D, LO ys)]) l₂ s₄) (fun s₄ => ∃ B₂ l₂, Sub B' B₂ ∧ J (i + 1) B₂ l₂ ys ∧ St X B₂ (T (i + 1) ++ [(D, LO ys)]) l₂ s₄) ⟨fun h1 h2 h3 => ⟨_, _, h1, h2, h3⟩, fun h1 h2 h3 => ⟨_, _, h1, h2, h3⟩⟩ hlt hP hsub hJ hs' H₂) (fun _ s₃ h₃ => ?_) fun _ _ x => x.elim)
    refine wpAny_bind (wpAny_mono h₃ (fun ok s₄ h₄ => ?_) fun _ _ x => x.elim)
    cases ok with
    | false =>
      rw [if_neg (by simp)] at h₄
      obtain ⟨B₂, l₂, hs₂, hJ₂, H₄⟩ := h₄
      exact wpAny_pure ⟨rfl, n - (i + 1), by omega, i + 1, B₂, l₂, ys, rfl, hlt, by omega, (hsub.trans hs').trans hs₂, hJ₂, H₄⟩
    | true =>
      rw [if_pos rfl] at h₄
      refine wpAny_bind (wpAny_bind (wpAny_mono h₄ (fun y s₅ h₅ => ?_) fun _ _ x => x.elim))
      obtain ⟨B₂, l₂, hs₂, hJ₂, H₅⟩ := h₅
      refine wpAny_bind (e_append H₅ OPut.last (by omega) fun s₆ H₆ => ?_)
      exact wpAny_pure (wpAny_pure ⟨rfl, n - (i + 1), by omega, i + 1, B₂, l₂, ys ++ [y], rfl, hlt, by simp; omega, (hsub.trans hs').trans hs₂, hJ₂, H₆⟩)
  · have : i = n := by omega
    subst this
    exact W.done _ _ (W.mono _ _ hsub hS) H₁ fun s₂ H₂ => wpAny_pure (after B₁ l₁ ys s₂ hsub hJ H₂)

/-- the frame X' of a comprehension in X -/
structure Cf (X' X : Fx) (scope : Scope) (cl : List (Str × Addr)) (O : Owns) : Prop where
  scope : X'.env.scope = relabel scope X.env
  cells : X'.env.cells = cl
  T : X'.T = X.T
  own : ∀ q ∈ O, ∃ o, X'.h0.get? q.1 = some o ∧ q.2 o
theorem Fx.comp_cf {X : Fx} {scope : Scope} {cl : List (Str × Addr)} {C : Addr} {B : FMap} {O its : Owns} {l : Locs} {s : Shared} (H : St X B (its ++ O) l s) : Cf (X.comp scope cl C (hideAll s.heap (its.map (·.1))) B) X scope cl O where
  scope := rfl
  cells := rfl
  T := rfl
  own := fun q hq => by
    obtain ⟨⟨o, h1, h2⟩, _⟩ := H.own q (List.mem_append_right _ hq)
    have hap := H.apart
    rw [List.map_append] at hap
    exact ⟨o, hid_some h1 fun hm => (List.nodup_append.mp hap).2.2 q.1 hm q.1 (List.mem_map_of_mem hq) rfl, h2⟩

/-- where a value goes that is stored to the name y -/
def StoreTo (prog : Program) (w : World) (A : Around) (X : Fx) (B : FMap) (O : Owns) (l : Locs) (y : Str) (v : Value) (O' : Owns) (l' : Locs) : Prop :=
  ∀ (q : Addr × (Obj → Prop)) (s : Shared) (Q : Unit → Shared → Prop) (E : Value → Shared → Prop), St X B (q :: O) l s → (∀ s', St X B (q :: O') l' s' → Q () s') → wpAny (model prog w) A (storeName X.env y v) Q E s
theorem StoreTo.loc {X : Fx} {B : FMap} {O : Owns} {l l' : Locs} {y : Str} {v : Value} (hp : Put l y v l') : StoreTo prog w A X B O l y v O l' := fun _ _ _ _ H h => w_store H hp h


theorem dict_new {K : Type} [DecidableEq K] (knd : PySem.KeyKind prog w K) {hh : Heap} : ({ cls := .type "dict", dict := none, data := .dict #[] } : Obj).IsDictOf knd [] := by
  have := Heap.DictOf.new (knd := knd) hh
  obtain ⟨o, ho, r⟩ := Heap.dictOf_iff.mp this
  rw [Heap.get?_push_size _ rfl] at ho
  cases ho; exact r
theorem d_set {X : Fx} {B : FMap} {O O' : Owns} {l : Locs} {s : Shared} {E : Value → Shared → Prop} {K : Type} [DecidableEq K] {knd : PySem.KeyKind prog w K} {D : Addr} {ys : List (K × Value)} {k : K} {key v : Value} {Q : Unit → Shared → Prop}
    (H : St X B O l s) (ho : OPut O D (fun o => o.IsDictOf knd ys) (fun o => o.IsDictOf knd (stored ys k v)) O') (hk : knd.is k key = true) (hz : ys.length ≤ sizeLine) (h : ∀ s', St X B O' l s' → Q () s') :
    wpAny (model prog w) A (dictSet D key v) Q E s := by
  obtain ⟨O₁, O₂, rfl, rfl⟩ := ho.split
  obtain ⟨o, ho', hP⟩ := (H.own (D, fun o => o.IsDictOf knd ys) (by simp)).1
  refine wpAny_dictSet_pairs (kvs := ys) hk (Heap.dictOf_iff.mpr ⟨o, ho', hP⟩) (fun h' hd hs => ?_) hz
  obtain ⟨o', ho'', hP'⟩ := Heap.dictOf_iff.mp hd
  exact h _ (H.turn rfl (n := s.toks + 1) (fun b o hb e => (hs.2 b hb).trans e) ho'' hP')
theorem loop_dict {X : Fx} {B : FMap} {l : Locs} {s : Shared} {R : Result → Shared → Prop} {K : Type} [DecidableEq K] {knd : PySem.KeyKind prog w K} {kx vx target iter : Expr} {ifs : List Expr} {scope : Scope} {pos : Pos} {I D : Addr} {n : Nat} {T : Nat → Owns} {Sr : FMap → Prop} {P : FMap → Nat → Value → Prop}
    (W : It prog w A target I n T Sr P) (hS : Sr B) (H : St X B (T 0 ++ [(D, fun o => o.IsDictOf knd [])]) l s) (hz : n ≤ sizeLine) (J : Nat → FMap → Locs → List (K × Value) → Prop) (h0 : J 0 B l [])
    (step : ∀ i v B₁ B₂ l₁ ys s₁ q Qy Qn, DTurn knd X B₂ (J (i + 1)) q D ys Qy Qn → i < n → P B₂ i v → Sub B B₁ → J i B₁ l₁ ys → Sub B₁ B₂ → St X B₂ (q ++ [(D, fun o => o.IsDictOf knd ys)]) l₁ s₁ →
      wpAny (model prog w) A (assign target X.env v) (fun _ s₂ => wpAny (model prog w) A (tests ifs X.env) (fun ok s₃ =>
        if ok = true then wpAny (model prog w) A (eval kx X.env) (fun kv s₄ => wpAny (model prog w) A (eval vx X.env) (Qy kv) (fun _ _ => False) s₄) (fun _ _ => False) s₃ else Qn s₃) (fun _ _ => False) s₂) (fun _ _ => False) s₁)
    (after : ∀ B₁ l₁ ys s₁, Sub B B₁ → J n B₁ l₁ ys → St X B₁ [(D, fun o => o.IsDictOf knd ys)] l₁ s₁ → R (.ok .next) s₁) :
    codeAny (model prog w) A (.compLoop (.DictComp kx vx [⟨target, iter, ifs, 0⟩] scope pos) 0 (.ref I) (.ref D) X.env) R s := by
  refine codeAny_loop rfl (fun k s' => ∃ i B₁ l₁ ys, k = n - i ∧ i ≤ n ∧ ys.length ≤ i ∧ Sub B B₁ ∧ J i B₁ l₁ ys ∧ St X B₁ (T i ++ [(D, fun o => o.IsDictOf knd ys)]) l₁ s') (fun k s hI => ?_) n ⟨0, B, l, [], rfl, Nat.zero_le _, Nat.le_refl _, Sub.refl _, h0, H⟩
  obtain ⟨i, B₁, l₁, ys, rfl, hi, hlen, hsub, hJ, H₁⟩ := hI
  show wpAny _ A ((compTurn (.DictComp kx vx [⟨target, iter, ifs, 0⟩] scope pos) 0 (.ref I) (.ref D) X.env).onRaise (fun x => do noteFrame x X.env; theTreesLotGoes x)) _ _ s
  refine wpAny_noted ?_
  rw [compTurn_dict]
  refine wpAny_bind (wpAny_standAt (wpAny_bind ?_))
  by_cases hlt : i < n
  · refine W.turn i _ _ hlt (W.mono _ _ hsub hS) H₁ fun v s₂ hgo => ?_
    refine wpAny_bind (hgo _ _ fun B' s₂ hs' hP H₂ => ?_)
    refine wpAny_bind (wpAny_mono (step i v B₁ B' l₁ ys s₂ (T (i + 1)) (fun kv y s₅ => ∃ B₂ l₂ k, knd.is k kv = true ∧ Sub B' B₂ ∧ J (i + 1) B₂ l₂ (stored ys k y) ∧ St X B₂ (T (i + 1) ++ [(D, fun o => o.IsDictOf knd ys)]) l₂ s₅) (fun s₄ => ∃ B₂ l₂, Sub B' B₂ ∧ J (i + 1) B₂ l₂ ys ∧ St X B₂ (T (i + 1) ++ [(D, fun o => o.IsDictOf knd ys)]) l₂ s₄) ⟨fun h0 h1 h2 h3 => ⟨_, _, _, h0, h1, h2, h3⟩, fun h1 h2 h3 => ⟨_, _, h1, h2, h3⟩⟩ hlt hP hsub hJ hs' H₂) (fun _ s₃ h₃ => ?_) fun _ _ x => x.elim)
    refine wpAny_bind (wpAny_mono h₃ (fun ok s₄ h₄ => ?_) fun _ _ x => x.elim)
    cases ok with
    | false =>
      rw [if_neg (by simp)] at h₄
      obtain ⟨B₂, l₂, hs₂, hJ₂, H₄⟩ := h₄
      exact wpAny_pure ⟨rfl, n - (i + 1), by omega, i + 1, B₂, l₂, ys, rfl, hlt, by omega, (hsub.trans hs').trans hs₂, hJ₂, H₄⟩
    | true =>
      rw [if_pos rfl] at h₄
      refine wpAny_bind (wpAny_bind (wpAny_mono h₄ (fun kv s₅ h₅ => ?_) fun _ _ x => x.elim))
      refine wpAny_bind (wpAny_holding (wpAny_mono h₅ (fun y s₆ h₆ => ?_) fun _ _ x => x.elim))
      obtain ⟨B₂, l₂, k, hk, hs₂, hJ₂, H₆⟩ := h₆
      refine wpAny_bind (wpAny_standAt (wpAny_holding (d_set H₆ OPut.last hk (by omega) fun s₇ H₇ => ?_)))
      exact wpAny_pure ⟨rfl, n - (i + 1), by omega, i + 1, B₂, l₂, _, rfl, hlt, Nat.le_trans (stored_length_le ys k y) (by omega), (hsub.trans hs').trans hs₂, hJ₂, H₇⟩
  · have : i = n := by omega
    subst this
    exact W.done _ _ (W.mono _ _ hsub hS) H₁ fun s₂ H₂ => wpAny_pure (after B₁ l₁ ys s₂ hsub hJ H₂)

def LComp (prog : Program) (w : World) (A : Around) (X : Fx) (elt target : Expr) (ifs : List Expr) (scope : Scope) (cl : List (Str × Addr)) (ns : List Str) (Q : FMap → Owns → Locs → Value → Shared → Prop) (it : Value) (s₂ : Shared) : Prop :=
  ∃ (I : Addr) (n : Nat) (T : Nat → Owns) (Sr : FMap → Prop) (P : FMap → Nat → Value → Prop) (B : FMap) (O : Owns) (l : Locs) (J : Nat → FMap → Locs → List Value → Prop),
    it = .ref I ∧ It prog w A target I n T Sr P ∧ Sr B ∧ St X B (T 0 ++ O) l s₂ ∧ n ≤ sizeLine ∧ J 0 B (ns.map fun n => (n, none)) [] ∧
    (∀ X' D, Cf X' X scope cl O → ∀ i v B₁ B₂ l₁ ys s₁ q Qy Qn, LTurn X' B₂ (J (i + 1)) q D ys Qy Qn → i < n → P B₂ i v → Sub B B₁ → J i B₁ l₁ ys → Sub B₁ B₂ → St X' B₂ (q ++ [(D, LO ys)]) l₁ s₁ →
      wpAny (model prog w) A (assign target X'.env v) (fun _ s₂ => wpAny (model prog w) A (tests ifs X'.env) (fun ok s₃ =>
        if ok = true then wpAny (model prog w) A (eval elt X'.env) Qy (fun _ _ => False) s₃ else Qn s₃) (fun _ _ => False) s₂) (fun _ _ => False) s₁) ∧
    (∀ B₁ B₂ D o ys l₁ q s₁, (D == sysModules) = false → Sub B B₁ → J n B₁ l₁ ys → Sub B₁ B₂ → B₂ D = some o → LO ys o → St X B₂ (q :: O) l s₁ → Q B₂ O l (.ref D) s₁)

theorem coreL {X : Fx} {s : Shared} {E : Value → Shared → Prop} {Q : FMap → Owns → Locs → Value → Shared → Prop} {elt target iter : Expr} {ifs : List Expr} {scope : Scope} {pos : Pos} {cl : List (Str × Addr)} {ns : List Str} {it : Value} {RR : Value → Addr → Result → Shared → Prop}
    (h : LComp prog w A X elt target ifs scope cl ns Q it s)
    (hcell : ∀ y ∈ scope.names, y.2 ≠ .cell) (hkind : scope.kind = .function) (hns : ∀ x ∈ ns, scope.names.lookup x = some .local ∧ (x == ("__debug__" : Str)) = false) (hnd : ns.Nodup)
    (hRR : ∀ D C B O l s₁, St X B ((C, NsAt C) :: O) l s₁ → Q B O l (.ref D) s₁ → RR (.ref D) C (.ok .next) s₁) :
    wpAny (model prog w) A (newList []) (fun acc s₃ => wpAny (model prog w) A (newFunctionEnv scope X.env.globals cl [] X.env.qual none .none (some X.env)) (fun cenv s₄ =>
      codeAny (model prog w) A (.compStart (.ListComp elt [⟨target, iter, ifs, 0⟩] scope pos) 0 it acc { cenv with scope := relabel scope X.env }) (RR acc cenv.locals) s₄) E s₃) E s := by
  obtain ⟨I, n, T, Sr, P, B, O, l, J, rfl, W, hS, H, hz, h0, step, after⟩ := h
  refine wpAny_newObj_type (wpAny_newFunctionEnv hcell (by intro y hy; simp at hy) (fun h₁ hns₁ hsb₁ => ?_) hkind)
  dsimp only at hns₁ hsb₁ ⊢
  generalize hH2 : s.heap.push { cls := .type "list", dict := none, data := .seq ([] : List Value).toArray } = H2 at hns₁ hsb₁ ⊢
  have hC : H2.objs.size = s.heap.objs.size + 1 := by rw [← hH2, Heap.size_push]
  have hDC : s.heap.objs.size ≠ H2.objs.size := by rw [hC]; exact Nat.ne_of_lt (Nat.lt_succ_self _)
  have below : ∀ b, b < s.heap.objs.size → b ≠ H2.objs.size := fun b hb => by rw [hC]; exact Nat.ne_of_lt (Nat.lt_succ_of_lt hb)
  have old : Keep s.heap h₁ := fun b o e => hsb₁.extBut b o (below b (Heap.lt_size e)) (Heap.get?_push_of_some _ (hH2 ▸ Heap.get?_push_of_some _ e))
  have hacc : h₁.get? s.heap.objs.size = some { cls := .type "list", dict := none, data := .seq ([] : List Value).toArray } := hsb₁.extBut _ _ hDC (Heap.get?_push_of_some _ (hH2 ▸ Heap.get?_push_size _ rfl))
  have fresh : s.heap.get? H2.objs.size = none := none_of_le (by rw [hC]; exact Nat.le_succ _)
  have hCs : H2.objs.size ≠ sysModules := by rw [hC]; exact Nat.ne_of_gt (Nat.lt_succ_of_lt H.sysm)
  have hDs : (s.heap.objs.size == sysModules) = false := beq_eq_false_iff_ne.mpr (Nat.ne_of_gt H.sysm)
  have loop : ∀ s₃ : Shared, s₃ = { s with heap := h₁, toks := s.toks + ([] : List (Str × Value)).length } →
      codeAny (model prog w) A (.compLoop (.ListComp elt [⟨target, iter, ifs, 0⟩] scope pos) 0 (.ref I) (.ref s.heap.objs.size) (compEnvC scope cl H2.objs.size X.env)) (RR (.ref s.heap.objs.size) H2.objs.size) s₃ := by
    rintro s₃ rfl
    have Hd := H.down (s' := { s with heap := h₁, toks := s.toks + ([] : List (Str × Value)).length }) (cl := cl) (C := H2.objs.size) (P := LO []) old rfl rfl rfl hkind hns hnd hns₁ fresh ⟨_, hacc, 0, rfl⟩ (Nat.le_refl _) hDC
    have Hc := Fx.comp_cf (scope := scope) (cl := cl) (C := H2.objs.size) H
    generalize hX' : X.comp scope cl H2.objs.size (hideAll s.heap ((T 0).map (·.1))) B = X' at Hd Hc
    have henv : compEnvC scope cl H2.objs.size X.env = X'.env := by rw [← hX']; rfl
    rw [henv]
    refine loop_list W hS Hd hz J h0 (step X' _ Hc) fun B₁ l₁ ys s₁ hs₁ hJ H₁ => ?_
    obtain ⟨B', o, hsub, hB', hP, H₂⟩ := H₁.freeze (O₁ := []) rfl
    subst hX'
    have Hu := H.upC H₂ hCs
    exact hRR _ _ B' O l s₁ Hu (after B₁ B' _ o ys l₁ _ s₁ hDs hs₁ hJ hsub hB' hP Hu)
  have H' : St X B (T 0 ++ O) l { s with heap := h₁, toks := s.toks + ([] : List (Str × Value)).length } := H.keeps old
  exact codeAny_compStart_list (loop _ rfl) (W.self 0 _ _ hS H' (loop _ rfl))

theorem e_listcomp {X : Fx} {s : Shared} {E : Value → Shared → Prop} {Q : Value → Shared → Prop} {elt target iter : Expr} {ifs : List Expr} {scope : Scope} {pos : Pos} {cl : List (Str × Addr)} (ns : List Str)
    (h : wpAny (model prog w) A (eval iter X.env) (fun xv s₁ => wpAny (model prog w) A (pyIter xv) (LComp prog w A X elt target ifs scope cl ns (fun B O l v _ => ∀ s, St X B O l s → Q v s)) E s₁) E s)
    (hclos : closureFor scope X.env = pure cl) (hcell : ∀ y ∈ scope.names, y.2 ≠ .cell) (hkind : scope.kind = .function)
    (hnames : ∀ y ∈ scope.names, y.2 = .local → scope.names.lookup y.1 = some .local) (hns : ∀ x ∈ ns, scope.names.lookup x = some .local ∧ (x == ("__debug__" : Str)) = false) (hnd : ns.Nodup)
    (hs : ∀ x, foldedSetIterable iter X.env x = pure x := by intro _; rfl) :
    wpAny (model prog w) A (eval (.ListComp elt [⟨target, iter, ifs, 0⟩] scope pos) X.env) Q E s := by
  rw [eval_ListComp]
  refine wpAny_comprehension_free (use := none) rfl hs hclos hkind hnames (wpAny_mono h (fun xv s₁ h₁ => wpAny_mono h₁ (fun it s₂ h₂ => ?_) fun _ _ e => e) fun _ _ e => e)
  refine coreL (RR := fun acc C => compPost (model prog w) A E none Q acc C) h₂ hcell hkind hns hnd fun D C B O l s₁ H hq => ?_
  obtain ⟨⟨o, ho, m, hm⟩, _⟩ := H.own _ (.head _)
  exact ⟨m, hm _ ho, fun h' hs' => hq _ (H.let1 (n := s₁.toks) fun b o hb e => (hs'.2 b hb).trans e)⟩

def DComp (prog : Program) (w : World) {K : Type} [DecidableEq K] (knd : PySem.KeyKind prog w K) (A : Around) (X : Fx) (kx vx target : Expr) (ifs : List Expr) (scope : Scope) (cl : List (Str × Addr)) (ns : List Str) (Q : FMap → Owns → Locs → Value → Shared → Prop) (it : Value) (s₂ : Shared) : Prop :=
  ∃ (I : Addr) (n : Nat) (T : Nat → Owns) (Sr : FMap → Prop) (P : FMap → Nat → Value → Prop) (B : FMap) (O : Owns) (l : Locs) (J : Nat → FMap → Locs → List (K × Value) → Prop),
    it = .ref I ∧ It prog w A target I n T Sr P ∧ Sr B ∧ St X B (T 0 ++ O) l s₂ ∧ n ≤ sizeLine ∧ J 0 B (ns.map fun n => (n, none)) [] ∧
    (∀ X' D, Cf X' X scope cl O → ∀ i v B₁ B₂ l₁ ys s₁ q Qy Qn, DTurn knd X' B₂ (J (i + 1)) q D ys Qy Qn → i < n → P B₂ i v → Sub B B₁ → J i B₁ l₁ ys → Sub B₁ B₂ → St X' B₂ (q ++ [(D, fun o => o.IsDictOf knd ys)]) l₁ s₁ →
      wpAny (model prog w) A (assign target X'.env v) (fun _ s₂ => wpAny (model prog w) A (tests ifs X'.env) (fun ok s₃ =>
        if ok = true then wpAny (model prog w) A (eval kx X'.env) (fun kv s₄ => wpAny (model prog w) A (eval vx X'.env) (Qy kv) (fun _ _ => False) s₄) (fun _ _ => False) s₃ else Qn s₃) (fun _ _ => False) s₂) (fun _ _ => False) s₁) ∧
    (∀ B₁ B₂ D o ys l₁ q s₁, (D == sysModules) = false → Sub B B₁ → J n B₁ l₁ ys → Sub B₁ B₂ → B₂ D = some o → o.IsDictOf knd ys → St X B₂ (q :: O) l s₁ → Q B₂ O l (.ref D) s₁)

theorem coreD {X : Fx} {s : Shared} {E : Value → Shared → Prop} {K : Type} [DecidableEq K] {knd : PySem.KeyKind prog w K} {Q : FMap → Owns → Locs → Value → Shared → Prop} {kx vx target iter : Expr} {ifs : List Expr} {scope : Scope} {pos : Pos} {cl : List (Str × Addr)} {ns : List Str} {it : Value} {RR : Value → Addr → Result → Shared → Prop}
    (h : DComp prog w knd A X kx vx target ifs scope cl ns Q it s)
    (hcell : ∀ y ∈ scope.names, y.2 ≠ .cell) (hkind : scope.kind = .function) (hns : ∀ x ∈ ns, scope.names.lookup x = some .local ∧ (x == ("__debug__" : Str)) = false) (hnd : ns.Nodup)
    (hRR : ∀ D C B O l s₁, St X B ((C, NsAt C) :: O) l s₁ → Q B O l (.ref D) s₁ → RR (.ref D) C (.ok .next) s₁) :
    wpAny (model prog w) A newDict (fun acc s₃ => wpAny (model prog w) A (newFunctionEnv scope X.env.globals cl [] X.env.qual none .none (some X.env)) (fun cenv s₄ =>
      codeAny (model prog w) A (.compStart (.DictComp kx vx [⟨target, iter, ifs, 0⟩] scope pos) 0 it acc { cenv with scope := relabel scope X.env }) (RR acc cenv.locals) s₄) E s₃) E s := by
  obtain ⟨I, n, T, Sr, P, B, O, l, J, rfl, W, hS, H, hz, h0, step, after⟩ := h
  refine wpAny_newObj_type (wpAny_newFunctionEnv hcell (by intro y hy; simp at hy) (fun h₁ hns₁ hsb₁ => ?_) hkind)
  dsimp only at hns₁ hsb₁ ⊢
  generalize hH2 : s.heap.push { cls := .type "dict", dict := none, data := .dict #[] } = H2 at hns₁ hsb₁ ⊢
  have hC : H2.objs.size = s.heap.objs.size + 1 := by rw [← hH2, Heap.size_push]
  have hDC : s.heap.objs.size ≠ H2.objs.size := by rw [hC]; exact Nat.ne_of_lt (Nat.lt_succ_self _)
  have below : ∀ b, b < s.heap.objs.size → b ≠ H2.objs.size := fun b hb => by rw [hC]; exact Nat.ne_of_lt (Nat.lt_succ_of_lt hb)
  have old : Keep s.heap h₁ := fun b o e => hsb₁.extBut b o (below b (Heap.lt_size e)) (Heap.get?_push_of_some _ (hH2 ▸ Heap.get?_push_of_some _ e))
  have hacc : h₁.get? s.heap.objs.size = some { cls := .type "dict", dict := none, data := .dict #[] } := hsb₁.extBut _ _ hDC (Heap.get?_push_of_some _ (hH2 ▸ Heap.get?_push_size _ rfl))
  have fresh : s.heap.get? H2.objs.size = none := none_of_le (by rw [hC]; exact Nat.le_succ _)
  have hCs : H2.objs.size ≠ sysModules := by rw [hC]; exact Nat.ne_of_gt (Nat.lt_succ_of_lt H.sysm)
  have hDs : (s.heap.objs.size == sysModules) = false := beq_eq_false_iff_ne.mpr (Nat.ne_of_gt H.sysm)
  have loop : ∀ s₃ : Shared, s₃ = { s with heap := h₁, toks := s.toks + ([] : List (Str × Value)).length } →
      codeAny (model prog w) A (.compLoop (.DictComp kx vx [⟨target, iter, ifs, 0⟩] scope pos) 0 (.ref I) (.ref s.heap.objs.size) (compEnvC scope cl H2.objs.size X.env)) (RR (.ref s.heap.objs.size) H2.objs.size) s₃ := by
    rintro s₃ rfl
    have Hd := H.down (s' := { s with heap := h₁, toks := s.toks + ([] : List (Str × Value)).length }) (cl := cl) (C := H2.objs.size) (P := fun o => o.IsDictOf knd []) old rfl rfl rfl hkind hns hnd hns₁ fresh ⟨_, hacc, dict_new knd (hh := s.heap)⟩ (Nat.le_refl _) hDC
    have Hc := Fx.comp_cf (scope := scope) (cl := cl) (C := H2.objs.size) H
    generalize hX' : X.comp scope cl H2.objs.size (hideAll s.heap ((T 0).map (·.1))) B = X' at Hd Hc
    have henv : compEnvC scope cl H2.objs.size X.env = X'.env := by rw [← hX']; rfl
    rw [henv]
    refine loop_dict W hS Hd hz J h0 (step X' _ Hc) fun B₁ l₁ ys s₁ hs₁ hJ H₁ => ?_
    obtain ⟨B', o, hsub, hB', hP, H₂⟩ := H₁.freeze (O₁ := []) rfl
    subst hX'
    have Hu := H.upC H₂ hCs
    exact hRR _ _ B' O l s₁ Hu (after B₁ B' _ o ys l₁ _ s₁ hDs hs₁ hJ hsub hB' hP Hu)
  have H' : St X B (T 0 ++ O) l { s with heap := h₁, toks := s.toks + ([] : List (Str × Value)).length } := H.keeps old
  exact codeAny_compStart_dict (loop _ rfl) (W.self 0 _ _ hS H' (loop _ rfl))

end
end Mine
end
-- part C13
section
open PySem PySem.Spec PySem.Calls PyProof.Rows PySem.W
namespace Mine
section
variable {M : Model} {A : Around} {E : Value → Shared → Prop} {env : Env} {s : Shared} {rest bd ob : List Stmt} {Q : Flow → Shared → Prop}
/-- both branches go on behind the if with J -/
theorem ite_join (J : Shared → Prop) {c : Bool} (h : ∀ Qe : Flow → Shared → Prop, (∀ {s'}, J s' → Qe .next s') → if c = true then wpAny M A (execs bd env) Qe E s else wpAny M A (execs ob env) Qe E s)
    (k : ∀ s', J s' → wpAny M A (execs rest env) Q E s') :
    if c = true then wpAny M A (execs bd env) (Then M A E rest env Q) E s else wpAny M A (execs ob env) (Then M A E rest env Q) E s := by
  replace h := h (fun f s' => f = .next ∧ J s') fun hj => ⟨rfl, hj⟩
  cases c with
  | true =>
    rw [if_pos rfl] at h ⊢
    refine wpAny_mono h (fun f s' hf => ?_) fun _ _ x => x
    obtain ⟨rfl, hj⟩ := hf
    exact k _ hj
  | false =>
    rw [if_neg (by simp)] at h ⊢
    refine wpAny_mono h (fun f s' hf => ?_) fun _ _ x => x
    obtain ⟨rfl, hj⟩ := hf
    exact k _ hj
end
end Mine
end
-- part C14
section
open PySem PySem.Spec PySem.Calls PyProof.Rows PySem.W
namespace Mine
theorem OPop.app {T O a P O'} (h : OPop O a P O') : OPop (T ++ O) a P (T ++ O') := by
  induction T with
  | nil => exact h
  | cons q T ih => exact .there ih
theorem OPut.app {T O a P P' O'} (h : OPut O a P P' O') : OPut (T ++ O) a P P' (T ++ O') := by
  induction T with
  | nil => exact h
  | cons q T ih => exact .there ih
section
variable {prog : Program} {w : World} {A : Around} {X : Fx} {B : FMap} {O : Owns} {l : Locs} {s : Shared} {E : Value → Shared → Prop}

theorem lc_it {elt target : Expr} {ifs : List Expr} {scope : Scope} {cl : List (Str × Addr)} {ns : List Str} {Q : FMap → Owns → Locs → Value → Shared → Prop} {xv : Value} {n : Nat} {P : FMap → Nat → Value → Prop}
    (W : Iterates prog w A target X B O l s xv n P) (hz : n ≤ sizeLine) (J : Nat → FMap → Locs → List Value → Prop) (h0 : J 0 B (ns.map fun n => (n, none)) [])
    (step : ∀ X' D, Cf X' X scope cl O → ∀ i v B₁ B₂ l₁ ys s₁ q Qy Qn, LTurn X' B₂ (J (i + 1)) q D ys Qy Qn → i < n → P B₂ i v → Sub B B₁ → J i B₁ l₁ ys → Sub B₁ B₂ → St X' B₂ (q ++ [(D, LO ys)]) l₁ s₁ →
      wpAny (model prog w) A (assign target X'.env v) (fun _ s₂ => wpAny (model prog w) A (tests ifs X'.env) (fun ok s₃ =>
        if ok = true then wpAny (model prog w) A (eval elt X'.env) Qy (fun _ _ => False) s₃ else Qn s₃) (fun _ _ => False) s₂) (fun _ _ => False) s₁)
    (after : ∀ B₁ B₂ D ys l₁ k s₁, Sub B B₁ → J n B₁ l₁ ys → Sub B₁ B₂ → B₂ D = some { cls := .type "list", data := .seq ys.toArray k } → Q B₂ O l (.ref D) s₁) :
    wpAny (model prog w) A (pyIter xv) (LComp prog w A X elt target ifs scope cl ns Q) E s := by
  refine W _ _ fun I T Sr s' W hS H => ?_
  refine ⟨I, n, T, Sr, P, B, O, l, J, rfl, W, hS, H, hz, h0, step, fun B₁ B₂ D o ys l₁ q s₁ _ h1 h2 h3 h4 h5 _ => ?_⟩
  obtain ⟨k, rfl⟩ := h5
  exact after B₁ B₂ D ys l₁ k s₁ h1 h2 h3 h4

theorem dc_it {K : Type} [DecidableEq K] {knd : PySem.KeyKind prog w K} {kx vx target : Expr} {ifs : List Expr} {scope : Scope} {cl : List (Str × Addr)} {ns : List Str} {Q : FMap → Owns → Locs → Value → Shared → Prop} {xv : Value} {n : Nat} {P : FMap → Nat → Value → Prop}
    (W : Iterates prog w A target X B O l s xv n P) (hz : n ≤ sizeLine) (J : Nat → FMap → Locs → List (K × Value) → Prop) (h0 : J 0 B (ns.map fun n => (n, none)) [])
    (step : ∀ X' D, Cf X' X scope cl O → ∀ i v B₁ B₂ l₁ ys s₁ q Qy Qn, DTurn knd X' B₂ (J (i + 1)) q D ys Qy Qn → i < n → P B₂ i v → Sub B B₁ → J i B₁ l₁ ys → Sub B₁ B₂ → St X' B₂ (q ++ [(D, fun o => o.IsDictOf knd ys)]) l₁ s₁ →
      wpAny (model prog w) A (assign target X'.env v) (fun _ s₂ => wpAny (model prog w) A (tests ifs X'.env) (fun ok s₃ =>
        if ok = true then wpAny (model prog w) A (eval kx X'.env) (fun kv s₄ => wpAny (model prog w) A (eval vx X'.env) (Qy kv) (fun _ _ => False) s₄) (fun _ _ => False) s₃ else Qn s₃) (fun _ _ => False) s₂) (fun _ _ => False) s₁)
    (after : ∀ B₁ B₂ D ys l₁ s₁, Sub B B₁ → J n B₁ l₁ ys → Sub B₁ B₂ → BD knd B₂ D ys → Q B₂ O l (.ref D) s₁) :
    wpAny (model prog w) A (pyIter xv) (DComp prog w knd A X kx vx target ifs scope cl ns Q) E s := by
  refine W _ _ fun I T Sr s' W hS H => ?_
  exact ⟨I, n, T, Sr, P, B, O, l, J, rfl, W, hS, H, hz, h0, step, fun B₁ B₂ D o ys l₁ q s₁ h0 h1 h2 h3 h4 h5 _ => after B₁ B₂ D ys l₁ s₁ h1 h2 h3 ⟨h0, o, h4, h5⟩⟩

theorem relabel_lookup {env : Env} {k : NameKind} (hk : (k == .free) = false) : ∀ {names : List (Str × NameKind)} {x : Str}, names.lookup x = some k →
    (names.map fun (n, k) => if (k == NameKind.free && env.scope.kind == .function && env.kindOf n == some .cell) then (n, NameKind.cell) else (n, k)).lookup x = some k
  | [], _, h => by simp at h
  | (n, k') :: r, x, h => by
    have ih := @relabel_lookup env k hk r x
    show List.lookup x ((if (k' == NameKind.free && env.scope.kind == .function && env.kindOf n == some .cell) = true then (n, NameKind.cell) else (n, k')) :: _) = _
    cases hx : x == n with
    | true =>
      simp only [List.lookup_cons, hx] at h
      cases h
      simp [List.lookup_cons, hx, hk]
    | false =>
      simp only [List.lookup_cons, hx] at h
      by_cases hc : (k' == NameKind.free && env.scope.kind == .function && env.kindOf n == some .cell) = true
      · rw [if_pos hc]; simp only [List.lookup_cons, hx]; exact ih h
      · rw [if_neg hc]; simp only [List.lookup_cons, hx]; exact ih h
/-- a name's kind in the frame of a comprehension -/
theorem kindOf_cf {X' : Fx} {scope : Scope} {cl : List (Str × Addr)} {x : Str} {k : NameKind} (C : Cf X' X scope cl O) (h : scope.names.lookup x = some k) (hk : (k == .free) = false := by decide +kernel) : X'.env.kindOf x = some k := by
  unfold Env.kindOf
  rw [C.scope]
  exact relabel_lookup hk h
theorem Cf.pg {X' : Fx} {scope : Scope} {cl : List (Str × Addr)} {p : Program} {lo : List Str} (C : Cf X' X scope cl O) (G : Pg X p lo) : Pg X' p lo :=
  ⟨(congrArg Tp.p C.T).trans G.p, (congrArg Tp.loose C.T).trans G.loose⟩
end
end Mine
end
-- part C15
section
open PySem PySem.Spec PySem.Calls PyProof.Rows PySem.W
namespace Mine
section
variable {prog : Program} {w : World} {B : FMap}
end
section
variable {X : Fx} {B B' : FMap} {O O' : Owns} {l l' : Locs} {s s' : Shared} {prog : Program} {w : World} {A : Around} {E : Value → Shared → Prop} {Q : Value → Shared → Prop} {env : Env}
end
end Mine
end
-- part Hd2
section
open PySem PySem.Spec PySem.Calls PyProof.Rows PySem.W
set_option maxRecDepth 100000
namespace Mine
def pick : List Nat → List Stmt → List Stmt
  | [], _ => []
  | i :: r, b => (b[i]?).toList ++ pick r b
noncomputable def V1 : Program := { PySem.Challenge.pw_in0092_02 with main := { PySem.Challenge.pw_in0092_02.main with body := pick [0, 1, 3, 5, 6, 7, 8, 9, 10, 11] PySem.Challenge.pw_in0092_02.main.body } }
noncomputable def recOf (p : Program) (n : Str) : DefRec := ((recsOf p).find? (fun r => r.name == n)).getD ⟨"", ⟨[], [], none, [], [], none, []⟩, [], ⟨.function, [], false, false, []⟩, default⟩
end Mine
end
-- part P1
section
/- the plain side of the reader of texts: no program in sight -/
namespace Mine
/-- how many figures stand behind a backslash and this sign -/
def sizeOf (e : Nat) : Nat := if e = 120 then 2 else if e = 117 then 4 else if e = 85 then 8 else 0
/-- the sign that a backslash and this one tell -/
def shortOf (q e : Nat) : Option Nat := if e = 110 then some 10 else if e = 114 then some 13 else if e = 116 then some 9 else if e = 92 then some 92 else if e = q then some q else none
def figures16 : List Nat := [48, 49, 50, 51, 52, 53, 54, 55, 56, 57, 97, 98, 99, 100, 101, 102]
def leastOf (k : Nat) : Nat := if k = 2 then 0 else if k = 4 then 256 else 65536
/-- the number that these figures tell, behind what has been read -/
inductive Hex : List Nat → Nat → Nat → Prop
  | nil {c} : Hex [] c c
  | cons {d ds c c'} (v : Nat) : figures16[v]? = some d → Hex ds (16 * c + v) c' → Hex (d :: ds) c c'
/-- the loop of _law_text from place p, with r read, ends at p' with r' -/
inductive TL (a : List Nat) (q : Nat) : Nat → List Nat → Nat → List Nat → Prop
  | stop {p r} : a[p]? = some q → TL a q p r p r
  | plain {p r p' r'} (c : Nat) : a[p]? = some c → c ≠ q → c ≠ 92 → 32 ≤ c → c ≠ 127 → TL a q (p + 1) (r ++ [c]) p' r' → TL a q p r p' r'
  | esc {p r p' r'} (e c d : Nat) : a[p]? = some 92 → a[p + 1]? = some e → Hex ((a.drop (p + 2)).take (sizeOf e)) 0 c →
      ((sizeOf e = 0 ∧ shortOf q e = some d) ∨ (sizeOf e ≠ 0 ∧ d = c ∧ c ≤ 1114111 ∧ (c < 32 ∨ 126 < c) ∧ c ≠ 10 ∧ c ≠ 13 ∧ c ≠ 9 ∧ leastOf (sizeOf e) ≤ c)) →
      TL a q (p + 2 + sizeOf e) (r ++ [d]) p' r' → TL a q p r p' r'
theorem TL.lt {a q p r p' r'} (h : TL a q p r p' r') : p < a.length := by
  cases h with
  | stop h => exact (List.getElem?_eq_some_iff.mp h).1
  | plain c h => exact (List.getElem?_eq_some_iff.mp h).1
  | esc e c d h => exact (List.getElem?_eq_some_iff.mp h).1
theorem sizeOf_le (e : Nat) : sizeOf e ≤ 8 := by unfold sizeOf; (split; omega; split; omega; split <;> omega)
end Mine
end
-- part P2
section
open PySem
namespace Mine
/-- a word ends ahead of these -/
def stops : List Nat := [44, 58, 93, 41, 125]
def figures10 : List Nat := [48, 49, 50, 51, 52, 53, 54, 55, 56, 57]
inductive Dec : List Nat → Nat → Nat → Prop
  | nil {c} : Dec [] c c
  | cons {d ds c c'} (v : Nat) : figures10[v]? = some d → Dec ds (10 * c + v) c' → Dec (d :: ds) c c'
/-- what a word says -/
inductive WordIs : List Nat → PyData → Prop
  | tt : WordIs [84, 114, 117, 101] (.bool true)
  | ff : WordIs [70, 97, 108, 115, 101] (.bool false)
  | no : WordIs [78, 111, 110, 101] .none
  | num {d ds n} : Dec (d :: ds) 0 n → (d = 48 → ds = []) → WordIs (d :: ds) (.int n)
  | neg {d ds n} : Dec (d :: ds) 0 n → d ≠ 48 → WordIs (45 :: d :: ds) (.int (-n))
theorem Dec.fig {d ds c c'} (h : Dec (d :: ds) c c') : 48 ≤ d ∧ d ≤ 57 := by
  cases h with
  | cons v hv _ =>
    have hl : v < 10 := (List.getElem?_eq_some_iff.mp hv).1
    have key : ∀ v : Fin 10, ∀ d, figures10[v.val]? = some d → 48 ≤ d ∧ d ≤ 57 := by
      intro v d h
      have h2 : figures10[v.val]! = d := by rw [List.getElem!_eq_getElem?_getD, h]; rfl
      subst h2
      revert v; intro v _; revert v; decide
    exact key ⟨v, hl⟩ d hv
/-- a value that is no object of the heap, and the thing it is -/
inductive Leaf : Value → PyData → Prop
  | none : Leaf .none .none
  | bool (b) : Leaf (.bool b) (.bool b)
  | int (i t) : Leaf (.int i t) (.int i)
end Mine
end
-- part C16
section
open PySem PySem.Spec PySem.Calls PyProof.Rows PySem.W
namespace Mine
section
variable {X : Fx} {B B' : FMap} {O O' its : Owns} {l l' : Locs} {s s' : Shared} {prog : Program} {w : World} {A : Around}
/-- a cell's object -/
def CellIs (v : Option Value) (o : Obj) : Prop := o.data = .cell v
/-- how a frame stands that may have cells and lent objects -/
structure FrmG (X : Fx) (T : Tp) (s : Shared) (B : FMap) (its : Owns) (cl : List (Str × Addr)) (d : DefRec) : Prop where
  scope : X.env.scope = d.scope
  cells : X.env.cells = cl
  T : X.T = T
  h0 : X.h0 = hideAll s.heap (its.map (·.1))
  B0 : X.B0 = B
  gens : X.gens = s.gens
  os : X.os = s.os
  drawn : X.drawn = s.drawn

theorem cellsFrom_fst : ∀ (names : List (Str × NameKind)) (n m : Nat) (a b : List (Str × Addr)), a.map (·.1) = b.map (·.1) → (cellsFrom n names a).map (·.1) = (cellsFrom m names b).map (·.1)
  | [], _, _, _, _, h => h
  | (x, k) :: r, n, m, a, b, h => by
    unfold cellsFrom
    split
    · exact cellsFrom_fst r _ _ _ _ (by simp [h])
    · exact cellsFrom_fst r _ _ _ _ h
theorem lookup_nodup : ∀ {cl : List (Str × Addr)}, (cl.map (·.1)).Nodup → ∀ {p}, p ∈ cl → cl.lookup p.1 = some p.2
  | (x, c) :: r, h, p, hp => by
    rw [List.map_cons, List.nodup_cons] at h
    rcases List.mem_cons.mp hp with rfl | hp
    · simp [List.lookup]
    · have : (p.1 == x) = false := beq_eq_false_iff_ne.mpr fun e => h.1 (by rw [← e]; exact List.mem_map_of_mem (f := (·.1)) hp)
      simp [List.lookup, this]; exact lookup_nodup h.2 hp

end
end Mine
end
-- part C17
section
open PySem PySem.Spec PySem.Calls PyProof.Rows PySem.W
namespace Mine
section
variable {X : Fx} {B B' : FMap} {O O' its : Owns} {l l' : Locs} {s s' : Shared} {prog : Program} {w : World} {A : Around} {E : Value → Shared → Prop} {Q : Value → Shared → Prop} {env : Env}

/-- a name that is captured: its cell is frozen -/
theorem w_cellF {x : Str} {pos : Pos} {v : Value} {c : Addr} {o : Obj} (H : St X B O l s) (hk : X.env.kindOf x = some .cell) (hc : X.env.cells.lookup x = some c) (hb : B c = some o) (ho : CellIs (some v) o) (h : Q v s) (hd : (x == ("__debug__" : Str)) = false := by decide) :
    wpAny (model prog w) A (eval (.Name x pos) X.env) Q E s := wpAny_Name (wpAny_loadName_cell H.fn hk hc ⟨o, H.fz _ _ hb, ho⟩ h) hd
theorem s_cell {x : Str} {v : Value} {v₀ : Option Value} {c : Addr} {Q : Unit → Shared → Prop} (H : St X B O l s) (hk : X.env.kindOf x = some .cell) (hc : X.env.cells.lookup x = some c) (ho : OPut O c (CellIs v₀) (CellIs (some v)) O') (h : ∀ s', St X B O' l s' → Q () s') :
    wpAny (model prog w) A (storeName X.env x v) Q E s := by
  obtain ⟨O₁, O₂, rfl, rfl⟩ := ho.split
  obtain ⟨o, h1, h2⟩ := (H.own (c, CellIs v₀) (by simp)).1
  refine wpAny_storeName_cell H.fn hk hc ⟨o, h1, h2⟩ fun h' hv hs => ?_
  obtain ⟨o', h3, h4⟩ := hv
  exact h _ (H.turn rfl (n := s.toks) (fun b o hb e => (hs.2 b hb).trans e) h3 h4)
/-- the cells that an inner block takes along -/
def clos (cells : List (Str × Addr)) : List (Str × NameKind) → List (Str × Addr) → Option (List (Str × Addr))
  | [], acc => some acc
  | (n, k) :: r, acc => if k == .free then (cells.lookup n).bind fun c => clos cells r ((n, c) :: acc) else clos cells r acc
theorem closureFor_of {scope : Scope} {env : Env} {cl : List (Str × Addr)} (h : clos env.cells scope.names [] = some cl) : closureFor scope env = pure cl := by
  have key : ∀ (names : List (Str × NameKind)) (acc : List (Str × Addr)), clos env.cells names acc = some cl →
      (forIn names acc fun (x : Str × NameKind) (cs : List (Str × Addr)) => match x with
        | (name, kind) => (if (kind == NameKind.free) = true then do let c ← cellOf env name; pure (ForInStep.yield ((name, c) :: cs)) else pure (ForInStep.yield cs) : Sem (ForInStep (List (Str × Addr))))) = (pure cl : Sem (List (Str × Addr))) := by
    intro names
    induction names with
    | nil => intro acc h; cases h; rfl
    | cons p r ih =>
      intro acc h
      obtain ⟨n, k⟩ := p
      rw [List.forIn_cons]
      unfold clos at h
      by_cases hk : (k == NameKind.free) = true
      · rw [if_pos hk] at h
        simp only [hk, if_true]
        cases hl : env.cells.lookup n with
        | none => rw [hl] at h; cases h
        | some c =>
          rw [hl] at h
          have : cellOf env n = pure c := by unfold cellOf; rw [hl]
          rw [this]
          exact ih _ h
      · rw [if_neg hk] at h
        simp only [hk, Bool.false_eq_true, if_false]
        exact ih _ h
  have := key scope.names [] h
  show (forIn scope.names [] _ >>= fun cs => pure cs) = _
  refine Eq.trans (congrArg (· >>= fun cs => pure cs) this) rfl
theorem relabel_free {env : Env} (hf : env.scope.kind = .function) : ∀ {names : List (Str × NameKind)} {x : Str}, env.kindOf x = some .cell → names.lookup x = some .free →
    (names.map fun (n, k) => if (k == NameKind.free && env.scope.kind == .function && env.kindOf n == some .cell) then (n, NameKind.cell) else (n, k)).lookup x = some .cell
  | [], _, _, h => by simp at h
  | (n, k') :: r, x, hx, h => by
    have ih := @relabel_free env hf r x hx
    show List.lookup x ((if (k' == NameKind.free && env.scope.kind == .function && env.kindOf n == some .cell) = true then (n, NameKind.cell) else (n, k')) :: _) = _
    cases hn : x == n with
    | true =>
      simp only [List.lookup_cons, hn] at h
      cases h
      have e : x = n := eq_of_beq hn
      subst e
      simp [List.lookup_cons, hf, hx]
    | false =>
      simp only [List.lookup_cons, hn] at h
      by_cases hc : (k' == NameKind.free && env.scope.kind == .function && env.kindOf n == some .cell) = true
      · rw [if_pos hc]; simp only [List.lookup_cons, hn]; exact ih h
      · rw [if_neg hc]; simp only [List.lookup_cons, hn]; exact ih h
theorem kindOf_cff {X' : Fx} {scope : Scope} {cl : List (Str × Addr)} {x : Str} (C : Cf X' X scope cl O) (H : St X B O' l s) (h : scope.names.lookup x = some .free) (hk : X.env.kindOf x = some .cell) : X'.env.kindOf x = some .cell := by
  unfold Env.kindOf
  rw [C.scope]
  exact relabel_free H.fn hk h
theorem kindOf_frmG {T : Tp} {d : DefRec} {s₀ : Shared} {B₀ : FMap} {cl : List (Str × Addr)} {x : Str} {k : NameKind} (F : FrmG X T s₀ B₀ its cl d) (h : d.scope.names.lookup x = some k) : X.env.kindOf x = some k := by
  unfold Env.kindOf; rw [F.scope]; exact h
theorem FrmG.pg {T : Tp} {d : DefRec} {s₀ : Shared} {B₀ : FMap} {cl : List (Str × Addr)} (F : FrmG X T s₀ B₀ its cl d) : Pg X T.p T.loose := ⟨congrArg Tp.p F.T, congrArg Tp.loose F.T⟩

/-- the steps of a range -/
def rangeIt (a n c : Int) (i : Nat) (o : Obj) : Prop := o = { cls := .type "range_iterator", dict := none, data := .fields #[rawInt (a + i * c), rawInt (n - i), rawInt c], slots := #[] }
theorem it_range (hh : A.handled = none) {target : Expr} (hgo : Takes target plainIters) (H : St X B O l s) {r : Addr} {a b c : Int} {t u v : Tok} {n : Nat} (hr : B r = some { cls := .type "range", data := .fields #[.int a t, .int b u, .int c v] })
    (hsm : Builtin.Range.small a b c = true) (hn : Builtin.Range.rangeSize a b c = n) :
    Iterates prog w A target X B O l s (.ref r) n fun _ i v => ∃ t, v = .int (a + i * c) t := fun Q E h => by
  refine wpAny_pyIter_range (H.fz _ _ hr) hsm ?_
  refine h s.heap.objs.size (fun i => [(s.heap.objs.size, rangeIt a n c i)]) (fun _ => True) _ ?_ trivial (H.pushO (n := s.toks) rfl (by unfold rangeIt; rw [hn]; simp))
  refine ⟨fun _ _ _ h => h, fun {X B O l s} i Q E _ H hQ => ?_, fun {X B O l s} i Q E hi _ H hQ => ?_, fun {X B O l s} Q E _ H hQ => ?_⟩
  · obtain ⟨⟨oi, hoi, hti⟩, _⟩ := H.own _ (.head _)
    exact wpAny_pyIter_rangeiter (hti ▸ hoi) hQ
  · obtain ⟨⟨oi, hoi, hti⟩, _⟩ := H.own _ (.head _)
    refine wpAny_pyNext_range_item (hti ▸ hoi) (by omega) fun h' hit hs => ?_
    refine hQ _ _ fun Q' E' h => hgo _ _ _ _ _ _ _ _ _ _ _ (by decide) hit rfl rfl ?_
    exact h B _ (Sub.refl _) ⟨_, rfl⟩ (H.turn (O₁ := []) rfl (n := s.toks + 1) (fun b o hb e => hs.extBut b o hb e) hit (by
      unfold rangeIt
      rw [show (a + (i : Int) * c + c) = a + ((i + 1 : Nat) : Int) * c by rw [Int.natCast_add, Int.add_mul]; simp; omega, show ((n : Int) - i - 1) = (n : Int) - ((i + 1 : Nat) : Int) by omega]))
  · obtain ⟨⟨oi, hoi, hti⟩, _⟩ := H.own _ (.head _)
    exact wpAny_pyNext_range_end hh (hti ▸ hoi) (by omega) fun h' he => hQ _ (H.let1 (n := s.toks) he)

/-- kinds that isinstance is asked for -/
inductive Ty where | bool | dict | list | tuple | str | int
@[reducible] def Ty.name : Ty → String | .bool => "bool" | .dict => "dict" | .list => "list" | .tuple => "tuple" | .str => "str" | .int => "int"
def Ty.of : Ty → PyData → Bool
  | .bool, .bool _ => true
  | .int, .bool _ => true
  | .int, .int _ => true
  | .dict, .dict _ => true
  | .list, .list _ => true
  | .tuple, .tuple _ => true
  | .str, .str _ => true
  | _, _ => false
theorem e_isi (T : Ty) {v : Value} {d : PyData} (H : St X B O l s) (h : Rd prog w B v d) (k : ∀ s', St X B O l s' → Q (.bool (T.of d)) s') : wpAny (model prog w) A (call (.builtin "isinstance") [v, .type T.name]) Q E s := by
  have k1 := k _ H
  have k2 := k _ (H.tok (n := s.toks + 1))
  cases h with
  | none => cases T <;> first | exact IsiPair.NoneType_bool k2 | exact IsiPair.NoneType_dict k2 | exact IsiPair.NoneType_list k2 | exact IsiPair.NoneType_tuple k2 | exact IsiPair.NoneType_str k2 | exact IsiPair.NoneType_int k2
  | bool b => cases T <;> first | exact IsiPair.bool_bool k1 | exact IsiPair.bool_dict k2 | exact IsiPair.bool_list k2 | exact IsiPair.bool_tuple k2 | exact IsiPair.bool_str k2 | exact IsiPair.bool_int k1
  | int i t => cases T <;> first | exact IsiPair.int_bool k2 | exact IsiPair.int_dict k2 | exact IsiPair.int_list k2 | exact IsiPair.int_tuple k2 | exact IsiPair.int_str k2 | exact IsiPair.int_int k1
  | str x t => cases T <;> first | exact IsiPair.str_bool k2 | exact IsiPair.str_dict k2 | exact IsiPair.str_list k2 | exact IsiPair.str_tuple k2 | exact IsiPair.str_str k1 | exact IsiPair.str_int k2
  | list h1 h2 h3 h4 =>
    have h1 := H.fz _ _ h1
    cases T <;> first | exact IsiPair.list_bool h1 h2 k2 | exact IsiPair.list_dict h1 h2 k2 | exact IsiPair.list_list h1 h2 k1 | exact IsiPair.list_tuple h1 h2 k2 | exact IsiPair.list_str h1 h2 k2 | exact IsiPair.list_int h1 h2 k2
  | tuple h1 h2 h3 h4 =>
    have h1 := H.fz _ _ h1
    cases T <;> first | exact IsiPair.tuple_bool h1 h2 k2 | exact IsiPair.tuple_dict h1 h2 k2 | exact IsiPair.tuple_list h1 h2 k2 | exact IsiPair.tuple_tuple h1 h2 k1 | exact IsiPair.tuple_str h1 h2 k2 | exact IsiPair.tuple_int h1 h2 k2
  | dict hd h2 h3 =>
    obtain ⟨_, o, ho, es, ep, h5, h6⟩ := hd
    have h1 := H.fz _ _ ho
    have h2 := h5.1
    cases T <;> first | exact IsiPair.dict_bool h1 h2 k2 | exact IsiPair.dict_dict h1 h2 k1 | exact IsiPair.dict_list h1 h2 k2 | exact IsiPair.dict_tuple h1 h2 k2 | exact IsiPair.dict_str h1 h2 k2 | exact IsiPair.dict_int h1 h2 k2

/-- list + list, both frozen -/
theorem e_addF {a b : Addr} {vs ws : List Value} {n m : Nat} (H : St X B O l s) (ha : B a = some { cls := .type "list", data := .seq vs.toArray n }) (hb : B b = some { cls := .type "list", data := .seq ws.toArray m }) (hz : vs.length + ws.length ≤ sizeLine)
    (h : ∀ c B' s', Sub B B' → B' c = some { cls := .type "list", data := .seq (vs ++ ws).toArray } → St X B' O l s' → Q (.ref c) s') : wpAny (model prog w) A (binaryOp .Add (.ref a) (.ref b)) Q E s := by
  obtain ⟨B', h1, h2, H'⟩ := H.push (o := { cls := .type "list", data := .seq (vs ++ ws).toArray }) rfl (n := s.toks)
  refine PySem.P.add_list (H.fz _ _ ha) (H.fz _ _ hb) ?_ (by simpa using hz)
  rw [List.append_toArray]
  exact h _ B' _ h1 h2 H'
end
end Mine
end
-- part C18
section
open PySem PySem.Spec PySem.Calls PyProof.Rows PySem.W
namespace Mine
section
variable {X : Fx} {B B' : FMap} {O O' its : Owns} {l l' : Locs} {s s' : Shared} {prog : Program} {w : World} {A : Around} {E : Value → Shared → Prop} {Q : Value → Shared → Prop} {env : Env}

theorem IsLF {a : Addr} {vs : List Value} {o : Obj} {n : Nat} (H : St X B O l s) (hb : B a = some o) (hc : o.cls = .type "list") (hd : o.data = .seq vs.toArray n) : s.heap.IsList a vs.toArray := ⟨o, H.fz _ _ hb, hc, n, hd⟩
/-- xs[i] of a list -/
theorem e_lat {a : Addr} {vs : List Value} {i' : Int} {u : Tok} {v : Value} {value slice : Expr} (i : Nat) (hl : s.heap.IsList a vs.toArray) (hv : vs[i]? = some v) (hz : vs.length ≤ sizeLine) (h : Q v s) (hi : i' = (i : Int) := by first | rfl | omega)
    (hs : subscripted slice false (.ref a) (.int i' u) = operate [.ref a, .int i' u] (getItem (.ref a) (.int i' u)) := by with_unfolding_all rfl) :
    wpAny (model prog w) A (subscriptTail value slice (.ref a) (.int i' u)) Q E s := by
  subst hi
  have hzz : sizeLine = 16777216 := by decide
  have := (List.getElem?_eq_some_iff.mp hv).1
  exact tail_any hl.typeIs slot_list_getitem.lookup (wpAny_getItem_list hl (by omega) (by omega) (by simpa using hv) h) hs
theorem range_small {n c : Nat} (hn : n ≤ 16777216) (hc : c = 1 ∨ c = 2) : Builtin.Range.small 0 (n : Int) (c : Int) = true ∧ Builtin.Range.rangeSize 0 (n : Int) (c : Int) = ((n + c - 1) / c : Nat) := by
  have h1 : Builtin.Range.rangeSize 0 (n : Int) (c : Int) = ((n + c - 1) / c : Nat) := by
    unfold Builtin.Range.rangeSize
    rw [if_pos (by omega)]
    split <;> rcases hc with rfl | rfl <;> omega
  refine ⟨?_, h1⟩
  unfold Builtin.Range.small
  rw [h1]
  have h2 : (n + c - 1) / c ≤ 16777217 := by rcases hc with rfl | rfl <;> omega
  generalize (n + c - 1) / c = q at h2 ⊢
  unfold Builtin.Range.rangeFitsLong
  simp only [Bool.and_eq_true, Bool.or_eq_true, decide_eq_true_eq]
  rw [if_pos (by omega)]
  exact ⟨⟨⟨⟨by omega, by omega⟩, by omega⟩, by omega⟩, .inr (by simp only [Bool.and_eq_true, decide_eq_true_eq]; omega)⟩

/-- divmod(a, b) by a small number -/
theorem e_divmod {a b : Int} {t u : Tok} (H : St X B O l s) (hb : 0 < b) (hp : Builtin.divisionGoesByPylong a b = false) (h : ∀ x B' s' t1 t2, Sub B B' → B' x = some { cls := .type "tuple", data := .seq #[.int (a / b) t1, .int (a % b) t2] } → St X B' O l s' → Q (.ref x) s') :
    wpAny (model prog w) A (call (.builtin "divmod") [.int a t, .int b u]) Q E s := by
  obtain ⟨B', h1, h2, H'⟩ := H.push (o := { cls := .type "tuple", data := .seq #[.int (a.fdiv b) s.toks, .int (a.fmod b) (s.toks + 1)] }) rfl (n := s.toks + 1 + 1)
  refine divmod_int (by omega) (h _ B' _ s.toks (s.toks + 1) h1 ?_ H') (.inl hp)
  rw [h2, Int.fdiv_eq_ediv_of_nonneg a (by omega), Int.fmod_eq_emod_of_nonneg a (by omega)]
theorem e_abs {a : Int} {t : Tok} (H : St X B O l s) (h : ∀ t s', St X B O l s' → Q (.int (a.natAbs : Int) t) s') : wpAny (model prog w) A (call (.builtin "abs") [.int a t]) Q E s := by
  refine any_toks (call_abs_int fun u tk (hle : s.toks ≤ tk) => ?_)
  have : (if a < 0 then -a else a) = (a.natAbs : Int) := by split <;> omega
  rw [this]; exact h _ _ H.tok
theorem b_mod {a b : Int} {t u : Tok} (H : St X B O l s) (hb : 0 < b) (h : ∀ t s', St X B O l s' → Q (.int (a % b) t) s') : wpAny (model prog w) A (binaryOp .Mod (.int a t) (.int b u)) Q E s := by
  refine mod_int' (by omega) ?_
  rw [Int.fmod_eq_emod_of_nonneg a (by omega)]; exact h _ _ H.tok
theorem b_pow {a n : Int} {t u : Tok} (H : St X B O l s) (hn : 0 ≤ n) (hn2 : n ≤ 1000000) (ha : a.natAbs < 2 ^ 64) (h : ∀ t s', St X B O l s' → Q (.int (a ^ n.toNat) t) s') : wpAny (model prog w) A (binaryOp .Pow (.int a t) (.int n u)) Q E s :=
  pow_int_small hn hn2 ha (h _ _ H.tok)
end
end Mine
end
-- part C19
section
open PySem PySem.Spec PySem.Calls PyProof.Rows PySem.W
namespace Mine
section
variable {X : Fx} {B B' : FMap} {O O' q q' : Owns} {l l' : Locs} {s s' : Shared} {prog : Program} {w : World} {A : Around} {E : Value → Shared → Prop} {Q : Value → Shared → Prop} {env : Env}
/-- the first owned objects are turned, and one object is new -/
theorem St.morph (H : St X B (q ++ O) l s) {h' : Heap} {n : Tok} (hq : q'.map (·.1) = q.map (·.1)) (hk : ∀ b o, b ∉ q.map (·.1) → s.heap.get? b = some o → h'.get? b = some o)
    (hq' : ∀ p ∈ q', ∃ o, h'.get? p.1 = some o ∧ p.2 o) (hn : 0 < n := by first | exact Nat.succ_pos _ | assumption | exact tk_self (by assumption) | (refine Nat.lt_of_lt_of_le (tk_self (by assumption)) ?_; first | assumption | exact Nat.le_refl _ | omega)) : St X B (q' ++ O) l { s with heap := h', toks := n } := by
  have hap := H.apart
  rw [List.map_append] at hap
  have hap3 := List.nodup_append.mp hap
  have hfz : ∀ b o, B b = some o → b ∉ q.map (·.1) := fun b o e hm => by
    obtain ⟨p, hp, rfl⟩ := List.mem_map.mp hm
    rw [(H.own p (List.mem_append_left _ hp)).2.2.1] at e; cases e
  refine { H with tk := hn, ns := H.ns.at' fun o e => hk _ _ H.noItL e, kept := fun b o e => hk _ _ (H.noIt e) (H.kept _ _ e), fz := fun b o e => hk _ _ (hfz b o e) (H.fz _ _ e), lowO := fun p hp => ?_, own := fun p hp => ?_, apart := by rw [List.map_append, hq]; exact hap }
  · have : p.1 ∈ (q ++ O).map (·.1) := by rw [List.map_append, ← hq, ← List.map_append]; exact List.mem_map_of_mem hp
    obtain ⟨p', hp', e⟩ := List.mem_map.mp this
    rw [← e]; exact H.lowO p' hp'
  · rcases List.mem_append.mp hp with hp | hp
    · have : p.1 ∈ q.map (·.1) := by rw [← hq]; exact List.mem_map_of_mem hp
      obtain ⟨p', hp', e⟩ := List.mem_map.mp this
      obtain ⟨_, h2⟩ := H.own p' (List.mem_append_left _ hp')
      rw [e] at h2
      exact ⟨hq' p hp, h2⟩
    · obtain ⟨⟨o, h1, h2⟩, h3⟩ := H.own p (List.mem_append_right _ hp)
      exact ⟨⟨o, hk _ _ (fun hm => hap3.2.2 p.1 hm p.1 (List.mem_map_of_mem hp) rfl) h1, h2⟩, h3⟩
/-- an object that stands and is not known yet is frozen -/
theorem St.admit (H : St X B O l s') {a : Addr} {o : Obj} (ho : s'.heap.get? a = some o) (h0 : X.h0.get? a = none) (hB : B a = none) (hL : a ≠ X.env.locals) (hO : ∀ p ∈ O, p.1 ≠ a) (hs : a ≠ sysModules) :
    ∃ B', Sub B B' ∧ B' a = some o ∧ St X B' O l s' := by
  refine ⟨fun b => if b = a then some o else B b, fun b o' e => ?_, if_pos rfl, { H with fz := fun b o' e => ?_, low := fun b o' e => ?_, b0 := fun b o' e => ?_, new := fun b o' e => ?_, offL := ?_, own := fun p hp => ?_ }⟩
  · show (if b = a then _ else _) = _
    rw [if_neg (fun q => by rw [q, hB] at e; cases e)]; exact e
  · by_cases q : b = a
    · subst q; rw [if_pos rfl] at e; cases e; exact ho
    · rw [if_neg q] at e; exact H.fz _ _ e
  · by_cases q : b = a
    · subst q; exact hs
    · rw [if_neg q] at e; exact H.low _ _ e
  · show (if b = a then _ else _) = _
    rw [if_neg (fun q => by have := H.b0 _ _ e; rw [q, hB] at this; cases this)]; exact H.b0 _ _ e
  · by_cases q : b = a
    · subst q; exact .inr h0
    · rw [if_neg q] at e; exact H.new _ _ e
  · show (if _ = a then _ else _) = _
    rw [if_neg (Ne.symm hL)]; exact H.offL
  · obtain ⟨h1, h2, h3, h4⟩ := H.own p hp
    refine ⟨h1, h2, ?_, h4⟩
    show (if p.1 = a then _ else _) = _
    rw [if_neg (hO p hp)]; exact h3
theorem St.morphNew (H : St X B (q ++ O) l s) {h' : Heap} {n : Tok} (hq : q'.map (·.1) = q.map (·.1)) (hk : ∀ b o, b ∉ q.map (·.1) → s.heap.get? b = some o → h'.get? b = some o)
    (hq' : ∀ p ∈ q', ∃ o, h'.get? p.1 = some o ∧ p.2 o) {o : Obj} (ho : h'.get? s.heap.objs.size = some o) (hn : 0 < n := by first | exact Nat.succ_pos _ | assumption | exact tk_self (by assumption) | (refine Nat.lt_of_lt_of_le (tk_self (by assumption)) ?_; first | assumption | exact Nat.le_refl _ | omega)) :
    ∃ B', Sub B B' ∧ B' s.heap.objs.size = some o ∧ St X B' (q' ++ O) l { s with heap := h', toks := n } := by
  have hN : s.heap.get? s.heap.objs.size = none := none_of_le (Nat.le_refl _)
  refine (H.morph (n := n) hq hk hq' hn).admit ho (none_of_keep H.kept hN) (H.Bnone hN) (fun e => ?_) (fun p hp e => ?_) (Nat.ne_of_gt H.sysm)
  · obtain ⟨oL, hL⟩ := H.Lsome; rw [← e, hN] at hL; cases hL
  · have : p.1 ∈ (q ++ O).map (·.1) := by rw [List.map_append, ← hq, ← List.map_append]; exact List.mem_map_of_mem hp
    obtain ⟨p', hp', e'⟩ := List.mem_map.mp this
    obtain ⟨⟨o', h1, _⟩, _⟩ := H.own p' hp'
    rw [e', e, hN] at h1; cases h1

end
end Mine
end
-- part C20
section
open PySem PySem.Spec PySem.Calls PyProof.Rows PySem.W
namespace Mine
section
variable {X : Fx} {B B' : FMap} {O O' q q' : Owns} {l l' : Locs} {s s' : Shared} {prog : Program} {w : World} {A : Around} {E : Value → Shared → Prop} {Q : Value → Shared → Prop} {env : Env}
theorem St.freezeP (H : St X B O l s) {a : Addr} {P : Obj → Prop} (ho : OPop O a P O') : ∃ B' o, Sub B B' ∧ B' a = some o ∧ P o ∧ St X B' O' l s := by
  obtain ⟨O₁, O₂, rfl, rfl⟩ := ho.split
  exact H.freeze rfl
theorem e_lenL {a : Addr} {vs : List Value} (H : St X B O l s) (hl : s.heap.IsList a vs.toArray) (hz : vs.length ≤ sizeLine) (h : ∀ t s', St X B O l s' → Q (.int (vs.length : Int) t) s') :
    wpAny (model prog w) A (call (.builtin "len") [.ref a]) Q E s := by
  have hzz : sizeLine = 16777216 := by decide
  refine call_len_list hl (by simp; omega) ?_
  have := h (s.toks + 1) _ (H.tok (n := s.toks + 1 + 1))
  simpa using this
theorem pick_to (vs : List Value) (n : Nat) : slicePick vs.toArray none (some (n : Int)) none = (vs.take n).toArray := by
  unfold slicePick sliceBounds sliceRange
  simp only [List.size_toArray, Option.getD_none, show (1 : Int) > 0 by decide, if_true]
  congr 1
  have e1 : ¬ ((n : Int) < 0) := neg_nat n
  simp only [e1, if_false]
  rw [List.filterMap_map]
  have hm : (if (0 : Int) < max 0 (min (n : Int) (vs.length : Int)) then (max 0 (min (n : Int) (vs.length : Int)) - 0 + 1 - 1) / 1 else 0).toNat = min n vs.length := by
    rw [clip_nat, Int.ediv_one]; exact span_nat 0 _
  rw [hm]
  have : ((fun x => vs.toArray[x]?) ∘ fun k : Nat => ((0 : Int) + 1 * (k : Int)).toNat) = fun k => vs[k]? := by funext k; simp
  rw [this, take_range]
  rw [← List.take_take, List.take_length]
/-- xs[1::2] and xs[:n] of a list -/
def ListCut (Q : Value → Shared → Prop) (o vl vu vs : Value) (s₃ : Shared) : Prop :=
  ∃ lo hi st X B O l a xs, st ≠ some 0 ∧ o = .ref a ∧ IsPart vl lo ∧ IsPart vu hi ∧ IsPart vs st ∧ St X B O l s₃ ∧ s₃.heap.IsList a (List.toArray xs) ∧ xs.length ≤ sizeLine ∧
    ∀ c B' s', Sub B B' → B' c = some { cls := .type "list", data := .seq (slicePick xs.toArray lo hi st) } → St X B' O l s' → Q (.ref c) s'
theorem cut_core {value slice : Expr} (us : Addr → Addr → List Value) {o vl vu vs : Value} (h : ListCut Q o vl vu vs s)
    (hs : ∀ a i, subscripted slice false (.ref a) (.ref i) = operate (us a i) (getItem (.ref a) (.ref i)))
    (ht : ∀ a r, letTemporaryGo value (.ref a) r = pure ()) :
    wpAny (model prog w) A (subscriptTail value slice o (.ref s.heap.objs.size)) Q E { s with heap := s.heap.push { cls := .type "slice", data := .fields #[vl, vu, vs] } } := by
  obtain ⟨lo, hi, st, X, B, O, l, a, xs, h0, rfl, pl, pu, ps, H, hl, hz, hQ⟩ := h
  have H' : St X B O l { s with heap := s.heap.push { cls := .type "slice", data := .fields #[vl, vu, vs] } } := H.pushed (n := s.toks)
  have hl' : (s.heap.push { cls := .type "slice", data := .fields #[vl, vu, vs] }).IsList a xs.toArray := hl.push _
  obtain ⟨B', h1, h2, H''⟩ := H'.push (o := { cls := .type "list", data := .seq (slicePick xs.toArray lo hi st) }) rfl (n := s.toks)
  refine tail_of_ItemOn (s := { s with heap := s.heap.push { cls := .type "slice", data := .fields #[vl, vu, vs] } }) ⟨"list", _, slot_list_getitem.lookup, hl'.typeIs, wpAny_getItem_list_slice (s := { s with heap := s.heap.push { cls := .type "slice", data := .fields #[vl, vu, vs] } }) hl' (Heap.IsSliceOf.new ..) pl pu ps h0 (hQ _ B' _ h1 h2 H'') (by simpa using hz)⟩ (hs _ _) (ht _)
theorem cutTo_end {a : Addr} {xs : List Value} {i' : Int} {t : Tok} (i : Nat) (H : St X B O l s) (hl : s.heap.IsList a xs.toArray) (hz : xs.length ≤ sizeLine) (hi : i' = (i : Int))
    (h : ∀ c B' s', Sub B B' → B' c = some { cls := .type "list", data := .seq (xs.take i).toArray } → St X B' O l s' → Q (.ref c) s') : ListCut Q (.ref a) .none (.int i' t) .none s := by
  subst hi
  exact ⟨_, _, _, X, B, O, l, a, xs, by simp, rfl, .none, .int _ _, .none, H, hl, hz, fun c B' s' hs hc H => h c B' s' hs (by rw [hc, pick_to]) H⟩
theorem e_cutTo {value hi : Expr} {p pos : Pos}
    (h : wpAny (model prog w) A (eval value env) (fun o s₁ => wpAny (model prog w) A (eval hi env) (fun vu s₂ => ListCut Q o .none vu .none s₂) E s₁) E s)
    (hs : ∀ a i, subscripted (.Slice none (some hi) none p) false (.ref a) (.ref i) = operate [.ref i, .ref a] (getItem (.ref a) (.ref i)) := by intro _ _; with_unfolding_all rfl)
    (ht : ∀ a r, letTemporaryGo value (.ref a) r = pure () := by intro _ _; with_unfolding_all rfl) :
    wpAny (model prog w) A (eval (.Subscript value (.Slice none (some hi) none p) pos) env) Q E s := by
  refine Subscript_ (wpAny_mono h (fun o s₁ h₁ => ?_) fun _ _ x => x)
  exact wpAny_Slice (wpAny_evalPart_none (wpAny_evalPart_some (wpAny_mono h₁ (fun kv s₃ h₃ => wpAny_evalPart_none (cut_core (fun a i => [.ref i, .ref a]) h₃ hs ht)) fun _ _ x => x)))
end
end Mine
end
-- part P4
section
open PySem PySem.Spec PySem.Calls PyProof.Rows PySem.W
namespace Mine
section
variable {prog : Program} {w : World} {B : FMap}
theorem RdAll.snoc {vs : List Value} {ds : List PyData} {v : Value} {d : PyData} (h : RdAll prog w B vs ds) (h' : Rd prog w B v d) : RdAll prog w B (vs ++ [v]) (ds ++ [d]) := h.append (.cons h' .nil)
end
/-- both ways of a value go on with J -/
theorem ite_ejoin {α : Type} {M : Model} {A : Around} {E : Value → Shared → Prop} {s : Shared} {t1 t2 : Sem α} {Q : α → Shared → Prop} (J : α → Shared → Prop) {c : Bool}
    (h : ∀ Qe : α → Shared → Prop, (∀ {v s'}, J v s' → Qe v s') → if c = true then wpAny M A t1 Qe E s else wpAny M A t2 Qe E s) (k : ∀ v s', J v s' → Q v s') :
    if c = true then wpAny M A t1 Q E s else wpAny M A t2 Q E s := by
  have h := h J fun hj => hj
  cases c with
  | true => rw [if_pos rfl] at h ⊢; exact wpAny_mono h k fun _ _ x => x
  | false => rw [if_neg (by simp)] at h ⊢; exact wpAny_mono h k fun _ _ x => x
end Mine
end
-- part P5
section
open PySem PySem.Spec PySem.Calls PyProof.Rows PySem.W
namespace Mine
section
variable {prog : Program} {w : World} {A : Around} {E : Value → Shared → Prop} {env : Env} {s : Shared} {Q : Flow → Shared → Prop}
/-- a try whose body does not raise -/
theorem x_tryN {body rest : List Stmt} {h₀ : ExceptHandler} {hs : List ExceptHandler} {pos : Pos} (h : ∀ bd, bd = body → wpAny (model prog w) A (execs bd env) (Then (model prog w) A E rest env Q) (fun _ _ => False) s) :
    wpAny (model prog w) A (execs (.Try body (h₀ :: hs) [] [] pos :: rest) env) Q E s := by
  refine wpAny_execs_cons (wpAny_Try_except (wpAny_mono (h _ rfl) (fun f s₁ hf => ?_) fun _ _ x => x.elim))
  cases f with
  | next => exact wpAny_execs_nil hf
  | _ => exact hf
end
end Mine
end
-- part P6
section
open PySem PySem.Spec PySem.Calls PyProof.Rows PySem.W
namespace Mine
section
variable {prog : Program} {w : World} {B : FMap}
end
end Mine
end
-- part P7
section
open PySem PySem.Spec PySem.Calls PyProof.Rows PySem.W
namespace Mine
/-- the things that the law builds: at most m levels, small numbers, signs that there are -/
def Gd : Nat → PyData → Prop
  | _, .none => True
  | _, .bool _ => True
  | _, .int i => i.natAbs < 1000000000000
  | _, .str x => ∀ c ∈ x.cps.toList, c < 1114112
  | 0, .list _ => False
  | 0, .tuple _ => False
  | 0, .dict _ => False
  | m + 1, .list ds => ∀ d ∈ ds, Gd m d
  | m + 1, .tuple ds => ∀ d ∈ ds, Gd m d
  | m + 1, .dict D => ∃ kvs : List (Ky × PyData), D = kvs.map (fun kv => (kv.1.dat, kv.2)) ∧ (kvs.map (·.1)).Nodup ∧ ∀ kv ∈ kvs, Gd m kv.1.dat ∧ Gd m kv.2
mutual
/-- the weight of a thing -/
def wt : PyData → Nat
  | .none => 1
  | .bool _ => 1
  | .int _ => 1
  | .str x => 1 + x.cps.toList.length
  | .list ds => 1 + wtAll ds
  | .tuple ds => 1 + wtAll ds
  | .dict D => 1 + wtKvs D
def wtAll : List PyData → Nat
  | [] => 0
  | d :: r => wt d + wtAll r
def wtKvs : List (PyData × PyData) → Nat
  | [] => 0
  | (k, v) :: r => wt k + wt v + wtKvs r
end
section
variable {prog : Program} {w : World} {B B' : FMap} {e e' n : Nat} {st : List (Addr × List Value)}
end
section
variable {prog : Program} {w : World} {B B' : FMap} {e e' n : Nat} {st : List (Addr × List Value)}
end
end Mine
end
-- part C21
section
open PySem PySem.Spec PySem.Calls PyProof.Rows PySem.W
open Builtin Builtin.Str Builtin.Int
set_option maxRecDepth 100000
namespace Mine
theorem entry_ascii : entryFor table "ascii" = some Builtin.«ascii» := entryFor_of_tree (by kernel_rfl)
theorem kind_ascii : builtinKind "ascii" = none := by decide +kernel
theorem plain_ascii : plainId "ascii" = true := by decide +kernel
theorem args_ascii1 (a : Value) : argsOk "ascii" ⟨[a], []⟩ := by unfold argsOk; kernel_rfl
/-- figures of sixteen, so many at least -/
def hexOf (n width : Nat) : List Nat :=
  let ds := (Nat.toDigits 16 n).map (·.toNat)
  List.replicate (width - ds.length) 48 ++ ds
def aesc (c : Nat) : List Nat :=
  if c < 128 then [c]
  else if c < 256 then [92, 120] ++ hexOf c 2
  else if c < 65536 then [92, 117] ++ hexOf c 4
  else [92, 85] ++ hexOf c 8
/-- what ascii makes of a text -/
def asciiOf (x : Str) : Str := ⟨x.cps.flatMap fun c => (aesc c).toArray⟩
theorem asciiOf_low {x : Str} (h : x.cps.all (· < 128) = true) : asciiOf x = x := by
  obtain ⟨⟨l⟩⟩ := x
  unfold asciiOf
  have hl : ∀ c ∈ l, c < 128 := by simpa using h
  have : l.flatMap aesc = l := by
    clear h
    induction l with
    | nil => rfl
    | cons c l ih =>
      rw [List.flatMap_cons, ih (fun c hc => hl c (.tail _ hc))]
      have := hl c (.head _)
      unfold aesc
      rw [if_pos this]; rfl
  congr 1
  apply Array.ext'
  simpa using this
section
variable {prog : Program} {w : World} {A : Around} {E : Value → Shared → Prop} {s : Shared} {Q : Value → Shared → Prop}
theorem aesc_fold (l : List Nat) : ∀ n : Nat, l.foldl (fun n c => n + (aesc c).length) n = n + (l.flatMap aesc).length := by
  induction l with
  | nil => intro n; simp
  | cons c l ih => intro n; rw [List.foldl_cons, ih, List.flatMap_cons, List.length_append]; omega
theorem asciiOf_toList (x : Str) : (asciiOf x).cps.toList = x.cps.toList.flatMap aesc := by
  unfold asciiOf
  simp [Array.toList_flatMap]
theorem aesc_len (x : Str) : x.cps.foldl (fun n c => n + (aesc c).length) 0 = (asciiOf x).length := by
  rw [← Array.foldl_toList, aesc_fold, Nat.zero_add, ← asciiOf_toList]; rfl
theorem ascii_slot {T idr : String} {v : Value} (hu : A.units + 1 < cLine) (hT : s.TypeIs v T) (slotRepr : SlotG T "__repr__" idr)
    (hc : wpAny (model prog w) A.in1 (call (.builtin idr) [v]) (fun r s₁ => ∃ x t, r = .str x t ∧ (asciiOf x).length ≤ sizeLine ∧ ∀ t s', s'.heap = s₁.heap → s'.gens = s₁.gens → s'.os = s₁.os → s'.drawn = s₁.drawn → Q (.str (asciiOf x) t) s') E s) :
    wpAny (model prog w) A (call (.builtin "ascii") [v]) Q E s := by
  refine Calls.call_function_entry kind_ascii plain_ascii entry_ascii (args_ascii1 _) ?_
  unfold Builtin.«ascii»
  refine wpAny_bind (m := oneArg "ascii" _) (wpAny_pure ?_)
  refine wpAny_bind (m := cRoomFor _ _) (wpAny_cRoomFor (by show A.units + 1 < cLine; exact hu) ?_)
  refine wpAny_bind (m := callSpecialIfBound? v (Str.ofString "__repr__")) (wpAny_callSpecialIfBound?_slotG (name := Str.ofString "__repr__") hT slotRepr (wpAny_mono hc (fun r s₁ h₁ => ?_) fun _ _ e => e))
  obtain ⟨x, t, rfl, hz, hq⟩ := h₁
  refine wpAny_bind (m := asStr? (.str x t)) (wpAny_pure ?_)
  dsimp only
  by_cases hx : x.cps.all (· < 128) = true
  · rw [if_pos hx]
    refine wpAny_bind (wpAny_rule ?_)
    refine wpAny_bind (wpAny_pure (wpAny_pure ⟨_, rfl, ?_⟩))
    have := hq t s₁ rfl rfl rfl rfl
    rw [asciiOf_low hx] at this
    exact this
  · rw [if_neg hx]
    refine wpAny_bind (wpAny_letGo ?_)
    show wpAny _ _ (if (decide (10 * x.length > sizeLine) && decide (x.cps.foldl (fun n c => n + (aesc c).length) 0 > sizeLine)) = true then (do unsupported "str:memory"; retStr (asciiOf x)) else retStr (asciiOf x)) _ _ _
    rw [aesc_len, if_neg (by simp; intro _; omega)]
    show wpAny _ _ (mkStr (asciiOf x) >>= fun v => ret v) _ _ _
    exact wpAny_bind (wpAny_mkStr (wpAny_pure ⟨_, rfl, hq _ _ rfl rfl rfl rfl⟩) hz)
end
section
variable {X : Fx} {B : FMap} {O : Owns} {l : Locs} {s : Shared} {prog : Program} {w : World} {A : Around} {E : Value → Shared → Prop} {Q : Value → Shared → Prop}
/-- what is asked of a thing that is to be written -/
structure Wr (A : Around) (d : PyData) : Prop where
  show_ : d.showable = true
  size : d.shown.length ≤ sizeLine
  asize : (asciiOf d.shown).length ≤ sizeLine
  guards : A.guards = some []
  units : A.units + (d.depth + 3) < cLine
theorem e_repr {v : Value} {d : PyData} (H : St X B O l s) (hv : Rd prog w B v d) (W : Wr A d) (h : ∀ t s', St X B O l s' → Q (.str d.shown t) s') : wpAny (model prog w) A (call (.builtin "repr") [v]) Q E s := by
  obtain ⟨as, hr, hn⟩ := hv.reads H.fzIn
  have hs := W.show_
  have hu := W.units
  have href : ∀ a, v = .ref a → wpAny (model prog w) A (call (.builtin "repr") [v]) Q E s := fun a e => by
    subst e
    exact any_toks (repr_of_reads' hr hs (fun _ => hn) W.guards (by omega) (fun _ _ e => e) (fun h' u tk hk (hle : s.toks ≤ tk) => h _ _ (H.keeps (n := tk) hk)) W.size)
  cases hv with
  | none => exact P.repr_of_none (by have := h s.toks _ (H.tok (n := s.toks + 1)); rwa [PyData.shown_none] at this)
  | bool b => exact P.repr_of_bool (by have := h s.toks _ (H.tok (n := s.toks + 1)); rwa [PyData.shown_bool] at this)
  | int i t => exact P.repr_of_int (by simpa [PyData.showable] using hs) (by have := h s.toks _ (H.tok (n := s.toks + 1)); rwa [PyData.shown_int] at this)
  | str x t => exact P.repr_of_str (by have := h s.toks _ (H.tok (n := s.toks + 1)); rwa [PyData.shown_str] at this) (by have := W.size; rwa [PyData.shown_str] at this)
  | list _ _ _ _ => exact href _ rfl
  | tuple _ _ _ _ => exact href _ rfl
  | dict _ _ _ => exact href _ rfl
/-- what str makes of a thing -/
def strOfD (d : PyData) : Str := match d with | .str x => x | d => d.shown
theorem e_str {v : Value} {d : PyData} (H : St X B O l s) (hv : Rd prog w B v d) (W : Wr A d) (h : ∀ t s', St X B O l s' → Q (.str (strOfD d) t) s') : wpAny (model prog w) A (call (.type "str") [v]) Q E s := by
  obtain ⟨as, hr, hn⟩ := hv.reads H.fzIn
  have hs := W.show_
  have hu := W.units
  cases hv with
  | none => exact P.str_of_none (by have := h s.toks _ (H.tok (n := s.toks + 1)); rwa [show strOfD .none = PyData.none.shown from rfl, PyData.shown_none] at this)
  | bool b => exact P.str_of_bool (by have := h s.toks _ (H.tok (n := s.toks + 1)); rwa [show strOfD (.bool b) = (PyData.bool b).shown from rfl, PyData.shown_bool] at this)
  | int i t => exact P.str_of_int (by simpa [PyData.showable] using hs) (by have := h s.toks _ (H.tok (n := s.toks + 1)); rwa [show strOfD (.int i) = (PyData.int i).shown from rfl, PyData.shown_int] at this)
  | str x t => exact P.str_of_str (h t s H)
  | list _ _ _ _ => exact any_toks (str_of_reads hr hs (fun _ => hn) W.guards (by omega) (fun _ _ e => e) (fun h' u tk hk (hle : s.toks ≤ tk) => h _ _ (H.keeps (n := tk) hk)) W.size)
  | tuple _ _ _ _ => exact any_toks (str_of_reads hr hs (fun _ => hn) W.guards (by omega) (fun _ _ e => e) (fun h' u tk hk (hle : s.toks ≤ tk) => h _ _ (H.keeps (n := tk) hk)) W.size)
  | dict _ _ _ => exact any_toks (str_of_reads hr hs (fun _ => hn) W.guards (by omega) (fun _ _ e => e) (fun h' u tk hk (hle : s.toks ≤ tk) => h _ _ (H.keeps (n := tk) hk)) W.size)
theorem ascii_value {T id : String} {Bi : Builtin} {v : Value} {x : Str} (H : St X B O l s) (hu : A.units + 1 < cLine) (hT : s.TypeIs v T) (slot : Slot T "__repr__" id) (entry : entryFor table id = some Bi) (args : argsOk id ⟨[v], []⟩) (g : Gives (Bi ⟨[v], []⟩) (.str x))
    (hz : x.length ≤ sizeLine) (hz' : (asciiOf x).length ≤ sizeLine) (h : ∀ t s', St X B O l s' → Q (.str (asciiOf x) t) s') : wpAny (model prog w) A (call (.builtin "ascii") [v]) Q E s :=
  any_toks (ascii_slot hu hT slot.toG (call_gives slot hT entry args g ⟨hz, ⟨x, s.toks, rfl, hz', fun t s' h1 h2 h3 h4 (hle : s.toks ≤ s'.toks) => h t s' (H.to (by rw [h1]; exact Keep.refl _) h2 h3 h4 (Nat.lt_of_lt_of_le H.tk hle))⟩⟩))
theorem e_ascii {v : Value} {d : PyData} (H : St X B O l s) (hv : Rd prog w B v d) (W : Wr A d) (h : ∀ t s', St X B O l s' → Q (.str (asciiOf d.shown) t) s') : wpAny (model prog w) A (call (.builtin "ascii") [v]) Q E s := by
  obtain ⟨as, hr, hn⟩ := hv.reads H.fzIn
  have hs := W.show_
  have hu := W.units
  have href : ∀ a, v = .ref a → wpAny (model prog w) A (call (.builtin "ascii") [v]) Q E s := fun a e => by
    subst e
    obtain ⟨T, idr, S⟩ := showsBy_of_reads (prog := prog) (w := w) hr hs (fun _ => hn) W.size
    exact any_toks (ascii_slot (by omega) (S.typeIs s fun _ _ e => e) S.slotRepr (S.call A.in1 _ s _ W.guards (by show A.units + 1 + d.depth < cLine; omega) (fun _ _ e => e) fun h' u tk hk => ⟨_, _, rfl, W.asize, fun t s' h1 h2 h3 h4 (hle : s.toks ≤ s'.toks) => h t s' (H.to (by rw [h1]; exact hk) h2 h3 h4 (Nat.lt_of_lt_of_le H.tk hle))⟩))
  have ha := W.asize
  have hsz := W.size
  cases hv with
  | none => rw [PyData.shown_none] at h ha hsz; exact ascii_value H (by omega) (typeIs_none s) F.slot_NoneType_repr F.entry_NoneType_repr (F.args_NoneType_repr_1 _) gives_none_repr hsz ha h
  | bool b => rw [PyData.shown_bool] at h ha hsz; exact ascii_value H (by omega) (PySem.typeIs_bool s b) F.slot_bool_repr F.entry_bool_repr (F.args_bool_repr_1 _) (gives_bool_repr b) hsz ha h
  | int i t => rw [PyData.shown_int] at h ha hsz; exact ascii_value H (by omega) (typeIs_int s i t) F.slot_int_repr F.entry_int_repr (F.args_int_repr_1 _) (gives_int_repr i t (by simpa [PyData.showable] using hs)) hsz ha h
  | str x t => rw [PyData.shown_str] at h ha hsz; exact ascii_value H (by omega) (typeIs_str s x t) F.slot_str_repr F.entry_str_repr (F.args_str_repr_1 _) (gives_str_repr x t) hsz ha h
  | list _ _ _ _ => exact href _ rfl
  | tuple _ _ _ _ => exact href _ rfl
  | dict _ _ _ => exact href _ rfl
end
end Mine
end
-- part C22
section
open PySem PySem.Spec PySem.Calls PyProof.Rows PySem.W
namespace Mine
/-- lists of plain things, at most n levels -/
def Tl : Nat → PyData → Prop
  | _, .none => True
  | _, .bool _ => True
  | _, .int _ => True
  | _, .str _ => True
  | n + 1, .list ds => ∀ d ∈ ds, Tl n d
  | _, _ => False
section
variable {prog : Program} {w : World} {B : FMap} {s : Shared} {Q : Value → Shared → Prop} {E : Value → Shared → Prop}
theorem rdAll_at : ∀ {vs : List Value} {ds : List PyData}, RdAll prog w B vs ds → ∀ {j : Nat} {v : Value}, vs[j]? = some v → ∃ d ∈ ds, ds[j]? = some d ∧ Rd prog w B v d
  | _, _, .nil, j, v, h => by simp at h
  | _, _, .cons hv hr, 0, v, h => by
    obtain rfl : _ = v := by simpa using h
    exact ⟨_, .head _, rfl, hv⟩
  | _, _, .cons hv hr, j + 1, v, h => by
    obtain ⟨d, h1, h2, h3⟩ := rdAll_at hr (j := j) (v := v) (by simpa using h)
    exact ⟨d, .tail _ h1, by simpa using h2, h3⟩
theorem rdAll_len : ∀ {vs : List Value} {ds : List PyData}, RdAll prog w B vs ds → vs.length = ds.length
  | _, _, .nil => rfl
  | _, _, .cons _ hr => by simp [rdAll_len hr]
theorem rd_lists {u v : Value} {ds : List PyData} (hf : ∀ b o, B b = some o → s.heap.get? b = some o) (hu : Rd prog w B u (.list ds)) (hv : Rd prog w B v (.list ds)) :
    ∃ l b us vs, u = .ref l ∧ v = .ref b ∧ s.heap.IsList l us ∧ s.heap.IsList b vs ∧ us.size = vs.size ∧
      ∀ j (h1 : j < us.size) (h2 : j < vs.size), ∃ d ∈ ds, Rd prog w B us[j] d ∧ Rd prog w B vs[j] d := by
  cases hu with
  | list e1 e2 e3 e4 =>
    cases hv with
    | list f1 f2 f3 f4 =>
      rename_i a o us n a' o' vs n'
      refine ⟨a, a', us, vs, rfl, rfl, ⟨o, hf _ _ e1, e2, _, e3⟩, ⟨o', hf _ _ f1, f2, _, f3⟩, ?_, fun j h1 h2 => ?_⟩
      · have := rdAll_len e4; have := rdAll_len f4; simp at *; omega
      · obtain ⟨d, hd, q1, r1⟩ := rdAll_at e4 (j := j) (v := us[j]) (by simp [h1])
        obtain ⟨d', _, q2, r2⟩ := rdAll_at f4 (j := j) (v := vs[j]) (by simp [h2])
        rw [q1] at q2; cases q2
        exact ⟨d, hd, r1, r2⟩
theorem eq_told (hf : ∀ b o, B b = some o → s.heap.get? b = some o) : ∀ (n : Nat) (d : PyData) (A : Around), Tl n d → ∀ u v, Rd prog w B u d → Rd prog w B v d → A.units + n < cLine → SeqAt.EqAt A s u v true := by
  intro n
  induction n with
  | zero =>
    intro d A h u v hu hv hA
    cases d with
    | none => cases hu; cases hv; exact SeqAt.EqAt.same _
    | bool b => cases hu; cases hv; exact SeqAt.EqAt.same _
    | int i => cases hu with | int _ t => cases hv with | int _ t' => have := (MeetsSeq.EqGives.int i i t t').at A s; simpa using this
    | str x => cases hu with | str _ t => cases hv with | str _ t' => have := (SeqRoads2.EqGives.str x x t t').at A s; simpa using this
    | _ => simp [Tl] at h
  | succ n ih =>
    intro d A h u v hu hv hA
    cases d with
    | none => cases hu; cases hv; exact SeqAt.EqAt.same _
    | bool b => cases hu; cases hv; exact SeqAt.EqAt.same _
    | int i => cases hu with | int _ t => cases hv with | int _ t' => have := (MeetsSeq.EqGives.int i i t t').at A s; simpa using this
    | str x => cases hu with | str _ t => cases hv with | str _ t' => have := (SeqRoads2.EqGives.str x x t t').at A s; simpa using this
    | list ds =>
      unfold Tl at h
      obtain ⟨l, b, us, vs, rfl, rfl, hl, hb, hsz, hitem⟩ := rd_lists hf hu hv
      by_cases hlb : l = b
      · subst hlb; exact SeqAt.EqAt.same _
      · have key := SeqAt.RcAt.lists (A := A) (e := fun _ => true) hl hb hsz (by omega) (fun j h1 h2 => by
          obtain ⟨d, hd, r1, r2⟩ := hitem j h1 h2
          exact ih d A.in1 (h d hd) _ _ r1 r2 (by show A.units + 1 + n < cLine; omega))
        have e : ((List.range us.size).all fun _ => true) = true := by simp
        rw [e] at key
        exact SeqAt.EqAt.of_refs hlb key
    | _ => simp [Tl] at h
/-- two readings of one told thing do not differ -/
theorem q_neT {A : Around} {n : Nat} {ds : List PyData} {u v : Value} (hf : ∀ b o, B b = some o → s.heap.get? b = some o) (ht : Tl (n + 1) (.list ds)) (hu : Rd prog w B u (.list ds)) (hv : Rd prog w B v (.list ds)) (hA : A.units + (n + 1) < cLine)
    (h : Q (.bool false) s) : wpAny (model prog w) A (compareOp .NotEq u v) Q E s := by
  unfold Tl at ht
  obtain ⟨l, b, us, vs, rfl, rfl, hl, hb, hsz, hitem⟩ := rd_lists hf hu hv
  have key := SeqAt.RcNeAt.lists (A := A) (e := fun _ => true) hl hb hsz (by omega) (fun j h1 h2 => by
    obtain ⟨d, hd, r1, r2⟩ := hitem j h1 h2
    exact eq_told hf n d A.in1 (ht d hd) _ _ r1 r2 (by show A.units + 1 + n < cLine; omega))
  have e : (!(List.range us.size).all fun _ => true) = false := by simp
  rw [e] at key
  exact key prog w E Q h
end
end Mine
end
-- part C31
section
open PySem PySem.Spec PySem.Calls PyProof.Rows PySem.W
namespace Mine
theorem int_lt_bool_int (b : Bool) (n : Int) (u : Tok) : Gives (Builtin.«int.__lt__» ⟨[.bool b, .int n u], []⟩) (.val (Value.bool ((fun x1 x2 => decide (x1 < x2)) (if b = true then (1 : Int) else 0) n))) :=
  .of_wp fun M A E s Q h => by obtain ⟨hp, g, d, tk, os⟩ := s; wp_walk; exact ⟨_, rfl, h⟩
section
variable {X : Fx} {B : FMap} {O : Owns} {l : Locs} {s : Shared} {prog : Program} {w : World} {A : Around} {E : Value → Shared → Prop} {Q : Value → Shared → Prop} {env : Env}
theorem lt_bool_int {b : Bool} {n : Int} {u : Tok} (h : Q (.bool (decide ((if b = true then (1 : Int) else 0) < n))) s) : wpAny (model prog w) A (compareOp .Lt (.bool b) (.int n u)) Q E s := by
  show wpAny (model prog w) A (richCompare .Lt (.bool b) (.int n u)) Q E s
  exact PySem.SeqAt.rc_left_or (Ta := "bool") rfl (typeIs_int s n u) (by decide) F.sub_int_bool F.slot_bool_lt (call_gives F.slot_bool_lt rfl F.entry_int_lt (F.args_int_lt_2 _ _) (int_lt_bool_int b n u) ⟨nofun, h⟩) (.inl rfl)
end
end Mine
end
-- part C32
section
open PySem PySem.Spec PySem.Calls PyProof.Rows PySem.W
open PySem.Builtin PySem.Builtin.Str
namespace Mine
theorem occ_kept (s sub : Str) (hi : Nat) (v : Nat) : ∀ (l : List Nat) (f : Nat), (forIn l (#[v], f) (StrLaws.occBody s sub hi 1)).run.fst = #[v]
  | [], f => rfl
  | a :: l, f => by
    rw [List.forIn_cons]
    unfold StrLaws.occBody
    rw [if_neg (by simp)]
    exact occ_kept s sub hi v l f
theorem occ_find (s sub : Str) (hi : Nat) : ∀ (l : List Nat) (free : Nat), (∀ i ∈ l, free ≤ i) →
    (forIn l ((#[] : Array Nat), free) (StrLaws.occBody s sub hi 1)).run.fst.toList = (l.find? fun i => decide (i + sub.length ≤ hi ∧ subAt s sub i = true)).toList
  | [], free, _ => rfl
  | a :: l, free, hf => by
    rw [List.forIn_cons, List.find?_cons]
    have ha : free ≤ a := hf a (List.mem_cons_self ..)
    by_cases hc : a + sub.length ≤ hi ∧ subAt s sub a = true
    · rw [decide_eq_true hc]
      unfold StrLaws.occBody
      rw [if_pos ⟨⟨⟨by simp, ha⟩, hc.1⟩, hc.2⟩]
      have := occ_kept s sub hi a l (a + sub.length)
      unfold StrLaws.occBody at this
      exact congrArg Array.toList this
    · rw [decide_eq_false hc]
      unfold StrLaws.occBody
      rw [if_neg fun h => hc ⟨h.1.2, h.2⟩]
      exact occ_find s sub hi l free fun i hi' => hf i (List.mem_cons_of_mem _ hi')
/-- the first sign c from lo on stands at v -/
theorem occ_first {a : List Nat} {c lo v : Nat} (hv : a[v]? = some c) (hlo : lo ≤ v) (hno : ∀ k, lo ≤ k → k < v → a[k]? ≠ some c) : occurrences (S a) (S [c]) lo (S a).length 1 = [v] := by
  have hl : v < a.length := (List.getElem?_eq_some_iff.mp hv).1
  rw [StrLaws.occ_eq, occ_find _ _ _ _ _ (fun i hi => by simp [List.mem_range'] at hi; omega)]
  have key : ∀ i, decide (i + (S [c]).length ≤ (S a).length ∧ subAt (S a) (S [c]) i = true) = decide (a[i]? = some c) := fun i => by
    rw [decide_eq_decide]
    exact StrLaws.subAt_one (S a) c i
  rw [show (fun i => decide (i + (S [c]).length ≤ (S a).length ∧ subAt (S a) (S [c]) i = true)) = fun i => decide (a[i]? = some c) from funext key]
  rw [S_length, show a.length + 1 - lo = (v - lo) + ((a.length - v) + 1) by omega, ← List.range'_append_1, List.find?_append]
  have h1 : (List.range' lo (v - lo)).find? (fun i => decide (a[i]? = some c)) = none := by
    rw [List.find?_eq_none]
    intro i hi
    simp [List.mem_range'] at hi
    simpa using hno i (by omega) (by omega)
  rw [h1, show lo + (v - lo) = v by omega, List.range'_succ, List.find?_cons, decide_eq_true hv]
  rfl
theorem gives_index_from (x y : Str) (i : Int) (t u v : Tok) (k : Nat) (r : List Nat) (h : occurrences x y (fromIndex x.length i) x.length 1 = k :: r) : Gives («str.index» ⟨[.str x t, .str y u, .int i v], []⟩) (.int k) := by
  show Gives (match occurrences x y (fromIndex x.length i) (min x.length x.length) 1 with | k :: _ => retInt k | [] => (do rule "str.index.not-found"; raiseError "ValueError" "substring not found")) _
  rw [Nat.min_self, h]
  exact .of_eq rfl
section
variable {X : Fx} {B : FMap} {O : Owns} {l : Locs} {s : Shared} {prog : Program} {w : World} {A : Around} {E : Value → Shared → Prop} {Q : Value → Shared → Prop} {env : Env}
/-- text.index(sign, from) -/
theorem e_indexFrom {a : List Nat} {c lo v : Nat} {t u z : Tok} (H : St X B O l s) (hv : a[v]? = some c) (hlo : lo ≤ v) (hno : ∀ k, lo ≤ k → k < v → a[k]? ≠ some c) (h : ∀ t s', St X B O l s' → Q (.int (v : Int) t) s') :
    wpAny (model prog w) A (call (.builtin "str.index") [.str (S a) t, .str (S [c]) u, .int (lo : Int) z]) Q E s := by
  refine call_gives F.slot_str_index (typeIs_str _ _ _) F.entry_str_index (F.args_str_index_3 _ _ _) (gives_index_from _ _ _ _ _ _ v [] ?_) (h _ _ H.tok)
  have : fromIndex (S a).length (lo : Int) = lo := by
    unfold fromIndex
    rw [if_neg (Int.not_lt.mpr (Int.natCast_nonneg _)), Int.max_eq_right (Int.natCast_nonneg _)]; rfl
  rw [this]
  exact occ_first hv hlo hno
end
end Mine
end
-- part C33
section
open PySem PySem.Spec PySem.Calls PyProof.Rows PySem.W
namespace Mine
section
variable {X : Fx} {B : FMap} {O : Owns} {l : Locs} {s : Shared} {prog : Program} {w : World} {A : Around} {E : Value → Shared → Prop} {Q : Value → Shared → Prop} {env : Env}
/-- range(n) -/
theorem e_range1 {b : Int} {u : Tok} (H : St X B O l s) (h : ∀ r t v B' s', Sub B B' → B' r = some { cls := .type "range", data := .fields #[.int 0 t, .int b u, .int 1 v] } → St X B' O l s' → Q (.ref r) s') :
    wpAny (model prog w) A (call (.type "range") [.int b u]) Q E s := by
  obtain ⟨B', h1, h2, H'⟩ := H.push (o := { cls := .type "range", data := .fields #[.int 0 s.toks, .int b u, .int 1 (s.toks + 1)] }) rfl (n := s.toks + 1 + 1)
  exact call_range_1 (h _ _ _ B' _ h1 h2 H')
/-- the place that a number tells -/
def placeOf (i : Int) (n : Nat) : Option Nat := let p := if i < 0 then i + n else i; if 0 ≤ p ∧ p < n then some p.toNat else none
/-- xs[i], from either end -/
theorem g_latI {a : Addr} {vs : List Value} {i : Int} {u : Tok} {p : Nat} {v : Value} (hl : s.heap.IsList a vs.toArray) (hp : placeOf i vs.length = some p) (hv : vs[p]? = some v) (hz : vs.length ≤ 1000000) (h : Q v s) :
    wpAny (model prog w) A (getItem (.ref a) (.int i u)) Q E s := by
  unfold placeOf at hp
  dsimp only at hp
  by_cases hi : i < 0
  · rw [if_pos hi] at hp
    by_cases hc : 0 ≤ i + (vs.length : Int) ∧ i + (vs.length : Int) < vs.length
    · rw [if_pos hc] at hp
      injection hp with hp; subst hp
      exact wpAny_getItem_list_neg hl hi (by simp; omega) (by omega) (by simpa using hv) h
    · rw [if_neg hc] at hp; cases hp
  · rw [if_neg hi] at hp
    by_cases hc : 0 ≤ i ∧ i < (vs.length : Int)
    · rw [if_pos hc] at hp
      injection hp with hp; subst hp
      exact wpAny_getItem_list hl (by omega) (by omega) (by simpa using hv) h
    · rw [if_neg hc] at hp; cases hp
theorem e_latI {a : Addr} {vs : List Value} {i : Int} {u : Tok} {p : Nat} {v : Value} {value slice : Expr} (hl : s.heap.IsList a vs.toArray) (hp : placeOf i vs.length = some p) (hv : vs[p]? = some v) (hz : vs.length ≤ 1000000) (h : Q v s)
    (hs : subscripted slice false (.ref a) (.int i u) = operate [.ref a, .int i u] (getItem (.ref a) (.int i u)) := by with_unfolding_all rfl) :
    wpAny (model prog w) A (subscriptTail value slice (.ref a) (.int i u)) Q E s :=
  tail_any hl.typeIs slot_list_getitem.lookup (g_latI hl hp hv hz h) hs
end
end Mine
end
-- part C23
section
open PySem PySem.Spec PySem.Calls PyProof.Rows PySem.W
set_option maxRecDepth 100000
namespace Mine
section
variable {prog : Program} {w : World} {A : Around} {E : Value → Shared → Prop} {h : Heap} {g : Array GenState} {d : Drawn} {t : Nat} {os : OsState}
variable {nm q : Str} {C N : Addr} {bs : List Value} {sn : List Str} {sub : List Value} {col : Option Bool} {dd : Option Addr} {k0 k1 k2 k3 k5 : Option Value} {newId : String}
abbrev madeHeap (h : Heap) (C : Addr) : Heap := (h.push { cls := .type "dict", data := .dict #[] }).push { cls := .ref C, dict := some h.objs.size, data := .plain }
theorem obj_new0 (F : ObjNewFacts newId) {R : Result → Shared → Prop} (hC : h.get? C = some (excClassObj nm q C N bs [.type "object"] true sn sub false col dd k0 k1 k2 k3 k5 newId))
    (hq : R (.ok (.ret (.ref (h.objs.size + 1)))) ⟨madeHeap h C, g, d, t, os⟩) :
    codeAny (model prog w) A (.builtin newId ⟨[.ref C], []⟩) R ⟨h, g, d, t, os⟩ := by
  refine codeAny_builtin F.entry ?_
  unfold Builtin.«object.__new__»
  repeat (first | with_reducible refine wpAny_madeHere_exc F.canon hC ?_ | with_reducible refine wpAny_madeBy_exc hC ?_ | with_reducible refine wpAny_loadPart_at hC ?_ | wp_step)
  show wpAny _ _ (alloc { cls := .type "dict", data := .dict #[] } >>= fun x => pure (some x)) _ _ _
  refine wpAny_bind (wpAny_alloc' (wpAny_pure ?_))
  unfold newObj
  repeat wp_step
  show R _ _
  rw [Heap.size_push]
  exact hq
set_option maxHeartbeats 1000000 in
theorem type_call0 (F : ObjNewFacts newId) {mN : Str → Option Value} {rest : List Value} (hr : rest = []) {Q : Fin → Shared → Prop}
    (hC : h.get? C = some (excClassObj nm q C N bs [.type "object"] true sn sub false col dd k0 k1 k2 k3 k5 newId)) (hn : h.Ns N mN) (hi : mN "__init__" = none)
    (hq : Q (.done (.ret (.ref (h.objs.size + 1)))) ⟨madeHeap h C, g, d, t, os⟩) :
    wpAny (model prog w) A (Builtin.«type.__call__» ⟨.ref C :: rest, []⟩) Q E ⟨h, g, d, t, os⟩ := by
  have hmro : mroOf (.type "object") = pure [.type "object"] := by kernel_rfl
  iterate 14 (first | with_reducible refine wpAny_loadPart_at hC ?_ | with_reducible refine wpAny_madeBy_exc hC ?_ | wp_step)
  refine wpAny_pure ?_
  refine wpAny_bind (wpAny_holding ?_)
  refine wpAny_call ?_
  refine codeAny_call_builtin_code (Code.quiet_builtin _ F.quiet) (wpAny_check_obj_new F hC ?_)
  subst hr
  refine obj_new0 F hC ?_
  show wpAny _ _ _ _ _ _
  have hC₁ := Heap.get?_push_of_some { cls := .ref C, dict := some h.objs.size, data := .plain } (Heap.get?_push_of_some { cls := .type "dict", data := .dict #[] } hC)
  have hn₁ : (madeHeap h C).Ns N mN :=
    let ⟨o, es, ep, e, r⟩ := hn; ⟨o, es, ep, Heap.get?_push_of_some _ (Heap.get?_push_of_some _ e), r⟩
  have hget : (madeHeap h C).get? (h.objs.size + 1) = some { cls := .ref C, dict := some h.objs.size, data := .plain } := by heap_get
  have hcC : (Value.ref C :: [Value.type "object"]).contains (.ref C) = true := by simp
  unfold isInstance
  iterate 12 (first | with_reducible refine wpAny_loadPart_at hget ?_ | (with_reducible refine wpAny_isSubtype_exc hC₁ ?_; rw [hcC]) | wp_step)
  refine wpAny_specialOf_inst hget rfl hC₁ hn₁ hi hmro PySem.F.slot_object_init.lookup ?_
  refine wpAny_holding (wpAny_bind ?_)
  rw [PySem.F.slot_object_init.bind]
  refine wpAny_pure (wpAny_bind ?_)
  show wpAny _ _ (call (.builtin "object.__init__") [.ref (h.objs.size + 1)] []) _ _ _
  refine wpAny_call (codeAny_call_builtin_at (Code.quiet_builtin _ (by decide +kernel)) PySem.F.entry_object_init (wpAny_check_slot_inst (owner := "object") (n := "__init__") (by decide +kernel) (by decide +kernel) (PySem.F.args_object_init_1 _) (by decide) hget rfl hC₁ ?_))
  refine wpAny_pure (wpAny_pure ?_)
  exact wpAny_pure hq
/-- C() where C is a class of the text without __init__ -/
theorem call_cls0 (F : ObjNewFacts newId) {mN : Str → Option Value} {Q : Value → Shared → Prop}
    (hC : h.get? C = some (excClassObj nm q C N bs [.type "object"] true sn sub false col dd k0 k1 k2 k3 k5 newId)) (hn : h.Ns N mN) (hi : mN "__init__" = none)
    (hq : Q (.ref (h.objs.size + 1)) ⟨madeHeap h C, g, d, t, os⟩) :
    wpAny (model prog w) A (call (.ref C) []) Q E ⟨h, g, d, t, os⟩ := by
  have f1 := tc_lookup
  have f2 := tc_bind (.ref C)
  have hT : (⟨h, g, d, t, os⟩ : Shared).TypeIs (.ref C) "type" := ⟨_, hC, rfl⟩
  refine wpAny_call (codeAny_of_tree ?_)
  show wpAny _ _ (callAny (.ref C) _) _ _ _
  repeat (any_goals (first | assumption | with_reducible refine wpAny_loadPart_at hC ?_ | wp_step))
  refine ⟨rfl, ?_⟩
  exact codeAny_call_builtin_at (Code.quiet_builtin _ (by decide +kernel)) entry_typeCall (wpAny_check_type_call_sub hC (type_call0 F rfl hC hn hi hq))
end
end Mine
end
-- part C24
section
open PySem PySem.Spec PySem.Calls PyProof.Rows PySem.W
set_option maxRecDepth 100000
namespace Mine
section
variable {prog : Program} {w : World} {A : Around} {E : Value → Shared → Prop} {s : Shared} {X N I : String}
end
end Mine
end
-- part C25
section
open PySem PySem.Spec PySem.Calls PyProof.Rows PySem.W
open Builtin Builtin.Str
set_option maxRecDepth 100000
namespace Mine
section
variable {prog : Program} {w : World} {A : Around} {E : Value → Shared → Prop} {s : Shared} {Q : Value → Shared → Prop}
end
end Mine
end
-- part C26
section
open PySem PySem.Spec PySem.Calls PyProof.Rows PySem.W
set_option maxRecDepth 100000
namespace Mine
/-- a class of the text as it stands: no __init__ of its own -/
structure FmAt (mg : Str → Option Value) (c : ClsRec) (h : Heap) (C N : Addr) (mN : Str → Option Value) : Prop where
  glob : mg c.name = some (.ref C)
  cls : PlainAtD h c C N mN
  init : mN "__init__" = none
/-- a bare object of the class C -/
def InstB (B : FMap) (x C : Addr) : Prop := ∃ dx, B x = some { cls := .ref C, dict := some dx, data := .plain } ∧ B dx = some { cls := .type "dict", data := .dict #[] } ∧ dx ≠ x
theorem InstB.sub {B B' : FMap} {x C : Addr} (hs : Sub B B') (h : InstB B x C) : InstB B' x C := let ⟨dx, h1, h2, h3⟩ := h; ⟨dx, hs _ _ h1, hs _ _ h2, h3⟩
def methRec (c : ClsRec) (m : MethRec) : DefRec := { name := c.name ++ "." ++ m.name, params := m.params, body := m.body, scope := m.scope, pos := default }
section
variable {prog : Program} {w : World} {X : Fx} {B B' : FMap} {O O' : Owns} {l l' : Locs} {s s' : Shared} {A : Around} {E : Value → Shared → Prop} {Q : Value → Shared → Prop} {c : ClsRec} {C N : Addr} {mN : Str → Option Value}
theorem InstB.inst {x : Addr} (hi : InstB B x C) (H : St X B O l s) : s.heap.Inst x C fun _ => none := by
  obtain ⟨dx, h1, h2, h3⟩ := hi
  exact ⟨_, H.fz _ _ h1, rfl, fun c => by simp, .inr ⟨dx, rfl, h3, Heap.Ns1.of_empty ⟨_, #[], _, H.fz _ _ h2, rfl, fun e he => absurd he (by simp), fun _ => rfl⟩⟩⟩
/-- C() -/
theorem e_make {n : Str} {np pos : Pos} (H : St X B O l s) (P : FmAt X.mg c X.h0 C N mN) (hn : c.name = n) (hx : X.env.kindOf n = some .globalImplicit) (h : ∀ x B' s', Sub B B' → InstB B' x C → St X B' O l s' → Q (.ref x) s')
    (hd : (n == ("__debug__" : Str)) = false := by decide) :
    wpAny (model prog w) A (eval (.Name n np) X.env) (fun f s₁ => wpAny (model prog w) A (callWith pos f [] (backTo pos (starEach [] X.env)) []) Q E s₁) E s := by
  refine w_glob H hx (hn ▸ P.glob) ?_ hd
  refine callWith_cls0 P.cls.cls H.kept ?_
  obtain ⟨nm, q, bs, sn, sub, col, dd, k0, k1, k2, k3, k5, hC⟩ := (P.cls.cls.keeps H.kept).obj
  obtain ⟨B₁, s1, b1, H₁⟩ := H.push (o := { cls := .type "dict", data := .dict #[] }) rfl (n := s.toks)
  obtain ⟨B₂, s2, b2, H₂⟩ := H₁.push (o := { cls := .ref C, dict := some s.heap.objs.size, data := .plain }) rfl (n := s.toks)
  have e : (s.heap.push { cls := .type "dict", data := .dict #[] }).objs.size = s.heap.objs.size + 1 := Heap.size_push ..
  have b2' : B₂ (s.heap.push { cls := .type "dict", data := .dict #[] }).objs.size = some { cls := .ref C, dict := some s.heap.objs.size, data := .plain } := b2
  rw [e] at b2'
  exact call_cls0 PySem.F.objNew hC (P.cls.cls.keeps H.kept).ns P.init (h _ B₂ _ (fun b o e => s2 _ _ (s1 _ _ e)) ⟨_, b2', s2 _ _ b1, Nat.ne_of_lt (Nat.lt_succ_self _)⟩ H₂)
theorem m_meth {M : MethRec} {x : Addr} {name : Str} {pl : Sem Bool} {Q : Value × List Value → Shared → Prop} (H : St X B O l s) (P : FmAt X.mg c X.h0 C N mN) (hi : InstB B x C) (hm : c.meths.find? (fun r => r.name == name) = some M)
    (hd : M.params.defaults = []) (hB : typeLookup (.type "object") name = pure none)
    (h : ∀ f o pm cdv doc, X.h0.get? f = some o → o.data = .func (methDefD M.name (methRec c M).name (methRec c M).params (methRec c M).body (methRec c M).scope pm cdv doc .none) → X.h0.CodeRec cdv (methRec c M).name → Q (.ref f, [.ref x]) s) :
    wpAny (model prog w) A (getMethod (.ref x) name pl) Q E s := by
  have hn : M.name = name := beq_iff_eq.mp (List.find?_some (p := fun r : MethRec => r.name == name) hm)
  obtain ⟨f, o, pm, cdv, doc, dV, h1, h2, h3, h4, h5, h6⟩ := P.cls.meths M (List.mem_of_find?_eq_some hm)
  obtain rfl := h6.none_of hd
  obtain ⟨nm, q, bs, sn, sub, col, dd, k0, k1, k2, k3, k5, hC⟩ := (P.cls.cls.keeps H.kept).obj
  have hQ := h f o pm cdv doc h2 h4 h5
  obtain ⟨hh, g, dr, tk, os⟩ := s
  exact method_of hC (P.cls.cls.keeps H.kept).ns (P.cls.quiet _ (List.mem_append_left _ (.tail _ (.head _)))) (P.cls.quiet _ (List.mem_append_left _ (.tail _ (.tail _ (.head _))))) (hn ▸ h1) (H.kept _ _ h2) h3 hB (hi.inst H) rfl hQ

/-- a call of the method comes back with P, or raises with Pe -/
def SpR (prog : Program) (w : World) (d : DefRec) (mname : Str) (A : Around) (vals : List Value) (B : FMap) (s : Shared) (P : FMap → Value → Prop) (Pe : Value → Shared → Prop) : Prop :=
  0 < s.toks → ∀ f o pm code doc, s.heap.get? f = some o → o.data = .func (methDefD mname d.name d.params d.body d.scope pm code doc .none) → s.heap.CodeRec code d.name →
    codeAny (model prog w) A (.call (.ref f) ⟨vals, []⟩) (fun r s' => Returns B s P r s' ∨ ∃ e, r = .error e ∧ Pe e s') s
end
end Mine
end
-- part C27
section
open PySem PySem.Spec PySem.Calls PyProof.Rows PySem.W
set_option maxRecDepth 100000
namespace Mine
section
variable {prog : Program} {w : World}
/-- the walk of a method; what it raises leaves its frame -/
theorem enterM {d : DefRec} {mname : Str} {A : Around} {k : Nat} (R : Rm A (k + 1)) {T : Tp} {s : Shared} {B : FMap} (hT : T.At s.heap) (hB : Fz B s.heap) {vals : List Value} {P : FMap → Value → Prop} {Pe : Value → Shared → Prop} {binds : List (Str × Value)} (ns : List Str)
    (hbind : ∀ pm cd doc, bindArgs (methDefD mname d.name d.params d.body d.scope pm cd doc .none) ⟨vals, []⟩ = pure binds)
    (hloc : ((binds.map (·.1) ++ ns).all fun x => decide (d.scope.names.lookup x = some .local ∧ (x == ("__debug__" : Str)) = false)) = true) (hnd : (binds.map (·.1) ++ ns).Nodup)
    (hco : d.scope.isCoroutine = false) (hgen : d.scope.isGenerator = false) (hk : d.scope.kind = .function) (hcell : ∀ x ∈ d.scope.names, x.2 ≠ .cell)
    (h : ∀ X (Q : Flow → Shared → Prop) (E : Value → Shared → Prop) s', Frm X T s B d → St X B [] (binds.map (fun b => (b.1, some b.2)) ++ ns.map fun n => (n, none)) s' → Rm (A.deeper X.env) k →
      (∀ {v B' O l s''}, St X B' O l s'' → P B' v → Q (.ret v) s'') →
      (∀ {e s''}, wpAny (model prog w) (A.deeper X.env) (leaving X.env e) (fun _ s₃ => Pe e s₃) (fun _ _ => False) s'' → E e s'') →
      wpAny (model prog w) (A.deeper X.env) (execs d.body X.env) Q E s') :
    SpR prog w d mname A vals B s P Pe := by
  intro htk f o pm code doc ho hd hcd
  have hall := List.all_eq_true.mp hloc
  have hndb : (binds.map (·.1)).Nodup := (List.nodup_append.mp hnd).1
  refine codeAny_call_def (fd := methDefD mname d.name d.params d.body d.scope pm code doc .none) (body := d.body) (binds := binds) R.room ho hd (Top.nolimit hT) hcd rfl (.of_eq (hbind pm code doc)) hcell
    (fun x hx => (of_decide_eq_true (hall _ (List.mem_append_left _ (List.mem_map_of_mem hx)))).1) (fun h₁ hns hk₁ => ?_) hco hgen hk
  let X : Fx := { p := T.p, loose := T.loose, mean := T.mean, mg := T.mg, mb := T.mb, env := envOf d.name d.scope s.heap.objs.size f code, h0 := s.heap, B0 := B, gens := s.gens, os := s.os, drawn := s.drawn }
  have keys : (binds.map (fun b => (b.1, some b.2)) ++ ns.map fun n => (n, (none : Option Value))).map (·.1) = binds.map (·.1) ++ ns := by simp [Function.comp_def]
  have hst : St X B [] (binds.map (fun b => (b.1, some b.2)) ++ ns.map fun n => (n, none)) { s with heap := h₁, toks := s.toks + binds.length } := by
    refine { ns := ?_, nd := by rw [keys]; exact hnd, kind := fun x hx => ?_, fn := hk, gl := rfl, bl := rfl, top := hT, kept := hk₁, offh := none_of_le (Nat.le_refl _), fz := fun b o e => hk₁ _ _ (hB.fz _ _ e), low := hB.low, lowO := fun q hq => absurd hq (by simp), b0 := Sub.refl _, new := fun b o e => .inl e, offL := ?_, own := fun q hq => absurd hq (by simp), apart := List.nodup_nil, gens := rfl, os := rfl, drawn := rfl, tk := Nat.lt_of_lt_of_le htk (Nat.le_add_right _ _) }
    · have e : mOf (binds.map (fun b => (b.1, some b.2)) ++ ns.map fun n => (n, none)) = fun x => binds.reverse.lookup x := by
        funext x
        rw [mOf_binds, mOf_none, lookup_rev hndb]
        cases binds.lookup x <;> rfl
      rw [e]; exact hns
    · rw [keys] at hx
      exact of_decide_eq_true (hall _ hx)
    · show B s.heap.objs.size = none
      cases q : B s.heap.objs.size with
      | none => rfl
      | some o' => exact absurd (Heap.lt_size (hB.fz _ _ q)) (Nat.lt_irrefl _)
  have hfr : Frm X T s B d := ⟨⟨_, _, _, rfl⟩, rfl, rfl, rfl, rfl, rfl, rfl⟩
  refine wpAny_mono (h X (fun fl s'' => ∃ v B', fl = .ret v ∧ Grow B s B' s'' ∧ P B' v) (fun e s'' => wpAny (model prog w) (A.deeper X.env) (leaving X.env e) (fun _ s₃ => Pe e s₃) (fun _ _ => False) s'') _ hfr hst (R.deeper _) (fun {v B' O l s''} H hp => ⟨v, B', rfl, hfr.B0 ▸ H.back hfr.h0 hfr.gens hfr.os hfr.drawn, hp⟩) fun {_ _} x => x) (fun fl s'' hq => ?_) fun e s'' he => ?_
  · obtain ⟨v, B', rfl, hg, hp⟩ := hq
    exact .inl ⟨v, B', rfl, hg, hp⟩
  · exact wpAny_mono he (fun _ s₃ h₃ => .inr ⟨e, rfl, h₃⟩) fun _ _ x => x.elim

variable {X : Fx} {B B' : FMap} {O O' : Owns} {l l' : Locs} {s s' : Shared} {A : Around} {E : Value → Shared → Prop} {Q : Value → Shared → Prop}
theorem Frm.frame {T : Tp} {d : DefRec} (F : Frm X T s B d) : X.env.frame = some X.env.locals := by
  obtain ⟨L, a, cd, e⟩ := F.env
  rw [e]; rfl

theorem hide_off {h : Heap} {L b : Addr} (e : h.get? b = none) : (hideAll h [L]).get? b = none := by
  cases q : (hideAll h [L]).get? b with
  | none => rfl
  | some o => have := of_hideAll _ q; rw [e] at this; cases this

end
end Mine
end
-- part C28
section
open PySem PySem.Spec PySem.Calls PyProof.Rows PySem.W
set_option maxRecDepth 100000
namespace Mine
section
variable {prog : Program} {w : World} {X : Fx} {B B' : FMap} {O O' : Owns} {l l' : Locs} {s s' : Shared} {A : Around} {E : Value → Shared → Prop} {Q : Value → Shared → Prop} {e t : Addr} {v : Value}
theorem flown_st (H : St X B O l s) (K : Keep (hideAll s.heap [X.env.locals]) s'.heap) (up : s.heap.UpToSlots s'.heap) (hg : s'.gens = s.gens) (ho : s'.os = s.os) (hd : s'.drawn = s.drawn) (hn : 0 < s'.toks) : St X B O l s' := by
  have ne : ∀ {b : Addr} {o : Obj}, (b = X.env.locals → False) → s.heap.get? b = some o → s'.heap.get? b = some o := fun {b o} hb e => K _ _ (hideAll_get _ e (by simpa using hb))
  exact { H with tk := hn, ns := up.ns H.ns, kept := fun b o e => ne (fun q => by rw [q, H.offh] at e; cases e) (H.kept _ _ e), fz := fun b o e => ne (fun q => by rw [q, H.offL] at e; cases e) (H.fz _ _ e), own := fun q hq => let ⟨⟨o, h1, h2⟩, h3, r⟩ := H.own q hq; ⟨⟨o, ne h3 h1, h2⟩, h3, r⟩, gens := hg.trans H.gens, os := ho.trans H.os, drawn := hd.trans H.drawn }
end
end Mine
end
-- part C34
section
open PySem PySem.Spec PySem.Calls PyProof.Rows PySem.W
set_option maxRecDepth 100000
namespace Mine
/-- a new exception of the kind T has come out of a call that was begun at s, ahead of the frame of env -/
structure FlownT (T : String) (env : Env) (L : Addr) (s s' : Shared) (e : Addr) : Prop where
  fly : ∃ a0, Heap.FlyingW (hideAll s.heap [L]) [env] e (.type T) a0 s'.heap
  up : s.heap.UpToSlots s'.heap
  newE : s.heap.get? e = none
  gens : s'.gens = s.gens
  os : s'.os = s.os
  drawn : s'.drawn = s.drawn
  tk : 0 < s'.toks
section
variable {prog : Program} {w : World} {X : Fx} {B B' : FMap} {O O' : Owns} {l l' : Locs} {s s' : Shared} {A : Around} {E : Value → Shared → Prop} {Q : Value → Shared → Prop} {e t : Addr} {v : Value} {T : String}
theorem leavesT {env : Env} {L e : Addr} {s₀ s₁ : Shared} {Pe : Value → Shared → Prop} (H : St X B O l s₁) (h0 : X.h0 = s₀.heap) (hg : X.gens = s₀.gens) (hos : X.os = s₀.os) (hdr : X.drawn = s₀.drawn) (hf : X.env.frame = some X.env.locals)
    (hfr : A.frames = some [X.env, env]) (hk : env.scope.kind ≠ .module) (hL : env.frame = some L) (hN : ∃ m, s₀.heap.Ns L m) (hn : Heap.NewExc s₁.heap s'.heap e T) (hs' : s'.gens = s₁.gens ∧ s'.os = s₁.os ∧ s'.drawn = s₁.drawn ∧ 0 < s'.toks)
    (h : ∀ s₂, FlownT T env L s₀ s₂ e → Pe (.ref e) s₂) : wpAny (model prog w) A (leaving X.env (.ref e)) (fun _ s₃ => Pe (.ref e) s₃) (fun _ _ => False) s' := by
  have kept : Keep s₀.heap s₁.heap := h0 ▸ H.kept
  have stays : (hideAll s₀.heap [L]).StaysIn s'.heap := fun b o e => hn.keeps _ _ (kept _ _ (of_hideAll _ e))
  have hoff : s₀.heap.get? e = none := by
    cases q : s₀.heap.get? e with
    | none => rfl
    | some o => have := kept _ _ q; rw [hn.new] at this; cases this
  obtain ⟨m, hNs⟩ := hN
  obtain ⟨ob, a0, hob, hcls, hdat⟩ := hn.there
  have hNs' : s'.heap.Ns L m := (hNs.keeps kept).keeps hn.keeps
  have fun1 : s'.heap.FunFrames (hideAll s₀.heap [L]) [env] := Heap.FunFrames.cons hk hL hNs' (hideAll_none _ (.head _)) trivial
  have fun2 : s'.heap.FunFrames (hideAll s₀.heap [L]) [X.env, env] := Heap.FunFrames.cons (by rw [H.fn]; decide) hf (H.ns.keeps hn.keeps) (hide_off (h0 ▸ H.offh)) fun1
  refine wpAny_leaving_firstW (base := hideAll s₀.heap [L]) hfr fun2 hf hob stays (hide_off hoff) hdat rfl rfl fun h' hl => ?_
  obtain ⟨k1, ⟨_, _, k2⟩, k3, k4⟩ := hl
  exact h _ ⟨⟨a0, k1, hide_off hoff, k2, hcls ▸ k3⟩, (Heap.UpToSlots.of_keeps fun b o e => hn.keeps _ _ (kept _ _ e)).trans k4, hoff, hs'.1.trans (H.gens.trans hg), hs'.2.1.trans (H.os.trans hos), hs'.2.2.1.trans (H.drawn.trans hdr), hs'.2.2.2⟩
/-- it lands in the frame of the try -/
theorem landsT {Q : Flow → Shared → Prop} {hs : List ExceptHandler} (H : St X B O l s) (FL : FlownT T X.env X.env.locals s s' e) (hfr : A.frames = some [X.env]) (hf : X.env.frame = some X.env.locals)
    (k : ∀ s'', St X B O l s'' → (∃ a0, Heap.FlyingW (hideAll s.heap [X.env.locals]) [X.env] e (.type T) a0 s''.heap) → s.heap.UpToSlots s''.heap → s''.gens = s.gens ∧ s''.os = s.os ∧ s''.drawn = s.drawn ∧ 0 < s''.toks → wpAny (model prog w) A (handleBy (.ref e) X.env hs) Q E s'') :
    wpAny (model prog w) A (noteFrame (.ref e) X.env) (fun _ s₂ => wpAny (model prog w) A (setFlight (.ref e) none) (fun _ s₃ => wpAny (model prog w) A (handleBy (.ref e) X.env hs) Q E s₃) E s₂) E s' := by
  obtain ⟨a0, fly⟩ := FL.fly
  refine wpAny_looks_onW hfr hf fly fun h₄ held₄ up₄ => ?_
  refine wpAny_landsW (s := { s' with heap := h₄ }) held₄ fun h₅ fly₅ up₅ => ?_
  have up45 : s.heap.UpToSlots h₅ := (FL.up.trans up₄).trans up₅
  exact k _ (flown_st H (fun b o e => fly₅.1 b o e) up45 FL.gens FL.os FL.drawn FL.tk) ⟨a0, fly₅⟩ up45 ⟨FL.gens, FL.os, FL.drawn, FL.tk⟩
/-- a handler of another kind lets it by -/
theorem passT {Xn : String} {n : Str} {b₀ : Stmt} {suite : List Stmt} {pos np : Pos} {rest : List ExceptHandler} {Q : Flow → Shared → Prop} {base : Heap} (H : St X B O l s') (fly : ∃ a0, Heap.FlyingW base [X.env] e (.type T) a0 s'.heap)
    (hx : X.env.kindOf n = some .globalImplicit) (hg : X.mg n = none) (hb : bootBuiltins n = some (.type Xn)) (hnm : n ≠ Str.ofString "__name__") (hdb : (n == Str.ofString "__debug__") = false)
    (hexc : isSubtype (.type Xn) (.type "BaseException") = pure true) (hnt : isSubtype (.type ((Manifest.find? Xn).elim "type" fun x => x.metatype)) (.type "tuple") = pure false) (hsub : isSubtype (.type T) (.type Xn) = pure false)
    (k : wpAny (model prog w) A (handleBy (.ref e) X.env rest) Q E s') :
    wpAny (model prog w) A (handleBy (.ref e) X.env (.ExceptHandler (some (.Name n np)) none (b₀ :: suite) pos :: rest)) Q E s' := by
  obtain ⟨a0, fly⟩ := fly
  refine wpAny_handleBy_builtin (X := T) (T := Xn) (b := false) hexc hnt hsub ?_
  refine w_builtin (v := .type Xn) H hx hg hb hnm ⟨rfl, fly.there, ?_⟩ hdb
  rw [if_neg (by decide)]
  exact k
/-- a handler of its kind takes it -/
theorem takeT {Xn : String} {n : Str} {b₀ : Stmt} {suite : List Stmt} {pos np : Pos} {rest : List ExceptHandler} {Q : Flow → Shared → Prop} (H : St X B O l s) (hg' : s'.gens = s.gens ∧ s'.os = s.os ∧ s'.drawn = s.drawn ∧ 0 < s'.toks) (H' : St X B O l s') (up : s.heap.UpToSlots s'.heap) (fly : ∃ a0, Heap.FlyingW (hideAll s.heap [X.env.locals]) [X.env] e (.type T) a0 s'.heap)
    (hx : X.env.kindOf n = some .globalImplicit) (hg : X.mg n = none) (hb : bootBuiltins n = some (.type Xn)) (hnm : n ≠ Str.ofString "__name__") (hdb : (n == Str.ofString "__debug__") = false)
    (hexc : isSubtype (.type Xn) (.type "BaseException") = pure true) (hnt : isSubtype (.type ((Manifest.find? Xn).elim "type" fun x => x.metatype)) (.type "tuple") = pure false) (hsub : isSubtype (.type T) (.type Xn) = pure true)
    (k : ∀ s'', St X B O l s'' → wpAny (model prog w) (A.mark (some (.ref e))) (execs (b₀ :: suite) X.env) Q (fun _ _ => False) s'') :
    wpAny (model prog w) A (handleBy (.ref e) X.env (.ExceptHandler (some (.Name n np)) none (b₀ :: suite) pos :: rest)) Q E s' := by
  obtain ⟨a0, fly⟩ := fly
  refine wpAny_handleBy_builtin (X := T) (T := Xn) (b := true) hexc hnt hsub ?_
  refine w_builtin (v := .type Xn) H' hx hg hb hnm ⟨rfl, fly.there, ?_⟩ hdb
  rw [if_pos rfl]
  refine lands_againW fly fun h₆ fly₆ up₆ => ?_
  have H₆ : St X B O l { s' with heap := h₆ } := flown_st H (fun b o e => fly₆.1 b o e) (up.trans up₆) hg'.1 hg'.2.1 hg'.2.2.1 hg'.2.2.2
  exact wpAny_mono (k _ H₆) (fun _ _ x => x) fun _ _ x => x.elim
end
end Mine
end
-- part C35
section
open PySem PySem.Spec PySem.Calls PyProof.Rows PySem.W
set_option maxRecDepth 100000
namespace Mine
theorem bool_index : typeLookup (.type "bool") "__index__" = pure (some (.builtin "int.__index__")) := by rw [typeLookup_type, builtinLookup_eq_fast]; kernel_rfl
section
variable {prog : Program} {w : World} {A : Around} {E : Value → Shared → Prop} {s : Shared}
theorem sub_bool {M : Model} {b : Bool} {Q : Option Int → Shared → Prop} (h : Q (some (if b then 1 else 0)) s) : wpAny M A (Builtin.List.listSubscript? (.bool b)) Q E s := by
  unfold Builtin.List.listSubscript?
  refine wpAny_bind (wpAny_specialOf (T := "bool") rfl bool_index ?_)
  show wpAny M A (asIndex (.bool b) >>= _) Q E s
  refine wpAny_bind (wpAny_of_eq (a := if b then 1 else 0) (by cases b <;> rfl) ?_)
  show wpAny M A (if (!Builtin.List.listFitsIndex (if b then 1 else 0)) = true then _ else _) Q E s
  rw [if_neg (by cases b <;> decide)]
  exact wpAny_pure h
/-- xs[True], xs[False] -/
theorem g_latB {l : Addr} {vs : List Value} {b : Bool} {Q : Value → Shared → Prop} (hA : A.handled = none) (hl : s.heap.IsList l vs.toArray)
    (h1 : ∀ v, vs[if b then 1 else 0]? = some v → Q v s) (h2 : vs[if b then 1 else 0]? = none → ∀ h' tk e, Heap.NewExc s.heap h' e "IndexError" → E (.ref e) { s with heap := h', toks := tk }) :
    wpAny (model prog w) A (getItem (.ref l) (.bool b)) Q E s := by
  obtain ⟨o, ho, hc, ne, hd⟩ := id hl
  unfold getItem
  try with_reducible refine wpAny_holding ?_
  first | refine wpAny_bind (wpAny_pure ?_) | skip
  refine wpAny_bind (wpAny_sequenceKey hl.typeIs (by decide) ?_)
  refine wpAny_bind (wpAny_callSpecial?_slot (name := Str.ofString "__getitem__") hl.typeIs slot_list_getitem
    (wpAny_call_entry slot_list_getitem hl.typeIs entry_list_getitem ?_ (args_list_getitem _ _)))
  show wpAny _ _ (Builtin.List.listSubscript? (.bool b) >>= _) _ _ s
  refine wpAny_bind (sub_bool ?_)
  cases b with
  | false =>
    show wpAny _ _ ((seqItemAt l 0 >>= fun r => pure (r.map (0, ·))) >>= _) _ _ s
    refine wpAny_bind (wpAny_bind (wpAny_seqItemAt ho hd (wpAny_pure ?_)))
    cases hx : vs[0]? with
    | some v =>
      rw [show vs.toArray[0]? = some v by simpa using hx]
      first
        | exact wpAny_bind (wpAny_pure (wpAny_pure ⟨v, rfl, wpAny_pure (h1 v hx)⟩))
        | exact wpAny_pure ⟨v, rfl, wpAny_pure (h1 v hx)⟩
    | none =>
      rw [show vs.toArray[0]? = none by simpa using hx]
      have hE := h2 hx
      first
        | exact wpAny_bind (wpAny_rule (by exact_raiseError plainExc_IndexError hA hE))
        | exact wpAny_bind (wpAny_rule (wpAny_bind (by exact_raiseError plainExc_IndexError hA hE)))
        | exact wpAny_bind (wpAny_bind (wpAny_rule (by exact_raiseError plainExc_IndexError hA hE)))
        | exact wpAny_rule (by exact_raiseError plainExc_IndexError hA hE)
  | true =>
    show wpAny _ _ ((seqItemAt l 1 >>= fun r => pure (r.map (1, ·))) >>= _) _ _ s
    refine wpAny_bind (wpAny_bind (wpAny_seqItemAt ho hd (wpAny_pure ?_)))
    cases hx : vs[1]? with
    | some v =>
      rw [show vs.toArray[1]? = some v by simpa using hx]
      first
        | exact wpAny_bind (wpAny_pure (wpAny_pure ⟨v, rfl, wpAny_pure (h1 v hx)⟩))
        | exact wpAny_pure ⟨v, rfl, wpAny_pure (h1 v hx)⟩
    | none =>
      rw [show vs.toArray[1]? = none by simpa using hx]
      have hE := h2 hx
      first
        | exact wpAny_bind (wpAny_rule (by exact_raiseError plainExc_IndexError hA hE))
        | exact wpAny_bind (wpAny_rule (wpAny_bind (by exact_raiseError plainExc_IndexError hA hE)))
        | exact wpAny_bind (wpAny_bind (wpAny_rule (by exact_raiseError plainExc_IndexError hA hE)))
        | exact wpAny_rule (by exact_raiseError plainExc_IndexError hA hE)
end
section
variable {prog : Program} {w : World}
/-- the walk of a method that may end without return -/
theorem enterMN {d : DefRec} {mname : Str} {A : Around} {k : Nat} (R : Rm A (k + 1)) {T : Tp} {s : Shared} {B : FMap} (hT : T.At s.heap) (hB : Fz B s.heap) {vals : List Value} {P : FMap → Value → Prop} {Pe : Value → Shared → Prop} {binds : List (Str × Value)} (ns : List Str)
    (hbind : ∀ pm cd doc, bindArgs (methDefD mname d.name d.params d.body d.scope pm cd doc .none) ⟨vals, []⟩ = pure binds)
    (hloc : ((binds.map (·.1) ++ ns).all fun x => decide (d.scope.names.lookup x = some .local ∧ (x == ("__debug__" : Str)) = false)) = true) (hnd : (binds.map (·.1) ++ ns).Nodup)
    (hco : d.scope.isCoroutine = false) (hgen : d.scope.isGenerator = false) (hk : d.scope.kind = .function) (hcell : ∀ x ∈ d.scope.names, x.2 ≠ .cell)
    (h : ∀ X (Q : Flow → Shared → Prop) (E : Value → Shared → Prop) s', Frm X T s B d → St X B [] (binds.map (fun b => (b.1, some b.2)) ++ ns.map fun n => (n, none)) s' → Rm (A.deeper X.env) k →
      (∀ {v B' O l s''}, St X B' O l s'' → P B' v → Q (.ret v) s'') → (∀ {B' O l s''}, St X B' O l s'' → P B' .none → Q .next s'') →
      (∀ {e s''}, wpAny (model prog w) (A.deeper X.env) (leaving X.env e) (fun _ s₃ => Pe e s₃) (fun _ _ => False) s'' → E e s'') →
      wpAny (model prog w) (A.deeper X.env) (execs d.body X.env) Q E s') :
    SpR prog w d mname A vals B s P Pe := by
  intro htk f o pm code doc ho hd hcd
  have hall := List.all_eq_true.mp hloc
  have hndb : (binds.map (·.1)).Nodup := (List.nodup_append.mp hnd).1
  refine codeAny_call_def (fd := methDefD mname d.name d.params d.body d.scope pm code doc .none) (body := d.body) (binds := binds) R.room ho hd (Top.nolimit hT) hcd rfl (.of_eq (hbind pm code doc)) hcell
    (fun x hx => (of_decide_eq_true (hall _ (List.mem_append_left _ (List.mem_map_of_mem hx)))).1) (fun h₁ hns hk₁ => ?_) hco hgen hk
  let X : Fx := { p := T.p, loose := T.loose, mean := T.mean, mg := T.mg, mb := T.mb, env := envOf d.name d.scope s.heap.objs.size f code, h0 := s.heap, B0 := B, gens := s.gens, os := s.os, drawn := s.drawn }
  have keys : (binds.map (fun b => (b.1, some b.2)) ++ ns.map fun n => (n, (none : Option Value))).map (·.1) = binds.map (·.1) ++ ns := by simp [Function.comp_def]
  have hst : St X B [] (binds.map (fun b => (b.1, some b.2)) ++ ns.map fun n => (n, none)) { s with heap := h₁, toks := s.toks + binds.length } := by
    refine { ns := ?_, nd := by rw [keys]; exact hnd, kind := fun x hx => ?_, fn := hk, gl := rfl, bl := rfl, top := hT, kept := hk₁, offh := none_of_le (Nat.le_refl _), fz := fun b o e => hk₁ _ _ (hB.fz _ _ e), low := hB.low, lowO := fun q hq => absurd hq (by simp), b0 := Sub.refl _, new := fun b o e => .inl e, offL := ?_, own := fun q hq => absurd hq (by simp), apart := List.nodup_nil, gens := rfl, os := rfl, drawn := rfl, tk := Nat.lt_of_lt_of_le htk (Nat.le_add_right _ _) }
    · have e : mOf (binds.map (fun b => (b.1, some b.2)) ++ ns.map fun n => (n, none)) = fun x => binds.reverse.lookup x := by
        funext x
        rw [mOf_binds, mOf_none, lookup_rev hndb]
        cases binds.lookup x <;> rfl
      rw [e]; exact hns
    · rw [keys] at hx
      exact of_decide_eq_true (hall _ hx)
    · show B s.heap.objs.size = none
      cases q : B s.heap.objs.size with
      | none => rfl
      | some o' => exact absurd (Heap.lt_size (hB.fz _ _ q)) (Nat.lt_irrefl _)
  have hfr : Frm X T s B d := ⟨⟨_, _, _, rfl⟩, rfl, rfl, rfl, rfl, rfl, rfl⟩
  refine wpAny_mono (h X (fun fl s'' => ∃ v B', (fl = .ret v ∨ (fl = .next ∧ v = .none)) ∧ Grow B s B' s'' ∧ P B' v) (fun e s'' => wpAny (model prog w) (A.deeper X.env) (leaving X.env e) (fun _ s₃ => Pe e s₃) (fun _ _ => False) s'') _ hfr hst (R.deeper _) (fun {v B' O l s''} H hp => ⟨v, B', .inl rfl, hfr.B0 ▸ H.back hfr.h0 hfr.gens hfr.os hfr.drawn, hp⟩) (fun {B' O l s''} H hp => ⟨.none, B', .inr ⟨rfl, rfl⟩, hfr.B0 ▸ H.back hfr.h0 hfr.gens hfr.os hfr.drawn, hp⟩) fun {_ _} x => x) (fun fl s'' hq => ?_) fun e s'' he => ?_
  · obtain ⟨v, B', hfl, hg, hp⟩ := hq
    rcases hfl with rfl | ⟨rfl, rfl⟩
    · exact .inl ⟨_, B', rfl, hg, hp⟩
    · exact .inl ⟨_, B', rfl, hg, hp⟩
  · exact wpAny_mono he (fun _ s₃ h₃ => .inr ⟨e, rfl, h₃⟩) fun _ _ x => x.elim
end
end Mine
end
-- part P3
section
open PySem
namespace Mine
end Mine
end
-- part P8
section
open PySem
namespace Mine
/- what the model writes of a thing, and how it is read back: no program in sight -/
theorem Hex.snoc {ds : List Nat} {c m : Nat} (h : Hex ds c m) {v d : Nat} (hv : figures16[v]? = some d) : Hex (ds ++ [d]) c (16 * m + v) := by
  induction h with
  | nil => exact .cons v hv .nil
  | cons w hw _ ih => exact .cons w hw ih
theorem Hex.zeros {ds : List Nat} {m : Nat} (h : Hex ds 0 m) : ∀ k : Nat, Hex (List.replicate k 48 ++ ds) 0 m
  | 0 => h
  | k + 1 => by rw [List.replicate_succ]; exact .cons 0 rfl (by simpa using h.zeros k)
theorem Dec.snoc {ds : List Nat} {c m : Nat} (h : Dec ds c m) {v d : Nat} (hv : figures10[v]? = some d) : Dec (ds ++ [d]) c (10 * m + v) := by
  induction h with
  | nil => exact .cons v hv .nil
  | cons w hw _ ih => exact .cons w hw ih
theorem fig16_char : ∀ v : Fin 16, figures16[v.val]? = some (Nat.digitChar v.val).toNat := by decide +kernel
theorem fig10_char : ∀ v : Fin 10, figures10[v.val]? = some (Nat.digitChar v.val).toNat := by decide +kernel
theorem hex_digits : ∀ (k n : Nat), n < k → Hex ((Nat.toDigits 16 n).map Char.toNat) 0 n
  | 0, n, h => by omega
  | k + 1, n, h => by
    by_cases h16 : n < 16
    · rw [Nat.toDigits_of_lt_base h16]
      have := Hex.cons (ds := []) (c := 0) (c' := 16 * 0 + n) n (fig16_char ⟨n, h16⟩) .nil
      simpa using this
    · rw [Nat.toDigits_of_base_le (by decide) (by omega), List.map_append]
      have ih := hex_digits k (n / 16) (by omega)
      have := ih.snoc (fig16_char ⟨n % 16, Nat.mod_lt _ (by decide)⟩)
      rw [show 16 * (n / 16) + n % 16 = n by omega] at this
      exact this
theorem dec_digits : ∀ (k n : Nat), n < k → Dec ((Nat.toDigits 10 n).map Char.toNat) 0 n ∧ ∃ d ds, (Nat.toDigits 10 n).map Char.toNat = d :: ds ∧ (d = 48 → ds = [] ∧ n = 0)
  | 0, n, h => by omega
  | k + 1, n, h => by
    by_cases h10 : n < 10
    · rw [Nat.toDigits_of_lt_base h10]
      have := Dec.cons (ds := []) (c := 0) (c' := 10 * 0 + n) n (fig10_char ⟨n, h10⟩) .nil
      refine ⟨by simpa using this, _, [], rfl, fun e => ⟨rfl, ?_⟩⟩
      have key : ∀ v : Fin 10, (Nat.digitChar v.val).toNat = 48 → v.val = 0 := by decide +kernel
      exact key ⟨n, h10⟩ e
    · rw [Nat.toDigits_of_base_le (by decide) (by omega), List.map_append]
      obtain ⟨ih, d, ds, e, hd⟩ := dec_digits k (n / 10) (by omega)
      have := ih.snoc (fig10_char ⟨n % 10, Nat.mod_lt _ (by decide)⟩)
      rw [show 10 * (n / 10) + n % 10 = n by omega] at this
      refine ⟨this, d, ds ++ [(Nat.digitChar (n % 10)).toNat], by rw [e]; rfl, fun h48 => ?_⟩
      have := (hd h48).2
      omega
theorem toDigits16_len : ∀ (w n : Nat), 1 ≤ w → n < 16 ^ w → (Nat.toDigits 16 n).length ≤ w
  | 0, _, h, _ => by omega
  | w + 1, n, _, h => by
    by_cases h16 : n < 16
    · rw [Nat.toDigits_of_lt_base h16]; simp
    · rw [Nat.toDigits_of_base_le (by decide) (by omega), List.length_append]
      have hw : 1 ≤ w := by
        rcases Nat.eq_zero_or_pos w with e | e
        · subst e; omega
        · exact e
      have := toDigits16_len w (n / 16) hw (by rw [Nat.pow_succ] at h; omega)
      simp; omega
theorem toDigits10_len : ∀ (w n : Nat), 1 ≤ w → n < 10 ^ w → (Nat.toDigits 10 n).length ≤ w
  | 0, _, h, _ => by omega
  | w + 1, n, _, h => by
    by_cases h16 : n < 10
    · rw [Nat.toDigits_of_lt_base h16]; simp
    · rw [Nat.toDigits_of_base_le (by decide) (by omega), List.length_append]
      have hw : 1 ≤ w := by
        rcases Nat.eq_zero_or_pos w with e | e
        · subst e; omega
        · exact e
      have := toDigits10_len w (n / 10) hw (by rw [Nat.pow_succ] at h; omega)
      simp; omega
theorem hexOf_ok {c w : Nat} (hw : 1 ≤ w) (hc : c < 16 ^ w) : (hexOf c w).length = w ∧ Hex (hexOf c w) 0 c := by
  have hl := toDigits16_len w c hw hc
  unfold hexOf
  refine ⟨?_, (hex_digits (c + 1) c (Nat.lt_succ_self _)).zeros _⟩
  rw [List.length_append, List.length_replicate, List.length_map]; omega
theorem Hex.figs {ds : List Nat} {c m : Nat} (h : Hex ds c m) : ∀ d ∈ ds, 48 ≤ d ∧ d ≤ 102 := by
  induction h with
  | nil => intro d hd; simp at hd
  | @cons d ds c c' v hv _ ih =>
    intro x hx
    rcases List.mem_cons.mp hx with rfl | hx
    · have hl : v < 16 := (List.getElem?_eq_some_iff.mp hv).1
      have key : ∀ v : Fin 16, ∀ d, figures16[v.val]? = some d → 48 ≤ d ∧ d ≤ 102 := by
        intro v d h
        have h2 : figures16[v.val]! = d := by rw [List.getElem!_eq_getElem?_getD, h]; rfl
        subst h2
        revert v; intro v _; revert v; decide
      exact key ⟨v, hl⟩ _ hv
    · exact ih x hx
theorem Dec.figs {ds : List Nat} {c m : Nat} (h : Dec ds c m) : ∀ d ∈ ds, 48 ≤ d ∧ d ≤ 57 := by
  induction h with
  | nil => intro d hd; simp at hd
  | @cons d ds c c' v hv hr ih =>
    intro x hx
    rcases List.mem_cons.mp hx with rfl | hx
    · exact Dec.fig (.cons v hv hr)
    · exact ih x hx
/-- an escape by a number -/
structure EscOk (e : Nat) (hs : List Nat) (c : Nat) : Prop where
  len : hs.length = sizeOf e
  pos : sizeOf e ≠ 0
  hex : Hex hs 0 c
  least : leastOf (sizeOf e) ≤ c
  sign : e = 120 ∨ e = 117 ∨ e = 85
theorem esc_of {c : Nat} (hc : c < 1114112) : ∃ e hs, (if c < 256 then [92, 120] ++ hexOf c 2 else if c < 65536 then [92, 117] ++ hexOf c 4 else [92, 85] ++ hexOf c 8) = 92 :: e :: hs ∧ EscOk e hs c := by
  by_cases h1 : c < 256
  · rw [if_pos h1]
    obtain ⟨a, b⟩ := hexOf_ok (c := c) (w := 2) (by decide) (by omega)
    exact ⟨120, hexOf c 2, rfl, a, by decide, b, by simp [leastOf, sizeOf], .inl rfl⟩
  · rw [if_neg h1]
    by_cases h2 : c < 65536
    · rw [if_pos h2]
      obtain ⟨a, b⟩ := hexOf_ok (c := c) (w := 4) (by decide) (by omega)
      exact ⟨117, hexOf c 4, rfl, a, by decide, b, by simp [leastOf, sizeOf]; omega, .inr (.inl rfl)⟩
    · rw [if_neg h2]
      obtain ⟨a, b⟩ := hexOf_ok (c := c) (w := 8) (by decide) (by omega)
      exact ⟨85, hexOf c 8, rfl, a, by decide, b, by simp [leastOf, sizeOf]; omega, .inr (.inr rfl)⟩
/-- how the signs beyond 127 are laid: as they are, or by their number -/
structure Lays (esc : Nat → List Nat) : Prop where
  low : ∀ c, c < 128 → esc c = [c]
  high : ∀ c, 128 ≤ c → c < 1114112 → esc c = [c] ∨ ∃ e hs, esc c = 92 :: e :: hs ∧ EscOk e hs c
theorem lays_id : Lays fun c => [c] := ⟨fun _ _ => rfl, fun _ _ _ => .inl rfl⟩
theorem lays_ascii : Lays aesc := by
  refine ⟨fun c h => by unfold aesc; rw [if_pos h], fun c h hc => .inr ?_⟩
  unfold aesc
  rw [if_neg (by omega)]
  exact esc_of hc
theorem Lays.lows {esc : Nat → List Nat} (L : Lays esc) : ∀ {l : List Nat}, (∀ c ∈ l, c < 128) → l.flatMap esc = l
  | [], _ => rfl
  | c :: l, h => by rw [List.flatMap_cons, L.low c (h c (.head _)), L.lows fun x hx => h x (.tail _ hx)]; rfl
theorem printable_low : ∀ c : Fin 128, Unicode.isPrintable c.val = (decide (32 ≤ c.val) && decide (c.val ≤ 126)) := by decide +kernel
/-- what stands in a text for one sign -/
def bodyOf (esc : Nat → List Nat) (q c : Nat) : List Nat := (Builtin.Str.reprChar q c).flatMap esc
/-- a sign as it is, a backslash and a sign, or a backslash and a number -/
inductive Body (q c : Nat) : List Nat → Prop
  | plain : c ≠ q → c ≠ 92 → 32 ≤ c → c ≠ 127 → Body q c [c]
  | short {e} : sizeOf e = 0 → shortOf q e = some c → 32 ≤ e → e ≤ 126 → Body q c [92, e]
  | num {e hs} : EscOk e hs c → (c < 32 ∨ 126 < c) → c ≠ 10 → c ≠ 13 → c ≠ 9 → Body q c (92 :: e :: hs)
theorem body_of {esc : Nat → List Nat} (L : Lays esc) {q c : Nat} (hq : q = 39 ∨ q = 34) (hc : c < 1114112) : Body q c (bodyOf esc q c) ∧ (bodyOf esc q c ≠ [c] ∨ c < 128 ∨ esc c = [c]) := by
  unfold bodyOf Builtin.Str.reprChar
  by_cases h1 : (c == q || c == 92) = true
  · rw [if_pos h1]
    have hcq : c = q ∨ c = 92 := by simpa using h1
    have hlow : c < 128 := by omega
    rw [L.lows (l := [92, c]) (by simp; omega)]
    refine ⟨.short ?_ ?_ (by omega) (by omega), .inr (.inl hlow)⟩
    · rcases hcq with rfl | rfl
      · rcases hq with rfl | rfl <;> rfl
      · rfl
    · rcases hcq with rfl | rfl
      · rcases hq with rfl | rfl <;> rfl
      · rfl
  rw [if_neg h1]
  have hcq : c ≠ q ∧ c ≠ 92 := by simpa using h1
  by_cases h2 : (c == 10) = true
  · rw [if_pos h2, L.lows (l := [92, 110]) (by simp)]
    obtain rfl : c = 10 := by simpa using h2
    exact ⟨.short rfl rfl (by decide) (by decide), .inr (.inl (by decide))⟩
  rw [if_neg h2]
  by_cases h3 : (c == 13) = true
  · rw [if_pos h3, L.lows (l := [92, 114]) (by simp)]
    obtain rfl : c = 13 := by simpa using h3
    exact ⟨.short rfl rfl (by decide) (by decide), .inr (.inl (by decide))⟩
  rw [if_neg h3]
  by_cases h4 : (c == 9) = true
  · rw [if_pos h4, L.lows (l := [92, 116]) (by simp)]
    obtain rfl : c = 9 := by simpa using h4
    exact ⟨.short rfl rfl (by decide) (by decide), .inr (.inl (by decide))⟩
  rw [if_neg h4]
  have hne : c ≠ 10 ∧ c ≠ 13 ∧ c ≠ 9 := ⟨by simpa using h2, by simpa using h3, by simpa using h4⟩
  by_cases h5 : Unicode.isPrintable c = true
  · rw [if_pos h5]
    by_cases hlow : c < 128
    · have hp := printable_low ⟨c, hlow⟩
      simp only [h5] at hp
      have hp' : 32 ≤ c ∧ c ≤ 126 := by simpa using hp.symm
      rw [L.lows (l := [c]) (by simp; omega)]
      exact ⟨.plain hcq.1 hcq.2 hp'.1 (by omega), .inr (.inl hlow)⟩
    · rw [List.flatMap_cons, List.flatMap_nil, List.append_nil]
      rcases L.high c (by omega) hc with e | ⟨e, hs, e1, e2⟩
      · rw [e]; exact ⟨.plain hcq.1 hcq.2 (by omega) (by omega), .inr (.inr rfl)⟩
      · rw [e1]; exact ⟨.num e2 (by omega) hne.1 hne.2.1 hne.2.2, .inl (by simp)⟩
  · rw [if_neg h5]
    obtain ⟨e, hs, e1, e2⟩ := esc_of hc
    show Body q c (List.flatMap esc (if c < 256 then [92, 120] ++ hexOf c 2 else if c < 65536 then [92, 117] ++ hexOf c 4 else [92, 85] ++ hexOf c 8)) ∧ (List.flatMap esc (if c < 256 then [92, 120] ++ hexOf c 2 else if c < 65536 then [92, 117] ++ hexOf c 4 else [92, 85] ++ hexOf c 8) ≠ [c] ∨ _)
    rw [e1, L.lows (l := 92 :: e :: hs) (by
      intro x hx
      rcases List.mem_cons.mp hx with rfl | hx
      · decide
      rcases List.mem_cons.mp hx with rfl | hx
      · rcases e2.sign with rfl | rfl | rfl <;> decide
      · have := e2.hex.figs x hx; omega)]
    refine ⟨.num e2 ?_ hne.1 hne.2.1 hne.2.2, .inl (by simp)⟩
    by_cases hlow : c < 128
    · have hp := printable_low ⟨c, hlow⟩
      have h5' : Unicode.isPrintable c = false := by simpa using h5
      simp only [h5'] at hp
      have : ¬ (32 ≤ c ∧ c ≤ 126) := by simpa using hp.symm
      omega
    · omega
end Mine
end
-- part P9
section
open PySem
namespace Mine
def quoteOf (x : List Nat) : Nat := if (decide (39 ∈ x) && !decide (34 ∈ x)) = true then 34 else 39
def intText (i : Int) : List Nat := if i < 0 then 45 :: (Nat.toDigits 10 i.natAbs).map Char.toNat else (Nat.toDigits 10 i.natAbs).map Char.toNat
def sepTx : List (List Nat) → List Nat
  | [] => []
  | t :: r => 44 :: 32 :: t ++ sepTx r
def joinTx : List (List Nat) → List Nat
  | [] => []
  | t :: r => t ++ sepTx r
mutual
/-- the signs that are written for a thing -/
def tx (esc : Nat → List Nat) : PyData → List Nat
  | .none => [78, 111, 110, 101]
  | .bool b => if b then [84, 114, 117, 101] else [70, 97, 108, 115, 101]
  | .int i => intText i
  | .str x => quoteOf x.cps.toList :: (x.cps.toList.flatMap (bodyOf esc (quoteOf x.cps.toList)) ++ [quoteOf x.cps.toList])
  | .list ds => 91 :: (joinTx (txAll esc ds) ++ [93])
  | .tuple ds => 40 :: (joinTx (txAll esc ds) ++ (if ds.length = 1 then [44, 41] else [41]))
  | .dict kvs => 123 :: (joinTx (txKvs esc kvs) ++ [125])
def txAll (esc : Nat → List Nat) : List PyData → List (List Nat)
  | [] => []
  | d :: r => tx esc d :: txAll esc r
def txKvs (esc : Nat → List Nat) : List (PyData × PyData) → List (List Nat)
  | [] => []
  | (k, v) :: r => (tx esc k ++ 58 :: 32 :: tx esc v) :: txKvs esc r
end
theorem txAll_map (esc : Nat → List Nat) : ∀ ds : List PyData, txAll esc ds = ds.map (tx esc)
  | [] => by simp [txAll]
  | d :: r => by simp [txAll, txAll_map esc r]
theorem txKvs_map (esc : Nat → List Nat) : ∀ ds : List (PyData × PyData), txKvs esc ds = ds.map fun kv => tx esc kv.1 ++ 58 :: 32 :: tx esc kv.2
  | [] => by simp [txKvs]
  | (k, v) :: r => by simp [txKvs, txKvs_map esc r]

theorem toList_append (a b : Str) : (a ++ b).cps.toList = a.cps.toList ++ b.cps.toList := by
  show (Str.mk (a.cps ++ b.cps)).cps.toList = _
  simp
theorem join_toList (esc : Nat → List Nat) (L : Lays esc) : ∀ ts : List Str, ((Str.join ", " ts).cps.toList).flatMap esc = joinTx (ts.map fun t => t.cps.toList.flatMap esc)
  | [] => rfl
  | [t] => by simp [Str.join, joinTx, sepTx]
  | t :: u :: r => by
    have ih := join_toList esc L (u :: r)
    have e : Str.join ", " (t :: u :: r) = t ++ ", " ++ Str.join ", " (u :: r) := rfl
    have hs : ((", " : Str).cps.toList) = [44, 32] := by decide +kernel
    rw [e, toList_append, toList_append, List.flatMap_append, List.flatMap_append, ih, hs, L.lows (l := [44, 32]) (by simp)]
    simp [joinTx, sepTx]
theorem ofString_toList (x : String) : (Str.ofString x).cps.toList = x.toList.map Char.toNat := by
  rw [Str.ofString_eq_byList]
  rfl
theorem toString_int (i : Int) : ((toString i : String) : Str).cps.toList = intText i := by
  unfold intText
  rw [ofString_toList, Int.toString_eq_repr, Int.repr_eq_if]
  have key : ∀ m : Nat, (Nat.repr m).toList = Nat.toDigits 10 m := fun m => by
    unfold Nat.repr
    rw [String.toList_ofList]
  by_cases h : 0 ≤ i
  · rw [if_pos h, if_neg (by omega), key, show i.toNat = i.natAbs by omega]
  · rw [if_neg h, if_pos (by omega), String.toList_append, List.map_append, key, show (-i).toNat = i.natAbs by omega]
    rfl
theorem intText_low (i : Int) : ∀ c ∈ intText i, c < 128 := by
  have h := (dec_digits (i.natAbs + 1) i.natAbs (Nat.lt_succ_self _)).1.figs
  unfold intText
  split
  · intro c hc
    rcases List.mem_cons.mp hc with rfl | hc
    · decide
    · have := h c hc; omega
  · intro c hc; have := h c hc; omega
theorem repr_toList (esc : Nat → List Nat) (L : Lays esc) (x : Str) : (reprText x).cps.toList.flatMap esc = tx esc (.str x) := by
  unfold reprText tx
  have hq : reprQuote x = quoteOf x.cps.toList := by
    unfold reprQuote quoteOf
    simp
  have hq' : quoteOf x.cps.toList < 128 := by unfold quoteOf; split <;> decide
  rw [hq]
  have key : ∀ (l : List Nat) (acc : Array Nat), (l.foldl (fun out c => out ++ (Builtin.Str.reprChar (quoteOf x.cps.toList) c).toArray) acc).toList = acc.toList ++ l.flatMap (Builtin.Str.reprChar (quoteOf x.cps.toList)) := by
    intro l
    induction l with
    | nil => intro acc; simp
    | cons c l ih => intro acc; rw [List.foldl_cons, ih, List.flatMap_cons]; simp
  rw [Array.toList_push, ← Array.foldl_toList, key]
  simp only [List.flatMap_append, List.flatMap_cons, List.flatMap_nil, L.low _ hq', List.append_nil, List.cons_append, List.nil_append]
  congr 2
  rw [List.flatMap_assoc]
  rfl
mutual
theorem shown_tx (esc : Nat → List Nat) (L : Lays esc) : ∀ d : PyData, d.shown.cps.toList.flatMap esc = tx esc d
  | .none => by rw [PyData.shown_none]; rw [show (("None" : Str).cps.toList) = [78, 111, 110, 101] by decide +kernel, L.lows (by simp)]; simp [tx]
  | .bool true => by rw [PyData.shown_bool]; rw [show ((if true = true then ("True" : String) else "False" : Str).cps.toList) = [84, 114, 117, 101] by decide +kernel, L.lows (by simp)]; simp [tx]
  | .bool false => by rw [PyData.shown_bool]; rw [show ((if false = true then ("True" : String) else "False" : Str).cps.toList) = [70, 97, 108, 115, 101] by decide +kernel, L.lows (by simp)]; simp [tx]
  | .int i => by rw [PyData.shown_int, toString_int, L.lows (intText_low i)]; simp [tx]
  | .str x => by rw [PyData.shown_str, repr_toList esc L]
  | .list ds => by
    rw [PyData.shown_list, toList_append, toList_append, List.flatMap_append, List.flatMap_append, join_toList esc L, shownAll_tx esc L ds]
    rw [show (("[" : Str).cps.toList) = [91] by decide +kernel, show (("]" : Str).cps.toList) = [93] by decide +kernel, L.lows (l := [91]) (by simp), L.lows (l := [93]) (by simp)]
    simp [tx]
  | .tuple ds => by
    rw [PyData.shown_tuple, toList_append, toList_append, List.flatMap_append, List.flatMap_append, join_toList esc L, shownAll_tx esc L ds]
    rw [show (("(" : Str).cps.toList) = [40] by decide +kernel, L.lows (l := [40]) (by simp)]
    unfold tx
    by_cases h : ds.length = 1
    · rw [h]
      rw [show ((if (1 == 1) = true then (",)" : String) else ")" : String) : Str).cps.toList = [44, 41] by decide +kernel, L.lows (l := [44, 41]) (by simp)]
      simp
    · have hb : (ds.length == 1) = false := by simpa using h
      rw [hb, show ((if false = true then (",)" : String) else ")" : String) : Str).cps.toList = [41] by decide +kernel, L.lows (l := [41]) (by simp), if_neg h]
      simp
  | .dict kvs => by
    rw [PyData.shown_dict, toList_append, toList_append, List.flatMap_append, List.flatMap_append, join_toList esc L, shownKv_tx esc L kvs]
    rw [show (("{" : Str).cps.toList) = [123] by decide +kernel, show (("}" : Str).cps.toList) = [125] by decide +kernel, L.lows (l := [123]) (by simp), L.lows (l := [125]) (by simp)]
    simp [tx]
theorem shownAll_tx (esc : Nat → List Nat) (L : Lays esc) : ∀ ds : List PyData, (PyData.shownAll ds).map (fun t => t.cps.toList.flatMap esc) = txAll esc ds
  | [] => by rw [PyData.shownAll_nil]; simp [txAll]
  | d :: r => by rw [PyData.shownAll_cons, List.map_cons, shown_tx esc L d, shownAll_tx esc L r]; simp [txAll]
theorem shownKv_tx (esc : Nat → List Nat) (L : Lays esc) : ∀ kvs : List (PyData × PyData), (PyData.shownKv kvs).map (fun t => t.cps.toList.flatMap esc) = txKvs esc kvs
  | [] => by rw [PyData.shownKv_nil]; simp [txKvs]
  | (k, v) :: r => by
    rw [PyData.shownKv_cons, List.map_cons, toList_append, toList_append, List.flatMap_append, List.flatMap_append, shown_tx esc L k, shown_tx esc L v, shownKv_tx esc L r]
    rw [show ((": " : Str).cps.toList) = [58, 32] by decide +kernel, L.lows (l := [58, 32]) (by simp)]
    simp [txKvs]
end
end Mine
end
-- part P10
section
open PySem
namespace Mine
theorem at_mid {pre r : List Nat} {c : Nat} : (pre ++ c :: r)[pre.length]? = some c := by simp
theorem drop_pre {pre r : List Nat} : (pre ++ r).drop pre.length = r := by simp
theorem TL_cast {a a' : List Nat} {q p p2 e e2 : Nat} {r r' r2 : List Nat} (h : TL a q p r e r') (h0 : a = a') (h1 : p = p2) (h2 : e = e2) (h3 : r' = r2) : TL a' q p2 r e2 r2 := by subst h0; subst h1; subst h2; subst h3; exact h
theorem TL_go {esc : Nat → List Nat} (L : Lays esc) {q : Nat} (hq : q = 39 ∨ q = 34) : ∀ (xs r pre suf : List Nat), (∀ c ∈ xs, c < 1114112) →
    TL (pre ++ (xs.flatMap (bodyOf esc q) ++ q :: suf)) q pre.length r (pre.length + (xs.flatMap (bodyOf esc q)).length) (r ++ xs)
  | [], r, pre, suf, _ => by
    simp only [List.flatMap_nil, List.nil_append, List.length_nil, Nat.add_zero, List.append_nil]
    exact .stop at_mid
  | c :: xs, r, pre, suf, h => by
    have hc := h c (.head _)
    have ih := fun pre r => TL_go L hq xs r pre suf fun x hx => h x (.tail _ hx)
    obtain ⟨hb, _⟩ := body_of L hq hc
    rw [List.flatMap_cons]
    generalize bodyOf esc q c = b at hb ⊢
    cases hb with
    | plain h1 h2 h3 h4 =>
      refine .plain c (by simp) h1 h2 h3 h4 ?_
      exact TL_cast (ih (pre ++ [c]) (r ++ [c])) (by simp) (by simp) (by simp; omega) (by simp)
    | @short e h1 h2 h3 h4 =>
      refine .esc e 0 c (by simp) (by simp) (by rw [h1]; simp; exact .nil) (.inl ⟨h1, h2⟩) ?_
      rw [h1]
      exact TL_cast (ih (pre ++ [92, e]) (r ++ [c])) (by simp) (by simp) (by simp; omega) (by simp)
    | @num e hs h1 h2 h3 h4 h5 =>
      have hd : (pre ++ (92 :: e :: hs ++ List.flatMap (bodyOf esc q) xs ++ q :: suf)).drop (pre.length + 2) = hs ++ (List.flatMap (bodyOf esc q) xs ++ q :: suf) := by
        rw [show pre ++ (92 :: e :: hs ++ List.flatMap (bodyOf esc q) xs ++ q :: suf) = (pre ++ [92, e]) ++ (hs ++ (List.flatMap (bodyOf esc q) xs ++ q :: suf)) by simp,
          show pre.length + 2 = (pre ++ [92, e]).length by simp, drop_pre]
      have hl := h1.len
      refine .esc e c c (by simp) (by simp) (by rw [hd, ← h1.len]; simp; exact h1.hex) (.inr ⟨h1.pos, rfl, by omega, h2, h3, h4, h5, h1.least⟩) ?_
      exact TL_cast (ih (pre ++ (92 :: e :: hs)) (r ++ [c])) (by simp) (by simp; omega) (by simp; omega) (by simp)
theorem word_take {pre w suf : List Nat} : ((pre ++ (w ++ suf)).drop pre.length).take (pre.length + w.length - pre.length) = w := by
  rw [drop_pre, show pre.length + w.length - pre.length = w.length by omega]; simp
theorem int_word (i : Int) : WordIs (intText i) (.int i) ∧ (∀ c ∈ intText i, c ∉ stops ∧ c ≤ 126 ∧ 32 ≤ c) ∧ ∃ c r, intText i = c :: r ∧ c ∉ [39, 34, 91, 40, 123] ∧ c ≠ 93 ∧ c ≠ 41 ∧ c ≠ 125 := by
  obtain ⟨h1, d, ds, e, h2⟩ := dec_digits (i.natAbs + 1) i.natAbs (Nat.lt_succ_self _)
  have hf := h1.figs
  have hst : ∀ c, 48 ≤ c → c ≤ 57 → c ∉ stops := fun c a b => by unfold stops; simp; omega
  have hfd := hf d (by rw [e]; exact .head _)
  unfold intText
  by_cases hi : i < 0
  · rw [if_pos hi]
    refine ⟨?_, fun c hc => ?_, 45, _, rfl, by decide, by decide, by decide, by decide⟩
    · have := WordIs.neg (d := d) (ds := ds) (n := i.natAbs) (by rw [← e]; exact h1) (fun h => by have := (h2 h).2; omega)
      rw [e]
      rw [show (-(i.natAbs : Int)) = i by omega] at this
      exact this
    · rcases List.mem_cons.mp hc with rfl | hc
      · exact ⟨by decide, by decide, by decide⟩
      · have := hf c hc; exact ⟨hst c this.1 this.2, by omega, by omega⟩
  · rw [if_neg hi]
    refine ⟨?_, fun c hc => ?_, d, ds, e, by simp; omega, by omega, by omega, by omega⟩
    · have := WordIs.num (d := d) (ds := ds) (n := i.natAbs) (by rw [← e]; exact h1) (fun h => (h2 h).1)
      rw [e]
      rw [show ((i.natAbs : Nat) : Int) = i by omega] at this
      exact this
    · have := hf c hc; exact ⟨hst c this.1 this.2, by omega, by omega⟩
end Mine
end
-- part P12b
section
open PySem
namespace Mine
theorem sep_len : ∀ ts : List (List Nat), (sepTx ts).length ≤ (ts.map fun t => t.length + 2).sum
  | [] => by simp [sepTx]
  | t :: r => by have := sep_len r; simp [sepTx]; omega
theorem join_len (ts : List (List Nat)) : (joinTx ts).length ≤ (ts.map fun t => t.length + 2).sum := by
  cases ts with
  | nil => simp [joinTx]
  | cons t r => have := sep_len r; simp [joinTx]; omega
theorem body_len {q c : Nat} {b : List Nat} (h : Body q c b) : b.length ≤ 10 := by
  cases h with
  | plain => simp
  | short => simp
  | num he =>
    have h1 := he.len
    have h2 := he.sign
    have : ∀ e, (e = 120 ∨ e = 117 ∨ e = 85) → sizeOf e ≤ 8 := fun e h => by rcases h with h | h | h <;> (rw [h]; decide)
    have := this _ h2
    simp; omega
theorem int_len {i : Int} (h : i.natAbs < 1000000000000) : (intText i).length ≤ 13 := by
  have := toDigits10_len 12 i.natAbs (by decide) (by simpa using h)
  unfold intText
  split <;> simp <;> omega
theorem sum_len {esc : Nat → List Nat} : ∀ ds : List PyData, (∀ d ∈ ds, (tx esc d).length + 4 ≤ 20 * wt d) → ((ds.map (tx esc)).map fun t => t.length + 2).sum ≤ 20 * wtAll ds
  | [], _ => by simp
  | d :: r, h => by
    have := h d (.head _)
    have := sum_len r fun x hx => h x (.tail _ hx)
    simp [wtAll] at *; omega
theorem sum_lenK {esc : Nat → List Nat} : ∀ ds : List (PyData × PyData), (∀ kv ∈ ds, (tx esc kv.1).length + 4 ≤ 20 * wt kv.1 ∧ (tx esc kv.2).length + 4 ≤ 20 * wt kv.2) →
    ((ds.map fun kv => tx esc kv.1 ++ 58 :: 32 :: tx esc kv.2).map fun t => t.length + 2).sum ≤ 20 * wtKvs ds
  | [], _ => by simp
  | (k, v) :: r, h => by
    have := h _ (.head _)
    have := sum_lenK r fun x hx => h x (.tail _ hx)
    simp [wtKvs] at *; omega
theorem flat_len {f : Nat → List Nat} : ∀ l : List Nat, (∀ c ∈ l, (f c).length ≤ 10) → (l.flatMap f).length ≤ 10 * l.length
  | [], _ => by simp
  | c :: r, h => by
    have := h c (.head _)
    have := flat_len r fun x hx => h x (.tail _ hx)
    simp only [List.flatMap_cons, List.length_append, List.length_cons]; omega
theorem quote_is (x : List Nat) : quoteOf x = 39 ∨ quoteOf x = 34 := by unfold quoteOf; split <;> simp
theorem tx_len {esc : Nat → List Nat} (L : Lays esc) : ∀ (m : Nat) (d : PyData), Gd m d → (tx esc d).length + 4 ≤ 20 * wt d := by
  intro m
  induction m with
  | zero =>
    intro d h
    cases d with
    | none => simp [tx, wt]
    | bool b => cases b <;> simp [tx, wt]
    | int i => have := int_len (by simpa [Gd] using h : i.natAbs < _); simp [tx, wt]; omega
    | str x =>
      have hx : ∀ c ∈ x.cps.toList, c < 1114112 := by simpa only [Gd] using h
      have := flat_len (f := bodyOf esc (quoteOf x.cps.toList)) x.cps.toList fun c hc => body_len (body_of L (quote_is _) (hx c hc)).1
      simp only [tx, wt, List.length_cons, List.length_append, List.length_nil]; omega
    | list ds => simp [Gd] at h
    | tuple ds => simp [Gd] at h
    | dict ds => simp [Gd] at h
  | succ m ih =>
    intro d h
    cases d with
    | none => simp [tx, wt]
    | bool b => cases b <;> simp [tx, wt]
    | int i => have := int_len (by simpa [Gd] using h : i.natAbs < _); simp [tx, wt]; omega
    | str x =>
      have hx : ∀ c ∈ x.cps.toList, c < 1114112 := by simpa only [Gd] using h
      have := flat_len (f := bodyOf esc (quoteOf x.cps.toList)) x.cps.toList fun c hc => body_len (body_of L (quote_is _) (hx c hc)).1
      simp only [tx, wt, List.length_cons, List.length_append, List.length_nil]; omega
    | list ds =>
      unfold Gd at h
      have h1 := sum_len ds fun d hd => ih d (h d hd)
      have h2 := join_len (ds.map (tx esc))
      simp only [tx, wt, txAll_map, List.length_cons, List.length_append, List.length_nil]; omega
    | tuple ds =>
      unfold Gd at h
      have h1 := sum_len ds fun d hd => ih d (h d hd)
      have h2 := join_len (ds.map (tx esc))
      have h3 : (if ds.length = 1 then [44, 41] else [41] : List Nat).length ≤ 2 := by split <;> simp
      simp only [tx, wt, txAll_map, List.length_cons, List.length_append]; omega
    | dict D =>
      unfold Gd at h
      obtain ⟨kvs, rfl, hnd, hg⟩ := h
      have h1 := sum_lenK (esc := esc) (kvs.map fun kv => (kv.1.dat, kv.2)) fun kv hkv => by
        obtain ⟨kv', hm, rfl⟩ := List.mem_map.mp hkv
        exact ⟨ih _ (hg _ hm).1, ih _ (hg _ hm).2⟩
      have h2 := join_len ((kvs.map fun kv => (kv.1.dat, kv.2)).map fun kv => tx esc kv.1 ++ 58 :: 32 :: tx esc kv.2)
      simp only [tx, wt, txKvs_map, List.length_cons, List.length_append, List.length_nil]; omega
/-- a sign from the blank to ~ -/
abbrev Asc (c : Nat) : Prop := 32 ≤ c ∧ c ≤ 126
theorem aesc_self {c : Nat} (h : aesc c = [c]) : c < 128 := by
  unfold aesc at h
  by_cases h1 : c < 128
  · exact h1
  · rw [if_neg h1] at h
    split at h
    · simp at h
    · split at h <;> simp at h
theorem body_asc {q c : Nat} (hq : q = 39 ∨ q = 34) (hc : c < 1114112) : ∀ x ∈ bodyOf aesc q c, Asc x := by
  obtain ⟨h1, h2⟩ := body_of lays_ascii hq hc
  generalize bodyOf aesc q c = b at h1 h2
  intro x hx
  unfold Asc
  cases h1 with
  | plain h3 h4 h5 h6 =>
    have hlt : c < 128 := by
      rcases h2 with h2 | h2 | h2
      · exact absurd rfl h2
      · exact h2
      · exact aesc_self h2
    simp at hx; omega
  | short h3 h4 h5 h6 => simp at hx; omega
  | num he =>
    simp only [List.mem_cons] at hx
    rcases hx with rfl | rfl | hx
    · omega
    · rcases he.sign with h | h | h <;> omega
    · have := he.hex.figs x hx; omega
theorem sep_asc : ∀ ts : List (List Nat), (∀ t ∈ ts, ∀ x ∈ t, Asc x) → ∀ x ∈ sepTx ts, Asc x
  | [], _, x, hx => by simp [sepTx] at hx
  | t :: r, h, x, hx => by
    simp only [sepTx, List.cons_append, List.mem_cons, List.mem_append] at hx
    rcases hx with rfl | rfl | hx | hx
    · exact ⟨by decide, by decide⟩
    · exact ⟨by decide, by decide⟩
    · exact h t (.head _) x hx
    · exact sep_asc r (fun t ht => h t (.tail _ ht)) x hx
theorem join_asc (ts : List (List Nat)) (h : ∀ t ∈ ts, ∀ x ∈ t, Asc x) : ∀ x ∈ joinTx ts, Asc x := by
  cases ts with
  | nil => intro x hx; simp [joinTx] at hx
  | cons t r =>
    intro x hx
    simp only [joinTx, List.mem_append] at hx
    rcases hx with hx | hx
    · exact h t (.head _) x hx
    · exact sep_asc r (fun t ht => h t (.tail _ ht)) x hx
theorem lit_asc {l : List Nat} (h : (l.all fun c => decide (32 ≤ c ∧ c ≤ 126)) = true) : ∀ x ∈ l, Asc x := fun x hx => of_decide_eq_true (List.all_eq_true.mp h x hx)
theorem str_asc {x : Str} (hx : ∀ c ∈ x.cps.toList, c < 1114112) : ∀ y ∈ tx aesc (.str x), Asc y := by
  have hq : Asc (quoteOf x.cps.toList) := by
    have := quote_is x.cps.toList
    unfold Asc; omega
  intro y hy
  simp only [tx, List.mem_cons, List.mem_append, List.mem_flatMap, List.not_mem_nil, or_false] at hy
  rcases hy with rfl | ⟨c, hc, hy⟩ | rfl
  · exact hq
  · exact body_asc (quote_is _) (hx c hc) y hy
  · exact hq
theorem tx_asc : ∀ (m : Nat) (d : PyData), Gd m d → ∀ x ∈ tx aesc d, Asc x := by
  have flat : ∀ (d : PyData), (∃ m, Gd m d) → (∀ ds, d ≠ .list ds) → (∀ ds, d ≠ .tuple ds) → (∀ ds, d ≠ .dict ds) → ∀ x ∈ tx aesc d, Asc x := fun d ⟨m, hd⟩ h1 h2 h3 => by
    cases d with
    | none => rw [show tx aesc .none = [78, 111, 110, 101] by simp [tx]]; exact lit_asc (by decide)
    | bool b => cases b <;> (simp only [tx]; exact lit_asc (by decide))
    | int i =>
      obtain ⟨_, w2, _⟩ := int_word i
      simp only [tx]
      exact fun x hx => ⟨(w2 x hx).2.2, (w2 x hx).2.1⟩
    | str x => exact str_asc (by cases m <;> simpa only [Gd] using hd)
    | list ds => exact absurd rfl (h1 ds)
    | tuple ds => exact absurd rfl (h2 ds)
    | dict ds => exact absurd rfl (h3 ds)
  intro m
  induction m with
  | zero => exact fun d hd => flat d ⟨0, hd⟩ (fun ds e => by subst e; simp [Gd] at hd) (fun ds e => by subst e; simp [Gd] at hd) (fun ds e => by subst e; simp [Gd] at hd)
  | succ m ih =>
    intro d h
    by_cases c1 : ∃ ds, d = .list ds
    · obtain ⟨ds, rfl⟩ := c1
      unfold Gd at h
      intro x hx
      simp only [tx, txAll_map, List.mem_cons, List.mem_append, List.not_mem_nil, or_false] at hx
      rcases hx with rfl | hx | rfl
      · exact ⟨by decide, by decide⟩
      · refine join_asc _ (fun t ht => ?_) x hx
        obtain ⟨d, hd, rfl⟩ := List.mem_map.mp ht
        exact ih d (h d hd)
      · exact ⟨by decide, by decide⟩
    by_cases c2 : ∃ ds, d = .tuple ds
    · obtain ⟨ds, rfl⟩ := c2
      unfold Gd at h
      intro x hx
      simp only [tx, txAll_map, List.mem_cons, List.mem_append] at hx
      rcases hx with rfl | hx | hx
      · exact ⟨by decide, by decide⟩
      · refine join_asc _ (fun t ht => ?_) x hx
        obtain ⟨d, hd, rfl⟩ := List.mem_map.mp ht
        exact ih d (h d hd)
      · split at hx <;> simp at hx <;> (unfold Asc; omega)
    by_cases c3 : ∃ ds, d = .dict ds
    · obtain ⟨D, rfl⟩ := c3
      unfold Gd at h
      obtain ⟨kvs, rfl, hnd, hg⟩ := h
      intro x hx
      simp only [tx, txKvs_map, List.mem_cons, List.mem_append, List.not_mem_nil, or_false] at hx
      rcases hx with rfl | hx | rfl
      · exact ⟨by decide, by decide⟩
      · refine join_asc _ (fun t ht => ?_) x hx
        rw [List.map_map] at ht
        obtain ⟨kv, hkv, rfl⟩ := List.mem_map.mp ht
        intro y hy
        simp only [Function.comp_def, List.mem_append, List.mem_cons] at hy
        rcases hy with hy | rfl | rfl | hy
        · exact ih _ (hg kv hkv).1 y hy
        · exact ⟨by decide, by decide⟩
        · exact ⟨by decide, by decide⟩
        · exact ih _ (hg kv hkv).2 y hy
      · exact ⟨by decide, by decide⟩
    exact flat d ⟨m + 1, h⟩ (fun ds e => c1 ⟨ds, e⟩) (fun ds e => c2 ⟨ds, e⟩) (fun ds e => c3 ⟨ds, e⟩)
theorem showAll : ∀ {ds : List PyData}, (∀ d ∈ ds, d.showable = true) → PyData.showableAll ds = true
  | [], _ => by simp [PyData.showableAll]
  | d :: r, h => by simp [PyData.showableAll, h d (.head _), showAll fun x hx => h x (.tail _ hx)]
theorem showKv : ∀ {ds : List (PyData × PyData)}, (∀ d ∈ ds, d.1.showable = true ∧ d.2.showable = true) → PyData.showableKv ds = true
  | [], _ => by simp [PyData.showableKv]
  | (k, v) :: r, h => by simp [PyData.showableKv, h _ (.head _), showKv fun x hx => h x (.tail _ hx)]
theorem depAll {m : Nat} : ∀ {ds : List PyData}, (∀ d ∈ ds, d.depth ≤ m) → PyData.depthAll ds ≤ m
  | [], _ => by simp [PyData.depthAll]
  | d :: r, h => by have := h d (.head _); have := depAll fun x hx => h x (.tail _ hx); simp only [PyData.depthAll]; omega
theorem depKv {m : Nat} : ∀ {ds : List (PyData × PyData)}, (∀ d ∈ ds, d.1.depth ≤ m ∧ d.2.depth ≤ m) → PyData.depthKv ds ≤ m
  | [], _ => by simp [PyData.depthKv]
  | (k, v) :: r, h => by
    have h1 : k.depth ≤ m ∧ v.depth ≤ m := h (k, v) (.head _)
    have := depKv fun x hx => h x (.tail _ hx)
    simp only [PyData.depthKv]; omega
theorem int_shows {i : Int} (h : i.natAbs < 1000000000000) : (PyData.int i).showable = true := by
  have : i.natAbs.log2 < 40 := by
    by_cases h0 : i.natAbs = 0
    · rw [h0]; decide
    · exact (Nat.log2_lt h0).mpr (by omega)
  simp only [PyData.showable, decide_eq_true_eq]; omega
theorem Gd.shows : ∀ (m : Nat) (d : PyData), Gd m d → d.showable = true ∧ d.depth ≤ m := by
  intro m
  induction m with
  | zero =>
    intro d h
    cases d with
    | none => simp [PyData.showable, PyData.depth]
    | bool b => simp [PyData.showable, PyData.depth]
    | int i => exact ⟨int_shows (by simpa [Gd] using h), by simp [PyData.depth]⟩
    | str x => simp [PyData.showable, PyData.depth]
    | list ds => simp [Gd] at h
    | tuple ds => simp [Gd] at h
    | dict ds => simp [Gd] at h
  | succ m ih =>
    intro d h
    cases d with
    | none => simp [PyData.showable, PyData.depth]
    | bool b => simp [PyData.showable, PyData.depth]
    | int i => exact ⟨int_shows (by simpa [Gd] using h), by simp [PyData.depth]⟩
    | str x => simp [PyData.showable, PyData.depth]
    | list ds =>
      unfold Gd at h
      have := depAll (m := m) fun d hd => (ih d (h d hd)).2
      simp only [PyData.showable, PyData.depth]
      exact ⟨showAll fun d hd => (ih d (h d hd)).1, by omega⟩
    | tuple ds =>
      unfold Gd at h
      have := depAll (m := m) fun d hd => (ih d (h d hd)).2
      simp only [PyData.showable, PyData.depth]
      exact ⟨showAll fun d hd => (ih d (h d hd)).1, by omega⟩
    | dict D =>
      unfold Gd at h
      obtain ⟨kvs, rfl, hnd, hg⟩ := h
      have hk : ∀ d ∈ kvs.map fun kv => (kv.1.dat, kv.2), (d.1.showable = true ∧ d.1.depth ≤ m) ∧ d.2.showable = true ∧ d.2.depth ≤ m := fun d hd => by
        obtain ⟨kv, hm, rfl⟩ := List.mem_map.mp hd
        exact ⟨ih _ (hg _ hm).1, ih _ (hg _ hm).2⟩
      have := depKv (m := m) fun d hd => ⟨(hk d hd).1.2, (hk d hd).2.2⟩
      simp only [PyData.showable, PyData.depth]
      exact ⟨showKv fun d hd => ⟨(hk d hd).1.1, (hk d hd).2.1⟩, by omega⟩
theorem flat_id : ∀ l : List Nat, l.flatMap (fun c => [c]) = l
  | [] => rfl
  | c :: r => by rw [List.flatMap_cons, flat_id r]; rfl
/-- repr's signs -/
def rx (d : PyData) : List Nat := tx (fun c => [c]) d
theorem shown_is (d : PyData) : d.shown = S (rx d) := by
  have := shown_tx _ lays_id d
  rw [flat_id] at this
  rw [rx, ← this, S_eta]
theorem ascii_is (d : PyData) : asciiOf d.shown = S (tx aesc d) := by
  have := shown_tx _ lays_ascii d
  rw [← asciiOf_toList] at this
  rw [← this, S_eta]
/-- all that the law asks of what is written of a thing -/
structure Said (d : PyData) : Prop where
  rep : d.shown = S (rx d)
  asc : asciiOf d.shown = S (tx aesc d)
  rlen : (rx d).length ≤ 6000
  alen : (tx aesc d).length ≤ 6000
  signs : ∀ x ∈ tx aesc d, Asc x
  shows : d.showable = true
  depth : d.depth ≤ 100
theorem Gd.said {d : PyData} (h : Gd 100 d) (hw : wt d ≤ 300) : Said d where
  rep := shown_is d
  asc := ascii_is d
  rlen := by have := tx_len lays_id 100 d h; unfold rx; omega
  alen := by have := tx_len lays_ascii 100 d h; omega
  signs := tx_asc 100 d h
  shows := (Gd.shows 100 d h).1
  depth := (Gd.shows 100 d h).2
theorem Said.wr {d : PyData} (h : Said d) {A : Around} (hg : A.guards = some []) (hu : A.units + 103 < cLine) : Wr A d where
  show_ := h.shows
  size := by rw [h.rep, S_length]; have := h.rlen; unfold sizeLine; omega
  asize := by rw [h.asc, S_length]; have := h.alen; unfold sizeLine; omega
  guards := hg
  units := by have := h.depth; omega
end Mine
end
-- part C36
section
open PySem PySem.Spec PySem.Calls PyProof.Rows PySem.W
open PySem.Builtin PySem.Builtin.Float
set_option maxRecDepth 100000
namespace Mine
/-- the text of a spec -/
def specOf (fill : Nat) (side : List Nat) (w : Nat) : List Nat := (if side = [] then [] else fill :: side) ++ (Nat.toDigits 10 w).map Char.toNat
/-- what it says -/
def fmtSp (fill : Nat) (side : List Nat) (w dflt : Nat) : FormatSpec :=
  if side = [] then (if w = 0 then { fill := 48, align := if dflt = 62 then 61 else dflt } else { align := dflt, width := some w }) else { fill := fill, align := side.headD 60, width := some w }
theorem parse_ok {fill : Nat} {side : List Nat} {w dflt : Nat} {name : String} (hs : side = [] ∨ side = [60] ∨ side = [62] ∨ side = [94]) (hw : w ≤ 13) (hd : dflt = 60 ∨ dflt = 62) :
    parseFormatSpec (specOf fill side w) name dflt = .ok (fmtSp fill side w dflt) := by
  have hw' : w = 0 ∨ w = 1 ∨ w = 2 ∨ w = 3 ∨ w = 4 ∨ w = 5 ∨ w = 6 ∨ w = 7 ∨ w = 8 ∨ w = 9 ∨ w = 10 ∨ w = 11 ∨ w = 12 ∨ w = 13 := by omega
  rcases hs with rfl | rfl | rfl | rfl
  · rcases hd with rfl | rfl <;> rcases hw' with rfl | rfl | rfl | rfl | rfl | rfl | rfl | rfl | rfl | rfl | rfl | rfl | rfl | rfl <;> kernel_rfl
  · rcases hw' with rfl | rfl | rfl | rfl | rfl | rfl | rfl | rfl | rfl | rfl | rfl | rfl | rfl | rfl <;> kernel_rfl
  · rcases hw' with rfl | rfl | rfl | rfl | rfl | rfl | rfl | rfl | rfl | rfl | rfl | rfl | rfl | rfl <;> kernel_rfl
  · rcases hw' with rfl | rfl | rfl | rfl | rfl | rfl | rfl | rfl | rfl | rfl | rfl | rfl | rfl | rfl <;> kernel_rfl
end Mine
end
-- part C37
section
open PySem PySem.Spec PySem.Calls PyProof.Rows PySem.W
open PySem.Builtin PySem.Builtin.Float
set_option maxRecDepth 100000
namespace Mine
def leftOf (side : List Nat) (num : Bool) (over : Nat) : Nat := if side = [60] then 0 else if side = [62] then over else if side = [94] then over / 2 else if num then over else 0
def fillOf (side : List Nat) (fill : Nat) : Nat := if side = [] then 32 else fill
/-- a text, padded -/
def padTx (fill : Nat) (side : List Nat) (w : Nat) (num : Bool) (x : List Nat) : List Nat :=
  List.replicate (leftOf side num (w - x.length)) (fillOf side fill) ++ x ++ List.replicate (w - x.length - leftOf side num (w - x.length)) (fillOf side fill)
theorem pad_none {fill : Nat} {side : List Nat} {w : Nat} {num : Bool} {x : List Nat} (h : w ≤ x.length) : padTx fill side w num x = x := by
  have : w - x.length = 0 := by omega
  unfold padTx leftOf
  rw [this]
  simp
theorem digs {w : Nat} (hw : w ≤ 13) : ∃ d r, (Nat.toDigits 10 w).map Char.toNat = d :: r ∧ ∀ c ∈ d :: r, 48 ≤ c ∧ c ≤ 57 := by
  have key : ∀ w : Fin 14, (Nat.toDigits 10 w.val).map Char.toNat ≠ [] ∧ ∀ c ∈ (Nat.toDigits 10 w.val).map Char.toNat, 48 ≤ c ∧ c ≤ 57 := by decide +kernel
  obtain ⟨h1, h2⟩ := key ⟨w, by omega⟩
  cases h : (Nat.toDigits 10 w).map Char.toNat with
  | nil => exact absurd h h1
  | cons d r => exact ⟨d, r, rfl, by rw [← h]; exact h2⟩
theorem cps_S (l : List Nat) : (S l).cps = l.toArray := rfl
theorem spec_len {fill : Nat} {side : List Nat} {w : Nat} (hw : w ≤ 13) : ((S (specOf fill side w)).length == 0) = false := by
  obtain ⟨d, r, h, -⟩ := digs hw
  rw [S_length, specOf, h]
  simp
theorem spec_ascii {fill : Nat} {side : List Nat} {w : Nat} (hs : side = [] ∨ side = [60] ∨ side = [62] ∨ side = [94]) (hw : w ≤ 13) :
    (((S (specOf fill side w)).cps.toList.drop 1).any (fun c => decide (c ≥ 128)) || (decide ((S (specOf fill side w)).cps.getD 0 0 ≥ 128) && !([60, 62, 61, 94] : List Nat).contains ((S (specOf fill side w)).cps.getD 1 0))) = false := by
  obtain ⟨d, r, h, hd⟩ := digs hw
  rw [cps_S, specOf, h]
  have hr : r.any (fun c => decide (c ≥ 128)) = false := by
    rw [List.any_eq_false]
    intro c hc
    have := hd c (.tail _ hc)
    simp; omega
  have hd0 := hd d (.head _)
  rcases hs with rfl | rfl | rfl | rfl
  · simp [hr]; intro h; omega
  · simp [hr]; omega
  · simp [hr]; omega
  · simp [hr]; omega
theorem spec_type {fill : Nat} {side : List Nat} {w dflt : Nat} (hw : w ≤ 13) : ((fmtSp fill side w dflt).type.isNone && (S (specOf fill side w)).cps.back? == some 0) = false := by
  obtain ⟨d, r, h, hd⟩ := digs hw
  rw [cps_S, specOf, h]
  have : ((if side = [] then [] else fill :: side) ++ d :: r).toArray.back? = (d :: r).getLast? := by
    rw [List.back?_toArray, List.getLast?_append]
    cases hq : (d :: r).getLast? with
    | none => simp at hq
    | some x => rfl
  rw [this]
  cases hq : (d :: r).getLast? with
  | none => simp at hq
  | some x =>
    have := hd x (List.mem_of_getLast? hq)
    have hx : x ≠ 0 := by omega
    simp [hx]
theorem spec_long {fill : Nat} {side : List Nat} {w dflt : Nat} (hw : w ≤ 13) : ((fmtSp fill side w dflt).width.getD 0) ≤ 13 := by
  unfold fmtSp
  split
  · split
    · exact Nat.zero_le _
    · exact hw
  · exact hw
theorem strField_gen {fl al w : Nat} {x : List Nat} {name : String} (hal : al = 60 ∨ al = 62 ∨ al = 94) :
    Str.strField (S x) { fill := fl, align := al, width := some w } name = .ok (if w ≤ x.length then none else some (S (List.replicate (if al = 62 then w - x.length else if al = 94 then (w - x.length) / 2 else 0) fl ++ x ++ List.replicate (w - x.length - (if al = 62 then w - x.length else if al = 94 then (w - x.length) / 2 else 0)) fl))) := by
  have hsub : Str.strSub (S x) 0 (S x).length = S x := strSub_whole (S x)
  have hpad : ∀ l r f : Nat, Str.padded (S x) l r f = S (List.replicate l f ++ x ++ List.replicate r f) := by
    intro l r f
    unfold Str.padded S
    simp
  have key : ∀ L : Nat, (if (decide (w ≤ (S x).length) && true) = true then (Except.ok none : Except String (Option Str)) else Except.ok (some (Str.padded (Str.strSub (S x) 0 (S x).length) L (w - (Str.strSub (S x) 0 (S x).length).length - L) fl))) =
      .ok (if w ≤ x.length then none else some (S (List.replicate L fl ++ x ++ List.replicate (w - x.length - L) fl))) := fun L => by
    rw [hsub, hpad, S_length]
    by_cases hwx : w ≤ x.length
    · simp [hwx]
    · simp [hwx]
  rcases hal with rfl | rfl | rfl
  · exact key _
  · have := key (w - x.length)
    rw [if_pos rfl]
    refine Eq.trans ?_ this
    show (if (decide (w ≤ (S x).length) && true) = true then (Except.ok none : Except String (Option Str)) else Except.ok (some (Str.padded (Str.strSub (S x) 0 (S x).length) (w - (Str.strSub (S x) 0 (S x).length).length) (w - (Str.strSub (S x) 0 (S x).length).length - (w - (Str.strSub (S x) 0 (S x).length).length)) fl))) = _
    rw [hsub, S_length]
  · have := key ((w - x.length) / 2)
    rw [show (if (94 : Nat) = 62 then w - x.length else if (94 : Nat) = 94 then (w - x.length) / 2 else 0) = (w - x.length) / 2 from rfl]
    refine Eq.trans ?_ this
    show (if (decide (w ≤ (S x).length) && true) = true then (Except.ok none : Except String (Option Str)) else Except.ok (some (Str.padded (Str.strSub (S x) 0 (S x).length) ((w - (Str.strSub (S x) 0 (S x).length).length) / 2) (w - (Str.strSub (S x) 0 (S x).length).length - (w - (Str.strSub (S x) 0 (S x).length).length) / 2) fl))) = _
    rw [hsub, S_length]
theorem strField_ok {fill : Nat} {side : List Nat} {w : Nat} {x : List Nat} {name : String} (hs : side = [] ∨ side = [60] ∨ side = [62] ∨ side = [94]) :
    Str.strField (S x) (fmtSp fill side w 60) name = .ok (if w ≤ x.length then none else some (S (padTx fill side w false x))) := by
  rcases hs with rfl | rfl | rfl | rfl
  · by_cases hw0 : w = 0
    · subst hw0
      rw [if_pos (Nat.zero_le _)]
      rfl
    · unfold fmtSp
      rw [if_pos rfl, if_neg hw0]
      exact strField_gen (fl := 32) (.inl rfl)
  · exact strField_gen (.inl rfl)
  · exact strField_gen (.inr (.inl rfl))
  · exact strField_gen (.inr (.inr rfl))
theorem gives_str_fmt {fill : Nat} {side : List Nat} {w : Nat} {x : List Nat} {t u : Tok} (hs : side = [] ∨ side = [60] ∨ side = [62] ∨ side = [94]) (hw : w ≤ 13) (hf : fill = 32 ∨ fill = 46 ∨ fill = 42 ∨ fill = 233 ∨ fill = 60) :
    Gives (Builtin.«str.__format__» ⟨[.str (S x) t, .str (S (specOf fill side w)) u], []⟩) (if w ≤ x.length then Made.val (.str (S x) t) else Made.str (S (padTx fill side w false x))) := by
  show Gives (ite _ _ _ : Sem PySem.Fin) _
  rw [if_neg (by rw [spec_len hw]; exact Bool.false_ne_true)]
  show Gives (ite _ _ _ : Sem PySem.Fin) _
  rw [if_neg (by rw [spec_ascii hs hw]; exact Bool.false_ne_true)]
  refine gives_after_typeNameOf (v := .str (S x) t) (T := "str") (fun s => typeIs_str s _ t) (by decide) fun name => ?_
  dsimp only
  rw [S_toList, parse_ok hs hw (.inl rfl)]
  have hty : ((fmtSp fill side w 60).type.isNone && (S (specOf fill side w)).cps.back? == some 0) = false := spec_type hw
  have hlong : Str.tooLong ((fmtSp fill side w 60).width.getD 0) = false := by unfold Str.tooLong; have := spec_long (fill := fill) (side := side) (dflt := 60) hw; have hzz : sizeLine = 16777216 := (by decide); simp; omega
  show Gives (match (if Str.tooLong ((if ((fmtSp fill side w 60).type.isNone && (S (specOf fill side w)).cps.back? == some 0) = true then _ else fmtSp fill side w 60 : FormatSpec).width.getD 0) = true then (Except.ok none : Except String (Option (Option Str))) else (do
            let r ← Str.strField (S x) (if ((fmtSp fill side w 60).type.isNone && (S (specOf fill side w)).cps.back? == some 0) = true then _ else fmtSp fill side w 60) name
            pure (some r))) with
      | Except.error msg => _
      | Except.ok none => _
      | Except.ok (some none) => _
      | Except.ok (some (some text)) => _) _
  rw [hty]
  simp only [Bool.false_eq_true, if_false]
  rw [hlong, strField_ok hs]
  by_cases hwx : w ≤ x.length
  · rw [if_pos hwx, if_pos hwx]
    exact .rule (.of_eq rfl)
  · rw [if_neg hwx, if_neg hwx]
    exact .of_eq rfl
end Mine
end
-- part C38
section
open PySem PySem.Spec PySem.Calls PyProof.Rows PySem.W
open PySem.Builtin PySem.Builtin.Float
set_option maxRecDepth 100000
namespace Mine
theorem field_pad {fl al w : Nat} {neg : Bool} {ds : List Nat} (hds : ds ≠ []) (hal : al = 60 ∨ al = 62 ∨ al = 94) :
    intField' { fill := fl, align := al, width := some w } neg [] ds [] 3 =
      S (List.replicate (if al = 62 then w - ((if neg then [45] else []) ++ ds).length else if al = 94 then (w - ((if neg then [45] else []) ++ ds).length) / 2 else 0) fl ++ ((if neg then [45] else []) ++ ds) ++
        List.replicate (w - ((if neg then [45] else []) ++ ds).length - (if al = 62 then w - ((if neg then [45] else []) ++ ds).length else if al = 94 then (w - ((if neg then [45] else []) ++ ds).length) / 2 else 0)) fl) := by
  have he : ds.isEmpty = false := by cases ds with
    | nil => exact absurd rfl hds
    | cons _ _ => rfl
  have h61 : (al == 61) = false := by rcases hal with rfl | rfl | rfl <;> rfl
  unfold intField' S
  simp only [he, h61, Bool.and_false, Bool.false_eq_true, if_false, List.length_nil, Int.toNat_zero, Nat.zero_sub, List.replicate_zero, List.nil_append, List.append_nil]
  have hp : ((w : Int) - (((if neg = true then [45] else ([] : List Nat)).length : Int) + ((0 : Nat) : Int) + ((0 : Nat) : Int)) - (ds.length : Int)).toNat = w - ((if neg = true then [45] else []) ++ ds).length := by
    rw [List.length_append]; omega
  rw [hp]
  rcases hal with rfl | rfl | rfl <;> simp
theorem field_none {neg : Bool} {ds : List Nat} (hds : ds ≠ []) : intField' { fill := 48, align := 61 } neg [] ds [] 3 = S ((if neg then [45] else []) ++ ds) := by
  have he : ds.isEmpty = false := by cases ds with
    | nil => exact absurd rfl hds
    | cons _ _ => rfl
  unfold intField' S
  cases neg <;> simp [he] <;> omega
theorem digits_ne (n : Nat) : (Nat.toDigits 10 n).map Char.toNat ≠ [] := by
  intro h
  have := congrArg List.length h
  simp at this
theorem intText_eq (a : Int) : intText a = (if decide (a < 0) = true then [45] else []) ++ (Nat.toDigits 10 a.natAbs).map Char.toNat := by
  unfold intText
  by_cases h : a < 0 <;> simp [h]
theorem intSpec_pad {fill : Nat} {side : List Nat} {w : Nat} {a : Int} (hs : side = [] ∨ side = [60] ∨ side = [62] ∨ side = [94]) : intSpecText (fmtSp fill side w 62) a = S (padTx fill side w true (intText a)) := by
  have e : intSpecText (fmtSp fill side w 62) a = intField' (fmtSp fill side w 62) (decide (a < 0)) [] ((Nat.toDigits 10 a.natAbs).map Char.toNat) [] 3 := by
    have : (fun c : Char => (if ((100 : Nat) == 88) = true then c.toUpper else c).toNat) = Char.toNat := rfl
    unfold intSpecText
    rw [this]
  rw [e]
  have hd := digits_ne a.natAbs
  rcases hs with rfl | rfl | rfl | rfl
  · by_cases hw0 : w = 0
    · subst hw0
      rw [pad_none (Nat.zero_le _), intText_eq]
      exact field_none hd
    · unfold fmtSp
      rw [if_pos rfl, if_neg hw0, field_pad hd (.inr (.inl rfl)), ← intText_eq]
      rfl
  · exact (field_pad hd (.inl rfl)).trans (by rw [← intText_eq]; rfl)
  · exact (field_pad hd (.inr (.inl rfl))).trans (by rw [← intText_eq]; rfl)
  · exact (field_pad hd (.inr (.inr rfl))).trans (by rw [← intText_eq]; rfl)
theorem gives_int_fmt {fill : Nat} {side : List Nat} {w : Nat} {a : Int} {t u : Tok} (hs : side = [] ∨ side = [60] ∨ side = [62] ∨ side = [94]) (hw : w ≤ 13) (hlog : a.natAbs.log2 < 1920) :
    Gives (Builtin.«int.__format__» ⟨[.int a t, .str (S (specOf fill side w)) u], []⟩) (.str (intSpecText (fmtSp fill side w 62) a)) := by
  show Gives (do let _kind ← typeNameOf (.str (S (specOf fill side w)) u); _) _
  refine gives_after_typeNameOf (v := .str (S (specOf fill side w)) u) (T := "str") (fun s => typeIs_str s _ u) (by decide) fun _ => ?_
  show Gives (ite _ _ _ : Sem PySem.Fin) _
  rw [if_neg (by rw [spec_len hw]; exact Bool.false_ne_true)]
  show Gives (ite _ _ _ : Sem PySem.Fin) _
  rw [if_neg (by rw [spec_ascii hs hw]; exact Bool.false_ne_true)]
  refine gives_after_typeNameOf (v := .int a t) (T := "int") (fun s => typeIs_int s a t) (by decide) fun name => ?_
  dsimp only
  rw [S_toList, parse_ok hs hw (.inr rfl)]
  dsimp only
  have ht : (fmtSp fill side w 62).type.getD (if ((S (specOf fill side w)).cps.back? == some 0) = true then 0 else 100) = 100 := by
    have := spec_type (fill := fill) (side := side) (dflt := 62) hw
    have hn : (fmtSp fill side w 62).type = none := by unfold fmtSp; split <;> (try split) <;> rfl
    rw [hn] at this ⊢
    simp at this
    simp [this]
  rw [ht, if_pos (by decide)]
  obtain ⟨fl, al, wd, he, hwd⟩ : ∃ fl al wd, fmtSp fill side w 62 = { fill := fl, align := al, width := wd } ∧ wd.getD 0 ≤ 13 := by
    unfold fmtSp
    split
    · split
      · exact ⟨_, _, _, rfl, Nat.zero_le _⟩
      · exact ⟨_, _, _, rfl, hw⟩
    · exact ⟨_, _, _, rfl, hw⟩
  rw [he]
  show Gives ((do if a.natAbs.log2 < 1920 then return none
                  _) >>= fun o => _) _
  rw [if_pos hlog]
  show Gives (ite _ _ _ : Sem PySem.Fin) _
  rw [if_neg (by simp; omega)]
  exact .of_eq (by cases wd <;> kernel_rfl)
end Mine
end
-- part C39
section
open PySem PySem.Spec PySem.Calls PyProof.Rows PySem.W
open PySem.Builtin PySem.Builtin.Float
set_option maxRecDepth 100000
namespace Mine
section
variable {prog : Program} {w : World} {A : Around} {E : Value → Shared → Prop} {s : Shared} {Q : Value → Shared → Prop}
theorem format_slot {T idf : String} {v : Value} {sp : Str} {u : Tok} (hne : (sp.length == 0) = false) (hT : s.TypeIs v T) (slot : Slot T "__format__" idf)
    (hc : wpAny (model prog w) A.in1 (call (.builtin idf) [v, .str sp u]) (fun r s₁ => ∃ x t, r = .str x t ∧ Q (.str x t) s₁) E s) :
    wpAny (model prog w) A (call (.builtin "format") [v, .str sp u]) Q E s := by
  refine Calls.call_function_entry (by decide +kernel) (by decide +kernel) (b := Builtin.«format») (entryFor_of_tree (by kernel_rfl)) (by unfold argsOk; kernel_rfl) ?_
  unfold Builtin.«format»
  refine wpAny_bind (m := someArgs "format" 1 2 _) (wpAny_pure ?_)
  dsimp only
  refine wpAny_bind (wpAny_pure ?_)
  dsimp only
  refine wpAny_bind (wpAny_typeNameOf (T := "str") (typeIs_str _ _ _) (by decide) fun _ => ?_)
  refine wpAny_bind (m := asStr? (.str sp u)) (wpAny_pure ?_)
  dsimp only
  rw [if_neg (by rw [hne]; exact Bool.false_ne_true)]
  refine wpAny_bind (m := callSpecial? v (Str.ofString "__format__") [.str sp u]) (wpAny_callSpecial?_slot (name := Str.ofString "__format__") hT slot (wpAny_mono hc (fun r s₁ h₁ => ?_) fun _ _ e => e))
  obtain ⟨x, t, rfl, hq⟩ := h₁
  dsimp only
  refine wpAny_bind (wpAny_isInstance (T := "str") (b := true) (typeIs_str _ _ _) isSubtype_str_str ?_)
  rw [if_pos rfl]
  exact wpAny_pure ⟨_, rfl, hq⟩
variable {X : Fx} {B : FMap} {O : Owns} {l : Locs}
/-- format of a text -/
theorem e_fmtS {fill : Nat} {side : List Nat} {wd : Nat} {x : List Nat} {t u : Tok} (H : St X B O l s) (hs : side = [] ∨ side = [60] ∨ side = [62] ∨ side = [94]) (hw : wd ≤ 13) (hf : fill = 32 ∨ fill = 46 ∨ fill = 42 ∨ fill = 233 ∨ fill = 60) (hz : (padTx fill side wd false x).length ≤ sizeLine)
    (h : ∀ t s', St X B O l s' → Q (.str (S (padTx fill side wd false x)) t) s') : wpAny (model prog w) A (call (.builtin "format") [.str (S x) t, .str (S (specOf fill side wd)) u]) Q E s := by
  refine format_slot (T := "str") (spec_len hw) (typeIs_str _ _ _) F.slot_str_format (call_gives F.slot_str_format (typeIs_str _ _ _) F.entry_str_format (F.args_str_format_2 _ _) (gives_str_fmt hs hw hf) ?_)
  by_cases hwx : wd ≤ x.length
  · rw [if_pos hwx]
    have := h t s H
    rw [pad_none hwx] at this
    exact ⟨_, _, rfl, this⟩
  · rw [if_neg hwx]
    exact ⟨by rw [S_length]; exact hz, _, _, rfl, h _ _ H.tok⟩
/-- format of a number -/
theorem e_fmtI {fill : Nat} {side : List Nat} {wd : Nat} {a : Int} {t u : Tok} (H : St X B O l s) (hs : side = [] ∨ side = [60] ∨ side = [62] ∨ side = [94]) (hw : wd ≤ 13) (hlog : a.natAbs.log2 < 1920) (hz : (padTx fill side wd true (intText a)).length ≤ sizeLine)
    (h : ∀ t s', St X B O l s' → Q (.str (S (padTx fill side wd true (intText a))) t) s') : wpAny (model prog w) A (call (.builtin "format") [.int a t, .str (S (specOf fill side wd)) u]) Q E s := by
  refine format_slot (T := "int") (spec_len hw) (typeIs_int _ _ _) F.slot_int_format (call_gives F.slot_int_format (typeIs_int _ _ _) F.entry_int_format (F.args_int_format_2 _ _) (gives_int_fmt hs hw hlog) ?_)
  rw [intSpec_pad hs]
  exact ⟨by rw [S_length]; exact hz, _, _, rfl, h _ _ H.tok⟩
end
end Mine
end
-- part C40
section
open PySem PySem.Spec PySem.Calls PyProof.Rows PySem.W
namespace Mine
section
variable {X : Fx} {B B' : FMap} {O O' q q' : Owns} {l l' : Locs} {s s' : Shared} {prog : Program} {w : World} {A : Around} {E : Value → Shared → Prop} {Q : Value → Shared → Prop} {env : Env}
/-- the objects of an enumerate of a list -/
def enumOwn (e it l : Addr) (k : Nat) : Owns :=
  [(e, fun o => ∃ old, o = { cls := .type "enumerate", dict := none, data := .fields #[.none, .bool false, .ref it, rawInt k, .none, old], slots := #[] }), (it, listIt l k)]
theorem e_enum {l1 : Addr} {xs : List Value} {o1 : Obj} {n1 : Nat} (H : St X B O l s) (h1 : B l1 = some o1) (c1 : o1.cls = .type "list") (d1 : o1.data = .seq xs.toArray n1)
    (h : ∀ e it s', St X B (enumOwn e it l1 0 ++ O) l s' → Q (.ref e) s') : wpAny (model prog w) A (call (.type "enumerate") [.ref l1]) Q E s := by
  refine call_enumerate_list (items := xs.toArray) ⟨_, H.fz _ _ h1, c1, n1, d1⟩ fun h' he hit hsz hk => ?_
  have H' : St X B O l { s with heap := h' } := H.keeps (n := s.toks) hk
  refine h _ s.heap.objs.size _ (?_ : St X B (enumOwn (s.heap.objs.size + 1) s.heap.objs.size l1 0 ++ O) l _)
  have hN : ∀ {b : Addr}, s.heap.objs.size ≤ b → s.heap.get? b = none := fun e => none_of_le e
  have hge : ∀ p ∈ enumOwn (s.heap.objs.size + 1) s.heap.objs.size l1 0, s.heap.objs.size ≤ p.1 := by
    simp only [enumOwn, List.mem_cons, List.not_mem_nil, or_false, forall_eq_or_imp, forall_eq]
    exact ⟨Nat.le_add_right _ _, Nat.le_refl _⟩
  have hat : ∀ p ∈ enumOwn (s.heap.objs.size + 1) s.heap.objs.size l1 0, ∃ o, h'.get? p.1 = some o ∧ p.2 o := by
    simp only [enumOwn, List.mem_cons, List.not_mem_nil, or_false, forall_eq_or_imp, forall_eq]
    exact ⟨⟨_, he, _, rfl⟩, hit⟩
  have hsysm := H.sysm
  obtain ⟨oL, hL⟩ := H.Lsome
  have hLlt := Heap.lt_size hL
  refine { H' with lowO := fun p hp => ?_, own := fun p hp => ?_, apart := ?_ }
  · rcases List.mem_append.mp hp with hp | hp
    · exact Nat.ne_of_gt (Nat.lt_of_lt_of_le hsysm (hge p hp))
    · exact H.lowO p hp
  · rcases List.mem_append.mp hp with hp | hp
    · exact ⟨hat p hp, Nat.ne_of_gt (Nat.lt_of_lt_of_le hLlt (hge p hp)), H.Bnone (hN (hge p hp)), none_of_keep H.kept (hN (hge p hp))⟩
    · exact H'.own p hp
  · rw [List.map_append]
    refine List.nodup_append.mpr ⟨?_, H.apart, fun a ha b hb e => ?_⟩
    · simp [enumOwn]
    · obtain ⟨p, hp, rfl⟩ := List.mem_map.mp ha
      obtain ⟨r, hr, rfl⟩ := List.mem_map.mp hb
      obtain ⟨⟨o, h3, _⟩, _⟩ := H.own r hr
      rw [← e, hN (hge p hp)] at h3; cases h3
theorem enum_facts {e it l1 : Addr} {k : Nat} (H : St X B (enumOwn e it l1 k ++ O) l s) : (∃ old, IsEnum s.heap e it k old) ∧ s.heap.IsListIter it l1 k ∧ e ≠ it := by
  have f := fun p hp => (H.own p (List.mem_append_left _ hp)).1
  simp only [enumOwn, List.mem_cons, List.not_mem_nil, or_false, forall_eq_or_imp, forall_eq] at f
  obtain ⟨⟨oz, hz, old, rfl⟩, ⟨o1, h1, c1⟩⟩ := f
  have hap := H.apart
  rw [List.map_append] at hap
  have h5 := (List.nodup_append.mp hap).1
  simp [enumOwn] at h5
  exact ⟨⟨old, hz⟩, ⟨o1, h1, c1⟩, h5⟩
theorem it_enum (hh : A.handled = none) {elts : List Expr} {kk : Nat} {pp : Pos} {e it l1 : Addr} {xs : List Value} {o1 : Obj} {n1 : Nat} (H : St X B (enumOwn e it l1 0 ++ O) l s) (h1 : B l1 = some o1) (c1 : o1.cls = .type "list") (d1 : o1.data = .seq xs.toArray n1) :
    Iterates prog w A (.Tuple elts kk pp) X B O l s (.ref e) xs.length fun B i v => ∃ a t x, v = .ref a ∧ B a = some { cls := .type "tuple", data := .seq #[.int (i : Int) t, x] } ∧ xs[i]? = some x := fun Q E h => by
  refine wpAny_pyIter_enum (enum_facts H).1.choose_spec ?_
  refine h e (fun k => enumOwn e it l1 k) (fun B => B l1 = some o1) s ?_ h1 H
  refine ⟨fun B B' hs a => hs _ _ a, fun {X B O l s} i Q E _ H hQ => wpAny_pyIter_enum (enum_facts H).1.choose_spec hQ, fun {X B O l s} i Q E hi h1 H hQ => ?_, fun {X B O l s} Q E h1 H hQ => ?_⟩
  · obtain ⟨⟨old, he⟩, hit, hne⟩ := enum_facts H
    have hL : s.heap.IsList l1 xs.toArray := ⟨_, H.fz _ _ h1, c1, n1, d1⟩
    have hlne : ∀ p ∈ enumOwn e it l1 i, l1 ≠ p.1 := fun p hp ee => by
      have hb := (H.own p (List.mem_append_left _ hp)).2.2.1
      rw [← ee, h1] at hb; cases hb
    refine wpAny_pyNext_enum_item he hit hL (x := xs[i]'hi) (by simp) hne fun h' he' hit' hn hsz hk => ?_
    refine hQ _ _ fun Q' E' hq => ?_
    refine wpAny_letOwnedTupleGo_enum he' fun h'' he'' hs => ?_
    have helt : e < s.heap.objs.size := Heap.lt_size he
    obtain ⟨B', hs', hb', H'⟩ := H.morphNew (h' := h'') (n := s.toks + 1) (q' := enumOwn e it l1 (i + 1)) rfl (fun b o hb e' => by
        simp only [enumOwn, List.map_cons, List.map_nil, List.mem_cons, List.not_mem_nil, or_false, not_or] at hb
        exact hs.extBut _ _ hb.1 (hk b o hb.1 hb.2 e')) (by
        simp only [enumOwn, List.mem_cons, List.not_mem_nil, or_false, forall_eq_or_imp, forall_eq]
        obtain ⟨p1, g1, r1⟩ := hit'
        exact ⟨⟨_, he'', _, rfl⟩, ⟨_, hs.extBut _ _ (Ne.symm hne) g1, r1⟩⟩)
      (hs.extBut _ _ (Nat.ne_of_gt helt) hn)
    exact hq B' _ hs' ⟨_, _, _, rfl, hb', by simp⟩ H'
  · obtain ⟨⟨old, he⟩, hit, hne⟩ := enum_facts H
    have hL : s.heap.IsList l1 xs.toArray := ⟨_, H.fz _ _ h1, c1, n1, d1⟩
    refine wpAny_pyNext_enum_end hh he hit hL (by simp) fun h' hk => ?_
    refine hQ _ ?_
    have hap := H.apart
    rw [List.map_append] at hap
    have hap3 := List.nodup_append.mp hap
    have hin : ∀ b, b ∉ (enumOwn e it l1 xs.length).map (·.1) → ∀ o, s.heap.get? b = some o → h'.get? b = some o := fun b hb o e' => by
      simp only [enumOwn, List.map_cons, List.map_nil, List.mem_cons, List.not_mem_nil, or_false, not_or] at hb
      exact hk _ _ hb.2 e'
    have hfz : ∀ b o, B b = some o → b ∉ (enumOwn e it l1 xs.length).map (·.1) := fun b o e' hm => by
      obtain ⟨p, hp, rfl⟩ := List.mem_map.mp hm
      rw [(H.own p (List.mem_append_left _ hp)).2.2.1] at e'; cases e'
    refine { H with ns := H.ns.at' fun o e' => hin _ H.noItL o e', kept := fun b o e' => hin _ (H.noIt e') _ (H.kept _ _ e'), fz := fun b o e' => hin _ (hfz b o e') _ (H.fz _ _ e'), lowO := fun p hp => H.lowO p (List.mem_append_right _ hp), own := fun p hp => ?_, apart := hap3.2.1 }
    obtain ⟨⟨o, g1, g2⟩, g3⟩ := H.own p (List.mem_append_right _ hp)
    exact ⟨⟨o, hin _ (fun hm => hap3.2.2 p.1 hm p.1 (List.mem_map_of_mem hp) rfl) _ g1, g2⟩, g3⟩
end
end Mine
end
-- part C41
section
open PySem PySem.Spec PySem.Calls PyProof.Rows PySem.W
set_option maxRecDepth 100000
namespace Mine
section
variable {prog : Program} {w : World} {A : Around} {E : Value → Shared → Prop} {s : Shared}
theorem pyHash_bool {b : Bool} {Q : Int → Shared → Prop} (h : Q (hashInt (if b then 1 else 0)) { s with toks := s.toks + 1 }) : wpAny (model prog w) A (pyHash (.bool b)) Q E s := by
  unfold pyHash
  have hv : [Value.bool b].any Value.onHeap = false := rfl
  have hT : s.TypeIs (.bool b) "bool" := rfl
  refine wpAny_bind ?_
  rw [cRoomFor, if_neg (by rw [hv]; exact Bool.false_ne_true)]; refine wpAny_pure ?_
  refine wpAny_bind (wpAny_specialOf hT F.slot_bool_hash.lookup ?_)
  show wpAny _ _ (if (some (Value.builtin "int.__hash__") == some Value.none) = true then _ else _) Q E s
  rw [if_neg (by rw [beq_builtin_none]; exact Bool.false_ne_true)]
  refine wpAny_bind (wpAny_specialOf hT F.slot_bool_hash.lookup ?_)
  show wpAny _ _ (callSpecialIfBoundUnlessNone? (.bool b) "__hash__" _ >>= _) Q E s
  refine wpAny_bind (wpAny_callSpecialIfBoundUnlessNone?_slot hT F.slot_bool_hash
    (wpAny_call_entry F.slot_bool_hash hT F.entry_int_hash
      (show wpAny _ _ (do ret (← mkInt (rawHash (if b then 1 else 0)))) _ _ s from wpAny_ret_mkInt ?_) (F.args_int_hash_1 _)))
  have hr := rawHash_range (if b then 1 else 0)
  show wpAny _ _ (if (decide (-(2 : Int) ^ 63 ≤ rawHash (if b then 1 else 0)) && decide (rawHash (if b then 1 else 0) < 2 ^ 63)) = true then _ else _) Q E _
  rw [if_pos (by rw [decide_eq_true hr.1, decide_eq_true hr.2]; rfl)]
  exact wpAny_pure h
end
def Ky.isB : Ky → Value → Bool
  | .i n, .int m _ => m == n
  | .i n, .bool b => (if b then (1 : Int) else 0) == n
  | .s x, .str y _ => y == x
  | _, _ => false
theorem Ky.isB_i {n : Int} {v : Value} (h : Ky.isB (.i n) v = true) : (∃ t, v = .int n t) ∨ ∃ b : Bool, v = .bool b ∧ (if b then (1 : Int) else 0) = n := by
  cases v <;> simp [Ky.isB] at h
  · rename_i b; exact .inr ⟨b, rfl, by simpa using h⟩
  · exact .inl ⟨_, by rw [h]⟩
theorem Ky.isB_s {x : Str} {v : Value} (h : Ky.isB (.s x) v = true) : ∃ t, v = .str x t := by
  cases v <;> simp [Ky.isB] at h
  exact ⟨_, by rw [h]⟩
/-- keys that may be truth values -/
def mixB (prog : Program) (w : World) : PySem.KeyKind prog w Ky where
  is := Ky.isB
  hash := fun k => match k with | .i n => hashInt n | .s x => hashStr w x
  inj := fun v a b ha hb => by
    cases a <;> cases b
    · rcases Ky.isB_i ha with ⟨t, rfl⟩ | ⟨c, rfl, h1⟩ <;> rcases Ky.isB_i hb with ⟨u, h⟩ | ⟨c', h, h2⟩ <;> cases h
      · rfl
      · rw [← h1, ← h2]
    · obtain ⟨u, rfl⟩ := Ky.isB_s hb
      rcases Ky.isB_i ha with ⟨t, h⟩ | ⟨c, h, h1⟩ <;> cases h
    · obtain ⟨u, rfl⟩ := Ky.isB_s ha
      rcases Ky.isB_i hb with ⟨t, h⟩ | ⟨c, h, h1⟩ <;> cases h
    · obtain ⟨t, rfl⟩ := Ky.isB_s ha; obtain ⟨u, h⟩ := Ky.isB_s hb; cases h; rfl
  byValue := fun k v h => by
    cases k
    · rcases Ky.isB_i h with ⟨t, rfl⟩ | ⟨c, rfl, _⟩ <;> rfl
    · obtain ⟨t, rfl⟩ := Ky.isB_s h; rfl
  pyHash := fun {A E s k v Q} hv h => by
    cases k
    · rcases Ky.isB_i hv with ⟨t, rfl⟩ | ⟨c, rfl, h1⟩
      · exact wpAny_pyHash_int h
      · exact pyHash_bool (by rw [h1]; exact h)
    · obtain ⟨t, rfl⟩ := Ky.isB_s hv; exact wpAny_pyHash_str h
  eqBool := fun {A E s a b u v Q} hu hv h => by
    cases a <;> cases b
    · rename_i n1 n2
      have e : ∀ k : Bool, k = (n1 == n2) → Q k s := fun k hk => by
        rw [hk, show (n1 == n2) = decide (Ky.i n1 = Ky.i n2) by rw [Bool.eq_iff_iff]; simp]; exact h
      rcases Ky.isB_i hu with ⟨t, rfl⟩ | ⟨c, rfl, h1⟩ <;> rcases Ky.isB_i hv with ⟨t', rfl⟩ | ⟨c', rfl, h2⟩
      · exact wpAny_eqBool_int (e _ rfl)
      · exact SeqAt.EqAt.int_bool _ _ _ prog w E Q (e _ (by rw [← h2]))
      · exact SeqAt.EqAt.bool_int _ _ _ prog w E Q (e _ (by rw [← h1]))
      · exact SeqAt.EqAt.bool_bool _ _ prog w E Q (e _ (by rw [← h1, ← h2]; cases c <;> cases c' <;> rfl))
    · obtain ⟨t', rfl⟩ := Ky.isB_s hv
      rcases Ky.isB_i hu with ⟨t, rfl⟩ | ⟨c, rfl, h1⟩
      · exact SeqAt.EqAt.int_str _ _ _ _ prog w E Q (by simpa using h)
      · exact SeqAt.EqAt.bool_str _ _ _ prog w E Q (by simpa using h)
    · obtain ⟨t', rfl⟩ := Ky.isB_s hu
      rcases Ky.isB_i hv with ⟨t, rfl⟩ | ⟨c, rfl, h1⟩
      · exact SeqAt.EqAt.str_int _ _ _ _ prog w E Q (by simpa using h)
      · exact SeqAt.EqAt.str_bool _ _ _ prog w E Q (by simpa using h)
    · obtain ⟨t, rfl⟩ := Ky.isB_s hu; obtain ⟨t', rfl⟩ := Ky.isB_s hv
      refine wpAny_eqBool_str ?_
      simpa using h
  «strs» := fun k x t v h => by
    cases k
    · rcases Ky.isB_i h with ⟨u, hu⟩ | ⟨c, hu, _⟩ <;> cases hu
    · obtain ⟨u, hu⟩ := Ky.isB_s h
      cases hu
      cases v <;> rfl
/-- a set that is owned, of at most n things -/
def SetO (prog : Program) (w : World) (m : Nat) (o : Obj) : Prop := ∃ S n, n ≤ m ∧ o.SetObjOf (mixB prog w) S n
end Mine
end
-- part C42
section
open PySem PySem.Spec PySem.Calls PyProof.Rows PySem.W
set_option maxRecDepth 100000
namespace Mine
section
variable {X : Fx} {B : FMap} {O O' : Owns} {l : Locs} {s : Shared} {prog : Program} {w : World} {A : Around} {E : Value → Shared → Prop} {Q : Value → Shared → Prop} {env : Env}
/-- set() -/
theorem e_set (H : St X B O l s) (h : ∀ a s', St X B ((a, SetO prog w 0) :: O) l s' → Q (.ref a) s') : wpAny (model prog w) A (call (.type "set") []) Q E s :=
  call_set_0 fun led => h _ _ (H.pushO (o := { cls := .type "set", dict := none, data := .set #[] 0 (.fresh 0 0 led) }) (n := s.toks) rfl ⟨_, 0, Nat.le_refl _, setObjOf_fresh led⟩)
theorem m_sadd {a : Addr} {m : Nat} {pl : Sem Bool} {Q : Value × List Value → Shared → Prop} (H : St X B O l s) (ho : OPop O a (SetO prog w m) O') (hm : m < 1000) (h : Q (.builtin "set.add", [.ref a]) s) :
    wpAny (model prog w) A (getMethod (.ref a) "add" pl) Q E s := by
  obtain ⟨o, ho', S, n, hn, hs⟩ := H.ownAt ho
  exact getMethod_set_add (hs.setOf ho' (Nat.lt_of_le_of_lt hn (Nat.lt_of_lt_of_le hm (by decide)))) h
theorem e_sadd {a : Addr} {m : Nat} {k : Ky} {key : Value} (H : St X B O l s) (ho : OPut O a (SetO prog w m) (SetO prog w (m + 1)) O') (hm : m < 1000) (hk : (mixB prog w).is k key = true) (hsc : key.scannable = true) (h : ∀ s', St X B O' l s' → Q .none s') :
    wpAny (model prog w) A (call (.builtin "set.add") [.ref a, key]) Q E s := by
  obtain ⟨O₁, O₂, rfl, rfl⟩ := ho.split
  obtain ⟨o, ho', S, n, hn, hs⟩ := (H.own (a, SetO prog w m) (by simp)).1
  have hb : n + 1 < scanBound := Nat.lt_of_le_of_lt (Nat.succ_le_succ hn) (Nat.lt_of_le_of_lt (Nat.succ_le_of_lt hm) (by decide))
  refine call_set_add hk hsc (hs.setOf ho' (Nat.lt_of_succ_lt hb)) hb fun h' hsb hS => ?_
  obtain ⟨o', ho2, hs'⟩ := hS.objOf
  refine h _ (H.turn rfl (n := s.toks + 1) (fun b o hb e => (hsb.2 b hb).trans e) ho2 ⟨_, _, ?_, hs'⟩)
  split <;> omega
theorem b_floor {a b : Int} {t u : Tok} (H : St X B O l s) (hb : 0 < b) (hp : Builtin.divisionGoesByPylong a b = false) (h : ∀ t s', St X B O l s' → Q (.int (a / b) t) s') : wpAny (model prog w) A (binaryOp .FloorDiv (.int a t) (.int b u)) Q E s := by
  refine AutoIntOps.floordiv_1 (by simp; omega) (by rw [hp]; decide) ?_
  rw [Int.fdiv_eq_ediv_of_nonneg a (by omega)]
  exact h _ _ H.tok
theorem e_max {a b : Int} {t u : Tok} (hh : A.handled = none) (H : St X B O l s) (h : ∀ t s', St X B O l s' → Q (.int (max a b) t) s') : wpAny (model prog w) A (call (.builtin "max") [.int a t, .int b u]) Q E s := by
  refine any_toks (max_two_ints hh fun h' tk hk => ?_)
  intro hle
  have H' := H.keeps (n := tk) hk
  by_cases c : b > a
  · rw [if_pos c]; have := h u _ H'; rwa [Int.max_eq_right (by omega)] at this
  · rw [if_neg c]; have := h t _ H'; rwa [Int.max_eq_left (by omega)] at this
/-- a sign, n times -/
theorem b_rep {c : Nat} {n : Nat} {t u : Tok} (H : St X B O l s) (hn : n ≤ 1000000) (h : ∀ t s', St X B O l s' → Q (.str (S (List.replicate n c)) t) s') : wpAny (model prog w) A (binaryOp .Mult (.str (S [c]) t) (.int (n : Int) u)) Q E s := by
  have hz : sizeLine = 16777216 := by decide
  have hfold : ∀ (k : Nat) (acc : Array Nat), (List.replicate k (S [c]).cps).foldl (· ++ ·) acc = acc ++ (List.replicate k c).toArray := by
    intro k
    induction k with
    | zero => intro acc; simp
    | succ k ih =>
      intro acc
      rw [List.replicate_succ, List.foldl_cons, ih, List.replicate_succ]
      show acc ++ #[c] ++ _ = _
      rw [Array.append_assoc]
      congr 1
      simp
  refine any_toks (SB.mul ⟨?_, fun _ _ => ?_, fun _ _ => ?_⟩ fun t' tk hle => ?_)
  · simp; omega
  · rw [S_length]
    have : (2 ^ 63 - 1 : Int) / (n : Int) ≥ 1 ∨ (n : Int) = 0 := by
      by_cases h0 : (n : Int) = 0
      · exact .inr h0
      · exact .inl (Int.le_ediv_of_mul_le (by omega) (by omega))
    rename_i h1 h2
    show ¬ (((1 : Nat) : Int) > (2 ^ 63 - 1) / (n : Int))
    rcases this with h | h
    · intro h3; exact absurd h3 (Int.not_lt.mpr h)
    · exact absurd (show (n : Int) < 1 by omega) h1
  · unfold Builtin.Str.tooLong
    rw [S_length]; simp; omega
  · have e : Txt.mul (S [c]) (n : Int) = S (List.replicate n c) := by
      unfold Txt.mul
      by_cases h0 : n = 0
      · subst h0; rfl
      · rw [if_neg (by omega)]
        by_cases h1 : n = 1
        · subst h1; rfl
        · rw [if_neg (by simp [S_length]; omega), hfold]
          simp [S]
    rw [e]
    exact h _ _ H.tok
theorem pick_all (vs : List Value) : slicePick vs.toArray none none none = vs.toArray := by
  unfold slicePick sliceBounds sliceRange
  simp only [List.size_toArray, Option.getD_none, show (1 : Int) > 0 by decide, if_true]
  congr 1
  rw [List.filterMap_map]
  have hm : (if (0 : Int) < (vs.length : Int) then ((vs.length : Int) - 0 + 1 - 1) / 1 else 0).toNat = vs.length := by
    rw [Int.ediv_one]; exact span_nat 0 _
  rw [hm]
  have : ((fun x => vs.toArray[x]?) ∘ fun k : Nat => ((0 : Int) + 1 * (k : Int)).toNat) = fun k => vs[k]? := by funext k; simp
  rw [this, take_range, List.take_length]
/-- xs[:] -/
theorem e_cutAll {value : Expr} {p pos : Pos}
    (h : wpAny (model prog w) A (eval value env) (fun o s₁ => ListCut Q o .none .none .none s₁) E s)
    (hs : ∀ a i, subscripted (.Slice none none none p) false (.ref a) (.ref i) = operate [.ref i, .ref a] (getItem (.ref a) (.ref i)) := by intro _ _; with_unfolding_all rfl)
    (ht : ∀ a r, letTemporaryGo value (.ref a) r = pure () := by intro _ _; with_unfolding_all rfl) :
    wpAny (model prog w) A (eval (.Subscript value (.Slice none none none p) pos) env) Q E s := by
  refine Subscript_ (wpAny_mono h (fun o s₁ h₁ => ?_) fun _ _ x => x)
  exact wpAny_Slice (wpAny_evalPart_none (wpAny_evalPart_none (wpAny_evalPart_none (cut_core (fun a i => [.ref i, .ref a]) h₁ hs ht))))
theorem cutAll_end {a : Addr} {xs : List Value} (H : St X B O l s) (hl : s.heap.IsList a xs.toArray) (hz : xs.length ≤ sizeLine)
    (h : ∀ c B' s', Sub B B' → B' c = some { cls := .type "list", data := .seq xs.toArray } → St X B' O l s' → Q (.ref c) s') : ListCut Q (.ref a) .none .none .none s :=
  ⟨_, _, _, X, B, O, l, a, xs, by simp, rfl, .none, .none, .none, H, hl, hz, fun c B' s' hs hc H => h c B' s' hs (by rw [hc, pick_all]) H⟩
end
end Mine
end
-- part C43
section
open PySem PySem.Spec PySem.Calls PyProof.Rows PySem.W
set_option maxRecDepth 100000
namespace Mine
section
variable {X : Fx} {B : FMap} {O O' : Owns} {l : Locs} {s : Shared} {prog : Program} {w : World} {A : Around} {E : Value → Shared → Prop} {Q : Value → Shared → Prop} {env : Env}
/-- dict(names) -/
theorem e_dictD {K : Type} [DecidableEq K] {knd : PySem.KeyKind prog w K} {d : Addr} {kvs : List (K × Value)} (H : St X B O l s) (hd : BD knd B d kvs) (hz : kvs.length ≤ sizeLine)
    (h : ∀ c B' s', Sub B B' → BD knd B' c kvs → St X B' O l s' → Q (.ref c) s') : wpAny (model prog w) A (call (.type "dict") [.ref d]) Q E s := by
  have hsys : (s.heap.objs.size == sysModules) = false := beq_eq_false_iff_ne.mpr fun e => by have := H.sysm; rw [← e] at this; exact Nat.lt_irrefl _ this
  refine PySem.kt_call_dict hd.1 (hd.at H) hz fun h' hd' hs => ?_
  have hnew : ({ cls := .type "dict", data := .dict #[] } : Obj).IsDictOf knd [] := by
    have := Heap.DictOf.new (knd := knd) s.heap
    obtain ⟨o, ho, r⟩ := Heap.dictOf_iff.mp this
    rw [Heap.get?_push_size _ rfl] at ho
    cases ho; exact r
  have H₁ := H.pushO (o := { cls := .type "dict", data := .dict #[] }) (n := s.toks) rfl (P := fun o => o.IsDictOf knd []) hnew
  obtain ⟨o', ho', hp'⟩ := Heap.dictOf_iff.mp hd'
  have H3 := H₁.turn (O₁ := []) rfl (h' := h') (n := s.toks) (P' := fun o => o.IsDictOf knd kvs) (fun b o hb e => hs.extBut b o hb e) ho' hp'
  obtain ⟨B', o'', hsub, hB, hP, H4⟩ := H3.freeze (O₁ := []) rfl
  exact h _ B' _ hsub ⟨hsys, o'', hB, hP⟩ H4
theorem a_four {x1 x2 x3 x4 : Str} {p1 p2 p3 p4 tpos : Pos} {k : Nat} {t : Addr} {v1 v2 v3 v4 : Value} {Q : Unit → Shared → Prop} (hh : A.handled = none) (H : St X B O l s) (ht : B t = some { cls := .type "tuple", data := .seq #[v1, v2, v3, v4] })
    (h : ∀ s', St X B O l s' → wpAny (model prog w) A (storeName X.env x1 v1) (fun _ s₁ => wpAny (model prog w) A (storeName X.env x2 v2) (fun _ s₁ => wpAny (model prog w) A (storeName X.env x3 v3) (fun _ s₁ => wpAny (model prog w) A (storeName X.env x4 v4) Q E s₁) E s₁) E s₁) E s') :
    wpAny (model prog w) A (assign (.Tuple [.Name x1 p1, .Name x2 p2, .Name x3 p3, .Name x4 p4] k tpos) X.env (.ref t)) Q E s := by
  refine wpAny_assign_Tuple (items := #[v1, v2, v3, v4]) hh ⟨_, H.fz _ _ ht, rfl, 0, rfl⟩ rfl rfl fun h' he => ?_
  have hk : Keep s.heap h' := fun b o e => he b o (Nat.ne_of_lt (Heap.lt_size e)) e
  refine wpAny_assignInOrder_more (wpAny_assign_Name (wpAny_mono (h _ (H.keeps (n := s.toks) hk)) (fun _ s₁ h₁ => ?_) fun _ _ x => x))
  refine wpAny_assignInOrder_more (wpAny_assign_Name (wpAny_mono h₁ (fun _ s₁ h₁ => ?_) fun _ _ x => x))
  refine wpAny_assignInOrder_more (wpAny_assign_Name (wpAny_mono h₁ (fun _ s₁ h₁ => ?_) fun _ _ x => x))
  exact wpAny_assignInOrder_more (wpAny_assign_Name (wpAny_mono h₁ (fun _ s₂ h₂ => wpAny_assignInOrder_none h₂) fun _ _ x => x))
theorem a_five {x1 x2 x3 x4 x5 : Str} {p1 p2 p3 p4 p5 tpos : Pos} {k : Nat} {t : Addr} {v1 v2 v3 v4 v5 : Value} {Q : Unit → Shared → Prop} (hh : A.handled = none) (H : St X B O l s) (ht : B t = some { cls := .type "tuple", data := .seq #[v1, v2, v3, v4, v5] })
    (h : ∀ s', St X B O l s' → wpAny (model prog w) A (storeName X.env x1 v1) (fun _ s₁ => wpAny (model prog w) A (storeName X.env x2 v2) (fun _ s₁ => wpAny (model prog w) A (storeName X.env x3 v3) (fun _ s₁ => wpAny (model prog w) A (storeName X.env x4 v4) (fun _ s₁ => wpAny (model prog w) A (storeName X.env x5 v5) Q E s₁) E s₁) E s₁) E s₁) E s') :
    wpAny (model prog w) A (assign (.Tuple [.Name x1 p1, .Name x2 p2, .Name x3 p3, .Name x4 p4, .Name x5 p5] k tpos) X.env (.ref t)) Q E s := by
  refine wpAny_assign_Tuple (items := #[v1, v2, v3, v4, v5]) hh ⟨_, H.fz _ _ ht, rfl, 0, rfl⟩ rfl rfl fun h' he => ?_
  have hk : Keep s.heap h' := fun b o e => he b o (Nat.ne_of_lt (Heap.lt_size e)) e
  refine wpAny_assignInOrder_more (wpAny_assign_Name (wpAny_mono (h _ (H.keeps (n := s.toks) hk)) (fun _ s₁ h₁ => ?_) fun _ _ x => x))
  refine wpAny_assignInOrder_more (wpAny_assign_Name (wpAny_mono h₁ (fun _ s₁ h₁ => ?_) fun _ _ x => x))
  refine wpAny_assignInOrder_more (wpAny_assign_Name (wpAny_mono h₁ (fun _ s₁ h₁ => ?_) fun _ _ x => x))
  refine wpAny_assignInOrder_more (wpAny_assign_Name (wpAny_mono h₁ (fun _ s₁ h₁ => ?_) fun _ _ x => x))
  exact wpAny_assignInOrder_more (wpAny_assign_Name (wpAny_mono h₁ (fun _ s₂ h₂ => wpAny_assignInOrder_none h₂) fun _ _ x => x))
/-- v in [None, 'r'] -/
theorem q_inNR {a : Addr} {c : List Nat} {t : Tok} {v : Value} {b : Bool} (H : St X B O l s) (ha : B a = some { cls := .type "list", data := .seq #[.none, .str (S c) t] }) (hv : (v = .none ∧ b = true) ∨ ∃ x u, v = .str (S x) u ∧ b = (c == x))
    (h : Q (.bool b) s) : wpAny (model prog w) A (compareOp .In v (.ref a)) Q E s := by
  have hl : s.heap.IsList a #[.none, .str (S c) t] := ⟨_, H.fz _ _ ha, rfl, 0, rfl⟩
  rcases hv with ⟨rfl, rfl⟩ | ⟨x, u, rfl, rfl⟩
  · refine SeqAt.in_listAt (fun y => match y with | .none => true | _ => false) hl (fun y hy => ?_) (by simpa using h)
    simp only [List.mem_toArray, List.mem_cons, List.not_mem_nil, or_false] at hy
    rcases hy with rfl | rfl
    · exact SeqAt.EqAt.same _
    · exact SeqAt.EqAt.str_none _ _
  · refine SeqAt.in_listAt (fun y => match y with | .none => false | _ => c == x) hl (fun y hy => ?_) (by simpa using h)
    simp only [List.mem_toArray, List.mem_cons, List.not_mem_nil, or_false] at hy
    rcases hy with rfl | rfl
    · exact SeqAt.EqAt.none_str _ _
    · have := (SeqRoads2.EqGives.str (S c) (S x) t u).at A.in1 s
      exact this
/-- a try that may raise or not; both ways meet again -/
theorem x_tryJ {body rest : List Stmt} {h₀ : ExceptHandler} {hs : List ExceptHandler} {pos : Pos} {Q : Flow → Shared → Prop} (J : Shared → Prop) (Pe : Value → Shared → Prop)
    (h : ∀ bd Qb, bd = body → (∀ s₁, J s₁ → Qb .next s₁) → wpAny (model prog w) A (execs bd env) Qb Pe s)
    (k : ∀ Qh e s₁, Pe e s₁ → (∀ s₁, J s₁ → Qh .next s₁) → wpAny (model prog w) A (noteFrame e env) (fun _ s₂ => wpAny (model prog w) A (setFlight e none) (fun _ s₃ => wpAny (model prog w) A (handleBy e env (h₀ :: hs)) Qh E s₃) E s₂) E s₁)
    (r : ∀ s₁, J s₁ → wpAny (model prog w) A (execs rest env) Q E s₁) :
    wpAny (model prog w) A (execs (.Try body (h₀ :: hs) [] [] pos :: rest) env) Q E s := by
  refine wpAny_execs_cons (wpAny_Try_except (wpAny_mono (h _ (fun f s₁ => f = .next ∧ J s₁) rfl fun s₁ hj => ⟨rfl, hj⟩) (fun f s₁ hf => ?_) fun e s₁ he => ?_))
  · obtain ⟨rfl, hj⟩ := hf
    exact wpAny_execs_nil (r _ hj)
  · exact k _ e s₁ he fun s₁ hj => r _ hj
theorem tuple_eq2 {a b : Addr} {oa ob : Obj} {x1 x2 y1 y2 : Value} {na nb : Nat} {P : PySem.Fin → Shared → Prop} (hoa : s.heap.get? a = some oa) (hda : oa.data = .seq #[x1, x2] na) (hob : s.heap.get? b = some ob) (hcb : ob.cls = .type "tuple") (hdb : ob.data = .seq #[y1, y2] nb)
    (h1 : ∀ Q : Bool → Shared → Prop, Q true s → wpAny (model prog w) A (eqBool x1 y1) Q E s) (h2 : ∀ Q : Bool → Shared → Prop, Q true s → wpAny (model prog w) A (eqBool x2 y2) Q E s) (h : P (.done (.ret (.bool true))) s) :
    wpAny (model prog w) A (Builtin.«tuple.__eq__» ⟨[.ref a, .ref b], []⟩) P E s := by
  have hTb : s.TypeIs (.ref b) "tuple" := ⟨_, hob, hcb⟩
  show wpAny _ _ (isInstance (.ref b) (.type "tuple") >>= _) _ _ s
  refine wpAny_bind (wpAny_isInstance hTb isSubtype_tuple_tuple ?_)
  simp only [Bool.not_true, Bool.false_eq_true, if_false]
  refine wpAny_bind (wpAny_tupleItemsOf hoa hda ?_)
  refine wpAny_bind (wpAny_tupleItemsOf hob hdb ?_)
  refine wpAny_bind ?_
  refine wpAny_forIn_list _ (fun rest r s' => r.1 = none ∧ s' = s ∧ (rest = [(x1, y1), (x2, y2)] ∨ rest = [(x2, y2)] ∨ rest = [])) _ ?_ ?_ _ _ ⟨rfl, rfl, .inl rfl⟩
  · rintro ⟨u, v⟩ rest r s' ⟨hr, rfl, hz⟩
    rcases hz with hz | hz | hz
    · injection hz with e1 e2
      cases e1; subst e2
      refine wpAny_bind (h1 _ ?_)
      simp only [Bool.not_true, Bool.false_eq_true, if_false]
      exact wpAny_pure ⟨rfl, rfl, by simp⟩
    · injection hz with e1 e2
      cases e1; subst e2
      refine wpAny_bind (h2 _ ?_)
      simp only [Bool.not_true, Bool.false_eq_true, if_false]
      exact wpAny_pure ⟨rfl, rfl, by simp⟩
    · cases hz
  · rintro ⟨r1, r2⟩ s' ⟨hr, rfl, hz⟩
    simp only at hr
    subst hr
    exact wpAny_pure h
theorem eqBool_refs {a b : Addr} {Q : Bool → Shared → Prop} (h : a ≠ b → ∀ Q : Value → Shared → Prop, Q (.bool true) s → wpAny (model prog w) A (compareOp .Eq (.ref a) (.ref b)) Q E s) (hq : Q true s) : wpAny (model prog w) A (eqBool (.ref a) (.ref b)) Q E s := by
  unfold eqBool
  refine wpAny_holding ?_
  refine wpAny_ite_split (fun hab => ?_) (fun hab => ?_)
  · exact wpAny_bind (wpAny_rule (wpAny_pure hq))
  · exact wpAny_bind (h (fun e => hab (by rw [e]; exact beq_self_eq_true _)) _ (wpAny_truthy_bool hq))
theorem valueAt_mem {K : Type} [DecidableEq K] : ∀ {kvs : List (K × Value)}, (kvs.map (·.1)).Nodup → ∀ kv ∈ kvs, valueAt kvs kv.1 = some kv.2
  | [], _, kv, h => nomatch h
  | (k, v) :: r, hn, kv, h => by
    rw [List.map_cons, List.nodup_cons] at hn
    rw [valueAt_cons]
    rcases List.mem_cons.mp h with rfl | h
    · rw [if_pos rfl]
    · rw [if_neg (fun e : k = kv.1 => hn.1 (by rw [e]; exact List.mem_map_of_mem (f := (·.1)) h))]
      exact valueAt_mem hn.2 kv h
/-- two dicts of the very same pairs -/
theorem pairs_same {K : Type} [DecidableEq K] {knd : PySem.KeyKind prog w K} {nm : String} {a b : Addr} {kvs : List (K × Value)} {Q : Bool → Shared → Prop} (ha : (a == sysModules) = false) (hb : (b == sysModules) = false)
    (da : s.heap.DictOf knd a kvs) (db : s.heap.DictOf knd b kvs) (h : Q true s) : wpAny (model prog w) A (Builtin.Dict.samePairs nm a b) Q E s := by
  obtain ⟨oa, es, ep, hoa, -, hda, hka, hpa, hn⟩ := da
  obtain ⟨ob, fs, ep', hob, -, hdb, hkb, hpb, -⟩ := db
  have l1 : kvs.length = es.size := by rw [← hpa.length]; exact Array.length_toList
  have l2 : kvs.length = fs.size := by rw [← hpb.length]; exact Array.length_toList
  have look : ∀ k, findBy knd.is fs k = valueAt kvs k := fun k => by
    rw [← hpb.find k]
    clear l2 hpb hkb hdb hob
    obtain ⟨l⟩ := fs
    simp [findBy]
  have turn : ∀ i (hi : i < es.size), ∃ k v, knd.is k es[i].key = true ∧ es[i].hash = knd.hash k ∧ es[i].val = v ∧ ∃ j, ∃ hj : j < fs.size, (fs.findIdx? fun e => knd.is k e.key) = some j ∧ fs[j].val = v := fun i hi => by
    have hi2 : i < kvs.length := by rw [l1]; exact hi
    obtain ⟨k, v, hkv⟩ : ∃ k v, kvs[i] = (k, v) := ⟨_, _, rfl⟩
    obtain ⟨hkey, hval⟩ := hpa.get? (i := i) (e := es[i]) (k := k) (v := v) (by rw [Array.getElem?_toList]; exact Array.getElem?_eq_getElem hi) (by rw [List.getElem?_eq_getElem hi2, hkv])
    obtain ⟨k', hk', hh⟩ := hka es[i] (Array.getElem_mem hi)
    rw [knd.inj _ _ _ hk' hkey] at hh
    refine ⟨k, v, hkey, hh, hval, ?_⟩
    have hv := valueAt_mem hn kvs[i] (List.getElem_mem hi2)
    rw [hkv, ← look k, findBy_of_findIdx?] at hv
    cases hj : fs.findIdx? fun e => knd.is k e.key with
    | none => rw [hj] at hv; cases hv
    | some j =>
      rw [hj] at hv
      obtain ⟨hjl, _, _⟩ := Array.findIdx?_eq_some_iff_getElem.mp hj
      exact ⟨j, hjl, rfl, by simpa [Array.getElem?_eq_getElem hjl] using hv⟩
  unfold Builtin.Dict.samePairs Builtin.Dict.showsAll
  rw [if_neg (show ¬ (a == sysModules) = true by rw [ha]; decide), if_neg (show ¬ (b == sysModules) = true by rw [hb]; decide)]
  refine wpAny_bind (wpAny_pure (wpAny_bind (wpAny_pure (wpAny_bind (wpAny_dictEntries hoa hda ?_)))))
  refine wpAny_bind (wpAny_dictEntries hob hdb ?_)
  rw [if_neg (by rw [← l1, ← l2]; simp)]
  refine wpAny_bind (wpAny_dictEpoch hoa hda (wpAny_bind ?_))
  rw [Std.Legacy.Range.forIn_eq_forIn_range']
  simp only [Std.Legacy.Range.size, Nat.sub_zero, Nat.add_sub_cancel, Nat.div_one]
  refine wpAny_forIn_list _ (fun rest r s' => s' = s ∧ r = (none, ()) ∧ ∀ i ∈ rest, i < es.size) _ ?_ ?_ _ _ ⟨rfl, rfl, fun i hi => by have := List.mem_range'_1.mp hi; omega⟩
  · rintro i rest r s' ⟨rfl, rfl, hall⟩
    have hi := hall i (.head _)
    obtain ⟨k, v, hk, hh, hv, j, hj, hf, hw⟩ := turn i hi
    refine wpAny_bind (wpAny_dictEntries hoa hda ?_)
    rw [Array.getElem?_eq_getElem hi]
    show wpAny _ _ (holding [es[i].key, es[i].val] _ >>= _) _ _ _
    rw [hh]
    refine wpAny_bind (wpAny_holding (wpAny_bind (wpAny_dictFind_of hk hob hdb hkb ?_)))
    rw [hf]
    refine wpAny_bind (wpAny_dictEntries hob hdb ?_)
    rw [Array.getElem?_eq_getElem hj]
    refine wpAny_holding ?_
    rw [hv, hw]
    refine SeqAt.EqAt.same v prog w _ _ ?_
    show wpAny _ _ (if (!true) = true then _ else _) _ _ _
    rw [if_neg (by decide)]
    refine wpAny_bind (wpAny_dictEpoch hoa hda ?_)
    rw [if_neg (by simp)]
    exact wpAny_pure ⟨rfl, rfl, fun x hx => hall x (.tail _ hx)⟩
  · rintro r s' ⟨rfl, rfl, -⟩
    exact wpAny_pure h
theorem q_dicts {K : Type} [DecidableEq K] {knd : PySem.KeyKind prog w K} {a b : Addr} {kvs : List (K × Value)} (ha : (a == sysModules) = false) (hb : (b == sysModules) = false)
    (da : s.heap.DictOf knd a kvs) (db : s.heap.DictOf knd b kvs) (hu : A.units < cLine) (h : Q (.bool true) s) : wpAny (model prog w) A (compareOp .Eq (.ref a) (.ref b)) Q E s := by
  refine wpAny_richCompare_same_room (op := .Eq) da.typeIs db.typeIs F.slot_dict_eq (wpAny_call_entry F.slot_dict_eq da.typeIs F.entry_dict_eq ?_ (F.args_dict_eq_2 _ _)) hu
  refine wpAny_bind (m := Builtin.Dict.dictSlotArgs "__eq__" ⟨[.ref a, .ref b], []⟩) ?_
  unfold Builtin.Dict.dictSlotArgs
  refine wpAny_bind (wpAny_notOrdered_dict da.typeIs ?_)
  refine wpAny_pure (a := (Value.ref a, Value.ref b)) ?_
  refine wpAny_bind (wpAny_isInstance (T := "dict") db.typeIs isSubtype_dict_dict ?_)
  simp only [Bool.not_true, Bool.false_eq_true, if_false]
  refine wpAny_bind (wpAny_pure (wpAny_bind (wpAny_pure ?_)))
  exact wpAny_bind (pairs_same ha hb da db (wpAny_pure ⟨_, rfl, (fun x => nomatch x), h⟩))
/-- (things, names) == kept -/
theorem q_kept {K : Type} [DecidableEq K] {knd : PySem.KeyKind prog w K} {t u a a' d d' : Addr} {vs : List Value} {n n' : Nat} {kvs : List (K × Value)} (H : St X B O l s) (ht : B t = some { cls := .type "tuple", data := .seq #[.ref a, .ref d] }) (hu : B u = some { cls := .type "tuple", data := .seq #[.ref a', .ref d'] })
    (ha : B a = some { cls := .type "list", data := .seq vs.toArray n }) (ha' : B a' = some { cls := .type "list", data := .seq vs.toArray n' }) (hd : BD knd B d kvs) (hd' : BD knd B d' kvs) (hun : A.units + 2 < cLine) (h : Q (.bool true) s) :
    wpAny (model prog w) A (compareOp .Eq (.ref t) (.ref u)) Q E s := by
  have l1 : s.heap.IsList a vs.toArray := ⟨_, H.fz _ _ ha, rfl, _, rfl⟩
  have l2 : s.heap.IsList a' vs.toArray := ⟨_, H.fz _ _ ha', rfl, _, rfl⟩
  have t1 : s.TypeIs (.ref t) "tuple" := ⟨_, H.fz _ _ ht, rfl⟩
  have t2 : s.TypeIs (.ref u) "tuple" := ⟨_, H.fz _ _ hu, rfl⟩
  refine wpAny_richCompare_same_room (op := .Eq) t1 t2 F.slot_tuple_eq (wpAny_call_entry F.slot_tuple_eq t1 F.entry_tuple_eq (tuple_eq2 (H.fz _ _ ht) rfl (H.fz _ _ hu) rfl rfl (fun Q hQ => ?_) (fun Q hQ => ?_) ⟨_, rfl, (fun e => nomatch e), h⟩) (F.args_tuple_eq_2 _ _)) (by omega)
  · refine eqBool_refs (fun _ Q hQ => ?_) hQ
    have hu1 : A.in1.units < cLine := by show A.units + 1 < cLine; omega
    have key := SeqAt.RcAt.lists (A := A.in1) (e := fun _ => true) l1 l2 rfl hu1 (fun j h1 h2 => SeqAt.EqAt.same _)
    have e : ((List.range vs.toArray.size).all fun _ => true) = true := by simp
    rw [e] at key
    exact key prog w _ _ hQ
  · refine eqBool_refs (fun _ Q hQ => ?_) hQ
    have hu1 : A.in1.units < cLine := by show A.units + 1 < cLine; omega
    exact q_dicts hd.1 hd'.1 (hd.at H) (hd'.at H) hu1 hQ
end
end Mine
end
-- part C29
section
open PySem PySem.Spec PySem.Calls PyProof.Rows PySem.W
set_option maxRecDepth 100000
namespace Mine
section
variable {prog : Program} {w : World}
/-- a call from module level: no token need be drawn yet -/
def Sp0 (prog : Program) (w : World) (d : DefRec) (A : Around) (vals : List Value) (B : FMap) (s : Shared) (P : FMap → Value → Prop) : Prop :=
  ∀ f o pm code doc, s.heap.get? f = some o → o.data = .func (docDef d.name d.params d.body d.scope pm code doc) → s.heap.CodeRec code d.name →
    codeAny (model prog w) A (.call (.ref f) ⟨vals, []⟩) (Returns B s P) s
variable {X : Fx} {B B' : FMap} {O O' : Owns} {l l' : Locs} {s s' : Shared} {A : Around} {E : Value → Shared → Prop} {Q : Value → Shared → Prop} {c : ClsRec} {C N : Addr} {mN : Str → Option Value}
/-- the method at hand, and its call -/
theorem e_methAt {M : MethRec} {x : Addr} {e : Expr} {rest : List Expr} {name : Str} {pos : Pos} {pl : Sem Bool} (H : St X B O l s) (P : FmAt X.mg c X.h0 C N mN) (hi : InstB B x C) (hm : c.meths.find? (fun r => r.name == name) = some M) (hd : M.params.defaults = []) (hB : typeLookup (.type "object") name = pure none)
    (he : starEach (e :: rest) X.env = (false, eval e X.env) :: starEach rest X.env)
    (h : wpAny (model prog w) A (spliced (backTo pos (starEach (e :: rest) X.env))) (fun vs s₂ => ∃ B₂ O₂ l₂ P Pe, St X B₂ O₂ l₂ s₂ ∧ SpR prog w (methRec c M) M.name A (.ref x :: vs) B₂ s₂ P Pe ∧
        (∀ v B₃ s₃, Sub B₂ B₃ → P B₃ v → St X B₃ O₂ l₂ s₃ → Q v s₃) ∧ ∀ y s₃, Pe y s₃ → E y s₃) E s) :
    wpAny (model prog w) A (getMethod (.ref x) name pl) (fun fx s₂ => wpAny (model prog w) A (callWith pos fx.1 fx.2 (backTo pos (starEach (e :: rest) X.env)) []) Q E s₂) E s := by
  refine m_meth H P hi hm hd hB fun f of pm cdv doc ho hdat hcd => ?_
  dsimp only
  refine callWith_meth (h₀ := X.h0) hdat ho (wpAny_mono h (fun vs s₂ hq => ?_) fun _ _ x => x) he
  obtain ⟨B₂, O₂, l₂, P, Pe, H₂, hsp, hQ, hE⟩ := hq
  refine ⟨H₂.kept, wpAny_call (codeAny_mono (hsp H₂.tk f of pm cdv doc (H₂.kept _ _ ho) hdat (hcd.keeps H₂.kept)) fun r s₃ hr => ?_)⟩
  rcases hr with ⟨v, B₃, rfl, hg, hp⟩ | ⟨y, rfl, hy⟩
  · exact hQ v B₃ s₃ hg.sub hp (H₂.grow hg)
  · exact hE y s₃ hy
end
end Mine
end
-- part C44
section
open PySem PySem.Spec PySem.Calls PyProof.Rows PySem.W
set_option maxRecDepth 100000
namespace Mine
section
variable {M : Model} {A : Around} {E : Value → Shared → Prop} {s : Shared}
theorem newEnv1 {scope : Scope} {globals : Addr} {n : Str} {v : Value} {qual : Str} {func : Option Addr} {code : Value} {builtins : Addr} {Q : Env → Shared → Prop}
    (hk : scope.kind = .function) (hl : scope.names.lookup n = some .local)
    (hQ : ∀ env, env = newEnv scope s.heap.objs.size globals (cellsFrom (s.heap.objs.size + 1) scope.names []) qual func code none builtins →
      ∀ h₁ tk, 0 < tk → InCallC s env.locals (fun y => if y = n then some v else none) env.cells (fun _ => none) { s with heap := h₁, toks := tk } → Q env { s with heap := h₁, toks := tk }) :
    wpAny M A (newFunctionEnv scope globals [] [(n, v)] qual func code none builtins) Q E s := by
  simp only [newFunctionEnv, Option.isSome_none, Bool.false_eq_true, if_false]
  refine wpAny_bind (wpAny_alloc ?_)
  refine wpAny_bind (wpAny_layCells _ (fun name kind cells => by cases hkc : kind == NameKind.cell <;> (first | rfl | simp [hkc])) _ _ _ _ ?_)
  have ok := cellsFrom_ok scope.names (s.heap.push { cls := .type "frame", data := .dict #[] }) (s.heap.objs.size + 1) [] ⟨fun _ _ hm => (nomatch hm), List.Pairwise.nil⟩ (by rw [Heap.size_push]; exact Nat.le_refl _)
  rw [Heap.size_push] at ok
  rw [show ({ s with heap := s.heap.push { cls := .type "frame", data := .dict #[] } } : Shared).heap.objs.size = s.heap.objs.size + 1 from Heap.size_push ..]
  let env := newEnv scope s.heap.objs.size globals (cellsFrom (s.heap.objs.size + 1) scope.names []) qual func code none builtins
  have x : InCallC s env.locals (fun _ => none) env.cells (fun _ => none) { s with heap := pushCells (s.heap.push { cls := .type "frame", data := .dict #[] }) scope.names } :=
    ⟨⟨⟨_, _, rfl⟩, (Heap.Ns.new s.heap (.type "frame")).keeps (pushCells_keeps _ _), fun b o e => pushCells_keeps _ _ b o (Heap.get?_push_of_some _ e), Nat.le_refl _⟩,
      fun n c hc => (ok.empty n c (mem_of_lookup hc)).1, ok.apart, fun n c hm => (ok.empty n c hm).2⟩
  have hfun : (env.scope.kind == .class || (env.scope.kind == .module && env.locals != env.globals)) = false := by
    show (scope.kind == .class || (scope.kind == .module && _)) = false
    rw [hk]; rfl
  have step : ∀ (f : Str × Value → PUnit → Sem (ForInStep PUnit)), (∀ n v u, f (n, v) u = (do storeName env n v; pure (.yield ⟨⟩))) → wpAny M A (forIn [(n, v)] PUnit.unit f) (fun _ s' => Q env s') E { s with heap := pushCells (s.heap.push { cls := .type "frame", data := .dict #[] }) scope.names } := fun f hf => by
    rw [List.forIn_cons, hf]
    refine wpAny_bind (wpAny_bind (wpAny_storeName_local (env := env) hl x.toInCall.ns (fun h' hn' hs' => wpAny_pure ?_) hfun))
    show wpAny _ _ (forIn [] _ _) _ _ _
    rw [List.forIn_nil]
    refine wpAny_pure (hQ env rfl h' _ (Nat.succ_pos _) ⟨⟨⟨h', _, rfl⟩, hn', fun b o e => ?_, x.toInCall.fresh⟩, fun k c hc => ?_, x.apart, x.above⟩)
    · exact hs'.extBut b o (Nat.ne_of_lt (Nat.lt_of_lt_of_le (Heap.lt_size e) x.toInCall.fresh)) (x.toInCall.keep b o e)
    · exact (x.cell k c hc).sameBut hs' (Nat.ne_of_gt (x.above k c (mem_of_lookup hc)))
  exact wpAny_bind (wpAny_mono (step _ fun _ _ _ => rfl) (fun _ _ h => wpAny_pure h) fun _ _ e => e)
end
section
variable {prog : Program} {w : World}
/-- the walk of a def with cells whose frame is named -/
theorem enterGA {d : DefRec} {A : Around} {k : Nat} (R : Rm A (k + 1)) {T : Tp} {s : Shared} {B : FMap} (hT : T.At s.heap) (hB : Fz B s.heap) {v : Value} {P : FMap → Value → Prop} (n : Str) (ns cn : List Str)
    (hbind : ∀ pm cd doc, bindArgs (docDef d.name d.params d.body d.scope pm cd doc) ⟨[v], []⟩ = pure [(n, v)])
    (hloc : ((n :: ns).all fun x => decide (d.scope.names.lookup x = some .local ∧ (x == ("__debug__" : Str)) = false)) = true) (hnd : (n :: ns).Nodup)
    (hcn : (cellsFrom 0 d.scope.names []).map (·.1) = cn) (hcnd : cn.Nodup)
    (hco : d.scope.isCoroutine = false) (hgen : d.scope.isGenerator = false) (hk : d.scope.kind = .function)
    (h : ∀ X cl (Q : Flow → Shared → Prop) s', FrmG X T s B [] cl d → X.env.frame = some X.env.locals → cl.map (·.1) = cn → St X B (cl.map (fun p => (p.2, CellIs none))) ((n, some v) :: ns.map fun n => (n, none)) s' → Rm (A.deeper X.env) k →
      (∀ {v B' O l s''}, St X B' O l s'' → P B' v → Q (.ret v) s'') → wpAny (model prog w) (A.deeper X.env) (execs d.body X.env) Q (fun _ _ => False) s') :
    Sp0 prog w d A [v] B s P := by
  intro f o pm code doc ho hd hcd
  have hall := List.all_eq_true.mp hloc
  have hl : d.scope.names.lookup n = some .local := (of_decide_eq_true (hall n (.head _))).1
  have hfst : ∀ m, (cellsFrom m d.scope.names []).map (·.1) = cn := fun m => (cellsFrom_fst _ _ _ _ _ rfl).trans hcn
  have hlim : s.heap.NoLimit := Top.nolimit hT
  refine codeAny_call_function (fd := docDef d.name d.params d.body d.scope pm code doc) R.room ho hd hco hgen rfl hcd ?_
  rw [hbind, show (docDef d.name d.params d.body d.scope pm code doc).closure = [] from rfl]
  refine wpAny_pure (newEnv1 hk hl fun env he h₁ tk htk C => ?_)
  subst he
  refine ⟨hlim.keeps C.toInCall.keep, codeAny_func ?_⟩
  let cl := cellsFrom (s.heap.objs.size + 1) d.scope.names []
  have hcl : cl.map (·.1) = cn := hfst _
  have hlk : ∀ p ∈ cl, cl.lookup p.1 = some p.2 := fun p hp => lookup_nodup (by rw [hcl]; exact hcnd) hp
  let X : Fx := { p := T.p, loose := T.loose, mean := T.mean, mg := T.mg, mb := T.mb, env := envOfC d.name d.scope s.heap.objs.size f code, h0 := s.heap, B0 := B, gens := s.gens, os := s.os, drawn := s.drawn }
  have keys : ((n, some v) :: ns.map fun n => (n, (none : Option Value))).map (·.1) = n :: ns := by simp [Function.comp_def]
  have hN : ∀ {b : Addr}, s.heap.objs.size ≤ b → s.heap.get? b = none := fun e => none_of_le e
  have hBN : ∀ {b : Addr}, s.heap.objs.size ≤ b → B b = none := fun {b} e => by
    cases q : B b with
    | none => rfl
    | some o' => exact absurd (Heap.lt_size (hB.fz _ _ q)) (Nat.not_lt.mpr e)
  have hab : ∀ p ∈ cl, s.heap.objs.size < p.2 := fun p hp => C.above p.1 p.2 hp
  have hsysm : sysModules < s.heap.objs.size := modules_low hlim
  have hst : St X B (cl.map (fun p => (p.2, CellIs none))) ((n, some v) :: ns.map fun n => (n, none)) { s with heap := h₁, toks := tk } := by
    refine { ns := ?_, nd := by rw [keys]; exact hnd, kind := fun x hx => ?_, fn := hk, gl := rfl, bl := rfl, top := hT, kept := C.toInCall.keep, offh := hN (Nat.le_refl _), fz := fun b o e => C.toInCall.keep _ _ (hB.fz _ _ e), low := hB.low, lowO := fun q hq => ?_, b0 := Sub.refl _, new := fun b o e => .inl e, offL := hBN (Nat.le_refl _), own := fun q hq => ?_, apart := ?_, gens := rfl, os := rfl, drawn := rfl, tk := htk }
    · have e : mOf ((n, some v) :: ns.map fun n => (n, none)) = fun y => if y = n then some v else none := by
        funext y
        by_cases hy : y = n
        · subst hy; rw [mOf_cons_self, if_pos rfl]
        · rw [mOf_cons_ne hy, mOf_none, if_neg hy]
      rw [e]; exact C.toInCall.ns
    · rw [keys] at hx
      exact of_decide_eq_true (hall _ hx)
    · obtain ⟨p, hp, rfl⟩ := List.mem_map.mp hq
      exact Nat.ne_of_gt (Nat.lt_trans hsysm (hab p hp))
    · obtain ⟨p, hp, rfl⟩ := List.mem_map.mp hq
      have hlt := hab p hp
      exact ⟨C.cell p.1 p.2 (hlk p hp), Nat.ne_of_gt hlt, hBN (Nat.le_of_lt hlt), hN (Nat.le_of_lt hlt)⟩
    · have hp := C.apart
      rw [List.map_map]
      exact List.pairwise_map.mpr hp
  have hfr : FrmG X T s B [] cl d := ⟨rfl, rfl, rfl, rfl, rfl, rfl, rfl, rfl⟩
  refine wpAny_mono (h X cl (fun fl s'' => ∃ v B', fl = .ret v ∧ Grow B s B' s'' ∧ P B' v) _ hfr rfl hcl hst (R.deeper _) fun {v B' O l s''} H hp => ⟨v, B', rfl, H.back rfl rfl rfl rfl, hp⟩) (fun fl s'' hq => ?_) fun _ _ x => x.elim
  obtain ⟨v, B', rfl, hg, hp⟩ := hq
  exact ⟨v, B', rfl, hg, hp⟩
end
end Mine
end
-- part C45
section
open PySem PySem.Spec PySem.Calls PyProof.Rows PySem.W
set_option maxRecDepth 100000
namespace Mine
section
variable {prog : Program} {w : World} {A : Around} {env : Env}
/-- y = {..}: the comprehension stores itself -/
theorem x_dictcomp {X : Fx} {s : Shared} {E : Value → Shared → Prop} {K : Type} [DecidableEq K] (knd : PySem.KeyKind prog w K) {Q : Flow → Shared → Prop} {kx vx target iter : Expr} {ifs : List Expr} {scope : Scope} {pos spos py : Pos} {y : Str} {rest : List Stmt} {cl : List (Str × Addr)} (ns : List Str)
    (h : wpAny (model prog w) A (eval iter X.env) (fun xv s₁ => wpAny (model prog w) A (pyIter xv) (DComp prog w knd A X kx vx target ifs scope cl ns (fun B O l v _ => ∃ O' l', StoreTo prog w A X B O l y v O' l' ∧ ∀ s, St X B O' l' s → wpAny (model prog w) A (execs rest X.env) Q E s)) E s₁) E s)
    (hsw : swapsWith (.DictComp kx vx [⟨target, iter, ifs, 0⟩] scope pos) (some (.Name y py)) spos.line X.env = pure true)
    (hclos : closureFor scope X.env = pure cl) (hcell : ∀ y ∈ scope.names, y.2 ≠ .cell) (hkind : scope.kind = .function)
    (hnames : ∀ y ∈ scope.names, y.2 = .local → scope.names.lookup y.1 = some .local) (hns : ∀ x ∈ ns, scope.names.lookup x = some .local ∧ (x == ("__debug__" : Str)) = false) (hnd : ns.Nodup)
    (hs : ∀ x, foldedSetIterable iter X.env x = pure x := by intro _; rfl) :
    wpAny (model prog w) A (execs (.Assign [.Name y py] (.DictComp kx vx [⟨target, iter, ifs, 0⟩] scope pos) spos :: rest) X.env) Q E s := by
  refine wpAny_execs_cons ?_
  rw [exec_Assign_Name_used _ _ _ _ hsw]
  refine wpAny_bind (wpAny_standAt (wpAny_bind ?_))
  show wpAny _ A (do let _ ← comprehension (.DictComp kx vx [⟨target, iter, ifs, 0⟩] scope pos) scope X.env _ newDict false (eval iter X.env) (some (assign (.Name y py) X.env))) _ _ s
  refine wpAny_bind (wpAny_mono (wpAny_comprehension_free (use := some (assign (.Name y py) X.env)) (Q := fun _ s' => wpAny (model prog w) A (execs rest X.env) Q E s') rfl hs hclos hkind hnames
    (wpAny_mono h (fun xv s₁ h₁ => wpAny_mono h₁ (fun it s₂ h₂ => ?_) fun _ _ e => e) fun _ _ e => e)) (fun _ s' hq => wpAny_pure (wpAny_pure hq)) fun _ _ e => e)
  refine coreD (RR := fun acc C => compPost (model prog w) A E (some (assign (.Name y py) X.env)) (fun _ s' => wpAny (model prog w) A (execs rest X.env) Q E s') acc C) h₂ hcell hkind hns hnd fun D C B O l s₁ H hq => ?_
  obtain ⟨O', l', hst, hq⟩ := hq
  show wpAny _ A (assign (.Name y py) X.env (.ref D)) _ _ _
  refine wpAny_assign_Name (hst _ _ _ _ H fun s₂ H₂ => ?_)
  obtain ⟨⟨o, ho, m, hm⟩, _⟩ := H₂.own _ (.head _)
  exact ⟨m, hm _ ho, fun h' hs' => hq _ (H₂.let1 (n := s₂.toks) fun b o hb e => (hs'.2 b hb).trans e)⟩
theorem swaps_localD {kx vx : Expr} {gens : List Comprehension} {scope : Scope} {pos py : Pos} {y : Str} {ln : Nat} (hk : env.scope.kind = .function) (hl : env.kindOf y = some .local) (h : (py.line == pos.line && !(scope.names.any fun (n, k) => n == y && (k == .local || k == .cell))) = true) :
    swapsWith (.DictComp kx vx gens scope pos) (some (.Name y py)) ln env = pure true := by
  have hb : env.blockKind = .function := by unfold Env.blockKind; rw [hk]; rfl
  show (pure (env.blockKind == .function && env.kindOf y == some .local && py.line == pos.line && !(scope.names.any fun (n, k) => n == y && (k == .local || k == .cell))) : Sem Bool) = pure true
  rw [hb, hl]
  have e1 : (ScopeKind.function == ScopeKind.function) = true := by decide
  have e2 : (some NameKind.local == some NameKind.local) = true := by decide
  rw [e1, e2, Bool.true_and, Bool.true_and, h]
theorem swaps_cellL {e : Expr} {gens : List Comprehension} {scope : Scope} {pos py : Pos} {y : Str} {ln : Nat} (hl : env.kindOf y = some .cell) :
    swapsWith (.ListComp e gens scope pos) (some (.Name y py)) ln env = pure false := by
  show (pure (env.blockKind == .function && env.kindOf y == some .local && py.line == pos.line && !(scope.names.any fun (n, k) => n == y && (k == .local || k == .cell))) : Sem Bool) = pure false
  rw [hl]
  have e2 : (some NameKind.cell == some NameKind.local) = false := by decide
  rw [e2, Bool.and_false, Bool.false_and, Bool.false_and]
end
end Mine
end
-- part C30
section
open PySem PySem.Spec PySem.Calls PyProof.Rows PySem.W
namespace Mine
section
variable {X : Fx} {B : FMap} {O : Owns} {l : Locs} {s : Shared} {prog : Program} {w : World} {A : Around} {E : Value → Shared → Prop} {Q : Value → Shared → Prop} {env : Env}
end
end Mine
end
-- part M2a
open PySem PySem.Spec PySem.Calls PyProof.Rows PySem.W
set_option maxRecDepth 100000
namespace Mine
noncomputable abbrev loose1 := looseW V1 []
set_option compiler.extract_closed false
set_option hygiene false in
local macro_rules | `(tactic| walk_at "nm") => `(tactic| (conv => arg 3; arg 1; whnf); simp only [↓slits, names_])
set_option hygiene false in
local macro_rules | `(tactic| walk_at "get") => `(tactic| repeat (first | with_reducible exact Get.here | with_reducible apply Get.there))
set_option hygiene false in
local macro_rules | `(tactic| walk_at "put") => `(tactic| repeat (first | with_reducible exact Put.here | with_reducible apply Put.there))
set_option hygiene false in
local macro_rules | `(tactic| walk_at "opop") => `(tactic| repeat (first | with_reducible exact OPop.here | with_reducible apply OPop.there | with_reducible apply OPop.app))
set_option hygiene false in
local macro_rules | `(tactic| walk_at "oput") => `(tactic| repeat (first | with_reducible exact OPut.here | with_reducible apply OPut.there | with_reducible apply OPut.app))
set_option hygiene false in
local macro_rules | `(tactic| walk_at "blt") => `(tactic| ((with_reducible show wpAny _ _ (eval (Expr.Name _ _) _) _ _ _); with_reducible refine w_builtin H (by first | exact kindOf_frm F (by decide +kernel) | exact kindOf_cf C (by decide +kernel) | exact kindOf_frmG F (by decide +kernel)) (G.free H (by decide +kernel)) (by first | exact bn_len | exact bn_isinstance | exact bn_chr | exact bn_divmod | exact bn_abs | exact bn_repr | exact bn_ascii | exact bn_format | exact bn_max | exact bn_str | exact bn_dict | exact bn_list | exact bn_tuple | exact bn_bool | exact bn_int | exact bn_zip | exact bn_range | exact bn_enumerate | exact bn_set | exact bn_ValueError | exact bn_IndexError | exact bn_KeyError | exact bn_TypeError) (by decide +kernel) ?_ (by decide +kernel)))
set_option hygiene false in
local macro_rules | `(tactic| walk_at "mi") => `(tactic| first
  | ((with_reducible show wpAny _ _ (eval _ _) _ _ _); first
    | (with_reducible refine' w_local H ?hp ?_; (case hp => walk_at "get"))
    | with_reducible refine w_cellF H kC cC bC oC ?_ (by decide +kernel)
    | with_reducible refine w_cellF H kD cD bD oD ?_ (by decide +kernel)
    | with_reducible refine w_cellK H kC cC eC oC ?_ (by decide +kernel)
    | (with_reducible refine' w_cellO H kC cC ?hp ?_ (by decide +kernel); (case hp => walk_at "opop"))
    | (with_reducible refine c_int H ?_; clear H; intro t s H)
    | (with_reducible refine c_str H ?_; clear H; intro t s H)
    | (with_reducible first | refine wpAny_Constant_none ?_ | refine wpAny_Constant_bool ?_ | refine wpAny_BinOp ?_)
    | with_reducible refine wpAny_Compare1 ?_ (by with_unfolding_all rfl)
    | with_reducible refine Compare_chain ?_ (by with_unfolding_all rfl)
    | (with_reducible first | refine BoolOp_and ?_ | refine BoolOp_or ?_ | refine BoolOp_one ?_)
    | with_reducible refine e_cut ?_ (by rintro _ _ ⟨_, _, rfl⟩ ⟨_, rfl⟩; with_unfolding_all rfl) (by rintro _ _ ⟨_, _, rfl⟩; with_unfolding_all rfl)
    | with_reducible refine e_cutH ?_ (by rintro _ _ ⟨_, _, rfl⟩ ⟨_, rfl⟩; with_unfolding_all rfl) (by rintro _ _ ⟨_, _, rfl⟩; with_unfolding_all rfl)
    | with_reducible refine e_cutL ?_ (by rintro _ _ ⟨_, _, rfl⟩ ⟨_, rfl⟩; with_unfolding_all rfl) (by rintro _ _ ⟨_, _, rfl⟩; with_unfolding_all rfl)
    | with_reducible refine e_cutStep ?_ (by intro _ _; with_unfolding_all rfl) (by intro _ _; with_unfolding_all rfl)
    | (with_reducible first | refine Subscript_ ?_ | refine UnaryOp_ ?_)
    | (with_reducible first | refine Tuple_ ?_ | refine List_ ?_)
    | with_reducible refine e_call H (by first | exact kindOf_frm F (by decide +kernel) | exact kindOf_cf C (by decide +kernel) | exact kindOf_frmG F (by decide +kernel)) (by rw [G.p]; with_reducible first | exact find_text | exact find_word | exact find_drawn | exact find_fields | exact find_found | exact find_cells) ?_ (by decide +kernel) (by with_unfolding_all rfl)
    | with_reducible refine MethodCall_ ?_ (by with_unfolding_all rfl)
    | with_reducible refine Call_ ?_ (by with_unfolding_all rfl)
    | with_reducible refine e_bcall ?_ (by with_unfolding_all rfl) (by with_unfolding_all rfl)
    | (walk_at "blt"))
  | ((with_reducible show wpAny _ _ (execs _ _) _ _ _); first
    | (with_reducible refine x_gen ?_; intro rest hrest)
    | with_reducible refine x_assign ?_ (by with_unfolding_all rfl)
    | (with_reducible refine x_ifG ?_; intro bd ob hbd hob)
    | with_reducible refine x_ret ?_
    | with_reducible refine x_unpack ?_ (by with_unfolding_all rfl) (by with_unfolding_all rfl)
    | with_reducible refine x_expr H.fn ?_ (by with_unfolding_all rfl)
    | with_reducible refine x_augS ?_ (by intros; with_unfolding_all rfl)
    | (with_reducible first | refine x_aug ?_ | refine x_pass ?_ | refine x_nil ?_)
    | (with_reducible refine x_rest hrest ?_; clear hrest; clear rest)
    | (with_reducible refine x_rest hbd ?_; clear hbd; clear bd; (try (clear hob; clear ob)))
    | (with_reducible refine x_rest hob ?_; clear hob; clear ob; (try (clear hbd; clear bd))))
  | ((with_reducible show wpAny _ _ (isTrue _ _ _) _ _ _); first
    | with_reducible refine wpAny_isTrue_Compare1 ?_ (by with_unfolding_all rfl)
    | (with_reducible first | refine wpAny_isTrue_BoolOp ?_ | refine wpAny_isTrue_Not ?_)
    | with_reducible refine isTrue_chain ?_ (by with_unfolding_all rfl)
    | with_reducible refine isTrue_plain ?_ (by with_unfolding_all rfl))
  | ((with_reducible show wpAny _ _ (compareOp _ _ _) _ _ _); first
    | (with_reducible first | refine q_eq ?_ | refine PyProof.Rows.gt_int ?_ | refine PyProof.Rows.lt_int ?_ | refine PyProof.Rows.le_int ?_ | refine PyProof.Rows.ge_int ?_ | refine PyProof.Rows.eq_int ?_ | refine PyProof.Rows.ne_int ?_ | refine q_ne ?_ | refine q_lt ?_ | refine q_in ?_ | refine q_notin ?_ | refine ne_bool ?_ | refine eq_bool ?_ | refine q_le ?_))
  | (with_reducible first | refine ite_tt' ?_ | refine ite_ff' ?_)
  | (with_reducible first | refine a_name ?_ | refine then_next ?_ | refine then_ret ?_)
  | (with_reducible refine' s_cell H kC cC ?hp ?_; (case hp => walk_at "oput"); clear H; intro s H)
  | (with_reducible refine' w_load H ?hp ?_; (case hp => walk_at "get"))
  | (with_reducible refine' w_store H ?hp ?_; (case hp => walk_at "put"); clear H; intro s H)
  | (with_reducible refine' w_bind H ?hp ?_; (case hp => walk_at "put"); clear H; intro s H)
  | (with_reducible refine b_add H ?_; clear H; intro t s H)
  | (with_reducible refine b_sub H ?_; clear H; intro t s H)
  | (with_reducible refine i_add H ?_; clear H; intro t s H)
  | (with_reducible first | refine wpAny_allTrue_And_cons ?_ | refine wpAny_allTrue_And_nil ?_ | refine wpAny_allTrue_Or_cons ?_ | refine wpAny_allTrue_Or_nil ?_ | refine test_link ?_ | refine test_lastE ?_ | refine chain_link ?_ | refine chain_lastE ?_ | refine wpAny_truthy_bool ?_)
  | (with_reducible refine u_neg H ?_; clear H; intro t s H)
  | with_reducible refine args_nil ?_
  | with_reducible refine args_cons ?_ (by with_unfolding_all rfl)
  | with_reducible refine e_bcall ?_ (by with_unfolding_all rfl) (by with_unfolding_all rfl)
  | (with_reducible first | refine tests_nil ?_ | refine tests_one ?_)
  | with_reducible refine GM.index ?_
  | (with_reducible refine' m_append H ?hp ?_; (case hp => walk_at "opop"))
  | (with_reducible refine' m_pop H ?hp ?_; (case hp => walk_at "opop"))
  | (with_reducible first | refine pairTrees_cons_walk ?_ | refine pairTrees_nil_walk ?_)
  | (with_reducible first | refine PyProof.Rows.callWith_builtin1 ?_ (by with_unfolding_all rfl) (by with_unfolding_all rfl) | refine PyProof.Rows.callWith_type1 ?_ (by with_unfolding_all rfl) (by with_unfolding_all rfl)))
set_option hygiene false in
local macro_rules | `(tactic| walk_at "m") => `(tactic| first | (walk_at "mi") | with_reducible refine IfExp_ ?_)
set_option hygiene false in
local macro_rules | `(tactic| walk_at "dS") => `(tactic| (with_reducible refine e_dict (PySem.strKind prog w) H ?_ (by with_unfolding_all rfl) (by with_unfolding_all rfl) (by with_unfolding_all rfl) (by with_unfolding_all rfl)); clear H; intro d s hd H)
set_option hygiene false in
local macro_rules | `(tactic| walk_at "dI") => `(tactic| (with_reducible refine e_dict (intKind prog w) H ?_ (by with_unfolding_all rfl) (by with_unfolding_all rfl) (by with_unfolding_all rfl) (by with_unfolding_all rfl)); clear H; intro d s hd H)
set_option hygiene false in
local macro_rules | `(tactic| walk_at "mm") => `(tactic| repeat (walk_at "m"))

set_option hygiene false in
local macro_rules | `(tactic| walk_at "mmi") => `(tactic| repeat (walk_at "mi"))
set_option maxHeartbeats 4000000

structure T1 (T : Tp) : Prop where
  p : T.p = V1
  loose : T.loose = loose1
theorem Frm.pg1 {X : Fx} {T : Tp} {d : DefRec} {s₀ : Shared} {B₀ : FMap} (F : Frm X T s₀ B₀ d) (h : T1 T) : Pg X V1 loose1 := ⟨F.pg.p.trans h.p, F.pg.loose.trans h.loose⟩

def names1 : List Str := ["len", "isinstance", "chr", "divmod", "abs", "repr", "ascii", "str", "dict", "list", "tuple", "bool", "int", "zip", "range", "ValueError", "max", "format", "enumerate", "set", "IndexError", "KeyError", "TypeError"]
theorem free1_all : ∀ n ∈ names1, n ∉ startupNames ∧ n ∉ loose1 ∧ n ∉ (recsOf V1).map (·.name) ∧ n ∉ (litsOf V1).map (·.1) ∧ n ∉ (clssOf V1 loose1).map (·.name) := by decide +kernel
theorem Pg.free {X : Fx} {B : FMap} {O : Owns} {l : Locs} {s : Shared} (G : Pg X V1 loose1) (H : St X B O l s) {n : Str} (hn : n ∈ names1) : X.mg n = none := by
  obtain ⟨h1, h2, h3, h4, h5⟩ := free1_all n hn
  exact H.top.free n h1 (by rw [G.loose]; exact h2) (by rw [G.p]; exact h3) (by rw [G.p]; exact h4) (by rw [G.p, G.loose]; exact h5)

theorem find1 {n : Str} (h : ((recsOf V1).find? fun r => r.name == n).isSome = true) : (recsOf V1).find? (fun r => r.name == n) = some (recOf V1 n) := by
  unfold recOf
  cases hq : (recsOf V1).find? fun r => r.name == n with
  | none => rw [hq] at h; cases h
  | some r => rfl
noncomputable abbrev dText := recOf V1 (Str.ofString "_law_text")
theorem find_text : (recsOf V1).find? (fun r => r.name == n__law_text) = some dText := find1 (by decide +kernel)
noncomputable abbrev dWord := recOf V1 (Str.ofString "_law_word")
theorem find_word : (recsOf V1).find? (fun r => r.name == n__law_word) = some dWord := find1 (by decide +kernel)
noncomputable abbrev dDrawn := recOf V1 (Str.ofString "_law_drawn")
theorem find_drawn : (recsOf V1).find? (fun r => r.name == n__law_drawn) = some dDrawn := find1 (by decide +kernel)
noncomputable abbrev dFields := recOf V1 (Str.ofString "_law_fields")
theorem find_fields : (recsOf V1).find? (fun r => r.name == n__law_fields) = some dFields := find1 (by decide +kernel)
noncomputable abbrev dFound := recOf V1 (Str.ofString "_law_found")
theorem find_found : (recsOf V1).find? (fun r => r.name == n__law_found) = some dFound := find1 (by decide +kernel)
noncomputable abbrev dCells := recOf V1 (Str.ofString "_law_cells")
theorem find_cells : (recsOf V1).find? (fun r => r.name == n__law_cells) = some dCells := find1 (by decide +kernel)
def fills5 : List Nat := [32, 46, 42, 233, 60]
-- part M2b
open PySem PySem.Spec PySem.Calls PyProof.Rows PySem.W
set_option maxRecDepth 100000
set_option maxHeartbeats 4000000
def textPost (r : List Nat) (p : Nat) (B : FMap) (v : Value) : Prop := ∃ x t u, v = .ref x ∧ B x = some { cls := .type "tuple", data := .seq #[.str (S r) t, .int (p : Int) u] }

theorem valueAt_size {e : Nat} {t1 t2 t3 t0 : Tok} : ∃ t, (valueAt [(S [120], Value.int 2 t1), (S [117], Value.int 4 t2), (S [85], Value.int 8 t3)] (S [e])).getD (Value.int 0 t0) = Value.int ((sizeOf e : Nat) : Int) t := by
  simp only [valueAt_cons, valueAt_nil, S_inj, List.cons.injEq, and_true]
  unfold sizeOf
  by_cases h1 : e = 120
  · subst h1; exact ⟨_, rfl⟩
  · by_cases h2 : e = 117
    · subst h2; exact ⟨_, rfl⟩
    · by_cases h3 : e = 85
      · subst h3; exact ⟨_, rfl⟩
      · rw [if_neg (Ne.symm h1), if_neg (Ne.symm h2), if_neg (Ne.symm h3), if_neg h1, if_neg h2, if_neg h3]; exact ⟨_, rfl⟩

theorem valueAt_short {q e d : Nat} {t1 t2 t3 t4 t5 : Tok} (h : shortOf q e = some d) : ∃ t, valueAt [(S [110], Value.str (S [10]) t1), (S [114], Value.str (S [13]) t2), (S [116], Value.str (S [9]) t3), (S [92], Value.str (S [92]) t4), (S [q], Value.str (S [q]) t5)] (S [e]) = some (Value.str (S [d]) t) := by
  simp only [valueAt_cons, valueAt_nil, S_inj, List.cons.injEq, and_true]
  unfold shortOf at h
  by_cases h1 : e = 110
  · subst h1; rw [if_pos rfl] at h; cases h; exact ⟨_, rfl⟩
  rw [if_neg h1] at h; rw [if_neg (Ne.symm h1)]
  by_cases h2 : e = 114
  · subst h2; rw [if_pos rfl] at h; cases h; exact ⟨_, rfl⟩
  rw [if_neg h2] at h; rw [if_neg (Ne.symm h2)]
  by_cases h3 : e = 116
  · subst h3; rw [if_pos rfl] at h; cases h; exact ⟨_, rfl⟩
  rw [if_neg h3] at h; rw [if_neg (Ne.symm h3)]
  by_cases h4 : e = 92
  · subst h4; rw [if_pos rfl] at h; cases h; exact ⟨_, rfl⟩
  rw [if_neg h4] at h; rw [if_neg (Ne.symm h4)]
  by_cases h5 : e = q
  · subst h5; rw [if_pos rfl] at h; cases h; rw [if_pos rfl]; exact ⟨_, rfl⟩
  rw [if_neg h5] at h; cases h
theorem sp_text {prog : Program} {w : World} {A : Around} {k : Nat} (R : Rm A (k + 1)) {T : Tp} (hT1 : T1 T) {s : Shared} {B : FMap} (hT : T.At s.heap) (hB : Fz B s.heap)
    {a : List Nat} {i q p' : Nat} {r' : List Nat} {ta ti : Tok} (hz : a.length ≤ 4194304) (hq : a[i]? = some q) (hq' : q = 39 ∨ q = 34) (hl : TL a q (i + 1) [] p' r') :
    Sp prog w dText A [.str (S a) ta, .int i ti] B s (textPost r' (p' + 1)) := by
  refine enter R hT hB (binds := [(n_page, .str (S a) ta), (n_place, .int i ti)]) [n_quote, n_short, n_read, n_sign, n_size, n_code, n_figure] (fun _ _ _ => rfl) (by simp only [List.map_cons, List.map_nil]; decide +kernel) (by simp only [List.map_cons, List.map_nil]; decide +kernel) rfl rfl rfl (by decide +kernel) ?_
  intro X A Q s F H R hret
  have G := F.pg1 hT1
  have hz' : a.length ≤ sizeLine := Nat.le_trans hz (by decide)
  simp only [List.map_cons, List.map_nil, List.cons_append, List.nil_append] at H
  walk_at "nm"
  walk_at "mm"
  with_reducible refine e_item H hq hz' ?_; clear H; intro t s H
  walk_at "mm"
  walk_at "dS"
  walk_at "mm"
  refine dict_end [(S [110], _), (S [114], _), (S [116], _), (S [92], _), (S [q], _)] H ⟨PySem.strKind_is _ _ _ _, rfl, PySem.strKind_is _ _ _ _, rfl, PySem.strKind_is _ _ _ _, rfl, PySem.strKind_is _ _ _ _, rfl, PySem.strKind_is _ _ _ _, rfl, trivial⟩ ?_; clear H; intro B₁ s hs₁ hD H
  rw [merged_nil (by rcases hq' with rfl | rfl <;> simp [S_inj])] at hD
  walk_at "mm"
  with_reducible refine x_while H (fun n B₂ O₂ l₂ => O₂ = [] ∧ ∃ p r tp tq tr v1 v2 v3 v4, l₂ = ([(n_page, some (Value.str (S a) ta)), (n_place, some (Value.int (p : Nat) tp)), (n_quote, some (Value.str (S [q]) tq)), (n_short, some (Value.ref d)), (n_read, some (Value.str (S r) tr)), (n_sign, v1), (n_size, v2), (n_code, v3), (n_figure, v4)] : Locs) ∧
    n + p = a.length ∧ r.length ≤ p ∧ TL a q p r p' r') (a.length - (i + 1)) ?_ ?_
  · have := hl.lt
    exact ⟨rfl, i + 1, [], _, _, _, _, _, _, _, rfl, by omega, by simp, hl⟩
  clear H
  rintro bd hbd n B₂ O₂ l₂ s Qe hend hs₂ ⟨rfl, p, r, tp, tq, tr, v1, v2, v3, v4, rfl, hn, hr, hT⟩ H
  replace hD := hD.sub hs₂
  have hzz : sizeLine = 16777216 := by decide
  have hp := hT.lt
  walk_at "mm"
  cases hT with
  | stop h =>
    with_reducible refine e_item H h hz' ?_; clear H; intro t s H
    walk_at "mm"
    refine ite_f (by simp) ?_
    walk_at "mm"
    have hz2 : ∀ x y : Value, [x, y].length ≤ sizeLine := fun _ _ => by simp; decide
    with_reducible refine e_tuple H (hz2 _ _) ?_; clear H; intro x B₃ s hs₃ hx H
    walk_at "mm"
    exact hret H ⟨_, _, _, rfl, hx⟩
  | plain c h h1 h2 h3 h4 hT' =>
    with_reducible refine e_item H h hz' ?_; clear H; intro t s H
    walk_at "mm"
    refine ite_t (by simp [h1]) ?_
    walk_at "mm"
    with_reducible refine e_item H h hz' ?_; clear H; intro t s H
    walk_at "mm"
    refine ite_f (by rw [beq1]; simpa using h2) ?_
    walk_at "mm"
    with_reducible refine i_cat H (by simp; omega) ?_; clear H; intro t s H
    walk_at "mm"
    exact hend (m := n - 1) (by omega) (Sub.refl _) ⟨rfl, p + 1, r ++ [c], _, _, _, _, _, _, _, rfl, by omega, by simp; omega, hT'⟩ H
  | esc e c c' h h1 hx hor hT' =>
    with_reducible refine e_item H h hz' ?_; clear H; intro t s H
    walk_at "mm"
    refine ite_t (by rw [bne1]; rcases hq' with rfl | rfl <;> rfl) ?_
    walk_at "mm"
    with_reducible refine e_item H h hz' ?_; clear H; intro t s H
    walk_at "mm"
    refine ite_t (by rfl) ?_
    walk_at "mm"
    walk_at "dS"
    walk_at "mm"
    refine dict_end [(S [120], _), (S [117], _), (S [85], _)] H ⟨PySem.strKind_is _ _ _ _, rfl, PySem.strKind_is _ _ _ _, rfl, PySem.strKind_is _ _ _ _, rfl, trivial⟩ ?_; clear H; intro B₃ s hs₃ hE H
    rw [merged_nil (by simp [S_inj])] at hE
    with_reducible refine m_dget H hE ?_
    walk_at "mm"
    with_reducible refine e_item H h1 hz' ?_; clear H; intro t s H
    walk_at "mm"
    with_reducible refine e_dget H hE (PySem.strKind_is _ _ _ _) ?_; clear H; intro s H
    obtain ⟨t', ht'⟩ := valueAt_size (e := e) (t1 := _) (t2 := _) (t3 := _) (t0 := _)
    rw [ht']; clear ht'
    walk_at "mm"
    with_reducible refine x_for ?_ (by intro _; with_unfolding_all rfl); intro bd hbd
    walk_at "mm"
    have h8 := sizeOf_le e
    with_reducible refine cut_end (p + 2) (p + 2 + sizeOf e) H hz' (by omega) (by omega) ?_; clear H; intro t s H
    rw [show p + 2 + sizeOf e - (p + 2) = sizeOf e by omega]
    generalize hds : (a.drop (p + 2)).take (sizeOf e) = ds at hx ⊢
    refine for_it (it_str R.handled H) (fun i B₄ O₄ l₄ => O₄ = [] ∧ ∃ cc tc v4, l₄ = ([(n_page, some (Value.str (S a) ta)), (n_place, some (Value.int (p + 1 : Nat) _)), (n_quote, some (Value.str (S [q]) tq)), (n_short, some (Value.ref _)), (n_read, some (Value.str (S r) tr)), (n_sign, some (Value.str (S [92]) _)), (n_size, some (Value.int (sizeOf e : Nat) t')), (n_code, some (Value.int (cc : Nat) tc)), (n_figure, v4)] : Locs) ∧ Hex (ds.drop i) cc c) ⟨rfl, 0, _, _, rfl, hx⟩ ?_ ?_
    · intro i v B₄ B₄' O₄ l₄ s₄ qi Qe hend hi hP hs₄ hJ hs₄' H; obtain ⟨ch, tch, hch, rfl⟩ := hP; refine a_name ?_
      obtain ⟨rfl, cc, tc, v4, rfl, hH⟩ := hJ
      have hdr : ds.drop i = ch :: ds.drop (i + 1) := by
        obtain ⟨hl, he⟩ := List.getElem?_eq_some_iff.mp hch
        rw [List.drop_eq_getElem_cons hl, he]
      rw [hdr] at hH
      cases hH with
      | cons v hv hH =>
        have hix := idx16 (show fig16[v]? = some ch from hv)
        unfold fig16 at hix
        walk_at "mm"
        with_reducible refine b_mul H (mulOk_l (by decide) (by decide)) ?_; clear H; intro t s H
        walk_at "mm"
        with_reducible refine e_index H hix ?_; clear H; intro t s H
        walk_at "mm"
        exact hend (Sub.refl _) ⟨rfl, 16 * cc + v, _, _, rfl, hH⟩ H
    · rintro B₄ O₄ l₄ s hs₄ ⟨rfl, cc, tc, v4, rfl, hH⟩ H
      rw [List.drop_length] at hH
      cases hH
      replace hD := (hD.sub hs₃).sub hs₄
      walk_at "mm"
      rcases hor with ⟨h0, hsh⟩ | ⟨h0, rfl, h2, h3, h4, h5, h6, h7⟩
      · refine ite_f (by rw [h0]; rfl) ?_
        walk_at "mm"
        with_reducible refine e_item H h1 hz' ?_; clear H; intro t s H
        walk_at "mm"
        obtain ⟨ts, hts⟩ := valueAt_short (t1 := _) (t2 := _) (t3 := _) (t4 := _) (t5 := _) hsh
        with_reducible refine e_ditem H hD (PySem.strKind_is _ _ _ _) hts ?_ (by with_unfolding_all rfl); clear H; intro s H
        walk_at "mm"
        with_reducible refine i_cat H (by simp; omega) ?_; clear H; intro t s H
        walk_at "mm"
        have hl' := hT'.lt
        exact hend (m := a.length - (p + 1 + (1 + sizeOf e))) (by omega) (hs₃.trans hs₄) ⟨rfl, p + 1 + (1 + sizeOf e), r ++ [c'], _, _, _, _, _, _, _, rfl, by omega, by simp; omega, by rw [show p + 1 + (1 + sizeOf e) = p + 2 + sizeOf e by omega]; exact hT'⟩ H
      · refine ite_t (by simp; omega) ?_
        walk_at "mm"
        with_reducible refine e_chr H rfl h2 ?_; clear H; intro t s H
        walk_at "mm"
        with_reducible refine i_cat H (by simp; omega) ?_; clear H; intro t s H
        walk_at "mm"
        have hl' := hT'.lt
        exact hend (m := a.length - (p + 1 + (1 + sizeOf e))) (by omega) (hs₃.trans hs₄) ⟨rfl, p + 1 + (1 + sizeOf e), r ++ [c'], _, _, _, _, _, _, _, rfl, by omega, by simp; omega, by rw [show p + 1 + (1 + sizeOf e) = p + 2 + sizeOf e by omega]; exact hT'⟩ H
-- part M2c
open PySem PySem.Spec PySem.Calls PyProof.Rows PySem.W
set_option maxRecDepth 100000
set_option maxHeartbeats 4000000
def stops2 : List Nat := [124, 32, 46, 42, 233, 60]
/-- the word from i on ends at e, ahead of a fill sign or the cell's end -/
structure W2 (a : List Nat) (i e : Nat) : Prop where
  le : i ≤ e
  mid : ∀ k, i ≤ k → k < e → ∃ c, a[k]? = some c ∧ c ∉ stops2
  fin : ∃ c, a[e]? = some c ∧ c ∈ stops2
def wordPost (d : PyData) (p : Nat) (B : FMap) (v : Value) : Prop := ∃ x u y, v = .ref x ∧ B x = some { cls := .type "tuple", data := .seq #[y, .int (p : Int) u] } ∧ Leaf y d
theorem valueAt_names (x : List Nat) {a b c : Value} : valueAt [(S [84, 114, 117, 101], a), (S [70, 97, 108, 115, 101], b), (S [78, 111, 110, 101], c)] (S x) =
    if x = [84, 114, 117, 101] then some a else if x = [70, 97, 108, 115, 101] then some b else if x = [78, 111, 110, 101] then some c else none := by
  simp only [valueAt_cons, valueAt_nil, S_inj, eq_comm (b := x)]
theorem allStr3 (a b c : Str) (t u v : Tok) : AllStr [.str a t, .str b u, .str c v] := fun x hx => by
  simp only [List.mem_cons, List.not_mem_nil, or_false] at hx
  rcases hx with rfl | rfl | rfl <;> exact ⟨_, _, rfl⟩
theorem sp_word {prog : Program} {w : World} {A : Around} {k : Nat} (R : Rm A (k + 1)) {T : Tp} (hT1 : T1 T) {s : Shared} {B : FMap} (hT : T.At s.heap) (hB : Fz B s.heap)
    {a : List Nat} {i e : Nat} {dt : PyData} {ta ti : Tok} (hz : a.length ≤ 4194304) (hw : W2 a i e) (hwi : WordIs ((a.drop i).take (e - i)) dt) :
    Sp prog w dWord A [.str (S a) ta, .int i ti] B s (wordPost dt e) := by
  refine enter R hT hB (binds := [(n_page, .str (S a) ta), (n_place, .int i ti)]) [n_end, n_word, n_number, n_figure] (fun _ _ _ => rfl) (by simp only [List.map_cons, List.map_nil]; decide +kernel) (by simp only [List.map_cons, List.map_nil]; decide +kernel) rfl rfl rfl (by decide +kernel) ?_
  intro X A Q s F H R hret
  have G := F.pg1 hT1
  have hz' : a.length ≤ sizeLine := Nat.le_trans hz (by decide)
  have hzz : sizeLine = 16777216 := by decide
  simp only [List.map_cons, List.map_nil, List.cons_append, List.nil_append] at H
  walk_at "nm"
  walk_at "mm"
  have hle := hw.le
  obtain ⟨ce, hce, hces⟩ := hw.fin
  have hlen : e < a.length := (List.getElem?_eq_some_iff.mp hce).1
  with_reducible refine x_while H (fun n B₂ O₂ l₂ => O₂ = [] ∧ ∃ p tp v1 v3 v5, l₂ = ([(n_page, some (Value.str (S a) ta)), (n_place, some (Value.int i ti)), (n_end, some (Value.int (p : Nat) tp)), (n_word, v1), (n_number, v3), (n_figure, v5)] : Locs) ∧
    n + p = e ∧ i ≤ p) (e - i) ?_ ?_
  · exact ⟨rfl, i, _, _, _, _, rfl, by omega, Nat.le_refl _⟩
  clear H
  rintro bd hbd n B₂ O₂ l₂ s Qe hend hs₂ ⟨rfl, p, tp, v1, v3, v5, rfl, hn, hip⟩ H
  walk_at "mm"
  by_cases hpe : p < e
  · obtain ⟨c, hc, hcs⟩ := hw.mid p hip hpe
    with_reducible refine e_item H hc hz' ?_; clear H; intro t s H
    walk_at "mm"
    refine ite_t (by
      simp only [stops2, List.mem_cons, List.not_mem_nil, or_false, not_or] at hcs
      obtain ⟨h1, h2, h3, h4, h5, h6⟩ := hcs
      simp [h1, h2, h3, h4, h5, h6]) ?_
    walk_at "mm"
    exact hend (m := n - 1) (by omega) (Sub.refl _) ⟨rfl, p + 1, _, _, _, _, rfl, by omega, by omega⟩ H
  have hpe' : p = e := by omega
  subst hpe'
  with_reducible refine e_item H hce hz' ?_; clear H; intro t s H
  walk_at "mm"
  refine ite_f (by
    simp only [stops2, List.mem_cons, List.not_mem_nil, or_false] at hces
    rcases hces with rfl | rfl | rfl | rfl | rfl | rfl <;> rfl) ?_
  walk_at "mm"
  with_reducible refine cut_end i p H hz' rfl rfl ?_; clear H; intro t s H
  generalize hwd : (a.drop i).take (p - i) = wd at hwi ⊢
  have hwl : wd.length ≤ 4194304 := by rw [← hwd]; simp; omega
  walk_at "mm"
  with_reducible refine e_listF H (by simp only [List.length_cons, List.length_nil]; omega) ?_; clear H; intro x₇ B₇ s hs₇ hx7 H
  with_reducible refine q_inL H hx7 (allStr3 _ _ _ _ _ _) ?_
  walk_at "mm"
  have hz2 : ∀ x y : Value, [x, y].length ≤ sizeLine := fun _ _ => by simp; decide
  cases hwi with
  | tt =>
    refine ite_t (by simp [strIs_str]) ?_
    walk_at "mm"
    walk_at "dS"
    walk_at "mm"
    refine dict_end [(S [84, 114, 117, 101], _), (S [70, 97, 108, 115, 101], _), (S [78, 111, 110, 101], _)] H ⟨PySem.strKind_is _ _ _ _, rfl, PySem.strKind_is _ _ _ _, rfl, PySem.strKind_is _ _ _ _, rfl, trivial⟩ ?_; clear H; intro B₄ s hs₄ hD H
    rw [merged_nil (by simp [S_inj])] at hD
    walk_at "mm"
    with_reducible refine e_ditem H hD (PySem.strKind_is _ _ _ _) (v := .bool true) (by rw [valueAt_names]; simp) ?_ (by with_unfolding_all rfl); clear H; intro s H
    walk_at "mm"
    with_reducible refine e_tuple H (hz2 _ _) ?_; clear H; intro x B₅ s hs₅ hx H
    walk_at "mm"
    exact hret H ⟨_, _, _, rfl, hx, .bool _⟩
  | ff =>
    refine ite_t (by simp [strIs_str]) ?_
    walk_at "mm"
    walk_at "dS"
    walk_at "mm"
    refine dict_end [(S [84, 114, 117, 101], _), (S [70, 97, 108, 115, 101], _), (S [78, 111, 110, 101], _)] H ⟨PySem.strKind_is _ _ _ _, rfl, PySem.strKind_is _ _ _ _, rfl, PySem.strKind_is _ _ _ _, rfl, trivial⟩ ?_; clear H; intro B₄ s hs₄ hD H
    rw [merged_nil (by simp [S_inj])] at hD
    walk_at "mm"
    with_reducible refine e_ditem H hD (PySem.strKind_is _ _ _ _) (v := .bool false) (by rw [valueAt_names]; simp) ?_ (by with_unfolding_all rfl); clear H; intro s H
    walk_at "mm"
    with_reducible refine e_tuple H (hz2 _ _) ?_; clear H; intro x B₅ s hs₅ hx H
    walk_at "mm"
    exact hret H ⟨_, _, _, rfl, hx, .bool _⟩
  | no =>
    refine ite_t (by simp [strIs_str]) ?_
    walk_at "mm"
    walk_at "dS"
    walk_at "mm"
    refine dict_end [(S [84, 114, 117, 101], _), (S [70, 97, 108, 115, 101], _), (S [78, 111, 110, 101], _)] H ⟨PySem.strKind_is _ _ _ _, rfl, PySem.strKind_is _ _ _ _, rfl, PySem.strKind_is _ _ _ _, rfl, trivial⟩ ?_; clear H; intro B₄ s hs₄ hD H
    rw [merged_nil (by simp [S_inj])] at hD
    walk_at "mm"
    with_reducible refine e_ditem H hD (PySem.strKind_is _ _ _ _) (v := .none) (by rw [valueAt_names]; simp) ?_ (by with_unfolding_all rfl); clear H; intro s H
    walk_at "mm"
    with_reducible refine e_tuple H (hz2 _ _) ?_; clear H; intro x B₅ s hs₅ hx H
    walk_at "mm"
    exact hret H ⟨_, _, _, rfl, hx, .none⟩
  | @num d1 ds nn hdec h0 =>
    have hf := hdec.fig
    have h84 : d1 ≠ 84 ∧ d1 ≠ 70 ∧ d1 ≠ 78 := by omega
    refine ite_f (by simp [strIs_str]; omega) ?_
    walk_at "mm"
    with_reducible refine x_for ?_ (by intro _; with_unfolding_all rfl); intro bd hbd
    walk_at "mm"
    with_reducible refine e_item H (i := 0) (c := d1) rfl (by omega) ?_; clear H; intro t s H
    walk_at "mm"
    refine ite_f (by rw [beq1]; simp; omega) ?_
    walk_at "mm"
    refine for_it (it_str R.handled H) (fun i' B₄ O₄ l₄ => O₄ = [] ∧ ∃ cc tc v5, l₄ = ([(n_page, some (Value.str (S a) ta)), (n_place, some (Value.int i ti)), (n_end, some (Value.int (p : Nat) tp)), (n_word, some (Value.str (S (d1 :: ds)) _)), (n_number, some (Value.int (cc : Nat) tc)), (n_figure, v5)] : Locs) ∧ Dec ((d1 :: ds).drop i') cc nn) ⟨rfl, 0, _, _, rfl, hdec⟩ ?_ ?_
    · intro i' v B₄ B₄' O₄ l₄ s₄ qi Qe hend hi hP hs₄ hJ hs₄' H; obtain ⟨ch, tch, hch, rfl⟩ := hP; refine a_name ?_
      obtain ⟨rfl, cc, tc, v5, rfl, hH⟩ := hJ
      have hdr : (d1 :: ds).drop i' = ch :: (d1 :: ds).drop (i' + 1) := by
        obtain ⟨hl, he⟩ := List.getElem?_eq_some_iff.mp hch
        rw [List.drop_eq_getElem_cons hl, he]
      rw [hdr] at hH
      cases hH with
      | cons v hv hH =>
        have hix := idx10 (show fig10[v]? = some ch from hv)
        unfold fig10 at hix
        walk_at "mm"
        with_reducible refine b_mul H (mulOk_l (by decide) (by decide)) ?_; clear H; intro t s H
        walk_at "mm"
        with_reducible refine e_index H hix ?_; clear H; intro t s H
        walk_at "mm"
        exact hend (Sub.refl _) ⟨rfl, 10 * cc + v, _, _, rfl, hH⟩ H
    · rintro B₅ O₄ l₄ s hs₅ ⟨rfl, cc, tc, v5, rfl, hH⟩ H
      rw [List.drop_length] at hH
      cases hH
      walk_at "mm"
      with_reducible refine e_item H (i := 0) (c := d1) rfl (by omega) ?_; clear H; intro t s H
      walk_at "mm"
      refine ite_f (by rw [beq1]; simp; omega) ?_
      walk_at "mm"
      with_reducible refine e_tuple H (hz2 _ _) ?_; clear H; intro x B₆ s hs₆ hx H
      walk_at "mm"
      exact hret H ⟨_, _, _, rfl, hx, .int _ _⟩
  | @neg d1 ds nn hdec h0 =>
    have hf := hdec.fig
    refine ite_f (by simp [strIs_str]) ?_
    walk_at "mm"
    with_reducible refine x_for ?_ (by intro _; with_unfolding_all rfl); intro bd hbd
    walk_at "mm"
    with_reducible refine e_item H (i := 0) (c := 45) rfl (by simp at hwl ⊢; omega) ?_; clear H; intro t s H
    walk_at "mm"
    refine ite_t (by rw [beq1]; rfl) ?_
    walk_at "mm"
    with_reducible refine cut_lo 1 H (by omega) rfl ?_; clear H; intro t s H
    rw [show List.drop 1 (45 :: d1 :: ds) = d1 :: ds from rfl]
    walk_at "mm"
    refine for_it (it_str R.handled H) (fun i' B₄ O₄ l₄ => O₄ = [] ∧ ∃ cc tc v5, l₄ = ([(n_page, some (Value.str (S a) ta)), (n_place, some (Value.int i ti)), (n_end, some (Value.int (p : Nat) tp)), (n_word, some (Value.str (S (45 :: d1 :: ds)) _)), (n_number, some (Value.int (cc : Nat) tc)), (n_figure, v5)] : Locs) ∧ Dec ((d1 :: ds).drop i') cc nn) ⟨rfl, 0, _, _, rfl, hdec⟩ ?_ ?_
    · intro i' v B₄ B₄' O₄ l₄ s₄ qi Qe hend hi hP hs₄ hJ hs₄' H; obtain ⟨ch, tch, hch, rfl⟩ := hP; refine a_name ?_
      obtain ⟨rfl, cc, tc, v5, rfl, hH⟩ := hJ
      have hdr : (d1 :: ds).drop i' = ch :: (d1 :: ds).drop (i' + 1) := by
        obtain ⟨hl, he⟩ := List.getElem?_eq_some_iff.mp hch
        rw [List.drop_eq_getElem_cons hl, he]
      rw [hdr] at hH
      cases hH with
      | cons v hv hH =>
        have hix := idx10 (show fig10[v]? = some ch from hv)
        unfold fig10 at hix
        walk_at "mm"
        with_reducible refine b_mul H (mulOk_l (by decide) (by decide)) ?_; clear H; intro t s H
        walk_at "mm"
        with_reducible refine e_index H hix ?_; clear H; intro t s H
        walk_at "mm"
        exact hend (Sub.refl _) ⟨rfl, 10 * cc + v, _, _, rfl, hH⟩ H
    · rintro B₅ O₄ l₄ s hs₅ ⟨rfl, cc, tc, v5, rfl, hH⟩ H
      rw [List.drop_length] at hH
      cases hH
      walk_at "mm"
      with_reducible refine e_item H (i := 0) (c := 45) rfl (by simp at hwl ⊢; omega) ?_; clear H; intro t s H
      walk_at "mm"
      refine ite_t (by rw [beq1]; rfl) ?_
      walk_at "mm"
      with_reducible refine e_tuple H (hz2 _ _) ?_; clear H; intro x B₆ s hs₆ hx H
      walk_at "mm"
      exact hret H ⟨_, _, _, rfl, hx, .int _ _⟩
-- part M2f
open PySem PySem.Spec PySem.Calls PyProof.Rows PySem.W
set_option maxRecDepth 100000
set_option maxHeartbeats 4000000
/-- what stands from begin on to e tells d -/
inductive Told (a : List Nat) (b e : Nat) : PyData → Prop
  | text {q p' r'} : a[b]? = some q → (q = 39 ∨ q = 34) → TL a q (b + 1) [] p' r' → e = p' + 1 → Told a b e (.str (S r'))
  | word {q d} : a[b]? = some q → q ≠ 39 → q ≠ 34 → q ∉ fills5 → W2 a b e → WordIs ((a.drop b).take (e - b)) d → Told a b e d
/-- a cell from pl on: the thing told stands from b to e, the cell ends at st -/
structure CellAt (a : List Nat) (pl b e st : Nat) (d : PyData) : Prop where
  le : pl ≤ b
  fill : ∀ k, pl ≤ k → k < b → ∃ c, a[k]? = some c ∧ c ∈ fills5
  told : Told a b e d
  le2 : e ≤ st
  stop : a[st]? = some 124
  free : ∀ k, e ≤ k → k < st → a[k]? ≠ some 124
structure CellR where
  pl : Nat
  b : Nat
  e : Nat
  st : Nat
  d : PyData
/-- the cells of a page from a place on -/
inductive PageAt (a : List Nat) : Nat → List CellR → Prop
  | nil : PageAt a a.length []
  | cons {c r} : CellAt a c.pl c.b c.e c.st c.d → c.b < c.e → PageAt a (c.st + 1) r → PageAt a c.pl (c :: r)
def isB : PyData → Bool
  | .bool _ => true
  | _ => false
/-- the tuple of a cell -/
def CellV (prog : Program) (w : World) (a : List Nat) (B : FMap) (v : Value) (c : CellR) : Prop := ∃ x y t1 t2 t3, v = .ref x ∧ B x = some { cls := .type "tuple", data := .seq #[.ref y, .int ((c.b - c.pl : Nat) : Int) t1, .int ((c.e - c.b : Nat) : Int) t2, .str (S ((a.drop c.pl).take (c.st - c.pl))) t3] } ∧
  Rd prog w B (.ref y) (.list [.bool (isB c.d), c.d])
inductive CellVs (prog : Program) (w : World) (a : List Nat) (B : FMap) : List Value → List CellR → Prop
  | nil : CellVs prog w a B [] []
  | snoc {v vs c cs} : CellVs prog w a B vs cs → CellV prog w a B v c → CellVs prog w a B (vs ++ [v]) (cs ++ [c])
theorem CellV.sub {prog : Program} {w : World} {a : List Nat} {B B' : FMap} {v : Value} {c : CellR} (hs : Sub B B') (h : CellV prog w a B v c) : CellV prog w a B' v c :=
  let ⟨x, y, t1, t2, t3, h1, h2, h3⟩ := h; ⟨x, y, t1, t2, t3, h1, hs _ _ h2, h3.sub hs⟩
theorem CellVs.sub {prog : Program} {w : World} {a : List Nat} {B B' : FMap} {vs : List Value} {cs : List CellR} (hs : Sub B B') (h : CellVs prog w a B vs cs) : CellVs prog w a B' vs cs := by
  induction h with
  | nil => exact .nil
  | snoc _ h2 ih => exact .snoc ih (h2.sub hs)
theorem fills_in {c : Nat} (h : c ∈ fills5) : decide (c ∈ [32, 46, 42, 233, 60]) = true := decide_eq_true h
theorem fills_out {c : Nat} (h : c ∉ fills5) : decide (c ∈ [32, 46, 42, 233, 60]) = false := decide_eq_false h
theorem Told.first {a : List Nat} {b e : Nat} {d : PyData} (h : Told a b e d) : ∃ q, a[b]? = some q ∧ q ∉ fills5 := by
  cases h with
  | @text q p' r' h1 h2 h3 h4 => exact ⟨_, h1, by rcases h2 with rfl | rfl <;> decide⟩
  | word h1 h2 h3 h4 => exact ⟨_, h1, h4⟩
theorem Leaf.rd {prog : Program} {w : World} {B : FMap} {y : Value} {d : PyData} (h : Leaf y d) : Rd prog w B y d := by
  cases h with
  | none => exact .none
  | bool b => exact .bool b
  | int i t => exact .int i t
theorem sp_cells {prog : Program} {w : World} {A : Around} {k : Nat} (R : Rm A (k + 2)) {T : Tp} (hT1 : T1 T) {s : Shared} {B : FMap} (hT : T.At s.heap) (hB : Fz B s.heap) {a : List Nat} {ta : Tok} {cs : List CellR} (hz : a.length ≤ 4194304) (hp : PageAt a 0 cs) :
    Sp prog w dCells A [.str (S a) ta] B s (fun B' v => ∃ x vs n, v = .ref x ∧ B' x = some { cls := .type "list", data := .seq vs.toArray n } ∧ CellVs prog w a B' vs cs) := by
  refine enter R hT hB (binds := [(n_page, .str (S a) ta)]) [n_cells, n_place, n_begin, n_thing, n_end, n_stop] (fun _ _ _ => rfl) (by simp only [List.map_cons, List.map_nil]; decide +kernel) (by simp only [List.map_cons, List.map_nil]; decide +kernel) rfl rfl rfl (by decide +kernel) ?_
  intro X A Q s F H R hret
  have G := F.pg1 hT1
  have hTX : T1 X.T := F.T ▸ hT1
  have hz' : a.length ≤ sizeLine := Nat.le_trans hz (by decide)
  have hzz : sizeLine = 16777216 := by decide
  simp only [List.map_cons, List.map_nil, List.cons_append, List.nil_append] at H
  walk_at "nm"
  walk_at "mm"
  with_reducible refine e_listO H (by simp) ?_; clear H; intro C0 s H
  walk_at "mm"
  with_reducible refine x_while H (fun n B₂ O₂ l₂ => ∃ vs cs₁ cs₂ p tp v1 v2 v3 v4, O₂ = [(C0, LO vs)] ∧ l₂ = ([(n_page, some (Value.str (S a) ta)), (n_cells, some (Value.ref C0)), (n_place, some (Value.int (p : Nat) tp)), (n_begin, v1), (n_thing, v2), (n_end, v3), (n_stop, v4)] : Locs) ∧
    cs = cs₁ ++ cs₂ ∧ PageAt a p cs₂ ∧ CellVs prog w a B₂ vs cs₁ ∧ vs.length ≤ p ∧ n + p = a.length) a.length ?_ ?_
  · exact ⟨[], [], cs, 0, _, _, _, _, _, rfl, rfl, rfl, hp, .nil, Nat.le_refl _, rfl⟩
  clear H
  rintro bd hbd n B₂ O₂ l₂ s Qe hend hs₂ ⟨vs, cs₁, cs₂, p, tp, v1, v2, v3, v4, rfl, rfl, rfl, hpg, hvs, hvl, hn⟩ H
  walk_at "mm"
  refine e_len H hz' ?_; clear H; intro t s H
  walk_at "mm"
  cases hpg with
  | nil =>
    refine ite_f (by simp) ?_
    walk_at "mm"
    have hfr : ∃ B₁ o, Sub B₂ B₁ ∧ B₁ C0 = some o ∧ LO vs o ∧ ∃ O' l', St X B₁ O' l' s := by
      obtain ⟨B₁, o, h1, h2, h3, h4⟩ := H.freezeP (a := C0) (P := LO vs) (by walk_at "opop")
      exact ⟨B₁, o, h1, h2, h3, _, _, h4⟩
    obtain ⟨B₁, o, hs₉, htop, ⟨nq, rfl⟩, O', l', H⟩ := hfr
    exact hret H ⟨C0, vs, nq, rfl, htop, by rw [List.append_nil]; exact hvs.sub hs₉⟩
  | @cons c r hc hbe hpg =>
    have hst : c.st < a.length := (List.getElem?_eq_some_iff.mp hc.stop).1
    have h1 := hc.le; have h2 := hc.le2
    refine ite_t (by simp; omega) ?_
    walk_at "mm"
    with_reducible refine x_while H (fun m B₃ O₃ l₃ => ∃ q tq, O₃ = [(C0, LO vs)] ∧ l₃ = ([(n_page, some (Value.str (S a) ta)), (n_cells, some (Value.ref C0)), (n_place, some (Value.int (c.pl : Nat) tp)), (n_begin, some (Value.int (q : Nat) tq)), (n_thing, v2), (n_end, v3), (n_stop, v4)] : Locs) ∧ c.pl ≤ q ∧ m + q = c.b) (c.b - c.pl) ?_ ?_
    · exact ⟨c.pl, _, rfl, rfl, Nat.le_refl _, by omega⟩
    clear H
    rintro bd hbd m B₃ O₃ l₃ s Qe' hend' hs₃ ⟨q, tq, rfl, rfl, hq1, hq2⟩ H
    walk_at "mm"
    by_cases hqb : q < c.b
    · obtain ⟨cc, hcc, hcf⟩ := hc.fill q hq1 hqb
      with_reducible refine e_item H hcc hz' ?_; clear H; intro t s H
      walk_at "mm"
      rw [fills_in hcf]
      walk_at "mm"
      exact hend' (m := m - 1) (by omega) (Sub.refl _) ⟨q + 1, _, rfl, rfl, by omega, by omega⟩ H
    obtain rfl : q = c.b := by omega
    obtain ⟨q, hq, hqf⟩ := hc.told.first
    with_reducible refine e_item H hq hz' ?_; clear H; intro t s H
    walk_at "mm"
    rw [fills_out hqf]
    walk_at "mm"
    with_reducible refine e_item H hq hz' ?_; clear H; intro t s H
    walk_at "mm"
    refine ite_ejoin (fun v s' => ∃ x u y B', v = .ref x ∧ Sub B₃ B' ∧ B' x = some { cls := .type "tuple", data := .seq #[y, .int (c.e : Nat) u] } ∧ Rd prog w B' y c.d ∧ St X B' [(C0, LO vs)] ([(n_page, some (Value.str (S a) ta)), (n_cells, some (Value.ref C0)), (n_place, some (Value.int (c.pl : Nat) tp)), (n_begin, some (Value.int (c.b : Nat) tq)), (n_thing, v2), (n_end, v3), (n_stop, v4)] : Locs) s') ?_ ?_
    · intro Qj hQj
      generalize hcd : c.d = cd at hc ⊢
      cases hc.told with
      | @text q₂ p' r' g1 g2 g3 g4 =>
        obtain rfl : q₂ = q := by rw [hq] at g1; cases g1; rfl
        refine ite_t (by rcases g2 with rfl | rfl <;> rfl) ?_
        walk_at "mm"
        refine ⟨_, _, _, _, H, sp_text R hTX H.tp H.fzIn hz hq g2 g3, ?_⟩
        clear H; rintro v B₄ s hs₄ ⟨x, t, u, rfl, hx⟩ H
        exact hQj ⟨x, u, _, B₄, rfl, hs₄, by rw [g4]; exact hx, by rw [hcd]; exact .str _ _, H⟩
      | word g1 g2 g3 g4 g5 g6 =>
        refine ite_f (by rw [hq] at g1; cases g1; simp [g2, g3]) ?_
        walk_at "mm"
        refine ⟨_, _, _, _, H, sp_word R hTX H.tp H.fzIn hz g5 g6, ?_⟩
        clear H; rintro v B₄ s hs₄ ⟨x, u, y, rfl, hx, hy⟩ H
        exact hQj ⟨x, u, _, B₄, rfl, hs₄, hx, by rw [hcd]; exact hy.rd, H⟩
    clear H; rintro v₈ s ⟨x, u, y, B₄, rfl, hs₄, hx, hy, H⟩
    with_reducible refine a_two R.handled H hx ?_; clear H; intro s H
    walk_at "mm"
    with_reducible refine e_indexFrom H hc.stop h2 hc.free ?_; clear H; intro t s H
    walk_at "mm"
    refine e_isi .bool H hy ?_; clear H; intro s H
    walk_at "mm"
    with_reducible refine e_listF H (by simp; omega) ?_; clear H; intro y₁ B₅ s hs₅ hy1 H
    walk_at "mm"
    with_reducible refine cut_end c.pl c.st H hz' rfl rfl ?_; clear H; intro t s H
    walk_at "mm"
    rw [show ((c.b : Nat) : Int) - ((c.pl : Nat) : Int) = ((c.b - c.pl : Nat) : Int) by omega, show ((c.e : Nat) : Int) - ((c.b : Nat) : Int) = ((c.e - c.b : Nat) : Int) by omega]
    with_reducible refine e_tuple H (by simp only [List.length_cons, List.length_nil]; omega) ?_; clear H; intro x₁ B₆ s hs₆ hx1 H
    walk_at "mm"
    with_reducible refine' e_append H ?hp ?hz ?_; (case hp => walk_at "oput"); (case hz => omega); clear H; intro s H
    walk_at "mm"
    have hTd : Ty.bool.of c.d = isB c.d := by cases c.d <;> rfl
    have hrow : Rd prog w B₆ (.ref y₁) (.list [.bool (isB c.d), c.d]) := .list (hs₆ _ _ hy1) rfl rfl (.cons (by rw [hTd]; exact .bool _) (.cons ((hy.sub hs₅).sub hs₆) .nil))
    exact hend (m := a.length - (c.st + 1)) (by omega) (((hs₃.trans hs₄).trans hs₅).trans hs₆) ⟨vs ++ [.ref x₁], cs₁ ++ [c], r, c.st + 1, _, _, _, _, _, rfl, rfl, by simp, hpg, .snoc ((((hvs.sub hs₃).sub hs₄).sub hs₅).sub hs₆) ⟨x₁, y₁, _, _, _, rfl, hx1, hrow⟩, by simp; omega, by omega⟩ H
-- part M2d
open PySem PySem.Spec PySem.Calls PyProof.Rows PySem.W
set_option maxRecDepth 100000
set_option maxHeartbeats 4000000
/-- what _law_drawn draws -/
def Dr : PyData → Prop
  | .none => True
  | .bool _ => True
  | .int i => i.natAbs < 1000000000
  | .str x => (∀ c ∈ x.cps.toList, c < 1114112) ∧ x.cps.toList.length ≤ 6
  | _ => False
def signs16 : List Nat := [39, 34, 92, 10, 13, 9, 124, 233, 32, 97, 48, 127, 173, 46, 8232, 42]
theorem signs16_at {p : Nat} (h : p < 16) : ∃ c, signs16[p]? = some c ∧ c < 1114112 := by
  have key : ∀ p : Fin 16, ∃ c, signs16[p.val]? = some c ∧ c < 1114112 := by decide
  exact key ⟨p, h⟩
theorem sp_drawn {prog : Program} {w : World} {A : Around} {k : Nat} (R : Rm A (k + 1)) {T : Tp} (hT1 : T1 T) {s : Shared} {B : FMap} (hT : T.At s.heap) (hB : Fz B s.heap) {xi : Int} {xt : Tok} :
    Sp prog w dDrawn A [.int xi xt] B s (fun B' v => ∃ d, Rd prog w B' v d ∧ Dr d) := by
  refine enter R hT hB (binds := [(n_x, .int xi xt)]) [n_turn, n_kind, n_text, n_left, n_place, n_code] (fun _ _ _ => rfl) (by simp only [List.map_cons, List.map_nil]; decide +kernel) (by simp only [List.map_cons, List.map_nil]; decide +kernel) rfl rfl rfl (by decide +kernel) ?_
  intro X A Q s F H R hret
  have G := F.pg1 hT1
  have hzz : sizeLine = 16777216 := by decide
  simp only [List.map_cons, List.map_nil, List.cons_append, List.nil_append] at H
  walk_at "nm"
  walk_at "mm"
  refine e_divmod H (by decide) (PyProof.noPylong_of_log2 (by decide +kernel)) ?_; clear H; intro x₅ B₅ s t1 t2 hs₅ hx5 H
  with_reducible refine a_two R.handled H hx5 ?_; clear H; intro s H
  have hk0 : 0 ≤ xi % 6 := by omega
  have hk12 : xi % 6 < 6 := by omega
  generalize xi % 6 = kd at hk0 hk12 H ⊢
  generalize xi / 6 = tn at H ⊢
  walk_at "mm"
  refine ite_b (fun e1 => ?_) (fun e1 => ?_)
  · walk_at "mm"
    refine e_abs H ?_; clear H; intro t s H
    walk_at "mm"
    refine b_pow H (by decide) (by decide) (by decide) ?_; clear H; intro t s H
    rw [show (10 : Int) ^ (9 : Int).toNat = 1000000000 by decide +kernel]
    refine b_mod H (by decide) ?_; clear H; intro t s H
    have hm0 : 0 ≤ (tn.natAbs : Int) % 1000000000 := by omega
    have hm1 : (tn.natAbs : Int) % 1000000000 < 1000000000 := by omega
    generalize (tn.natAbs : Int) % 1000000000 = mm at hm0 hm1 ⊢
    walk_at "mm"
    refine ite_ejoin (fun v s' => ∃ sg t', v = Value.int sg t' ∧ (sg = 1 ∨ sg = -1) ∧ St X B₅ [] ([(n_x, some (.int xi xt)), (n_turn, some (.int tn t1)), (n_kind, some (.int kd t2)), (n_text, none), (n_left, none), (n_place, none), (n_code, none)] : Locs) s') ?_ ?_
    · intro Qj hQj
      refine ite_b (fun e3 => ?_) (fun e3 => ?_)
      · walk_at "mm"
        exact hQj ⟨-1, _, rfl, .inr rfl, H⟩
      · walk_at "mm"
        exact hQj ⟨1, _, rfl, .inl rfl, H⟩
    clear H; rintro v₈ s ⟨sg, t', rfl, hsg, H⟩
    refine b_mul H (mulOk_l (by omega) (by omega)) ?_; clear H; intro t s H
    walk_at "mm"
    exact hret H ⟨_, .int _ _, by rcases hsg with rfl | rfl <;> simp [Dr] <;> omega⟩
  walk_at "mm"
  refine ite_b (fun e2 => ?_) (fun e2 => ?_)
  · walk_at "mm"
    with_reducible refine e_listF H (by simp; omega) ?_; clear H; intro x₇ B₇ s hs₇ hx7 H
    walk_at "mm"
    refine b_mod H (by decide) ?_; clear H; intro t s H
    have hm0 : 0 ≤ tn % 3 := by omega
    have hm1 : tn % 3 < 3 := by omega
    generalize tn % 3 = mm at hm0 hm1 ⊢
    obtain ⟨v₈, d₈, hv8, hr8, hg8⟩ : ∃ v d, [Value.bool true, Value.bool false, Value.none][mm.toNat]? = some v ∧ Rd prog w B₇ v d ∧ Dr d := by
      rcases (by omega : mm = 0 ∨ mm = 1 ∨ mm = 2) with rfl | rfl | rfl
      · exact ⟨_, _, rfl, .bool _, by simp [Dr]⟩
      · exact ⟨_, _, rfl, .bool _, by simp [Dr]⟩
      · exact ⟨_, _, rfl, .none, by simp [Dr]⟩
    refine e_lat mm.toNat (IsLF H hx7 rfl rfl) hv8 (by simp; omega) ?_ (by omega)
    walk_at "mm"
    exact hret H ⟨_, hr8, hg8⟩
  walk_at "mm"
  refine e_abs H ?_; clear H; intro t s H
  walk_at "mm"
  refine b_pow H (by decide) (by decide) (by decide) ?_; clear H; intro t s H
  rw [show (16 : Int) ^ (5 : Int).toNat = 1048576 by decide +kernel]
  refine b_mod H (by decide) ?_; clear H; intro t s H
  have hm0 : 0 ≤ (tn.natAbs : Int) % 1048576 := by omega
  have hm1 : (tn.natAbs : Int) % 1048576 < 1048576 := by omega
  obtain ⟨mm, hmm⟩ := Int.eq_ofNat_of_zero_le hm0
  rw [hmm] at hm1 ⊢
  walk_at "mm"
  with_reducible refine x_while H (fun n B₂ O₂ l₂ => O₂ = [] ∧ ∃ r tr tl v1, l₂ = ([(n_x, some (.int xi xt)), (n_turn, some (.int tn t1)), (n_kind, some (.int kd t2)), (n_text, some (Value.str (S r) tr)), (n_left, some (Value.int (n : Nat) tl)), (n_place, v1), (n_code, none)] : Locs) ∧ (∀ c ∈ r, c < 1114112) ∧ r.length ≤ 5 ∧ n < 16 ^ (5 - r.length)) mm ?_ ?_
  · exact ⟨rfl, [], _, _, _, rfl, by simp, by simp, by simp; omega⟩
  clear H
  rintro bd hbd n B₂ O₂ l₂ s Qe hend hs₂ ⟨rfl, r, tr, tl, v1, rfl, hrc, hrl, hn⟩ H
  walk_at "mm"
  refine ite_b (fun e3 => ?_) (fun e3 => ?_)
  · walk_at "mm"
    refine e_divmod H (by decide) (PyProof.noPylong_of_log2 (by decide +kernel)) ?_; clear H; intro x₆ B₆ s t3 t4 hs₆ hx6 H
    with_reducible refine a_two R.handled H hx6 ?_; clear H; intro s H
    have hn0 : 0 < n := by simpa using e3
    rw [show ((n : Nat) : Int) / 16 = ((n / 16 : Nat) : Int) by omega, show ((n : Nat) : Int) % 16 = ((n % 16 : Nat) : Int) by omega]
    obtain ⟨c, hc, hc'⟩ := signs16_at (p := n % 16) (by omega)
    unfold signs16 at hc
    walk_at "mm"
    with_reducible refine e_item H hc (by decide) ?_ (by rfl); clear H; intro t s H
    have hr5 : r.length < 5 := by
      by_cases h : r.length = 5
      · rw [h] at hn; simp at hn; omega
      · omega
    have hn' : n / 16 < 16 ^ (5 - (r.length + 1)) := by
      have : 16 ^ (5 - r.length) = 16 ^ (5 - (r.length + 1)) * 16 := by rw [← Nat.pow_succ]; congr 1; omega
      rw [this] at hn
      exact Nat.div_lt_of_lt_mul (by rw [Nat.mul_comm]; exact hn)
    with_reducible refine i_cat H (by simp; omega) ?_; clear H; intro t s H
    walk_at "mm"
    exact hend (m := n / 16) (Nat.div_lt_self hn0 (by decide)) hs₆ ⟨rfl, r ++ [c], _, _, _, rfl, fun y hy => by rcases List.mem_append.mp hy with hy | hy; exact hrc y hy; rw [List.mem_singleton] at hy; omega, by simp; omega, by simpa using hn'⟩ H
  · walk_at "mm"
    refine b_mod H (by decide) ?_; clear H; intro t s H
    have hc0 : 0 ≤ (tn + 97) % 1112064 := by omega
    have hc1 : (tn + 97) % 1112064 < 1112064 := by omega
    generalize (tn + 97) % 1112064 = cc at hc0 hc1 H ⊢
    walk_at "mm"
    refine ite_b (fun e4 => ?_) (fun e4 => ?_)
    · walk_at "mm"
      refine ite_ejoin (fun v s' => ∃ nn t' tc, v = Value.int ((nn : Nat) : Int) t' ∧ nn < 1114112 ∧ St X B₂ [] ([(n_x, some (.int xi xt)), (n_turn, some (.int tn t1)), (n_kind, some (.int kd t2)), (n_text, some (Value.str (S r) tr)), (n_left, some (Value.int (n : Nat) tl)), (n_place, v1), (n_code, some (.int cc tc))] : Locs) s') ?_ ?_
      · intro Qj hQj
        refine ite_b (fun e2 => ?_) (fun e2 => ?_)
        · walk_at "mm"
          exact hQj ⟨cc.toNat, _, _, by rw [Int.toNat_of_nonneg hc0], by omega, H⟩
        · walk_at "mm"
          exact hQj ⟨(cc + 2048).toNat, _, _, by rw [Int.toNat_of_nonneg (by omega)], by omega, H⟩
      clear H; rintro v₈ s ⟨nn, t', tc, rfl, hnn, H⟩
      walk_at "mm"
      refine e_chr H rfl (by omega) ?_; clear H; intro t s H
      walk_at "mm"
      with_reducible refine b_cat H (by simp; omega) ?_; clear H; intro t s H
      walk_at "mm"
      exact hret H ⟨_, .str _ _, fun y hy => by (have hy : y ∈ r ++ [nn] := hy); rcases List.mem_append.mp hy with hy | hy; exact hrc y hy; rw [List.mem_singleton] at hy; omega, by show (r ++ [nn]).length ≤ 6; simp; omega⟩
    · walk_at "mm"
      exact hret H ⟨_, .str _ _, hrc, by show r.length ≤ 6; omega⟩
-- part M2e
open PySem PySem.Spec PySem.Calls PyProof.Rows PySem.W
set_option maxRecDepth 100000
set_option maxHeartbeats 4000000
/-- a key, and what it says -/
inductive FKey : Value → List Nat ⊕ Int → Prop
  | str (x t) : FKey (.str (S x) t) (.inl x)
  | int (i t) : FKey (.int i t) (.inr i)
  | bool (b : Bool) : FKey (.bool b) (.inr (if b then 1 else 0))
/-- what a key finds: a value, or no name (true), or no place (false) -/
def foundOf (vs : List Value) (kvs : List (Str × Value)) : List Nat ⊕ Int → Value ⊕ Bool
  | .inl x => match valueAt kvs (S x) with | some v => .inl v | none => .inr true
  | .inr i => match placeOf i vs.length with | some p => (match vs[p]? with | some v => .inl v | none => .inr false) | none => .inr false
def faultOf : Value ⊕ Bool → List Nat
  | .inl _ => []
  | .inr true => [75, 101, 121, 69, 114, 114, 111, 114]
  | .inr false => [73, 110, 100, 101, 120, 69, 114, 114, 111, 114]
def valOf' : Value ⊕ Bool → Value
  | .inl v => v
  | .inr _ => .none
section
variable {prog : Program} {w : World} {X : Fx} {B : FMap} {O : Owns} {l : Locs} {s : Shared} {A : Around} {E : Value → Shared → Prop} {Q : Value → Shared → Prop} {kv : Value} {i n : Int} {u : Tok}
theorem key_lt (hk : FKey kv (.inr i)) (h : Q (.bool (decide (i < n))) s) : wpAny (model prog w) A (compareOp .Lt kv (.int n u)) Q E s := by
  cases hk with
  | int i t => exact PyProof.Rows.lt_int h
  | bool b => exact lt_bool_int h
theorem key_add (H : St X B O l s) (hk : FKey kv (.inr i)) (h : ∀ t s', St X B O l s' → Q (.int (i + n) t) s') : wpAny (model prog w) A (binaryOp .Add kv (.int n u)) Q E s := by
  cases hk with
  | int i t => exact b_add H h
  | bool b => exact IntBool.add_bool_int (h _ _ H.tok)
end
theorem sp_found {prog : Program} {w : World} {A : Around} {k : Nat} (R : Rm A (k + 1)) {T : Tp} (hT1 : T1 T) {s : Shared} {B : FMap} (hT : T.At s.heap) (hB : Fz B s.heap) {kv : Value} {ky : List Nat ⊕ Int} {a d : Addr} {vs : List Value} {n : Nat} {kvs : List (Str × Value)}
    (hk : FKey kv ky) (hv : B a = some { cls := .type "list", data := .seq vs.toArray n }) (hvz : vs.length ≤ 1000000) (hd : BD (PySem.strKind prog w) B d kvs) :
    Sp prog w dFound A [kv, .ref a, .ref d] B s (fun B' v => ∃ x t, v = .ref x ∧ B' x = some { cls := .type "tuple", data := .seq #[.str (S (faultOf (foundOf vs kvs ky))) t, valOf' (foundOf vs kvs ky)] }) := by
  refine enter R hT hB (binds := [(n_key, kv), (n_things, .ref a), (n_names, .ref d)]) [n_place] (fun _ _ _ => rfl) (by simp only [List.map_cons, List.map_nil]; decide +kernel) (by simp only [List.map_cons, List.map_nil]; decide +kernel) rfl rfl rfl (by decide +kernel) ?_
  intro X A Q s F H R hret
  have G := F.pg1 hT1
  have hzz : sizeLine = 16777216 := by decide
  have hz2 : ∀ x y : Value, [x, y].length ≤ sizeLine := fun _ _ => by simp; decide
  simp only [List.map_cons, List.map_nil, List.cons_append, List.nil_append] at H
  walk_at "nm"
  walk_at "mm"
  have hrd : ∃ dk, Rd prog w B kv dk ∧ (∀ x, ky = .inl x → dk = .str (S x)) := by
    cases hk with
    | str x t => exact ⟨_, .str _ _, fun y e => by cases e; rfl⟩
    | int i t => exact ⟨_, .int _ _, fun y e => by cases e⟩
    | bool b => exact ⟨_, .bool _, fun y e => by cases e⟩
  obtain ⟨dk, hrd, hdk⟩ := hrd
  refine e_isi .str H hrd ?_; clear H; intro s H
  walk_at "mm"
  by_cases hs : ∃ x, ky = .inl x
  · obtain ⟨x, rfl⟩ := hs
    cases hk with
    | str x t =>
    obtain rfl := hdk x rfl
    refine ite_t (by rfl) ?_
    walk_at "mm"
    with_reducible refine e_din H hd (PySem.strKind_is _ _ _ _) ?_; clear H; intro s H
    walk_at "mm"
    cases hva : valueAt kvs (S x) with
    | some v =>
      refine ite_t (by rfl) ?_
      walk_at "mm"
      with_reducible refine e_ditem H hd (PySem.strKind_is _ _ _ _) hva ?_ (by with_unfolding_all rfl); clear H; intro s H
      walk_at "mm"
      with_reducible refine e_tuple H (hz2 _ _) ?_; clear H; intro x₁ B₁ s hs₁ hx H
      walk_at "mm"
      exact hret H ⟨_, _, rfl, by simp only [foundOf, hva]; exact hx⟩
    | none =>
      refine ite_f (by rfl) ?_
      walk_at "mm"
      with_reducible refine e_tuple H (hz2 _ _) ?_; clear H; intro x₁ B₁ s hs₁ hx H
      walk_at "mm"
      exact hret H ⟨_, _, rfl, by simp only [foundOf, hva]; exact hx⟩
  obtain ⟨i, rfl⟩ : ∃ i, ky = .inr i := by
    cases ky with
    | inl x => exact absurd ⟨x, rfl⟩ hs
    | inr i => exact ⟨i, rfl⟩
  refine ite_f (by cases hk <;> cases hrd <;> rfl) ?_
  walk_at "mm"
  refine key_lt hk ?_
  walk_at "mm"
  refine ite_ejoin (fun v s' => ∃ t', v = Value.int (if i < 0 then i + vs.length else i) t' ∧ St X B [] ([(n_key, some (kv)), (n_things, some (.ref a)), (n_names, some (.ref d)), (n_place, none)] : Locs) s') ?_ ?_
  · intro Qj hQj
    refine ite_b (fun e1 => ?_) (fun e1 => ?_)
    · walk_at "mm"
      refine e_lenL H (IsLF H hv rfl rfl) (by omega) ?_; clear H; intro t s H
      refine key_add H hk ?_; clear H; intro t s H
      exact hQj ⟨_, by rw [if_pos (by simpa using e1)], H⟩
    · walk_at "mm"
      refine key_add H hk ?_; clear H; intro t s H
      exact hQj ⟨_, by rw [if_neg (by simpa using e1), Int.add_zero], H⟩
  clear H; rintro v₈ s ⟨t', rfl, H⟩
  have hpl : placeOf i vs.length = if 0 ≤ (if i < 0 then i + (vs.length : Int) else i) ∧ (if i < 0 then i + (vs.length : Int) else i) < vs.length then some (if i < 0 then i + (vs.length : Int) else i).toNat else none := rfl
  generalize (if i < 0 then i + (vs.length : Int) else i) = p at hpl H ⊢
  walk_at "mm"
  refine ite_b (fun e1 => ?_) (fun e1 => ?_)
  · have e1 : 0 ≤ p := by simpa using e1
    walk_at "mm"
    refine e_lenL H (IsLF H hv rfl rfl) (by omega) ?_; clear H; intro t s H
    walk_at "mm"
    refine ite_b (fun e2 => ?_) (fun e2 => ?_)
    · have e2 : p < vs.length := by simpa using e2
      obtain ⟨j, rfl⟩ := Int.eq_ofNat_of_zero_le e1
      have hj : j < vs.length := by omega
      walk_at "mm"
      refine e_lat j (IsLF H hv rfl rfl) (List.getElem?_eq_getElem hj) (by omega) ?_ (by rfl)
      walk_at "mm"
      with_reducible refine e_tuple H (hz2 _ _) ?_; clear H; intro x₁ B₁ s hs₁ hx H
      walk_at "mm"
      exact hret H ⟨_, _, rfl, by simp only [foundOf, hpl]; rw [if_pos ⟨e1, e2⟩]; simp only [Int.toNat_natCast, List.getElem?_eq_getElem hj]; exact hx⟩
    · have e2 : ¬ p < vs.length := by simpa using e2
      walk_at "mm"
      with_reducible refine e_tuple H (hz2 _ _) ?_; clear H; intro x₁ B₁ s hs₁ hx H
      walk_at "mm"
      exact hret H ⟨_, _, rfl, by simp only [foundOf, hpl]; rw [if_neg (by omega)]; exact hx⟩
  · have e1 : ¬ 0 ≤ p := by simpa using e1
    walk_at "mm"
    with_reducible refine e_tuple H (hz2 _ _) ?_; clear H; intro x₁ B₁ s hs₁ hx H
    walk_at "mm"
    exact hret H ⟨_, _, rfl, by simp only [foundOf, hpl]; rw [if_neg (by omega)]; exact hx⟩
-- part M2g
open PySem PySem.Spec PySem.Calls PyProof.Rows PySem.W
set_option maxRecDepth 100000
set_option maxHeartbeats 4000000
/-- a field -/
structure FieldR where
  ky : List Nat ⊕ Int
  conv : Option Nat
  fill : Nat
  side : List Nat
  width : Nat
structure FieldR.Ok (f : FieldR) : Prop where
  place : ∀ i, f.ky = .inr i → i.natAbs ≤ 100
  name : ∀ x, f.ky = .inl x → x.length ≤ 3
  conv : f.conv = none ∨ f.conv = some 114 ∨ f.conv = some 97 ∨ f.conv = some 115
  fill : f.fill ∈ fills5
  side : f.side = [] ∨ f.side = [60] ∨ f.side = [62] ∨ f.side = [94]
  width : f.width ≤ 13
inductive ConvV : Value → Option Nat → Prop
  | none : ConvV .none none
  | some (c t) : ConvV (.str (S [c]) t) (some c)
def FieldV (B : FMap) (v : Value) (f : FieldR) : Prop := ∃ x kv cv t1 t2 t3, v = .ref x ∧ B x = some { cls := .type "tuple", data := .seq #[kv, cv, .str (S [f.fill]) t1, .str (S f.side) t2, .int (f.width : Int) t3] } ∧ FKey kv f.ky ∧ ConvV cv f.conv
theorem FieldV.sub {B B' : FMap} {v : Value} {f : FieldR} (hs : Sub B B') (h : FieldV B v f) : FieldV B' v f :=
  let ⟨x, kv, cv, t1, t2, t3, h1, h2, h3⟩ := h; ⟨x, kv, cv, t1, t2, t3, h1, hs _ _ h2, h3⟩
theorem names8 (m : Int) (h0 : 0 ≤ m) (h8 : m < 8) {t0 t1 t2 t3 t4 t5 t6 t7 : Tok} : ∃ (nm : List Nat) (tnm : Tok), [Value.str (S []) t0, .str (S [48]) t1, .str (S [97]) t2, .str (S [107, 101, 121]) t3, .str (S [120, 32, 121]) t4, .str (S [233]) t5, .str (S [49, 46, 53]) t6, .str (S [45, 49]) t7][m.toNat]? = some (.str (S nm) tnm) ∧ nm.length ≤ 3 := by
  rcases (by omega : m = 0 ∨ m = 1 ∨ m = 2 ∨ m = 3 ∨ m = 4 ∨ m = 5 ∨ m = 6 ∨ m = 7) with rfl | rfl | rfl | rfl | rfl | rfl | rfl | rfl <;> exact ⟨_, _, rfl, by decide⟩
theorem keys5 (m : Int) (h0 : 0 ≤ m) (h5 : m < 5) {a b d : Int} {c : Bool} {nm : List Nat} {t0 t1 t3 t4 : Tok} (ha : a.natAbs ≤ 100) (hb : b.natAbs ≤ 100) (hd : d.natAbs ≤ 100) (hn : nm.length ≤ 3) :
    ∃ kv ky, [Value.int a t0, .int b t1, .bool c, .str (S nm) t3, .int d t4][m.toNat]? = some kv ∧ FKey kv ky ∧ (∀ i, ky = .inr i → i.natAbs ≤ 100) ∧ ∀ x, ky = .inl x → x.length ≤ 3 := by
  rcases (by omega : m = 0 ∨ m = 1 ∨ m = 2 ∨ m = 3 ∨ m = 4) with rfl | rfl | rfl | rfl | rfl
  · exact ⟨_, _, rfl, .int _ _, fun i e => by cases e; exact ha, fun x e => by cases e⟩
  · exact ⟨_, _, rfl, .int _ _, fun i e => by cases e; exact hb, fun x e => by cases e⟩
  · exact ⟨_, _, rfl, .bool _, fun i e => by cases e; cases c <;> decide, fun x e => by cases e⟩
  · exact ⟨_, _, rfl, .str _ _, fun i e => (by cases e), fun x e => by cases e; exact hn⟩
  · exact ⟨_, _, rfl, .int _ _, fun i e => by cases e; exact hd, fun x e => by cases e⟩
theorem ways4 (m : Int) (h0 : 0 ≤ m) (h4 : m < 4) {t1 t2 t3 : Tok} : ∃ cv c, [Value.none, .str (S [114]) t1, .str (S [97]) t2, .str (S [115]) t3][m.toNat]? = some cv ∧ ConvV cv c ∧ (c = none ∨ c = some 114 ∨ c = some 97 ∨ c = some 115) := by
  rcases (by omega : m = 0 ∨ m = 1 ∨ m = 2 ∨ m = 3) with rfl | rfl | rfl | rfl
  · exact ⟨_, _, rfl, .none, .inl rfl⟩
  · exact ⟨_, _, rfl, .some _ _, .inr (.inl rfl)⟩
  · exact ⟨_, _, rfl, .some _ _, .inr (.inr (.inl rfl))⟩
  · exact ⟨_, _, rfl, .some _ _, .inr (.inr (.inr rfl))⟩
theorem sides4 (m : Int) (h0 : 0 ≤ m) (h4 : m < 4) {t0 t1 t2 t3 : Tok} : ∃ (sd : List Nat) (t : Tok), [Value.str (S []) t0, .str (S [60]) t1, .str (S [62]) t2, .str (S [94]) t3][m.toNat]? = some (.str (S sd) t) ∧ (sd = [] ∨ sd = [60] ∨ sd = [62] ∨ sd = [94]) := by
  rcases (by omega : m = 0 ∨ m = 1 ∨ m = 2 ∨ m = 3) with rfl | rfl | rfl | rfl <;> exact ⟨_, _, rfl, by simp⟩
theorem fill_at (m : Int) (h0 : 0 ≤ m) (h5 : m < 5) : ∃ c, [32, 46, 42, 233, 60][m.toNat]? = some c ∧ c ∈ fills5 := by
  rcases (by omega : m = 0 ∨ m = 1 ∨ m = 2 ∨ m = 3 ∨ m = 4) with rfl | rfl | rfl | rfl | rfl <;> exact ⟨_, rfl, by decide⟩
theorem sp_fields {prog : Program} {w : World} {A : Around} {k : Nat} (R : Rm A (k + 1)) {T : Tp} (hT1 : T1 T) {s : Shared} {B : FMap} (hT : T.At s.heap) (hB : Fz B s.heap) {a : Addr} {vs : List Value} {n : Nat}
    (hv : B a = some { cls := .type "list", data := .seq vs.toArray n }) (hints : ∀ v ∈ vs, ∃ i t, v = Value.int i t) (h1 : 1 ≤ vs.length) (h29 : vs.length ≤ 29) :
    Sp prog w dFields A [.ref a] B s (fun B' v => ∃ (x : Addr) (us : List Value) (m : Nat), v = .ref x ∧ B' x = some { cls := .type "list", data := .seq us.toArray m } ∧ us.length ≤ 29 ∧ ∀ u ∈ us, ∃ f, FieldV B' u f ∧ f.Ok) := by
  refine enter R hT hB (binds := [(n_row, .ref a)]) [n_size, n_fields, n_k, n_turn, n_kind, n_name, n_key, n_further, n_width, n_side, n_way] (fun _ _ _ => rfl) (by simp only [List.map_cons, List.map_nil]; decide +kernel) (by simp only [List.map_cons, List.map_nil]; decide +kernel) rfl rfl rfl (by decide +kernel) ?_
  intro X A Q s F H R hret
  have G := F.pg1 hT1
  have hzz : sizeLine = 16777216 := by decide
  simp only [List.map_cons, List.map_nil, List.cons_append, List.nil_append] at H
  walk_at "nm"
  walk_at "mm"
  refine e_lenL H (IsLF H hv rfl rfl) (by omega) ?_; clear H; intro t s H
  walk_at "mm"
  with_reducible refine e_listO H (by simp) ?_; clear H; intro F0 s H
  walk_at "mm"
  with_reducible refine x_for ?_ (by intro _; with_unfolding_all rfl); intro bd hbd
  walk_at "mm"
  with_reducible refine e_range1 H ?_; clear H; intro r tr vr B₁ s hs₁ hr H
  obtain ⟨hrs, hrn⟩ := range_small (n := vs.length) (c := 1) (by omega) (.inl rfl)
  rw [show (vs.length + 1 - 1) / 1 = vs.length by simp] at hrn
  replace hv := hs₁ _ _ hv
  refine for_it (it_range R.handled takes_name H hr hrs hrn) (fun i B' O' l' => ∃ us v1 v2 v3 v4 v5 v6 v7 v8 v9, O' = [(F0, LO us)] ∧ l' = ([(n_row, some (.ref a)), (n_size, some (.int (vs.length : Nat) t)), (n_fields, some (.ref F0)), (n_k, v1), (n_turn, v2), (n_kind, v3), (n_name, v4), (n_key, v5), (n_further, v6), (n_width, v7), (n_side, v8), (n_way, v9)] : Locs) ∧
    us.length ≤ i ∧ ∀ u ∈ us, ∃ f, FieldV B' u f ∧ f.Ok) ?_ ?_ ?_
  · exact ⟨[], _, _, _, _, _, _, _, _, _, rfl, rfl, Nat.le_refl _, by simp⟩
  · rintro i v B₂ B₃ O₁ l₁ s q Qe hend hi ⟨tk, rfl⟩ hs₂ ⟨us, v1, v2, v3, v4, v5, v6, v7, v8, v9, rfl, rfl, hul, hus⟩ hs₃ H
    replace hv := hs₃ _ _ (hs₂ _ _ hv)
    replace hus : ∀ u ∈ us, ∃ f, FieldV B₃ u f ∧ f.Ok := fun u hu => let ⟨f, h1, h2⟩ := hus u hu; ⟨f, h1.sub hs₃, h2⟩
    rw [show (0 : Int) + (i : Int) * 1 = (i : Int) by omega]
    obtain ⟨xi, xt, hxi⟩ : ∃ xi xt, vs[i]? = some (Value.int xi xt) := by
      obtain ⟨x, t, e⟩ := hints vs[i] (List.getElem_mem hi)
      exact ⟨x, t, by rw [List.getElem?_eq_getElem hi, e]⟩
    walk_at "mm"
    refine e_lat i (IsLF H hv rfl rfl) hxi (by omega) ?_ (by rfl)
    walk_at "mm"
    refine e_divmod H (by decide) (PyProof.noPylong_of_log2 (by decide +kernel)) ?_; clear H; intro x₅ B₅ s t1 t2 hs₅ hx5 H
    with_reducible refine a_two R.handled H hx5 ?_; clear H; intro s H
    have hk0 : 0 ≤ xi % 5 := by omega
    have hk5 : xi % 5 < 5 := by omega
    generalize xi % 5 = kd at hk0 hk5 H ⊢
    generalize xi / 5 = tn at H ⊢
    walk_at "mm"
    with_reducible refine e_listF H (by simp; omega) ?_; clear H; intro x₆ B₆ s hs₆ hx6 H
    walk_at "mm"
    refine b_mod H (by decide) ?_; clear H; intro tm s H
    have hm0 : 0 ≤ tn % 8 := by omega
    have hm1 : tn % 8 < 8 := by omega
    generalize tn % 8 = mm at hm0 hm1 ⊢
    obtain ⟨nm, tnm, hnm, hnl⟩ := names8 mm hm0 hm1 (t0 := _) (t1 := _) (t2 := _) (t3 := _) (t4 := _) (t5 := _) (t6 := _) (t7 := _)
    refine e_lat mm.toNat (IsLF H hx6 rfl rfl) hnm (by simp; omega) ?_ (by omega)
    walk_at "mm"
    refine b_mul H (mulOk_l (by decide) (by decide)) ?_; clear H; intro t s H
    walk_at "mm"
    refine b_mod H (by omega) ?_; clear H; intro t s H
    walk_at "mm"
    refine b_mod H (by omega) ?_; clear H; intro t s H
    walk_at "mm"
    refine b_mod H (by decide) ?_; clear H; intro t s H
    walk_at "mm"
    refine b_mod H (by omega) ?_; clear H; intro t s H
    walk_at "mm"
    with_reducible refine e_listF H (by simp only [List.length_cons, List.length_nil]; omega) ?_; clear H; intro x₇ B₇ s hs₇ hx7 H
    walk_at "mm"
    have ha0 := Int.emod_nonneg tn (show (2 * (vs.length : Int) + 2) ≠ 0 by omega)
    have ha1 := Int.emod_lt_of_pos tn (show 0 < (2 * (vs.length : Int) + 2) by omega)
    have hb0 := Int.emod_nonneg tn (show (vs.length : Int) ≠ 0 by omega)
    have hb1 := Int.emod_lt_of_pos tn (show 0 < (vs.length : Int) by omega)
    obtain ⟨kv, ky, hkv, hky, hki, hkx⟩ := keys5 kd hk0 hk5 (a := tn % (2 * (vs.length : Int) + 2) - vs.length - 1) (b := tn % (vs.length : Int)) (c := tn % 2 == 0) (nm := nm) (d := -1 - tn % (vs.length : Int)) (t0 := _) (t1 := _) (t3 := _) (t4 := _) (by omega) (by omega) (by omega) hnl
    refine e_lat kd.toNat (IsLF H hx7 rfl rfl) hkv (by simp; omega) ?_ (by omega)
    walk_at "mm"
    obtain ⟨yi, yt, p, hp, hyi⟩ : ∃ yi yt p, placeOf ((i : Int) - 1) vs.length = some p ∧ vs[p]? = some (Value.int yi yt) := by
      have hpl : ∃ p, placeOf ((i : Int) - 1) vs.length = some p ∧ p < vs.length := by
        unfold placeOf
        by_cases h0 : i = 0
        · subst h0
          exact ⟨vs.length - 1, by simp; omega, by omega⟩
        · exact ⟨i - 1, by simp; omega, by omega⟩
      obtain ⟨p, hp, hpl⟩ := hpl
      obtain ⟨x, t, e⟩ := hints vs[p] (List.getElem_mem hpl)
      exact ⟨x, t, p, hp, by rw [List.getElem?_eq_getElem hpl, e]⟩
    refine e_latI (IsLF H (hs₇ _ _ (hs₆ _ _ (hs₅ _ _ hv))) rfl rfl) hp hyi (by omega) ?_
    walk_at "mm"
    refine e_divmod H (by decide) (PyProof.noPylong_of_log2 (by decide +kernel)) ?_; clear H; intro xa Ba s fat wdt hsBa hxa H
    with_reducible refine a_two R.handled H hxa ?_; clear H; intro s H
    have wd0 : 0 ≤ yi % 14 := by omega
    have wd1 : yi % 14 < 14 := by omega
    generalize yi % 14 = wd at wd0 wd1 H ⊢
    generalize yi / 14 = fa at H ⊢
    walk_at "mm"
    refine e_divmod H (by decide) (PyProof.noPylong_of_log2 (by decide +kernel)) ?_; clear H; intro xb Bb s fbt sdt hsBb hxb H
    with_reducible refine a_two R.handled H hxb ?_; clear H; intro s H
    have sd0 : 0 ≤ fa % 4 := by omega
    have sd1 : fa % 4 < 4 := by omega
    generalize fa % 4 = sd at sd0 sd1 H ⊢
    generalize fa / 4 = fb at H ⊢
    walk_at "mm"
    refine e_divmod H (by decide) (PyProof.noPylong_of_log2 (by decide +kernel)) ?_; clear H; intro xc Bc s fct wyt hsBc hxc H
    with_reducible refine a_two R.handled H hxc ?_; clear H; intro s H
    have wy0 : 0 ≤ fb % 4 := by omega
    have wy1 : fb % 4 < 4 := by omega
    generalize fb % 4 = wy at wy0 wy1 H ⊢
    generalize fb / 4 = fc at H ⊢
    walk_at "mm"
    with_reducible refine e_listF H (by simp only [List.length_cons, List.length_nil]; omega) ?_; clear H; intro x₈ B₈ s hs₈ hx8 H
    walk_at "mm"
    obtain ⟨cv, cc, hcv, hcc, hco⟩ := ways4 wy wy0 wy1 (t1 := _) (t2 := _) (t3 := _)
    refine e_lat wy.toNat (IsLF H hx8 rfl rfl) hcv (by simp; omega) ?_ (by omega)
    walk_at "mm"
    refine b_mod H (by decide) ?_; clear H; intro t s H
    have hf0 : 0 ≤ fc % 5 := by omega
    have hf1 : fc % 5 < 5 := by omega
    generalize fc % 5 = ff at hf0 hf1 ⊢
    obtain ⟨fl, hfl, hfl5⟩ := fill_at ff hf0 hf1
    with_reducible refine e_item H hfl (by decide) ?_ (by omega); clear H; intro t s H
    walk_at "mm"
    with_reducible refine e_listF H (by simp only [List.length_cons, List.length_nil]; omega) ?_; clear H; intro x₉ B₉ s hs₉ hx9 H
    walk_at "mm"
    obtain ⟨sd', tsd, hsd, hsdo⟩ := sides4 sd sd0 sd1 (t0 := _) (t1 := _) (t2 := _) (t3 := _)
    refine e_lat sd.toNat (IsLF H hx9 rfl rfl) hsd (by simp; omega) ?_ (by omega)
    walk_at "mm"
    with_reducible refine e_tuple H (by simp only [List.length_cons, List.length_nil]; omega) ?_; clear H; intro xt₁ B₁₀ s hs₁₀ hxt H
    walk_at "mm"
    with_reducible refine' e_append H ?hp ?hz ?_; (case hp => walk_at "oput"); (case hz => omega); clear H; intro s H
    walk_at "mm"
    obtain ⟨wn, rfl⟩ := Int.eq_ofNat_of_zero_le wd0
    have hsub : Sub B₃ B₁₀ := (((((((hs₅.trans hs₆).trans hs₇).trans hsBa).trans hsBb).trans hsBc).trans hs₈).trans hs₉).trans hs₁₀
    refine hend hsub ⟨us ++ [.ref xt₁], _, _, _, _, _, _, _, _, _, rfl, rfl, by simp; omega, fun u hu => ?_⟩ H
    rcases List.mem_append.mp hu with hu | hu
    · obtain ⟨f, g1, g2⟩ := hus u hu
      exact ⟨f, g1.sub hsub, g2⟩
    · rw [List.mem_singleton] at hu
      subst hu
      exact ⟨⟨ky, cc, fl, sd', wn⟩, ⟨xt₁, kv, cv, _, _, _, rfl, hxt, hky, hcc⟩, hki, hkx, hco, hfl5, hsdo, by show wn ≤ 13; omega⟩
  · rintro B₂ O₁ l₁ s hs₂ ⟨us, v1, v2, v3, v4, v5, v6, v7, v8, v9, rfl, rfl, hul, hus⟩ H
    walk_at "mm"
    have hfr : ∃ B₁ o, Sub B₂ B₁ ∧ B₁ F0 = some o ∧ LO us o ∧ ∃ O' l', St X B₁ O' l' s := by
      obtain ⟨B₁, o, h1, h2, h3, h4⟩ := H.freezeP (a := F0) (P := LO us) (by walk_at "opop")
      exact ⟨B₁, o, h1, h2, h3, _, _, h4⟩
    obtain ⟨B₁, o, hs₉, htop, ⟨nq, rfl⟩, O', l', H⟩ := hfr
    exact hret H ⟨F0, us, nq, rfl, htop, by omega, fun u hu => let ⟨f, g1, g2⟩ := hus u hu; ⟨f, g1.sub hs₉, g2⟩⟩
-- part M2h
open PySem PySem.Spec PySem.Calls PyProof.Rows PySem.W
set_option maxRecDepth 100000
noncomputable def fmtRec : ClsRec := ((dclssOf V1 []).find? (fun c => c.name == ("Formatter" : Str))).getD ⟨"", none, [], [], 0, []⟩
noncomputable def methOf (n : Str) : MethRec := (fmtRec.meths.find? (fun m => m.name == n)).getD ⟨"", ⟨[], [], none, [], [], none, []⟩, [], ⟨.function, [], false, false, []⟩⟩
noncomputable abbrev dConv : MethRec := methOf (Str.ofString "convert_field")
noncomputable abbrev dGet : MethRec := methOf (Str.ofString "get_value")
noncomputable abbrev dFmt : MethRec := methOf (Str.ofString "format_field")
noncomputable abbrev dChk : MethRec := methOf (Str.ofString "check_unused_args")
set_option maxHeartbeats 4000000
section
variable {prog : Program} {w : World} {A : Around} {k : Nat} {T : Tp} {s : Shared} {B : FMap}
/-- the ways that convert_field comes back -/
theorem sp_conv (R : Rm A (k + 2)) (hT1 : T1 T) (hT : T.At s.heap) (hB : Fz B s.heap) {self v cv : Value} {P : FMap → Value → Prop} {Pe : Value → Shared → Prop}
    {d : PyData} (hv : Rd prog w B v d) (hd : Said d) (hu : A.units + 110 < cLine)
    (hP : (cv = .none ∧ ∀ B', Sub B B' → P B' v) ∨ (∃ t, cv = .str (S [115]) t ∧ ∀ B' t, Sub B B' → P B' (.str (strOfD d) t)) ∨ (∃ t, cv = .str (S [114]) t ∧ ∀ B' t, Sub B B' → P B' (.str d.shown t)) ∨ (∃ t, cv = .str (S [97]) t ∧ ∀ B' t, Sub B B' → P B' (.str (asciiOf d.shown) t))) :
    SpR prog w (methRec fmtRec dConv) dConv.name A [self, v, cv] B s P Pe := by
  refine enterM R hT hB (binds := [(n_self, self), (n_value, v), (n_conversion, cv)]) [] (fun _ _ _ => rfl) (by simp only [List.map_cons, List.map_nil]; decide +kernel) (by simp only [List.map_cons, List.map_nil]; decide +kernel) rfl rfl rfl (by decide +kernel) ?_
  intro X Q E s F H R hret hraise
  have G := F.pg1 hT1
  have hTX : T1 X.T := F.T ▸ hT1
  have W : Wr (A.deeper X.env) d := hd.wr R.guards (by show A.units + 3 + 103 < cLine; omega)
  simp only [List.map_cons, List.map_nil, List.cons_append, List.nil_append] at H
  clear hraise
  walk_at "nm"
  walk_at "mm"
  rcases hP with ⟨rfl, hP⟩ | ⟨t, rfl, hP⟩ | ⟨t, rfl, hP⟩ | ⟨t, rfl, hP⟩
  · refine is_none_none ?_
    walk_at "mm"
    exact hret H (hP _ (Sub.refl _))
  · refine is_str_none ?_
    walk_at "mm"
    refine ite_t (by rfl) ?_
    walk_at "mm"
    with_reducible refine e_str H hv W ?_; clear H; intro t s H
    walk_at "mm"
    exact hret H (hP _ _ (Sub.refl _))
  · refine is_str_none ?_
    walk_at "mm"
    refine ite_f (by decide) ?_
    walk_at "mm"
    refine ite_t (by rfl) ?_
    walk_at "mm"
    with_reducible refine e_repr H hv W ?_; clear H; intro t s H
    walk_at "mm"
    exact hret H (hP _ _ (Sub.refl _))
  · refine is_str_none ?_
    walk_at "mm"
    refine ite_f (by decide) ?_
    walk_at "mm"
    refine ite_f (by decide) ?_
    walk_at "mm"
    refine ite_t (by rfl) ?_
    walk_at "mm"
    with_reducible refine e_ascii H hv W ?_; clear H; intro t s H
    walk_at "mm"
    exact hret H (hP _ _ (Sub.refl _))

/-- check_unused_args makes nothing -/
theorem sp_chk (R : Rm A (k + 1)) (hT1 : T1 T) (hT : T.At s.heap) (hB : Fz B s.heap) {self a b c : Value} {Pe : Value → Shared → Prop} :
    SpR prog w (methRec fmtRec dChk) dChk.name A [self, a, b, c] B s (fun _ v => v = .none) Pe := by
  refine enterMN R hT hB (binds := [(n_self, self), (n_used_args, a), (n_args, b), (n_kwargs, c)]) [] (fun _ _ _ => rfl) (by simp only [List.map_cons, List.map_nil]; decide +kernel) (by simp only [List.map_cons, List.map_nil]; decide +kernel) rfl rfl rfl (by decide +kernel) ?_
  intro X Q E s F H R hret hnext hraise
  have G := F.pg1 hT1
  simp only [List.map_cons, List.map_nil, List.cons_append, List.nil_append] at H
  (conv => arg 3; arg 1; whnf)
  walk_at "mm"
  exact hnext H rfl
theorem placeOf_in {j n : Nat} (h : j < n) : placeOf (j : Int) n = some j := by
  unfold placeOf
  dsimp only
  rw [if_neg (show ¬ ((j : Int) < 0) by omega), if_pos (by omega), Int.toNat_natCast]
theorem placeOf_out {j n : Nat} (h : n ≤ j) : placeOf (j : Int) n = none := by
  unfold placeOf
  dsimp only
  rw [if_neg (show ¬ ((j : Int) < 0) by omega), if_neg (by omega)]
/-- get_value finds what stands there, or is refused -/
theorem sp_get (R : Rm A (k + 1)) (hT1 : T1 T) (hT : T.At s.heap) (hB : Fz B s.heap) {self kv : Value} {ky : List Nat ⊕ Int} {a d : Addr} {vs : List Value} {n : Nat} {kvs : List (Str × Value)}
    (hk : FKey kv ky) (hki : ∀ i, ky = .inr i → i.natAbs ≤ 100) (hv : B a = some { cls := .type "list", data := .seq vs.toArray n }) (hvz : vs.length ≤ 1000000) (hd : BD (PySem.strKind prog w) B d kvs) {P : FMap → Value → Prop} {Pe : Value → Shared → Prop}
    {env : Env} {L : Addr} (hfr : A.frames = some [env]) (hke : env.scope.kind ≠ .module) (hL : env.frame = some L) (hN : ∃ m, s.heap.Ns L m)
    (hP : ∀ B' v, Sub B B' → foundOf vs kvs ky = .inl v → P B' v) (hPe : ∀ s' e b, foundOf vs kvs ky = .inr b → FlownT (if b then "KeyError" else "IndexError") env L s s' e → Pe (.ref e) s') :
    SpR prog w (methRec fmtRec dGet) dGet.name A [self, kv, .ref a, .ref d] B s P Pe := by
  refine enterM R hT hB (binds := [(n_self, self), (n_key, kv), (n_args, .ref a), (n_kwargs, .ref d)]) [] (fun _ _ _ => rfl) (by simp only [List.map_cons, List.map_nil]; decide +kernel) (by simp only [List.map_cons, List.map_nil]; decide +kernel) rfl rfl rfl (by decide +kernel) ?_
  intro X Q E s F H R hret hraise
  have G := F.pg1 hT1
  simp only [List.map_cons, List.map_nil, List.cons_append, List.nil_append] at H
  walk_at "nm"
  walk_at "mm"
  have hrd : ∃ dk, Rd prog w B kv dk ∧ Ty.int.of dk = (match ky with | .inl _ => false | .inr _ => true) := by
    cases hk with
    | str x t => exact ⟨_, .str _ _, rfl⟩
    | int i t => exact ⟨_, .int _ _, rfl⟩
    | bool b => exact ⟨_, .bool _, rfl⟩
  obtain ⟨dk, hrd, hty⟩ := hrd
  refine e_isi .int H hrd ?_; clear H; intro s H
  rw [hty]
  walk_at "mm"
  have gone : ∀ {s' e b}, foundOf vs kvs ky = .inr b → Heap.NewExc s.heap s'.heap e (if b then "KeyError" else "IndexError") → s'.gens = s.gens ∧ s'.os = s.os ∧ s'.drawn = s.drawn ∧ 0 < s'.toks → E (.ref e) s' := fun hb hn hs' =>
    hraise (leavesT H F.h0 F.gens F.os F.drawn F.frame (Around.frames_deeper hfr) hke hL hN hn hs' fun s₂ FL => hPe s₂ _ _ hb FL)
  cases hk with
  | str x t =>
    walk_at "mm"
    cases hva : valueAt kvs (S x) with
    | some v =>
      with_reducible refine e_ditem H hd (PySem.strKind_is _ _ _ _) hva ?_ (by with_unfolding_all rfl); clear H; intro s H
      walk_at "mm"
      exact hret H (hP _ _ (Sub.refl _) (by simp only [foundOf, hva]))
    | none =>
      refine tail_any (hd.at H).mapOf.typeIs slot_dict_getitem.lookup (wpAny_getItem_missing_of (PySem.strKind_is _ _ _ _) hd.1 R.handled (hd.at H).mapOf hva fun h' e hn => ?_) (by with_unfolding_all rfl)
      exact gone (b := true) (by simp only [foundOf, hva]) hn ⟨rfl, rfl, rfl, Nat.succ_pos _⟩
  | int i t =>
    walk_at "mm"
    cases hp : placeOf i vs.length with
    | some p =>
      have hpl : p < vs.length := by
        unfold placeOf at hp
        dsimp only at hp
        by_cases hc : 0 ≤ (if i < 0 then i + (vs.length : Int) else i) ∧ (if i < 0 then i + (vs.length : Int) else i) < vs.length
        · rw [if_pos hc] at hp; injection hp with hp; omega
        · rw [if_neg hc] at hp; cases hp
      refine e_latI (IsLF H hv rfl rfl) hp (List.getElem?_eq_getElem hpl) hvz ?_
      walk_at "mm"
      exact hret H (hP _ _ (Sub.refl _) (by simp only [foundOf, hp, List.getElem?_eq_getElem hpl]))
    | none =>
      have hi := hki i rfl
      have hout : i < -((vs.toArray.size : Nat) : Int) ∨ ((vs.toArray.size : Nat) : Int) ≤ i := by
        unfold placeOf at hp
        dsimp only at hp
        by_cases hc : 0 ≤ (if i < 0 then i + (vs.length : Int) else i) ∧ (if i < 0 then i + (vs.length : Int) else i) < vs.length
        · rw [if_pos hc] at hp; cases hp
        · simp only [List.size_toArray]; split at hc <;> omega
      refine any_toks (tail_any (IsLF H hv rfl rfl).typeIs slot_list_getitem.lookup (wpAny_getItem_list_out R.handled (IsLF H hv rfl rfl) hout (by omega) (by omega) fun h' tk e hn => ?_) (by with_unfolding_all rfl))
      intro hle
      exact gone (b := false) (by simp only [foundOf, hp]) hn ⟨rfl, rfl, rfl, Nat.lt_of_lt_of_le H.tk hle⟩
  | bool b =>
    walk_at "mm"
    have hpb : ∀ v, vs[if b then 1 else 0]? = some v → foundOf vs kvs (.inr (if b then 1 else 0)) = .inl v := fun v hvb => by
      have hlt := (List.getElem?_eq_some_iff.mp hvb).1
      have : placeOf (if b = true then 1 else 0) vs.length = some (if b then 1 else 0) := by
        rw [show (if b = true then (1 : Int) else 0) = ((if b then 1 else 0 : Nat) : Int) by cases b <;> rfl]; exact placeOf_in hlt
      simp only [foundOf, this, hvb]
    have hpn : vs[if b then 1 else 0]? = none → foundOf vs kvs (.inr (if b then 1 else 0)) = .inr false := fun hvb => by
      have hge := List.getElem?_eq_none_iff.mp hvb
      have : placeOf (if b = true then 1 else 0) vs.length = none := by
        rw [show (if b = true then (1 : Int) else 0) = ((if b then 1 else 0 : Nat) : Int) by cases b <;> rfl]; exact placeOf_out hge
      simp only [foundOf, this]
    refine any_toks (tail_any (IsLF H hv rfl rfl).typeIs slot_list_getitem.lookup (g_latB R.handled (IsLF H hv rfl rfl) (fun v hvb => ?_) (fun hvb h' tk e hn => ?_)) (by with_unfolding_all rfl))
    · intro _
      walk_at "mm"
      exact hret H (hP _ _ (Sub.refl _) (hpb v hvb))
    · intro hle
      exact gone (b := false) (hpn hvb) hn ⟨rfl, rfl, rfl, Nat.lt_of_lt_of_le H.tk hle⟩
end
-- part M2i
open PySem PySem.Spec PySem.Calls PyProof.Rows PySem.W
set_option maxRecDepth 100000
set_option maxHeartbeats 4000000
section
variable {prog : Program} {w : World} {A : Around} {k : Nat} {T : Tp} {s : Shared} {B : FMap}
/-- format_field of a text -/
theorem sp_fmtS (R : Rm A (k + 1)) (hT1 : T1 T) (hT : T.At s.heap) (hB : Fz B s.heap) {self : Value} {fill : Nat} {side : List Nat} {wd : Nat} {x : List Nat} {t u : Tok} {P : FMap → Value → Prop} {Pe : Value → Shared → Prop}
    (hs : side = [] ∨ side = [60] ∨ side = [62] ∨ side = [94]) (hw : wd ≤ 13) (hf : fill = 32 ∨ fill = 46 ∨ fill = 42 ∨ fill = 233 ∨ fill = 60) (hz : (padTx fill side wd false x).length ≤ sizeLine) (hP : ∀ B' t, Sub B B' → P B' (.str (S (padTx fill side wd false x)) t)) :
    SpR prog w (methRec fmtRec dFmt) dFmt.name A [self, .str (S x) t, .str (S (specOf fill side wd)) u] B s P Pe := by
  refine enterM R hT hB (binds := [(n_self, self), (n_value, .str (S x) t), (n_format_spec, .str (S (specOf fill side wd)) u)]) [] (fun _ _ _ => rfl) (by simp only [List.map_cons, List.map_nil]; decide +kernel) (by simp only [List.map_cons, List.map_nil]; decide +kernel) rfl rfl rfl (by decide +kernel) ?_
  intro X Q E s F H R hret hraise
  have G := F.pg1 hT1
  clear hraise
  simp only [List.map_cons, List.map_nil, List.cons_append, List.nil_append] at H
  walk_at "nm"
  walk_at "mm"
  with_reducible refine e_fmtS H hs hw hf hz ?_; clear H; intro t s H
  walk_at "mm"
  exact hret H (hP _ _ (Sub.refl _))
/-- format_field of a number -/
theorem sp_fmtI (R : Rm A (k + 1)) (hT1 : T1 T) (hT : T.At s.heap) (hB : Fz B s.heap) {self : Value} {fill : Nat} {side : List Nat} {wd : Nat} {i : Int} {t u : Tok} {P : FMap → Value → Prop} {Pe : Value → Shared → Prop}
    (hs : side = [] ∨ side = [60] ∨ side = [62] ∨ side = [94]) (hw : wd ≤ 13) (hlog : i.natAbs.log2 < 1920) (hz : (padTx fill side wd true (intText i)).length ≤ sizeLine) (hP : ∀ B' t, Sub B B' → P B' (.str (S (padTx fill side wd true (intText i))) t)) :
    SpR prog w (methRec fmtRec dFmt) dFmt.name A [self, .int i t, .str (S (specOf fill side wd)) u] B s P Pe := by
  refine enterM R hT hB (binds := [(n_self, self), (n_value, .int i t), (n_format_spec, .str (S (specOf fill side wd)) u)]) [] (fun _ _ _ => rfl) (by simp only [List.map_cons, List.map_nil]; decide +kernel) (by simp only [List.map_cons, List.map_nil]; decide +kernel) rfl rfl rfl (by decide +kernel) ?_
  intro X Q E s F H R hret hraise
  have G := F.pg1 hT1
  clear hraise
  simp only [List.map_cons, List.map_nil, List.cons_append, List.nil_append] at H
  walk_at "nm"
  walk_at "mm"
  with_reducible refine e_fmtI H hs hw hlog hz ?_; clear H; intro t s H
  walk_at "mm"
  exact hret H (hP _ _ (Sub.refl _))
end
-- part P13
open PySem
set_option maxRecDepth 100000
/-- what of x stands in a larger text is told as d -/
def Wrt (x : List Nat) (d : PyData) : Prop := 0 < x.length ∧ ∀ pre suf, (∃ c r, suf = c :: r ∧ c ∈ stops2) → Told (pre ++ (x ++ suf)) pre.length (pre.length + x.length) d
theorem w2_of {pre w suf : List Nat} (hw : ∀ c ∈ w, c ∉ stops2) (ht : ∃ c r, suf = c :: r ∧ c ∈ stops2) : W2 (pre ++ (w ++ suf)) pre.length (pre.length + w.length) where
  le := Nat.le_add_right _ _
  mid := fun k h1 h2 => by
    have hk : k - pre.length < w.length := by omega
    refine ⟨w[k - pre.length], ?_, hw _ (List.getElem_mem _)⟩
    rw [List.getElem?_append_right h1, List.getElem?_append_left hk, List.getElem?_eq_getElem hk]
  fin := by
    obtain ⟨c, r, rfl, hc⟩ := ht
    refine ⟨c, ?_, hc⟩
    rw [List.getElem?_append_right (by omega), show pre.length + w.length - pre.length = w.length by omega, List.getElem?_append_right (Nat.le_refl _)]; simp
theorem fills_stops {c : Nat} (h : c ∈ fills5) : c ∈ stops2 := by
  simp only [fills5, stops2, List.mem_cons, List.not_mem_nil, or_false] at h ⊢; omega
theorem wrt_word {w : List Nat} {d : PyData} {c : Nat} {r : List Nat} (e : w = c :: r) (h1 : c ≠ 39) (h2 : c ≠ 34) (hw : ∀ c ∈ w, c ∉ stops2) (hd : WordIs w d) : Wrt w d := by
  refine ⟨by rw [e]; simp, fun pre suf ht => ?_⟩
  refine .word (q := c) (by rw [e]; simp) h1 h2 (fun hf => hw c (by rw [e]; exact .head _) (fills_stops hf)) (w2_of hw ht) ?_
  rw [word_take]; exact hd
theorem int_signs (i : Int) : ∀ c ∈ intText i, c = 45 ∨ (48 ≤ c ∧ c ≤ 57) := by
  obtain ⟨h1, -⟩ := dec_digits (i.natAbs + 1) i.natAbs (Nat.lt_succ_self _)
  have hf := h1.figs
  unfold intText
  split
  · intro c hc
    rcases List.mem_cons.mp hc with rfl | hc
    · exact .inl rfl
    · exact .inr (hf c hc)
  · exact fun c hc => .inr (hf c hc)
theorem dr_wrt {esc : Nat → List Nat} (L : Lays esc) {d : PyData} (h : Dr d) : Wrt (tx esc d) d := by
  cases d with
  | none => exact wrt_word (w := [78, 111, 110, 101]) rfl (by decide) (by decide) (by decide) .no
  | bool b =>
    cases b
    · exact wrt_word (w := [70, 97, 108, 115, 101]) rfl (by decide) (by decide) (by decide) .ff
    · exact wrt_word (w := [84, 114, 117, 101]) rfl (by decide) (by decide) (by decide) .tt
  | int i =>
    obtain ⟨h1, h2, c, r, e, h3, -⟩ := int_word i
    refine wrt_word e (fun q => h3 (by rw [q]; decide)) (fun q => h3 (by rw [q]; decide)) (fun c hc => ?_) h1
    have := int_signs i c hc
    simp only [stops2, List.mem_cons, List.not_mem_nil, or_false]; omega
  | str x =>
    unfold Dr at h
    refine ⟨by simp [tx], fun pre suf ht => ?_⟩
    have hq := quote_is x.cps.toList
    have key := TL_go L hq x.cps.toList [] (pre ++ [quoteOf x.cps.toList]) suf h.1
    simp only [List.nil_append] at key
    have hx : x = S x.cps.toList := by cases x; simp [S]
    refine (hx ▸ (Told.text (q := quoteOf x.cps.toList) (a := pre ++ (tx esc (.str x) ++ suf)) (b := pre.length) (by simp [tx]) hq (TL_cast key ?_ ?_ rfl rfl) ?_) : Told _ _ _ (.str x))
    · simp [tx]
    · simp
    · simp [tx]; omega
  | _ => simp [Dr] at h
/-- a cell that is laid on the page -/
structure Duo where
  d : PyData
  conv : Option Nat
  fill : Nat
  side : List Nat
  width : Nat
def Duo.x (q : Duo) : List Nat := if q.conv = some 97 then tx aesc q.d else rx q.d
def Duo.num (q : Duo) : Bool := q.conv.isNone
def Duo.tx (q : Duo) : List Nat := padTx q.fill q.side q.width q.num q.x
def Duo.L (q : Duo) : Nat := leftOf q.side q.num (q.width - q.x.length)
def Duo.R (q : Duo) : Nat := q.width - q.x.length - q.L
structure Duo.Ok (q : Duo) : Prop where
  dr : Dr q.d
  fill : q.fill ∈ fills5
  side : q.side = [] ∨ q.side = [60] ∨ q.side = [62] ∨ q.side = [94]
  conv : q.conv = none ∨ q.conv = some 114 ∨ q.conv = some 97 ∨ q.conv = some 115
  width : q.width ≤ 13
theorem fill_ok {side : List Nat} {fill : Nat} (h : fill ∈ fills5) : fillOf side fill ∈ fills5 := by unfold fillOf; split; decide; exact h
theorem Duo.tx_is (q : Duo) : q.tx = List.replicate q.L (fillOf q.side q.fill) ++ q.x ++ List.replicate q.R (fillOf q.side q.fill) := rfl
theorem Duo.wrt {q : Duo} (h : q.Ok) : Wrt q.x q.d := by
  unfold Duo.x
  split
  · exact dr_wrt lays_ascii h.dr
  · exact dr_wrt lays_id h.dr
def pageOf (qs : List Duo) : List Nat := qs.flatMap fun q => q.tx ++ [124]
def recs : Nat → List Duo → List CellR
  | _, [] => []
  | p, q :: r => ⟨p, p + q.L, p + q.L + q.x.length, p + q.L + q.x.length + q.R, q.d⟩ :: recs (p + q.L + q.x.length + q.R + 1) r
theorem tx_length (q : Duo) : q.tx.length = q.L + q.x.length + q.R := by rw [q.tx_is]; simp; omega
theorem rep_at {pre suf : List Nat} {n f k : Nat} (h1 : pre.length ≤ k) (h2 : k < pre.length + n) : (pre ++ (List.replicate n f ++ suf))[k]? = some f := by
  rw [List.getElem?_append_right h1, List.getElem?_append_left (by simp; omega), List.getElem?_replicate, if_pos (by omega)]
theorem page_at : ∀ (qs : List Duo) (pre : List Nat), (∀ q ∈ qs, q.Ok) → PageAt (pre ++ pageOf qs) pre.length (recs pre.length qs)
  | [], pre, _ => by
    have := PageAt.nil (a := pre ++ pageOf [])
    rw [show (pre ++ pageOf []).length = pre.length by simp [pageOf]] at this
    exact this
  | q :: r, pre, h => by
    have hq := h q (.head _)
    have hw := q.wrt hq
    have ih := page_at r (pre ++ (q.tx ++ [124])) fun x hx => h x (.tail _ hx)
    have hf := fill_ok (side := q.side) hq.fill
    have hpg : pageOf (q :: r) = q.tx ++ [124] ++ pageOf r := by simp [pageOf]
    have hlen : (pre ++ (q.tx ++ [124])).length = pre.length + q.L + q.x.length + q.R + 1 := by simp [tx_length]; omega
    rw [hlen] at ih
    have ea : pre ++ (q.tx ++ [124]) ++ pageOf r = pre ++ pageOf (q :: r) := by rw [hpg]; simp
    rw [ea] at ih
    have e1 : pre ++ pageOf (q :: r) = pre ++ (List.replicate q.L (fillOf q.side q.fill) ++ (q.x ++ (List.replicate q.R (fillOf q.side q.fill) ++ 124 :: pageOf r))) := by rw [hpg, q.tx_is]; simp
    have e2 : pre ++ pageOf (q :: r) = (pre ++ List.replicate q.L (fillOf q.side q.fill)) ++ (q.x ++ (List.replicate q.R (fillOf q.side q.fill) ++ 124 :: pageOf r)) := by rw [hpg, q.tx_is]; simp
    have e3 : pre ++ pageOf (q :: r) = (pre ++ List.replicate q.L (fillOf q.side q.fill) ++ q.x) ++ (List.replicate q.R (fillOf q.side q.fill) ++ 124 :: pageOf r) := by rw [hpg, q.tx_is]; simp
    have e4 : pre ++ pageOf (q :: r) = (pre ++ List.replicate q.L (fillOf q.side q.fill) ++ q.x ++ List.replicate q.R (fillOf q.side q.fill)) ++ 124 :: pageOf r := by rw [hpg, q.tx_is]; simp
    refine .cons (c := ⟨pre.length, pre.length + q.L, pre.length + q.L + q.x.length, pre.length + q.L + q.x.length + q.R, q.d⟩) ⟨Nat.le_add_right _ _, fun k h1 h2 => ?_, ?_, Nat.le_add_right _ _, ?_, fun k h1 h2 => ?_⟩ (by have := hw.1; show _ + _ < _ + _ + _; omega) ih
    · exact ⟨_, by rw [e1]; exact rep_at h1 h2, hf⟩
    · have := hw.2 (pre ++ List.replicate q.L (fillOf q.side q.fill)) (List.replicate q.R (fillOf q.side q.fill) ++ 124 :: pageOf r) (by
        cases hR : q.R with
        | zero => exact ⟨_, _, rfl, by decide⟩
        | succ n => exact ⟨_, _, rfl, fills_stops hf⟩)
      rw [← e2] at this
      simpa using this
    · rw [e4]
      have := at_mid (pre := pre ++ List.replicate q.L (fillOf q.side q.fill) ++ q.x ++ List.replicate q.R (fillOf q.side q.fill)) (r := pageOf r) (c := 124)
      simpa [Nat.add_assoc] using this
    · dsimp only at h1 h2
      have := rep_at (pre := pre ++ List.replicate q.L (fillOf q.side q.fill) ++ q.x) (suf := 124 :: pageOf r) (n := q.R) (f := fillOf q.side q.fill) (k := k) (by simp; omega) (by simp; omega)
      rw [e3, this]
      intro e
      injection e with e
      rw [e] at hf
      exact absurd hf (by decide)
/-- what the k-th cell is -/
theorem recs_at : ∀ (qs : List Duo) (pre : List Nat) {k : Nat} {q : Duo}, qs[k]? = some q → ∃ c, (recs pre.length qs)[k]? = some c ∧ c.b - c.pl = q.L ∧ c.e - c.b = q.x.length ∧ c.d = q.d ∧ ((pre ++ pageOf qs).drop c.pl).take (c.st - c.pl) = q.tx
  | [], _, k, q, h => by simp at h
  | q₀ :: r, pre, 0, q, h => by
    obtain rfl : q₀ = q := by simpa using h
    refine ⟨_, rfl, ?_, ?_, rfl, ?_⟩
    · dsimp only; omega
    · dsimp only; omega
    · dsimp only
      rw [drop_pre, show pre.length + q₀.L + q₀.x.length + q₀.R - pre.length = q₀.tx.length by rw [tx_length]; omega]
      simp [pageOf]
  | q₀ :: r, pre, k + 1, q, h => by
    obtain ⟨c, h1, h2, h3, h4, h5⟩ := recs_at r (pre ++ (q₀.tx ++ [124])) (k := k) (q := q) (by simpa using h)
    have hlen : (pre ++ (q₀.tx ++ [124])).length = pre.length + q₀.L + q₀.x.length + q₀.R + 1 := by simp [tx_length]; omega
    refine ⟨c, ?_, h2, h3, h4, ?_⟩
    · rw [hlen] at h1
      simpa [recs] using h1
    · have e : pre ++ pageOf (q₀ :: r) = pre ++ (q₀.tx ++ [124]) ++ pageOf r := by simp [pageOf]
      rw [e]; exact h5
theorem recs_length : ∀ (qs : List Duo) (p : Nat), (recs p qs).length = qs.length
  | [], _ => rfl
  | q :: r, p => by simp [recs, recs_length r]
theorem dr_gd {d : PyData} (h : Dr d) : Gd 100 d ∧ wt d ≤ 7 := by
  cases d with
  | none => exact ⟨trivial, by simp [wt]⟩
  | bool b => exact ⟨trivial, by simp [wt]⟩
  | int i => unfold Dr at h; exact ⟨by unfold Gd; omega, by simp [wt]⟩
  | str x => unfold Dr at h; exact ⟨by unfold Gd; exact h.1, by simp only [wt]; omega⟩
  | _ => simp [Dr] at h
theorem dr_said {d : PyData} (h : Dr d) : Said d := (dr_gd h).1.said (by have := (dr_gd h).2; omega)
theorem dr_len {esc : Nat → List Nat} (L : Lays esc) {d : PyData} (h : Dr d) : (tx esc d).length ≤ 140 := by
  have := tx_len L 100 d (dr_gd h).1
  have := (dr_gd h).2
  omega
theorem Duo.xlen {q : Duo} (h : q.Ok) : q.x.length ≤ 140 := by
  unfold Duo.x
  split
  · exact dr_len lays_ascii h.dr
  · exact dr_len lays_id h.dr
theorem pad_len {fill : Nat} {side : List Nat} {w : Nat} {num : Bool} {x : List Nat} : (padTx fill side w num x).length ≤ w + x.length := by
  unfold padTx leftOf
  simp only [List.length_append, List.length_replicate]
  split
  · omega
  split
  · omega
  split
  · omega
  split <;> omega
theorem Duo.tlen {q : Duo} (h : q.Ok) : q.tx.length ≤ 153 := by
  have h1 := q.xlen h
  have h2 := h.width
  have : q.tx.length ≤ q.width + q.x.length := pad_len
  omega
theorem page_len : ∀ qs : List Duo, (∀ q ∈ qs, q.Ok) → (pageOf qs).length ≤ 154 * qs.length
  | [], _ => by simp [pageOf]
  | q :: r, h => by
    have := page_len r fun x hx => h x (.tail _ hx)
    have := q.tlen (h q (.head _))
    simp only [pageOf, List.flatMap_cons, List.length_append, List.length_cons, List.length_nil] at *
    omega
-- part M2j
open PySem PySem.Spec PySem.Calls PyProof.Rows PySem.W
set_option maxRecDepth 100000
theorem find_is {α : Type} {p : α → Bool} {l : List α} {d : α} (h : (l.find? p).isSome = true) : l.find? p = some ((l.find? p).getD d) := by
  cases q : l.find? p with
  | none => rw [q] at h; cases h
  | some x => rfl
noncomputable abbrev dLaw := recOf V1 (Str.ofString "law")
theorem two_cells {cl : List (Str × Addr)} {a b : Str} (h : cl.map (·.1) = [a, b]) : ∃ x y, cl = [(a, x), (b, y)] := by
  match cl, h with
  | [(_, x), (_, y)], h => simp at h; obtain ⟨rfl, rfl⟩ := h; exact ⟨_, _, rfl⟩
theorem mem_stored {K : Type} [DecidableEq K] {ys : List (K × Value)} {k : K} {v : Value} {P : Value → Prop} (h : ∀ kv ∈ ys, P kv.2) (hv : P v) : ∀ kv ∈ stored ys k v, P kv.2 := by
  intro kv hk
  unfold stored at hk
  split at hk
  · obtain ⟨a, ha, rfl⟩ := List.mem_map.mp hk
    split
    · exact hv
    · exact h a ha
  · rcases List.mem_append.mp hk with hk | hk
    · exact h kv hk
    · rw [List.mem_singleton] at hk; subst hk; exact hv
def keyOf : List Nat ⊕ Int → Ky
  | .inl x => .s (S x)
  | .inr i => .i i
theorem key_is {prog : Program} {w : World} {kv : Value} {ky : List Nat ⊕ Int} (h : FKey kv ky) : (mixB prog w).is (keyOf ky) kv = true ∧ kv.scannable = true := by
  cases h with
  | str x t => exact ⟨beq_self_eq_true _, rfl⟩
  | int i t => exact ⟨beq_self_eq_true _, rfl⟩
  | bool b => exact ⟨beq_self_eq_true _, rfl⟩
theorem valueAt_in {K : Type} [DecidableEq K] : ∀ {kvs : List (K × Value)} {k : K} {v : Value}, valueAt kvs k = some v → ∃ kv ∈ kvs, kv.2 = v
  | [], k, v, h => by rw [valueAt_nil] at h; cases h
  | (k', v') :: r, k, v, h => by
    rw [valueAt_cons] at h
    split at h
    · injection h with h; exact ⟨_, .head _, h⟩
    · obtain ⟨kv, h1, h2⟩ := valueAt_in h; exact ⟨kv, .tail _ h1, h2⟩
theorem found_mem {vs : List Value} {kvs : List (Str × Value)} {ky : List Nat ⊕ Int} {v : Value} (h : foundOf vs kvs ky = .inl v) : (∃ p : Nat, vs[p]? = some v) ∨ ∃ kv ∈ kvs, kv.2 = v := by
  cases ky with
  | inl x =>
    unfold foundOf at h
    cases hv : valueAt kvs (S x) with
    | some v' => simp only [hv] at h; injection h with h; subst h; exact .inr (valueAt_in hv)
    | none => simp only [hv] at h; cases h
  | inr i =>
    unfold foundOf at h
    cases hp : placeOf i vs.length with
    | some p =>
      simp only [hp] at h
      cases hv : vs[p]? with
      | some v' => simp only [hv] at h; injection h with h; subst h; exact .inl ⟨p, hv⟩
      | none => simp only [hv] at h; cases h
    | none => simp only [hp] at h; cases h
/-- the conversion that is asked for at last -/
def cvOf (d : PyData) (c : Option Nat) : Option Nat := match d with | .int _ => c | _ => if c = none ∨ c = some 114 then some 114 else some 97
theorem log_small {n : Nat} (h : n < 1000000000) : n.log2 < 1920 := by
  by_cases h0 : n = 0
  · subst h0; decide
  · have := (Nat.log2_lt (k := 30) h0).mpr (by omega)
    omega
theorem CellVs.length {prog : Program} {w : World} {a : List Nat} {B : FMap} {vs : List Value} {cs : List CellR} (h : CellVs prog w a B vs cs) : vs.length = cs.length := by
  induction h with
  | nil => rfl
  | snoc _ _ ih => simp [ih]
theorem CellVs.get {prog : Program} {w : World} {a : List Nat} {B : FMap} {vs : List Value} {cs : List CellR} (h : CellVs prog w a B vs cs) : ∀ {k : Nat} {c : CellR}, cs[k]? = some c → ∃ v, vs[k]? = some v ∧ CellV prog w a B v c := by
  induction h with
  | nil => intro k c h; simp at h
  | @snoc v vs c cs h1 h2 ih =>
    intro k c' hk
    by_cases hl : k < cs.length
    · rw [List.getElem?_append_left hl] at hk
      obtain ⟨v', h3, h4⟩ := ih hk
      exact ⟨v', by rw [List.getElem?_append_left (by rw [h1.length]; exact hl)]; exact h3, h4⟩
    · have hk2 : k < (cs ++ [c]).length := (List.getElem?_eq_some_iff.mp hk).1
      have : k = cs.length := by simp at hk2; omega
      subst this
      have e : c' = c := by simpa using hk.symm
      subst e
      exact ⟨v, by rw [← h1.length]; simp, h2⟩
theorem leftOf_le (side : List Nat) (num : Bool) (ov : Nat) : leftOf side num ov ≤ ov := by
  unfold leftOf
  split
  · omega
  split
  · omega
  split
  · omega
  split <;> omega
theorem left_at {side : List Nat} {conv : Option Nat} {ov : Nat} {t1 t2 t3 : Tok} (hs : side = [] ∨ side = [60] ∨ side = [62] ∨ side = [94]) :
    ∃ t, valueAt [(S [60], Value.int 0 t1), (S [62], Value.int (ov : Nat) t2), (S [94], Value.int ((ov : Nat) / 2 : Int) t3)] (S (if side = [] then (if conv = none then [62] else [60]) else side)) = some (.int ((leftOf side conv.isNone ov : Nat) : Int) t) := by
  simp only [valueAt_cons, valueAt_nil, S_inj]
  rcases hs with rfl | rfl | rfl | rfl
  · cases conv with
    | none => exact ⟨_, rfl⟩
    | some c => exact ⟨_, rfl⟩
  · exact ⟨_, rfl⟩
  · exact ⟨_, rfl⟩
  · refine ⟨t3, ?_⟩
    simp [leftOf]
theorem Duo.L_le (q : Duo) : q.L ≤ q.width - q.x.length := leftOf_le _ _ _
theorem Duo.mid (q : Duo) : (q.tx.drop q.L).take q.x.length = q.x := by
  rw [q.tx_is, List.append_assoc]
  have := List.drop_left (l₁ := List.replicate q.L (fillOf q.side q.fill)) (l₂ := q.x ++ List.replicate q.R (fillOf q.side q.fill))
  rw [List.length_replicate] at this
  rw [this, List.take_left]
theorem dr_tl {d : PyData} (h : Dr d) : Tl 0 d := by cases d <;> first | trivial | (simp [Dr] at h) | simp [Tl]
theorem isB_of {d : PyData} : Ty.bool.of d = isB d := by cases d <;> rfl
theorem cv_other {d : PyData} {c : Option Nat} (h : ∀ i, d ≠ .int i) : cvOf d c = if c = none ∨ c = some 114 then some 114 else some 97 := by
  cases d <;> first | rfl | exact absurd rfl (h _)
theorem cv_int {d : PyData} {c : Option Nat} (h : cvOf d c = none ∨ cvOf d c = some 115) : ∃ i, d = .int i := by
  apply Classical.byContradiction
  intro hn
  rw [cv_other (fun i e => hn ⟨i, e⟩)] at h
  split at h <;> rcases h with h | h <;> simp at h
theorem cv_or {d : PyData} {c : Option Nat} (h : c = none ∨ c = some 114 ∨ c = some 97 ∨ c = some 115) : cvOf d c = none ∨ cvOf d c = some 114 ∨ cvOf d c = some 97 ∨ cvOf d c = some 115 := by
  unfold cvOf
  split
  · exact h
  · split
    · exact .inr (.inl rfl)
    · exact .inr (.inr (.inl rfl))
/-- a row of due -/
def DueV (prog : Program) (w : World) (B : FMap) (v : Value) (q : Duo) : Prop := ∃ x tv cv t1 t2 t3, v = .ref x ∧ B x = some { cls := .type "tuple", data := .seq #[tv, cv, .str (S [fillOf q.side q.fill]) t1, .str (S q.side) t2, .int (q.width : Int) t3] } ∧ Rd prog w B tv q.d ∧ ConvV cv q.conv
theorem DueV.sub {prog : Program} {w : World} {B B' : FMap} {v : Value} {q : Duo} (hs : Sub B B') (h : DueV prog w B v q) : DueV prog w B' v q :=
  let ⟨x, tv, cv, t1, t2, t3, h1, h2, h3, h4⟩ := h; ⟨x, tv, cv, t1, t2, t3, h1, hs _ _ h2, h3.sub hs, h4⟩
def DueVs (prog : Program) (w : World) (B : FMap) (vs : List Value) (qs : List Duo) : Prop := vs.length = qs.length ∧ ∀ (k : Nat) (v : Value) (q : Duo), vs[k]? = some v → qs[k]? = some q → DueV prog w B v q
theorem DueVs.sub {prog : Program} {w : World} {B B' : FMap} {vs : List Value} {qs : List Duo} (hs : Sub B B') (h : DueVs prog w B vs qs) : DueVs prog w B' vs qs := ⟨h.1, fun k v q h1 h2 => (h.2 k v q h1 h2).sub hs⟩
theorem DueVs.snoc {prog : Program} {w : World} {B : FMap} {vs : List Value} {qs : List Duo} {v : Value} {q : Duo} (h : DueVs prog w B vs qs) (hv : DueV prog w B v q) : DueVs prog w B (vs ++ [v]) (qs ++ [q]) := by
  refine ⟨by simp [h.1], fun k v' q' h1 h2 => ?_⟩
  by_cases hk : k < vs.length
  · rw [List.getElem?_append_left hk] at h1
    rw [List.getElem?_append_left (by rw [← h.1]; exact hk)] at h2
    exact h.2 k v' q' h1 h2
  · have hk2 : k < (vs ++ [v]).length := (List.getElem?_eq_some_iff.mp h1).1
    have : k = vs.length := by simp at hk2; omega
    subst this
    rw [List.getElem?_append_right (Nat.le_refl _)] at h1
    rw [List.getElem?_append_right (by rw [h.1]; exact Nat.le_refl _)] at h2
    have e1 : v' = v := by simpa using h1.symm
    have e2 : q' = q := by rw [h.1] at h2; simpa using h2.symm
    rw [e1, e2]; exact hv
theorem page_snoc (qs : List Duo) (q : Duo) : pageOf (qs ++ [q]) = pageOf qs ++ (q.tx ++ [124]) := by simp [pageOf]
theorem width_text (n : Nat) : strOfD (.int (n : Int)) = S ((Nat.toDigits 10 n).map Char.toNat) := by
  show PyData.shown _ = _
  rw [shown_is]
  show S (intText (n : Int)) = _
  unfold intText
  rw [if_neg (by omega), Int.natAbs_natCast]
theorem fault_nil {r : Value ⊕ Bool} : (faultOf r == []) = r.isLeft := by
  rcases r with v | (_ | _) <;> rfl
set_option maxHeartbeats 4000000
theorem sp_law {prog : Program} {w : World} {A : Around} (R : Rm A 200) (hfr : A.frames = some []) {T : Tp} (hT1 : T1 T) {s : Shared} {B : FMap} {S0 : Addr} {xs : List Value} {sn : Nat} {C N : Addr} {mN : Str → Option Value}
    (hT : T.At s.heap) (hB : Fz B s.heap) (P : FmAt T.mg fmtRec s.heap C N mN) {oS : Obj} (hS : B S0 = some oS) (hoc : oS.cls = .type "list") (hod : oS.data = .seq xs.toArray sn) (hints : ∀ v ∈ xs, ∃ i t, v = Value.int i t) (hxl : xs.length ≤ sizeLine) :
    Sp0 prog w dLaw A [.ref S0] B s (fun _ v => v = .bool true) := by
  refine enterGA R hT hB n_script [n_names, n_kept, n_maker, n_page, n_due, n_used, n_key, n_conversion, n_fill, n_side, n_width, n_fault, n_thing, n_value, n_told, n_written, n_cells, n_k, n_begin, n_size, n_cell, n_over, n_left] [n_things, n_row] (fun _ _ _ => rfl) (by decide +kernel) (by decide +kernel) (by decide +kernel) (by decide +kernel) rfl rfl rfl ?_
  intro X cl Q s F frm hcl H R hret
  have G : Pg X V1 loose1 := ⟨F.pg.p.trans hT1.p, F.pg.loose.trans hT1.loose⟩
  have hTX : T1 X.T := F.T ▸ hT1
  have hfr' : (A.deeper X.env).frames = some [X.env] := Around.frames_deeper hfr
  obtain ⟨c, e, rfl⟩ := two_cells hcl
  have kC : X.env.kindOf n_things = some .cell := kindOf_frmG F (by decide +kernel)
  have kD : X.env.kindOf n_row = some .cell := kindOf_frmG F (by decide +kernel)
  have cC : X.env.cells.lookup n_things = some c := by rw [F.cells]; rfl
  have cD : X.env.cells.lookup n_row = some e := by rw [F.cells]; rfl
  replace P : FmAt X.mg fmtRec X.h0 C N mN := by
    have e : X.mg = T.mg := by rw [← F.T]; rfl
    rw [e, F.h0]; exact P
  have hzz : sizeLine = 16777216 := by decide
  simp only [List.map_cons, List.map_nil] at H
  walk_at "nm"
  walk_at "mm"
  with_reducible refine e_listF H (by simp only [List.length_singleton]; omega) ?_; clear H; intro e0 B₁ s hs₁ he0 H
  with_reducible refine e_cutTo ?_ (by intro _ _; with_unfolding_all rfl) (by intro _ _; with_unfolding_all rfl)
  walk_at "mm"
  refine cutTo_end 28 H (IsLF H (hs₁ _ _ hS) hoc hod) hxl rfl ?_; clear H; intro c₂ B₂ s hs₂ hc₂ H
  replace he0 := hs₂ _ _ he0
  with_reducible refine e_addF H he0 hc₂ (by simp only [List.length_singleton, List.length_take]; omega) ?_; clear H; intro rw₀ B₃ s hs₃ hrw H
  with_reducible refine' s_cell H kD cD ?hp ?_; (case hp => walk_at "oput"); clear H; intro s H
  have hfr1 : ∃ B' o, Sub B₃ B' ∧ B' e = some o ∧ CellIs (some (.ref rw₀)) o ∧ St X B' [(c, CellIs none)] ([(n_script, some (.ref S0)), (n_names, none), (n_kept, none), (n_maker, none), (n_page, none), (n_due, none), (n_used, none), (n_key, none), (n_conversion, none), (n_fill, none), (n_side, none), (n_width, none), (n_fault, none), (n_thing, none), (n_value, none), (n_told, none), (n_written, none), (n_cells, none), (n_k, none), (n_begin, none), (n_size, none), (n_cell, none), (n_over, none), (n_left, none)] : Locs) s := by
    obtain ⟨B₁, o, h1, h2, h3, h4⟩ := H.freezeP (a := e) (P := CellIs (some (.ref rw₀))) (by walk_at "opop")
    exact ⟨B₁, o, h1, h2, h3, h4⟩
  clear H
  obtain ⟨B₄, oD, hs₄, bD, oD, H⟩ := hfr1
  walk_at "mm"
  refine x_assign ?_ (swaps_cellL kC)
  obtain ⟨rws, hrw, hrl, hri⟩ : ∃ rws : List Value, B₄ rw₀ = some { cls := .type "list", data := .seq rws.toArray } ∧ (1 ≤ rws.length ∧ rws.length ≤ 29) ∧ ∀ v ∈ rws, ∃ i t, v = Value.int i t := ⟨_, hs₄ _ _ hrw, by simp only [List.length_append, List.length_singleton, List.length_take]; omega, fun v hv => by
    rcases List.mem_append.mp hv with hv | hv
    · rw [List.mem_singleton] at hv; exact ⟨_, _, hv⟩
    · exact hints v (List.mem_of_mem_take hv)⟩
  with_reducible refine e_listcomp [n_x] ?_ (closureFor_of (cl := []) (by simp [clos])) (by decide +kernel) (by rfl) (by decide +kernel) (by decide +kernel) (by decide +kernel) (by intro _; with_unfolding_all rfl)
  walk_at "mm"
  refine lc_it (it_list R.handled takes_name H hrw rfl rfl) (by omega) (fun i B' l' ys => ∃ v1, l' = ([(n_x, v1)] : Locs) ∧ ys.length = i ∧ ∃ ds, RdAll prog w B' ys ds ∧ ∀ d ∈ ds, Dr d) ⟨_, rfl, rfl, [], .nil, by simp⟩ ?_ ?_
  · rintro X' D C j v B₅ B₆ l₁ ys s q Qy Qn hend hj hv hs₅ ⟨v1, rfl, hyl, ds, hys, hds⟩ hs₆ H
    obtain ⟨xi, xt, rfl⟩ := hri v (List.mem_of_getElem? hv)
    have hTX : T1 X'.T := C.T ▸ hTX
    replace G := C.pg G
    walk_at "mm"
    refine ⟨_, _, _, _, H, sp_drawn (k := 100) (R.le (by omega)) hTX H.tp H.fzIn, ?_⟩
    clear H; rintro v₅ B₇ s hs₇ ⟨d, hd, hdr⟩ H
    refine hend.y hs₇ ⟨_, rfl, by simp [hyl], ds ++ [d], ((hys.sub hs₆).sub hs₇).snoc hd, fun d' hd' => ?_⟩ H
    rcases List.mem_append.mp hd' with h | h
    · exact hds _ h
    · rw [List.mem_singleton] at h; exact h ▸ hdr
  · rintro B₅ B₆ D ys l₁ k s₁ hs₅ ⟨v1, rfl, hyl, ds, hys, hds⟩ hs₆ hx s H; clear s₁
    replace hys := hys.sub hs₆
    replace bD := hs₆ _ _ (hs₅ _ _ bD)
    replace hrw := hs₆ _ _ (hs₅ _ _ hrw)
    with_reducible refine' s_cell H kC cC ?hp ?_; (case hp => walk_at "oput"); clear H; intro s H
    have hfr1 : ∃ B' o, Sub B₆ B' ∧ B' c = some o ∧ CellIs (some (.ref D)) o ∧ St X B' [] ([(n_script, some (.ref S0)), (n_names, none), (n_kept, none), (n_maker, none), (n_page, none), (n_due, none), (n_used, none), (n_key, none), (n_conversion, none), (n_fill, none), (n_side, none), (n_width, none), (n_fault, none), (n_thing, none), (n_value, none), (n_told, none), (n_written, none), (n_cells, none), (n_k, none), (n_begin, none), (n_size, none), (n_cell, none), (n_over, none), (n_left, none)] : Locs) s := by
      obtain ⟨B₁, o, h1, h2, h3, h4⟩ := H.freezeP (a := c) (P := CellIs (some (.ref D))) (by walk_at "opop")
      exact ⟨B₁, o, h1, h2, h3, h4⟩
    clear H
    obtain ⟨B₇, oC, hs₇, bC, oC, H⟩ := hfr1
    replace hys := hys.sub hs₇
    replace bD := hs₇ _ _ bD
    replace hrw := hs₇ _ _ hrw
    replace hx := hs₇ _ _ hx
    walk_at "mm"
    with_reducible refine x_dictcomp (PySem.strKind prog w) [n_k, n_name] ?_ (swaps_localD H.fn (kindOf_frmG F (by decide +kernel)) (by decide +kernel)) (closureFor_of (cl := [(n_things, c), (n_row, e)]) (by rw [F.cells]; simp [clos, List.lookup, show (n_row == n_things) = false by decide +kernel])) (by decide +kernel) (by rfl) (by decide +kernel) (by decide +kernel) (by decide +kernel) (by intro _; with_unfolding_all rfl)
    walk_at "mm"
    with_reducible refine e_listF H (by simp only [List.length_cons, List.length_nil]; omega) ?_; clear H; intro nm₀ B₈ s hs₈ hnm H
    walk_at "mm"
    with_reducible refine e_enum H hnm rfl rfl ?_; clear H; intro en it s H
    refine dc_it (it_enum R.handled H hnm rfl rfl) (by simp only [List.length_cons, List.length_nil]; omega) (fun i B' l' zs => ∃ v1 v2, l' = ([(n_k, v1), (n_name, v2)] : Locs) ∧ zs.length ≤ i ∧ ∀ kv ∈ zs, ∃ d, Rd prog w B' kv.2 d ∧ Dr d) ⟨_, _, rfl, Nat.le_refl _, by simp⟩ ?_ ?_
    · rintro X' D' C i v B₉ B₁₀ l₁ zs s qi Qy Qn hend hi ⟨a9, t9, x9, rfl, ha9, hx9⟩ hs₉ ⟨v1, v2, rfl, hzl, hzs⟩ hs₁₀ H
      have kC := kindOf_cff C ‹St X B₈ _ _ _› (x := n_things) (by decide +kernel) kC
      have kD := kindOf_cff C ‹St X B₈ _ _ _› (x := n_row) (by decide +kernel) kD
      have cC : X'.env.cells.lookup n_things = some c := by rw [C.cells]; rfl
      have cD : X'.env.cells.lookup n_row = some e := by rw [C.cells]; rfl
      have hsub := (hs₈.trans hs₉).trans hs₁₀
      replace bC := hsub _ _ bC
      replace bD := hsub _ _ bD
      replace hx := hsub _ _ hx
      replace hrw := hsub _ _ hrw
      have hTX : T1 X'.T := C.T ▸ hTX
      replace G := C.pg G
      obtain ⟨nx, nt, rfl⟩ : ∃ nx nt, x9 = Value.str nx nt := by
        have := List.mem_of_getElem? hx9
        simp only [List.mem_cons, List.not_mem_nil, or_false] at this
        rcases this with rfl | rfl | rfl | rfl | rfl | rfl | rfl <;> exact ⟨_, _, rfl⟩
      with_reducible refine a_two R.handled H ha9 ?_; clear H; intro s H
      walk_at "mm"
      refine e_lenL H (IsLF H hrw rfl rfl) (by omega) ?_; clear H; intro t s H
      walk_at "mm"
      refine b_mod H (by omega) ?_; clear H; intro t s H
      walk_at "mm"
      have hj : i % rws.length < ys.length := by rw [hyl]; exact Nat.mod_lt _ (by omega)
      obtain ⟨dd, hdd, hvd⟩ := hys.get (i := i % rws.length) (v := ys[i % rws.length]) (by simp [hj])
      refine e_lat (i % rws.length) (IsLF H hx rfl rfl) (v := ys[i % rws.length]) (by simp [hj]) (by omega) ?_ (by omega)
      refine hend.y (PySem.strKind_is _ _ _ _) (Sub.refl _) ⟨_, _, rfl, Nat.le_trans (stored_length_le ..) (by omega), ?_⟩ H
      refine mem_stored (P := fun v => ∃ d, Rd prog w B₁₀ v d ∧ Dr d) (fun kv hkv => ?_) ⟨dd, hvd.sub hsub, hds _ (List.mem_of_getElem? hdd)⟩
      obtain ⟨d, h1, h2⟩ := hzs kv hkv
      exact ⟨d, h1.sub hs₁₀, h2⟩
    · rintro B₉ B₁₀ N0 kvs l₁ s₁ hs₉ ⟨v1, v2, rfl, hkl, hkvs⟩ hs₁₀ hN; clear s₁
      refine ⟨_, _, StoreTo.loc (by walk_at "put"), ?_⟩
      intro s H
      replace hkvs : ∀ kv ∈ kvs, ∃ d, Rd prog w B₁₀ kv.2 d ∧ Dr d := fun kv hkv => let ⟨d, h1, h2⟩ := hkvs kv hkv; ⟨d, h1.sub hs₁₀, h2⟩
      have hkl : kvs.length ≤ 7 := hkl
      have hsub := (hs₈.trans hs₉).trans hs₁₀
      replace bC := hsub _ _ bC
      replace bD := hsub _ _ bD
      replace hx := hsub _ _ hx
      replace hrw := hsub _ _ hrw
      replace hys := hys.sub hsub
      clear hsub hnm hs₈ hs₉ hs₁₀
      walk_at "m"
      walk_at "m"
      walk_at "m"
      walk_at "m"
      walk_at "m"
      with_reducible refine e_cutAll ?_ (by intro _ _; with_unfolding_all rfl) (by intro _ _; with_unfolding_all rfl)
      walk_at "mm"
      refine cutAll_end H (IsLF H hx rfl rfl) (by omega) ?_; clear H; intro D2 B₁₁ s hs₁₁ hx2 H
      walk_at "mm"
      refine e_dictD H (hN.sub hs₁₁) (by omega) ?_; clear H; intro N2 B₁₂ s hs₁₂ hN2 H
      walk_at "mm"
      with_reducible refine e_tuple H (by simp only [List.length_cons, List.length_nil]; omega) ?_; clear H; intro kp B₁₃ s hs₁₃ hkp H
      replace hx2 := hs₁₃ _ _ (hs₁₂ _ _ hx2)
      replace hN2 := hN2.sub hs₁₃
      walk_at "mm"
      with_reducible refine e_make H P (by decide +kernel) (kindOf_frmG F (by decide +kernel)) ?_ (by decide +kernel); clear H; intro mk B₁₄ s hs₁₄ hmk H
      have hsub := ((hs₁₁.trans hs₁₂).trans hs₁₃).trans hs₁₄
      replace bC := hsub _ _ bC
      replace bD := hsub _ _ bD
      replace hx := hsub _ _ hx
      replace hrw := hsub _ _ hrw
      replace hys := hys.sub hsub
      replace hN := hN.sub hsub
      replace hx2 := hs₁₄ _ _ hx2
      replace hN2 := hN2.sub hs₁₄
      replace hkp := hs₁₄ _ _ hkp
      replace hkvs : ∀ kv ∈ kvs, ∃ d, Rd prog w B₁₄ kv.2 d ∧ Dr d := fun kv hkv => let ⟨d, h1, h2⟩ := hkvs kv hkv; ⟨d, h1.sub hsub, h2⟩
      clear hsub hs₁₁ hs₁₂ hs₁₃ hs₁₄
      walk_at "mm"
      with_reducible refine e_listO H (by simp) ?_; clear H; intro due s H
      walk_at "mm"
      refine PySem.callWith_type rfl (wpAny_pure ?_)
      refine e_set H ?_; clear H; intro us s H
      walk_at "mm"
      with_reducible refine x_for ?_ (by intro _; with_unfolding_all rfl); intro bd hbd
      walk_at "mm"
      refine ⟨_, _, _, _, H, sp_fields (k := 100) (R.le (by omega)) hTX H.tp H.fzIn hrw hri (by omega) (by omega), ?_⟩
      clear H; rintro _ B₁₅ s hs₁₅ ⟨U, us', un, rfl, hU, hul, hus⟩ H
      have hsb := hs₁₅
      replace bC := hsb _ _ bC
      replace bD := hsb _ _ bD
      replace hx := hsb _ _ hx
      replace hys := hys.sub hsb
      replace hN := hN.sub hsb
      replace hx2 := hsb _ _ hx2
      replace hN2 := hN2.sub hsb
      replace hkp := hsb _ _ hkp
      replace hmk := hmk.sub hsb
      replace hkvs : ∀ kv ∈ kvs, ∃ d, Rd prog w B₁₅ kv.2 d ∧ Dr d := fun kv hkv => let ⟨d, h1, h2⟩ := hkvs kv hkv; ⟨d, h1.sub hsb, h2⟩
      clear hsb hs₁₅ hrw hri
      have fmC : fmtRec.meths.find? (fun r => r.name == n_convert_field) = some dConv := find_is (by decide +kernel)
      have fmG : fmtRec.meths.find? (fun r => r.name == n_get_value) = some dGet := find_is (by decide +kernel)
      have fmF : fmtRec.meths.find? (fun r => r.name == n_format_field) = some dFmt := find_is (by decide +kernel)
      have fmK : fmtRec.meths.find? (fun r => r.name == n_check_unused_args) = some dChk := find_is (by decide +kernel)
      refine for_it (it_list R.handled takes_tuple H hU rfl rfl) (fun i B' O' l' => ∃ (qs : List Duo) (dv : List Value) (m : Nat) (pt : Tok) (v1 v2 v3 v4 v5 v6 v7 v8 v9 v10 : Option Value), O' = [(us, SetO prog w m), (due, LO dv)] ∧
        l' = ([(n_script, some (.ref S0)), (n_names, some (.ref N0)), (n_kept, some (.ref kp)), (n_maker, some (.ref mk)), (n_page, some (.str (S (pageOf qs)) pt)), (n_due, some (.ref due)), (n_used, some (.ref us)), (n_key, v1), (n_conversion, v2), (n_fill, v3), (n_side, v4), (n_width, v5), (n_fault, v6), (n_thing, v7), (n_value, v8), (n_told, v9), (n_written, v10), (n_cells, none), (n_k, none), (n_begin, none), (n_size, none), (n_cell, none), (n_over, none), (n_left, none)] : Locs) ∧
        m ≤ i ∧ qs.length ≤ i ∧ DueVs prog w B' dv qs ∧ ∀ q ∈ qs, q.Ok) ?_ ?_ ?_
      · exact ⟨[], [], 0, _, _, _, _, _, _, _, _, _, _, _, rfl, rfl, Nat.le_refl _, Nat.le_refl _, ⟨rfl, fun k v q h => by simp at h⟩, by simp⟩
      · rintro i u B₂ B₃ O₁ l₁ s qi Qe hend hi hu hs₂ ⟨qs, dv, m, pt, v1, v2, v3, v4, v5, v6, v7, v8, v9, v10, rfl, rfl, hm, hql, hdv, hqs⟩ hs₃ H
        clear hrest; clear rest
        have hsb := hs₂.trans hs₃
        replace bC := hsb _ _ bC
        replace bD := hsb _ _ bD
        replace hx := hsb _ _ hx
        replace hys := hys.sub hsb
        replace hN := hN.sub hsb
        replace hmk := hmk.sub hsb
        replace hkvs : ∀ kv ∈ kvs, ∃ d, Rd prog w B₃ kv.2 d ∧ Dr d := fun kv hkv => let ⟨d, h1, h2⟩ := hkvs kv hkv; ⟨d, h1.sub hsb, h2⟩
        replace hdv := hdv.sub hs₃
        obtain ⟨f, ⟨fx, kv, cv, t1, t2, t3, rfl, hf, hkv, hcv⟩, fok⟩ := hus u (List.mem_of_getElem? hu)
        replace hf := hsb _ _ hf
        with_reducible refine a_five R.handled H hf ?_; clear H; intro s H
        walk_at "mm"
        refine ⟨_, _, _, _, H, sp_found (k := 100) (R.le (by omega)) hTX H.tp H.fzIn hkv hx (by omega) hN, ?_⟩
        clear H; rintro _ B₄ s hs₄ ⟨x₄, t₄, rfl, hx4⟩ H
        with_reducible refine a_two R.handled H hx4 ?_; clear H; intro s H
        obtain ⟨r, hr⟩ : ∃ r, r = foundOf ys kvs f.ky := ⟨_, rfl⟩
        rw [← hr] at hx4 ⊢
        walk_at "mm"
        have hB4 := hs₄
        replace bC := hB4 _ _ bC
        replace bD := hB4 _ _ bD
        replace hx := hB4 _ _ hx
        replace hys := hys.sub hB4
        replace hN := hN.sub hB4
        replace hmk := hmk.sub hB4
        replace hdv := hdv.sub hB4
        replace hkvs : ∀ kv ∈ kvs, ∃ d, Rd prog w B₄ kv.2 d ∧ Dr d := fun kv hkv => let ⟨d, h1, h2⟩ := hkvs kv hkv; ⟨d, h1.sub hB4, h2⟩
        with_reducible refine x_tryJ (fun s' => ∃ (B₅ : FMap) (v8 : Option Value) (tt : Tok), Sub B₄ B₅ ∧ (∀ v, r = .inl v → v8 = some v) ∧ St X B₅ (qi ++ [(us, SetO prog w m), (due, LO dv)]) ([(n_script, some (.ref S0)), (n_names, some (.ref N0)), (n_kept, some (.ref kp)), (n_maker, some (.ref mk)), (n_page, some (.str (S (pageOf qs)) pt)), (n_due, some (.ref due)), (n_used, some (.ref us)), (n_key, some (kv)), (n_conversion, some (cv)), (n_fill, some (.str (S [f.fill]) t1)), (n_side, some (.str (S f.side) t2)), (n_width, some (.int (f.width : Int) t3)), (n_fault, some (.str (S (faultOf r)) t₄)), (n_thing, some (valOf' r)), (n_value, v8), (n_told, some (.str (S (faultOf r)) tt)), (n_written, v10), (n_cells, none), (n_k, none), (n_begin, none), (n_size, none), (n_cell, none), (n_over, none), (n_left, none)] : Locs) s') (fun v s' => ∃ b, r = .inr b ∧ ∃ s₀ e, v = .ref e ∧ St X B₄ (qi ++ [(us, SetO prog w m), (due, LO dv)]) ([(n_script, some (.ref S0)), (n_names, some (.ref N0)), (n_kept, some (.ref kp)), (n_maker, some (.ref mk)), (n_page, some (.str (S (pageOf qs)) pt)), (n_due, some (.ref due)), (n_used, some (.ref us)), (n_key, some (kv)), (n_conversion, some (cv)), (n_fill, some (.str (S [f.fill]) t1)), (n_side, some (.str (S f.side) t2)), (n_width, some (.int (f.width : Int) t3)), (n_fault, some (.str (S (faultOf r)) t₄)), (n_thing, some (valOf' r)), (n_value, v8), (n_told, v9), (n_written, v10), (n_cells, none), (n_k, none), (n_begin, none), (n_size, none), (n_cell, none), (n_over, none), (n_left, none)] : Locs) s₀ ∧ FlownT (if b then "KeyError" else "IndexError") X.env X.env.locals s₀ s' e) ?_ ?_ ?_
        · intro bd Qb hbd hj
          walk_at "mm"
          with_reducible refine e_methAt H P hmk fmG (by decide +kernel) (by rw [typeLookup_type, builtinLookup_eq_fast]; kernel_rfl) (by with_unfolding_all rfl) ?_
          walk_at "mm"
          have hN0 : ∃ m, s.heap.Ns X.env.locals m := ⟨_, H.ns⟩
          have H₀ := H
          refine ⟨_, _, _, _, _, H, sp_get (k := 0) (P := fun _ v => r = .inl v) (R.le (by omega)) hTX H.tp H.fzIn hkv fok.place hx (by omega) hN hfr' (by rw [H.fn]; decide) frm hN0 (fun _ v _ h => hr.trans h) (fun s' e b hb FL => ⟨b, hr.trans hb, s, e, rfl, H₀, FL⟩), ?_, fun _ _ h => h⟩
          clear H; rintro v₅ B₅ s hs₅ hv5 H
          walk_at "mm"
          cases hv5
          exact hj _ ⟨B₅, _, _, hs₅, fun v h => by injection h with h; rw [h], H⟩
        · rintro Qh _ s₁ ⟨b, hb, s₀, e₀, rfl, H₀, FL⟩ hj
          clear H
          refine landsT H₀ FL hfr' frm fun s'' H fly up hg => ?_
          cases b with
          | false =>
            refine takeT (T := "IndexError") (Xn := "IndexError") H₀ hg H up fly (kindOf_frmG F (by decide +kernel)) (G.free H (by decide +kernel)) (by decide +kernel) (by decide) (by decide) (isSubtype_of_subB (by decide +kernel)) (isSubtype_of_subB (by decide +kernel)) (isSubtype_of_subB (by decide +kernel)) fun s'' H => ?_
            walk_at "mm"
            exact hj _ ⟨B₄, _, _, Sub.refl _, (fun v h => by rw [hb] at h; cases h), by rw [hb] at H ⊢; exact H⟩
          | true =>
            refine passT (T := "KeyError") (Xn := "IndexError") H fly (kindOf_frmG F (by decide +kernel)) (G.free H (by decide +kernel)) (by decide +kernel) (by decide) (by decide) (isSubtype_of_subB (by decide +kernel)) (isSubtype_of_subB (by decide +kernel)) (isSubtype_of_subB (by decide +kernel)) ?_
            refine takeT (T := "KeyError") (Xn := "KeyError") H₀ hg H up fly (kindOf_frmG F (by decide +kernel)) (G.free H (by decide +kernel)) (by decide +kernel) (by decide) (by decide) (isSubtype_of_subB (by decide +kernel)) (isSubtype_of_subB (by decide +kernel)) (isSubtype_of_subB (by decide +kernel)) fun s'' H => ?_
            walk_at "mm"
            exact hj _ ⟨B₄, _, _, Sub.refl _, (fun v h => by rw [hb] at h; cases h), by rw [hb] at H ⊢; exact H⟩
        · rintro s ⟨B₅, v8, tt, hs₅, hv8, H⟩
          walk_at "mm"
          rw [bne_self_eq_false]
          walk_at "mm"
          rw [fault_nil]
          cases r with
          | inr b =>
            refine ite_f (by rfl) ?_
            walk_at "mm"
            exact hend (hs₄.trans hs₅) ⟨qs, dv, m, pt, _, _, _, _, _, _, _, _, _, _, rfl, rfl, by omega, by omega, hdv.sub hs₅, hqs⟩ H
          | inl v =>
          obtain rfl := hv8 v rfl
          replace bC := hs₅ _ _ bC
          replace bD := hs₅ _ _ bD
          replace hx := hs₅ _ _ hx
          replace hN := hN.sub hs₅
          replace hmk := hmk.sub hs₅
          replace hdv := hdv.sub hs₅
          obtain ⟨d, hvd, hdr⟩ : ∃ d, Rd prog w B₅ v d ∧ Dr d := by
            rcases found_mem hr.symm with ⟨p, hp⟩ | ⟨kv', hk', rfl⟩
            · obtain ⟨d, h1, h2⟩ := hys.get hp
              exact ⟨d, h2.sub hs₅, hds d (List.mem_of_getElem? h1)⟩
            · obtain ⟨d, h1, h2⟩ := hkvs kv' hk'
              exact ⟨d, h1.sub hs₅, h2⟩
          refine ite_t (by rfl) ?_
          walk_at "mm"
          have said : Said d := dr_said hdr
          have hu : (A.deeper X.env).units + 1096 < cLine := R.units
          obtain ⟨q, hq⟩ : ∃ q : Duo, q = ⟨d, cvOf d f.conv, f.fill, f.side, f.width⟩ := ⟨_, rfl⟩
          have qok : q.Ok := by rw [hq]; exact ⟨hdr, fok.fill, fok.side, cv_or fok.conv, fok.width⟩
          have hpl := page_len qs hqs
          have hxl' := q.xlen qok
          have htl := q.tlen qok
          have hwx : rx d = Mine.tx (fun c => [c]) d := rfl
          have key : ∀ B₅' cv' s, Sub B₅ B₅' → ConvV cv' q.conv → St X B₅' (qi ++ [(us, SetO prog w m), (due, LO dv)]) ([(n_script, some (.ref S0)), (n_names, some (.ref N0)), (n_kept, some (.ref kp)), (n_maker, some (.ref mk)), (n_page, some (.str (S (pageOf qs)) pt)), (n_due, some (.ref due)), (n_used, some (.ref us)), (n_key, some (kv)), (n_conversion, some (cv')), (n_fill, some (.str (S [f.fill]) t1)), (n_side, some (.str (S f.side) t2)), (n_width, some (.int (f.width : Int) t3)), (n_fault, some (.str (S []) t₄)), (n_thing, some (v)), (n_value, some (v)), (n_told, some (.str (S []) tt)), (n_written, v10), (n_cells, none), (n_k, none), (n_begin, none), (n_size, none), (n_cell, none), (n_over, none), (n_left, none)] : Locs) s →
              wpAny (model prog w) (A.deeper X.env) (execs rest X.env) (Then (model prog w) (A.deeper X.env) (fun _ _ => False) [] X.env Qe) (fun _ _ => False) s := by
            clear H; intro B₅' cv' s hsk hcv' H
            replace bC := hsk _ _ bC
            replace bD := hsk _ _ bD
            replace hmk := hmk.sub hsk
            replace hvd := hvd.sub hsk
            replace hdv := hdv.sub hsk
            walk_at "mm"
            refine m_sadd H (by walk_at "opop") (by omega) ?_
            walk_at "mm"
            obtain ⟨hk1, hk2⟩ := key_is (prog := prog) (w := w) hkv
            with_reducible refine' e_sadd H ?ho ?hm hk1 hk2 ?_; (case ho => walk_at "oput"); (case hm => omega); clear H; intro s H
            walk_at "mm"
            with_reducible refine e_methAt H P hmk fmC (by decide +kernel) (by rw [typeLookup_type, builtinLookup_eq_fast]; kernel_rfl) (by with_unfolding_all rfl) ?_
            walk_at "mm"
            refine ⟨_, _, _, _, _, H, sp_conv (k := 0) (P := fun _ v' => (q.conv = none ∧ v' = v) ∨ (q.conv ≠ none ∧ ∃ t, v' = .str (S q.x) t)) (Pe := fun _ _ => False) (R.le (by omega)) hTX H.tp H.fzIn hvd said (by omega) ?_, ?_, fun _ _ h => h⟩
            · cases hqc : q.conv with
              | none =>
                rw [hqc] at hcv'
                cases hcv'
                exact .inl ⟨rfl, fun _ _ => .inl ⟨rfl, rfl⟩⟩
              | some cc =>
                rw [hqc] at hcv'
                cases hcv' with
                | some cc tc =>
                have hne : some cc ≠ none := by simp
                rcases qok.conv with h | h | h | h
                · rw [hqc] at h; cases h
                · rw [hqc] at h; injection h with h; subst h
                  refine .inr (.inr (.inl ⟨_, rfl, fun _ t _ => .inr ⟨hne, t, ?_⟩⟩))
                  rw [said.rep, Duo.x, hqc, hq]; rfl
                · rw [hqc] at h; injection h with h; subst h
                  refine .inr (.inr (.inr ⟨_, rfl, fun _ t _ => .inr ⟨hne, t, ?_⟩⟩))
                  rw [said.asc, Duo.x, hqc, hq]; rfl
                · rw [hqc] at h; injection h with h; subst h
                  refine .inr (.inl ⟨_, rfl, fun _ t _ => .inr ⟨hne, t, ?_⟩⟩)
                  obtain ⟨ii, rfl⟩ := cv_int (d := d) (c := f.conv) (.inr (by rw [hq] at hqc; exact hqc))
                  show Value.str (PyData.shown _) _ = _
                  rw [said.rep, Duo.x, hqc, hq]; rfl
            clear H; rintro wv B₆ s hs₆ hwv H
            replace bC := hs₆ _ _ bC
            replace bD := hs₆ _ _ bD
            replace hmk := hmk.sub hs₆
            replace hvd := hvd.sub hs₆
            replace hdv := hdv.sub hs₆
            walk_at "mm"
            with_reducible refine e_methAt H P hmk fmF (by decide +kernel) (by rw [typeLookup_type, builtinLookup_eq_fast]; kernel_rfl) (by with_unfolding_all rfl) ?_
            walk_at "mm"
            refine ite_ejoin (fun v' s' => ∃ t', v' = Value.str (S (if f.side = [] then [] else f.fill :: f.side)) t' ∧ St X B₆ (qi ++ [(us, SetO prog w (m + 1)), (due, LO dv)]) ([(n_script, some (.ref S0)), (n_names, some (.ref N0)), (n_kept, some (.ref kp)), (n_maker, some (.ref mk)), (n_page, some (.str (S (pageOf qs)) pt)), (n_due, some (.ref due)), (n_used, some (.ref us)), (n_key, some (kv)), (n_conversion, some (cv')), (n_fill, some (.str (S [f.fill]) t1)), (n_side, some (.str (S f.side) t2)), (n_width, some (.int (f.width : Int) t3)), (n_fault, some (.str (S []) t₄)), (n_thing, some (v)), (n_value, some (v)), (n_told, some (.str (S []) tt)), (n_written, some (wv)), (n_cells, none), (n_k, none), (n_begin, none), (n_size, none), (n_cell, none), (n_over, none), (n_left, none)] : Locs) s') ?_ ?_
            · intro Qj hQj
              refine ite_b (fun e1 => ?_) (fun e1 => ?_)
              · have e1 : f.side ≠ [] := by simpa using e1
                walk_at "mm"
                refine b_cat H (by rcases fok.side with h | h | h | h <;> simp [h] <;> omega) ?_; clear H; intro t s H
                exact hQj ⟨_, by rw [if_neg e1]; rfl, H⟩
              · have e1 : f.side = [] := by simpa using e1
                walk_at "mm"
                exact hQj ⟨_, by rw [if_pos e1], H⟩
            clear H; rintro v₈ s ⟨t', rfl, H⟩
            walk_at "mm"
            have hwd := fok.width
            have wsaid : Said (.int (f.width : Int)) := dr_said (d := .int (f.width : Int)) (by show (f.width : Int).natAbs < 1000000000; omega)
            refine e_str H (.int _ _) (wsaid.wr R.guards (by omega)) ?_; clear H; intro t₉ s H
            rw [width_text]
            have hdl := toDigits10_len 2 f.width (by decide) (by omega)
            refine b_cat H (by rcases fok.side with h | h | h | h <;> simp [h] <;> omega) ?_; clear H; intro t₈ s H
            walk_at "mm"
            have hsp : SpR prog w (methRec fmtRec dFmt) dFmt.name (A.deeper X.env) [.ref mk, wv, .str (S (specOf f.fill f.side f.width)) t₈] B₆ s (fun _ v => ∃ t, v = .str (S q.tx) t) (fun _ _ => False) := by
              rcases hwv with ⟨h1, rfl⟩ | ⟨h1, t, rfl⟩
              · obtain ⟨ii, rfl⟩ := cv_int (d := d) (c := f.conv) (.inl (by rw [hq] at h1; exact h1))
                cases hvd
                have e : q.tx = padTx f.fill f.side f.width true (intText ii) := by
                  have hx : q.x = intText ii := by rw [Duo.x, h1, hq]; rfl
                  rw [Duo.tx, Duo.num, h1, hx, hq]; rfl
                rw [e] at htl ⊢
                have hii : ii.natAbs < 1000000000 := hdr
                exact sp_fmtI (k := 0) (R.le (by omega)) hTX H.tp H.fzIn fok.side fok.width (log_small hii) (by omega) fun _ _ _ => ⟨_, rfl⟩
              · have e : q.tx = padTx f.fill f.side f.width false q.x := by
                  have hn : q.num = false := by rw [Duo.num]; cases hc : q.conv with | none => exact absurd hc h1 | some c => rfl
                  rw [Duo.tx, hn, hq]
                rw [e] at htl ⊢
                exact sp_fmtS (k := 0) (R.le (by omega)) hTX H.tp H.fzIn fok.side fok.width (by have := fok.fill; simpa [fills5] using this) (by omega) fun _ _ _ => ⟨_, rfl⟩
            refine ⟨_, _, _, _, _, H, hsp, ?_, fun _ _ h => h⟩
            clear hsp H; rintro _ B₇ s hs₇ ⟨t₇, rfl⟩ H
            replace bC := hs₇ _ _ bC
            replace bD := hs₇ _ _ bD
            replace hmk := hmk.sub hs₇
            replace hvd := hvd.sub hs₇
            replace hdv := hdv.sub hs₇
            walk_at "mm"
            refine b_cat H (by simp only [List.length_singleton]; omega) ?_; clear H; intro t s H
            refine i_cat H (by simp only [List.length_append, List.length_singleton]; omega) ?_; clear H; intro tpg s H
            rw [← page_snoc]
            walk_at "mm"
            refine ite_ejoin (fun v' s' => ∃ t', v' = Value.str (S [fillOf f.side f.fill]) t' ∧ St X B₇ (qi ++ [(us, SetO prog w (m + 1)), (due, LO dv)]) ([(n_script, some (.ref S0)), (n_names, some (.ref N0)), (n_kept, some (.ref kp)), (n_maker, some (.ref mk)), (n_page, some (.str (S (pageOf (qs ++ [q]))) tpg)), (n_due, some (.ref due)), (n_used, some (.ref us)), (n_key, some (kv)), (n_conversion, some (cv')), (n_fill, some (.str (S [f.fill]) t1)), (n_side, some (.str (S f.side) t2)), (n_width, some (.int (f.width : Int) t3)), (n_fault, some (.str (S []) t₄)), (n_thing, some (v)), (n_value, some (v)), (n_told, some (.str (S []) tt)), (n_written, some (wv)), (n_cells, none), (n_k, none), (n_begin, none), (n_size, none), (n_cell, none), (n_over, none), (n_left, none)] : Locs) s') ?_ ?_
            · intro Qj hQj
              refine ite_b (fun e1 => ?_) (fun e1 => ?_)
              · have e1 : f.side ≠ [] := by simpa using e1
                walk_at "mm"
                exact hQj ⟨_, by unfold fillOf; rw [if_neg e1], H⟩
              · have e1 : f.side = [] := by simpa using e1
                walk_at "mm"
                exact hQj ⟨_, by unfold fillOf; rw [if_pos e1], H⟩
            clear H; rintro v₈ s ⟨t', rfl, H⟩
            walk_at "mm"
            with_reducible refine e_tuple H (by simp only [List.length_cons, List.length_nil]; omega) ?_; clear H; intro xt B₈ s hs₈ hxt H
            walk_at "mm"
            have hdl' := hdv.1
            with_reducible refine' e_append H ?hp ?hz ?_; (case hp => walk_at "oput"); (case hz => omega); clear H; intro s H
            walk_at "mm"
            have hsA := ((((hs₄.trans hs₅).trans hsk).trans hs₆).trans hs₇).trans hs₈
            refine hend hsA ⟨qs ++ [q], dv ++ [.ref xt], m + 1, _, _, _, _, _, _, _, _, _, _, _, rfl, rfl, by omega, by simp only [List.length_append, List.length_singleton]; omega, (hdv.sub hs₈).snoc ⟨xt, v, cv', _, _, _, rfl, by rw [hq]; exact hxt, by rw [hq]; exact hvd.sub hs₈, hcv'⟩, fun x hx => ?_⟩ H
            rcases List.mem_append.mp hx with h | h
            · exact hqs x h
            · rw [List.mem_singleton] at h; exact h ▸ qok
          refine e_isi .bool H hvd ?_; clear H; intro s H
          by_cases hint : ∃ ii, d = .int ii
          · obtain ⟨ii, rfl⟩ := hint
            walk_at "mm"
            refine ite_f (by rfl) ?_
            walk_at "mm"
            refine e_isi .int H hvd ?_; clear H; intro s H
            walk_at "mm"
            refine ite_f (by rfl) ?_
            walk_at "mm"
            exact key _ _ _ (Sub.refl _) (by rw [hq]; exact hcv) H
          · have hint : ∀ ii, d ≠ .int ii := fun ii e => hint ⟨ii, e⟩
            have keyb : ∀ s, St X B₅ (qi ++ [(us, SetO prog w m), (due, LO dv)]) ([(n_script, some (.ref S0)), (n_names, some (.ref N0)), (n_kept, some (.ref kp)), (n_maker, some (.ref mk)), (n_page, some (.str (S (pageOf qs)) pt)), (n_due, some (.ref due)), (n_used, some (.ref us)), (n_key, some (kv)), (n_conversion, some (cv)), (n_fill, some (.str (S [f.fill]) t1)), (n_side, some (.str (S f.side) t2)), (n_width, some (.int (f.width : Int) t3)), (n_fault, some (.str (S []) t₄)), (n_thing, some (v)), (n_value, some (v)), (n_told, some (.str (S []) tt)), (n_written, v10), (n_cells, none), (n_k, none), (n_begin, none), (n_size, none), (n_cell, none), (n_over, none), (n_left, none)] : Locs) s →
                wpAny (model prog w) (A.deeper X.env) (execs bd X.env) (Then (model prog w) (A.deeper X.env) (fun _ _ => False) rest X.env (Then (model prog w) (A.deeper X.env) (fun _ _ => False) [] X.env Qe)) (fun _ _ => False) s := by
              clear H; intro s H
              walk_at "m"
              walk_at "m"
              walk_at "mm"
              with_reducible refine e_listF H (by simp only [List.length_cons, List.length_nil]; omega) ?_; clear H; intro nr B₆ s hs₆ hnr H
              refine q_inNR (b := decide (f.conv = none ∨ f.conv = some 114)) H hnr ?_ ?_
              · generalize f.conv = fc at hcv
                cases hcv with
                | none => exact .inl ⟨rfl, by simp⟩
                | some cc tc => exact .inr ⟨_, _, rfl, by by_cases h : cc = 114 <;> simp [h]; exact fun e => h e.symm⟩
              walk_at "mm"
              have hqc : q.conv = if f.conv = none ∨ f.conv = some 114 then some 114 else some 97 := by rw [hq]; exact cv_other hint
              refine ite_b (fun e1 => ?_) (fun e1 => ?_)
              · rw [if_pos (of_decide_eq_true e1)] at hqc
                walk_at "mm"
                exact key _ _ _ hs₆ (by rw [hqc]; exact .some _ _) H
              · rw [if_neg (of_decide_eq_false e1)] at hqc
                walk_at "mm"
                exact key _ _ _ hs₆ (by rw [hqc]; exact .some _ _) H
            clear key
            by_cases hbl : Ty.bool.of d = true
            · rw [hbl]
              walk_at "mm"
              exact keyb _ H
            · rw [show Ty.bool.of d = false by simpa using hbl]
              walk_at "m"
              refine ite_ff' ?_
              walk_at "mm"
              refine e_isi .int H hvd ?_; clear H; intro s H
              have hil : Ty.int.of d = false := by cases d <;> first | rfl | exact absurd rfl hbl | exact absurd rfl (hint _)
              rw [hil]
              walk_at "mm"
              refine ite_t (by rfl) ?_
              refine ite_tt' ?_
              exact keyb _ H
      · rintro B₂ O₁ l₁ s hs₂ ⟨qs, dv, m, pt, v1, v2, v3, v4, v5, v6, v7, v8, v9, v10, rfl, rfl, hm, hql, hdv, hqs⟩ H
        have hsb := hs₂
        replace bC := hsb _ _ bC
        replace bD := hsb _ _ bD
        replace hx := hsb _ _ hx
        replace hN := hN.sub hsb
        replace hmk := hmk.sub hsb
        replace hx2 := hsb _ _ hx2
        replace hN2 := hN2.sub hsb
        replace hkp := hsb _ _ hkp
        have hfr : ∃ B₁ o, Sub B₂ B₁ ∧ B₁ due = some o ∧ LO dv o ∧ St X B₁ [(us, SetO prog w m)] ([(n_script, some (.ref S0)), (n_names, some (.ref N0)), (n_kept, some (.ref kp)), (n_maker, some (.ref mk)), (n_page, some (.str (S (pageOf qs)) pt)), (n_due, some (.ref due)), (n_used, some (.ref us)), (n_key, v1), (n_conversion, v2), (n_fill, v3), (n_side, v4), (n_width, v5), (n_fault, v6), (n_thing, v7), (n_value, v8), (n_told, v9), (n_written, v10), (n_cells, none), (n_k, none), (n_begin, none), (n_size, none), (n_cell, none), (n_over, none), (n_left, none)] : Locs) s := by
          obtain ⟨B₁, o, h1, h2, h3, h4⟩ := H.freezeP (a := due) (P := LO dv) (by walk_at "opop")
          exact ⟨B₁, o, h1, h2, h3, h4⟩
        clear H
        obtain ⟨B₃, oq, hs₃, hdo, ⟨nq, rfl⟩, H⟩ := hfr
        have hpl := page_len qs hqs
        have hdl := hdv.1
        walk_at "mm"
        with_reducible refine x_tryN ?_; intro bd hbd
        walk_at "mm"
        refine ⟨_, _, _, _, H, sp_cells (k := 100) (R.le (by omega)) hTX H.tp H.fzIn (by omega) (page_at qs [] hqs), ?_⟩
        clear H; rintro _ B₄ s hs₄ ⟨ca, cvs, cn, rfl, hca, hcv⟩ H
        have hcl := hcv.length
        rw [recs_length] at hcl
        have hsb := hs₃.trans hs₄
        replace bC := hsb _ _ bC
        replace bD := hsb _ _ bD
        replace hx := hsb _ _ hx
        replace hN := hN.sub hsb
        replace hmk := hmk.sub hsb
        replace hx2 := hsb _ _ hx2
        replace hN2 := hN2.sub hsb
        replace hkp := hsb _ _ hkp
        replace hdv := hdv.sub hsb
        replace hdo := hs₄ _ _ hdo
        walk_at "mm"
        refine e_lenL H (IsLF H hca rfl rfl) (by omega) ?_; clear H; intro t s H
        walk_at "mm"
        refine e_lenL H (IsLF H hdo rfl rfl) (by omega) ?_; clear H; intro t s H
        walk_at "mm"
        refine ite_f (by simp; omega) ?_
        walk_at "mm"
        with_reducible refine x_for ?_ (by intro _; with_unfolding_all rfl); intro bd hbd
        walk_at "mm"
        refine e_lenL H (IsLF H hdo rfl rfl) (by omega) ?_; clear H; intro t s H
        walk_at "mm"
        with_reducible refine e_range1 H ?_; clear H; intro r tr vr B₅ s hs₅ hr H
        obtain ⟨hrs, hrn⟩ := range_small (n := dv.length) (c := 1) (by omega) (.inl rfl)
        rw [show (dv.length + 1 - 1) / 1 = dv.length by simp] at hrn
        have hsb := hs₅
        replace bC := hsb _ _ bC
        replace bD := hsb _ _ bD
        replace hx := hsb _ _ hx
        replace hN := hN.sub hsb
        replace hmk := hmk.sub hsb
        replace hx2 := hsb _ _ hx2
        replace hN2 := hN2.sub hsb
        replace hkp := hsb _ _ hkp
        replace hdv := hdv.sub hsb
        replace hdo := hsb _ _ hdo
        replace hcv := hcv.sub hsb
        replace hca := hsb _ _ hca
        refine for_it (it_range R.handled takes_name H hr hrs hrn) (fun i B' O' l' => ∃ w2 w3 w4 w5 w7 w9 w11 w12 w13 w14 w15 w16, O' = [(us, SetO prog w m)] ∧ l' = ([(n_script, some (.ref S0)), (n_names, some (.ref N0)), (n_kept, some (.ref kp)), (n_maker, some (.ref mk)), (n_page, some (.str (S (pageOf qs)) pt)), (n_due, some (.ref due)), (n_used, some (.ref us)), (n_key, v1), (n_conversion, w2), (n_fill, w3), (n_side, w4), (n_width, w5), (n_fault, v6), (n_thing, w7), (n_value, v8), (n_told, w9), (n_written, v10), (n_cells, some (.ref ca)), (n_k, w11), (n_begin, w12), (n_size, w13), (n_cell, w14), (n_over, w15), (n_left, w16)] : Locs)) ?_ ?_ ?_
        · exact ⟨_, _, _, _, _, _, _, _, _, _, _, _, rfl, rfl⟩
        · rintro i v B₆ B₇ O₁ l₁ s qi Qe hend hi ⟨tk, rfl⟩ hs₆ ⟨w2, w3, w4, w5, w7, w9, w11, w12, w13, w14, w15, w16, rfl, rfl⟩ hs₇ H
          clear hrest; clear rest
          have hsb := hs₆.trans hs₇
          replace bC := hsb _ _ bC
          replace bD := hsb _ _ bD
          replace hdv := hdv.sub hsb
          replace hdo := hsb _ _ hdo
          replace hcv := hcv.sub hsb
          replace hca := hsb _ _ hca
          rw [show (0 : Int) + (i : Int) * 1 = (i : Int) by omega]
          obtain ⟨q, hq⟩ : ∃ q, qs[i]? = some q := ⟨qs[i]'(by omega), List.getElem?_eq_getElem _⟩
          obtain ⟨ce, hce, hcb, hcs, hcd, hct⟩ := recs_at qs [] hq
          have qok := hqs q (List.mem_of_getElem? hq)
          obtain ⟨xt, tv, cv, t1, t2, t3, hdi, hxt, htv, hqc⟩ := hdv.2 i dv[i] q (List.getElem?_eq_getElem hi) hq
          obtain ⟨cvv, hcvi, ct, yt, u1, u2, u3, rfl, hct1, hct2⟩ := hcv.get hce
          rw [hcd] at hct2
          have hct : ((pageOf qs).drop ce.pl).take (ce.st - ce.pl) = q.tx := hct
          rw [hct, hcb, hcs] at hct1
          walk_at "mm"
          refine e_lat i (IsLF H hdo rfl rfl) (List.getElem?_eq_getElem hi) (by omega) ?_ (by rfl)
          rw [hdi]
          with_reducible refine a_five R.handled H hxt ?_; clear H; intro s H
          walk_at "mm"
          refine e_lat i (IsLF H hca rfl rfl) hcvi (by omega) ?_ (by rfl)
          with_reducible refine a_four R.handled H hct1 ?_; clear H; intro s H
          walk_at "mm"
          refine e_max R.handled H ?_; clear H; intro t s H
          rw [show max ((q.width : Int) - (q.x.length : Int)) 0 = ((q.width - q.x.length : Nat) : Int) by omega]
          obtain ⟨tov, htov⟩ : ∃ tov : Tok, tov = t := ⟨_, rfl⟩
          rw [← htov]
          walk_at "mm"
          refine ite_join (fun s' => ∃ (sd : List Nat) (ts : Tok), sd = (if q.side = [] then (if q.conv = none then [62] else [60]) else q.side) ∧ St X B₇ (qi ++ [(us, SetO prog w m)]) ([(n_script, some (.ref S0)), (n_names, some (.ref N0)), (n_kept, some (.ref kp)), (n_maker, some (.ref mk)), (n_page, some (.str (S (pageOf qs)) pt)), (n_due, some (.ref due)), (n_used, some (.ref us)), (n_key, v1), (n_conversion, some (cv)), (n_fill, some (.str (S [fillOf q.side q.fill]) t1)), (n_side, some (.str (S sd) ts)), (n_width, some (.int (q.width : Int) t3)), (n_fault, v6), (n_thing, some (tv)), (n_value, v8), (n_told, some (.ref yt)), (n_written, v10), (n_cells, some (.ref ca)), (n_k, some (.int (i : Int) tk)), (n_begin, some (.int (q.L : Int) u1)), (n_size, some (.int (q.x.length : Int) u2)), (n_cell, some (.str (S q.tx) u3)), (n_over, some (.int ((q.width - q.x.length : Nat) : Int) tov)), (n_left, w16)] : Locs) s') ?_ ?_
          · intro Qj hQj
            refine ite_b (fun e1 => ?_) (fun e1 => ?_)
            · have e1 : q.side = [] := by simpa using e1
              walk_at "mm"
              cases hcq : q.conv with
              | none =>
                rw [hcq] at hqc
                cases hqc
                refine is_none_none ?_
                walk_at "mm"
                exact hQj ⟨_, _, by rw [if_pos e1, hcq]; rfl, H⟩
              | some cc =>
                rw [hcq] at hqc
                cases hqc with
                | some _ tc =>
                refine is_str_none ?_
                walk_at "mm"
                exact hQj ⟨_, _, by rw [if_pos e1, hcq]; rfl, H⟩
            · have e1 : q.side ≠ [] := by simpa using e1
              walk_at "mm"
              exact hQj ⟨_, _, by rw [if_neg e1], H⟩
          clear H; rintro s ⟨sd, ts, hsd, H⟩
          walk_at "mm"
          walk_at "dS"
          walk_at "mm"
          refine b_floor H (by decide) (PyProof.noPylong_of_log2 (by decide +kernel)) ?_; clear H; intro t s H
          walk_at "mm"
          refine dict_end [(S [60], _), (S [62], _), (S [94], _)] H ⟨PySem.strKind_is _ _ _ _, rfl, PySem.strKind_is _ _ _ _, rfl, PySem.strKind_is _ _ _ _, rfl, trivial⟩ ?_; clear H; intro B₈ s hs₈ hD H
          rw [merged_nil (by simp [S_inj])] at hD
          walk_at "mm"
          obtain ⟨tl, hvl⟩ := left_at (ov := q.width - q.x.length) (conv := q.conv) (t1 := _) (t2 := _) (t3 := _) qok.side
          rw [← hsd] at hvl
          with_reducible refine e_ditem H hD (PySem.strKind_is _ _ _ _) hvl ?_ (by with_unfolding_all rfl); clear H; intro s H
          rw [show leftOf q.side q.conv.isNone (q.width - q.x.length) = q.L from rfl]
          replace bC := hs₈ _ _ bC
          replace bD := hs₈ _ _ bD
          replace hct2 := hct2.sub hs₈
          replace htv := htv.sub hs₈
          walk_at "mm"
          refine e_isi .bool H htv ?_; clear H; intro s H
          walk_at "mm"
          with_reducible refine e_listF H (by simp only [List.length_cons, List.length_nil]; omega) ?_; clear H; intro x₉ B₉ s hs₉ hx9 H
          replace bC := hs₉ _ _ bC
          replace bD := hs₉ _ _ bD
          have hu : (A.deeper X.env).units + 1096 < cLine := R.units
          have hdt := dr_tl qok.dr
          refine q_neT (n := 0) (ds := [.bool (isB q.d), q.d]) H.fz (by simp [Tl]; exact hdt) (hct2.sub hs₉) (.list hx9 rfl rfl (.cons (by rw [isB_of]; exact .bool _) (.cons (htv.sub hs₉) .nil))) (by omega) ?_
          walk_at "mm"
          refine ite_f (by rw [bne_self_eq_false]) ?_
          walk_at "mm"
          have hL := q.L_le
          have hqw := qok.width
          have hxl' := q.xlen qok
          have htl := q.tlen qok
          refine b_rep H (by omega) ?_; clear H; intro t s H
          walk_at "mm"
          refine cut_end q.L (q.L + q.x.length) H (by omega) rfl (by omega) ?_; clear H; intro t s H
          rw [Nat.add_sub_cancel_left, q.mid]
          refine b_cat H (by rw [List.length_replicate]; omega) ?_; clear H; intro t s H
          walk_at "mm"
          rw [show ((q.width - q.x.length : Nat) : Int) - (q.L : Int) = (q.R : Int) by unfold Duo.R; omega]
          refine b_rep H (by unfold Duo.R; omega) ?_; clear H; intro t s H
          refine b_cat H (by simp only [List.length_append, List.length_replicate]; unfold Duo.R; omega) ?_; clear H; intro t s H
          rw [← q.tx_is]
          walk_at "mm"
          refine ite_f (by rw [bne_self_eq_false]) ?_
          walk_at "mm"
          have hsA := hs₈.trans hs₉
          cases hcq : q.conv with
          | none =>
            rw [hcq] at hqc
            cases hqc
            refine PySem.EqNone.eq_none_str ?_
            walk_at "mm"
            exact hend hsA ⟨_, _, _, _, _, _, _, _, _, _, _, _, rfl, rfl⟩ H
          | some cc =>
            rw [hcq] at hqc
            cases hqc with
            | some _ tc =>
            walk_at "mm"
            refine ite_b (fun e1 => ?_) (fun e1 => ?_)
            · have e1 : cc = 97 := by simpa using e1
              subst e1
              have hxa : ∀ x ∈ q.x, x ≤ 126 := fun x hx => by
                rw [Duo.x, if_pos hcq] at hx
                exact ((dr_said qok.dr).signs x hx).2
              walk_at "mm"
              with_reducible refine e_listcomp [n_sign] ?_ (closureFor_of (cl := []) (by simp [clos])) (by decide +kernel) (by rfl) (by decide +kernel) (by decide +kernel) (by decide +kernel) (by intro _; with_unfolding_all rfl)
              walk_at "mm"
              refine cut_end q.L (q.L + q.x.length) H (by omega) rfl (by omega) ?_; clear H; intro t s H
              rw [Nat.add_sub_cancel_left, q.mid]
              refine lc_it (it_str R.handled H) (by omega) (fun i B' l' ys => ∃ v1, l' = ([(n_sign, v1)] : Locs) ∧ ys = []) ⟨_, rfl, rfl⟩ ?_ ?_
              · rintro X' D' C' j v B₁₀ B₁₁ l₁ zs s qj Qy Qn hend' hj ⟨cc, tcc, hcc, rfl⟩ hs₁₀ ⟨v1, rfl, rfl⟩ hs₁₁ H
                have hcA := hxa cc (List.mem_of_getElem? hcc)
                have hTX : T1 X'.T := C'.T ▸ hTX
                replace G := C'.pg G
                walk_at "mm"
                refine PySem.P.gt_str ?_
                rw [show decide ((S [126]).cps.toList < (S [cc]).cps.toList) = false from by (show decide ([126] < [cc]) = false); rw [lt1]; simp; omega]
                walk_at "mm"
                exact hend'.n (Sub.refl _) ⟨_, rfl, rfl⟩ H
              · rintro B₁₀ B₁₁ D' zs l₁ k s₁ hs₁₀ ⟨v1, rfl, rfl⟩ hs₁₁ hxl s H; clear s₁
                have hsB := hs₁₀.trans hs₁₁
                walk_at "mm"
                with_reducible refine e_listF H (by simp) ?_; clear H; intro x₂ B₁₂ s hs₁₂ hx2' H
                refine q_neT (n := 0) (ds := []) H.fz (by simp [Tl]) (.list (hs₁₂ _ _ hxl) rfl rfl .nil) (.list hx2' rfl rfl .nil) (by omega) ?_
                walk_at "mm"
                exact hend ((hsA.trans hsB).trans hs₁₂) ⟨_, _, _, _, _, _, _, _, _, _, _, _, rfl, rfl⟩ H
            · walk_at "mm"
              exact hend hsA ⟨_, _, _, _, _, _, _, _, _, _, _, _, rfl, rfl⟩ H
        · rintro B₆ O₁ l₁ s hs₆ ⟨w2, w3, w4, w5, w7, w9, w11, w12, w13, w14, w15, w16, rfl, rfl⟩ H
          replace bC := hs₆ _ _ bC
          replace bD := hs₆ _ _ bD
          replace hx := hs₆ _ _ hx
          replace hN := hN.sub hs₆
          replace hmk := hmk.sub hs₆
          replace hx2 := hs₆ _ _ hx2
          replace hN2 := hN2.sub hs₆
          replace hkp := hs₆ _ _ hkp
          walk_at "mm"
          with_reducible refine e_methAt H P hmk fmK (by decide +kernel) (by rw [typeLookup_type, builtinLookup_eq_fast]; kernel_rfl) (by with_unfolding_all rfl) ?_
          walk_at "mm"
          refine ⟨_, _, _, _, _, H, sp_chk (k := 0) (Pe := fun _ _ => False) (R.le (by omega)) hTX H.tp H.fzIn, ?_, fun _ _ h => h⟩
          clear H; rintro _ B₇ s hs₇ rfl H
          replace bC := hs₇ _ _ bC
          replace bD := hs₇ _ _ bD
          walk_at "mm"
          refine wpAny_isNot_self rfl ?_
          walk_at "mm"
          with_reducible refine e_tuple H (by simp only [List.length_cons, List.length_nil]; omega) ?_; clear H; intro lt B₈ s hs₈ hlt H
          have hsb := hs₇.trans hs₈
          walk_at "mm"
          have hu : (A.deeper X.env).units + 1096 < cLine := R.units
          refine q_kept H hlt (hsb _ _ hkp) (hsb _ _ hx) (hsb _ _ hx2) (hN.sub hsb) (hN2.sub hsb) (by omega) ?_
          walk_at "mm"
          exact hret H rfl
end Mine
-- part F2
open PySem PySem.Spec PySem.Calls PyProof.Rows PySem.W
set_option maxRecDepth 100000
namespace Mine
/-- the class of the text has no __init__ -/
def noInit (h : Heap) : Bool := match h.nsMap mainGlobals (Str.ofString "Formatter") with
  | some (.ref C) => match h.get? C with
    | some o => match o.data with
      | .cls cd => h.isNs cd.ns && (h.nsMap cd.ns "__init__").isNone
      | _ => false
    | none => false
  | _ => false
theorem nsMap_keeps {h h' : Heap} {a : Addr} {o : Obj} (k : ∀ b o, h.get? b = some o → h'.get? b = some o) (ho : h.get? a = some o) (x : Str) : h'.nsMap a x = h.nsMap a x := by
  unfold Heap.nsMap; rw [ho, k _ _ ho]
theorem noInit_keeps {h h' : Heap} (e : noInit h = true) (k : ∀ b o, h.get? b = some o → h'.get? b = some o) : noInit h' = true := by
  unfold noInit at e ⊢
  cases hg : h.get? mainGlobals with
  | none => have : h.nsMap mainGlobals (Str.ofString "Formatter") = none := by unfold Heap.nsMap; rw [hg]
            rw [this] at e; cases e
  | some og =>
    rw [nsMap_keeps k hg]
    split at e
    · rename_i C hC
      cases ho : h.get? C with
      | none => rw [ho] at e; cases e
      | some o =>
        rw [ho] at e; rw [k _ _ ho]
        dsimp only at e ⊢
        split at e
        · rename_i cd hcd
          rw [Bool.and_eq_true_iff] at e ⊢
          cases hn : h.get? cd.ns with
          | none => have := e.1; unfold Heap.isNs at this; rw [hn] at this; cases this
          | some on =>
            rw [nsMap_keeps k hn]
            refine ⟨?_, e.2⟩
            have := e.1
            unfold Heap.isNs at this ⊢
            rw [hn] at this; rw [k _ _ hn]; exact this
        · cases e
    · cases e
def fmHook : Hook := ⟨Bool, fun s => noInit s.heap, fun _ => true, fun _ h => noInit h = true, fun _ _ e => e, fun _ _ _ e k => noInit_keeps e k⟩
theorem fm_find : (dclssOf V1 []).find? (fun c : ClsRec => c.name == ("Formatter" : Str)) = some fmtRec := find_is (by decide +kernel)
theorem fm_mem : fmtRec ∈ dclssOf V1 [] := List.mem_of_find?_eq_some fm_find
theorem fm_name : fmtRec.name = ("Formatter" : Str) := beq_iff_eq.mp (List.find?_some (p := fun c : ClsRec => c.name == ("Formatter" : Str)) fm_find)
theorem fm_at {mean : ExcName → Option Value} {mg mb : Str → Option Value} {lo : List Str} {h : Heap} (T : Top V1 lo mean mg mb h) (TD : TopCD V1 [] mg h) (Y : noInit h = true) : ∃ C N mN, FmAt mg fmtRec h C N mN := by
  obtain ⟨C, N, mN, hg, P⟩ := TD fmtRec fm_mem
  refine ⟨C, N, mN, hg, P, ?_⟩
  obtain ⟨nm, q, bs, sn, sub, col, dd, k0, k1, k2, k3, k5, hC⟩ := P.cls.obj
  unfold noInit at Y
  rw [← T.g.eq_nsMap, show Str.ofString "Formatter" = fmtRec.name from fm_name.symm, hg] at Y
  dsimp only at Y
  rw [hC] at Y
  have e : (h.nsMap N "__init__").isNone = true := (Bool.and_eq_true_iff.mp Y).2
  rw [P.cls.ns.eq_nsMap]
  exact Option.isNone_iff_eq_none.mp e
theorem law_find : (recsOf V1).find? (fun r => r.name == (Str.ofString "law")) = some dLaw := find_is (by decide +kernel)
theorem ints_are {vs : List Value} {ns : List Int} (h : IntsAre vs ns) : (∀ v ∈ vs, ∃ i t, v = Value.int i t) ∧ vs.length = ns.length := by
  induction h with
  | nil => exact ⟨fun v hv => (nomatch hv), rfl⟩
  | cons n t _ ih =>
    refine ⟨fun v hv => ?_, by simp [ih.2]⟩
    rcases List.mem_cons.mp hv with rfl | hv
    · exact ⟨_, _, rfl⟩
    · exact ih.1 v hv
theorem reads_at {h : Heap} {a : Addr} {ds : List PyData} {as : List Addr} (r : Reads h (.ref a) (.list ds) as) : a ∈ as := by cases r; simp
theorem law_ends {prog : Program} {w : World} {mean : ExcName → Option Value} {mg mb : Str → Option Value} {s : Shared} {C N : Addr} {mN : Str → Option Value} (T : Top V1 (looseW V1 []) mean mg mb s.heap) (P : FmAt mg fmtRec s.heap C N mN)
    {fa S0 : Addr} {vs : List Value} {ns : List Int} (hmg : mg (Str.ofString "law") = some (.ref fa)) (hL : s.heap.IsList S0 vs.toArray) (hI : IntsAre vs ns) (hl : ns.length ≤ 63) (hS : S0 ≠ sysModules) {R : Result → Shared → Prop}
    (h : ∀ s', Keep s.heap s'.heap → s'.gens = s.gens → s'.os = s.os → R (.ok (.ret (.bool true))) s') : codeAny (model prog w) callerA (.call (.ref fa) ⟨[.ref S0], []⟩) R s := by
  have hn : dLaw.name = Str.ofString "law" := beq_iff_eq.mp (List.find?_some (p := fun r : DefRec => r.name == Str.ofString "law") law_find)
  obtain ⟨a, o, pm, code, doc, h1, h2, h3, h4⟩ := T.fn dLaw (List.mem_of_find?_eq_some law_find)
  rw [hn, hmg] at h1
  obtain rfl : fa = a := by injection h1 with e; injection e
  obtain ⟨oS, hoS, hc, k, hd⟩ := hL
  obtain ⟨hi, hlen⟩ := ints_are hI
  have hB : Fz (fun b => if b = S0 then some oS else none) s.heap := by
    refine ⟨fun b o e => ?_, fun b o e => ?_⟩
    · by_cases q : b = S0
      · rw [q]
        have e : (if b = S0 then some oS else none) = some o := e
        rw [if_pos q] at e; cases e; exact hoS
      · have e : (if b = S0 then some oS else none) = some o := e
        rw [if_neg q] at e; cases e
    · by_cases q : b = S0
      · rw [q]; exact hS
      · have e : (if b = S0 then some oS else none) = some o := e
        rw [if_neg q] at e; cases e
  have hzz : sizeLine = 16777216 := by decide
  refine codeAny_mono (sp_law (T := ⟨V1, looseW V1 [], mean, mg, mb⟩) ⟨rfl, rfl, by decide +kernel, by decide +kernel⟩ rfl ⟨rfl, rfl⟩ T hB P (if_pos rfl) hc hd hi (by omega) fa o pm code doc h2 h3 h4) fun r s' hr => ?_
  obtain ⟨v, B', rfl, hg, rfl⟩ := hr
  exact h s' hg.keep hg.gens hg.os
end Mine
set_option maxHeartbeats 8000000 in
theorem PySem.Challenge.cw_in0092_02_holds : PySem.Challenge.rw_in0092_02.Holds := by
  w_on; refine holds_law Mine.said2 fun said => ?_; o_head Mine.fmHook
  (case hw => w_witness2)
  intro w s₀ s₁ mg mb G Y fa o pm cd doc dV kV ho hd hcd hD hmg hg args vals as hpre hlay hrd hwl hlo
  have TD := G.TD
  have T := G.T
  clear G ho hd hcd hD
  have hlo2 := hlo
  obtain ⟨C, N, mN, P⟩ := Mine.fm_at T TD Y
  clear TD Y
  wrow_args hpre hlay hrd hwl hlo
  rename_i hs0 hl0 hL1 hr1 hl2 L1 L2 S0 vs L3 hL ra w1 r0 hI hr hc1 hc2
  refine enter_call (Mine.law_ends T P hmg hL hI (by omega) (fun e => by have := hlo2 S0 (List.mem_append_left _ (Mine.reads_at r0)); rw [e] at this; cases this) fun s' hk hg' ho' => ?_)
  refine GoodW.toG ⟨.inl ⟨_, .bool true, [], rfl, raisesW_false (by wrow_none_raised), .bool true, postW_of (by wrow_shape) (by wtm_val) (by w_fin), fun _ => ⟨List.nodup_nil, fun a ha => nomatch ha⟩⟩, hk, ho', hg'.trans hg⟩
