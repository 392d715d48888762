import PyProof.Rows.All
import Wide.All
import Open.Line
import OpenK.KCall
import Wide.FinOn
import PyProof.ObjNew
import PyProof.InstEq
import PyProof.FactsAll.object_1
import PyProof.Rows.TopObjD
import PyProof.RulesAs
import PyProof.StationsW
import PyProof.NsDelKeeps
import PyProof.ExcStrCall
import PyProof.Rows.Exc
import PyProof.FactsAll.str_4
import PyProof.Rows.Catch
import PyProof.ExcStrAll.ValueError
import Lean
import PySem.Challenge.RW_in0092_01
set_option Elab.async false
-- part S1
section
open PySem PySem.W
set_option maxRecDepth 100000
namespace Mine
set_option maxHeartbeats 8000000 in
/-- the look at the law's text -/
theorem said1 : OpenLaw.wellSaid PySem.Challenge.rw_in0092_01 = true := by decide +kernel
end Mine
end
-- part T0
section
open PySem
namespace Mine
theorem setGen_toks (s : Shared) (g : Nat) (x : GenState) : (s.setGen g x).toks = s.toks := rfl
/-- no run takes a token back -/
theorem runs_toks {M : Model} {Γ : PySem.Ctx} {p : Pos} {t : Sem PySem.Fin} {fs : List Frame} {s s' : Shared} {e : End} (h : Runs M Γ p t fs s e s') : s.toks ≤ s'.toks := by
  induction h with
  | done | raise | yield => exact Nat.le_refl _
  | fresh _ ih => exact Nat.le_trans (Nat.le_succ _) ih
  | call _ _ i1 i2 => exact Nat.le_trans i1 i2
  | resumeFresh _ _ _ _ i1 i2 => exact Nat.le_trans i1 i2
  | resumeSuspended _ _ _ _ i1 i2 => exact Nat.le_trans i1 i2
  | segRet _ _ i1 i2 => exact Nat.le_trans i1 i2
  | segGen _ _ i1 i2 => exact Nat.le_trans i1 i2
  | segSuspGen _ _ _ _ i1 i2 => exact Nat.le_trans i1 i2
  | _ => assumption
theorem wakes_toks {M : Model} {Γ : PySem.Ctx} {p : Pos} {g : Nat} {r : Resume} {s s' : Shared} {res : GenResult} (h : Wakes M Γ p g r s res s') : s.toks ≤ s'.toks := by
  unfold Wakes at h
  split at h
  · exact h.elim
  · split at h
    · obtain ⟨e₁, s₁, h1, _, _, rfl⟩ := h
      have := runs_toks h1
      exact this
    · obtain ⟨_, rfl⟩ := h; exact Nat.le_refl _
    · obtain ⟨_, rfl⟩ := h; exact Nat.le_refl _
  · obtain ⟨e₁, s₁, h1, _, _, rfl⟩ := h
    have := runs_toks h1
    exact this
  · obtain ⟨_, rfl⟩ := h; exact Nat.le_refl _
  · obtain ⟨_, rfl⟩ := h; exact Nat.le_refl _
theorem wp_toks {α : Type} (M : Model) (Γ : PySem.Ctx) (t : Sem α) : ∀ (Q : α → Pos → Shared → Prop) (E : Value → Pos → Shared → Prop) (n : Nat) (p : Pos) (s : Shared), n ≤ s.toks →
    Sem.wp M Γ t (fun a p' s' => n ≤ s'.toks → Q a p' s') (fun e p' s' => n ≤ s'.toks → E e p' s') p s → Sem.wp M Γ t Q E p s := by
  induction t with
  | pure a => intro Q E n p s hn h; exact h hn
  | raise e => intro Q E n p s hn h; exact h hn
  | unsupported | finish | yield | fork | await | register => intro Q E n p s hn h; exact h
  | load a _ k ih => intro Q E n p s hn ⟨o, ho, h⟩; exact ⟨o, ho, ih _ _ _ _ _ _ hn h⟩
  | genState g k ih => intro Q E n p s hn ⟨o, ho, h⟩; exact ⟨o, ho, ih _ _ _ _ _ _ hn h⟩
  | update a _ f k ih => intro Q E n p s hn ⟨ha, h⟩; exact ⟨ha, ih _ _ _ _ _ _ hn h⟩
  | choose _ _ k ih => intro Q E n p s hn ⟨ha, h⟩; exact ⟨ha, ih _ _ _ _ _ _ hn h⟩
  | call c h g l k ih =>
    intro Q E n p s hn ⟨r, s₁, hr, h⟩
    exact ⟨r, s₁, hr, ih _ _ _ _ _ _ (Nat.le_trans hn (runs_toks hr)) h⟩
  | resume g r l k ih =>
    intro Q E n p s hn ⟨res, s₁, hw, h⟩
    exact ⟨res, s₁, hw, ih _ _ _ _ _ _ (Nat.le_trans hn (wakes_toks hw)) h⟩
  | fresh k ih => intro Q E n p s hn h; exact ih _ _ _ _ _ _ (Nat.le_trans hn (Nat.le_succ _)) h
  | rule _ k ih | «at» _ k ih | loadIfAlive _ k ih | point _ k ih | alloc _ k ih | ask k ih | os _ _ k ih | handled _ k ih | newGen _ k ih | stack k ih | thread k ih => intro Q E n p s hn h; exact ih _ _ _ _ _ _ hn h
/-- what comes later has no fewer tokens -/
theorem any_toks {α : Type} {M : Model} {A : Around} {t : Sem α} {Q : α → Shared → Prop} {E : Value → Shared → Prop} {s : Shared}
    (h : wpAny M A t (fun a s' => s.toks ≤ s'.toks → Q a s') (fun e s' => s.toks ≤ s'.toks → E e s') s) : wpAny M A t Q E s :=
  fun Γ p hΓ => wp_toks M Γ t _ _ s.toks p s (Nat.le_refl _) (h Γ p hΓ)
end Mine
end
-- part C0
section
open PySem PySem.Spec PySem.Calls PyProof.Rows PySem.W
namespace Mine

abbrev FMap := Addr → Option Obj
abbrev Locs := List (Str × Option Value)
abbrev Owns := List (Addr × (Obj → Prop))

def mOf (l : Locs) (x : Str) : Option Value := (l.lookup x).join

theorem mOf_cons_self {x : Str} {o : Option Value} {r : Locs} : mOf ((x, o) :: r) x = o := by simp [mOf, List.lookup]
theorem mOf_cons_ne {x y : Str} {o : Option Value} {r : Locs} (h : y ≠ x) : mOf ((x, o) :: r) y = mOf r y := by
  have : (y == x) = false := beq_eq_false_iff_ne.mpr h
  simp [mOf, List.lookup, this]

inductive Get : Locs → Str → Value → Prop
  | here {x v r} : Get ((x, some v) :: r) x v
  | there {p r x v} : Get r x v → Get (p :: r) x v
inductive Put : Locs → Str → Value → Locs → Prop
  | here {x o v r} : Put ((x, o) :: r) x v ((x, some v) :: r)
  | there {p r x v r'} : Put r x v r' → Put (p :: r) x v (p :: r')

theorem Get.mem {l x v} (h : Get l x v) : (x, some v) ∈ l := by
  induction h with
  | here => exact .head _
  | there _ ih => exact .tail _ ih
theorem mOf_of_mem : ∀ {l : Locs} {x v}, (l.map (·.1)).Nodup → (x, some v) ∈ l → mOf l x = some v
  | [], _, _, _, h => nomatch h
  | (y, o) :: r, x, v, hn, h => by
    rw [List.map_cons, List.nodup_cons] at hn
    cases h with
    | head => exact mOf_cons_self
    | tail _ h =>
      have : x ≠ y := fun e => hn.1 (e ▸ List.mem_map_of_mem (f := (·.1)) h)
      rw [mOf_cons_ne this]; exact mOf_of_mem hn.2 h
theorem Get.mOf {l x v} (h : Get l x v) (hn : (l.map (·.1)).Nodup) : mOf l x = some v := mOf_of_mem hn h.mem
theorem Put.keys {l x v l'} (h : Put l x v l') : l'.map (·.1) = l.map (·.1) := by
  induction h with
  | here => rfl
  | there _ ih => simp [ih]
theorem Put.mem {l x v l'} (h : Put l x v l') : x ∈ l.map (·.1) := by
  induction h with
  | here => simp
  | there _ ih => simp at ih ⊢; exact .inr ih
theorem Put.mOf {l x v l'} (h : Put l x v l') : (l.map (·.1)).Nodup → Mine.mOf l' = fun y => if y = x then some v else Mine.mOf l y := by
  induction h with
  | @here x o v r =>
    intro _; funext y
    by_cases e : y = x
    · subst e; simp [mOf_cons_self]
    · rw [if_neg e, mOf_cons_ne e, mOf_cons_ne e]
  | @there p r x v r' h ih =>
    intro hn
    rw [List.map_cons, List.nodup_cons] at hn
    obtain ⟨z, o⟩ := p
    funext y
    have hx : x ≠ z := fun e => hn.1 (e ▸ h.mem)
    by_cases e : y = z
    · subst e; rw [mOf_cons_self, mOf_cons_self, if_neg (Ne.symm hx)]
    · rw [mOf_cons_ne e, mOf_cons_ne e, ih hn.2]

/-- what stands fixed while one frame runs -/
structure Fx where
  p : Program
  loose : List Str
  mean : ExcName → Option Value
  mg : Str → Option Value
  mb : Str → Option Value
  env : Env
  h0 : Heap
  B0 : FMap
  gens : Array GenState
  os : OsState
  drawn : Drawn

def Sub (B B' : FMap) : Prop := ∀ b o, B b = some o → B' b = some o
theorem Sub.refl (B : FMap) : Sub B B := fun _ _ h => h
theorem Sub.trans {B B' B'' : FMap} (h : Sub B B') (h' : Sub B' B'') : Sub B B'' := fun b o e => h' b o (h b o e)
def Keep (h h' : Heap) : Prop := ∀ b o, h.get? b = some o → h'.get? b = some o
theorem Keep.refl (h : Heap) : Keep h h := fun _ _ e => e
theorem Keep.trans {a b c : Heap} (h : Keep a b) (h' : Keep b c) : Keep a c := fun x o e => h' x o (h x o e)

/-- what is frozen stands in the heap -/
structure Fz (B : FMap) (h : Heap) : Prop where
  fz : ∀ b o, B b = some o → h.get? b = some o
  low : ∀ b o, B b = some o → b ≠ sysModules

/-- nothing that stood is turned; the frozen part has grown by new objects alone -/
structure Grow (B : FMap) (s : Shared) (B' : FMap) (s' : Shared) : Prop where
  sub : Sub B B'
  fz : ∀ b o, B' b = some o → s'.heap.get? b = some o
  low : ∀ b o, B' b = some o → b ≠ sysModules
  keep : Keep s.heap s'.heap
  new : ∀ b o, B' b = some o → B b = some o ∨ s.heap.get? b = none
  gens : s'.gens = s.gens
  os : s'.os = s.os
  drawn : s'.drawn = s.drawn
  tk : 0 < s'.toks

structure St (X : Fx) (B : FMap) (O : Owns) (l : Locs) (s : Shared) : Prop where
  ns : s.heap.Ns X.env.locals (mOf l)
  nd : (l.map (·.1)).Nodup
  kind : ∀ x ∈ l.map (·.1), X.env.kindOf x = some .local ∧ (x == ("__debug__" : Str)) = false
  fn : X.env.scope.kind = .function
  gl : X.env.globals = mainGlobals
  bl : X.env.builtins = builtinsNs
  top : Top X.p X.loose X.mean X.mg X.mb X.h0
  kept : Keep X.h0 s.heap
  offh : X.h0.get? X.env.locals = none
  fz : ∀ b o, B b = some o → s.heap.get? b = some o
  low : ∀ b o, B b = some o → b ≠ sysModules
  lowO : ∀ q ∈ O, q.1 ≠ sysModules
  b0 : Sub X.B0 B
  new : ∀ b o, B b = some o → X.B0 b = some o ∨ X.h0.get? b = none
  offL : B X.env.locals = none
  own : ∀ q ∈ O, (∃ o, s.heap.get? q.1 = some o ∧ q.2 o) ∧ q.1 ≠ X.env.locals ∧ B q.1 = none ∧ X.h0.get? q.1 = none
  apart : (O.map (·.1)).Nodup
  gens : s.gens = X.gens
  os : s.os = X.os
  drawn : s.drawn = X.drawn
  tk : 0 < s.toks

section
variable {X : Fx} {B B' : FMap} {O : Owns} {l l' : Locs} {s s' : Shared} {prog : Program} {w : World} {A : Around} {E : Value → Shared → Prop}

theorem tk_self (H : St X B O l s) : 0 < s.toks := H.tk
/-- a heap that keeps all: St stays -/
theorem St.to (H : St X B O l s) (hk : Keep s.heap s'.heap) (hg : s'.gens = s.gens) (ho : s'.os = s.os) (hd : s'.drawn = s.drawn) (hn : 0 < s'.toks := by first | exact Nat.succ_pos _ | assumption | exact tk_self (by assumption) | (refine Nat.lt_of_lt_of_le (tk_self (by assumption)) ?_; first | assumption | exact Nat.le_refl _ | omega)) : St X B O l s' where
  ns := H.ns.keeps hk
  nd := H.nd
  kind := H.kind
  fn := H.fn
  gl := H.gl
  bl := H.bl
  top := H.top
  kept := H.kept.trans hk
  offh := H.offh
  fz := fun b o e => hk b o (H.fz b o e)
  low := H.low
  lowO := H.lowO
  b0 := H.b0
  new := H.new
  offL := H.offL
  own := fun q hq => let ⟨⟨o, ho, hp⟩, r⟩ := H.own q hq; ⟨⟨o, hk _ _ ho, hp⟩, r⟩
  apart := H.apart
  gens := hg.trans H.gens
  os := ho.trans H.os
  drawn := hd.trans H.drawn
  tk := hn
theorem St.keeps (H : St X B O l s) {h' : Heap} {n : Tok} (hk : Keep s.heap h') (hn : 0 < n := by first | exact Nat.succ_pos _ | assumption | exact tk_self (by assumption) | (refine Nat.lt_of_lt_of_le (tk_self (by assumption)) ?_; first | assumption | exact Nat.le_refl _ | omega)) : St X B O l { s with heap := h', toks := n } := H.to (s' := { s with heap := h', toks := n }) hk rfl rfl rfl hn
theorem St.tok (H : St X B O l s) {n : Tok} (hn : 0 < n := by first | exact Nat.succ_pos _ | assumption | exact tk_self (by assumption) | (refine Nat.lt_of_lt_of_le (tk_self (by assumption)) ?_; first | assumption | exact Nat.le_refl _ | omega)) : St X B O l { s with toks := n } := H.to (s' := { s with toks := n }) (Keep.refl _) rfl rfl rfl hn
theorem keep_push (h : Heap) (o : Obj) : Keep h (h.push o) := fun _ _ e => Heap.get?_push_of_some o e
theorem St.pushed (H : St X B O l s) {o : Obj} {n : Tok} (hn : 0 < n := by first | exact Nat.succ_pos _ | assumption | exact tk_self (by assumption) | (refine Nat.lt_of_lt_of_le (tk_self (by assumption)) ?_; first | assumption | exact Nat.le_refl _ | omega)) : St X B O l { s with heap := s.heap.push o, toks := n } := H.keeps (keep_push _ _) hn

theorem none_of_le {h : Heap} {a : Addr} (e : h.objs.size ≤ a) : h.get? a = none := by
  cases q : h.get? a with
  | none => rfl
  | some o => exact absurd (Heap.lt_size q) (Nat.not_lt.mpr e)
theorem none_of_keep {h h' : Heap} (k : Keep h h') {a : Addr} (e : h'.get? a = none) : h.get? a = none := by
  cases q : h.get? a with
  | none => rfl
  | some o => rw [k _ _ q] at e; cases e
theorem St.Lsome (H : St X B O l s) : ∃ o, s.heap.get? X.env.locals = some o := let ⟨o, _, _, h, _⟩ := H.ns; ⟨o, h⟩
theorem St.Bnone (H : St X B O l s) {a : Addr} (e : s.heap.get? a = none) : B a = none := by
  cases q : B a with
  | none => rfl
  | some o => rw [H.fz _ _ q] at e; cases e

theorem St.sysm (H : St X B O l s) : sysModules < s.heap.objs.size := modules_low (H.top.nolimit.keeps H.kept)
theorem St.fzIn (H : St X B O l s) : Fz B s.heap := ⟨H.fz, H.low⟩

/-- a new object, frozen from its first day -/
theorem St.push (H : St X B O l s) {o : Obj} (hf : o.isFreed = false) {n : Tok} (hn : 0 < n := by first | exact Nat.succ_pos _ | assumption | exact tk_self (by assumption) | (refine Nat.lt_of_lt_of_le (tk_self (by assumption)) ?_; first | assumption | exact Nat.le_refl _ | omega)) :
    ∃ B', Sub B B' ∧ B' s.heap.objs.size = some o ∧ St X B' O l { s with heap := s.heap.push o, toks := n } := by
  have hN := none_of_le (h := s.heap) (Nat.le_refl _)
  have hB := H.Bnone hN
  have H' : St X B O l { s with heap := s.heap.push o, toks := n } := H.pushed
  have neq : ∀ {b : Addr} {o' : Obj}, s.heap.get? b = some o' → b ≠ s.heap.objs.size := fun e q => by rw [q, hN] at e; cases e
  refine ⟨fun b => if b = s.heap.objs.size then some o else B b, fun b o' e => ?_, if_pos rfl, { H' with fz := fun b o' e => ?_, low := fun b o' e => ?_, b0 := fun b o' e => ?_, new := fun b o' e => ?_, offL := ?_, own := fun q hq => ?_ }⟩
  · show (if b = _ then _ else _) = _
    rw [if_neg (neq (H.fz _ _ e))]; exact e
  · by_cases q : b = s.heap.objs.size
    · subst q; rw [if_pos rfl] at e; cases e; exact Heap.get?_push_size _ hf
    · rw [if_neg q] at e; exact H'.fz _ _ e
  · by_cases q : b = s.heap.objs.size
    · subst q; exact Nat.ne_of_gt H.sysm
    · rw [if_neg q] at e; exact H.low _ _ e
  · show (if b = _ then _ else _) = _
    rw [if_neg (neq (H.fz _ _ (H.b0 _ _ e)))]; exact H.b0 _ _ e
  · by_cases q : b = s.heap.objs.size
    · subst q; exact .inr (none_of_keep H.kept hN)
    · rw [if_neg q] at e; exact H.new _ _ e
  · obtain ⟨oL, hL⟩ := H.Lsome
    show (if _ = _ then _ else _) = _
    rw [if_neg (neq hL)]; exact H.offL
  · obtain ⟨⟨oq, h1, h2⟩, h3, h4, h5⟩ := H'.own q hq
    refine ⟨⟨oq, h1, h2⟩, h3, ?_, h5⟩
    obtain ⟨⟨oq', h1', _⟩, _⟩ := H.own q hq
    show (if _ = _ then _ else _) = _
    rw [if_neg (neq h1')]; exact h4

/-- a new object, owned: it may be turned -/
theorem St.pushO (H : St X B O l s) {o : Obj} (hf : o.isFreed = false) {n : Tok} {P : Obj → Prop} (hP : P o) (hn : 0 < n := by first | exact Nat.succ_pos _ | assumption | exact tk_self (by assumption) | (refine Nat.lt_of_lt_of_le (tk_self (by assumption)) ?_; first | assumption | exact Nat.le_refl _ | omega)) :
    St X B ((s.heap.objs.size, P) :: O) l { s with heap := s.heap.push o, toks := n } := by
  have hN := none_of_le (h := s.heap) (Nat.le_refl _)
  have H' : St X B O l { s with heap := s.heap.push o, toks := n } := H.pushed
  have neq : ∀ {b : Addr} {o' : Obj}, s.heap.get? b = some o' → b ≠ s.heap.objs.size := fun e q => by rw [q, hN] at e; cases e
  obtain ⟨oL, hL⟩ := H.Lsome
  refine { H' with lowO := fun q hq => ?_, own := fun q hq => ?_, apart := ?_ }
  · rcases List.mem_cons.mp hq with rfl | hq
    · exact Nat.ne_of_gt H.sysm
    · exact H.lowO q hq
  · rcases List.mem_cons.mp hq with rfl | hq
    · exact ⟨⟨o, Heap.get?_push_size _ hf, hP⟩, Ne.symm (neq hL), H.Bnone hN, none_of_keep H.kept hN⟩
    · exact H'.own q hq
  · rw [List.map_cons, List.nodup_cons]
    refine ⟨fun hm => ?_, H.apart⟩
    obtain ⟨q, hq, e⟩ := List.mem_map.mp hm
    obtain ⟨⟨oq, h1, _⟩, _⟩ := H.own q hq
    exact neq h1 e

/-- an owned object is turned -/
theorem St.turn (H : St X B O l s) {O₁ O₂ : Owns} {a : Addr} {P P' : Obj → Prop} (hO : O = O₁ ++ (a, P) :: O₂) {h' : Heap} {n : Tok} (hs : ∀ b o, b ≠ a → s.heap.get? b = some o → h'.get? b = some o)
    {o' : Obj} (ho : h'.get? a = some o') (hP : P' o') (hn : 0 < n := by first | exact Nat.succ_pos _ | assumption | exact tk_self (by assumption) | (refine Nat.lt_of_lt_of_le (tk_self (by assumption)) ?_; first | assumption | exact Nat.le_refl _ | omega)) : St X B (O₁ ++ (a, P') :: O₂) l { s with heap := h', toks := n } := by
  subst hO
  obtain ⟨_, haL, haB, hah⟩ := H.own (a, P) (by simp)
  have hap := H.apart
  rw [List.map_append, List.map_cons] at hap
  have hn1 : ∀ q ∈ O₁, q.1 ≠ a := fun q hq e => (List.nodup_append.mp hap).2.2 q.1 (List.mem_map_of_mem hq) a (.head _) e
  have hn2 : ∀ q ∈ O₂, q.1 ≠ a := fun q hq e => (List.nodup_cons.mp (List.nodup_append.mp hap).2.1).1 (by rw [← e]; exact List.mem_map_of_mem (f := (·.1)) hq)
  refine { H with tk := hn, ns := ?_, kept := fun b o e => hs b o (fun q => ?_) (H.kept _ _ e), fz := fun b o e => hs b o (fun q => ?_) (H.fz _ _ e), lowO := fun q hq => ?_, own := fun q hq => ?_, apart := ?_ }
  rotate_left 3
  · rcases List.mem_append.mp hq with hq | hq
    · exact H.lowO q (List.mem_append_left _ hq)
    · rcases List.mem_cons.mp hq with rfl | hq
      · exact H.lowO (a, P) (by simp)
      · exact H.lowO q (List.mem_append_right _ (.tail _ hq))
  rotate_left 2
  · exact H.ns.extBut (b := a) (fun b o hb e => hs b o hb e) (Ne.symm haL)
  · rw [q, hah] at e; cases e
  · rw [q, haB] at e; cases e
  · rcases List.mem_append.mp hq with hq | hq
    · obtain ⟨⟨oq, h1, h2⟩, r⟩ := H.own q (List.mem_append_left _ hq)
      exact ⟨⟨oq, hs _ _ (hn1 q hq) h1, h2⟩, r⟩
    · rcases List.mem_cons.mp hq with rfl | hq
      · exact ⟨⟨o', ho, hP⟩, haL, haB, hah⟩
      · obtain ⟨⟨oq, h1, h2⟩, r⟩ := H.own q (List.mem_append_right _ (.tail _ hq))
        exact ⟨⟨oq, hs _ _ (hn2 q hq) h1, h2⟩, r⟩
  · rw [List.map_append, List.map_cons]; exact hap

/-- an owned object is let go -/
theorem St.drop (H : St X B O l s) {O₁ O₂ : Owns} {a : Addr} {P : Obj → Prop} (hO : O = O₁ ++ (a, P) :: O₂) : St X B (O₁ ++ O₂) l s := by
  subst hO
  have hap := H.apart
  rw [List.map_append, List.map_cons] at hap
  have h3 := List.nodup_append.mp hap
  refine { H with lowO := fun q hq => H.lowO q ?_, own := fun q hq => H.own q ?_, apart := ?_ }
  · rcases List.mem_append.mp hq with hq | hq
    · exact List.mem_append_left _ hq
    · exact List.mem_append_right _ (.tail _ hq)
  · rcases List.mem_append.mp hq with hq | hq
    · exact List.mem_append_left _ hq
    · exact List.mem_append_right _ (.tail _ hq)
  · rw [List.map_append]
    exact List.nodup_append.mpr ⟨h3.1, (List.nodup_cons.mp h3.2.1).2, fun x hx y hy => h3.2.2 x hx y (.tail _ hy)⟩

/-- an owned object is frozen -/
theorem St.freeze (H : St X B O l s) {O₁ O₂ : Owns} {a : Addr} {P : Obj → Prop} (hO : O = O₁ ++ (a, P) :: O₂) :
    ∃ B' o, Sub B B' ∧ B' a = some o ∧ P o ∧ St X B' (O₁ ++ O₂) l s := by
  have H2 := H.drop hO
  subst hO
  obtain ⟨⟨o, ho, hp⟩, haL, haB, hah⟩ := H.own (a, P) (by simp)
  have hap := H.apart
  rw [List.map_append, List.map_cons] at hap
  have h3 := List.nodup_append.mp hap
  refine ⟨fun b => if b = a then some o else B b, o, fun b o' e => ?_, if_pos rfl, hp, { H2 with fz := fun b o' e => ?_, low := fun b o' e => ?_, b0 := fun b o' e => ?_, new := fun b o' e => ?_, offL := ?_, own := fun q hq => ?_ }⟩
  · show (if b = a then _ else _) = _
    rw [if_neg (fun q => by rw [q, haB] at e; cases e)]; exact e
  · by_cases q : b = a
    · subst q; rw [if_pos rfl] at e; cases e; exact ho
    · rw [if_neg q] at e; exact H.fz _ _ e
  · by_cases q : b = a
    · subst q; exact H.lowO _ (by simp : (b, P) ∈ O₁ ++ (b, P) :: O₂)
    · rw [if_neg q] at e; exact H.low _ _ e
  · show (if b = a then _ else _) = _
    rw [if_neg (fun q => by have := H.b0 _ _ e; rw [q, haB] at this; cases this)]; exact H.b0 _ _ e
  · by_cases q : b = a
    · subst q; exact .inr hah
    · rw [if_neg q] at e; exact H.new _ _ e
  · show (if _ = a then _ else _) = _
    rw [if_neg (Ne.symm haL)]; exact H.offL
  · obtain ⟨h1, h2, h4, h5⟩ := H2.own q hq
    refine ⟨h1, h2, ?_, h5⟩
    show (if q.1 = a then _ else _) = _
    rw [if_neg fun e => ?_]; · exact h4
    rcases List.mem_append.mp hq with hq | hq
    · exact h3.2.2 q.1 (List.mem_map_of_mem hq) a (.head _) e
    · exact (List.nodup_cons.mp h3.2.1).1 (by rw [← e]; exact List.mem_map_of_mem (f := (·.1)) hq)

/-- a call came back: it turned nothing that stood -/
theorem St.grow (H : St X B O l s) (G : Grow B s B' s') : St X B' O l s' := by
  have H' : St X B O l s' := H.to G.keep G.gens G.os G.drawn G.tk
  refine { H' with fz := G.fz, low := G.low, b0 := fun b o e => G.sub _ _ (H.b0 _ _ e), new := fun b o e => ?_, offL := ?_, own := fun q hq => ?_ }
  · rcases G.new _ _ e with h | h
    · exact H.new _ _ h
    · exact .inr (none_of_keep H.kept h)
  · cases q : B' X.env.locals with
    | none => rfl
    | some o =>
      rcases G.new _ _ q with h | h
      · rw [H.offL] at h; cases h
      · obtain ⟨oL, hL⟩ := H.Lsome; rw [hL] at h; cases h
  · obtain ⟨h1, h2, h3, h4⟩ := H'.own q hq
    refine ⟨h1, h2, ?_, h4⟩
    cases e : B' q.1 with
    | none => rfl
    | some o =>
      rcases G.new _ _ e with h | h
      · rw [h3] at h; cases h
      · obtain ⟨⟨oq, hq1, _⟩, _⟩ := H.own q hq; rw [hq1] at h; cases h

/-- what the caller learns of a call whose frame was X, begun at s₀ with all of its heap kept -/
theorem St.back (H : St X B O l s) {s₀ : Shared} (h0 : X.h0 = s₀.heap) (hg : X.gens = s₀.gens) (ho : X.os = s₀.os) (hd : X.drawn = s₀.drawn) : Grow X.B0 s₀ B s :=
  ⟨H.b0, H.fz, H.low, h0 ▸ H.kept, fun b o e => h0 ▸ H.new b o e, H.gens.trans hg, H.os.trans ho, H.drawn.trans hd, H.tk⟩

theorem St.sub (_H : St X B O l s) : True := trivial

theorem w_store {x : Str} {v : Value} {Q : Unit → Shared → Prop} (H : St X B O l s) (hp : Put l x v l') (h : ∀ s', St X B O l' s' → Q () s') :
    wpAny (model prog w) A (storeName X.env x v) Q E s := by
  refine wpAny_storeName_local (H.kind x hp.mem).1 H.ns (fun h' hn hs => h _ ?_) (by rw [H.fn]; rfl)
  rw [← hp.mOf H.nd] at hn
  have ne : ∀ {b : Addr}, (b = X.env.locals → False) → ∀ {o : Obj}, s.heap.get? b = some o → h'.get? b = some o := fun hb _ e => (hs.2 _ hb).trans e
  exact { H with tk := Nat.succ_pos _, ns := hn, nd := by rw [hp.keys]; exact H.nd, kind := by rw [hp.keys]; exact H.kind, kept := fun b o e => ne (fun q => by rw [q, H.offh] at e; cases e) (H.kept _ _ e), fz := fun b o e => ne (fun q => by rw [q, H.offL] at e; cases e) (H.fz _ _ e), own := fun q hq => let ⟨⟨o, h1, h2⟩, h3, r⟩ := H.own q hq; ⟨⟨o, ne h3 h1, h2⟩, h3, r⟩ }
theorem w_bind {x : Str} {v : Value} {Q : Unit → Shared → Prop} (H : St X B O l s) (hp : Put l x v l') (h : ∀ s', St X B O l' s' → Q () s') :
    wpAny (model prog w) A (bindName X.env x v) Q E s := wpAny_bindName (w_store H hp h)
theorem w_load {x : Str} {v : Value} {Q : Value → Shared → Prop} (H : St X B O l s) (hp : Get l x v) (h : Q v s) : wpAny (model prog w) A (loadName X.env x) Q E s :=
  wpAny_loadName_local H.fn (H.kind x (List.mem_map_of_mem (f := (·.1)) hp.mem)).1 H.ns (hp.mOf H.nd) h
theorem w_local {x : Str} {pos : Pos} {v : Value} {Q : Value → Shared → Prop} (H : St X B O l s) (hp : Get l x v) (h : Q v s) :
    wpAny (model prog w) A (eval (.Name x pos) X.env) Q E s := wpAny_Name (w_load H hp h) (H.kind x (List.mem_map_of_mem (f := (·.1)) hp.mem)).2

theorem St.ns_g (H : St X B O l s) : s.heap.Ns X.env.globals X.mg := by rw [H.gl]; exact H.top.g.keeps H.kept
theorem St.ns_b (H : St X B O l s) : s.heap.Ns X.env.builtins X.mb := by rw [H.bl]; exact H.top.b.keeps H.kept

theorem w_glob {x : Str} {pos : Pos} {v : Value} {Q : Value → Shared → Prop} (H : St X B O l s) (hx : X.env.kindOf x = some .globalImplicit) (hg : X.mg x = some v) (h : Q v s) (hd : (x == ("__debug__" : Str)) = false := by decide) :
    wpAny (model prog w) A (eval (.Name x pos) X.env) Q E s := Name_function_global H.fn hx (loadGlobal_global H.ns_g hg h) hd
theorem w_builtin {x : Str} {pos : Pos} {v : Value} {Q : Value → Shared → Prop} (H : St X B O l s) (hx : X.env.kindOf x = some .globalImplicit) (hg : X.mg x = none) (hv : bootBuiltins x = some v) (hn : x ≠ "__name__") (h : Q v s)
    (hd : (x == ("__debug__" : Str)) = false := by decide) : wpAny (model prog w) A (eval (.Name x pos) X.env) Q E s :=
  Name_function_global H.fn hx (loadGlobal_builtin H.ns_g hg H.ns_b ((H.top.builtins x hn).trans hv) h) hd

end
end Mine
end
-- part C1
section
open PySem PySem.Spec PySem.Calls PyProof.Rows PySem.W
namespace Mine

/-- a text by its signs -/
def S (l : List Nat) : Str := ⟨l.toArray⟩
@[simp] theorem S_length (l : List Nat) : (S l).length = l.length := by simp [S, Str.length]
theorem S_append (a b : List Nat) : S a ++ S b = S (a ++ b) := by
  show Str.mk (a.toArray ++ b.toArray) = Str.mk (a ++ b).toArray
  rw [List.append_toArray]
theorem S_cps (l : List Nat) : (S l).cps = l.toArray := rfl
theorem S_toList (l : List Nat) : (S l).cps.toList = l := rfl
theorem S_inj {a b : List Nat} : S a = S b ↔ a = b := by
  constructor
  · intro h; have := congrArg (fun x : Str => x.cps.toList) h; simpa [S] using this
  · intro h; rw [h]
theorem S_beq (a b : List Nat) : (S a == S b) = (a == b) := by
  by_cases h : a = b
  · subst h; rw [beq_self_eq_true, beq_self_eq_true]
  · have : ¬ S a = S b := fun e => h (S_inj.mp e)
    rw [beq_eq_false_iff_ne.mpr this, beq_eq_false_iff_ne.mpr h]
theorem S_bne (a b : List Nat) : (S a != S b) = (a != b) := by unfold bne; rw [S_beq]
theorem S_eta (x : Str) : S x.cps.toList = x := by cases x; simp [S]

section
variable {M : Model} {A : Around} {E : Value → Shared → Prop} {env : Env} {s : Shared}

theorem ite_tt' {a b : Prop} (h : a) : if true = true then a else b := by simpa using h
theorem ite_ff' {a b : Prop} (h : b) : if false = true then a else b := by simpa using h
theorem ite_t {c : Bool} {a b : Prop} (hc : c = true) (h : a) : if c = true then a else b := by rw [if_pos hc]; exact h
theorem ite_f {c : Bool} {a b : Prop} (hc : c = false) (h : b) : if c = true then a else b := by rw [hc]; simpa using h
theorem ite_b {c : Bool} {a b : Prop} (h1 : c = true → a) (h2 : c = false → b) : if c = true then a else b := by
  cases c with
  | true => simpa using h1 rfl
  | false => simpa using h2 rfl


def Then (M : Model) (A : Around) (E : Value → Shared → Prop) (rest : List Stmt) (env : Env) (Q : Flow → Shared → Prop) (f : Flow) (s' : Shared) : Prop :=
  match f with | .next => wpAny M A (execs rest env) Q E s' | f => Q f s'
variable {rest : List Stmt} {Q : Flow → Shared → Prop}
theorem then_next (h : wpAny M A (execs rest env) Q E s) : Then M A E rest env Q .next s := h
theorem then_ret {v : Value} (h : Q (.ret v) s) : Then M A E rest env Q (.ret v) s := h
theorem x_nil (h : Q .next s) : wpAny M A (execs [] env) Q E s := wpAny_execs_nil h
theorem x_assign {x : Str} {pp pos : Pos} {value : Expr} (h : wpAny M A (eval value env) (fun v s₁ => wpAny M A (storeName env x v) (fun _ s₂ => wpAny M A (execs rest env) Q E s₂) E s₁) E s)
    (hs : swapsWith value (some (.Name x pp)) pos.line env = pure false := by rfl) : wpAny M A (execs (.Assign [.Name x pp] value pos :: rest) env) Q E s :=
  wpAny_execs_cons (wpAny_Assign_Name h hs)
theorem x_aug {x : Str} {pp pos : Pos} {op : Operator} {value : Expr}
    (h : wpAny M A (loadName env x) (fun old s₁ => wpAny M A (eval value env) (fun v s₂ => wpAny M A (inplaceOp op old v) (fun r s₃ => wpAny M A (storeName env x r) (fun _ s₄ => wpAny M A (execs rest env) Q E s₄) E s₃) E s₂) E s₁) E s) :
    wpAny M A (execs (.AugAssign (.Name x pp) op value pos :: rest) env) Q E s := wpAny_execs_cons (wpAny_AugAssign_Name h)
theorem x_if {test : Expr} {body orelse : List Stmt} {pos : Pos}
    (h : wpAny M A (isTrue test env (eval test env)) (fun c s₂ => if c = true then wpAny M A (execs body env) (Then M A E rest env Q) E s₂ else wpAny M A (execs orelse env) (Then M A E rest env Q) E s₂) E s) :
    wpAny M A (execs (.If test body orelse pos :: rest) env) Q E s := wpAny_execs_cons (wpAny_If h)
theorem x_gen {st a : Stmt} {tl : List Stmt} (h : ∀ rest, rest = a :: tl → wpAny M A (execs (st :: rest) env) Q E s) : wpAny M A (execs (st :: a :: tl) env) Q E s := h _ rfl
theorem x_rest {tl : List Stmt} (e : rest = tl) (h : wpAny M A (execs tl env) Q E s) : wpAny M A (execs rest env) Q E s := by rw [e]; exact h
theorem x_ifG {test : Expr} {body orelse : List Stmt} {pos : Pos}
    (h : ∀ bd ob, bd = body → ob = orelse → wpAny M A (isTrue test env (eval test env)) (fun c s₂ => if c = true then wpAny M A (execs bd env) (Then M A E rest env Q) E s₂ else wpAny M A (execs ob env) (Then M A E rest env Q) E s₂) E s) :
    wpAny M A (execs (.If test body orelse pos :: rest) env) Q E s := x_if (h _ _ rfl rfl)
theorem x_ret {e : Expr} {pos : Pos} (h : wpAny M A (eval e env) (fun v s' => Q (.ret v) s') E s) : wpAny M A (execs (.Return (some e) pos :: rest) env) Q E s :=
  wpAny_execs_cons (wpAny_Return_some h)
theorem x_expr {prog : Program} {w : World} {e : Expr} {pos : Pos} (hk : env.scope.kind = .function)
    (h : wpAny (model prog w) A (eval e env) (fun _ s' => wpAny (model prog w) A (execs rest env) Q E s') E s)
    (hs : swapsWith e none pos.line env = pure false := by rfl) : wpAny (model prog w) A (execs (.Expr e pos :: rest) env) Q E s :=
  wpAny_execs_cons (wpAny_Expr_any h (by unfold interactive; rw [hk]; rfl) hs)
theorem x_pass {pos : Pos} (h : wpAny M A (execs rest env) Q E s) : wpAny M A (execs (.Pass pos :: rest) env) Q E s := wpAny_execs_cons (wpAny_Pass h)
end

section
variable {X : Fx} {B B' : FMap} {O : Owns} {l l' : Locs} {s s' : Shared} {prog : Program} {w : World} {A : Around} {E : Value → Shared → Prop} {Q : Value → Shared → Prop} {env : Env}

theorem c_int {i : Int} {k : Nat} {pos : Pos} (H : St X B O l s) (h : ∀ t s', St X B O l s' → Q (.int i t) s') : wpAny (model prog w) A (eval (.Constant (.int i) k pos) env) Q E s := wpAny_Constant_int (h _ _ H.tok)
theorem c_str {x : Str} {k : Nat} {pos : Pos} (H : St X B O l s) (h : ∀ t s', St X B O l s' → Q (.str x t) s') : wpAny (model prog w) A (eval (.Constant (.str x) k pos) env) Q E s := wpAny_Constant_str (h _ _ H.tok)
theorem b_add {a b : Int} {t u : Tok} (H : St X B O l s) (h : ∀ t s', St X B O l s' → Q (.int (a + b) t) s') : wpAny (model prog w) A (binaryOp .Add (.int a t) (.int b u)) Q E s := add_int (h _ _ H.tok)
theorem b_sub {a b : Int} {t u : Tok} (H : St X B O l s) (h : ∀ t s', St X B O l s' → Q (.int (a - b) t) s') : wpAny (model prog w) A (binaryOp .Sub (.int a t) (.int b u)) Q E s := sub_int (h _ _ H.tok)
theorem b_mul {a b : Int} {t u : Tok} (H : St X B O l s) (hm : IntMulOk a b) (h : ∀ t s', St X B O l s' → Q (.int (a * b) t) s') : wpAny (model prog w) A (binaryOp .Mult (.int a t) (.int b u)) Q E s := mul_int (h _ _ H.tok) hm
theorem i_add {a b : Int} {t u : Tok} (H : St X B O l s) (h : ∀ t s', St X B O l s' → Q (.int (a + b) t) s') : wpAny (model prog w) A (inplaceOp .Add (.int a t) (.int b u)) Q E s := iadd_int (h _ _ H.tok)
theorem b_cat {a b : List Nat} {t u : Tok} (H : St X B O l s) (hz : a.length + b.length ≤ sizeLine) (h : ∀ t s', St X B O l s' → Q (.str (S (a ++ b)) t) s') : wpAny (model prog w) A (binaryOp .Add (.str (S a) t) (.str (S b) u)) Q E s :=
  any_toks (add_str (fun t' tk (hle : s.toks ≤ tk) => by rw [S_append]; exact h _ _ H.tok) (by simpa using hz))
theorem i_cat {a b : List Nat} {t u : Tok} (H : St X B O l s) (hz : a.length + b.length ≤ sizeLine) (h : ∀ t s', St X B O l s' → Q (.str (S (a ++ b)) t) s') : wpAny (model prog w) A (inplaceOp .Add (.str (S a) t) (.str (S b) u)) Q E s :=
  any_toks (iadd_str (fun t' tk (hle : s.toks ≤ tk) => by rw [S_append]; exact h _ _ H.tok) (by simpa using hz))
theorem q_eq {a b : List Nat} {t u : Tok} (h : Q (.bool (a == b)) s) : wpAny (model prog w) A (compareOp .Eq (.str (S a) t) (.str (S b) u)) Q E s := eq_str (by rw [S_beq]; exact h)
theorem q_ne {a b : List Nat} {t u : Tok} (h : Q (.bool (a != b)) s) : wpAny (model prog w) A (compareOp .NotEq (.str (S a) t) (.str (S b) u)) Q E s := ne_str (by rw [S_bne]; exact h)
theorem q_lt {a b : List Nat} {t u : Tok} (h : Q (.bool (decide (a < b))) s) : wpAny (model prog w) A (compareOp .Lt (.str (S a) t) (.str (S b) u)) Q E s := lt_str h
theorem q_le {a b : List Nat} {t u : Tok} (h : Q (.bool (!decide (b < a))) s) : wpAny (model prog w) A (compareOp .LtE (.str (S a) t) (.str (S b) u)) Q E s := PySem.P.le_str h

theorem fits_small {i : Int} (h0 : -9223372036854775808 ≤ i) (h1 : i < 9223372036854775808) : (decide (i < -(2 ^ 63 : Int)) || decide (i ≥ 2 ^ 63)) = false := by
  simp only [Bool.or_eq_false_iff, decide_eq_false_iff_not]
  omega
theorem seqIndex_nat {i n : Nat} (h : i < n) : seqIndex? (i : Int) n = some i := by
  unfold seqIndex?
  have h1 : ¬ ((i : Int) < 0) := by omega
  simp only [h1, if_false]
  simp [h]
/-- text[i] -/
theorem e_item {a : List Nat} {i c : Nat} {i' : Int} {t u : Tok} {value slice : Expr} (H : St X B O l s) (hc : a[i]? = some c) (hz : a.length ≤ sizeLine) (h : ∀ t s', St X B O l s' → Q (.str (S [c]) t) s')
    (hi : i' = (i : Int) := by first | rfl | omega)
    (hs : ∀ x t i u, subscripted slice false (.str x t) (.int i u) = operate [.str x t, .int i u] (getItem (.str x t) (.int i u)) := by intro _ _ _ _; with_unfolding_all rfl)
    (ht : ∀ x t r, letTemporaryGo value (.str x t) r = pure () := by intro _ _ _; with_unfolding_all rfl) :
    wpAny (model prog w) A (subscriptTail value slice (.str (S a) t) (.int i' u)) Q E s := by
  subst hi
  have hi : i < a.length := (List.getElem?_eq_some_iff.mp hc).1
  have hzz : sizeLine = 16777216 := by decide
  refine tail_of_ItemOn ⟨"str", _, slot_str_getitem.lookup, typeIs_str _ _ _, ?_⟩ (hs _ _ _ _) (ht _ _)
  refine getItem_str (c := c) (fits_small (by omega) (by omega)) ?_ (h _ _ H.tok)
  show (seqIndex? (i : Int) (S a).length).bind _ = _
  rw [S_length, seqIndex_nat hi]
  simp [S, hc]
end
end Mine
end
-- part C2
section
open PySem PySem.Spec PySem.Calls PyProof.Rows PySem.W
namespace Mine

/-- room around a call: d frames may still be laid -/
structure Rm (A : Around) (d : Nat) : Prop where
  handled : A.handled = none
  guards : A.guards = some []
  depth : A.depth + d < recursionLimit
  units : A.units + (4 * d + 300) < cLine
theorem Rm.le {A : Around} {d e : Nat} (h : Rm A d) (he : e ≤ d) : Rm A e := ⟨h.handled, h.guards, Nat.lt_of_le_of_lt (Nat.add_le_add_left he _) h.depth, Nat.lt_of_le_of_lt (Nat.add_le_add_left (Nat.add_le_add_right (Nat.mul_le_mul_left 4 he) 300) _) h.units⟩
theorem Rm.deeper {A : Around} {d : Nat} (h : Rm A (d + 1)) (env : Env) : Rm (A.deeper env) d :=
  ⟨h.handled, h.guards, Nat.lt_of_le_of_lt (Nat.le_of_eq (by show A.depth + 1 + d = A.depth + (d + 1); omega)) h.depth, Nat.lt_of_le_of_lt (by show A.units + 3 + (4 * d + 300) ≤ A.units + (4 * (d + 1) + 300); omega) h.units⟩
theorem Rm.room {A : Around} {d : Nat} (h : Rm A d) : A.depth < recursionLimit := Nat.lt_of_le_of_lt (Nat.le_add_right _ _) h.depth

def Returns (B : FMap) (s : Shared) (P : FMap → Value → Prop) (r : Result) (s' : Shared) : Prop := ∃ v B', r = .ok (.ret v) ∧ Grow B s B' s' ∧ P B' v

/-- the program's top, as the library tells it of a heap -/
structure Tp where
  p : Program
  loose : List Str
  mean : ExcName → Option Value
  mg : Str → Option Value
  mb : Str → Option Value
def Tp.At (T : Tp) (h : Heap) : Prop := Top T.p T.loose T.mean T.mg T.mb h
theorem Tp.At.keeps {T : Tp} {h h' : Heap} (x : T.At h) (hk : Keep h h') : T.At h' := Top.keeps x hk
def Fx.T (X : Fx) : Tp := ⟨X.p, X.loose, X.mean, X.mg, X.mb⟩

section
variable {prog : Program} {w : World}

/-- a call of the def d with these arguments, begun at s, comes back with P and turns nothing that stood -/
def Sp (prog : Program) (w : World) (d : DefRec) (A : Around) (vals : List Value) (B : FMap) (s : Shared) (P : FMap → Value → Prop) : Prop :=
  0 < s.toks → ∀ f o pm code doc, s.heap.get? f = some o → o.data = .func (docDef d.name d.params d.body d.scope pm code doc) → s.heap.CodeRec code d.name →
    codeAny (model prog w) A (.call (.ref f) ⟨vals, []⟩) (Returns B s P) s

/-- how a frame of the def d stands at its start -/
structure Frm (X : Fx) (T : Tp) (s : Shared) (B : FMap) (d : DefRec) : Prop where
  env : ∃ L a cd, X.env = envOf d.name d.scope L a cd
  T : X.T = T
  h0 : X.h0 = s.heap
  B0 : X.B0 = B
  gens : X.gens = s.gens
  os : X.os = s.os
  drawn : X.drawn = s.drawn

theorem mOf_none : ∀ (ns : List Str) (x : Str), mOf (ns.map fun n => (n, none)) x = none
  | [], _ => rfl
  | n :: ns, x => by
    by_cases h : x = n
    · subst h; exact mOf_cons_self
    · rw [List.map_cons, mOf_cons_ne h]; exact mOf_none ns x
theorem mOf_binds : ∀ (bs : List (Str × Value)) (r : Locs) (x : Str), mOf (bs.map (fun b => (b.1, some b.2)) ++ r) x = (bs.lookup x).or (mOf r x)
  | [], r, x => by simp
  | (y, v) :: bs, r, x => by
    by_cases h : x = y
    · subst h; rw [List.map_cons, List.cons_append, mOf_cons_self]; simp [List.lookup]
    · have : (x == y) = false := beq_eq_false_iff_ne.mpr h
      rw [List.map_cons, List.cons_append, mOf_cons_ne h, mOf_binds bs r x]; simp [List.lookup, this]
theorem lookup_not : ∀ {bs : List (Str × Value)} {x : Str}, x ∉ bs.map (·.1) → bs.lookup x = none
  | [], _, _ => rfl
  | (y, v) :: bs, x, h => by
    rw [List.map_cons, List.mem_cons, not_or] at h
    have : (x == y) = false := beq_eq_false_iff_ne.mpr h.1
    simp [List.lookup, this, lookup_not h.2]
theorem lookup_rev : ∀ {bs : List (Str × Value)}, (bs.map (·.1)).Nodup → ∀ x, bs.reverse.lookup x = bs.lookup x
  | [], _, x => rfl
  | (y, v) :: bs, hn, x => by
    rw [List.map_cons, List.nodup_cons] at hn
    rw [List.reverse_cons, List.lookup_append, lookup_rev hn.2]
    by_cases h : x = y
    · subst h
      have : bs.lookup x = none := lookup_not hn.1
      rw [this]; simp [List.lookup]
    · have : (x == y) = false := beq_eq_false_iff_ne.mpr h
      simp [List.lookup, this]

theorem enter {d : DefRec} {A : Around} {k : Nat} (R : Rm A (k + 1)) {T : Tp} {s : Shared} {B : FMap} (hT : T.At s.heap) (hB : Fz B s.heap) {vals : List Value} {P : FMap → Value → Prop} {binds : List (Str × Value)} (ns : List Str)
    (hbind : ∀ pm cd doc, bindArgs (docDef d.name d.params d.body d.scope pm cd doc) ⟨vals, []⟩ = pure binds)
    (hloc : ((binds.map (·.1) ++ ns).all fun x => decide (d.scope.names.lookup x = some .local ∧ (x == ("__debug__" : Str)) = false)) = true) (hnd : (binds.map (·.1) ++ ns).Nodup)
    (hco : d.scope.isCoroutine = false) (hgen : d.scope.isGenerator = false) (hk : d.scope.kind = .function) (hcell : ∀ x ∈ d.scope.names, x.2 ≠ .cell)
    (h : ∀ X A' (Q : Flow → Shared → Prop) s', Frm X T s B d → St X B [] (binds.map (fun b => (b.1, some b.2)) ++ ns.map fun n => (n, none)) s' → Rm A' k →
      (∀ {v B' O l s''}, St X B' O l s'' → P B' v → Q (.ret v) s'') → wpAny (model prog w) A' (execs d.body X.env) Q (fun _ _ => False) s') :
    Sp prog w d A vals B s P := by
  intro htk f o pm code doc ho hd hcd
  have hall := List.all_eq_true.mp hloc
  have hndb : (binds.map (·.1)).Nodup := (List.nodup_append.mp hnd).1
  refine call_plain_ret R.room ho hd (Top.nolimit hT) hcd (hbind pm code doc) (fun x hx => (of_decide_eq_true (hall _ (List.mem_append_left _ (List.mem_map_of_mem hx)))).1) (fun h₁ F => ?_) hco hgen hk hcell
  let X : Fx := { p := T.p, loose := T.loose, mean := T.mean, mg := T.mg, mb := T.mb, env := envOf d.name d.scope s.heap.objs.size f code, h0 := s.heap, B0 := B, gens := s.gens, os := s.os, drawn := s.drawn }
  have keys : (binds.map (fun b => (b.1, some b.2)) ++ ns.map fun n => (n, (none : Option Value))).map (·.1) = binds.map (·.1) ++ ns := by simp [Function.comp_def]
  have hst : St X B [] (binds.map (fun b => (b.1, some b.2)) ++ ns.map fun n => (n, none)) { s with heap := h₁, toks := s.toks + binds.length } := by
    refine { ns := ?_, nd := by rw [keys]; exact hnd, kind := fun x hx => ?_, fn := hk, gl := rfl, bl := rfl, top := hT, kept := F.keep, offh := none_of_le (Nat.le_refl _), fz := fun b o e => F.keep _ _ (hB.fz _ _ e), low := hB.low, lowO := fun q hq => absurd hq (by simp), b0 := Sub.refl _, new := fun b o e => .inl e, offL := ?_, own := fun q hq => absurd hq (by simp), apart := List.nodup_nil, gens := rfl, os := rfl, drawn := rfl, tk := Nat.lt_of_lt_of_le htk (Nat.le_add_right _ _) }
    · have e : mOf (binds.map (fun b => (b.1, some b.2)) ++ ns.map fun n => (n, none)) = fun x => binds.reverse.lookup x := by
        funext x
        rw [mOf_binds, mOf_none, lookup_rev hndb]
        cases binds.lookup x <;> rfl
      rw [e]; exact F.ns
    · rw [keys] at hx
      exact of_decide_eq_true (hall _ hx)
    · show B s.heap.objs.size = none
      cases q : B s.heap.objs.size with
      | none => rfl
      | some o' => exact absurd (Heap.lt_size (hB.fz _ _ q)) (Nat.lt_irrefl _)
  have hfr : Frm X T s B d := ⟨⟨_, _, _, rfl⟩, rfl, rfl, rfl, rfl, rfl, rfl⟩
  refine wpAny_mono (h X _ (fun fl s'' => ∃ v B', fl = .ret v ∧ Grow B s B' s'' ∧ P B' v) _ hfr hst (R.deeper _) fun {v B' O l s''} H hp => ⟨v, B', rfl, hfr.B0 ▸ H.back hfr.h0 hfr.gens hfr.os hfr.drawn, hp⟩) (fun fl s'' hq => ?_) fun _ _ x => x
  obtain ⟨v, B', rfl, hg, hp⟩ := hq
  exact ⟨v, B', rfl, hg, hp⟩

variable {X : Fx} {B B' : FMap} {O : Owns} {l l' : Locs} {s s' : Shared} {A : Around} {E : Value → Shared → Prop} {Q : Value → Shared → Prop}

theorem St.tp (H : St X B O l s) : X.T.At s.heap := Top.keeps H.top H.kept
theorem Frm.back {T : Tp} {s₀ : Shared} {d : DefRec} (F : Frm X T s₀ B' d) (H : St X B O l s) : Grow B' s₀ B s := F.B0 ▸ H.back F.h0 F.gens F.os F.drawn

/-- f(e, ..) where f is a def of the text -/
theorem e_call {d : DefRec} {n : Str} {e : Expr} {rest : List Expr} {np pos : Pos} (H : St X B O l s) (hx : X.env.kindOf n = some .globalImplicit) (hd : (recsOf X.p).find? (fun r => r.name == n) = some d)
    (h : wpAny (model prog w) A (spliced (backTo pos (starEach (e :: rest) X.env))) (fun vs s₁ => ∃ B₁ O₁ l₁ P, St X B₁ O₁ l₁ s₁ ∧ Sp prog w d A vs B₁ s₁ P ∧ ∀ v B₂ s₂, Sub B₁ B₂ → P B₂ v → St X B₂ O₁ l₁ s₂ → Q v s₂) E s)
    (hdb : (n == ("__debug__" : Str)) = false := by decide)
    (he : starEach (e :: rest) X.env = (false, eval e X.env) :: starEach rest X.env := by rfl) :
    wpAny (model prog w) A (eval (.Call (.Name n np) (e :: rest) [] pos) X.env) Q E s := by
  refine Call_ ?_
  have hmem := List.mem_of_find?_eq_some hd
  have hname : d.name = n := by have := List.find?_some hd; exact eq_of_beq this
  obtain ⟨f, o, pm, code, doc, h1, h2, h3, h4⟩ := H.top.fn d hmem
  refine w_glob H hx (hname ▸ h1) ?_ hdb
  refine callWith_def h3 (wpAny_mono h (fun vs s₁ hq => ?_) fun _ _ x => x) he
  obtain ⟨B₁, O₁, l₁, P, H₁, hsp, hQ⟩ := hq
  refine ⟨H₁.kept _ _ h2, wpAny_call (codeAny_mono (hsp H₁.tk f o pm code doc (H₁.kept _ _ h2) h3 (h4.keeps H₁.kept)) fun r s₂ hr => ?_)⟩
  obtain ⟨v, B₂, rfl, hg, hp⟩ := hr
  exact hQ v B₂ s₂ hg.sub hp (H₁.grow hg)
end
end Mine
end
-- part C3
section
open PySem PySem.Spec PySem.Calls PyProof.Rows PySem.W
namespace Mine
section
variable {X : Fx} {B B' : FMap} {O : Owns} {l l' : Locs} {s s' : Shared} {prog : Program} {w : World} {A : Around} {E : Value → Shared → Prop} {Q : Value → Shared → Prop} {env : Env}

theorem e_len {a : List Nat} {t : Tok} (H : St X B O l s) (hz : a.length ≤ sizeLine) (h : ∀ t s', St X B O l s' → Q (.int (a.length : Int) t) s') : wpAny (model prog w) A (call (.builtin "len") [.str (S a) t]) Q E s := by
  have hzz : sizeLine = 16777216 := by decide
  refine len_str (by rw [S_length]; omega) ?_
  rw [S_length]; exact h _ _ H.tok

theorem take_range {α : Type} (l : List α) : ∀ n : Nat, (List.range n).filterMap (fun k => l[k]?) = l.take n
  | 0 => by simp
  | n + 1 => by
    rw [List.range_succ, List.filterMap_append, take_range l n, List.take_add_one]
    cases h : l[n]? <;> simp [h]
theorem clip_nat (i n : Nat) : max (0 : Int) (min (i : Int) (n : Int)) = ((min i n : Nat) : Int) := by
  rw [show min (i : Int) (n : Int) = ((min i n : Nat) : Int) by rcases Nat.le_total i n with h | h <;> simp only [Nat.min_eq_left, Nat.min_eq_right, Int.min_eq_left, Int.min_eq_right, Int.ofNat_le, h]]; exact Int.max_eq_right (Int.natCast_nonneg _)
theorem span_nat (a b : Nat) : (if (a : Int) < (b : Int) then (b : Int) - (a : Int) + 1 - 1 else 0).toNat = b - a := by
  rw [Int.add_sub_cancel]
  split
  · exact Int.toNat_sub b a
  · rename_i h; rw [Nat.sub_eq_zero_of_le (Int.ofNat_le.mp (Int.not_lt.mp h))]; rfl
theorem neg_nat (i : Nat) : ¬ ((i : Int) < 0) := Int.not_lt.mpr (Int.natCast_nonneg _)
theorem sliceIdx_nat (i j n : Nat) : Builtin.Str.strSliceIndices (some (i : Int)) (some (j : Int)) 1 n = (List.range (min j n - min i n)).map fun k => min i n + k := by
  unfold Builtin.Str.strSliceIndices sliceRange
  simp only [neg_nat, if_false, show (1 : Int) > 0 by decide, if_true, Int.ediv_one, Int.one_mul, clip_nat, span_nat]
  refine List.map_congr_left fun k _ => ?_
  first | rfl | (rw [← Int.natCast_add]; exact Int.toNat_natCast _)
theorem slice_nat (a : List Nat) (i j : Nat) : Txt.slice (S a) (some (i : Int)) (some (j : Int)) = S ((a.drop i).take (j - i)) := by
  unfold Txt.slice
  rw [S_length, sliceIdx_nat]
  simp only [List.length_map, List.length_range]
  have e : (a.drop i).take (j - i) = (List.map (fun k => min i a.length + k) (List.range (min j a.length - min i a.length))).filterMap (fun k => a[k]?) := by
    rw [List.filterMap_map]
    have : ((fun k => a[k]?) ∘ fun k => min i a.length + k) = fun k => (a.drop (min i a.length))[k]? := by funext k; simp
    rw [this, take_range]
    by_cases h : i ≤ a.length
    · rw [Nat.min_eq_left h]
      apply List.ext_getElem?
      intro k
      simp only [List.getElem?_take, List.getElem?_drop]
      by_cases h1 : k < j - i
      · by_cases h2 : k < min j a.length - i
        · simp [h1, h2]
        · rw [if_pos h1, if_neg h2]
          exact List.getElem?_eq_none (by omega)
      · rw [if_neg h1, if_neg (by omega)]
    · rw [Nat.min_eq_right (a := i) (by omega), List.drop_of_length_le (by omega : a.length ≤ i), List.drop_length]; simp
  split
  · rename_i hc
    simp only [beq_self_eq_true, Bool.true_and, beq_iff_eq] at hc
    congr 1
    by_cases h : a.length = 0
    · rw [List.length_eq_zero_iff] at h; subst h; simp
    · have hi : i = 0 := by omega
      subst hi
      simp only [List.drop_zero, Nat.sub_zero]
      rw [List.take_of_length_le (by omega)]
  · rw [e]
    show Str.mk _ = Str.mk _
    congr 2
    refine congrArg (fun f => List.filterMap f _) (funext fun k => ?_)
    simp [S]

def CutEnd (Q : Value → Shared → Prop) (o iv jv : Value) (s₃ : Shared) : Prop :=
  ∃ X B O l a t i ti j tj, o = .str (S a) t ∧ iv = .int i ti ∧ jv = .int j tj ∧ a.length ≤ sizeLine ∧ St X B O l s₃ ∧ ∀ t s', St X B O l s' → Q (.str (Txt.slice (S a) (some i) (some j)) t) s'
theorem cut_end {a : List Nat} {t ti tj : Tok} {i' j' : Int} (i j : Nat) (H : St X B O l s) (hz : a.length ≤ sizeLine) (hi : i' = i) (hj : j' = j) (h : ∀ t s', St X B O l s' → Q (.str (S ((a.drop i).take (j - i))) t) s') :
    CutEnd Q (.str (S a) t) (.int i' ti) (.int j' tj) s := by
  subst hi; subst hj
  exact ⟨X, B, O, l, a, t, _, ti, _, tj, rfl, rfl, rfl, hz, H, fun t s' H => by rw [slice_nat]; exact h t s' H⟩
/-- text[i:j] -/
theorem e_cut {value lo hi : Expr} {p pos : Pos}
    (h : wpAny (model prog w) A (eval value env) (fun o s₁ => wpAny (model prog w) A (eval lo env) (fun iv s₂ => wpAny (model prog w) A (eval hi env) (fun jv s₃ => CutEnd Q o iv jv s₃) E s₂) E s₁) E s)
    (hs : ∀ o i, (∃ x t, o = Value.str x t) → (∃ a, i = Value.ref a) → subscripted (.Slice (some lo) (some hi) none p) false o i = operate [i, o] (getItem o i) := by rintro _ _ ⟨_, _, rfl⟩ ⟨_, rfl⟩; with_unfolding_all rfl)
    (ht : ∀ o r, (∃ x t, o = Value.str x t) → letTemporaryGo value o r = pure () := by rintro _ _ ⟨_, _, rfl⟩; with_unfolding_all rfl) :
    wpAny (model prog w) A (eval (.Subscript value (.Slice (some lo) (some hi) none p) pos) env) Q E s := by
  refine Subscript_ (wpAny_mono h (fun o s₁ h₁ => ?_) fun _ _ x => x)
  refine wpAny_Slice (wpAny_evalPart_some (wpAny_mono h₁ (fun iv s₂ h₂ => wpAny_evalPart_some (wpAny_mono h₂ (fun jv s₃ h₃ => wpAny_evalPart_none ?_) fun _ _ x => x)) fun _ _ x => x))
  obtain ⟨X, B, O, l, a, t, i, ti, j, tj, rfl, rfl, rfl, hz, H, hQ⟩ := h₃
  refine any_toks ?_
  refine tail_of_ItemOn (SBH.sliceItem_ss (P := fun h' => Keep s₃.heap h') (fun h ob k => k.trans (keep_push _ _)) (Keep.refl _) (fun h' t' k hk (hle : s₃.toks ≤ k) => hQ _ _ (H.keeps hk)) (by simpa using hz)) (hs _ _ ⟨_, _, rfl⟩ ⟨_, rfl⟩) fun r => ht _ _ ⟨_, _, rfl⟩


theorem kindOf_frm {T : Tp} {d : DefRec} {s₀ : Shared} {B₀ : FMap} {x : Str} {k : NameKind} (F : Frm X T s₀ B₀ d) (h : d.scope.names.lookup x = some k) : X.env.kindOf x = some k := by
  obtain ⟨L, a, cd, e⟩ := F.env
  rw [e]; exact h
/-- the program and the loose names of a frame's top -/
structure Pg (X : Fx) (p : Program) (loose : List Str) : Prop where
  p : X.p = p
  loose : X.loose = loose
theorem Frm.pg {T : Tp} {d : DefRec} {s₀ : Shared} {B₀ : FMap} (F : Frm X T s₀ B₀ d) : Pg X T.p T.loose := ⟨congrArg Tp.p F.T, congrArg Tp.loose F.T⟩
end
end Mine
end
-- part C4
section
open PySem PySem.Spec PySem.Calls PyProof.Rows PySem.W
namespace Mine
section
variable {X : Fx} {B B' : FMap} {O : Owns} {l l' : Locs} {s s' : Shared} {prog : Program} {w : World} {A : Around} {E : Value → Shared → Prop} {Q : Value → Shared → Prop} {env : Env}

/-- a frozen dict -/
def BD {K : Type} [DecidableEq K] (knd : PySem.KeyKind prog w K) (B : FMap) (d : Addr) (kvs : List (K × Value)) : Prop :=
  (d == sysModules) = false ∧ ∃ o, B d = some o ∧ o.IsDictOf knd kvs
theorem BD.sub {K : Type} [DecidableEq K] {knd : PySem.KeyKind prog w K} {B B' : FMap} {d : Addr} {kvs : List (K × Value)} (h : BD knd B d kvs) (hs : Sub B B') : BD knd B' d kvs := ⟨h.1, let ⟨o, e, r⟩ := h.2; ⟨o, hs _ _ e, r⟩⟩
theorem BD.at {K : Type} [DecidableEq K] {knd : PySem.KeyKind prog w K} {d : Addr} {kvs : List (K × Value)} (h : BD knd B d kvs) (H : St X B O l s) : s.heap.DictOf knd d kvs :=
  let ⟨o, e, r⟩ := h.2; Heap.dictOf_iff.mpr ⟨o, H.fz _ _ e, r⟩


/-- the end of a dict display -/
def DictEnd {K : Type} [DecidableEq K] (knd : PySem.KeyKind prog w K) (d : Addr) (Q : Value → Shared → Prop) (vs : List (Value × Value)) (s₂ : Shared) : Prop :=
  ∃ X B O l kvs, St X B ((d, fun o => o.IsDictOf knd []) :: O) l s₂ ∧ Carries knd vs kvs ∧ ∀ B' s', Sub B B' → BD knd B' d (merged [] kvs) → St X B' O l s' → Q (.ref d) s'
theorem dict_end {K : Type} [DecidableEq K] {knd : PySem.KeyKind prog w K} {d : Addr} {vs : List (Value × Value)} (kvs : List (K × Value)) (H : St X B ((d, fun o => o.IsDictOf knd []) :: O) l s) (hc : Carries knd vs kvs)
    (h : ∀ B' s', Sub B B' → BD knd B' d (merged [] kvs) → St X B' O l s' → Q (.ref d) s') : DictEnd knd d Q vs s := ⟨X, B, O, l, kvs, H, hc, h⟩

theorem e_dict {K : Type} [DecidableEq K] (knd : PySem.KeyKind prog w K) {keys : List (Option Expr)} {values : List Expr} {pos : Pos} (H : St X B O l s)
    (h : ∀ d s', (d == sysModules) = false → St X B ((d, fun o => o.IsDictOf knd []) :: O) l s' → wpAny (model prog w) A (evalPairs (pairTrees keys values env pos)) (DictEnd knd d Q) E s')
    (h1 : keys.all (·.isSome) = true := by rfl) (h2 : keys.length = values.length := by rfl) (h3 : keys.isEmpty = false := by rfl) (h4 : Nat.ble keys.length 15 = true := by rfl) :
    wpAny (model prog w) A (eval (.Dict keys values pos) env) Q E s := by
  have hsys : (s.heap.objs.size == sysModules) = false := beq_eq_false_iff_ne.mpr fun e => by have := H.sysm; rw [← e] at this; exact Nat.lt_irrefl _ this
  refine wpAny_Dict_walk (knd := knd) h1 h2 (fun e => by rw [e] at h3; cases h3) (Nat.le_of_ble_eq_true h4) ?_
  have hnew : ({ cls := .type "dict", data := .dict #[] } : Obj).IsDictOf knd [] := by
    have := Heap.DictOf.new (knd := knd) s.heap
    obtain ⟨o, ho, r⟩ := Heap.dictOf_iff.mp this
    rw [Heap.get?_push_size _ rfl] at ho
    cases ho; exact r
  refine wpAny_mono (h s.heap.objs.size _ hsys (H.pushO (o := { cls := .type "dict", data := .dict #[] }) (n := s.toks) rfl hnew)) (fun vs s₂ h₂ => ?_) fun _ _ x => x
  obtain ⟨X, B, O, l, kvs, H₂, hc, hQ⟩ := h₂
  obtain ⟨⟨od, hod, hp⟩, _⟩ := H₂.own _ (.head _)
  refine ⟨kvs, hc, Heap.dictOf_iff.mpr ⟨od, hod, hp⟩, fun h' hd hs => ?_⟩
  obtain ⟨o', ho', hp'⟩ := Heap.dictOf_iff.mp hd
  have H3 := H₂.turn (O₁ := []) rfl (h' := h') (n := s₂.toks + vs.length) (P' := fun o => o.IsDictOf knd (merged [] kvs)) (fun b o hb e => hs.extBut b o hb e) ho' hp'
  obtain ⟨B', o'', hsub, hB, hP, H4⟩ := H3.freeze (O₁ := []) rfl
  exact hQ B' _ hsub ⟨hsys, o'', hB, hP⟩ H4

theorem e_dget {K : Type} [DecidableEq K] {knd : PySem.KeyKind prog w K} {d : Addr} {kvs : List (K × Value)} {k : K} {key dflt : Value} (H : St X B O l s) (hd : BD knd B d kvs) (hk : knd.is k key = true)
    (h : ∀ s', St X B O l s' → Q ((valueAt kvs k).getD dflt) s') : wpAny (model prog w) A (call (.builtin "dict.get") [.ref d, key, dflt]) Q E s :=
  call_meetsIn PySem.F.slot_dict_get (hd.at H).typeIs PySem.F.entry_dict_get (PySem.F.args_dict_get_3 _ _ _) (meets_dict_get_default knd d hk hd.1 dflt) ⟨_, (hd.at H).mapOf, h _ H.tok⟩
theorem e_ditem {K : Type} [DecidableEq K] {knd : PySem.KeyKind prog w K} {d : Addr} {kvs : List (K × Value)} {k : K} {key v : Value} {value slice : Expr} (H : St X B O l s) (hd : BD knd B d kvs) (hk : knd.is k key = true)
    (hv : valueAt kvs k = some v) (h : ∀ s', St X B O l s' → Q v s') (hs : subscripted slice false (.ref d) key = operate [.ref d, key] (getItem (.ref d) key)) :
    wpAny (model prog w) A (subscriptTail value slice (.ref d) key) Q E s :=
  tail_any (hd.at H).typeIs slot_dict_getitem.lookup (wpAny_getItem_of hk (hd.at H).mapOf hv (h _ H.tok)) hs
theorem e_din {K : Type} [DecidableEq K] {knd : PySem.KeyKind prog w K} {d : Addr} {kvs : List (K × Value)} {k : K} {key : Value} (H : St X B O l s) (hd : BD knd B d kvs) (hk : knd.is k key = true)
    (h : ∀ s', St X B O l s' → Q (.bool (valueAt kvs k).isSome) s') : wpAny (model prog w) A (compareOp .In key (.ref d)) Q E s := wpAny_in_of hk hd.1 (hd.at H).mapOf (h _ H.tok)
theorem m_dget {K : Type} [DecidableEq K] {knd : PySem.KeyKind prog w K} {d : Addr} {kvs : List (K × Value)} {pl : Sem Bool} {Q : Value × List Value → Shared → Prop} (H : St X B O l s) (hd : BD knd B d kvs) (h : Q (.builtin "dict.get", [.ref d]) s) :
    wpAny (model prog w) A (getMethod (.ref d) "get" pl) Q E s := by
  exact getMethod_builtin (hd.at H).typeIs PySem.F.plainAttrs_dict PySem.F.slot_dict_get PySem.F.type_dict_get (hd.at H).mapOf.noDict h

/-- obj.method(e, ..) of a built-in: the call behind the look-up -/
theorem e_bcall {pos : Pos} {id : String} {self : Value} {e : Expr} {rest : List Expr}
    (h : wpAny (model prog w) A (spliced (backTo pos (starEach (e :: rest) env))) (fun vs s₁ => wpAny (model prog w) A (call (.builtin id) (self :: vs)) Q E s₁) E s)
    (he : starEach (e :: rest) env = (false, eval e env) :: starEach rest env := by rfl)
    (hplain : (backTo pos (starEach rest env)).any (·.1) = false := by rfl) :
    wpAny (model prog w) A (callWith pos (.builtin id) [self] (backTo pos (starEach (e :: rest) env)) []) Q E s := by
  rw [he] at h ⊢
  exact PySem.Calls.callWith_builtin (by show (false || (backTo pos (starEach rest env)).any (·.1)) = false; rw [hplain]; rfl) (PySem.Calls.evalArgs_plain h)

theorem e_chr {i : Int} {n : Nat} {t : Tok} (H : St X B O l s) (hi : i = (n : Int)) (hn : n ≤ 1114111) (h : ∀ t s', St X B O l s' → Q (.str (S [n]) t) s') : wpAny (model prog w) A (call (.builtin "chr") [.int i t]) Q E s := by
  subst hi
  exact chr_of_range (by omega) (by omega) (h _ _ H.tok)
theorem q_in {a : List Nat} {c : Nat} {t u : Tok} (h : Q (.bool (decide (c ∈ a))) s) : wpAny (model prog w) A (compareOp .In (.str (S [c]) u) (.str (S a) t)) Q E s := by
  refine P.in_str ?_
  have e : S [c] = (⟨#[c]⟩ : Str) := rfl
  rw [e, StrLaws.found_one, S_toList]; exact h
theorem q_notin {a : List Nat} {c : Nat} {t u : Tok} (h : Q (.bool (!decide (c ∈ a))) s) : wpAny (model prog w) A (compareOp .NotIn (.str (S [c]) u) (.str (S a) t)) Q E s := by
  refine notIn_str ?_
  have e : S [c] = (⟨#[c]⟩ : Str) := rfl
  rw [e, StrLaws.found_one, S_toList]; exact h
theorem e_tuple {vs : List Value} (H : St X B O l s) (hz : vs.length ≤ sizeLine) (h : ∀ a B' s', Sub B B' → B' a = some { cls := .type "tuple", data := .seq vs.toArray } → St X B' O l s' → Q (.ref a) s') : wpAny (model prog w) A (newTuple vs) Q E s := by
  obtain ⟨B', h1, h2, H'⟩ := H.push (o := { cls := .type "tuple", data := .seq vs.toArray }) rfl (n := s.toks)
  exact wpAny_newTuple (h _ B' _ h1 h2 H') hz
/-- a list that is turned no more -/
theorem e_listF {vs : List Value} (H : St X B O l s) (hz : vs.length ≤ sizeLine) (h : ∀ a B' s', Sub B B' → B' a = some { cls := .type "list", data := .seq vs.toArray } → St X B' O l s' → Q (.ref a) s') : wpAny (model prog w) A (newList vs) Q E s := by
  obtain ⟨B', h1, h2, H'⟩ := H.push (o := { cls := .type "list", data := .seq vs.toArray }) rfl (n := s.toks)
  exact wpAny_newList (h _ B' _ h1 h2 H') hz
theorem e_index {a : List Nat} {c v : Nat} {r : List Nat} {t u : Tok} (H : St X B O l s) (hv : Builtin.Str.occurrences (S a) (S [c]) 0 (S a).length 1 = v :: r) (h : ∀ t s', St X B O l s' → Q (.int (v : Int) t) s') :
    wpAny (model prog w) A (call (.builtin "str.index") [.str (S a) t, .str (S [c]) u]) Q E s := SC.index hv (h _ _ H.tok)
theorem test_lastE {pos : Pos} {v : Value} {op : CmpOp} {e : Expr} {Q : Bool → Shared → Prop}
    (h : wpAny (model prog w) A (eval e env) (fun b s₁ => wpAny (model prog w) A (compareOp op v b) (fun c s₂ => wpAny (model prog w) A (truthy c) Q E s₂) E s₁) E s) : wpAny (model prog w) A (testChain pos v [op] (eval e env :: evalEach [] env)) Q E s := test_last h
theorem chain_lastE {pos : Pos} {v : Value} {op : CmpOp} {e : Expr}
    (h : wpAny (model prog w) A (eval e env) (fun b s₁ => wpAny (model prog w) A (compareOp op v b) Q E s₁) E s) : wpAny (model prog w) A (compareChain pos v [op] (eval e env :: evalEach [] env)) Q E s := chain_last h
/-- an owned list's object -/
def LO (vs : List Value) (o : Obj) : Prop := ∃ n, o = { cls := .type "list", data := .seq vs.toArray n }
theorem e_listO {vs : List Value} (H : St X B O l s) (hz : vs.length ≤ sizeLine) (h : ∀ a s', St X B ((a, LO vs) :: O) l s' → Q (.ref a) s') : wpAny (model prog w) A (newList vs) Q E s :=
  wpAny_newList (h _ _ (H.pushO (o := { cls := .type "list", data := .seq vs.toArray }) (n := s.toks) rfl ⟨0, rfl⟩)) hz
end
end Mine
end
-- part C5
section
open PySem PySem.Spec PySem.Calls PyProof.Rows PySem.W
namespace Mine
section
variable {prog : Program} {w : World} {A : Around}

theorem St.let1 {X : Fx} {B : FMap} {O : Owns} {l : Locs} {s : Shared} {a : Addr} {P : Obj → Prop} (H : St X B ((a, P) :: O) l s) {h' : Heap} {n : Tok} (hs : ∀ b o, b ≠ a → s.heap.get? b = some o → h'.get? b = some o) (hn : 0 < n := by first | exact Nat.succ_pos _ | assumption | exact tk_self (by assumption) | (refine Nat.lt_of_lt_of_le (tk_self (by assumption)) ?_; first | assumption | exact Nat.le_refl _ | omega)) :
    St X B O l { s with heap := h', toks := n } := by
  obtain ⟨_, haL, haB, hah⟩ := H.own (a, P) (.head _)
  have hap := H.apart
  rw [List.map_cons, List.nodup_cons] at hap
  refine { H with tk := hn, ns := H.ns.extBut (b := a) (fun b o hb e => hs b o hb e) (Ne.symm haL), kept := fun b o e => hs b o (fun q => by rw [q, hah] at e; cases e) (H.kept _ _ e), fz := fun b o e => hs b o (fun q => by rw [q, haB] at e; cases e) (H.fz _ _ e), lowO := fun q hq => H.lowO q (.tail _ hq), own := fun q hq => ?_, apart := hap.2 }
  obtain ⟨⟨oq, h1, h2⟩, r⟩ := H.own q (.tail _ hq)
  exact ⟨⟨oq, hs _ _ (fun e => hap.1 (by rw [← e]; exact List.mem_map_of_mem (f := (·.1)) hq)) h1, h2⟩, r⟩

/-- an iterator that stands among the owned objects; its source is told by Sr of the frozen part -/
structure It (prog : Program) (w : World) (A : Around) (target : Expr) (I : Addr) (n : Nat) (T : Nat → Owns) (Sr : FMap → Prop) (P : FMap → Nat → Value → Prop) : Prop where
  mono : ∀ B B', Sub B B' → Sr B → Sr B'
  self : ∀ {X B O l s} i (Q : Value → Shared → Prop) (E : Value → Shared → Prop), Sr B → St X B (T i ++ O) l s → Q (.ref I) s → wpAny (model prog w) A (pyIter (.ref I)) Q E s
  turn : ∀ {X B O l s} i (Q : Option Value → Shared → Prop) (E : Value → Shared → Prop), i < n → Sr B → St X B (T i ++ O) l s →
    (∀ v s₁, (∀ (Q' : Unit → Shared → Prop) (E' : Value → Shared → Prop), (∀ B' s', Sub B B' → P B' i v → St X B' (T (i + 1) ++ O) l s' → Q' () s') → wpAny (model prog w) A (letOwnedTupleGo target (.ref I) v) Q' E' s₁) → Q (some v) s₁) →
    wpAny (model prog w) A (pyNext (.ref I)) Q E s
  done : ∀ {X B O l s} (Q : Option Value → Shared → Prop) (E : Value → Shared → Prop), Sr B → St X B (T n ++ O) l s →
    (∀ s', St X B O l s' → Q none s') → wpAny (model prog w) A (pyNext (.ref I)) Q E s

/-- targets of a for that take a list's item as it is -/
def Takes (target : Expr) (tys : List String) : Prop := ∀ (prog : Program) (w : World) (A : Around) (I : Addr) (v : Value) (o : Obj) (ty : String) (fs : Array Value) (s : Shared) (Q : Unit → Shared → Prop) (E : Value → Shared → Prop),
  ty ∈ tys → s.heap.get? I = some o → o.cls = .type ty → o.data = .fields fs → Q () s → wpAny (model prog w) A (letOwnedTupleGo target (.ref I) v) Q E s
theorem takes_name {x : Str} {p : Pos} {tys : List String} : Takes (.Name x p) tys := fun _ _ _ _ _ _ _ _ _ _ _ _ _ _ _ hq => wpAny_pure hq
def plainIters : List String := ["list_iterator", "tuple_iterator", "dict_keyiterator", "range_iterator"]
theorem takes_tuple {es : List Expr} {k : Nat} {p : Pos} : Takes (.Tuple es k p) plainIters := fun prog w A I v o ty fs s Q E hty ho hc hd hq => by
  unfold letOwnedTupleGo
  cases v with
  | ref a =>
    refine wpAny_bind (wpAny_load ho ?_)
    rw [hc, hd]
    have hn : ["enumerate", "zip", "dict_itemiterator", "dict_reverseitemiterator", "odict_iterator", "itertools.zip_longest", "itertools.pairwise"].contains ty = false := by
      simp only [plainIters, List.mem_cons, List.not_mem_nil, or_false] at hty
      rcases hty with rfl | rfl | rfl | rfl <;> decide +kernel
    simp only [hn, Bool.false_and, Bool.false_eq_true, if_false]
    exact wpAny_pure hq
  | _ => exact wpAny_pure hq

def listIt (l : Addr) (i : Nat) (o : Obj) : Prop := o.cls = .type "list_iterator" ∧ o.data = .fields #[.ref l, .int i 0]
theorem It.list (hh : A.handled = none) {target : Expr} {I a : Addr} {vs : List Value} (hgo : Takes target plainIters) :
    It prog w A target I vs.length (fun i => [(I, listIt a i)]) (fun B => ∃ o n, B a = some o ∧ o.cls = .type "list" ∧ o.data = .seq vs.toArray n) (fun _ i v => vs[i]? = some v) where
  mono := fun B B' hs ⟨o, n, h, r⟩ => ⟨o, n, hs _ _ h, r⟩
  self := fun {X B O l s} i Q E _ H hQ => by
    obtain ⟨⟨oi, hoi, hti⟩, _⟩ := H.own _ (.head _)
    exact wpAny_pyIter_listiter ⟨oi, hoi, hti⟩ hQ
  turn := fun {X B O l s} i Q E hi ⟨o, n, hB, hc, hd⟩ H hQ => by
    obtain ⟨⟨oi, hoi, hti⟩, _, hnB, _⟩ := H.own _ (.head _)
    refine wpAny_pyNext_list_item (l := a) (i := i) (items := vs.toArray) (x := vs[i]) ⟨oi, hoi, hti⟩ ⟨o, H.fz _ _ hB, hc, n, hd⟩ (by simp [hi]) fun h' hit hs => ?_
    obtain ⟨o', ho', ht'⟩ := hit
    refine hQ _ _ fun Q' E' h => hgo _ _ _ _ _ _ _ _ _ _ _ (by decide) ho' ht'.1 ht'.2 ?_
    exact h B _ (Sub.refl _) (by simp [hi]) (H.turn (O₁ := []) rfl (n := s.toks) (fun b o hb e => hs.extBut b o hb e) ho' ht')
  done := fun {X B O l s} Q E ⟨o, n, hB, hc, hd⟩ H hQ => by
    obtain ⟨⟨oi, hoi, hti⟩, hL, hnB, hh0⟩ := H.own _ (.head _)
    refine wpAny_pyNext_list_end (l := a) (i := vs.length) (items := vs.toArray) hh ⟨oi, hoi, hti⟩ ⟨o, H.fz _ _ hB, hc, n, hd⟩ (by simp) fun h' he => ?_
    exact hQ _ (H.let1 (n := s.toks) he)

def tupleIt (l : Addr) (i : Nat) (o : Obj) : Prop := o.cls = .type "tuple_iterator" ∧ o.data = .fields #[.ref l, .int i 0]
theorem It.tuple (hh : A.handled = none) {target : Expr} {I a : Addr} {vs : List Value} (hgo : Takes target plainIters) :
    It prog w A target I vs.length (fun i => [(I, tupleIt a i)]) (fun B => ∃ o n, B a = some o ∧ o.cls = .type "tuple" ∧ o.data = .seq vs.toArray n) (fun _ i v => vs[i]? = some v) where
  mono := fun B B' hs ⟨o, n, h, r⟩ => ⟨o, n, hs _ _ h, r⟩
  self := fun {X B O l s} i Q E _ H hQ => by
    obtain ⟨⟨oi, hoi, hti⟩, _⟩ := H.own _ (.head _)
    exact wpAny_pyIter_tupleiter ⟨oi, hoi, hti⟩ hQ
  turn := fun {X B O l s} i Q E hi ⟨o, n, hB, hc, hd⟩ H hQ => by
    obtain ⟨⟨oi, hoi, hti⟩, _, hnB, _⟩ := H.own _ (.head _)
    refine wpAny_pyNext_tuple_item (t := a) (i := i) (items := vs.toArray) (x := vs[i]) ⟨oi, hoi, hti⟩ ⟨o, H.fz _ _ hB, hc, n, hd⟩ (by simp [hi]) fun h' hit hs => ?_
    obtain ⟨o', ho', ht'⟩ := hit
    refine hQ _ _ fun Q' E' h => hgo _ _ _ _ _ _ _ _ _ _ _ (by decide) ho' ht'.1 ht'.2 ?_
    exact h B _ (Sub.refl _) (by simp [hi]) (H.turn (O₁ := []) rfl (n := s.toks) (fun b o hb e => hs.extBut b o hb e) ho' ht')
  done := fun {X B O l s} Q E ⟨o, n, hB, hc, hd⟩ H hQ => by
    obtain ⟨⟨oi, hoi, hti⟩, hL, hnB, hh0⟩ := H.own _ (.head _)
    refine wpAny_pyNext_tuple_end (t := a) (i := vs.length) (items := vs.toArray) hh ⟨oi, hoi, hti⟩ ⟨o, H.fz _ _ hB, hc, n, hd⟩ (by simp) fun h' he => ?_
    exact hQ _ (H.let1 (n := s.toks) he)

def strIt (x : Str) (tk : Tok) (i : Nat) (o : Obj) : Prop := o.cls = .type (strIterType x) ∧ o.data = .fields #[.str x tk, .int i 0]
theorem It.str (hh : A.handled = none) {xn : Str} {pp : Pos} {I : Addr} {a : List Nat} {tk : Tok} :
    It prog w A (.Name xn pp) I a.length (fun i => [(I, strIt (S a) tk i)]) (fun _ => True) (fun _ i v => ∃ c t, a[i]? = some c ∧ v = .str (S [c]) t) where
  mono := fun _ _ _ h => h
  self := fun {X B O l s} i Q E _ H hQ => by
    obtain ⟨⟨oi, hoi, hc, hd⟩, _⟩ := H.own _ (.head _)
    unfold strIterType at hc
    split at hc
    · exact wpAny_pyIter_striter_ascii ⟨oi, hoi, hc, hd⟩ hQ
    · exact wpAny_pyIter_striter_wide ⟨oi, hoi, hc, hd⟩ hQ
  turn := fun {X B O l s} i Q E hi _ H hQ => by
    obtain ⟨⟨oi, hoi, hc, hd⟩, _⟩ := H.own _ (.head _)
    have hx : (S a).cps[i]? = some a[i] := by simp [S, hi]
    unfold strIterType at hc
    split at hc
    · rename_i hty
      refine wpAny_pyNext_ascii_item (x := S a) (t := tk) (i := i) (c := a[i]) ⟨oi, hoi, hc, hd⟩ hx fun h' hit hs => ?_
      obtain ⟨o', ho', hc', hd'⟩ := hit
      exact hQ _ _ fun Q' E' h => wpAny_pure (h B _ (Sub.refl _) ⟨a[i], _, by simp [hi], rfl⟩ (H.turn (O₁ := []) rfl (n := s.toks + 1) (fun b o hb e => hs.extBut b o hb e) ho' ⟨by unfold strIterType; rw [if_pos hty]; exact hc', hd'⟩))
    · rename_i hty
      refine wpAny_pyNext_wide_item (x := S a) (t := tk) (i := i) (c := a[i]) ⟨oi, hoi, hc, hd⟩ hx fun h' hit hs => ?_
      obtain ⟨o', ho', hc', hd'⟩ := hit
      exact hQ _ _ fun Q' E' h => wpAny_pure (h B _ (Sub.refl _) ⟨a[i], _, by simp [hi], rfl⟩ (H.turn (O₁ := []) rfl (n := s.toks + 1) (fun b o hb e => hs.extBut b o hb e) ho' ⟨by unfold strIterType; rw [if_neg hty]; exact hc', hd'⟩))
  done := fun {X B O l s} Q E _ H hQ => by
    obtain ⟨⟨oi, hoi, hc, hd⟩, _⟩ := H.own _ (.head _)
    have hx : (S a).cps[a.length]? = none := by simp [S]
    unfold strIterType at hc
    split at hc
    · exact wpAny_pyNext_ascii_end (x := S a) (t := tk) (i := a.length) hh ⟨oi, hoi, hc, hd⟩ hx fun h' he => hQ _ (H.let1 (n := s.toks) he)
    · exact wpAny_pyNext_wide_end (x := S a) (t := tk) (i := a.length) hh ⟨oi, hoi, hc, hd⟩ hx fun h' he => hQ _ (H.let1 (n := s.toks) he)

variable {X : Fx} {B B' : FMap} {O : Owns} {l l' : Locs} {s s' : Shared} {E : Value → Shared → Prop}

/-- what a turn of a loop must come back with, behind the name Qe -/
def Turn (X : Fx) (B : FMap) (J : FMap → Owns → Locs → Prop) (q : Owns) (Qe : Flow → Shared → Prop) : Prop :=
  ∀ {B' O' l' s'}, Sub B B' → J B' O' l' → St X B' (q ++ O') l' s' → Qe .next s'
/-- how a value is walked -/
def Iterates (prog : Program) (w : World) (A : Around) (target : Expr) (X : Fx) (B : FMap) (O : Owns) (l : Locs) (s : Shared) (xv : Value) (n : Nat) (P : FMap → Nat → Value → Prop) : Prop :=
  ∀ (Q : Value → Shared → Prop) (E : Value → Shared → Prop), (∀ I T Sr s', It prog w A target I n T Sr P → Sr B → St X B (T 0 ++ O) l s' → Q (.ref I) s') → wpAny (model prog w) A (pyIter xv) Q E s
theorem it_list (hh : A.handled = none) {target : Expr} (hgo : Takes target plainIters) (H : St X B O l s) {a : Addr} {vs : List Value} {o : Obj} {m : Nat} (hB : B a = some o) (hc : o.cls = .type "list") (hd : o.data = .seq vs.toArray m) :
    Iterates prog w A target X B O l s (.ref a) vs.length fun _ i v => vs[i]? = some v := fun Q E h => by
  refine wpAny_pyIter_list (items := vs.toArray) ⟨o, H.fz _ _ hB, hc, m, hd⟩ ?_
  exact h _ _ _ _ (It.list hh (a := a) hgo) ⟨o, m, hB, hc, hd⟩ (H.pushO (n := s.toks) rfl ⟨rfl, rfl⟩)
theorem it_tuple (hh : A.handled = none) {target : Expr} (hgo : Takes target plainIters) (H : St X B O l s) {a : Addr} {vs : List Value} {o : Obj} {m : Nat} (hB : B a = some o) (hc : o.cls = .type "tuple") (hd : o.data = .seq vs.toArray m) :
    Iterates prog w A target X B O l s (.ref a) vs.length fun _ i v => vs[i]? = some v := fun Q E h => by
  refine wpAny_pyIter_tuple (items := vs.toArray) ⟨o, H.fz _ _ hB, hc, m, hd⟩ ?_
  exact h _ _ _ _ (It.tuple hh (a := a) hgo) ⟨o, m, hB, hc, hd⟩ (H.pushO (n := s.toks) rfl ⟨rfl, rfl⟩)
theorem it_str (hh : A.handled = none) {xn : Str} {pp : Pos} (H : St X B O l s) {a : List Nat} {tk : Tok} :
    Iterates prog w A (.Name xn pp) X B O l s (.str (S a) tk) a.length fun _ i v => ∃ c t, a[i]? = some c ∧ v = .str (S [c]) t := fun Q E h => by
  refine wpAny_pyIter_strU ?_
  exact h _ _ _ _ (It.str hh) trivial (H.pushO (n := s.toks) rfl ⟨rfl, rfl⟩)

theorem loop_it {R : Result → Shared → Prop} {target : Expr} {I : Addr} {n : Nat} {T : Nat → Owns} {Sr : FMap → Prop} {P : FMap → Nat → Value → Prop} (W : It prog w A target I n T Sr P) (hS : Sr B)
    (H : St X B (T 0 ++ O) l s) {body : List Stmt} (J : Nat → FMap → Owns → Locs → Prop) (h0 : J 0 B O l)
    (step : ∀ i v B₁ B₂ O₁ l₁ s₁ q Qe, Turn X B₂ (J (i + 1)) q Qe → i < n → P B₂ i v → Sub B B₁ → J i B₁ O₁ l₁ → Sub B₁ B₂ → St X B₂ (q ++ O₁) l₁ s₁ →
      wpAny (model prog w) A (assign target X.env v) (fun _ s₂ => wpAny (model prog w) A (execs body X.env) Qe (fun _ _ => False) s₂) (fun _ _ => False) s₁)
    (after : ∀ B₁ O₁ l₁ s₁, Sub B B₁ → J n B₁ O₁ l₁ → St X B₁ O₁ l₁ s₁ → R (.ok .next) s₁) :
    codeAny (model prog w) A (.forLoop target (.ref I) body [] X.env) R s := by
  refine codeAny_forLoop_any (fun k s' => ∃ i B₁ O₁ l₁, k = n - i ∧ i ≤ n ∧ Sub B B₁ ∧ J i B₁ O₁ l₁ ∧ St X B₁ (T i ++ O₁) l₁ s') ?_ n ⟨0, B, O, l, rfl, Nat.zero_le _, Sub.refl _, h0, H⟩
  rintro k s₁ ⟨i, B₁, O₁, l₁, rfl, hi, hsub, hJ, H₁⟩
  by_cases hlt : i < n
  · refine W.turn i _ _ hlt (W.mono _ _ hsub hS) H₁ fun v s₂ hgo => ?_
    refine hgo _ _ fun B₂ s₃ hs₂ hP H₂ => ?_
    refine wpAny_mono (step i v B₁ B₂ O₁ l₁ s₃ _ (fun f s₄ => f = .next ∧ ∃ B' O' l', Sub B₂ B' ∧ J (i + 1) B' O' l' ∧ St X B' (T (i + 1) ++ O') l' s₄) (fun hs hj H => ⟨rfl, _, _, _, hs, hj, H⟩) hlt hP hsub hJ hs₂ H₂)
      (fun _ s₃ h₃ => wpAny_mono h₃ (fun f s₄ h₄ => ?_) fun _ _ x => x.elim) fun _ _ x => x.elim
    obtain ⟨rfl, B₄, O₄, l₄, hs₄, hJ₄, H₄⟩ := h₄
    exact ⟨n - (i + 1), by omega, i + 1, B₄, O₄, l₄, rfl, hlt, (hsub.trans hs₂).trans hs₄, hJ₄, H₄⟩
  · have : i = n := by omega
    subst this
    exact W.done _ _ (W.mono _ _ hsub hS) H₁ fun s₂ H₂ => wpAny_execs_nil (after B₁ O₁ l₁ s₂ hsub hJ H₂)

/-- the iterable of a for has been reckoned: how it is walked -/
def ForSrc (prog : Program) (w : World) (A : Around) (target : Expr) (X : Fx) (body rest : List Stmt) (Q : Flow → Shared → Prop) (E : Value → Shared → Prop) (xv : Value) (s : Shared) : Prop :=
  ∃ (n : Nat) (P : FMap → Nat → Value → Prop) (B : FMap) (O : Owns) (l : Locs) (J : Nat → FMap → Owns → Locs → Prop), Iterates prog w A target X B O l s xv n P ∧ J 0 B O l ∧
    (∀ i v B₁ B₂ O₁ l₁ s₁ q Qe, Turn X B₂ (J (i + 1)) q Qe → i < n → P B₂ i v → Sub B B₁ → J i B₁ O₁ l₁ → Sub B₁ B₂ → St X B₂ (q ++ O₁) l₁ s₁ →
      wpAny (model prog w) A (assign target X.env v) (fun _ s₂ => wpAny (model prog w) A (execs body X.env) Qe (fun _ _ => False) s₂) (fun _ _ => False) s₁) ∧
    (∀ B₁ O₁ l₁ s₁, Sub B B₁ → J n B₁ O₁ l₁ → St X B₁ O₁ l₁ s₁ → wpAny (model prog w) A (execs rest X.env) Q E s₁)

theorem x_for {target iter : Expr} {body rest : List Stmt} {pos : Pos} {Q : Flow → Shared → Prop} (h : ∀ bd, bd = body → wpAny (model prog w) A (eval iter X.env) (ForSrc prog w A target X bd rest Q E) E s)
    (hs : ∀ x, foldedSetIterable iter X.env x = pure x := by intro _; rfl) :
    wpAny (model prog w) A (execs (.For target iter body [] pos :: rest) X.env) Q E s := by
  refine wpAny_execs_cons (wpAny_For (wpAny_mono (h _ rfl) (fun xv s₁ h₁ => ?_) fun _ _ x => x) hs)
  obtain ⟨n, P, B, O, l, J, W, h0, step, after⟩ := h₁
  refine W _ _ fun I T Sr s' W hS H => ?_
  exact loop_it W hS H J h0 step after
theorem for_it {target : Expr} {body rest : List Stmt} {Q : Flow → Shared → Prop} {xv : Value} {n : Nat} {P : FMap → Nat → Value → Prop} (W : Iterates prog w A target X B O l s xv n P)
    (J : Nat → FMap → Owns → Locs → Prop) (h0 : J 0 B O l)
    (step : ∀ i v B₁ B₂ O₁ l₁ s₁ q Qe, Turn X B₂ (J (i + 1)) q Qe → i < n → P B₂ i v → Sub B B₁ → J i B₁ O₁ l₁ → Sub B₁ B₂ → St X B₂ (q ++ O₁) l₁ s₁ →
      wpAny (model prog w) A (assign target X.env v) (fun _ s₂ => wpAny (model prog w) A (execs body X.env) Qe (fun _ _ => False) s₂) (fun _ _ => False) s₁)
    (after : ∀ B₁ O₁ l₁ s₁, Sub B B₁ → J n B₁ O₁ l₁ → St X B₁ O₁ l₁ s₁ → wpAny (model prog w) A (execs rest X.env) Q E s₁) :
    ForSrc prog w A target X body rest Q E xv s := ⟨n, P, B, O, l, J, W, h0, step, after⟩
theorem a_name {xn : Str} {pp : Pos} {env : Env} {v : Value} {Q : Unit → Shared → Prop} (h : wpAny (model prog w) A (storeName env xn v) Q E s) : wpAny (model prog w) A (assign (.Name xn pp) env v) Q E s := wpAny_assign_Name h

theorem x_while {test : Expr} {body rest : List Stmt} {pos : Pos} {Q : Flow → Shared → Prop} (H : St X B O l s) (J : Nat → FMap → Owns → Locs → Prop) (n : Nat) (h0 : J n B O l)
    (step : ∀ bd, bd = body → ∀ n B₁ O₁ l₁ s₁ (Qe : Flow → Shared → Prop), (∀ {m B₂ O₂ l₂ s₂}, m < n → Sub B₁ B₂ → J m B₂ O₂ l₂ → St X B₂ O₂ l₂ s₂ → Qe .next s₂) →
      Sub B B₁ → J n B₁ O₁ l₁ → St X B₁ O₁ l₁ s₁ → wpAny (model prog w) A (isTrue test X.env (eval test X.env))
      (fun b s₂ => if b = true then wpAny (model prog w) A (execs bd X.env) Qe (fun _ _ => False) s₂
        else wpAny (model prog w) A (execs rest X.env) Q E s₂) (fun _ _ => False) s₁) :
    wpAny (model prog w) A (execs (.While test body [] pos :: rest) X.env) Q E s := by
  refine wpAny_execs_cons (wpAny_While (codeAny_whileLoop (fun n s' => ∃ B₁ O₁ l₁, Sub B B₁ ∧ J n B₁ O₁ l₁ ∧ St X B₁ O₁ l₁ s') ?_ n ⟨B, O, l, Sub.refl _, h0, H⟩))
  rintro n s₁ ⟨B₁, O₁, l₁, hsub, hJ, H₁⟩
  refine wpAny_mono (step _ rfl n B₁ O₁ l₁ s₁ (fun f s₃ => f = .next ∧ ∃ m B₂ O₂ l₂, m < n ∧ Sub B₁ B₂ ∧ J m B₂ O₂ l₂ ∧ St X B₂ O₂ l₂ s₃) (fun hm hs hj H => ⟨rfl, _, _, _, _, hm, hs, hj, H⟩) hsub hJ H₁) (fun b s₂ h₂ => ?_) fun _ _ x => x.elim
  cases b with
  | true =>
    rw [if_pos rfl] at h₂ ⊢
    refine wpAny_mono h₂ (fun f s₃ h₃ => ?_) fun _ _ x => x.elim
    obtain ⟨rfl, m, B₂, O₂, l₂, hm, hs₂, hJ₂, H₂⟩ := h₃
    exact ⟨m, hm, B₂, O₂, l₂, hsub.trans hs₂, hJ₂, H₂⟩
  | false =>
    rw [if_neg (by simp)] at h₂ ⊢
    exact wpAny_execs_nil h₂
end
end Mine
end
-- part C6
section
open PySem PySem.Spec PySem.Calls PyProof.Rows PySem.W
namespace Mine
section
variable {X : Fx} {B B' : FMap} {O : Owns} {l l' : Locs} {s s' : Shared} {prog : Program} {w : World} {A : Around} {E : Value → Shared → Prop} {Q : Value → Shared → Prop} {env : Env}
end
end Mine
namespace Mine
section
variable {K : Type} [DecidableEq K]
theorem merged_nodup : ∀ (kvs acc : List (K × Value)), ((acc ++ kvs).map (·.1)).Nodup → merged acc kvs = acc ++ kvs
  | [], acc, _ => by simp [merged]
  | (k, v) :: r, acc, h => by
    have hst : stored acc k v = acc ++ [(k, v)] := by
      unfold stored
      rw [if_neg]
      intro hany
      obtain ⟨x, hx, he⟩ := List.any_eq_true.mp hany
      rw [List.map_append, List.nodup_append] at h
      exact h.2.2 x.1 (List.mem_map_of_mem hx) k (by simp) (of_decide_eq_true he)
    show merged (stored acc k v) r = _
    rw [hst, merged_nodup r _ (by simpa using h)]
    simp
theorem merged_nil {kvs : List (K × Value)} (h : (kvs.map (·.1)).Nodup) : merged [] kvs = kvs := by rw [merged_nodup kvs [] (by simpa using h)]; simp
theorem valueAt_nil (k : K) : valueAt ([] : List (K × Value)) k = none := rfl
theorem valueAt_cons (k k' : K) (v : Value) (r : List (K × Value)) : valueAt ((k', v) :: r) k = if k' = k then some v else valueAt r k := by
  unfold valueAt
  rw [List.find?_cons]
  by_cases h : k' = k
  · simp [h]
  · simp [h]
end
theorem beq1 (a b : Nat) : (([a] : List Nat) == [b]) = (a == b) := by
  by_cases h : a = b
  · subst h; simp
  · rw [beq_eq_false_iff_ne.mpr h, beq_eq_false_iff_ne]; simpa using h
theorem bne1 (a b : Nat) : (([a] : List Nat) != [b]) = (a != b) := by unfold bne; rw [beq1]
theorem lt1 (a b : Nat) : decide (([a] : List Nat) < [b]) = decide (a < b) := by
  have e : ([a] < [b]) ↔ a < b := by
    rw [List.cons_lt_cons_iff]
    simp
  simp only [e]

def fig16 : List Nat := [48, 49, 50, 51, 52, 53, 54, 55, 56, 57, 97, 98, 99, 100, 101, 102]
theorem idx16 {v d : Nat} (h : fig16[v]? = some d) : Builtin.Str.occurrences (S fig16) (S [d]) 0 (S fig16).length 1 = [v] := by
  have key : ∀ i : Fin 16, Builtin.Str.occurrences (S fig16) (S [fig16[i.val]!]) 0 (S fig16).length 1 = [i.val] := by decide +kernel
  have hv : v < 16 := (List.getElem?_eq_some_iff.mp h).1
  have := key ⟨v, hv⟩
  simp only at this
  rw [List.getElem!_eq_getElem?_getD, h] at this
  exact this
def fig10 : List Nat := [48, 49, 50, 51, 52, 53, 54, 55, 56, 57]
theorem idx10 {v d : Nat} (h : fig10[v]? = some d) : Builtin.Str.occurrences (S fig10) (S [d]) 0 (S fig10).length 1 = [v] := by
  have key : ∀ i : Fin 10, Builtin.Str.occurrences (S fig10) (S [fig10[i.val]!]) 0 (S fig10).length 1 = [i.val] := by decide +kernel
  have hv : v < 10 := (List.getElem?_eq_some_iff.mp h).1
  have := key ⟨v, hv⟩
  simp only at this
  rw [List.getElem!_eq_getElem?_getD, h] at this
  exact this
theorem mulOk_l {a b : Int} (h1 : -(2 ^ 64) < a) (h2 : a < 2 ^ 64) : IntMulOk a b := IntMulOk.of_left (intBits_le_64 h1 h2)
end Mine
end
-- part C7
section
open PySem PySem.Spec PySem.Calls PyProof.Rows PySem.W
namespace Mine
noncomputable def n_dot0 : Str := Str.ofString ".0"
noncomputable def n_Formatter : Str := Str.ofString "Formatter"
noncomputable def n_IndexError : Str := Str.ofString "IndexError"
noncomputable def n_KeyError : Str := Str.ofString "KeyError"
noncomputable def n_TypeError : Str := Str.ofString "TypeError"
noncomputable def n_ValueError : Str := Str.ofString "ValueError"
noncomputable def n__ : Str := Str.ofString "_"
noncomputable def n___name__ : Str := Str.ofString "__name__"
noncomputable def n__law_cells : Str := Str.ofString "_law_cells"
noncomputable def n__law_close : Str := Str.ofString "_law_close"
noncomputable def n__law_drawn : Str := Str.ofString "_law_drawn"
noncomputable def n__law_fields : Str := Str.ofString "_law_fields"
noncomputable def n__law_found : Str := Str.ofString "_law_found"
noncomputable def n__law_past : Str := Str.ofString "_law_past"
noncomputable def n__law_read : Str := Str.ofString "_law_read"
noncomputable def n__law_text : Str := Str.ofString "_law_text"
noncomputable def n__law_thing : Str := Str.ofString "_law_thing"
noncomputable def n__law_things : Str := Str.ofString "_law_things"
noncomputable def n__law_told : Str := Str.ofString "_law_told"
noncomputable def n__law_word : Str := Str.ofString "_law_word"
noncomputable def n__pe_name : Str := Str.ofString "_pe_name"
noncomputable def n__vformat : Str := Str.ofString "_vformat"
noncomputable def n__wall : Str := Str.ofString "_wall"
noncomputable def n_abs : Str := Str.ofString "abs"
noncomputable def n_any_sign : Str := Str.ofString "any_sign"
noncomputable def n_arg_used : Str := Str.ofString "arg_used"
noncomputable def n_args : Str := Str.ofString "args"
noncomputable def n_ascii : Str := Str.ofString "ascii"
noncomputable def n_auto_arg_index : Str := Str.ofString "auto_arg_index"
noncomputable def n_begin : Str := Str.ofString "begin"
noncomputable def n_bool : Str := Str.ofString "bool"
noncomputable def n_cell : Str := Str.ofString "cell"
noncomputable def n_cells : Str := Str.ofString "cells"
noncomputable def n_check_unused_args : Str := Str.ofString "check_unused_args"
noncomputable def n_chr : Str := Str.ofString "chr"
noncomputable def n_code : Str := Str.ofString "code"
noncomputable def n_conversion : Str := Str.ofString "conversion"
noncomputable def n_convert_field : Str := Str.ofString "convert_field"
noncomputable def n_dict : Str := Str.ofString "dict"
noncomputable def n_divmod : Str := Str.ofString "divmod"
noncomputable def n_due : Str := Str.ofString "due"
noncomputable def n_end : Str := Str.ofString "end"
noncomputable def n_enumerate : Str := Str.ofString "enumerate"
noncomputable def n_fault : Str := Str.ofString "fault"
noncomputable def n_field_name : Str := Str.ofString "field_name"
noncomputable def n_fields : Str := Str.ofString "fields"
noncomputable def n_figure : Str := Str.ofString "figure"
noncomputable def n_figures : Str := Str.ofString "figures"
noncomputable def n_fill : Str := Str.ofString "fill"
noncomputable def n_first : Str := Str.ofString "first"
noncomputable def n_format : Str := Str.ofString "format"
noncomputable def n_format_field : Str := Str.ofString "format_field"
noncomputable def n_format_spec : Str := Str.ofString "format_spec"
noncomputable def n_format_string : Str := Str.ofString "format_string"
noncomputable def n_further : Str := Str.ofString "further"
noncomputable def n_get_field : Str := Str.ofString "get_field"
noncomputable def n_get_value : Str := Str.ofString "get_value"
noncomputable def n_getattr : Str := Str.ofString "getattr"
noncomputable def n_grows : Str := Str.ofString "grows"
noncomputable def n_held : Str := Str.ofString "held"
noncomputable def n_i : Str := Str.ofString "i"
noncomputable def n_int : Str := Str.ofString "int"
noncomputable def n_is_attr : Str := Str.ofString "is_attr"
noncomputable def n_isinstance : Str := Str.ofString "isinstance"
noncomputable def n_k : Str := Str.ofString "k"
noncomputable def n_kept : Str := Str.ofString "kept"
noncomputable def n_key : Str := Str.ofString "key"
noncomputable def n_keys : Str := Str.ofString "keys"
noncomputable def n_kind : Str := Str.ofString "kind"
noncomputable def n_kinds : Str := Str.ofString "kinds"
noncomputable def n_kwargs : Str := Str.ofString "kwargs"
noncomputable def n_law : Str := Str.ofString "law"
noncomputable def n_left : Str := Str.ofString "left"
noncomputable def n_len : Str := Str.ofString "len"
noncomputable def n_list : Str := Str.ofString "list"
noncomputable def n_literal_text : Str := Str.ofString "literal_text"
noncomputable def n_maker : Str := Str.ofString "maker"
noncomputable def n_mark : Str := Str.ofString "mark"
noncomputable def n_max : Str := Str.ofString "max"
noncomputable def n_n : Str := Str.ofString "n"
noncomputable def n_name : Str := Str.ofString "name"
noncomputable def n_names : Str := Str.ofString "names"
noncomputable def n_number : Str := Str.ofString "number"
noncomputable def n_obj : Str := Str.ofString "obj"
noncomputable def n_one : Str := Str.ofString "one"
noncomputable def n_other : Str := Str.ofString "other"
noncomputable def n_over : Str := Str.ofString "over"
noncomputable def n_page : Str := Str.ofString "page"
noncomputable def n_parse : Str := Str.ofString "parse"
noncomputable def n_place : Str := Str.ofString "place"
noncomputable def n_plain : Str := Str.ofString "plain"
noncomputable def n_quote : Str := Str.ofString "quote"
noncomputable def n_range : Str := Str.ofString "range"
noncomputable def n_read : Str := Str.ofString "read"
noncomputable def n_recursion_depth : Str := Str.ofString "recursion_depth"
noncomputable def n_repr : Str := Str.ofString "repr"
noncomputable def n_rest : Str := Str.ofString "rest"
noncomputable def n_result : Str := Str.ofString "result"
noncomputable def n_row : Str := Str.ofString "row"
noncomputable def n_rows : Str := Str.ofString "rows"
noncomputable def n_script : Str := Str.ofString "script"
noncomputable def n_self : Str := Str.ofString "self"
noncomputable def n_set : Str := Str.ofString "set"
noncomputable def n_short : Str := Str.ofString "short"
noncomputable def n_shown : Str := Str.ofString "shown"
noncomputable def n_side : Str := Str.ofString "side"
noncomputable def n_sign : Str := Str.ofString "sign"
noncomputable def n_size : Str := Str.ofString "size"
noncomputable def n_stop : Str := Str.ofString "stop"
noncomputable def n_str : Str := Str.ofString "str"
noncomputable def n_text : Str := Str.ofString "text"
noncomputable def n_thing : Str := Str.ofString "thing"
noncomputable def n_things : Str := Str.ofString "things"
noncomputable def n_told : Str := Str.ofString "told"
noncomputable def n_tuple : Str := Str.ofString "tuple"
noncomputable def n_turn : Str := Str.ofString "turn"
noncomputable def n_type : Str := Str.ofString "type"
noncomputable def n_unknown : Str := Str.ofString "unknown"
noncomputable def n_used : Str := Str.ofString "used"
noncomputable def n_used_args : Str := Str.ofString "used_args"
noncomputable def n_value : Str := Str.ofString "value"
noncomputable def n_vformat : Str := Str.ofString "vformat"
noncomputable def n_way : Str := Str.ofString "way"
noncomputable def n_width : Str := Str.ofString "width"
noncomputable def n_word : Str := Str.ofString "word"
noncomputable def n_written : Str := Str.ofString "written"
noncomputable def n_x : Str := Str.ofString "x"
noncomputable def n_zip : Str := Str.ofString "zip"
/-- the names of the text -/
theorem names_ : Str.ofString ".0" = n_dot0 ∧ Str.ofString "Formatter" = n_Formatter ∧ Str.ofString "IndexError" = n_IndexError ∧ Str.ofString "KeyError" = n_KeyError ∧ Str.ofString "TypeError" = n_TypeError ∧ Str.ofString "ValueError" = n_ValueError ∧ Str.ofString "_" = n__ ∧ Str.ofString "__name__" = n___name__ ∧ Str.ofString "_law_cells" = n__law_cells ∧ Str.ofString "_law_close" = n__law_close ∧ Str.ofString "_law_drawn" = n__law_drawn ∧ Str.ofString "_law_fields" = n__law_fields ∧ Str.ofString "_law_found" = n__law_found ∧ Str.ofString "_law_past" = n__law_past ∧ Str.ofString "_law_read" = n__law_read ∧ Str.ofString "_law_text" = n__law_text ∧ Str.ofString "_law_thing" = n__law_thing ∧ Str.ofString "_law_things" = n__law_things ∧ Str.ofString "_law_told" = n__law_told ∧ Str.ofString "_law_word" = n__law_word ∧ Str.ofString "_pe_name" = n__pe_name ∧ Str.ofString "_vformat" = n__vformat ∧ Str.ofString "_wall" = n__wall ∧ Str.ofString "abs" = n_abs ∧ Str.ofString "any_sign" = n_any_sign ∧ Str.ofString "arg_used" = n_arg_used ∧ Str.ofString "args" = n_args ∧ Str.ofString "ascii" = n_ascii ∧ Str.ofString "auto_arg_index" = n_auto_arg_index ∧ Str.ofString "begin" = n_begin ∧ Str.ofString "bool" = n_bool ∧ Str.ofString "cell" = n_cell ∧ Str.ofString "cells" = n_cells ∧ Str.ofString "check_unused_args" = n_check_unused_args ∧ Str.ofString "chr" = n_chr ∧ Str.ofString "code" = n_code ∧ Str.ofString "conversion" = n_conversion ∧ Str.ofString "convert_field" = n_convert_field ∧ Str.ofString "dict" = n_dict ∧ Str.ofString "divmod" = n_divmod ∧ Str.ofString "due" = n_due ∧ Str.ofString "end" = n_end ∧ Str.ofString "enumerate" = n_enumerate ∧ Str.ofString "fault" = n_fault ∧ Str.ofString "field_name" = n_field_name ∧ Str.ofString "fields" = n_fields ∧ Str.ofString "figure" = n_figure ∧ Str.ofString "figures" = n_figures ∧ Str.ofString "fill" = n_fill ∧ Str.ofString "first" = n_first ∧ Str.ofString "format" = n_format ∧ Str.ofString "format_field" = n_format_field ∧ Str.ofString "format_spec" = n_format_spec ∧ Str.ofString "format_string" = n_format_string ∧ Str.ofString "further" = n_further ∧ Str.ofString "get_field" = n_get_field ∧ Str.ofString "get_value" = n_get_value ∧ Str.ofString "getattr" = n_getattr ∧ Str.ofString "grows" = n_grows ∧ Str.ofString "held" = n_held ∧ Str.ofString "i" = n_i ∧ Str.ofString "int" = n_int ∧ Str.ofString "is_attr" = n_is_attr ∧ Str.ofString "isinstance" = n_isinstance ∧ Str.ofString "k" = n_k ∧ Str.ofString "kept" = n_kept ∧ Str.ofString "key" = n_key ∧ Str.ofString "keys" = n_keys ∧ Str.ofString "kind" = n_kind ∧ Str.ofString "kinds" = n_kinds ∧ Str.ofString "kwargs" = n_kwargs ∧ Str.ofString "law" = n_law ∧ Str.ofString "left" = n_left ∧ Str.ofString "len" = n_len ∧ Str.ofString "list" = n_list ∧ Str.ofString "literal_text" = n_literal_text ∧ Str.ofString "maker" = n_maker ∧ Str.ofString "mark" = n_mark ∧ Str.ofString "max" = n_max ∧ Str.ofString "n" = n_n ∧ Str.ofString "name" = n_name ∧ Str.ofString "names" = n_names ∧ Str.ofString "number" = n_number ∧ Str.ofString "obj" = n_obj ∧ Str.ofString "one" = n_one ∧ Str.ofString "other" = n_other ∧ Str.ofString "over" = n_over ∧ Str.ofString "page" = n_page ∧ Str.ofString "parse" = n_parse ∧ Str.ofString "place" = n_place ∧ Str.ofString "plain" = n_plain ∧ Str.ofString "quote" = n_quote ∧ Str.ofString "range" = n_range ∧ Str.ofString "read" = n_read ∧ Str.ofString "recursion_depth" = n_recursion_depth ∧ Str.ofString "repr" = n_repr ∧ Str.ofString "rest" = n_rest ∧ Str.ofString "result" = n_result ∧ Str.ofString "row" = n_row ∧ Str.ofString "rows" = n_rows ∧ Str.ofString "script" = n_script ∧ Str.ofString "self" = n_self ∧ Str.ofString "set" = n_set ∧ Str.ofString "short" = n_short ∧ Str.ofString "shown" = n_shown ∧ Str.ofString "side" = n_side ∧ Str.ofString "sign" = n_sign ∧ Str.ofString "size" = n_size ∧ Str.ofString "stop" = n_stop ∧ Str.ofString "str" = n_str ∧ Str.ofString "text" = n_text ∧ Str.ofString "thing" = n_thing ∧ Str.ofString "things" = n_things ∧ Str.ofString "told" = n_told ∧ Str.ofString "tuple" = n_tuple ∧ Str.ofString "turn" = n_turn ∧ Str.ofString "type" = n_type ∧ Str.ofString "unknown" = n_unknown ∧ Str.ofString "used" = n_used ∧ Str.ofString "used_args" = n_used_args ∧ Str.ofString "value" = n_value ∧ Str.ofString "vformat" = n_vformat ∧ Str.ofString "way" = n_way ∧ Str.ofString "width" = n_width ∧ Str.ofString "word" = n_word ∧ Str.ofString "written" = n_written ∧ Str.ofString "x" = n_x ∧ Str.ofString "zip" = n_zip := ⟨rfl, rfl, rfl, rfl, rfl, rfl, rfl, rfl, rfl, rfl, rfl, rfl, rfl, rfl, rfl, rfl, rfl, rfl, rfl, rfl, rfl, rfl, rfl, rfl, rfl, rfl, rfl, rfl, rfl, rfl, rfl, rfl, rfl, rfl, rfl, rfl, rfl, rfl, rfl, rfl, rfl, rfl, rfl, rfl, rfl, rfl, rfl, rfl, rfl, rfl, rfl, rfl, rfl, rfl, rfl, rfl, rfl, rfl, rfl, rfl, rfl, rfl, rfl, rfl, rfl, rfl, rfl, rfl, rfl, rfl, rfl, rfl, rfl, rfl, rfl, rfl, rfl, rfl, rfl, rfl, rfl, rfl, rfl, rfl, rfl, rfl, rfl, rfl, rfl, rfl, rfl, rfl, rfl, rfl, rfl, rfl, rfl, rfl, rfl, rfl, rfl, rfl, rfl, rfl, rfl, rfl, rfl, rfl, rfl, rfl, rfl, rfl, rfl, rfl, rfl, rfl, rfl, rfl, rfl, rfl, rfl, rfl, rfl, rfl, rfl, rfl, rfl, rfl⟩
theorem lit_of {a : Str} {b : List Nat} (h : a = S b) : Const.str a = Const.str (S b) := congrArg _ h
/-- the texts of the text -/
theorem slits : Const.str (Str.ofString " ") = Const.str (S [32]) ∧ Const.str (Str.ofString " .*é<") = Const.str (S [32, 46, 42, 233, 60]) ∧ Const.str (Str.ofString "") = Const.str (S []) ∧ Const.str (Str.ofString "'") = Const.str (S [39]) ∧ Const.str (Str.ofString "'\"") = Const.str (S [39, 34]) ∧ Const.str (Str.ofString "'\"\\\n\u000d\t|é a0\u007f\u00ad.\u2028*") = Const.str (S [39, 34, 92, 10, 13, 9, 124, 233, 32, 97, 48, 127, 173, 46, 8232, 42]) ∧ Const.str (Str.ofString "(") = Const.str (S [40]) ∧ Const.str (Str.ofString "-") = Const.str (S [45]) ∧ Const.str (Str.ofString "-1") = Const.str (S [45, 49]) ∧ Const.str (Str.ofString "0") = Const.str (S [48]) ∧ Const.str (Str.ofString "0123456789") = Const.str (S [48, 49, 50, 51, 52, 53, 54, 55, 56, 57]) ∧ Const.str (Str.ofString "0123456789abcdef") = Const.str (S [48, 49, 50, 51, 52, 53, 54, 55, 56, 57, 97, 98, 99, 100, 101, 102]) ∧ Const.str (Str.ofString "1.5") = Const.str (S [49, 46, 53]) ∧ Const.str (Str.ofString ": ") = Const.str (S [58, 32]) ∧ Const.str (Str.ofString ":") = Const.str (S [58]) ∧ Const.str (Str.ofString "<") = Const.str (S [60]) ∧ Const.str (Str.ofString ">") = Const.str (S [62]) ∧ Const.str (Str.ofString "False") = Const.str (S [70, 97, 108, 115, 101]) ∧ Const.str (Str.ofString "IndexError") = Const.str (S [73, 110, 100, 101, 120, 69, 114, 114, 111, 114]) ∧ Const.str (Str.ofString "KeyError") = Const.str (S [75, 101, 121, 69, 114, 114, 111, 114]) ∧ Const.str (Str.ofString "None") = Const.str (S [78, 111, 110, 101]) ∧ Const.str (Str.ofString "True") = Const.str (S [84, 114, 117, 101]) ∧ Const.str (Str.ofString "U") = Const.str (S [85]) ∧ Const.str (Str.ofString "Unknown conversion specifier ") = Const.str (S [85, 110, 107, 110, 111, 119, 110, 32, 99, 111, 110, 118, 101, 114, 115, 105, 111, 110, 32, 115, 112, 101, 99, 105, 102, 105, 101, 114, 32]) ∧ Const.str (Str.ofString "Unknown conversion specifier {0!s}") = Const.str (S [85, 110, 107, 110, 111, 119, 110, 32, 99, 111, 110, 118, 101, 114, 115, 105, 111, 110, 32, 115, 112, 101, 99, 105, 102, 105, 101, 114, 32, 123, 48, 33, 115, 125]) ∧ Const.str (Str.ofString "[") = Const.str (S [91]) ∧ Const.str (Str.ofString "[({") = Const.str (S [91, 40, 123]) ∧ Const.str (Str.ofString "\"") = Const.str (S [34]) ∧ Const.str (Str.ofString "\\") = Const.str (S [92]) ∧ Const.str (Str.ofString "\n") = Const.str (S [10]) ∧ Const.str (Str.ofString "\n\u000d\t") = Const.str (S [10, 13, 9]) ∧ Const.str (Str.ofString "\n\u000d\té 0\u007f\u00ad") = Const.str (S [10, 13, 9, 233, 32, 48, 127, 173]) ∧ Const.str (Str.ofString "\t") = Const.str (S [9]) ∧ Const.str (Str.ofString "\u000d") = Const.str (S [13]) ∧ Const.str (Str.ofString "\u007f") = Const.str (S [127]) ∧ Const.str (Str.ofString "]") = Const.str (S [93]) ∧ Const.str (Str.ofString "^") = Const.str (S [94]) ∧ Const.str (Str.ofString "a") = Const.str (S [97]) ∧ Const.str (Str.ofString "key") = Const.str (S [107, 101, 121]) ∧ Const.str (Str.ofString "x y") = Const.str (S [120, 32, 121]) ∧ Const.str (Str.ofString "é") = Const.str (S [233]) ∧ Const.str (Str.ofString "list") = Const.str (S [108, 105, 115, 116]) ∧ Const.str (Str.ofString "n") = Const.str (S [110]) ∧ Const.str (Str.ofString "r") = Const.str (S [114]) ∧ Const.str (Str.ofString "s") = Const.str (S [115]) ∧ Const.str (Str.ofString "t") = Const.str (S [116]) ∧ Const.str (Str.ofString "table") = Const.str (S [116, 97, 98, 108, 101]) ∧ Const.str (Str.ofString "tuple") = Const.str (S [116, 117, 112, 108, 101]) ∧ Const.str (Str.ofString "u") = Const.str (S [117]) ∧ Const.str (Str.ofString "x") = Const.str (S [120]) ∧ Const.str (Str.ofString "{") = Const.str (S [123]) ∧ Const.str (Str.ofString "}") = Const.str (S [125]) ∧ Const.str (Str.ofString ")") = Const.str (S [41]) ∧ Const.str (Str.ofString "])}") = Const.str (S [93, 41, 125]) ∧ Const.str (Str.ofString ", ") = Const.str (S [44, 32]) ∧ Const.str (Str.ofString ",") = Const.str (S [44]) ∧ Const.str (Str.ofString ",)") = Const.str (S [44, 41]) ∧ Const.str (Str.ofString "|") = Const.str (S [124]) ∧ Const.str (Str.ofString "| .*é<") = Const.str (S [124, 32, 46, 42, 233, 60]) ∧ Const.str (Str.ofString "~") = Const.str (S [126]) ∧ Const.str (Str.ofString "not ") = Const.str (S [110, 111, 116, 32]) ∧ Const.str (Str.ofString "cpy313.string") = Const.str (S [99, 112, 121, 51, 49, 51, 46, 115, 116, 114, 105, 110, 103]) := ⟨lit_of (by decide +kernel), lit_of (by decide +kernel), lit_of (by decide +kernel), lit_of (by decide +kernel), lit_of (by decide +kernel), lit_of (by decide +kernel), lit_of (by decide +kernel), lit_of (by decide +kernel), lit_of (by decide +kernel), lit_of (by decide +kernel), lit_of (by decide +kernel), lit_of (by decide +kernel), lit_of (by decide +kernel), lit_of (by decide +kernel), lit_of (by decide +kernel), lit_of (by decide +kernel), lit_of (by decide +kernel), lit_of (by decide +kernel), lit_of (by decide +kernel), lit_of (by decide +kernel), lit_of (by decide +kernel), lit_of (by decide +kernel), lit_of (by decide +kernel), lit_of (by decide +kernel), lit_of (by decide +kernel), lit_of (by decide +kernel), lit_of (by decide +kernel), lit_of (by decide +kernel), lit_of (by decide +kernel), lit_of (by decide +kernel), lit_of (by decide +kernel), lit_of (by decide +kernel), lit_of (by decide +kernel), lit_of (by decide +kernel), lit_of (by decide +kernel), lit_of (by decide +kernel), lit_of (by decide +kernel), lit_of (by decide +kernel), lit_of (by decide +kernel), lit_of (by decide +kernel), lit_of (by decide +kernel), lit_of (by decide +kernel), lit_of (by decide +kernel), lit_of (by decide +kernel), lit_of (by decide +kernel), lit_of (by decide +kernel), lit_of (by decide +kernel), lit_of (by decide +kernel), lit_of (by decide +kernel), lit_of (by decide +kernel), lit_of (by decide +kernel), lit_of (by decide +kernel), lit_of (by decide +kernel), lit_of (by decide +kernel), lit_of (by decide +kernel), lit_of (by decide +kernel), lit_of (by decide +kernel), lit_of (by decide +kernel), lit_of (by decide +kernel), lit_of (by decide +kernel), lit_of (by decide +kernel), lit_of (by decide +kernel)⟩
theorem bn_len : bootBuiltins n_len = some (.builtin "len") := rfl
theorem bn_isinstance : bootBuiltins n_isinstance = some (.builtin "isinstance") := rfl
theorem bn_chr : bootBuiltins n_chr = some (.builtin "chr") := rfl
theorem bn_divmod : bootBuiltins n_divmod = some (.builtin "divmod") := rfl
theorem bn_abs : bootBuiltins n_abs = some (.builtin "abs") := rfl
theorem bn_repr : bootBuiltins n_repr = some (.builtin "repr") := rfl
theorem bn_ascii : bootBuiltins n_ascii = some (.builtin "ascii") := rfl
theorem bn_format : bootBuiltins n_format = some (.builtin "format") := rfl
theorem bn_max : bootBuiltins n_max = some (.builtin "max") := rfl
theorem bn_str : bootBuiltins n_str = some (.type "str") := rfl
theorem bn_dict : bootBuiltins n_dict = some (.type "dict") := rfl
theorem bn_list : bootBuiltins n_list = some (.type "list") := rfl
theorem bn_tuple : bootBuiltins n_tuple = some (.type "tuple") := rfl
theorem bn_bool : bootBuiltins n_bool = some (.type "bool") := rfl
theorem bn_int : bootBuiltins n_int = some (.type "int") := rfl
theorem bn_zip : bootBuiltins n_zip = some (.type "zip") := rfl
theorem bn_range : bootBuiltins n_range = some (.type "range") := rfl
theorem bn_enumerate : bootBuiltins n_enumerate = some (.type "enumerate") := rfl
theorem bn_set : bootBuiltins n_set = some (.type "set") := rfl
theorem bn_ValueError : bootBuiltins n_ValueError = some (.type "ValueError") := rfl
theorem bn_IndexError : bootBuiltins n_IndexError = some (.type "IndexError") := rfl
theorem bn_KeyError : bootBuiltins n_KeyError = some (.type "KeyError") := rfl
theorem bn_TypeError : bootBuiltins n_TypeError = some (.type "TypeError") := rfl
end Mine
end
-- part C8
section
open PySem PySem.Spec PySem.Calls PyProof.Rows PySem.W
namespace Mine
theorem idx_lo (hi : Option Int) (n : Nat) : Builtin.Str.strSliceIndices none hi 1 n = Builtin.Str.strSliceIndices (some ((0 : Nat) : Int)) hi 1 n := by
  unfold Builtin.Str.strSliceIndices
  simp only [show (1 : Int) > 0 by decide, if_true]
  congr 1
  all_goals (try (show (0 : Int) = max 0 (min 0 (n : Int))))
  all_goals (try omega)
theorem idx_hi (lo : Option Int) (n : Nat) : Builtin.Str.strSliceIndices lo none 1 n = Builtin.Str.strSliceIndices lo (some ((n : Nat) : Int)) 1 n := by
  unfold Builtin.Str.strSliceIndices
  simp only [show (1 : Int) > 0 by decide, if_true]
  congr 1
  have : ¬ ((n : Int) < 0) := by omega
  rw [if_neg this]
  omega
theorem slice_hi (a : List Nat) (j : Nat) : Txt.slice (S a) none (some (j : Int)) = S (a.take j) := by
  have e : Txt.slice (S a) none (some (j : Int)) = Txt.slice (S a) (some ((0 : Nat) : Int)) (some (j : Int)) := by unfold Txt.slice; rw [idx_lo]
  rw [e, slice_nat]; simp
theorem slice_lo (a : List Nat) (i : Nat) : Txt.slice (S a) (some (i : Int)) none = S (a.drop i) := by
  have e : Txt.slice (S a) (some (i : Int)) none = Txt.slice (S a) (some (i : Int)) (some ((S a).length : Int)) := by unfold Txt.slice; rw [idx_hi]
  rw [e, slice_nat, List.take_of_length_le (by simp)]

section
variable {X : Fx} {B B' : FMap} {O : Owns} {l l' : Locs} {s s' : Shared} {prog : Program} {w : World} {A : Around} {E : Value → Shared → Prop} {Q : Value → Shared → Prop} {env : Env}

def CutLo (Q : Value → Shared → Prop) (o iv : Value) (s₃ : Shared) : Prop :=
  ∃ X B O l a t i ti, o = .str (S a) t ∧ iv = .int i ti ∧ a.length ≤ sizeLine ∧ St X B O l s₃ ∧ ∀ t s', St X B O l s' → Q (.str (Txt.slice (S a) (some i) none) t) s'
theorem cut_lo {a : List Nat} {t ti : Tok} {i' : Int} (i : Nat) (H : St X B O l s) (hz : a.length ≤ sizeLine) (hi : i' = i) (h : ∀ t s', St X B O l s' → Q (.str (S (a.drop i)) t) s') :
    CutLo Q (.str (S a) t) (.int i' ti) s := by
  subst hi
  exact ⟨X, B, O, l, a, t, _, ti, rfl, rfl, hz, H, fun t s' H => by rw [slice_lo]; exact h t s' H⟩
/-- text[i:] -/
theorem e_cutL {value lo : Expr} {p pos : Pos}
    (h : wpAny (model prog w) A (eval value env) (fun o s₁ => wpAny (model prog w) A (eval lo env) (fun iv s₂ => CutLo Q o iv s₂) E s₁) E s)
    (hs : ∀ o i, (∃ x t, o = Value.str x t) → (∃ a, i = Value.ref a) → subscripted (.Slice (some lo) none none p) false o i = operate [i, o] (getItem o i) := by rintro _ _ ⟨_, _, rfl⟩ ⟨_, rfl⟩; with_unfolding_all rfl)
    (ht : ∀ o r, (∃ x t, o = Value.str x t) → letTemporaryGo value o r = pure () := by rintro _ _ ⟨_, _, rfl⟩; with_unfolding_all rfl) :
    wpAny (model prog w) A (eval (.Subscript value (.Slice (some lo) none none p) pos) env) Q E s := by
  refine Subscript_ (wpAny_mono h (fun o s₁ h₁ => ?_) fun _ _ x => x)
  refine wpAny_Slice (wpAny_evalPart_some (wpAny_mono h₁ (fun iv s₂ h₂ => wpAny_evalPart_none (wpAny_evalPart_none ?_)) fun _ _ x => x))
  obtain ⟨X, B, O, l, a, t, i, ti, rfl, rfl, hz, H, hQ⟩ := h₂
  refine any_toks ?_
  refine tail_of_ItemOn (SBH.sliceItem_sn (P := fun h' => Keep s₂.heap h') (fun h ob k => k.trans (keep_push _ _)) (Keep.refl _) (fun h' t' k hk (hle : s₂.toks ≤ k) => hQ _ _ (H.keeps hk)) (by simpa using hz)) (hs _ _ ⟨_, _, rfl⟩ ⟨_, rfl⟩) fun r => ht _ _ ⟨_, _, rfl⟩
def CutHi (Q : Value → Shared → Prop) (o jv : Value) (s₃ : Shared) : Prop :=
  ∃ X B O l a t i ti, o = .str (S a) t ∧ jv = .int i ti ∧ a.length ≤ sizeLine ∧ St X B O l s₃ ∧ ∀ t s', St X B O l s' → Q (.str (Txt.slice (S a) none (some i)) t) s'
theorem cut_hi {a : List Nat} {t ti : Tok} {i' : Int} (i : Nat) (H : St X B O l s) (hz : a.length ≤ sizeLine) (hi : i' = i) (h : ∀ t s', St X B O l s' → Q (.str (S (a.take i)) t) s') :
    CutHi Q (.str (S a) t) (.int i' ti) s := by
  subst hi
  exact ⟨X, B, O, l, a, t, _, ti, rfl, rfl, hz, H, fun t s' H => by rw [slice_hi]; exact h t s' H⟩
/-- text[:j] -/
theorem e_cutH {value hi : Expr} {p pos : Pos}
    (h : wpAny (model prog w) A (eval value env) (fun o s₁ => wpAny (model prog w) A (eval hi env) (fun iv s₂ => CutHi Q o iv s₂) E s₁) E s)
    (hs : ∀ o i, (∃ x t, o = Value.str x t) → (∃ a, i = Value.ref a) → subscripted (.Slice none (some hi) none p) false o i = operate [i, o] (getItem o i) := by rintro _ _ ⟨_, _, rfl⟩ ⟨_, rfl⟩; with_unfolding_all rfl)
    (ht : ∀ o r, (∃ x t, o = Value.str x t) → letTemporaryGo value o r = pure () := by rintro _ _ ⟨_, _, rfl⟩; with_unfolding_all rfl) :
    wpAny (model prog w) A (eval (.Subscript value (.Slice none (some hi) none p) pos) env) Q E s := by
  refine Subscript_ (wpAny_mono h (fun o s₁ h₁ => ?_) fun _ _ x => x)
  refine wpAny_Slice (wpAny_evalPart_none (wpAny_evalPart_some (wpAny_mono h₁ (fun iv s₂ h₂ => wpAny_evalPart_none ?_) fun _ _ x => x)))
  obtain ⟨X, B, O, l, a, t, i, ti, rfl, rfl, hz, H, hQ⟩ := h₂
  refine any_toks ?_
  refine tail_of_ItemOn (SBH.sliceItem_ns (P := fun h' => Keep s₂.heap h') (fun h ob k => k.trans (keep_push _ _)) (Keep.refl _) (fun h' t' k hk (hle : s₂.toks ≤ k) => hQ _ _ (H.keeps hk)) (by simpa using hz)) (hs _ _ ⟨_, _, rfl⟩ ⟨_, rfl⟩) fun r => ht _ _ ⟨_, _, rfl⟩

/-- text in / not in a list of texts -/
def strIs (a : List Nat) (v : Value) : Bool := match v with | .str x _ => x == S a | _ => false
theorem strIs_str (a b : List Nat) (t : Tok) : strIs a (.str (S b) t) = (b == a) := S_beq b a
def AllStr (vs : List Value) : Prop := ∀ v ∈ vs, ∃ x t, v = Value.str x t
theorem q_notinL {a : List Nat} {t : Tok} {x : Addr} {vs : List Value} (H : St X B O l s) (hx : B x = some { cls := .type "list", data := .seq vs.toArray }) (hv : AllStr vs) (h : Q (.bool (!(vs.any (strIs a)))) s) :
    wpAny (model prog w) A (compareOp .NotIn (.str (S a) t) (.ref x)) Q E s := by
  refine SeqAt.notIn_listAt (items := vs.toArray) (strIs a) ⟨_, H.fz _ _ hx, rfl, 0, rfl⟩ (fun y hy => ?_) (by simpa using h)
  obtain ⟨z, u, rfl⟩ := hv y (by simpa using hy)
  exact SeqAt.EqAt.str_str _ _ _ _
theorem q_inL {a : List Nat} {t : Tok} {x : Addr} {vs : List Value} (H : St X B O l s) (hx : B x = some { cls := .type "list", data := .seq vs.toArray }) (hv : AllStr vs) (h : Q (.bool (vs.any (strIs a))) s) :
    wpAny (model prog w) A (compareOp .In (.str (S a) t) (.ref x)) Q E s := by
  refine SeqAt.in_listAt (items := vs.toArray) (strIs a) ⟨_, H.fz _ _ hx, rfl, 0, rfl⟩ (fun y hy => ?_) (by simpa using h)
  obtain ⟨z, u, rfl⟩ := hv y (by simpa using hy)
  exact SeqAt.EqAt.str_str _ _ _ _
theorem u_neg {i : Int} {t : Tok} (H : St X B O l s) (h : ∀ t s', St X B O l s' → Q (.int (-i) t) s') : wpAny (model prog w) A (unaryOp .USub (.int i t)) Q E s := PyProof.Rows.neg_int (h _ _ H.tok)
end
end Mine
end
-- part C9
section
open PySem PySem.Spec PySem.Calls PyProof.Rows PySem.W
namespace Mine
/-- a key of a table: a whole number or a text -/
inductive Ky where
  | i (n : Int)
  | s (x : Str)
deriving DecidableEq
def Ky.dat : Ky → PyData
  | .i n => .int n
  | .s x => .str x
def Ky.is : Ky → Value → Bool
  | .i n, .int m _ => m == n
  | .s x, .str y _ => y == x
  | _, _ => false
theorem Ky.is_i {n : Int} {v : Value} (h : Ky.is (.i n) v = true) : ∃ t, v = .int n t := by
  cases v <;> simp [Ky.is] at h
  exact ⟨_, by rw [h]⟩
theorem Ky.is_s {x : Str} {v : Value} (h : Ky.is (.s x) v = true) : ∃ t, v = .str x t := by
  cases v <;> simp [Ky.is] at h
  exact ⟨_, by rw [h]⟩
theorem Ky.int_is (n : Int) (t : Tok) : Ky.is (.i n) (.int n t) = true := by simp [Ky.is]
theorem Ky.str_is (x : Str) (t : Tok) : Ky.is (.s x) (.str x t) = true := by simp [Ky.is]
def mixKind (prog : Program) (w : World) : PySem.KeyKind prog w Ky where
  is := Ky.is
  hash := fun k => match k with | .i n => hashInt n | .s x => hashStr w x
  inj := fun v a b ha hb => by
    cases a <;> cases b
    · obtain ⟨t, rfl⟩ := Ky.is_i ha; obtain ⟨u, h⟩ := Ky.is_i hb; cases h; rfl
    · obtain ⟨t, rfl⟩ := Ky.is_i ha; obtain ⟨u, h⟩ := Ky.is_s hb; cases h
    · obtain ⟨t, rfl⟩ := Ky.is_s ha; obtain ⟨u, h⟩ := Ky.is_i hb; cases h
    · obtain ⟨t, rfl⟩ := Ky.is_s ha; obtain ⟨u, h⟩ := Ky.is_s hb; cases h; rfl
  byValue := fun k v h => by
    cases k
    · obtain ⟨t, rfl⟩ := Ky.is_i h; rfl
    · obtain ⟨t, rfl⟩ := Ky.is_s h; rfl
  pyHash := fun {A E s k v Q} hv h => by
    cases k
    · obtain ⟨t, rfl⟩ := Ky.is_i hv; exact wpAny_pyHash_int h
    · obtain ⟨t, rfl⟩ := Ky.is_s hv; exact wpAny_pyHash_str h
  eqBool := fun {A E s a b u v Q} hu hv h => by
    cases a <;> cases b
    · obtain ⟨t, rfl⟩ := Ky.is_i hu; obtain ⟨t', rfl⟩ := Ky.is_i hv
      refine wpAny_eqBool_int ?_
      rename_i n1 n2
      have e : (n1 == n2) = decide (Ky.i n1 = Ky.i n2) := by rw [Bool.eq_iff_iff]; simp
      rw [e]; exact h
    · obtain ⟨t, rfl⟩ := Ky.is_i hu; obtain ⟨t', rfl⟩ := Ky.is_s hv
      refine SeqAt.EqAt.int_str _ _ _ _ prog w E Q ?_
      simpa using h
    · obtain ⟨t, rfl⟩ := Ky.is_s hu; obtain ⟨t', rfl⟩ := Ky.is_i hv
      refine SeqAt.EqAt.str_int _ _ _ _ prog w E Q ?_
      simpa using h
    · obtain ⟨t, rfl⟩ := Ky.is_s hu; obtain ⟨t', rfl⟩ := Ky.is_s hv
      refine wpAny_eqBool_str ?_
      simpa using h
  «strs» := fun k x t v h => by
    cases k
    · obtain ⟨u, hu⟩ := Ky.is_i h; cases hu
    · obtain ⟨u, hu⟩ := Ky.is_s h
      cases hu
      cases v <;> rfl
theorem mix_int {prog : Program} {w : World} (n : Int) (t : Tok) : (mixKind prog w).is (.i n) (.int n t) = true := Ky.int_is n t
theorem mix_str {prog : Program} {w : World} (x : Str) (t : Tok) : (mixKind prog w).is (.s x) (.str x t) = true := Ky.str_is x t

mutual
/-- a value that is this thing, by the frozen objects alone -/
inductive Rd (prog : Program) (w : World) (B : FMap) : Value → PyData → Prop
  | none : Rd prog w B .none .none
  | bool (b) : Rd prog w B (.bool b) (.bool b)
  | int (i t) : Rd prog w B (.int i t) (.int i)
  | str (x t) : Rd prog w B (.str x t) (.str x)
  | list {a o vs n ds} : B a = some o → o.cls = .type "list" → o.data = .seq vs n → RdAll prog w B vs.toList ds → Rd prog w B (.ref a) (.list ds)
  | tuple {a o vs n ds} : B a = some o → o.cls = .type "tuple" → o.data = .seq vs n → RdAll prog w B vs.toList ds → Rd prog w B (.ref a) (.tuple ds)
  | dict {a kvs ks ds} : BD (mixKind prog w) B a kvs → ks = kvs.map (fun kv => kv.1) → RdAll prog w B (kvs.map (fun kv => kv.2)) ds → Rd prog w B (.ref a) (.dict (List.zipWith (fun k d => (Ky.dat k, d)) ks ds))
inductive RdAll (prog : Program) (w : World) (B : FMap) : List Value → List PyData → Prop
  | nil : RdAll prog w B [] []
  | cons {v vs d ds} : Rd prog w B v d → RdAll prog w B vs ds → RdAll prog w B (v :: vs) (d :: ds)
end

variable {prog : Program} {w : World} {B B' : FMap}
mutual
theorem Rd.sub {v d} (hs : Sub B B') : Rd prog w B v d → Rd prog w B' v d
  | .none => .none
  | .bool b => .bool b
  | .int i t => .int i t
  | .str x t => .str x t
  | .list h1 h2 h3 h4 => .list (hs _ _ h1) h2 h3 (h4.sub hs)
  | .tuple h1 h2 h3 h4 => .tuple (hs _ _ h1) h2 h3 (h4.sub hs)
  | .dict h1 h2 h3 => .dict (h1.sub hs) h2 (h3.sub hs)
theorem RdAll.sub {vs ds} (hs : Sub B B') : RdAll prog w B vs ds → RdAll prog w B' vs ds
  | .nil => .nil
  | .cons h1 h2 => .cons (h1.sub hs) (h2.sub hs)
end
theorem RdAll.length {vs ds} : RdAll prog w B vs ds → vs.length = ds.length
  | .nil => rfl
  | .cons _ h => by simp [h.length]
theorem RdAll.append {vs ds vs' ds'} : RdAll prog w B vs ds → RdAll prog w B vs' ds' → RdAll prog w B (vs ++ vs') (ds ++ ds')
  | .nil, h => h
  | .cons h1 h2, h => .cons h1 (h2.append h)
theorem RdAll.get {vs ds} : RdAll prog w B vs ds → ∀ {i : Nat} {v}, vs[i]? = some v → ∃ d, ds[i]? = some d ∧ Rd prog w B v d
  | .nil, _, _, h => by simp at h
  | .cons h1 h2, 0, v, h => by simp at h; subst h; exact ⟨_, rfl, h1⟩
  | .cons h1 h2, i + 1, v, h => by simpa using h2.get (by simpa using h)
theorem zip_fst : ∀ {ks : List Ky} {ds : List PyData}, ks.length = ds.length → (List.zipWith (fun k d => (Ky.dat k, d)) ks ds).map (·.1) = ks.map Ky.dat
  | [], [], _ => rfl
  | k :: ks, d :: ds, h => by simp [zip_fst (ks := ks) (ds := ds) (by simpa using h)]
theorem zip_snd : ∀ {ks : List Ky} {ds : List PyData}, ks.length = ds.length → (List.zipWith (fun k d => (Ky.dat k, d)) ks ds).map (·.2) = ds
  | [], [], _ => rfl
  | k :: ks, d :: ds, h => by simp [zip_snd (ks := ks) (ds := ds) (by simpa using h)]
theorem key_read {h : Heap} {k : Ky} {v : Value} (hk : (mixKind prog w).is k v = true) : Reads h v k.dat [] := by
  cases k
  · obtain ⟨t, rfl⟩ := Ky.is_i hk; exact .int _ _
  · obtain ⟨t, rfl⟩ := Ky.is_s hk; exact .str _ _
theorem keys_read {h : Heap} {es : List DictEntry} {kvs : List (Ky × Value)} (hp : Pairs (mixKind prog w) es kvs) : ReadsAll h (es.map (·.key)) (kvs.map fun kv => kv.1.dat) [] := by
  induction hp with
  | nil => exact .nil
  | cons h1 h2 _ ih => exact .cons (as := []) (bs := []) (key_read h1) ih
theorem vals_eq {es : List DictEntry} {kvs : List (Ky × Value)} (hp : Pairs (mixKind prog w) es kvs) : es.map (·.val) = kvs.map (·.2) := by
  induction hp with
  | nil => rfl
  | cons h1 h2 _ ih => simp [h2, ih]

mutual
theorem Rd.reads {h : Heap} (hB : Fz B h) {v d} : Rd prog w B v d → ∃ as, Reads h v d as ∧ sysModules ∉ as
  | .none => ⟨_, .none, by simp⟩
  | .bool b => ⟨_, .bool b, by simp⟩
  | .int i t => ⟨_, .int i t, by simp⟩
  | .str x t => ⟨_, .str x t, by simp⟩
  | .list h1 h2 h3 h4 => by
    obtain ⟨as, ha, hn⟩ := h4.reads hB
    exact ⟨_, .list (hB.fz _ _ h1) h2 h3 ha, by simp; exact ⟨fun e => hB.low _ _ h1 e.symm, hn⟩⟩
  | .tuple h1 h2 h3 h4 => by
    obtain ⟨as, ha, hn⟩ := h4.reads hB
    exact ⟨_, .tuple (hB.fz _ _ h1) h2 h3 ha, hn⟩
  | .dict h1 h2 h3 => by
    obtain ⟨as, ha, hn⟩ := h3.reads hB
    obtain ⟨_, o, ho, es, ep, h5, h6, h7, h8, h9⟩ := h1
    subst h2
    have hl := h3.length
    rw [List.length_map] at hl
    replace hl := (List.length_map (fun kv : Ky × Value => kv.1)).trans hl
    refine ⟨_, .dict (hB.fz _ _ ho) h5.1 h6 (as := []) (bs := as) ?_ ?_, ?_⟩
    · rw [zip_fst hl, List.map_map]; exact keys_read h8
    · rw [zip_snd hl, vals_eq h8]; exact ha
    · simp; exact ⟨fun e => hB.low _ _ ho e.symm, hn⟩
theorem RdAll.reads {h : Heap} (hB : Fz B h) {vs ds} : RdAll prog w B vs ds → ∃ as, ReadsAll h vs ds as ∧ sysModules ∉ as
  | .nil => ⟨_, .nil, by simp⟩
  | .cons h1 h2 => by
    obtain ⟨as, ha, hn⟩ := h1.reads hB
    obtain ⟨bs, hb, hm⟩ := h2.reads hB
    exact ⟨_, .cons ha hb, by simp [hn, hm]⟩
end
end Mine
end
-- part C10
section
open PySem PySem.Spec PySem.Calls PyProof.Rows PySem.W
namespace Mine
/-- among the owned objects the one at a goes over -/
inductive OPut : Owns → Addr → (Obj → Prop) → (Obj → Prop) → Owns → Prop
  | here {a P P' r} : OPut ((a, P) :: r) a P P' ((a, P') :: r)
  | there {q r a P P' r'} : OPut r a P P' r' → OPut (q :: r) a P P' (q :: r')
theorem OPut.split {O a P P' O'} (h : OPut O a P P' O') : ∃ O₁ O₂, O = O₁ ++ (a, P) :: O₂ ∧ O' = O₁ ++ (a, P') :: O₂ := by
  induction h with
  | here => exact ⟨[], _, rfl, rfl⟩
  | @there q _ _ _ _ _ _ ih => obtain ⟨O₁, O₂, h1, h2⟩ := ih; exact ⟨q :: O₁, O₂, by rw [h1]; rfl, by rw [h2]; rfl⟩
/-- the owned object at a, and the others -/
inductive OPop : Owns → Addr → (Obj → Prop) → Owns → Prop
  | here {a P r} : OPop ((a, P) :: r) a P r
  | there {q r a P r'} : OPop r a P r' → OPop (q :: r) a P (q :: r')
theorem OPop.split {O a P O'} (h : OPop O a P O') : ∃ O₁ O₂, O = O₁ ++ (a, P) :: O₂ ∧ O' = O₁ ++ O₂ := by
  induction h with
  | here => exact ⟨[], _, rfl, rfl⟩
  | @there q _ _ _ _ _ ih => obtain ⟨O₁, O₂, h1, h2⟩ := ih; exact ⟨q :: O₁, O₂, by rw [h1]; rfl, by rw [h2]; rfl⟩

section
variable {X : Fx} {B B' : FMap} {O O' : Owns} {l l' : Locs} {s s' : Shared} {prog : Program} {w : World} {A : Around} {E : Value → Shared → Prop} {Q : Value → Shared → Prop} {env : Env}

theorem St.ownAt {a : Addr} {P : Obj → Prop} (H : St X B O l s) (ho : OPop O a P O') : ∃ o, s.heap.get? a = some o ∧ P o := by
  obtain ⟨O₁, O₂, rfl, _⟩ := ho.split
  exact (H.own (a, P) (by simp)).1
theorem LO.isList {vs : List Value} {a : Addr} (h : ∃ o, s.heap.get? a = some o ∧ LO vs o) : s.heap.IsList a vs.toArray := by
  obtain ⟨o, ho, n, rfl⟩ := h
  exact ⟨_, ho, rfl, n, rfl⟩
theorem e_append {a : Addr} {vs : List Value} {x : Value} (H : St X B O l s) (ho : OPut O a (LO vs) (LO (vs ++ [x])) O') (hz : vs.length ≤ sizeLine) (h : ∀ s', St X B O' l s' → Q .none s') :
    wpAny (model prog w) A (call (.builtin "list.append") [.ref a, x]) Q E s := by
  obtain ⟨O₁, O₂, rfl, rfl⟩ := ho.split
  obtain ⟨o, ho', n, rfl⟩ := (H.own (a, LO vs) (by simp)).1
  refine wpAny_list_append_plain (items := vs.toArray) ⟨n, ho'⟩ (fun h' ⟨n', hl⟩ hs => ?_) (by simpa using hz)
  exact h _ (H.turn rfl (n := s.toks) (fun b o hb e => (hs.2 b hb).trans e) hl ⟨n', by simp⟩)
theorem m_append {a : Addr} {vs : List Value} {pl : Sem Bool} {Q : Value × List Value → Shared → Prop} (H : St X B O l s) (ho : OPop O a (LO vs) O') (h : Q (.builtin "list.append", [.ref a]) s) :
    wpAny (model prog w) A (getMethod (.ref a) "append" pl) Q E s := by
  obtain ⟨o, ho', n, rfl⟩ := H.ownAt ho
  exact getMethod_builtin ⟨_, ho', rfl⟩ PySem.F.plainAttrs_list PySem.F.slot_list_append PySem.F.type_list_append (fun b e => by cases e; exact ⟨_, ho', rfl⟩) h
/-- an owned list is the empty one -/
theorem q_eqE {a b : Addr} {vs : List Value} (H : St X B O l s) (ho : OPop O a (LO vs) O') (hb : B b = some { cls := .type "list", data := .seq #[] }) (hu : A.units < cLine) (h : Q (.bool vs.isEmpty) s) :
    wpAny (model prog w) A (compareOp .Eq (.ref a) (.ref b)) Q E s := by
  have hl := LO.isList (H.ownAt ho)
  have hb' : s.heap.IsList b #[] := ⟨_, H.fz _ _ hb, rfl, 0, rfl⟩
  cases vs with
  | nil => exact SeqAt.eq_listAt (e := fun _ => true) hl hb' rfl hu (fun j h1 => absurd h1 (by simp)) h
  | cons v vs => exact SeqAt.eq_list_lengthsAt hl hb' (by simp) hu h
theorem e_lenO {a : Addr} {vs : List Value} (H : St X B O l s) (ho : OPop O a (LO vs) O') (hz : vs.length ≤ sizeLine) (h : ∀ t s', St X B O l s' → Q (.int (vs.length : Int) t) s') :
    wpAny (model prog w) A (call (.builtin "len") [.ref a]) Q E s := by
  have hzz : sizeLine = 16777216 := by decide
  have hl := LO.isList (H.ownAt ho)
  refine call_len_list hl (by simp; omega) ?_
  have := h (s.toks + 1) _ (H.tok (n := s.toks + 1 + 1))
  simpa using this
/-- tuple(things) of an owned list, which is let go -/
theorem e_tupleO {a : Addr} {vs : List Value} (H : St X B O l s) (ho : OPop O a (LO vs) O') (hz : vs.length ≤ sizeLine)
    (h : ∀ x B' s', Sub B B' → B' x = some { cls := .type "tuple", data := .seq vs.toArray } → St X B' O l s' → Q (.ref x) s') :
    wpAny (model prog w) A (call (.type "tuple") [.ref a]) Q E s := by
  have hl := LO.isList (H.ownAt ho)
  refine call_tuple_list hl (fun h' hk => ?_) (by simpa using hz)
  have H' : St X B O l { s with heap := h' } := H.keeps (n := s.toks) hk
  obtain ⟨B', h1, h2, H''⟩ := H'.push (o := { cls := .type "tuple", data := .seq vs.toArray }) rfl (n := s.toks)
  exact h _ B' _ h1 h2 H''
theorem x_unpack {elts : List Expr} {k : Nat} {tpos pos : Pos} {value : Expr} {rest : List Stmt} {Q : Flow → Shared → Prop} (h : wpAny (model prog w) A (eval value env) (fun v s₁ => wpAny (model prog w) A (assign (.Tuple elts k tpos) env v) (fun _ s₂ => wpAny (model prog w) A (execs rest env) Q E s₂) E s₁) E s)
    (hs : swapsWithSole [.Tuple elts k tpos] value pos.line env = pure false := by rfl)
    (hw : swappedStores [.Tuple elts k tpos] value env = pure none := by rfl) :
    wpAny (model prog w) A (execs (.Assign [.Tuple elts k tpos] value pos :: rest) env) Q E s := wpAny_execs_cons (Assign_Tuple h hs hw)
theorem a_two {x y : Str} {p1 p2 tpos : Pos} {k : Nat} {t : Addr} {v1 v2 : Value} {Q : Unit → Shared → Prop} (hh : A.handled = none) (H : St X B O l s) (ht : B t = some { cls := .type "tuple", data := .seq #[v1, v2] })
    (h : ∀ s', St X B O l s' → wpAny (model prog w) A (storeName X.env x v1) (fun _ s₁ => wpAny (model prog w) A (storeName X.env y v2) Q E s₁) E s') :
    wpAny (model prog w) A (assign (.Tuple [.Name x p1, .Name y p2] k tpos) X.env (.ref t)) Q E s := by
  refine wpAny_assign_Tuple (items := #[v1, v2]) hh ⟨_, H.fz _ _ ht, rfl, 0, rfl⟩ rfl rfl fun h' he => ?_
  have hk : Keep s.heap h' := fun b o e => he b o (Nat.ne_of_lt (Heap.lt_size e)) e
  refine wpAny_assignInOrder_more (wpAny_assign_Name (wpAny_mono (h _ (H.keeps (n := s.toks) hk)) (fun _ s₁ h₁ => ?_) fun _ _ x => x))
  exact wpAny_assignInOrder_more (wpAny_assign_Name (wpAny_mono h₁ (fun _ s₂ h₂ => wpAny_assignInOrder_none h₂) fun _ _ x => x))
end
end Mine
end
-- part C11
section
open PySem PySem.Spec PySem.Calls PyProof.Rows PySem.W
namespace Mine
/-- the frame of a comprehension that stands in X -/
def Fx.comp (X : Fx) (scope : Scope) (cl : List (Str × Addr)) (C : Addr) (h : Heap) (B : FMap) : Fx := { X with env := compEnvC scope cl C X.env, h0 := h, B0 := B }
section
variable {X : Fx} {B B' : FMap} {O O' its : Owns} {l l' : Locs} {s s' : Shared} {prog : Program} {w : World} {A : Around}
theorem hid_some {a : Addr} {o : Obj} (e : s.heap.get? a = some o) (hn : a ∉ its.map (·.1)) : (hideAll s.heap (its.map (·.1))).get? a = some o := hideAll_get _ e hn
theorem St.noIt (H : St X B (its ++ O) l s) {a : Addr} {o : Obj} (e : X.h0.get? a = some o) : a ∉ its.map (·.1) := fun hm => by
  obtain ⟨q, hq, rfl⟩ := List.mem_map.mp hm
  rw [(H.own q (List.mem_append_left _ hq)).2.2.2] at e; cases e
theorem St.noItL (H : St X B (its ++ O) l s) : X.env.locals ∉ its.map (·.1) := fun hm => by
  obtain ⟨q, hq, e⟩ := List.mem_map.mp hm
  exact (H.own q (List.mem_append_left _ hq)).2.1 e

/-- into the comprehension's frame -/
theorem St.down (H : St X B (its ++ O) l s) {ns : List Str} {scope : Scope} {cl : List (Str × Addr)} {C D : Addr} {P : Obj → Prop} (hk : Keep s.heap s'.heap) (hg : s'.gens = s.gens) (ho : s'.os = s.os) (hd : s'.drawn = s.drawn)
    (hkind : scope.kind = .function) (hns : ∀ x ∈ ns, scope.names.lookup x = some .local ∧ (x == ("__debug__" : Str)) = false) (hnd : ns.Nodup) (hC : s'.heap.Ns C fun _ => none) (hCn : s.heap.get? C = none)
    (hD : ∃ o, s'.heap.get? D = some o ∧ P o) (hDn : s.heap.objs.size ≤ D) (hDC : D ≠ C) (hn : 0 < s'.toks := by first | exact Nat.succ_pos _ | assumption | exact tk_self (by assumption) | (refine Nat.lt_of_lt_of_le (tk_self (by assumption)) ?_; first | assumption | exact Nat.le_refl _ | omega)) : St (X.comp scope cl C (hideAll s.heap (its.map (·.1))) B) B (its ++ [(D, P)]) (ns.map fun n => (n, none)) s' where
  tk := hn
  ns := by
    have e : mOf (ns.map fun n => (n, none)) = fun _ => none := by funext x; exact mOf_none ns x
    rw [e]; exact hC
  nd := by simpa [Function.comp_def] using hnd
  kind := fun x hx => by
    have hx' : x ∈ ns := by simpa [Function.comp_def] using hx
    exact ⟨lookup_relabel_local (hns x hx').1, (hns x hx').2⟩
  fn := hkind
  gl := H.gl
  bl := H.bl
  top := Top.keeps H.top fun b o e => hid_some (H.kept _ _ e) (H.noIt e)
  kept := fun b o e => hk _ _ (of_hideAll _ e)
  offh := by
    show (hideAll _ _).get? C = none
    cases q : (hideAll s.heap (its.map (·.1))).get? C with
    | none => rfl
    | some o => rw [of_hideAll _ q] at hCn; cases hCn
  fz := fun b o e => hk _ _ (H.fz _ _ e)
  low := H.low
  lowO := fun q hq => by
    rcases List.mem_append.mp hq with hq | hq
    · exact H.lowO q (List.mem_append_left _ hq)
    · rw [List.mem_singleton] at hq; subst hq; exact Nat.ne_of_gt (Nat.lt_of_lt_of_le H.sysm hDn)
  b0 := Sub.refl _
  new := fun b o e => .inl e
  offL := H.Bnone hCn
  own := fun q hq => by
    rcases List.mem_append.mp hq with hq | hq
    · obtain ⟨⟨o, h1, h2⟩, h3, h4, h5⟩ := H.own q (List.mem_append_left _ hq)
      refine ⟨⟨o, hk _ _ h1, h2⟩, ?_, h4, hideAll_none _ (List.mem_map_of_mem hq)⟩
      intro e
      have e' : q.1 = C := e
      rw [e', hCn] at h1; cases h1
    · rw [List.mem_singleton] at hq; subst hq
      refine ⟨hD, hDC, H.Bnone (none_of_le hDn), ?_⟩
      show (hideAll _ _).get? D = none
      cases q : (hideAll s.heap (its.map (·.1))).get? D with
      | none => rfl
      | some o => exact absurd (Heap.lt_size (of_hideAll _ q)) (Nat.not_lt.mpr hDn)
  apart := by
    have hap := H.apart
    rw [List.map_append] at hap ⊢
    have h3 := List.nodup_append.mp hap
    refine List.nodup_append.mpr ⟨h3.1, by simp, fun a ha b hb e => ?_⟩
    simp at hb; subst hb; subst e
    obtain ⟨q, hq, e⟩ := List.mem_map.mp ha
    obtain ⟨⟨o, h1, _⟩, _⟩ := H.own q (List.mem_append_left _ hq)
    rw [e] at h1
    exact absurd (Heap.lt_size h1) (Nat.not_lt.mpr hDn)
  gens := hg.trans H.gens
  os := ho.trans H.os
  drawn := hd.trans H.drawn

def NsAt (C : Addr) (o : Obj) : Prop := ∃ m, ∀ h : Heap, h.get? C = some o → h.Ns C m
theorem nsAt {h : Heap} {C : Addr} {m : Str → Option Value} (x : h.Ns C m) : ∃ o, h.get? C = some o ∧ NsAt C o := by
  obtain ⟨o, _, _, ho, _⟩ := id x
  exact ⟨o, ho, m, fun h' e => x.at' fun o' e' => by rw [ho] at e'; cases e'; exact e⟩

/-- back from the comprehension's frame -/
theorem St.upC (H : St X B (its ++ O) l s) {scope : Scope} {cl : List (Str × Addr)} {C : Addr} (H' : St (X.comp scope cl C (hideAll s.heap (its.map (·.1))) B) B' O' l' s') (hCs : C ≠ sysModules) :
    St X B' ((C, NsAt C) :: O) l s' := by
  have key : ∀ {b : Addr} {o : Obj}, s.heap.get? b = some o → b ∉ its.map (·.1) → s'.heap.get? b = some o ∧ b ≠ C := fun {b o} e hn => by
    have h1 : (hideAll s.heap (its.map (·.1))).get? b = some o := hid_some e hn
    refine ⟨H'.kept _ _ h1, fun q => ?_⟩
    have h2 := H'.offh
    subst q
    have h3 : (hideAll s.heap (its.map (·.1))).get? b = none := h2
    rw [h1] at h3; cases h3
  have back : ∀ {b : Addr} {o o' : Obj}, s.heap.get? b = some o → b ∉ its.map (·.1) → B' b = some o' → B b = some o' := fun {b o o'} e hn hb => by
    rcases H'.new _ _ hb with h1 | h1
    · exact h1
    · have h3 : (hideAll s.heap (its.map (·.1))).get? b = none := h1
      rw [hid_some e hn] at h3; cases h3
  have none0 : ∀ {b : Addr}, (hideAll s.heap (its.map (·.1))).get? b = none → X.h0.get? b = none := fun {b} h3 => by
    cases q : X.h0.get? b with
    | none => rfl
    | some o' => rw [hid_some (H.kept _ _ q) (H.noIt q)] at h3; cases h3
  obtain ⟨oL, hL⟩ := H.Lsome
  have hap := H.apart
  rw [List.map_append] at hap
  have hap3 := List.nodup_append.mp hap
  have hOn : ∀ q ∈ O, q.1 ∉ its.map (·.1) := fun q hq hm => hap3.2.2 q.1 hm q.1 (List.mem_map_of_mem hq) rfl
  have hCB : B' C = none := H'.offL
  have hC0 : X.h0.get? C = none := none0 H'.offh
  refine { H with tk := H'.tk, ns := H.ns.at' fun o e => (key e H.noItL).1, kept := fun b o e => (key (H.kept _ _ e) (H.noIt e)).1, fz := H'.fz, low := H'.low, lowO := fun q hq => ?_, b0 := fun b o e => H'.b0 _ _ (H.b0 _ _ e), new := fun b o e => ?_, offL := ?_, own := fun q hq => ?_, apart := ?_, gens := H'.gens, os := H'.os, drawn := H'.drawn }
  · rcases List.mem_cons.mp hq with rfl | hq
    · exact hCs
    · exact H.lowO q (List.mem_append_right _ hq)
  · rcases H'.new _ _ e with h1 | h1
    · exact H.new _ _ h1
    · exact .inr (none0 h1)
  · cases q : B' X.env.locals with
    | none => rfl
    | some o => have := back hL H.noItL q; rw [H.offL] at this; cases this
  · rcases List.mem_cons.mp hq with rfl | hq
    · exact ⟨nsAt H'.ns, fun e => (key hL H.noItL).2 e.symm, hCB, hC0⟩
    · obtain ⟨⟨o, h1, h2⟩, h3, h4, h5⟩ := H.own q (List.mem_append_right _ hq)
      refine ⟨⟨o, (key h1 (hOn q hq)).1, h2⟩, h3, ?_, h5⟩
      cases e : B' q.1 with
      | none => rfl
      | some o' => have := back h1 (hOn q hq) e; rw [h4] at this; cases this
  · rw [List.map_cons, List.nodup_cons]
    refine ⟨fun hm => ?_, hap3.2.1⟩
    obtain ⟨q, hq, e⟩ := List.mem_map.mp hm
    obtain ⟨⟨o, h1, _⟩, _⟩ := H.own q (List.mem_append_right _ hq)
    exact (key h1 (hOn q hq)).2 e

end
end Mine
end
-- part C12
section
open PySem PySem.Spec PySem.Calls PyProof.Rows PySem.W
namespace Mine
theorem OPut.last : ∀ {O : Owns} {a P P'}, OPut (O ++ [(a, P)]) a P P' (O ++ [(a, P')])
  | [], _, _, _ => .here
  | _ :: O, _, _, _ => .there (OPut.last (O := O))
section
variable {prog : Program} {w : World} {A : Around}
/-- the tests of a comprehension -/
def tests (ifs : List Expr) (env : Env) : Sem Bool := forIn ifs true fun c r => if r = true then do let ok ← isTrue c env (eval c env); pure (ForInStep.yield ok) else pure (ForInStep.yield r)
theorem tests_nil {env : Env} {Q : Bool → Shared → Prop} {E : Value → Shared → Prop} {s : Shared} (h : Q true s) : wpAny (model prog w) A (tests [] env) Q E s := wpAny_tests_nil h
theorem tests_one {env : Env} {c : Expr} {Q : Bool → Shared → Prop} {E : Value → Shared → Prop} {s : Shared} (h : wpAny (model prog w) A (isTrue c env (eval c env)) Q E s) : wpAny (model prog w) A (tests [c] env) Q E s := wpAny_tests_one h

/-- what a turn of a list comprehension must come back with -/
structure LTurn (X : Fx) (B : FMap) (J : FMap → Locs → List Value → Prop) (q : Owns) (D : Addr) (ys : List Value) (Qy : Value → Shared → Prop) (Qn : Shared → Prop) : Prop where
  y : ∀ {y B' l' s'}, Sub B B' → J B' l' (ys ++ [y]) → St X B' (q ++ [(D, LO ys)]) l' s' → Qy y s'
  n : ∀ {B' l' s'}, Sub B B' → J B' l' ys → St X B' (q ++ [(D, LO ys)]) l' s' → Qn s'
structure DTurn {prog : Program} {w : World} {K : Type} [DecidableEq K] (knd : PySem.KeyKind prog w K) (X : Fx) (B : FMap) (J : FMap → Locs → List (K × Value) → Prop) (q : Owns) (D : Addr) (ys : List (K × Value)) (Qy : Value → Value → Shared → Prop) (Qn : Shared → Prop) : Prop where
  y : ∀ {kv y B' l' s' k}, knd.is k kv = true → Sub B B' → J B' l' (stored ys k y) → St X B' (q ++ [(D, fun o => o.IsDictOf knd ys)]) l' s' → Qy kv y s'
  n : ∀ {B' l' s'}, Sub B B' → J B' l' ys → St X B' (q ++ [(D, fun o => o.IsDictOf knd ys)]) l' s' → Qn s'
theorem loop_list {X : Fx} {B : FMap} {l : Locs} {s : Shared} {R : Result → Shared → Prop} {elt target iter : Expr} {ifs : List Expr} {scope : Scope} {pos : Pos} {I D : Addr} {n : Nat} {T : Nat → Owns} {Sr : FMap → Prop} {P : FMap → Nat → Value → Prop}
    (W : It prog w A target I n T Sr P) (hS : Sr B) (H : St X B (T 0 ++ [(D, LO [])]) l s) (hz : n ≤ sizeLine) (J : Nat → FMap → Locs → List Value → Prop) (h0 : J 0 B l [])
    (step : ∀ i v B₁ B₂ l₁ ys s₁ q Qy Qn, LTurn X B₂ (J (i + 1)) q D ys Qy Qn → i < n → P B₂ i v → Sub B B₁ → J i B₁ l₁ ys → Sub B₁ B₂ → St X B₂ (q ++ [(D, LO ys)]) l₁ s₁ →
      wpAny (model prog w) A (assign target X.env v) (fun _ s₂ => wpAny (model prog w) A (tests ifs X.env) (fun ok s₃ =>
        if ok = true then wpAny (model prog w) A (eval elt X.env) Qy (fun _ _ => False) s₃ else Qn s₃) (fun _ _ => False) s₂) (fun _ _ => False) s₁)
    (after : ∀ B₁ l₁ ys s₁, Sub B B₁ → J n B₁ l₁ ys → St X B₁ [(D, LO ys)] l₁ s₁ → R (.ok .next) s₁) :
    codeAny (model prog w) A (.compLoop (.ListComp elt [⟨target, iter, ifs, 0⟩] scope pos) 0 (.ref I) (.ref D) X.env) R s := by
  refine codeAny_loop rfl (fun k s' => ∃ i B₁ l₁ ys, k = n - i ∧ i ≤ n ∧ ys.length ≤ i ∧ Sub B B₁ ∧ J i B₁ l₁ ys ∧ St X B₁ (T i ++ [(D, LO ys)]) l₁ s') (fun k s hI => ?_) n ⟨0, B, l, [], rfl, Nat.zero_le _, Nat.le_refl _, Sub.refl _, h0, H⟩
  obtain ⟨i, B₁, l₁, ys, rfl, hi, hlen, hsub, hJ, H₁⟩ := hI
  show wpAny _ A ((compTurn (.ListComp elt [⟨target, iter, ifs, 0⟩] scope pos) 0 (.ref I) (.ref D) X.env).onRaise (fun x => do noteFrame x X.env; theTreesLotGoes x)) _ _ s
  refine wpAny_noted ?_
  rw [compTurn_list]
  refine wpAny_bind (wpAny_standAt (wpAny_bind ?_))
  by_cases hlt : i < n
  · refine W.turn i _ _ hlt (W.mono _ _ hsub hS) H₁ fun v s₂ hgo => ?_
    refine wpAny_bind (hgo _ _ fun B' s₂ hs' hP H₂ => ?_)
    refine wpAny_bind (wpAny_mono (step i v B₁ B' l₁ ys s₂ (T (i + 1)) (fun y s₄ => ∃ B₂ l₂, Sub B' B₂ ∧ J (i + 1) B₂ l₂ (ys ++ [y]) ∧ St X B₂ (T (i + 1) ++ [(D, LO ys)]) l₂ s₄) (fun s₄ => ∃ B₂ l₂, Sub B' B₂ ∧ J (i + 1) B₂ l₂ ys ∧ St X B₂ (T (i + 1) ++ [(D, LO ys)]) l₂ s₄) ⟨fun h1 h2 h3 => ⟨_, _, h1, h2, h3⟩, fun h1 h2 h3 => ⟨_, _, h1, h2, h3⟩⟩ hlt hP hsub hJ hs' H₂) (fun _ s₃ h₃ => ?_) fun _ _ x => x.elim)
    refine wpAny_bind (wpAny_mono h₃ (fun ok s₄ h₄ => ?_) fun _ _ x => x.elim)
    cases ok with
    | false =>
      rw [if_neg (by simp)] at h₄
      obtain ⟨B₂, l₂, hs₂, hJ₂, H₄⟩ := h₄
      exact wpAny_pure ⟨rfl, n - (i + 1), by omega, i + 1, B₂, l₂, ys, rfl, hlt, by omega, (hsub.trans hs').trans hs₂, hJ₂, H₄⟩
    | true =>
      rw [if_pos rfl] at h₄
      refine wpAny_bind (wpAny_bind (wpAny_mono h₄ (fun y s₅ h₅ => ?_) fun _ _ x => x.elim))
      obtain ⟨B₂, l₂, hs₂, hJ₂, H₅⟩ := h₅
      refine wpAny_bind (e_append H₅ OPut.last (by omega) fun s₆ H₆ => ?_)
      exact wpAny_pure (wpAny_pure ⟨rfl, n - (i + 1), by omega, i + 1, B₂, l₂, ys ++ [y], rfl, hlt, by simp; omega, (hsub.trans hs').trans hs₂, hJ₂, H₆⟩)
  · have : i = n := by omega
    subst this
    exact W.done _ _ (W.mono _ _ hsub hS) H₁ fun s₂ H₂ => wpAny_pure (after B₁ l₁ ys s₂ hsub hJ H₂)

/-- the frame X' of a comprehension in X -/
structure Cf (X' X : Fx) (scope : Scope) (cl : List (Str × Addr)) (O : Owns) : Prop where
  scope : X'.env.scope = relabel scope X.env
  cells : X'.env.cells = cl
  T : X'.T = X.T
  own : ∀ q ∈ O, ∃ o, X'.h0.get? q.1 = some o ∧ q.2 o
theorem Fx.comp_cf {X : Fx} {scope : Scope} {cl : List (Str × Addr)} {C : Addr} {B : FMap} {O its : Owns} {l : Locs} {s : Shared} (H : St X B (its ++ O) l s) : Cf (X.comp scope cl C (hideAll s.heap (its.map (·.1))) B) X scope cl O where
  scope := rfl
  cells := rfl
  T := rfl
  own := fun q hq => by
    obtain ⟨⟨o, h1, h2⟩, _⟩ := H.own q (List.mem_append_right _ hq)
    have hap := H.apart
    rw [List.map_append] at hap
    exact ⟨o, hid_some h1 fun hm => (List.nodup_append.mp hap).2.2 q.1 hm q.1 (List.mem_map_of_mem hq) rfl, h2⟩

/-- where a value goes that is stored to the name y -/
def StoreTo (prog : Program) (w : World) (A : Around) (X : Fx) (B : FMap) (O : Owns) (l : Locs) (y : Str) (v : Value) (O' : Owns) (l' : Locs) : Prop :=
  ∀ (q : Addr × (Obj → Prop)) (s : Shared) (Q : Unit → Shared → Prop) (E : Value → Shared → Prop), St X B (q :: O) l s → (∀ s', St X B (q :: O') l' s' → Q () s') → wpAny (model prog w) A (storeName X.env y v) Q E s
theorem StoreTo.loc {X : Fx} {B : FMap} {O : Owns} {l l' : Locs} {y : Str} {v : Value} (hp : Put l y v l') : StoreTo prog w A X B O l y v O l' := fun _ _ _ _ H h => w_store H hp h


theorem dict_new {K : Type} [DecidableEq K] (knd : PySem.KeyKind prog w K) {hh : Heap} : ({ cls := .type "dict", dict := none, data := .dict #[] } : Obj).IsDictOf knd [] := by
  have := Heap.DictOf.new (knd := knd) hh
  obtain ⟨o, ho, r⟩ := Heap.dictOf_iff.mp this
  rw [Heap.get?_push_size _ rfl] at ho
  cases ho; exact r
theorem d_set {X : Fx} {B : FMap} {O O' : Owns} {l : Locs} {s : Shared} {E : Value → Shared → Prop} {K : Type} [DecidableEq K] {knd : PySem.KeyKind prog w K} {D : Addr} {ys : List (K × Value)} {k : K} {key v : Value} {Q : Unit → Shared → Prop}
    (H : St X B O l s) (ho : OPut O D (fun o => o.IsDictOf knd ys) (fun o => o.IsDictOf knd (stored ys k v)) O') (hk : knd.is k key = true) (hz : ys.length ≤ sizeLine) (h : ∀ s', St X B O' l s' → Q () s') :
    wpAny (model prog w) A (dictSet D key v) Q E s := by
  obtain ⟨O₁, O₂, rfl, rfl⟩ := ho.split
  obtain ⟨o, ho', hP⟩ := (H.own (D, fun o => o.IsDictOf knd ys) (by simp)).1
  refine wpAny_dictSet_pairs (kvs := ys) hk (Heap.dictOf_iff.mpr ⟨o, ho', hP⟩) (fun h' hd hs => ?_) hz
  obtain ⟨o', ho'', hP'⟩ := Heap.dictOf_iff.mp hd
  exact h _ (H.turn rfl (n := s.toks + 1) (fun b o hb e => (hs.2 b hb).trans e) ho'' hP')
theorem loop_dict {X : Fx} {B : FMap} {l : Locs} {s : Shared} {R : Result → Shared → Prop} {K : Type} [DecidableEq K] {knd : PySem.KeyKind prog w K} {kx vx target iter : Expr} {ifs : List Expr} {scope : Scope} {pos : Pos} {I D : Addr} {n : Nat} {T : Nat → Owns} {Sr : FMap → Prop} {P : FMap → Nat → Value → Prop}
    (W : It prog w A target I n T Sr P) (hS : Sr B) (H : St X B (T 0 ++ [(D, fun o => o.IsDictOf knd [])]) l s) (hz : n ≤ sizeLine) (J : Nat → FMap → Locs → List (K × Value) → Prop) (h0 : J 0 B l [])
    (step : ∀ i v B₁ B₂ l₁ ys s₁ q Qy Qn, DTurn knd X B₂ (J (i + 1)) q D ys Qy Qn → i < n → P B₂ i v → Sub B B₁ → J i B₁ l₁ ys → Sub B₁ B₂ → St X B₂ (q ++ [(D, fun o => o.IsDictOf knd ys)]) l₁ s₁ →
      wpAny (model prog w) A (assign target X.env v) (fun _ s₂ => wpAny (model prog w) A (tests ifs X.env) (fun ok s₃ =>
        if ok = true then wpAny (model prog w) A (eval kx X.env) (fun kv s₄ => wpAny (model prog w) A (eval vx X.env) (Qy kv) (fun _ _ => False) s₄) (fun _ _ => False) s₃ else Qn s₃) (fun _ _ => False) s₂) (fun _ _ => False) s₁)
    (after : ∀ B₁ l₁ ys s₁, Sub B B₁ → J n B₁ l₁ ys → St X B₁ [(D, fun o => o.IsDictOf knd ys)] l₁ s₁ → R (.ok .next) s₁) :
    codeAny (model prog w) A (.compLoop (.DictComp kx vx [⟨target, iter, ifs, 0⟩] scope pos) 0 (.ref I) (.ref D) X.env) R s := by
  refine codeAny_loop rfl (fun k s' => ∃ i B₁ l₁ ys, k = n - i ∧ i ≤ n ∧ ys.length ≤ i ∧ Sub B B₁ ∧ J i B₁ l₁ ys ∧ St X B₁ (T i ++ [(D, fun o => o.IsDictOf knd ys)]) l₁ s') (fun k s hI => ?_) n ⟨0, B, l, [], rfl, Nat.zero_le _, Nat.le_refl _, Sub.refl _, h0, H⟩
  obtain ⟨i, B₁, l₁, ys, rfl, hi, hlen, hsub, hJ, H₁⟩ := hI
  show wpAny _ A ((compTurn (.DictComp kx vx [⟨target, iter, ifs, 0⟩] scope pos) 0 (.ref I) (.ref D) X.env).onRaise (fun x => do noteFrame x X.env; theTreesLotGoes x)) _ _ s
  refine wpAny_noted ?_
  rw [compTurn_dict]
  refine wpAny_bind (wpAny_standAt (wpAny_bind ?_))
  by_cases hlt : i < n
  · refine W.turn i _ _ hlt (W.mono _ _ hsub hS) H₁ fun v s₂ hgo => ?_
    refine wpAny_bind (hgo _ _ fun B' s₂ hs' hP H₂ => ?_)
    refine wpAny_bind (wpAny_mono (step i v B₁ B' l₁ ys s₂ (T (i + 1)) (fun kv y s₅ => ∃ B₂ l₂ k, knd.is k kv = true ∧ Sub B' B₂ ∧ J (i + 1) B₂ l₂ (stored ys k y) ∧ St X B₂ (T (i + 1) ++ [(D, fun o => o.IsDictOf knd ys)]) l₂ s₅) (fun s₄ => ∃ B₂ l₂, Sub B' B₂ ∧ J (i + 1) B₂ l₂ ys ∧ St X B₂ (T (i + 1) ++ [(D, fun o => o.IsDictOf knd ys)]) l₂ s₄) ⟨fun h0 h1 h2 h3 => ⟨_, _, _, h0, h1, h2, h3⟩, fun h1 h2 h3 => ⟨_, _, h1, h2, h3⟩⟩ hlt hP hsub hJ hs' H₂) (fun _ s₃ h₃ => ?_) fun _ _ x => x.elim)
    refine wpAny_bind (wpAny_mono h₃ (fun ok s₄ h₄ => ?_) fun _ _ x => x.elim)
    cases ok with
    | false =>
      rw [if_neg (by simp)] at h₄
      obtain ⟨B₂, l₂, hs₂, hJ₂, H₄⟩ := h₄
      exact wpAny_pure ⟨rfl, n - (i + 1), by omega, i + 1, B₂, l₂, ys, rfl, hlt, by omega, (hsub.trans hs').trans hs₂, hJ₂, H₄⟩
    | true =>
      rw [if_pos rfl] at h₄
      refine wpAny_bind (wpAny_bind (wpAny_mono h₄ (fun kv s₅ h₅ => ?_) fun _ _ x => x.elim))
      refine wpAny_bind (wpAny_holding (wpAny_mono h₅ (fun y s₆ h₆ => ?_) fun _ _ x => x.elim))
      obtain ⟨B₂, l₂, k, hk, hs₂, hJ₂, H₆⟩ := h₆
      refine wpAny_bind (wpAny_standAt (wpAny_holding (d_set H₆ OPut.last hk (by omega) fun s₇ H₇ => ?_)))
      exact wpAny_pure ⟨rfl, n - (i + 1), by omega, i + 1, B₂, l₂, _, rfl, hlt, Nat.le_trans (stored_length_le ys k y) (by omega), (hsub.trans hs').trans hs₂, hJ₂, H₇⟩
  · have : i = n := by omega
    subst this
    exact W.done _ _ (W.mono _ _ hsub hS) H₁ fun s₂ H₂ => wpAny_pure (after B₁ l₁ ys s₂ hsub hJ H₂)

def LComp (prog : Program) (w : World) (A : Around) (X : Fx) (elt target : Expr) (ifs : List Expr) (scope : Scope) (cl : List (Str × Addr)) (ns : List Str) (Q : FMap → Owns → Locs → Value → Shared → Prop) (it : Value) (s₂ : Shared) : Prop :=
  ∃ (I : Addr) (n : Nat) (T : Nat → Owns) (Sr : FMap → Prop) (P : FMap → Nat → Value → Prop) (B : FMap) (O : Owns) (l : Locs) (J : Nat → FMap → Locs → List Value → Prop),
    it = .ref I ∧ It prog w A target I n T Sr P ∧ Sr B ∧ St X B (T 0 ++ O) l s₂ ∧ n ≤ sizeLine ∧ J 0 B (ns.map fun n => (n, none)) [] ∧
    (∀ X' D, Cf X' X scope cl O → ∀ i v B₁ B₂ l₁ ys s₁ q Qy Qn, LTurn X' B₂ (J (i + 1)) q D ys Qy Qn → i < n → P B₂ i v → Sub B B₁ → J i B₁ l₁ ys → Sub B₁ B₂ → St X' B₂ (q ++ [(D, LO ys)]) l₁ s₁ →
      wpAny (model prog w) A (assign target X'.env v) (fun _ s₂ => wpAny (model prog w) A (tests ifs X'.env) (fun ok s₃ =>
        if ok = true then wpAny (model prog w) A (eval elt X'.env) Qy (fun _ _ => False) s₃ else Qn s₃) (fun _ _ => False) s₂) (fun _ _ => False) s₁) ∧
    (∀ B₁ B₂ D o ys l₁ q s₁, (D == sysModules) = false → Sub B B₁ → J n B₁ l₁ ys → Sub B₁ B₂ → B₂ D = some o → LO ys o → St X B₂ (q :: O) l s₁ → Q B₂ O l (.ref D) s₁)

theorem coreL {X : Fx} {s : Shared} {E : Value → Shared → Prop} {Q : FMap → Owns → Locs → Value → Shared → Prop} {elt target iter : Expr} {ifs : List Expr} {scope : Scope} {pos : Pos} {cl : List (Str × Addr)} {ns : List Str} {it : Value} {RR : Value → Addr → Result → Shared → Prop}
    (h : LComp prog w A X elt target ifs scope cl ns Q it s)
    (hcell : ∀ y ∈ scope.names, y.2 ≠ .cell) (hkind : scope.kind = .function) (hns : ∀ x ∈ ns, scope.names.lookup x = some .local ∧ (x == ("__debug__" : Str)) = false) (hnd : ns.Nodup)
    (hRR : ∀ D C B O l s₁, St X B ((C, NsAt C) :: O) l s₁ → Q B O l (.ref D) s₁ → RR (.ref D) C (.ok .next) s₁) :
    wpAny (model prog w) A (newList []) (fun acc s₃ => wpAny (model prog w) A (newFunctionEnv scope X.env.globals cl [] X.env.qual none .none (some X.env)) (fun cenv s₄ =>
      codeAny (model prog w) A (.compStart (.ListComp elt [⟨target, iter, ifs, 0⟩] scope pos) 0 it acc { cenv with scope := relabel scope X.env }) (RR acc cenv.locals) s₄) E s₃) E s := by
  obtain ⟨I, n, T, Sr, P, B, O, l, J, rfl, W, hS, H, hz, h0, step, after⟩ := h
  refine wpAny_newObj_type (wpAny_newFunctionEnv hcell (by intro y hy; simp at hy) (fun h₁ hns₁ hsb₁ => ?_) hkind)
  dsimp only at hns₁ hsb₁ ⊢
  generalize hH2 : s.heap.push { cls := .type "list", dict := none, data := .seq ([] : List Value).toArray } = H2 at hns₁ hsb₁ ⊢
  have hC : H2.objs.size = s.heap.objs.size + 1 := by rw [← hH2, Heap.size_push]
  have hDC : s.heap.objs.size ≠ H2.objs.size := by rw [hC]; exact Nat.ne_of_lt (Nat.lt_succ_self _)
  have below : ∀ b, b < s.heap.objs.size → b ≠ H2.objs.size := fun b hb => by rw [hC]; exact Nat.ne_of_lt (Nat.lt_succ_of_lt hb)
  have old : Keep s.heap h₁ := fun b o e => hsb₁.extBut b o (below b (Heap.lt_size e)) (Heap.get?_push_of_some _ (hH2 ▸ Heap.get?_push_of_some _ e))
  have hacc : h₁.get? s.heap.objs.size = some { cls := .type "list", dict := none, data := .seq ([] : List Value).toArray } := hsb₁.extBut _ _ hDC (Heap.get?_push_of_some _ (hH2 ▸ Heap.get?_push_size _ rfl))
  have fresh : s.heap.get? H2.objs.size = none := none_of_le (by rw [hC]; exact Nat.le_succ _)
  have hCs : H2.objs.size ≠ sysModules := by rw [hC]; exact Nat.ne_of_gt (Nat.lt_succ_of_lt H.sysm)
  have hDs : (s.heap.objs.size == sysModules) = false := beq_eq_false_iff_ne.mpr (Nat.ne_of_gt H.sysm)
  have loop : ∀ s₃ : Shared, s₃ = { s with heap := h₁, toks := s.toks + ([] : List (Str × Value)).length } →
      codeAny (model prog w) A (.compLoop (.ListComp elt [⟨target, iter, ifs, 0⟩] scope pos) 0 (.ref I) (.ref s.heap.objs.size) (compEnvC scope cl H2.objs.size X.env)) (RR (.ref s.heap.objs.size) H2.objs.size) s₃ := by
    rintro s₃ rfl
    have Hd := H.down (s' := { s with heap := h₁, toks := s.toks + ([] : List (Str × Value)).length }) (cl := cl) (C := H2.objs.size) (P := LO []) old rfl rfl rfl hkind hns hnd hns₁ fresh ⟨_, hacc, 0, rfl⟩ (Nat.le_refl _) hDC
    have Hc := Fx.comp_cf (scope := scope) (cl := cl) (C := H2.objs.size) H
    generalize hX' : X.comp scope cl H2.objs.size (hideAll s.heap ((T 0).map (·.1))) B = X' at Hd Hc
    have henv : compEnvC scope cl H2.objs.size X.env = X'.env := by rw [← hX']; rfl
    rw [henv]
    refine loop_list W hS Hd hz J h0 (step X' _ Hc) fun B₁ l₁ ys s₁ hs₁ hJ H₁ => ?_
    obtain ⟨B', o, hsub, hB', hP, H₂⟩ := H₁.freeze (O₁ := []) rfl
    subst hX'
    have Hu := H.upC H₂ hCs
    exact hRR _ _ B' O l s₁ Hu (after B₁ B' _ o ys l₁ _ s₁ hDs hs₁ hJ hsub hB' hP Hu)
  have H' : St X B (T 0 ++ O) l { s with heap := h₁, toks := s.toks + ([] : List (Str × Value)).length } := H.keeps old
  exact codeAny_compStart_list (loop _ rfl) (W.self 0 _ _ hS H' (loop _ rfl))

theorem e_listcomp {X : Fx} {s : Shared} {E : Value → Shared → Prop} {Q : Value → Shared → Prop} {elt target iter : Expr} {ifs : List Expr} {scope : Scope} {pos : Pos} {cl : List (Str × Addr)} (ns : List Str)
    (h : wpAny (model prog w) A (eval iter X.env) (fun xv s₁ => wpAny (model prog w) A (pyIter xv) (LComp prog w A X elt target ifs scope cl ns (fun B O l v _ => ∀ s, St X B O l s → Q v s)) E s₁) E s)
    (hclos : closureFor scope X.env = pure cl) (hcell : ∀ y ∈ scope.names, y.2 ≠ .cell) (hkind : scope.kind = .function)
    (hnames : ∀ y ∈ scope.names, y.2 = .local → scope.names.lookup y.1 = some .local) (hns : ∀ x ∈ ns, scope.names.lookup x = some .local ∧ (x == ("__debug__" : Str)) = false) (hnd : ns.Nodup)
    (hs : ∀ x, foldedSetIterable iter X.env x = pure x := by intro _; rfl) :
    wpAny (model prog w) A (eval (.ListComp elt [⟨target, iter, ifs, 0⟩] scope pos) X.env) Q E s := by
  rw [eval_ListComp]
  refine wpAny_comprehension_free (use := none) rfl hs hclos hkind hnames (wpAny_mono h (fun xv s₁ h₁ => wpAny_mono h₁ (fun it s₂ h₂ => ?_) fun _ _ e => e) fun _ _ e => e)
  refine coreL (RR := fun acc C => compPost (model prog w) A E none Q acc C) h₂ hcell hkind hns hnd fun D C B O l s₁ H hq => ?_
  obtain ⟨⟨o, ho, m, hm⟩, _⟩ := H.own _ (.head _)
  exact ⟨m, hm _ ho, fun h' hs' => hq _ (H.let1 (n := s₁.toks) fun b o hb e => (hs'.2 b hb).trans e)⟩

/-- y = [..]: the comprehension stores itself -/
theorem x_listcomp {X : Fx} {s : Shared} {E : Value → Shared → Prop} {Q : Flow → Shared → Prop} {elt target iter : Expr} {ifs : List Expr} {scope : Scope} {pos spos py : Pos} {y : Str} {rest : List Stmt} {cl : List (Str × Addr)} (ns : List Str)
    (h : wpAny (model prog w) A (eval iter X.env) (fun xv s₁ => wpAny (model prog w) A (pyIter xv) (LComp prog w A X elt target ifs scope cl ns (fun B O l v _ => ∃ O' l', StoreTo prog w A X B O l y v O' l' ∧ ∀ s, St X B O' l' s → wpAny (model prog w) A (execs rest X.env) Q E s)) E s₁) E s)
    (hsw : swapsWith (.ListComp elt [⟨target, iter, ifs, 0⟩] scope pos) (some (.Name y py)) spos.line X.env = pure true)
    (hclos : closureFor scope X.env = pure cl) (hcell : ∀ y ∈ scope.names, y.2 ≠ .cell) (hkind : scope.kind = .function)
    (hnames : ∀ y ∈ scope.names, y.2 = .local → scope.names.lookup y.1 = some .local) (hns : ∀ x ∈ ns, scope.names.lookup x = some .local ∧ (x == ("__debug__" : Str)) = false) (hnd : ns.Nodup)
    (hs : ∀ x, foldedSetIterable iter X.env x = pure x := by intro _; rfl) :
    wpAny (model prog w) A (execs (.Assign [.Name y py] (.ListComp elt [⟨target, iter, ifs, 0⟩] scope pos) spos :: rest) X.env) Q E s := by
  refine wpAny_execs_cons ?_
  rw [exec_Assign_Name_used _ _ _ _ hsw]
  refine wpAny_bind (wpAny_standAt (wpAny_bind ?_))
  show wpAny _ A (do let _ ← comprehension (.ListComp elt [⟨target, iter, ifs, 0⟩] scope pos) scope X.env _ (newList []) false (eval iter X.env) (some (assign (.Name y py) X.env))) _ _ s
  refine wpAny_bind (wpAny_mono (wpAny_comprehension_free (use := some (assign (.Name y py) X.env)) (Q := fun _ s' => wpAny (model prog w) A (execs rest X.env) Q E s') rfl hs hclos hkind hnames
    (wpAny_mono h (fun xv s₁ h₁ => wpAny_mono h₁ (fun it s₂ h₂ => ?_) fun _ _ e => e) fun _ _ e => e)) (fun _ s' hq => wpAny_pure (wpAny_pure hq)) fun _ _ e => e)
  refine coreL (RR := fun acc C => compPost (model prog w) A E (some (assign (.Name y py) X.env)) (fun _ s' => wpAny (model prog w) A (execs rest X.env) Q E s') acc C) h₂ hcell hkind hns hnd fun D C B O l s₁ H hq => ?_
  obtain ⟨O', l', hst, hq⟩ := hq
  show wpAny _ A (assign (.Name y py) X.env (.ref D)) _ _ _
  refine wpAny_assign_Name (hst _ _ _ _ H fun s₂ H₂ => ?_)
  obtain ⟨⟨o, ho, m, hm⟩, _⟩ := H₂.own _ (.head _)
  exact ⟨m, hm _ ho, fun h' hs' => hq _ (H₂.let1 (n := s₂.toks) fun b o hb e => (hs'.2 b hb).trans e)⟩

def DComp (prog : Program) (w : World) {K : Type} [DecidableEq K] (knd : PySem.KeyKind prog w K) (A : Around) (X : Fx) (kx vx target : Expr) (ifs : List Expr) (scope : Scope) (cl : List (Str × Addr)) (ns : List Str) (Q : FMap → Owns → Locs → Value → Shared → Prop) (it : Value) (s₂ : Shared) : Prop :=
  ∃ (I : Addr) (n : Nat) (T : Nat → Owns) (Sr : FMap → Prop) (P : FMap → Nat → Value → Prop) (B : FMap) (O : Owns) (l : Locs) (J : Nat → FMap → Locs → List (K × Value) → Prop),
    it = .ref I ∧ It prog w A target I n T Sr P ∧ Sr B ∧ St X B (T 0 ++ O) l s₂ ∧ n ≤ sizeLine ∧ J 0 B (ns.map fun n => (n, none)) [] ∧
    (∀ X' D, Cf X' X scope cl O → ∀ i v B₁ B₂ l₁ ys s₁ q Qy Qn, DTurn knd X' B₂ (J (i + 1)) q D ys Qy Qn → i < n → P B₂ i v → Sub B B₁ → J i B₁ l₁ ys → Sub B₁ B₂ → St X' B₂ (q ++ [(D, fun o => o.IsDictOf knd ys)]) l₁ s₁ →
      wpAny (model prog w) A (assign target X'.env v) (fun _ s₂ => wpAny (model prog w) A (tests ifs X'.env) (fun ok s₃ =>
        if ok = true then wpAny (model prog w) A (eval kx X'.env) (fun kv s₄ => wpAny (model prog w) A (eval vx X'.env) (Qy kv) (fun _ _ => False) s₄) (fun _ _ => False) s₃ else Qn s₃) (fun _ _ => False) s₂) (fun _ _ => False) s₁) ∧
    (∀ B₁ B₂ D o ys l₁ q s₁, (D == sysModules) = false → Sub B B₁ → J n B₁ l₁ ys → Sub B₁ B₂ → B₂ D = some o → o.IsDictOf knd ys → St X B₂ (q :: O) l s₁ → Q B₂ O l (.ref D) s₁)

theorem coreD {X : Fx} {s : Shared} {E : Value → Shared → Prop} {K : Type} [DecidableEq K] {knd : PySem.KeyKind prog w K} {Q : FMap → Owns → Locs → Value → Shared → Prop} {kx vx target iter : Expr} {ifs : List Expr} {scope : Scope} {pos : Pos} {cl : List (Str × Addr)} {ns : List Str} {it : Value} {RR : Value → Addr → Result → Shared → Prop}
    (h : DComp prog w knd A X kx vx target ifs scope cl ns Q it s)
    (hcell : ∀ y ∈ scope.names, y.2 ≠ .cell) (hkind : scope.kind = .function) (hns : ∀ x ∈ ns, scope.names.lookup x = some .local ∧ (x == ("__debug__" : Str)) = false) (hnd : ns.Nodup)
    (hRR : ∀ D C B O l s₁, St X B ((C, NsAt C) :: O) l s₁ → Q B O l (.ref D) s₁ → RR (.ref D) C (.ok .next) s₁) :
    wpAny (model prog w) A newDict (fun acc s₃ => wpAny (model prog w) A (newFunctionEnv scope X.env.globals cl [] X.env.qual none .none (some X.env)) (fun cenv s₄ =>
      codeAny (model prog w) A (.compStart (.DictComp kx vx [⟨target, iter, ifs, 0⟩] scope pos) 0 it acc { cenv with scope := relabel scope X.env }) (RR acc cenv.locals) s₄) E s₃) E s := by
  obtain ⟨I, n, T, Sr, P, B, O, l, J, rfl, W, hS, H, hz, h0, step, after⟩ := h
  refine wpAny_newObj_type (wpAny_newFunctionEnv hcell (by intro y hy; simp at hy) (fun h₁ hns₁ hsb₁ => ?_) hkind)
  dsimp only at hns₁ hsb₁ ⊢
  generalize hH2 : s.heap.push { cls := .type "dict", dict := none, data := .dict #[] } = H2 at hns₁ hsb₁ ⊢
  have hC : H2.objs.size = s.heap.objs.size + 1 := by rw [← hH2, Heap.size_push]
  have hDC : s.heap.objs.size ≠ H2.objs.size := by rw [hC]; exact Nat.ne_of_lt (Nat.lt_succ_self _)
  have below : ∀ b, b < s.heap.objs.size → b ≠ H2.objs.size := fun b hb => by rw [hC]; exact Nat.ne_of_lt (Nat.lt_succ_of_lt hb)
  have old : Keep s.heap h₁ := fun b o e => hsb₁.extBut b o (below b (Heap.lt_size e)) (Heap.get?_push_of_some _ (hH2 ▸ Heap.get?_push_of_some _ e))
  have hacc : h₁.get? s.heap.objs.size = some { cls := .type "dict", dict := none, data := .dict #[] } := hsb₁.extBut _ _ hDC (Heap.get?_push_of_some _ (hH2 ▸ Heap.get?_push_size _ rfl))
  have fresh : s.heap.get? H2.objs.size = none := none_of_le (by rw [hC]; exact Nat.le_succ _)
  have hCs : H2.objs.size ≠ sysModules := by rw [hC]; exact Nat.ne_of_gt (Nat.lt_succ_of_lt H.sysm)
  have hDs : (s.heap.objs.size == sysModules) = false := beq_eq_false_iff_ne.mpr (Nat.ne_of_gt H.sysm)
  have loop : ∀ s₃ : Shared, s₃ = { s with heap := h₁, toks := s.toks + ([] : List (Str × Value)).length } →
      codeAny (model prog w) A (.compLoop (.DictComp kx vx [⟨target, iter, ifs, 0⟩] scope pos) 0 (.ref I) (.ref s.heap.objs.size) (compEnvC scope cl H2.objs.size X.env)) (RR (.ref s.heap.objs.size) H2.objs.size) s₃ := by
    rintro s₃ rfl
    have Hd := H.down (s' := { s with heap := h₁, toks := s.toks + ([] : List (Str × Value)).length }) (cl := cl) (C := H2.objs.size) (P := fun o => o.IsDictOf knd []) old rfl rfl rfl hkind hns hnd hns₁ fresh ⟨_, hacc, dict_new knd (hh := s.heap)⟩ (Nat.le_refl _) hDC
    have Hc := Fx.comp_cf (scope := scope) (cl := cl) (C := H2.objs.size) H
    generalize hX' : X.comp scope cl H2.objs.size (hideAll s.heap ((T 0).map (·.1))) B = X' at Hd Hc
    have henv : compEnvC scope cl H2.objs.size X.env = X'.env := by rw [← hX']; rfl
    rw [henv]
    refine loop_dict W hS Hd hz J h0 (step X' _ Hc) fun B₁ l₁ ys s₁ hs₁ hJ H₁ => ?_
    obtain ⟨B', o, hsub, hB', hP, H₂⟩ := H₁.freeze (O₁ := []) rfl
    subst hX'
    have Hu := H.upC H₂ hCs
    exact hRR _ _ B' O l s₁ Hu (after B₁ B' _ o ys l₁ _ s₁ hDs hs₁ hJ hsub hB' hP Hu)
  have H' : St X B (T 0 ++ O) l { s with heap := h₁, toks := s.toks + ([] : List (Str × Value)).length } := H.keeps old
  exact codeAny_compStart_dict (loop _ rfl) (W.self 0 _ _ hS H' (loop _ rfl))

theorem e_dictcomp {X : Fx} {s : Shared} {E : Value → Shared → Prop} {K : Type} [DecidableEq K] (knd : PySem.KeyKind prog w K) {Q : Value → Shared → Prop} {kx vx target iter : Expr} {ifs : List Expr} {scope : Scope} {pos : Pos} {cl : List (Str × Addr)} (ns : List Str)
    (h : wpAny (model prog w) A (eval iter X.env) (fun xv s₁ => wpAny (model prog w) A (pyIter xv) (DComp prog w knd A X kx vx target ifs scope cl ns (fun B O l v _ => ∀ s, St X B O l s → Q v s)) E s₁) E s)
    (hclos : closureFor scope X.env = pure cl) (hcell : ∀ y ∈ scope.names, y.2 ≠ .cell) (hkind : scope.kind = .function)
    (hnames : ∀ y ∈ scope.names, y.2 = .local → scope.names.lookup y.1 = some .local) (hns : ∀ x ∈ ns, scope.names.lookup x = some .local ∧ (x == ("__debug__" : Str)) = false) (hnd : ns.Nodup)
    (hs : ∀ x, foldedSetIterable iter X.env x = pure x := by intro _; rfl) :
    wpAny (model prog w) A (eval (.DictComp kx vx [⟨target, iter, ifs, 0⟩] scope pos) X.env) Q E s := by
  rw [arm_eval_DictComp]
  refine wpAny_comprehension_free (use := none) rfl hs hclos hkind hnames (wpAny_mono h (fun xv s₁ h₁ => wpAny_mono h₁ (fun it s₂ h₂ => ?_) fun _ _ e => e) fun _ _ e => e)
  refine coreD (RR := fun acc C => compPost (model prog w) A E none Q acc C) h₂ hcell hkind hns hnd fun D C B O l s₁ H hq => ?_
  obtain ⟨⟨o, ho, m, hm⟩, _⟩ := H.own _ (.head _)
  exact ⟨m, hm _ ho, fun h' hs' => hq _ (H.let1 (n := s₁.toks) fun b o hb e => (hs'.2 b hb).trans e)⟩

end
end Mine
end
-- part C13
section
open PySem PySem.Spec PySem.Calls PyProof.Rows PySem.W
namespace Mine
section
variable {M : Model} {A : Around} {E : Value → Shared → Prop} {env : Env} {s : Shared} {rest bd ob : List Stmt} {Q : Flow → Shared → Prop}
/-- both branches go on behind the if with J -/
theorem ite_join (J : Shared → Prop) {c : Bool} (h : ∀ Qe : Flow → Shared → Prop, (∀ {s'}, J s' → Qe .next s') → if c = true then wpAny M A (execs bd env) Qe E s else wpAny M A (execs ob env) Qe E s)
    (k : ∀ s', J s' → wpAny M A (execs rest env) Q E s') :
    if c = true then wpAny M A (execs bd env) (Then M A E rest env Q) E s else wpAny M A (execs ob env) (Then M A E rest env Q) E s := by
  replace h := h (fun f s' => f = .next ∧ J s') fun hj => ⟨rfl, hj⟩
  cases c with
  | true =>
    rw [if_pos rfl] at h ⊢
    refine wpAny_mono h (fun f s' hf => ?_) fun _ _ x => x
    obtain ⟨rfl, hj⟩ := hf
    exact k _ hj
  | false =>
    rw [if_neg (by simp)] at h ⊢
    refine wpAny_mono h (fun f s' hf => ?_) fun _ _ x => x
    obtain ⟨rfl, hj⟩ := hf
    exact k _ hj
/-- a value is reckoned, whatever the ways; behind it J is known -/
theorem e_join {α : Type} {t : Sem α} {Q : α → Shared → Prop} (J : α → Shared → Prop) (h : ∀ Qe : α → Shared → Prop, (∀ {v s'}, J v s' → Qe v s') → wpAny M A t Qe E s) (k : ∀ v s', J v s' → Q v s') : wpAny M A t Q E s :=
  wpAny_mono (h J fun hj => hj) k fun _ _ x => x
end
end Mine
end
-- part C14
section
open PySem PySem.Spec PySem.Calls PyProof.Rows PySem.W
namespace Mine
theorem OPop.app {T O a P O'} (h : OPop O a P O') : OPop (T ++ O) a P (T ++ O') := by
  induction T with
  | nil => exact h
  | cons q T ih => exact .there ih
theorem OPut.app {T O a P P' O'} (h : OPut O a P P' O') : OPut (T ++ O) a P P' (T ++ O') := by
  induction T with
  | nil => exact h
  | cons q T ih => exact .there ih
section
variable {prog : Program} {w : World} {A : Around} {X : Fx} {B : FMap} {O : Owns} {l : Locs} {s : Shared} {E : Value → Shared → Prop}

theorem lc_it {elt target : Expr} {ifs : List Expr} {scope : Scope} {cl : List (Str × Addr)} {ns : List Str} {Q : FMap → Owns → Locs → Value → Shared → Prop} {xv : Value} {n : Nat} {P : FMap → Nat → Value → Prop}
    (W : Iterates prog w A target X B O l s xv n P) (hz : n ≤ sizeLine) (J : Nat → FMap → Locs → List Value → Prop) (h0 : J 0 B (ns.map fun n => (n, none)) [])
    (step : ∀ X' D, Cf X' X scope cl O → ∀ i v B₁ B₂ l₁ ys s₁ q Qy Qn, LTurn X' B₂ (J (i + 1)) q D ys Qy Qn → i < n → P B₂ i v → Sub B B₁ → J i B₁ l₁ ys → Sub B₁ B₂ → St X' B₂ (q ++ [(D, LO ys)]) l₁ s₁ →
      wpAny (model prog w) A (assign target X'.env v) (fun _ s₂ => wpAny (model prog w) A (tests ifs X'.env) (fun ok s₃ =>
        if ok = true then wpAny (model prog w) A (eval elt X'.env) Qy (fun _ _ => False) s₃ else Qn s₃) (fun _ _ => False) s₂) (fun _ _ => False) s₁)
    (after : ∀ B₁ B₂ D ys l₁ k s₁, Sub B B₁ → J n B₁ l₁ ys → Sub B₁ B₂ → B₂ D = some { cls := .type "list", data := .seq ys.toArray k } → Q B₂ O l (.ref D) s₁) :
    wpAny (model prog w) A (pyIter xv) (LComp prog w A X elt target ifs scope cl ns Q) E s := by
  refine W _ _ fun I T Sr s' W hS H => ?_
  refine ⟨I, n, T, Sr, P, B, O, l, J, rfl, W, hS, H, hz, h0, step, fun B₁ B₂ D o ys l₁ q s₁ _ h1 h2 h3 h4 h5 _ => ?_⟩
  obtain ⟨k, rfl⟩ := h5
  exact after B₁ B₂ D ys l₁ k s₁ h1 h2 h3 h4

theorem dc_it {K : Type} [DecidableEq K] {knd : PySem.KeyKind prog w K} {kx vx target : Expr} {ifs : List Expr} {scope : Scope} {cl : List (Str × Addr)} {ns : List Str} {Q : FMap → Owns → Locs → Value → Shared → Prop} {xv : Value} {n : Nat} {P : FMap → Nat → Value → Prop}
    (W : Iterates prog w A target X B O l s xv n P) (hz : n ≤ sizeLine) (J : Nat → FMap → Locs → List (K × Value) → Prop) (h0 : J 0 B (ns.map fun n => (n, none)) [])
    (step : ∀ X' D, Cf X' X scope cl O → ∀ i v B₁ B₂ l₁ ys s₁ q Qy Qn, DTurn knd X' B₂ (J (i + 1)) q D ys Qy Qn → i < n → P B₂ i v → Sub B B₁ → J i B₁ l₁ ys → Sub B₁ B₂ → St X' B₂ (q ++ [(D, fun o => o.IsDictOf knd ys)]) l₁ s₁ →
      wpAny (model prog w) A (assign target X'.env v) (fun _ s₂ => wpAny (model prog w) A (tests ifs X'.env) (fun ok s₃ =>
        if ok = true then wpAny (model prog w) A (eval kx X'.env) (fun kv s₄ => wpAny (model prog w) A (eval vx X'.env) (Qy kv) (fun _ _ => False) s₄) (fun _ _ => False) s₃ else Qn s₃) (fun _ _ => False) s₂) (fun _ _ => False) s₁)
    (after : ∀ B₁ B₂ D ys l₁ s₁, Sub B B₁ → J n B₁ l₁ ys → Sub B₁ B₂ → BD knd B₂ D ys → Q B₂ O l (.ref D) s₁) :
    wpAny (model prog w) A (pyIter xv) (DComp prog w knd A X kx vx target ifs scope cl ns Q) E s := by
  refine W _ _ fun I T Sr s' W hS H => ?_
  exact ⟨I, n, T, Sr, P, B, O, l, J, rfl, W, hS, H, hz, h0, step, fun B₁ B₂ D o ys l₁ q s₁ h0 h1 h2 h3 h4 h5 _ => after B₁ B₂ D ys l₁ s₁ h1 h2 h3 ⟨h0, o, h4, h5⟩⟩

theorem relabel_lookup {env : Env} {k : NameKind} (hk : (k == .free) = false) : ∀ {names : List (Str × NameKind)} {x : Str}, names.lookup x = some k →
    (names.map fun (n, k) => if (k == NameKind.free && env.scope.kind == .function && env.kindOf n == some .cell) then (n, NameKind.cell) else (n, k)).lookup x = some k
  | [], _, h => by simp at h
  | (n, k') :: r, x, h => by
    have ih := @relabel_lookup env k hk r x
    show List.lookup x ((if (k' == NameKind.free && env.scope.kind == .function && env.kindOf n == some .cell) = true then (n, NameKind.cell) else (n, k')) :: _) = _
    cases hx : x == n with
    | true =>
      simp only [List.lookup_cons, hx] at h
      cases h
      simp [List.lookup_cons, hx, hk]
    | false =>
      simp only [List.lookup_cons, hx] at h
      by_cases hc : (k' == NameKind.free && env.scope.kind == .function && env.kindOf n == some .cell) = true
      · rw [if_pos hc]; simp only [List.lookup_cons, hx]; exact ih h
      · rw [if_neg hc]; simp only [List.lookup_cons, hx]; exact ih h
/-- a name's kind in the frame of a comprehension -/
theorem kindOf_cf {X' : Fx} {scope : Scope} {cl : List (Str × Addr)} {x : Str} {k : NameKind} (C : Cf X' X scope cl O) (h : scope.names.lookup x = some k) (hk : (k == .free) = false := by decide +kernel) : X'.env.kindOf x = some k := by
  unfold Env.kindOf
  rw [C.scope]
  exact relabel_lookup hk h
theorem Cf.pg {X' : Fx} {scope : Scope} {cl : List (Str × Addr)} {p : Program} {lo : List Str} (C : Cf X' X scope cl O) (G : Pg X p lo) : Pg X' p lo :=
  ⟨(congrArg Tp.p C.T).trans G.p, (congrArg Tp.loose C.T).trans G.loose⟩
end
end Mine
end
-- part C15
section
open PySem PySem.Spec PySem.Calls PyProof.Rows PySem.W
namespace Mine
section
variable {prog : Program} {w : World} {B : FMap}
theorem Rd.key {k : Ky} {v : Value} (h : Rd prog w B v k.dat) : (mixKind prog w).is k v = true := by
  cases k with
  | i n => generalize hd : Ky.dat (.i n) = d at h; cases h <;> cases hd; exact mix_int _ _
  | s x => generalize hd : Ky.dat (.s x) = d at h; cases h <;> cases hd; exact mix_str _ _
theorem Rd.two {v : Value} {d1 d2 : PyData} (h : Rd prog w B v (.tuple [d1, d2])) : ∃ a o n y1 y2, v = .ref a ∧ B a = some o ∧ o.cls = .type "tuple" ∧ o.data = .seq #[y1, y2] n ∧ Rd prog w B y1 d1 ∧ Rd prog w B y2 d2 := by
  cases h with
  | @tuple a o vs n _ h1 h2 h3 h4 =>
    generalize hl : vs.toList = l at h4
    cases h4 with
    | cons ha h4 => cases h4 with
      | cons hb h4 => cases h4; exact ⟨a, o, n, _, _, rfl, h1, h2, by rw [h3, show vs = _ from Array.toList_inj.mp (hl.trans (List.toList_toArray ..).symm)], ha, hb⟩
theorem stored_new {K : Type} [DecidableEq K] {acc : List (K × Value)} {k : K} {v : Value} (h : k ∉ acc.map (·.1)) : stored acc k v = acc ++ [(k, v)] := by
  unfold stored
  rw [if_neg]
  intro hany
  obtain ⟨x, hx, he⟩ := List.any_eq_true.mp hany
  exact h (by rw [← of_decide_eq_true he]; exact List.mem_map_of_mem hx)
theorem zip_pairs : ∀ {kvs : List (Ky × PyData)}, List.zipWith (fun k d => (Ky.dat k, d)) (kvs.map (·.1)) (kvs.map (·.2)) = kvs.map fun kv => (kv.1.dat, kv.2)
  | [] => rfl
  | kv :: r => by simp [zip_pairs (kvs := r)]
theorem Rd.table {a : Addr} {kvs : List (Ky × Value)} {kds : List (Ky × PyData)} (h : BD (mixKind prog w) B a kvs) (hk : kvs.map (·.1) = kds.map (·.1)) (hd : RdAll prog w B (kvs.map (·.2)) (kds.map (·.2))) :
    Rd prog w B (.ref a) (.dict (kds.map fun kv => (kv.1.dat, kv.2))) := by
  rw [← zip_pairs]
  exact .dict h hk.symm hd
theorem nodup_take {K V : Type} : ∀ {kvs : List (K × V)} (_ : (kvs.map (·.1)).Nodup) {i : Nat} {kv : K × V} (_ : kvs[i]? = some kv), kv.1 ∉ (kvs.take i).map (·.1)
  | [], _, i, kv, hi => by simp at hi
  | kv0 :: r, h, 0, kv, hi => by simp
  | kv0 :: r, h, i + 1, kv, hi => by
    rw [List.map_cons, List.nodup_cons] at h
    have hi' : r[i]? = some kv := by simpa using hi
    rw [List.take_succ_cons, List.map_cons, List.mem_cons, not_or]
    refine ⟨fun e => h.1 ?_, nodup_take h.2 hi'⟩
    rw [← e]
    exact List.mem_map_of_mem (f := (·.1)) (List.mem_of_getElem? hi')
theorem take_snoc {α : Type} {l : List α} {i : Nat} {x : α} (h : l[i]? = some x) : l.take (i + 1) = l.take i ++ [x] := by
  rw [List.take_add_one, h]; rfl
end
section
variable {X : Fx} {B B' : FMap} {O O' : Owns} {l l' : Locs} {s s' : Shared} {prog : Program} {w : World} {A : Around} {E : Value → Shared → Prop} {Q : Value → Shared → Prop} {env : Env}
theorem a_two' {x y : Str} {p1 p2 tpos : Pos} {k : Nat} {t : Addr} {o : Obj} {n : Nat} {v1 v2 : Value} {Q : Unit → Shared → Prop} (hh : A.handled = none) (H : St X B O l s) (ht : B t = some o) (hc : o.cls = .type "tuple") (hd : o.data = .seq #[v1, v2] n)
    (h : ∀ s', St X B O l s' → wpAny (model prog w) A (storeName X.env x v1) (fun _ s₁ => wpAny (model prog w) A (storeName X.env y v2) Q E s₁) E s') :
    wpAny (model prog w) A (assign (.Tuple [.Name x p1, .Name y p2] k tpos) X.env (.ref t)) Q E s := by
  refine wpAny_assign_Tuple (items := #[v1, v2]) hh ⟨_, H.fz _ _ ht, hc, n, hd⟩ rfl rfl fun h' he => ?_
  have hk : Keep s.heap h' := fun b o e => he b o (Nat.ne_of_lt (Heap.lt_size e)) e
  refine wpAny_assignInOrder_more (wpAny_assign_Name (wpAny_mono (h _ (H.keeps (n := s.toks) hk)) (fun _ s₁ h₁ => ?_) fun _ _ x => x))
  exact wpAny_assignInOrder_more (wpAny_assign_Name (wpAny_mono h₁ (fun _ s₂ h₂ => wpAny_assignInOrder_none h₂) fun _ _ x => x))
end
end Mine
end
-- part Hd1
section
open PySem PySem.Spec PySem.Calls PyProof.Rows PySem.W
set_option maxRecDepth 100000
namespace Mine
def pick : List Nat → List Stmt → List Stmt
  | [], _ => []
  | i :: r, b => (b[i]?).toList ++ pick r b
noncomputable def V1 : Program := { PySem.Challenge.pw_in0092_01 with main := { PySem.Challenge.pw_in0092_01.main with body := pick [0, 1, 3, 5, 6, 7, 8, 9, 10, 11, 12, 13] PySem.Challenge.pw_in0092_01.main.body } }
noncomputable def recOf (p : Program) (n : Str) : DefRec := ((recsOf p).find? (fun r => r.name == n)).getD ⟨"", ⟨[], [], none, [], [], none, []⟩, [], ⟨.function, [], false, false, []⟩, default⟩
end Mine
end
-- part P1
section
/- the plain side of the reader of texts: no program in sight -/
namespace Mine
/-- how many figures stand behind a backslash and this sign -/
def sizeOf (e : Nat) : Nat := if e = 120 then 2 else if e = 117 then 4 else if e = 85 then 8 else 0
/-- the sign that a backslash and this one tell -/
def shortOf (q e : Nat) : Option Nat := if e = 110 then some 10 else if e = 114 then some 13 else if e = 116 then some 9 else if e = 92 then some 92 else if e = q then some q else none
def figures16 : List Nat := [48, 49, 50, 51, 52, 53, 54, 55, 56, 57, 97, 98, 99, 100, 101, 102]
def leastOf (k : Nat) : Nat := if k = 2 then 0 else if k = 4 then 256 else 65536
/-- the number that these figures tell, behind what has been read -/
inductive Hex : List Nat → Nat → Nat → Prop
  | nil {c} : Hex [] c c
  | cons {d ds c c'} (v : Nat) : figures16[v]? = some d → Hex ds (16 * c + v) c' → Hex (d :: ds) c c'
/-- the loop of _law_text from place p, with r read, ends at p' with r' -/
inductive TL (a : List Nat) (q : Nat) : Nat → List Nat → Nat → List Nat → Prop
  | stop {p r} : a[p]? = some q → TL a q p r p r
  | plain {p r p' r'} (c : Nat) : a[p]? = some c → c ≠ q → c ≠ 92 → 32 ≤ c → c ≠ 127 → TL a q (p + 1) (r ++ [c]) p' r' → TL a q p r p' r'
  | esc {p r p' r'} (e c d : Nat) : a[p]? = some 92 → a[p + 1]? = some e → Hex ((a.drop (p + 2)).take (sizeOf e)) 0 c →
      ((sizeOf e = 0 ∧ shortOf q e = some d) ∨ (sizeOf e ≠ 0 ∧ d = c ∧ c ≤ 1114111 ∧ (c < 32 ∨ 126 < c) ∧ c ≠ 10 ∧ c ≠ 13 ∧ c ≠ 9 ∧ leastOf (sizeOf e) ≤ c)) →
      TL a q (p + 2 + sizeOf e) (r ++ [d]) p' r' → TL a q p r p' r'
theorem TL.lt {a q p r p' r'} (h : TL a q p r p' r') : p < a.length := by
  cases h with
  | stop h => exact (List.getElem?_eq_some_iff.mp h).1
  | plain c h => exact (List.getElem?_eq_some_iff.mp h).1
  | esc e c d h => exact (List.getElem?_eq_some_iff.mp h).1
theorem sizeOf_le (e : Nat) : sizeOf e ≤ 8 := by unfold sizeOf; (split; omega; split; omega; split <;> omega)
end Mine
end
-- part P2
section
open PySem
namespace Mine
/-- a word ends ahead of these -/
def stops : List Nat := [44, 58, 93, 41, 125]
def figures10 : List Nat := [48, 49, 50, 51, 52, 53, 54, 55, 56, 57]
inductive Dec : List Nat → Nat → Nat → Prop
  | nil {c} : Dec [] c c
  | cons {d ds c c'} (v : Nat) : figures10[v]? = some d → Dec ds (10 * c + v) c' → Dec (d :: ds) c c'
/-- what a word says -/
inductive WordIs : List Nat → PyData → Prop
  | tt : WordIs [84, 114, 117, 101] (.bool true)
  | ff : WordIs [70, 97, 108, 115, 101] (.bool false)
  | no : WordIs [78, 111, 110, 101] .none
  | num {d ds n} : Dec (d :: ds) 0 n → (d = 48 → ds = []) → WordIs (d :: ds) (.int n)
  | neg {d ds n} : Dec (d :: ds) 0 n → d ≠ 48 → WordIs (45 :: d :: ds) (.int (-n))
/-- the word from i on ends at e -/
structure WordTo (a : List Nat) (i e : Nat) : Prop where
  le : i ≤ e
  len : e ≤ a.length
  mid : ∀ k, i ≤ k → k < e → ∃ c, a[k]? = some c ∧ c ∉ stops
  fin : a[e]? = none ∨ ∃ c, a[e]? = some c ∧ c ∈ stops
theorem Dec.fig {d ds c c'} (h : Dec (d :: ds) c c') : 48 ≤ d ∧ d ≤ 57 := by
  cases h with
  | cons v hv _ =>
    have hl : v < 10 := (List.getElem?_eq_some_iff.mp hv).1
    have key : ∀ v : Fin 10, ∀ d, figures10[v.val]? = some d → 48 ≤ d ∧ d ≤ 57 := by
      intro v d h
      have h2 : figures10[v.val]! = d := by rw [List.getElem!_eq_getElem?_getD, h]; rfl
      subst h2
      revert v; intro v _; revert v; decide
    exact key ⟨v, hl⟩ d hv
/-- a value that is no object of the heap, and the thing it is -/
inductive Leaf : Value → PyData → Prop
  | none : Leaf .none .none
  | bool (b) : Leaf (.bool b) (.bool b)
  | int (i t) : Leaf (.int i t) (.int i)
theorem take1_none {a : List Nat} {e : Nat} (h : a[e]? = none) : (a.drop e).take 1 = [] := by
  rw [List.drop_of_length_le (List.getElem?_eq_none_iff.mp h)]; rfl
theorem take1_some {a : List Nat} {e c : Nat} (h : a[e]? = some c) : (a.drop e).take 1 = [c] := by
  obtain ⟨hl, he⟩ := List.getElem?_eq_some_iff.mp h
  rw [List.drop_eq_getElem_cons hl, he]; rfl
end Mine
end
-- part P3
section
open PySem
namespace Mine
def closerOf (f : Nat) : Nat := if f = 91 then 93 else if f = 40 then 41 else 125
/-- the things that stand from place p on, n of them read already; f: the sign that opened them; T: how one thing is read -/
inductive Ls (T : Nat → PyData → Nat → Prop) (a : List Nat) (f : Nat) : Nat → Nat → List PyData → Nat → Prop
  | stop {n p c} : a[p]? = some c → (c = 93 ∨ c = 41 ∨ c = 125) → Ls T a f n p [] p
  | item {n p p₁ p₂ p₃ d ds e c} : a[p]? = some c → c ≠ 93 → c ≠ 41 → c ≠ 125 →
      (n = 0 ∧ p₁ = p ∨ n ≠ 0 ∧ (a.drop p).take 2 = [44, 32] ∧ p₁ = p + 2) →
      (f ≠ 123 ∧ T p₁ d p₂ ∨ f = 123 ∧ ∃ k v q, T p₁ k q ∧ (a.drop q).take 2 = [58, 32] ∧ T (q + 2) v p₂ ∧ d = .tuple [k, v]) →
      (f = 40 ∧ n = 0 ∧ (a.drop p₂).take 2 = [44, 41] ∧ p₃ = p₂ + 1 ∨ ¬(f = 40 ∧ n = 0 ∧ (a.drop p₂).take 2 = [44, 41]) ∧ p₃ = p₂) →
      p < p₃ → Ls T a f (n + 1) p₃ ds e → Ls T a f n p (d :: ds) e
theorem Ls.lt {T a f n p ds e} (h : Ls T a f n p ds e) : p < a.length := by
  cases h with
  | stop h => exact (List.getElem?_eq_some_iff.mp h).1
  | item h => exact (List.getElem?_eq_some_iff.mp h).1
/-- the thing from place i on is d and ends at e; m levels may be opened -/
inductive Leafs (a : List Nat) (i : Nat) : PyData → Nat → Prop
  | text {q p r} : a[i]? = some q → (q = 39 ∨ q = 34) → TL a q (i + 1) [] p r → (q == 34) = (decide (39 ∈ r) && !decide (34 ∈ r)) → Leafs a i (.str (S r)) (p + 1)
  | word {c d e} : a[i]? = some c → c ∉ [39, 34, 91, 40, 123] → WordTo a i e → WordIs ((a.drop i).take (e - i)) d → Leafs a i d e
/-- what the things say by their bracket -/
inductive Made (f : Nat) : List PyData → PyData → Prop
  | list {ds} : f = 91 → Made f ds (.list ds)
  | tuple {ds} : f = 40 → Made f ds (.tuple ds)
  | dict {kvs : List (Ky × PyData)} : f = 123 → (kvs.map (·.1)).Nodup → Made f (kvs.map fun kv => .tuple [kv.1.dat, kv.2]) (.dict (kvs.map fun kv => (kv.1.dat, kv.2)))
def Th (a : List Nat) : Nat → Nat → PyData → Nat → Prop
  | 0, i, d, e => Leafs a i d e
  | m + 1, i, d, e => Leafs a i d e ∨ ∃ f ds p, a[i]? = some f ∧ (f = 91 ∨ f = 40 ∨ f = 123) ∧ Ls (Th a m) a f 0 (i + 1) ds p ∧ (f = 40 → ds.length = 1 → a[p - 1]? = some 44) ∧
      a[p]? = some (closerOf f) ∧ e = p + 1 ∧ Made f ds d
end Mine
end
-- part C16
section
open PySem PySem.Spec PySem.Calls PyProof.Rows PySem.W
namespace Mine
/-- what a call that was lent the objects its came back with -/
structure GrowO (B : FMap) (its : Owns) (s : Shared) (B' : FMap) (O' : Owns) (s' : Shared) : Prop where
  sub : Sub B B'
  fz : ∀ b o, B' b = some o → s'.heap.get? b = some o
  low : ∀ b o, B' b = some o → b ≠ sysModules
  keep : Keep (hideAll s.heap (its.map (·.1))) s'.heap
  new : ∀ b o, B' b = some o → B b = some o ∨ (hideAll s.heap (its.map (·.1))).get? b = none
  own : ∀ q ∈ O', (∃ o, s'.heap.get? q.1 = some o ∧ q.2 o) ∧ B' q.1 = none ∧ (hideAll s.heap (its.map (·.1))).get? q.1 = none
  lowO : ∀ q ∈ O', q.1 ≠ sysModules
  apart : (O'.map (·.1)).Nodup
  gens : s'.gens = s.gens
  os : s'.os = s.os
  drawn : s'.drawn = s.drawn
  tk : 0 < s'.toks
section
variable {X : Fx} {B B' : FMap} {O O' its : Owns} {l l' : Locs} {s s' : Shared} {prog : Program} {w : World} {A : Around}
theorem St.growO (H : St X B (its ++ O) l s) (G : GrowO B its s B' O' s') : St X B' (O' ++ O) l s' := by
  have key : ∀ {b : Addr} {o : Obj}, s.heap.get? b = some o → b ∉ its.map (·.1) → s'.heap.get? b = some o := fun {b o} e hn => G.keep _ _ (hid_some e hn)
  have back : ∀ {b : Addr} {o o' : Obj}, s.heap.get? b = some o → b ∉ its.map (·.1) → B' b = some o' → B b = some o' := fun {b o o'} e hn hb => by
    rcases G.new _ _ hb with h1 | h1
    · exact h1
    · rw [hid_some e hn] at h1; cases h1
  have none0 : ∀ {b : Addr}, (hideAll s.heap (its.map (·.1))).get? b = none → X.h0.get? b = none := fun {b} h3 => by
    cases q : X.h0.get? b with
    | none => rfl
    | some o' => rw [hid_some (H.kept _ _ q) (H.noIt q)] at h3; cases h3
  obtain ⟨oL, hL⟩ := H.Lsome
  have hap := H.apart
  rw [List.map_append] at hap
  have hap3 := List.nodup_append.mp hap
  have hOn : ∀ q ∈ O, q.1 ∉ its.map (·.1) := fun q hq hm => hap3.2.2 q.1 hm q.1 (List.mem_map_of_mem hq) rfl
  refine { H with tk := G.tk, ns := H.ns.at' fun o e => key e H.noItL, kept := fun b o e => key (H.kept _ _ e) (H.noIt e), fz := G.fz, low := G.low, lowO := fun q hq => ?_, b0 := fun b o e => G.sub _ _ (H.b0 _ _ e), new := fun b o e => ?_, offL := ?_, own := fun q hq => ?_, apart := ?_, gens := G.gens.trans H.gens, os := G.os.trans H.os, drawn := G.drawn.trans H.drawn }
  · rcases List.mem_append.mp hq with hq | hq
    · exact G.lowO q hq
    · exact H.lowO q (List.mem_append_right _ hq)
  · rcases G.new _ _ e with h1 | h1
    · exact H.new _ _ h1
    · exact .inr (none0 h1)
  · cases q : B' X.env.locals with
    | none => rfl
    | some o => have := back hL H.noItL q; rw [H.offL] at this; cases this
  · rcases List.mem_append.mp hq with hq | hq
    · obtain ⟨h1, h2, h3⟩ := G.own q hq
      refine ⟨h1, fun e => ?_, h2, none0 h3⟩
      rw [e, hid_some hL H.noItL] at h3; cases h3
    · obtain ⟨⟨o, h1, h2⟩, h3, h4, h5⟩ := H.own q (List.mem_append_right _ hq)
      refine ⟨⟨o, key h1 (hOn q hq), h2⟩, h3, ?_, h5⟩
      cases e : B' q.1 with
      | none => rfl
      | some o' => have := back h1 (hOn q hq) e; rw [h4] at this; cases this
  · rw [List.map_append]
    refine List.nodup_append.mpr ⟨G.apart, hap3.2.1, fun a ha b hb e => ?_⟩
    obtain ⟨q, hq, rfl⟩ := List.mem_map.mp ha
    obtain ⟨r, hr, rfl⟩ := List.mem_map.mp hb
    obtain ⟨⟨o, h1, _⟩, _⟩ := H.own r (List.mem_append_right _ hr)
    have h3 := (G.own q hq).2.2
    rw [e, hid_some h1 (hOn r hr)] at h3; cases h3

/-- the lent objects as the callee finds them -/
structure Lent (B : FMap) (its : Owns) (s : Shared) : Prop where
  own : ∀ q ∈ its, (∃ o, s.heap.get? q.1 = some o ∧ q.2 o) ∧ B q.1 = none
  lowO : ∀ q ∈ its, q.1 ≠ sysModules
  apart : (its.map (·.1)).Nodup
theorem St.lent (H : St X B (its ++ O) l s) : Lent B its s where
  own := fun q hq => let ⟨h1, _, h3, _⟩ := H.own q (List.mem_append_left _ hq); ⟨h1, h3⟩
  lowO := fun q hq => H.lowO q (List.mem_append_left _ hq)
  apart := by
    have hap := H.apart
    rw [List.map_append] at hap
    exact (List.nodup_append.mp hap).1
theorem St.tpO (H : St X B (its ++ O) l s) : X.T.At (hideAll s.heap (its.map (·.1))) := Top.keeps H.top fun b o e => hid_some (H.kept _ _ e) (H.noIt e)
theorem lent_nil : Lent B [] s := ⟨fun _ h => (nomatch h), fun _ h => (nomatch h), List.nodup_nil⟩

/-- a call that is lent its -/
def SpO (prog : Program) (w : World) (d : DefRec) (A : Around) (vals : List Value) (B : FMap) (its : Owns) (s : Shared) (P : FMap → Owns → Value → Prop) : Prop :=
  0 < s.toks → ∀ f o pm code doc, s.heap.get? f = some o → o.data = .func (docDef d.name d.params d.body d.scope pm code doc) → s.heap.CodeRec code d.name →
    codeAny (model prog w) A (.call (.ref f) ⟨vals, []⟩) (fun r s' => ∃ v B' O', r = .ok (.ret v) ∧ GrowO B its s B' O' s' ∧ P B' O' v) s
theorem SpO.sp {d : DefRec} {vals : List Value} {P : FMap → Value → Prop} (h : SpO prog w d A vals B [] s (fun B _ v => P B v)) : Sp prog w d A vals B s P := fun htk f o pm code doc h1 h2 h3 =>
  codeAny_mono (h htk f o pm code doc h1 h2 h3) fun r s' hr => by
    obtain ⟨v, B', O', rfl, G, hp⟩ := hr
    exact ⟨v, B', rfl, ⟨G.sub, G.fz, G.low, G.keep, G.new, G.gens, G.os, G.drawn, G.tk⟩, hp⟩

theorem enter_cells {R : Result → Shared → Prop} {name : Str} {params : Arguments} {body : List Stmt} {scope : Scope} {pm cd doc : Value} {a : Addr} {o : Obj} {args : List Value} {binds : List (Str × Value)}
    (hroom : A.depth < recursionLimit) (ho : s.heap.get? a = some o) (hdata : o.data = .func (docDef name params body scope pm cd doc)) (hlim : s.heap.NoLimit) (hcd : s.heap.CodeRec cd name)
    (hbind : bindArgs (docDef name params body scope pm cd doc) ⟨args, []⟩ = pure binds)
    (hkind : ∀ x ∈ binds, scope.names.lookup x.1 = some .local ∨ (scope.names.lookup x.1 = some .cell ∧ ((cellsFrom (s.heap.objs.size + 1) scope.names []).lookup x.1).isSome = true))
    (h : ∀ h₁ tk, s.toks ≤ tk → Fr s.heap s.heap.objs.size h₁ (bindL (envOfC name scope s.heap.objs.size a cd).kindOf binds fun _ => none) →
      Cl s.heap.objs.size (cellsFrom (s.heap.objs.size + 1) scope.names []) h₁ (bindC (envOfC name scope s.heap.objs.size a cd).kindOf binds fun _ => none) →
      wpAny (model prog w) (A.deeper (envOfC name scope s.heap.objs.size a cd)) (execs body (envOfC name scope s.heap.objs.size a cd))
        (fun f s' => R (.ok (.ret (match f with | .ret v => v | _ => .none))) s') (fun _ _ => False) { s with heap := h₁, toks := tk })
    (hco : scope.isCoroutine = false := by rfl) (hgen : scope.isGenerator = false := by rfl) (hk : scope.kind = .function := by rfl) :
    codeAny (model prog w) A (.call (.ref a) ⟨args, []⟩) R s := by
  refine codeAny_call_function (fd := docDef name params body scope pm cd doc) hroom ho hdata hco hgen rfl hcd ?_
  rw [hbind, show (docDef name params body scope pm cd doc).closure = [] from rfl]
  refine wpAny_pure (any_toks (wpAny_newFunctionEnv_cells hk hkind fun env he s₁ X hle => ?_))
  subst he
  refine ⟨hlim.keeps X.toInCall.keep, codeAny_func ?_⟩
  obtain ⟨h₁, tk, rfl, _⟩ := X.done
  exact wpAny_mono (h h₁ tk hle ⟨X.toInCall.ns, X.toInCall.keep, X.toInCall.fresh⟩ ⟨X.cell, X.apart, X.above⟩) (fun _ _ x => x) (fun _ _ x => x.elim)


/-- a cell's object -/
def CellIs (v : Option Value) (o : Obj) : Prop := o.data = .cell v
/-- how a frame stands that may have cells and lent objects -/
structure FrmG (X : Fx) (T : Tp) (s : Shared) (B : FMap) (its : Owns) (cl : List (Str × Addr)) (d : DefRec) : Prop where
  scope : X.env.scope = d.scope
  cells : X.env.cells = cl
  T : X.T = T
  h0 : X.h0 = hideAll s.heap (its.map (·.1))
  B0 : X.B0 = B
  gens : X.gens = s.gens
  os : X.os = s.os
  drawn : X.drawn = s.drawn

theorem bindL_locals {kf : Str → Option NameKind} : ∀ {lb : List (Str × Value)} {m : Str → Option Value}, (∀ b ∈ lb, kf b.1 = some .local) → bindL kf lb m = fun x => (lb.reverse.lookup x).or (m x)
  | [], m, _ => by funext x; simp [bindL]
  | (n, v) :: r, m, h => by
    unfold bindL
    rw [if_pos (h (n, v) (.head _)), bindL_locals fun b hb => h b (.tail _ hb)]
    funext x
    rw [List.reverse_cons, List.lookup_append]
    cases r.reverse.lookup x with
    | some y => rfl
    | none =>
      by_cases hx : x = n
      · subst hx; simp [List.lookup]
      · have : (x == n) = false := beq_eq_false_iff_ne.mpr hx
        simp [List.lookup, this, hx]
theorem bindL_append {kf : Str → Option NameKind} : ∀ {a b : List (Str × Value)} {m : Str → Option Value}, bindL kf (a ++ b) m = bindL kf b (bindL kf a m)
  | [], _, _ => rfl
  | (n, v) :: r, b, m => by show bindL kf (r ++ b) _ = _; rw [bindL_append]; rfl
theorem bindC_append {kf : Str → Option NameKind} : ∀ {a b : List (Str × Value)} {m : Str → Option Value}, bindC kf (a ++ b) m = bindC kf b (bindC kf a m)
  | [], _, _ => rfl
  | (n, v) :: r, b, m => by show bindC kf (r ++ b) _ = _; rw [bindC_append]; rfl
theorem bindL_none {kf : Str → Option NameKind} : ∀ {b : List (Str × Value)} {m : Str → Option Value}, (∀ x ∈ b, kf x.1 ≠ some .local) → bindL kf b m = m
  | [], _, _ => rfl
  | (n, v) :: r, m, h => by unfold bindL; rw [if_neg (h (n, v) (.head _))]; exact bindL_none fun x hx => h x (.tail _ hx)
theorem bindC_none {kf : Str → Option NameKind} : ∀ {b : List (Str × Value)} {m : Str → Option Value}, (∀ x ∈ b, kf x.1 = some .local) → bindC kf b m = m
  | [], _, _ => rfl
  | (n, v) :: r, m, h => by unfold bindC; rw [if_pos (h (n, v) (.head _))]; exact bindC_none fun x hx => h x (.tail _ hx)
theorem bindC_cells {kf : Str → Option NameKind} : ∀ {lb : List (Str × Value)} {m : Str → Option Value}, (∀ b ∈ lb, kf b.1 ≠ some .local) → bindC kf lb m = fun x => (lb.reverse.lookup x).or (m x)
  | [], m, _ => by funext x; simp [bindC]
  | (n, v) :: r, m, h => by
    unfold bindC
    rw [if_neg (h (n, v) (.head _)), bindC_cells fun b hb => h b (.tail _ hb)]
    funext x
    rw [List.reverse_cons, List.lookup_append]
    cases r.reverse.lookup x with
    | some y => rfl
    | none =>
      by_cases hx : x = n
      · subst hx; simp [List.lookup]
      · have : (x == n) = false := beq_eq_false_iff_ne.mpr hx
        simp [List.lookup, this, hx]
theorem cellsFrom_fst : ∀ (names : List (Str × NameKind)) (n m : Nat) (a b : List (Str × Addr)), a.map (·.1) = b.map (·.1) → (cellsFrom n names a).map (·.1) = (cellsFrom m names b).map (·.1)
  | [], _, _, _, _, h => h
  | (x, k) :: r, n, m, a, b, h => by
    unfold cellsFrom
    split
    · exact cellsFrom_fst r _ _ _ _ (by simp [h])
    · exact cellsFrom_fst r _ _ _ _ h
theorem lookup_nodup : ∀ {cl : List (Str × Addr)}, (cl.map (·.1)).Nodup → ∀ {p}, p ∈ cl → cl.lookup p.1 = some p.2
  | (x, c) :: r, h, p, hp => by
    rw [List.map_cons, List.nodup_cons] at h
    rcases List.mem_cons.mp hp with rfl | hp
    · simp [List.lookup]
    · have : (p.1 == x) = false := beq_eq_false_iff_ne.mpr fun e => h.1 (by rw [← e]; exact List.mem_map_of_mem (f := (·.1)) hp)
      simp [List.lookup, this]; exact lookup_nodup h.2 hp

theorem enterG {d : DefRec} {k : Nat} (R : Rm A (k + 1)) {T : Tp} (hT : T.At (hideAll s.heap (its.map (·.1)))) (hB : Fz B s.heap) (hL : Lent B its s) {vals : List Value} {P : FMap → Owns → Value → Prop} (lb cb : List (Str × Value)) (ns cn : List Str)
    (hbind : ∀ pm cd doc, bindArgs (docDef d.name d.params d.body d.scope pm cd doc) ⟨vals, []⟩ = pure (lb ++ cb))
    (hloc : ((lb.map (·.1) ++ ns).all fun x => decide (d.scope.names.lookup x = some .local ∧ (x == ("__debug__" : Str)) = false)) = true) (hnd : (lb.map (·.1) ++ ns).Nodup)
    (hcel : ((cb.map (·.1)).all fun x => decide (d.scope.names.lookup x = some .cell ∧ ((cellsFrom 0 d.scope.names []).lookup x).isSome = true)) = true)
    (hcn : (cellsFrom 0 d.scope.names []).map (·.1) = cn) (hcnd : cn.Nodup)
    (hco : d.scope.isCoroutine = false) (hgen : d.scope.isGenerator = false) (hk : d.scope.kind = .function)
    (h : ∀ X A' cl (Q : Flow → Shared → Prop) s', FrmG X T s B its cl d → cl.map (·.1) = cn → St X B (cl.map (fun p => (p.2, CellIs (cb.reverse.lookup p.1))) ++ its) (lb.map (fun b => (b.1, some b.2)) ++ ns.map fun n => (n, none)) s' → Rm A' k →
      (∀ {v B' O l s''}, St X B' O l s'' → P B' O v → Q (.ret v) s'') → (∀ {B' O l s''}, St X B' O l s'' → P B' O .none → Q .next s'') → wpAny (model prog w) A' (execs d.body X.env) Q (fun _ _ => False) s') :
    SpO prog w d A vals B its s P := by
  intro htk f o pm code doc ho hd hcd
  have hall := List.all_eq_true.mp hloc
  have hcall := List.all_eq_true.mp hcel
  have hlb : ∀ b ∈ lb, d.scope.names.lookup b.1 = some .local := fun b hb => (of_decide_eq_true (hall _ (List.mem_append_left _ (List.mem_map_of_mem hb)))).1
  have hcb : ∀ b ∈ cb, d.scope.names.lookup b.1 = some .cell := fun b hb => (of_decide_eq_true (hcall _ (List.mem_map_of_mem hb))).1
  have hcb' : ∀ b ∈ cb, d.scope.names.lookup b.1 ≠ some .local := fun b hb e => by rw [hcb b hb] at e; cases e
  have hndb : (lb.map (·.1)).Nodup := (List.nodup_append.mp hnd).1
  have hfst : ∀ n, (cellsFrom n d.scope.names []).map (·.1) = cn := fun n => (cellsFrom_fst _ _ _ _ _ rfl).trans hcn
  have hlim : s.heap.NoLimit := Heap.NoLimit.keeps (Top.nolimit hT) fun b o e => of_hideAll _ e
  refine enter_cells R.room ho hd hlim hcd (hbind pm code doc) (fun x hx => ?_) (fun h₁ tk htle F C => ?_) hco hgen hk
  · rcases List.mem_append.mp hx with hx | hx
    · exact .inl (hlb x hx)
    · refine .inr ⟨hcb x hx, ?_⟩
      have h1 := (of_decide_eq_true (hcall _ (List.mem_map_of_mem hx))).2
      have h2 : x.1 ∈ (cellsFrom 0 d.scope.names []).map (·.1) := by
        obtain ⟨c, hc⟩ := Option.isSome_iff_exists.mp h1
        exact List.mem_map_of_mem (f := (·.1)) (mem_of_lookup hc)
      rw [hcn, ← hfst (s.heap.objs.size + 1)] at h2
      obtain ⟨p, hp, e⟩ := List.mem_map.mp h2
      rw [← e, lookup_nodup (by rw [hfst]; exact hcnd) hp]; rfl
  let cl := cellsFrom (s.heap.objs.size + 1) d.scope.names []
  have hcl : cl.map (·.1) = cn := hfst _
  have hkf : ∀ x, (envOfC d.name d.scope s.heap.objs.size f code).kindOf x = d.scope.names.lookup x := fun _ => rfl
  have hcm : bindC (envOfC d.name d.scope s.heap.objs.size f code).kindOf (lb ++ cb) (fun _ => none) = fun x => cb.reverse.lookup x := by
    rw [bindC_append, bindC_none (fun b hb => hlb b hb), bindC_cells (fun b hb => hcb' b hb)]
    funext x; simp
  have hlm : bindL (envOfC d.name d.scope s.heap.objs.size f code).kindOf (lb ++ cb) (fun _ => none) = fun x => lb.reverse.lookup x := by
    rw [bindL_append, bindL_none (b := cb) (fun b hb => hcb' b hb), bindL_locals (fun b hb => hlb b hb)]
    funext x; simp
  rw [hcm] at C
  rw [hlm] at F
  let X : Fx := { p := T.p, loose := T.loose, mean := T.mean, mg := T.mg, mb := T.mb, env := envOfC d.name d.scope s.heap.objs.size f code, h0 := hideAll s.heap (its.map (·.1)), B0 := B, gens := s.gens, os := s.os, drawn := s.drawn }
  have keys : (lb.map (fun b => (b.1, some b.2)) ++ ns.map fun n => (n, (none : Option Value))).map (·.1) = lb.map (·.1) ++ ns := by simp [Function.comp_def]
  have hN : ∀ {b : Addr}, s.heap.objs.size ≤ b → s.heap.get? b = none := fun e => none_of_le e
  have hNh : ∀ {b : Addr}, s.heap.objs.size ≤ b → (hideAll s.heap (its.map (·.1))).get? b = none := fun {b} e => by
    cases q : (hideAll s.heap (its.map (·.1))).get? b with
    | none => rfl
    | some o => have := of_hideAll _ q; rw [hN e] at this; cases this
  have hBN : ∀ {b : Addr}, s.heap.objs.size ≤ b → B b = none := fun {b} e => by
    cases q : B b with
    | none => rfl
    | some o' => exact absurd (Heap.lt_size (hB.fz _ _ q)) (Nat.not_lt.mpr e)
  have hab : ∀ p ∈ cl, s.heap.objs.size < p.2 := fun p hp => C.above p.1 p.2 hp
  have hsysm : sysModules < s.heap.objs.size := modules_low hlim
  have hst : St X B (cl.map (fun p => (p.2, CellIs (cb.reverse.lookup p.1))) ++ its) (lb.map (fun b => (b.1, some b.2)) ++ ns.map fun n => (n, none)) { s with heap := h₁, toks := tk } := by
    refine { ns := ?_, nd := by rw [keys]; exact hnd, kind := fun x hx => ?_, fn := hk, gl := rfl, bl := rfl, top := hT, kept := fun b o e => F.keep _ _ (of_hideAll _ e), offh := hNh (Nat.le_refl _), fz := fun b o e => F.keep _ _ (hB.fz _ _ e), low := hB.low, lowO := fun q hq => ?_, b0 := Sub.refl _, new := fun b o e => .inl e, offL := hBN (Nat.le_refl _), own := fun q hq => ?_, apart := ?_, gens := rfl, os := rfl, drawn := rfl, tk := Nat.lt_of_lt_of_le htk htle }
    · have e : mOf (lb.map (fun b => (b.1, some b.2)) ++ ns.map fun n => (n, none)) = fun x => lb.reverse.lookup x := by
        funext x
        rw [mOf_binds, mOf_none, lookup_rev hndb]
        cases lb.lookup x <;> rfl
      rw [e]; exact F.ns
    · rw [keys] at hx
      exact of_decide_eq_true (hall _ hx)
    · rcases List.mem_append.mp hq with hq | hq
      · obtain ⟨p, hp, rfl⟩ := List.mem_map.mp hq
        exact Nat.ne_of_gt (Nat.lt_trans hsysm (hab p hp))
      · exact hL.lowO q hq
    · rcases List.mem_append.mp hq with hq | hq
      · obtain ⟨p, hp, rfl⟩ := List.mem_map.mp hq
        have hlt := hab p hp
        refine ⟨C.cell p.1 p.2 (lookup_nodup (by rw [hcl]; exact hcnd) hp), Nat.ne_of_gt hlt, hBN (Nat.le_of_lt hlt), hNh (Nat.le_of_lt hlt)⟩
      · obtain ⟨⟨o', h1, h2⟩, h3⟩ := hL.own q hq
        exact ⟨⟨o', F.keep _ _ h1, h2⟩, Nat.ne_of_lt (Heap.lt_size h1), h3, hideAll_none _ (List.mem_map_of_mem hq)⟩
    · rw [List.map_append]
      refine List.nodup_append.mpr ⟨?_, hL.apart, fun a ha b hb e => ?_⟩
      · have hp := C.apart
        rw [List.map_map]
        exact List.pairwise_map.mpr hp
      · obtain ⟨p, hp, rfl⟩ := List.mem_map.mp ha
        obtain ⟨p', hp', rfl⟩ := List.mem_map.mp hp
        obtain ⟨q, hq, rfl⟩ := List.mem_map.mp hb
        obtain ⟨⟨o', h1, _⟩, _⟩ := hL.own q hq
        have h4 := Heap.lt_size h1
        rw [← e] at h4
        exact Nat.lt_irrefl _ (Nat.lt_trans h4 (hab p' hp'))
  have hfr : FrmG X T s B its cl d := ⟨rfl, rfl, rfl, rfl, rfl, rfl, rfl, rfl⟩
  have hgo : ∀ {B' : FMap} {O : Owns} {l : Locs} {s'' : Shared}, St X B' O l s'' → GrowO B its s B' O s'' := fun H => ⟨H.b0, H.fz, H.low, H.kept, H.new, fun q hq => let ⟨h1, _, h3, h4⟩ := H.own q hq; ⟨h1, h3, h4⟩, H.lowO, H.apart, H.gens, H.os, H.drawn, H.tk⟩
  refine wpAny_mono (h X _ cl (fun fl s'' => ∃ v B' O', (match fl with | .ret v => v | _ => .none) = v ∧ GrowO B its s B' O' s'' ∧ P B' O' v) _ hfr hcl hst (R.deeper _) (fun H hp => ⟨_, _, _, rfl, hgo H, hp⟩) (fun H hp => ⟨_, _, _, rfl, hgo H, hp⟩)) (fun fl s'' hq => ?_) fun _ _ x => x
  obtain ⟨v, B', O', hv, hg, hp⟩ := hq
  exact ⟨v, B', O', by subst hv; cases fl <;> rfl, hg, hp⟩
end
end Mine
end
-- part C17
section
open PySem PySem.Spec PySem.Calls PyProof.Rows PySem.W
namespace Mine
section
variable {X : Fx} {B B' : FMap} {O O' its : Owns} {l l' : Locs} {s s' : Shared} {prog : Program} {w : World} {A : Around} {E : Value → Shared → Prop} {Q : Value → Shared → Prop} {env : Env}

/-- a name that is captured: its cell is frozen -/
theorem w_cellF {x : Str} {pos : Pos} {v : Value} {c : Addr} {o : Obj} (H : St X B O l s) (hk : X.env.kindOf x = some .cell) (hc : X.env.cells.lookup x = some c) (hb : B c = some o) (ho : CellIs (some v) o) (h : Q v s) (hd : (x == ("__debug__" : Str)) = false := by decide) :
    wpAny (model prog w) A (eval (.Name x pos) X.env) Q E s := wpAny_Name (wpAny_loadName_cell H.fn hk hc ⟨o, H.fz _ _ hb, ho⟩ h) hd
/-- a name that is captured: its cell is owned -/
theorem w_cellO {x : Str} {pos : Pos} {v : Value} {c : Addr} (H : St X B O l s) (hk : X.env.kindOf x = some .cell) (hc : X.env.cells.lookup x = some c) (ho : OPop O c (CellIs (some v)) O') (h : Q v s) (hd : (x == ("__debug__" : Str)) = false := by decide) :
    wpAny (model prog w) A (eval (.Name x pos) X.env) Q E s :=
  let ⟨o, h1, h2⟩ := H.ownAt ho
  wpAny_Name (wpAny_loadName_cell H.fn hk hc ⟨o, h1, h2⟩ h) hd
/-- a name that is captured: its cell stands since before the frame -/
theorem w_cellK {x : Str} {pos : Pos} {v : Value} {c : Addr} {o : Obj} (H : St X B O l s) (hk : X.env.kindOf x = some .cell) (hc : X.env.cells.lookup x = some c) (hb : X.h0.get? c = some o) (ho : CellIs (some v) o) (h : Q v s) (hd : (x == ("__debug__" : Str)) = false := by decide) :
    wpAny (model prog w) A (eval (.Name x pos) X.env) Q E s := wpAny_Name (wpAny_loadName_cell H.fn hk hc ⟨o, H.kept _ _ hb, ho⟩ h) hd
theorem s_cell {x : Str} {v : Value} {v₀ : Option Value} {c : Addr} {Q : Unit → Shared → Prop} (H : St X B O l s) (hk : X.env.kindOf x = some .cell) (hc : X.env.cells.lookup x = some c) (ho : OPut O c (CellIs v₀) (CellIs (some v)) O') (h : ∀ s', St X B O' l s' → Q () s') :
    wpAny (model prog w) A (storeName X.env x v) Q E s := by
  obtain ⟨O₁, O₂, rfl, rfl⟩ := ho.split
  obtain ⟨o, h1, h2⟩ := (H.own (c, CellIs v₀) (by simp)).1
  refine wpAny_storeName_cell H.fn hk hc ⟨o, h1, h2⟩ fun h' hv hs => ?_
  obtain ⟨o', h3, h4⟩ := hv
  exact h _ (H.turn rfl (n := s.toks) (fun b o hb e => (hs.2 b hb).trans e) h3 h4)
theorem StoreTo.cell {B : FMap} {l : Locs} {y : Str} {v : Value} {v₀ : Option Value} {c : Addr} (hk : X.env.kindOf y = some .cell) (hc : X.env.cells.lookup y = some c) (ho : OPut O c (CellIs v₀) (CellIs (some v)) O') : StoreTo prog w A X B O l y v O' l :=
  fun _ _ _ _ H h => s_cell H hk hc (.there ho) h

/-- the cells that an inner block takes along -/
def clos (cells : List (Str × Addr)) : List (Str × NameKind) → List (Str × Addr) → Option (List (Str × Addr))
  | [], acc => some acc
  | (n, k) :: r, acc => if k == .free then (cells.lookup n).bind fun c => clos cells r ((n, c) :: acc) else clos cells r acc
theorem closureFor_of {scope : Scope} {env : Env} {cl : List (Str × Addr)} (h : clos env.cells scope.names [] = some cl) : closureFor scope env = pure cl := by
  have key : ∀ (names : List (Str × NameKind)) (acc : List (Str × Addr)), clos env.cells names acc = some cl →
      (forIn names acc fun (x : Str × NameKind) (cs : List (Str × Addr)) => match x with
        | (name, kind) => (if (kind == NameKind.free) = true then do let c ← cellOf env name; pure (ForInStep.yield ((name, c) :: cs)) else pure (ForInStep.yield cs) : Sem (ForInStep (List (Str × Addr))))) = (pure cl : Sem (List (Str × Addr))) := by
    intro names
    induction names with
    | nil => intro acc h; cases h; rfl
    | cons p r ih =>
      intro acc h
      obtain ⟨n, k⟩ := p
      rw [List.forIn_cons]
      unfold clos at h
      by_cases hk : (k == NameKind.free) = true
      · rw [if_pos hk] at h
        simp only [hk, if_true]
        cases hl : env.cells.lookup n with
        | none => rw [hl] at h; cases h
        | some c =>
          rw [hl] at h
          have : cellOf env n = pure c := by unfold cellOf; rw [hl]
          rw [this]
          exact ih _ h
      · rw [if_neg hk] at h
        simp only [hk, Bool.false_eq_true, if_false]
        exact ih _ h
  have := key scope.names [] h
  show (forIn scope.names [] _ >>= fun cs => pure cs) = _
  refine Eq.trans (congrArg (· >>= fun cs => pure cs) this) rfl
theorem relabel_free {env : Env} (hf : env.scope.kind = .function) : ∀ {names : List (Str × NameKind)} {x : Str}, env.kindOf x = some .cell → names.lookup x = some .free →
    (names.map fun (n, k) => if (k == NameKind.free && env.scope.kind == .function && env.kindOf n == some .cell) then (n, NameKind.cell) else (n, k)).lookup x = some .cell
  | [], _, _, h => by simp at h
  | (n, k') :: r, x, hx, h => by
    have ih := @relabel_free env hf r x hx
    show List.lookup x ((if (k' == NameKind.free && env.scope.kind == .function && env.kindOf n == some .cell) = true then (n, NameKind.cell) else (n, k')) :: _) = _
    cases hn : x == n with
    | true =>
      simp only [List.lookup_cons, hn] at h
      cases h
      have e : x = n := eq_of_beq hn
      subst e
      simp [List.lookup_cons, hf, hx]
    | false =>
      simp only [List.lookup_cons, hn] at h
      by_cases hc : (k' == NameKind.free && env.scope.kind == .function && env.kindOf n == some .cell) = true
      · rw [if_pos hc]; simp only [List.lookup_cons, hn]; exact ih h
      · rw [if_neg hc]; simp only [List.lookup_cons, hn]; exact ih h
theorem kindOf_cff {X' : Fx} {scope : Scope} {cl : List (Str × Addr)} {x : Str} (C : Cf X' X scope cl O) (H : St X B O' l s) (h : scope.names.lookup x = some .free) (hk : X.env.kindOf x = some .cell) : X'.env.kindOf x = some .cell := by
  unfold Env.kindOf
  rw [C.scope]
  exact relabel_free H.fn hk h
theorem kindOf_frmG {T : Tp} {d : DefRec} {s₀ : Shared} {B₀ : FMap} {cl : List (Str × Addr)} {x : Str} {k : NameKind} (F : FrmG X T s₀ B₀ its cl d) (h : d.scope.names.lookup x = some k) : X.env.kindOf x = some k := by
  unfold Env.kindOf; rw [F.scope]; exact h
theorem FrmG.pg {T : Tp} {d : DefRec} {s₀ : Shared} {B₀ : FMap} {cl : List (Str × Addr)} (F : FrmG X T s₀ B₀ its cl d) : Pg X T.p T.loose := ⟨congrArg Tp.p F.T, congrArg Tp.loose F.T⟩

/-- f(e, ..) of a def of the text that is lent objects -/
theorem e_callO {d : DefRec} {n : Str} {e : Expr} {rest : List Expr} {np pos : Pos} (H : St X B O l s) (hx : X.env.kindOf n = some .globalImplicit) (hd : (recsOf X.p).find? (fun r => r.name == n) = some d)
    (h : wpAny (model prog w) A (spliced (backTo pos (starEach (e :: rest) X.env))) (fun vs s₁ => ∃ B₁ its O₁ l₁ P, St X B₁ (its ++ O₁) l₁ s₁ ∧ SpO prog w d A vs B₁ its s₁ P ∧ ∀ v B₂ O₂ s₂, Sub B₁ B₂ → P B₂ O₂ v → St X B₂ (O₂ ++ O₁) l₁ s₂ → Q v s₂) E s)
    (hdb : (n == ("__debug__" : Str)) = false := by decide)
    (he : starEach (e :: rest) X.env = (false, eval e X.env) :: starEach rest X.env := by rfl) :
    wpAny (model prog w) A (eval (.Call (.Name n np) (e :: rest) [] pos) X.env) Q E s := by
  refine Call_ ?_
  have hmem := List.mem_of_find?_eq_some hd
  have hname : d.name = n := by have := List.find?_some hd; exact eq_of_beq this
  obtain ⟨f, o, pm, code, doc, h1, h2, h3, h4⟩ := H.top.fn d hmem
  refine w_glob H hx (hname ▸ h1) ?_ hdb
  refine callWith_def h3 (wpAny_mono h (fun vs s₁ hq => ?_) fun _ _ x => x) he
  obtain ⟨B₁, its, O₁, l₁, P, H₁, hsp, hQ⟩ := hq
  refine ⟨H₁.kept _ _ h2, wpAny_call (codeAny_mono (hsp H₁.tk f o pm code doc (H₁.kept _ _ h2) h3 (h4.keeps H₁.kept)) fun r s₂ hr => ?_)⟩
  obtain ⟨v, B₂, O₂, rfl, hg, hp⟩ := hr
  exact hQ v B₂ O₂ s₂ hg.sub hp (H₁.growO hg)

/-- the keys of a frozen table -/
def keyIt (d : Addr) (n ep i : Nat) (o : Obj) : Prop := o.cls = .type "dict_keyiterator" ∧ o.data = .fields #[.ref d, .int i 0, .int n 0, .int ep 0]
theorem it_keys {K : Type} [DecidableEq K] {knd : PySem.KeyKind prog w K} (hh : A.handled = none) {target : Expr} (hgo : Takes target plainIters) (H : St X B O l s) {d : Addr} {kvs : List (K × Value)} (hd : BD knd B d kvs) :
    Iterates prog w A target X B O l s (.ref d) kvs.length fun _ i v => ∃ kv, kvs[i]? = some kv ∧ knd.is kv.1 v = true := fun Q E h => by
  obtain ⟨ep, hat⟩ := (hd.at H).dictAt
  obtain ⟨hsys, o, hB, _⟩ := hd
  obtain ⟨o', es, ho', hr⟩ := id hat
  have : o' = o := by rw [H.fz _ _ hB] at ho'; cases ho'; rfl
  subst this
  refine wpAny_pyIter_dict hsys hat ?_
  refine h s.heap.objs.size (fun i => [(s.heap.objs.size, keyIt d kvs.length ep i)]) (fun B => ∃ o es, B d = some o ∧ o.ExactDict ∧ o.data = .dict es ep ∧ KeysOf knd es ∧ Pairs knd es.toList kvs ∧ (kvs.map (·.1)).Nodup) _ ?_ ⟨_, es, hB, hr⟩ (H.pushO (n := s.toks) rfl ⟨rfl, rfl⟩)
  refine ⟨fun B B' hs ⟨o, es, h1, r⟩ => ⟨o, es, hs _ _ h1, r⟩, fun {X B O l s} i Q E _ H hQ => ?_, fun {X B O l s} i Q E hi ⟨o, es, hB, hr⟩ H hQ => ?_, fun {X B O l s} Q E ⟨o, es, hB, hr⟩ H hQ => ?_⟩
  · obtain ⟨⟨oi, hoi, hti⟩, _⟩ := H.own _ (.head _)
    exact wpAny_pyIter_keyiter ⟨oi, hoi, hti⟩ hQ
  · obtain ⟨⟨oi, hoi, hti⟩, _⟩ := H.own _ (.head _)
    refine wpAny_pyNext_dict_item (k := kvs[i].1) (v := kvs[i].2) ⟨oi, hoi, hti⟩ ⟨o, es, H.fz _ _ hB, hr⟩ (by simp [hi]) fun key h' hk hit hs => ?_
    obtain ⟨o'', ho'', ht''⟩ := hit
    refine hQ _ _ fun Q' E' h => hgo _ _ _ _ _ _ _ _ _ _ _ (by decide) ho'' ht''.1 ht''.2 ?_
    exact h B _ (Sub.refl _) ⟨kvs[i], by simp [hi], hk⟩ (H.turn (O₁ := []) rfl (n := s.toks) (fun b o hb e => hs.extBut b o hb e) ho'' ht'')
  · obtain ⟨⟨oi, hoi, hti⟩, _⟩ := H.own _ (.head _)
    refine wpAny_pyNext_dict_end hh ⟨oi, hoi, hti⟩ ⟨o, es, H.fz _ _ hB, hr⟩ (by simp) fun h' he => ?_
    exact hQ _ (H.let1 (n := s.toks) he)

/-- the steps of a range -/
def rangeIt (a n c : Int) (i : Nat) (o : Obj) : Prop := o = { cls := .type "range_iterator", dict := none, data := .fields #[rawInt (a + i * c), rawInt (n - i), rawInt c], slots := #[] }
theorem it_range (hh : A.handled = none) {target : Expr} (hgo : Takes target plainIters) (H : St X B O l s) {r : Addr} {a b c : Int} {t u v : Tok} {n : Nat} (hr : B r = some { cls := .type "range", data := .fields #[.int a t, .int b u, .int c v] })
    (hsm : Builtin.Range.small a b c = true) (hn : Builtin.Range.rangeSize a b c = n) :
    Iterates prog w A target X B O l s (.ref r) n fun _ i v => ∃ t, v = .int (a + i * c) t := fun Q E h => by
  refine wpAny_pyIter_range (H.fz _ _ hr) hsm ?_
  refine h s.heap.objs.size (fun i => [(s.heap.objs.size, rangeIt a n c i)]) (fun _ => True) _ ?_ trivial (H.pushO (n := s.toks) rfl (by unfold rangeIt; rw [hn]; simp))
  refine ⟨fun _ _ _ h => h, fun {X B O l s} i Q E _ H hQ => ?_, fun {X B O l s} i Q E hi _ H hQ => ?_, fun {X B O l s} Q E _ H hQ => ?_⟩
  · obtain ⟨⟨oi, hoi, hti⟩, _⟩ := H.own _ (.head _)
    exact wpAny_pyIter_rangeiter (hti ▸ hoi) hQ
  · obtain ⟨⟨oi, hoi, hti⟩, _⟩ := H.own _ (.head _)
    refine wpAny_pyNext_range_item (hti ▸ hoi) (by omega) fun h' hit hs => ?_
    refine hQ _ _ fun Q' E' h => hgo _ _ _ _ _ _ _ _ _ _ _ (by decide) hit rfl rfl ?_
    exact h B _ (Sub.refl _) ⟨_, rfl⟩ (H.turn (O₁ := []) rfl (n := s.toks + 1) (fun b o hb e => hs.extBut b o hb e) hit (by
      unfold rangeIt
      rw [show (a + (i : Int) * c + c) = a + ((i + 1 : Nat) : Int) * c by rw [Int.natCast_add, Int.add_mul]; simp; omega, show ((n : Int) - i - 1) = (n : Int) - ((i + 1 : Nat) : Int) by omega]))
  · obtain ⟨⟨oi, hoi, hti⟩, _⟩ := H.own _ (.head _)
    exact wpAny_pyNext_range_end hh (hti ▸ hoi) (by omega) fun h' he => hQ _ (H.let1 (n := s.toks) he)

/-- kinds that isinstance is asked for -/
inductive Ty where | bool | dict | list | tuple | str | int
@[reducible] def Ty.name : Ty → String | .bool => "bool" | .dict => "dict" | .list => "list" | .tuple => "tuple" | .str => "str" | .int => "int"
def Ty.of : Ty → PyData → Bool
  | .bool, .bool _ => true
  | .int, .bool _ => true
  | .int, .int _ => true
  | .dict, .dict _ => true
  | .list, .list _ => true
  | .tuple, .tuple _ => true
  | .str, .str _ => true
  | _, _ => false
theorem e_isi (T : Ty) {v : Value} {d : PyData} (H : St X B O l s) (h : Rd prog w B v d) (k : ∀ s', St X B O l s' → Q (.bool (T.of d)) s') : wpAny (model prog w) A (call (.builtin "isinstance") [v, .type T.name]) Q E s := by
  have k1 := k _ H
  have k2 := k _ (H.tok (n := s.toks + 1))
  cases h with
  | none => cases T <;> first | exact IsiPair.NoneType_bool k2 | exact IsiPair.NoneType_dict k2 | exact IsiPair.NoneType_list k2 | exact IsiPair.NoneType_tuple k2 | exact IsiPair.NoneType_str k2 | exact IsiPair.NoneType_int k2
  | bool b => cases T <;> first | exact IsiPair.bool_bool k1 | exact IsiPair.bool_dict k2 | exact IsiPair.bool_list k2 | exact IsiPair.bool_tuple k2 | exact IsiPair.bool_str k2 | exact IsiPair.bool_int k1
  | int i t => cases T <;> first | exact IsiPair.int_bool k2 | exact IsiPair.int_dict k2 | exact IsiPair.int_list k2 | exact IsiPair.int_tuple k2 | exact IsiPair.int_str k2 | exact IsiPair.int_int k1
  | str x t => cases T <;> first | exact IsiPair.str_bool k2 | exact IsiPair.str_dict k2 | exact IsiPair.str_list k2 | exact IsiPair.str_tuple k2 | exact IsiPair.str_str k1 | exact IsiPair.str_int k2
  | list h1 h2 h3 h4 =>
    have h1 := H.fz _ _ h1
    cases T <;> first | exact IsiPair.list_bool h1 h2 k2 | exact IsiPair.list_dict h1 h2 k2 | exact IsiPair.list_list h1 h2 k1 | exact IsiPair.list_tuple h1 h2 k2 | exact IsiPair.list_str h1 h2 k2 | exact IsiPair.list_int h1 h2 k2
  | tuple h1 h2 h3 h4 =>
    have h1 := H.fz _ _ h1
    cases T <;> first | exact IsiPair.tuple_bool h1 h2 k2 | exact IsiPair.tuple_dict h1 h2 k2 | exact IsiPair.tuple_list h1 h2 k2 | exact IsiPair.tuple_tuple h1 h2 k1 | exact IsiPair.tuple_str h1 h2 k2 | exact IsiPair.tuple_int h1 h2 k2
  | dict hd h2 h3 =>
    obtain ⟨_, o, ho, es, ep, h5, h6⟩ := hd
    have h1 := H.fz _ _ ho
    have h2 := h5.1
    cases T <;> first | exact IsiPair.dict_bool h1 h2 k2 | exact IsiPair.dict_dict h1 h2 k1 | exact IsiPair.dict_list h1 h2 k2 | exact IsiPair.dict_tuple h1 h2 k2 | exact IsiPair.dict_str h1 h2 k2 | exact IsiPair.dict_int h1 h2 k2

/-- list + list, both frozen -/
theorem e_addF {a b : Addr} {vs ws : List Value} {n m : Nat} (H : St X B O l s) (ha : B a = some { cls := .type "list", data := .seq vs.toArray n }) (hb : B b = some { cls := .type "list", data := .seq ws.toArray m }) (hz : vs.length + ws.length ≤ sizeLine)
    (h : ∀ c B' s', Sub B B' → B' c = some { cls := .type "list", data := .seq (vs ++ ws).toArray } → St X B' O l s' → Q (.ref c) s') : wpAny (model prog w) A (binaryOp .Add (.ref a) (.ref b)) Q E s := by
  obtain ⟨B', h1, h2, H'⟩ := H.push (o := { cls := .type "list", data := .seq (vs ++ ws).toArray }) rfl (n := s.toks)
  refine PySem.P.add_list (H.fz _ _ ha) (H.fz _ _ hb) ?_ (by simpa using hz)
  rw [List.append_toArray]
  exact h _ B' _ h1 h2 H'
end
end Mine
end
-- part P4
section
open PySem PySem.Spec PySem.Calls PyProof.Rows PySem.W
namespace Mine
def t_table : List Nat := [116, 97, 98, 108, 101]
def t_list : List Nat := [108, 105, 115, 116]
def t_tuple : List Nat := [116, 117, 112, 108, 101]
mutual
/-- what _law_told tells of a thing -/
def toldOf : PyData → PyData
  | .dict kvs => .list (.str (S t_table) :: toldKvs kvs)
  | .list ds => .list (.str (S t_list) :: toldAll ds)
  | .tuple ds => .list (.str (S t_tuple) :: toldAll ds)
  | .bool b => .list [.bool true, .bool b]
  | .none => .list [.bool false, .none]
  | .int i => .list [.bool false, .int i]
  | .str x => .list [.bool false, .str x]
def toldAll : List PyData → List PyData
  | [] => []
  | d :: r => toldOf d :: toldAll r
def toldKvs : List (PyData × PyData) → List PyData
  | [] => []
  | (k, v) :: r => .list [toldOf k, toldOf v] :: toldKvs r
end
theorem toldAll_map : ∀ ds : List PyData, toldAll ds = ds.map toldOf
  | [] => by unfold toldAll; rfl
  | d :: r => by unfold toldAll; rw [toldAll_map r]; rfl
theorem toldKvs_map : ∀ ds : List (PyData × PyData), toldKvs ds = ds.map fun kv => .list [toldOf kv.1, toldOf kv.2]
  | [] => by unfold toldKvs; rfl
  | (k, v) :: r => by unfold toldKvs; rw [toldKvs_map r]; rfl
/-- at most m levels, each row of no more than 2^22 things -/
def Dp : Nat → PyData → Prop
  | m + 1, .list ds => ds.length ≤ 4194304 ∧ ∀ d ∈ ds, Dp m d
  | m + 1, .tuple ds => ds.length ≤ 4194304 ∧ ∀ d ∈ ds, Dp m d
  | m + 1, .dict kvs => kvs.length ≤ 4194304 ∧ ∀ kv ∈ kvs, Dp m kv.2
  | 0, .list _ => False
  | 0, .tuple _ => False
  | 0, .dict _ => False
  | _, _ => True
theorem Dp.key (m : Nat) (k : Ky) : Dp m k.dat := by
  cases k <;> cases m <;> simp [Dp, Ky.dat]
theorem Dp.succ : ∀ {m : Nat} {d : PyData}, Dp m d → Dp (m + 1) d
  | 0, .none, _ => by simp [Dp]
  | 0, .bool _, _ => by simp [Dp]
  | 0, .int _, _ => by simp [Dp]
  | 0, .str _, _ => by simp [Dp]
  | 0, .list _, h => by simp [Dp] at h
  | 0, .tuple _, h => by simp [Dp] at h
  | 0, .dict _, h => by simp [Dp] at h
  | m + 1, .none, _ => by simp [Dp]
  | m + 1, .bool _, _ => by simp [Dp]
  | m + 1, .int _, _ => by simp [Dp]
  | m + 1, .str _, _ => by simp [Dp]
  | m + 1, .list ds, h => by unfold Dp at h ⊢; exact ⟨h.1, fun d hd => (h.2 d hd).succ⟩
  | m + 1, .tuple ds, h => by unfold Dp at h ⊢; exact ⟨h.1, fun d hd => (h.2 d hd).succ⟩
  | m + 1, .dict ds, h => by unfold Dp at h ⊢; exact ⟨h.1, fun d hd => (h.2 d hd).succ⟩
theorem Dp.le {m n : Nat} {d : PyData} (h : Dp m d) (hn : m ≤ n) : Dp n d := by
  induction hn with
  | refl => exact h
  | step _ ih => exact ih.succ
section
variable {prog : Program} {w : World} {B : FMap}
theorem Rd.dictInv {v : Value} {D : List (PyData × PyData)} (h : Rd prog w B v (.dict D)) : ∃ (a : Addr) (kvs : List (Ky × Value)) (kds : List (Ky × PyData)), v = .ref a ∧ BD (mixKind prog w) B a kvs ∧ D = kds.map (fun (kv : Ky × PyData) => (kv.1.dat, kv.2)) ∧ kvs.map (·.1) = kds.map (·.1) ∧ RdAll prog w B (kvs.map (·.2)) (kds.map (·.2)) := by
  cases h with
  | @dict a kvs ks ds h1 h2 h3 =>
    subst h2
    have hl : (kvs.map (·.1)).length = ds.length := by have := h3.length; simpa using this
    have e1 : (List.zip (kvs.map (·.1)) ds).map (·.1) = kvs.map (·.1) := by rw [List.map_fst_zip (Nat.le_of_eq hl)]
    have e2 : (List.zip (kvs.map (·.1)) ds).map (·.2) = ds := by rw [List.map_snd_zip (Nat.le_of_eq hl.symm)]
    refine ⟨a, kvs, List.zip (kvs.map (·.1)) ds, rfl, h1, ?_, e1.symm, by rw [e2]; exact h3⟩
    rw [← zip_pairs, e1, e2]
theorem Rd.listInv {v : Value} {ds : List PyData} (h : Rd prog w B v (.list ds)) : ∃ a o vs n, v = .ref a ∧ B a = some o ∧ o.cls = .type "list" ∧ o.data = .seq (List.toArray vs) n ∧ RdAll prog w B vs ds := by
  cases h with
  | @list a o vs n _ h1 h2 h3 h4 => exact ⟨a, o, vs.toList, n, rfl, h1, h2, by rw [h3], h4⟩
theorem Rd.tupleInv {v : Value} {ds : List PyData} (h : Rd prog w B v (.tuple ds)) : ∃ a o vs n, v = .ref a ∧ B a = some o ∧ o.cls = .type "tuple" ∧ o.data = .seq (List.toArray vs) n ∧ RdAll prog w B vs ds := by
  cases h with
  | @tuple a o vs n _ h1 h2 h3 h4 => exact ⟨a, o, vs.toList, n, rfl, h1, h2, by rw [h3], h4⟩
theorem BD.nodup {K : Type} [DecidableEq K] {knd : PySem.KeyKind prog w K} {d : Addr} {kvs : List (K × Value)} (h : BD knd B d kvs) : (kvs.map (·.1)).Nodup := let ⟨_, _, _, _, _, _, _, _, _, hn⟩ := h; hn
theorem valueAt_get {K : Type} [DecidableEq K] : ∀ {kvs : List (K × Value)} (_ : (kvs.map (·.1)).Nodup) {i : Nat} {kv : K × Value} (_ : kvs[i]? = some kv), valueAt kvs kv.1 = some kv.2
  | [], _, i, kv, hi => by simp at hi
  | kv0 :: r, h, 0, kv, hi => by
    have : kv0 = kv := by simpa using hi
    subst this
    obtain ⟨k, v⟩ := kv0
    rw [valueAt_cons, if_pos rfl]
  | kv0 :: r, h, i + 1, kv, hi => by
    rw [List.map_cons, List.nodup_cons] at h
    have hi' : r[i]? = some kv := by simpa using hi
    obtain ⟨k, v⟩ := kv0
    rw [valueAt_cons, if_neg, valueAt_get h.2 hi']
    intro e
    have e' : k = kv.1 := e
    exact h.1 (by show k ∈ _; rw [e']; exact List.mem_map_of_mem (f := (·.1)) (List.mem_of_getElem? hi'))
theorem RdAll.snoc {vs : List Value} {ds : List PyData} {v : Value} {d : PyData} (h : RdAll prog w B vs ds) (h' : Rd prog w B v d) : RdAll prog w B (vs ++ [v]) (ds ++ [d]) := h.append (.cons h' .nil)
end
/-- both ways of a value go on with J -/
theorem ite_ejoin {α : Type} {M : Model} {A : Around} {E : Value → Shared → Prop} {s : Shared} {t1 t2 : Sem α} {Q : α → Shared → Prop} (J : α → Shared → Prop) {c : Bool}
    (h : ∀ Qe : α → Shared → Prop, (∀ {v s'}, J v s' → Qe v s') → if c = true then wpAny M A t1 Qe E s else wpAny M A t2 Qe E s) (k : ∀ v s', J v s' → Q v s') :
    if c = true then wpAny M A t1 Q E s else wpAny M A t2 Q E s := by
  have h := h J fun hj => hj
  cases c with
  | true => rw [if_pos rfl] at h ⊢; exact wpAny_mono h k fun _ _ x => x
  | false => rw [if_neg (by simp)] at h ⊢; exact wpAny_mono h k fun _ _ x => x
theorem one_cell {cl : List (Str × Addr)} {n : Str} (h : cl.map (·.1) = [n]) : ∃ c, cl = [(n, c)] := by
  match cl, h with
  | [(m, c)], h => simp at h; subst h; exact ⟨c, rfl⟩
end Mine
end
-- part P5
section
open PySem PySem.Spec PySem.Calls PyProof.Rows PySem.W
namespace Mine
section
variable {prog : Program} {w : World} {A : Around} {E : Value → Shared → Prop} {env : Env} {s : Shared} {Q : Flow → Shared → Prop}
/-- a try whose body does not raise -/
theorem x_tryN {body rest : List Stmt} {h₀ : ExceptHandler} {hs : List ExceptHandler} {pos : Pos} (h : ∀ bd, bd = body → wpAny (model prog w) A (execs bd env) (Then (model prog w) A E rest env Q) (fun _ _ => False) s) :
    wpAny (model prog w) A (execs (.Try body (h₀ :: hs) [] [] pos :: rest) env) Q E s := by
  refine wpAny_execs_cons (wpAny_Try_except (wpAny_mono (h _ rfl) (fun f s₁ hf => ?_) fun _ _ x => x.elim))
  cases f with
  | next => exact wpAny_execs_nil hf
  | _ => exact hf
end
end Mine
end
-- part C18
section
open PySem PySem.Spec PySem.Calls PyProof.Rows PySem.W
namespace Mine
/-- the same owned objects in another order -/
theorem St.perm {X : Fx} {B : FMap} {O O' : Owns} {l : Locs} {s : Shared} (H : St X B O l s) (h : O.Perm O') : St X B O' l s :=
  { H with lowO := fun q hq => H.lowO q (h.mem_iff.mpr hq), own := fun q hq => H.own q (h.mem_iff.mpr hq), apart := (h.map (·.1)).nodup_iff.mp H.apart }
section
variable {X : Fx} {B B' : FMap} {O O' its : Owns} {l l' : Locs} {s s' : Shared} {prog : Program} {w : World} {A : Around} {E : Value → Shared → Prop} {Q : Value → Shared → Prop} {env : Env}

theorem IsLF {a : Addr} {vs : List Value} {o : Obj} {n : Nat} (H : St X B O l s) (hb : B a = some o) (hc : o.cls = .type "list") (hd : o.data = .seq vs.toArray n) : s.heap.IsList a vs.toArray := ⟨o, H.fz _ _ hb, hc, n, hd⟩
theorem LO.map {xs : Array Value} {n : Nat} (f : Array Value → Array Value) {ys : List Value} (h : f xs = ys.toArray) : LO ys (Obj.mapSeq f { cls := .type "list", data := .seq xs n }) := by
  refine ⟨if (f xs).size == xs.size then n else n + 1, ?_⟩
  rw [← h]; rfl
/-- xs[i] of a list -/
theorem e_lat {a : Addr} {vs : List Value} {i' : Int} {u : Tok} {v : Value} {value slice : Expr} (i : Nat) (hl : s.heap.IsList a vs.toArray) (hv : vs[i]? = some v) (hz : vs.length ≤ sizeLine) (h : Q v s) (hi : i' = (i : Int) := by first | rfl | omega)
    (hs : subscripted slice false (.ref a) (.int i' u) = operate [.ref a, .int i' u] (getItem (.ref a) (.int i' u)) := by with_unfolding_all rfl) :
    wpAny (model prog w) A (subscriptTail value slice (.ref a) (.int i' u)) Q E s := by
  subst hi
  have hzz : sizeLine = 16777216 := by decide
  have := (List.getElem?_eq_some_iff.mp hv).1
  exact tail_any hl.typeIs slot_list_getitem.lookup (wpAny_getItem_list hl (by omega) (by omega) (by simpa using hv) h) hs
/-- xs[-1] of a list -/
theorem e_llast {a : Addr} {vs : List Value} {u : Tok} {v : Value} {value slice : Expr} (hl : s.heap.IsList a (vs ++ [v]).toArray) (h : Q v s)
    (hs : subscripted slice false (.ref a) (.int (-1) u) = operate [.ref a, .int (-1) u] (getItem (.ref a) (.int (-1) u)) := by with_unfolding_all rfl) :
    wpAny (model prog w) A (subscriptTail value slice (.ref a) (.int (-1) u)) Q E s := by
  refine tail_any hl.typeIs slot_list_getitem.lookup (wpAny_getItem_list_neg hl (by decide) ?_ (by decide) (x := v) ?_ h) hs
  · simp; omega
  · rw [List.size_toArray, List.length_append, List.length_singleton, show (-1 + ((vs.length + 1 : Nat) : Int)).toNat = vs.length by omega]; simp
/-- the item at -1, as an augmented assignment reads it -/
theorem g_llast {a : Addr} {vs : List Value} {u : Tok} {v : Value} (hl : s.heap.IsList a (vs ++ [v]).toArray) (h : Q v s) : wpAny (model prog w) A (getItem (.ref a) (.int (-1) u)) Q E s := by
  refine wpAny_getItem_list_neg hl (by decide) ?_ (by decide) (x := v) ?_ h
  · simp; omega
  · rw [List.size_toArray, List.length_append, List.length_singleton, show (-1 + ((vs.length + 1 : Nat) : Int)).toNat = vs.length by omega]; simp
theorem set_last {a : Addr} {vs : List Value} {u : Tok} {v x : Value} {Q : Unit → Shared → Prop} (H : St X B O l s) (ho : OPut O a (LO (vs ++ [v])) (LO (vs ++ [x])) O') (h : ∀ s', St X B O' l s' → Q () s') :
    wpAny (model prog w) A (setItem (.ref a) (.int (-1) u) x) Q E s := by
  obtain ⟨O₁, O₂, rfl, rfl⟩ := ho.split
  obtain ⟨o, ho', n, rfl⟩ := (H.own (a, LO (vs ++ [v])) (by simp)).1
  have hT : s.TypeIs (.ref a) "list" := ⟨_, ho', rfl⟩
  have hsz : (vs ++ [v]).toArray.size = vs.length + 1 := by simp
  have key : ((vs ++ [v]).toArray.setIfInBounds vs.length x) = (vs ++ [x]).toArray := by
    apply Array.ext'
    simp [Array.toList_setIfInBounds]
  unfold setItem
  try with_reducible refine wpAny_holding ?_
  first | refine wpAny_bind (wpAny_pure ?_) | skip
  refine wpAny_bind (wpAny_sequenceKey hT (by decide) ?_)
  refine wpAny_bind (wpAny_callSpecial?_slot (name := Str.ofString "__setitem__") hT slot_list_setitem (wpAny_call_entry slot_list_setitem hT entry_list_setitem ?_ (args_list_setitem _ _ _)))
  show wpAny _ _ (Builtin.List.listSubscript? (.int (-1) u) >>= _) _ _ s
  refine wpAny_bind (wpAny_listSubscript_int (by decide +kernel) ?_)
  show wpAny _ _ ((Builtin.List.listItems (.ref a) >>= fun xs => pure ((seqIndex? (Int.negSucc 0) xs.size).bind fun i => xs[i]?.map (i, ·))) >>= _) _ _ s
  refine wpAny_bind (wpAny_bind ?_)
  show wpAny _ _ (seqItems? (.ref a) >>= _) _ _ s
  refine wpAny_bind (wpAny_seqItems ho' rfl (wpAny_pure (wpAny_pure ?_)))
  rw [show seqIndex? (Int.negSucc 0) (vs ++ [v]).toArray.size = some vs.length by
    rw [PySem.seqIndex_neg (by decide) (by rw [hsz]; omega), hsz]; congr 1; omega]
  simp only [Option.bind_some, List.getElem?_toArray, List.getElem?_append_right (Nat.le_refl _), Nat.sub_self, List.getElem?_cons_zero, Option.map_some]
  have h1 := Heap.get?_update_self (Obj.mapSeq (·.setIfInBounds vs.length x)) ho' rfl
  have h2 := LO.map (n := n) (·.setIfInBounds vs.length x) key
  have hH := H.turn rfl (n := s.toks) (P' := LO (vs ++ [x])) (fun b o hb e => (Heap.SameBut.update ..).extBut b o hb e) h1 h2
  refine wpAny_bind (wpAny_setSeqItemAt ho' rfl ?_)
  first
    | exact wpAny_bind (wpAny_pure (wpAny_pure ⟨.none, rfl, wpAny_pure (h _ hH)⟩))
    | exact wpAny_pure ⟨.none, rfl, wpAny_pure (h _ hH)⟩

theorem m_pop {a : Addr} {vs : List Value} {pl : Sem Bool} {Q : Value × List Value → Shared → Prop} (H : St X B O l s) (ho : OPop O a (LO vs) O') (h : Q (.builtin "list.pop", [.ref a]) s) :
    wpAny (model prog w) A (getMethod (.ref a) "pop" pl) Q E s := by
  obtain ⟨o, ho', n, rfl⟩ := H.ownAt ho
  exact getMethod_builtin ⟨_, ho', rfl⟩ PySem.F.plainAttrs_list PySem.F.slot_list_pop PySem.F.type_list_pop (fun b e => by cases e; exact ⟨_, ho', rfl⟩) h
theorem e_pop {pos : Pos} {a : Addr} {vs : List Value} {v : Value} (H : St X B O l s) (ho : OPut O a (LO (vs ++ [v])) (LO vs) O') (hz : vs.length < sizeLine) (h : ∀ s', St X B O' l s' → Q v s') :
    wpAny (model prog w) A (callWith pos (.builtin "list.pop") [.ref a] [] []) Q E s := by
  obtain ⟨O₁, O₂, rfl, rfl⟩ := ho.split
  obtain ⟨o, ho', n, rfl⟩ := (H.own (a, LO (vs ++ [v])) (by simp)).1
  refine PySem.P.pop_list (items := (vs ++ [v]).toArray) (n := n) (y := v) ho' (by simp) ?_ (by simp; omega)
  refine h _ (H.turn rfl (n := s.toks) (P' := LO vs) (fun b o hb e => (Heap.SameBut.update ..).extBut b o hb e) (Heap.get?_update_self _ ho' rfl) (LO.map _ ?_))
  apply Array.ext'
  rw [Array.toList_eraseIdxIfInBounds]
  simp [List.eraseIdx_append_of_length_le]

/-- range(a, b, c) -/
theorem e_range3 {a b c : Int} {t u v : Tok} (H : St X B O l s) (hc : c ≠ 0) (hp : Builtin.divisionGoesByPylong (b - a) c = false) (h : ∀ r B' s', Sub B B' → B' r = some { cls := .type "range", data := .fields #[.int a t, .int b u, .int c v] } → St X B' O l s' → Q (.ref r) s') :
    wpAny (model prog w) A (call (.type "range") [.int a t, .int b u, .int c v]) Q E s := by
  obtain ⟨B', h1, h2, H'⟩ := H.push (o := { cls := .type "range", data := .fields #[.int a t, .int b u, .int c v] }) rfl (n := s.toks)
  exact call_range_3 hc (h _ B' _ h1 h2 H') (.inl hp)
theorem range_small {n c : Nat} (hn : n ≤ 16777216) (hc : c = 1 ∨ c = 2) : Builtin.Range.small 0 (n : Int) (c : Int) = true ∧ Builtin.Range.rangeSize 0 (n : Int) (c : Int) = ((n + c - 1) / c : Nat) := by
  have h1 : Builtin.Range.rangeSize 0 (n : Int) (c : Int) = ((n + c - 1) / c : Nat) := by
    unfold Builtin.Range.rangeSize
    rw [if_pos (by omega)]
    split <;> rcases hc with rfl | rfl <;> omega
  refine ⟨?_, h1⟩
  unfold Builtin.Range.small
  rw [h1]
  have h2 : (n + c - 1) / c ≤ 16777217 := by rcases hc with rfl | rfl <;> omega
  generalize (n + c - 1) / c = q at h2 ⊢
  unfold Builtin.Range.rangeFitsLong
  simp only [Bool.and_eq_true, Bool.or_eq_true, decide_eq_true_eq]
  rw [if_pos (by omega)]
  exact ⟨⟨⟨⟨by omega, by omega⟩, by omega⟩, by omega⟩, .inr (by simp only [Bool.and_eq_true, decide_eq_true_eq]; omega)⟩

/-- divmod(a, b) by a small number -/
theorem e_divmod {a b : Int} {t u : Tok} (H : St X B O l s) (hb : 0 < b) (hp : Builtin.divisionGoesByPylong a b = false) (h : ∀ x B' s' t1 t2, Sub B B' → B' x = some { cls := .type "tuple", data := .seq #[.int (a / b) t1, .int (a % b) t2] } → St X B' O l s' → Q (.ref x) s') :
    wpAny (model prog w) A (call (.builtin "divmod") [.int a t, .int b u]) Q E s := by
  obtain ⟨B', h1, h2, H'⟩ := H.push (o := { cls := .type "tuple", data := .seq #[.int (a.fdiv b) s.toks, .int (a.fmod b) (s.toks + 1)] }) rfl (n := s.toks + 1 + 1)
  refine divmod_int (by omega) (h _ B' _ s.toks (s.toks + 1) h1 ?_ H') (.inl hp)
  rw [h2, Int.fdiv_eq_ediv_of_nonneg a (by omega), Int.fmod_eq_emod_of_nonneg a (by omega)]
theorem e_abs {a : Int} {t : Tok} (H : St X B O l s) (h : ∀ t s', St X B O l s' → Q (.int (a.natAbs : Int) t) s') : wpAny (model prog w) A (call (.builtin "abs") [.int a t]) Q E s := by
  refine any_toks (call_abs_int fun u tk (hle : s.toks ≤ tk) => ?_)
  have : (if a < 0 then -a else a) = (a.natAbs : Int) := by split <;> omega
  rw [this]; exact h _ _ H.tok
theorem b_mod {a b : Int} {t u : Tok} (H : St X B O l s) (hb : 0 < b) (h : ∀ t s', St X B O l s' → Q (.int (a % b) t) s') : wpAny (model prog w) A (binaryOp .Mod (.int a t) (.int b u)) Q E s := by
  refine mod_int' (by omega) ?_
  rw [Int.fmod_eq_emod_of_nonneg a (by omega)]; exact h _ _ H.tok
theorem b_pow {a n : Int} {t u : Tok} (H : St X B O l s) (hn : 0 ≤ n) (hn2 : n ≤ 1000000) (ha : a.natAbs < 2 ^ 64) (h : ∀ t s', St X B O l s' → Q (.int (a ^ n.toNat) t) s') : wpAny (model prog w) A (binaryOp .Pow (.int a t) (.int n u)) Q E s :=
  pow_int_small hn hn2 ha (h _ _ H.tok)
theorem x_augS {o i value : Expr} {tpos pos : Pos} {op : Operator} {rest : List Stmt} {Q : Flow → Shared → Prop}
    (h : wpAny (model prog w) A (eval o env) (fun ov s₁ => wpAny (model prog w) A (eval i env) (fun iv s₂ => wpAny (model prog w) A (getItem ov iv) (fun old s₃ =>
          wpAny (model prog w) A (eval value env) (fun v s₄ => wpAny (model prog w) A (inplaceOp op old v) (fun new s₅ =>
            wpAny (model prog w) A (setItem ov iv new) (fun _ s₆ => wpAny (model prog w) A (execs rest env) Q E s₆) E s₅) E s₄) E s₃) E s₂) E s₁) E s)
    (hi : ∀ ov iv new, augStore i ov iv new = (do holding [new, ov, iv] (setItem ov iv new); release [new, ov, iv] []; pure .next) := by intros; rfl) :
    wpAny (model prog w) A (execs (.AugAssign (.Subscript o i tpos) op value pos :: rest) env) Q E s := wpAny_execs_cons (wpAny_AugAssign_SubscriptAny h hi)
end
end Mine
end
-- part C19
section
open PySem PySem.Spec PySem.Calls PyProof.Rows PySem.W
namespace Mine
section
variable {X : Fx} {B B' : FMap} {O O' q q' : Owns} {l l' : Locs} {s s' : Shared} {prog : Program} {w : World} {A : Around} {E : Value → Shared → Prop} {Q : Value → Shared → Prop} {env : Env}
/-- the first owned objects are turned, and one object is new -/
theorem St.morph (H : St X B (q ++ O) l s) {h' : Heap} {n : Tok} (hq : q'.map (·.1) = q.map (·.1)) (hk : ∀ b o, b ∉ q.map (·.1) → s.heap.get? b = some o → h'.get? b = some o)
    (hq' : ∀ p ∈ q', ∃ o, h'.get? p.1 = some o ∧ p.2 o) (hn : 0 < n := by first | exact Nat.succ_pos _ | assumption | exact tk_self (by assumption) | (refine Nat.lt_of_lt_of_le (tk_self (by assumption)) ?_; first | assumption | exact Nat.le_refl _ | omega)) : St X B (q' ++ O) l { s with heap := h', toks := n } := by
  have hap := H.apart
  rw [List.map_append] at hap
  have hap3 := List.nodup_append.mp hap
  have hfz : ∀ b o, B b = some o → b ∉ q.map (·.1) := fun b o e hm => by
    obtain ⟨p, hp, rfl⟩ := List.mem_map.mp hm
    rw [(H.own p (List.mem_append_left _ hp)).2.2.1] at e; cases e
  refine { H with tk := hn, ns := H.ns.at' fun o e => hk _ _ H.noItL e, kept := fun b o e => hk _ _ (H.noIt e) (H.kept _ _ e), fz := fun b o e => hk _ _ (hfz b o e) (H.fz _ _ e), lowO := fun p hp => ?_, own := fun p hp => ?_, apart := by rw [List.map_append, hq]; exact hap }
  · have : p.1 ∈ (q ++ O).map (·.1) := by rw [List.map_append, ← hq, ← List.map_append]; exact List.mem_map_of_mem hp
    obtain ⟨p', hp', e⟩ := List.mem_map.mp this
    rw [← e]; exact H.lowO p' hp'
  · rcases List.mem_append.mp hp with hp | hp
    · have : p.1 ∈ q.map (·.1) := by rw [← hq]; exact List.mem_map_of_mem hp
      obtain ⟨p', hp', e⟩ := List.mem_map.mp this
      obtain ⟨_, h2⟩ := H.own p' (List.mem_append_left _ hp')
      rw [e] at h2
      exact ⟨hq' p hp, h2⟩
    · obtain ⟨⟨o, h1, h2⟩, h3⟩ := H.own p (List.mem_append_right _ hp)
      exact ⟨⟨o, hk _ _ (fun hm => hap3.2.2 p.1 hm p.1 (List.mem_map_of_mem hp) rfl) h1, h2⟩, h3⟩
/-- an object that stands and is not known yet is frozen -/
theorem St.admit (H : St X B O l s') {a : Addr} {o : Obj} (ho : s'.heap.get? a = some o) (h0 : X.h0.get? a = none) (hB : B a = none) (hL : a ≠ X.env.locals) (hO : ∀ p ∈ O, p.1 ≠ a) (hs : a ≠ sysModules) :
    ∃ B', Sub B B' ∧ B' a = some o ∧ St X B' O l s' := by
  refine ⟨fun b => if b = a then some o else B b, fun b o' e => ?_, if_pos rfl, { H with fz := fun b o' e => ?_, low := fun b o' e => ?_, b0 := fun b o' e => ?_, new := fun b o' e => ?_, offL := ?_, own := fun p hp => ?_ }⟩
  · show (if b = a then _ else _) = _
    rw [if_neg (fun q => by rw [q, hB] at e; cases e)]; exact e
  · by_cases q : b = a
    · subst q; rw [if_pos rfl] at e; cases e; exact ho
    · rw [if_neg q] at e; exact H.fz _ _ e
  · by_cases q : b = a
    · subst q; exact hs
    · rw [if_neg q] at e; exact H.low _ _ e
  · show (if b = a then _ else _) = _
    rw [if_neg (fun q => by have := H.b0 _ _ e; rw [q, hB] at this; cases this)]; exact H.b0 _ _ e
  · by_cases q : b = a
    · subst q; exact .inr h0
    · rw [if_neg q] at e; exact H.new _ _ e
  · show (if _ = a then _ else _) = _
    rw [if_neg (Ne.symm hL)]; exact H.offL
  · obtain ⟨h1, h2, h3, h4⟩ := H.own p hp
    refine ⟨h1, h2, ?_, h4⟩
    show (if p.1 = a then _ else _) = _
    rw [if_neg (hO p hp)]; exact h3
theorem St.morphNew (H : St X B (q ++ O) l s) {h' : Heap} {n : Tok} (hq : q'.map (·.1) = q.map (·.1)) (hk : ∀ b o, b ∉ q.map (·.1) → s.heap.get? b = some o → h'.get? b = some o)
    (hq' : ∀ p ∈ q', ∃ o, h'.get? p.1 = some o ∧ p.2 o) {o : Obj} (ho : h'.get? s.heap.objs.size = some o) (hn : 0 < n := by first | exact Nat.succ_pos _ | assumption | exact tk_self (by assumption) | (refine Nat.lt_of_lt_of_le (tk_self (by assumption)) ?_; first | assumption | exact Nat.le_refl _ | omega)) :
    ∃ B', Sub B B' ∧ B' s.heap.objs.size = some o ∧ St X B' (q' ++ O) l { s with heap := h', toks := n } := by
  have hN : s.heap.get? s.heap.objs.size = none := none_of_le (Nat.le_refl _)
  refine (H.morph (n := n) hq hk hq' hn).admit ho (none_of_keep H.kept hN) (H.Bnone hN) (fun e => ?_) (fun p hp e => ?_) (Nat.ne_of_gt H.sysm)
  · obtain ⟨oL, hL⟩ := H.Lsome; rw [← e, hN] at hL; cases hL
  · have : p.1 ∈ (q ++ O).map (·.1) := by rw [List.map_append, ← hq, ← List.map_append]; exact List.mem_map_of_mem hp
    obtain ⟨p', hp', e'⟩ := List.mem_map.mp this
    obtain ⟨⟨o', h1, _⟩, _⟩ := H.own p' hp'
    rw [e', e, hN] at h1; cases h1

/-- the objects of a zip of two lists -/
def zipOwn (z TI TO i1 i2 l1 l2 : Addr) (f0 : Value) (k : Nat) : Owns :=
  [(z, fun o => o = { cls := .type "zip", dict := none, data := .fields #[f0, .bool false, .bool false, .ref TI, .ref TO], slots := #[] }), (TI, fun o => o = { cls := .type "tuple", data := .seq #[.ref i1, .ref i2] }),
    (TO, fun o => ∃ a b, o = { cls := .type "tuple", data := .seq #[a, b] }), (i1, listIt l1 k), (i2, listIt l2 k)]
theorem zip_apart {z TI TO i1 i2 l1 l2 : Addr} {f0 : Value} {k : Nat} {o1 o2 : Obj} (H : St X B (zipOwn z TI TO i1 i2 l1 l2 f0 k ++ O) l s) (h1 : B l1 = some o1) (h2 : B l2 = some o2) : ZipApart z TI TO i1 i2 l1 l2 := by
  have hap := H.apart
  rw [List.map_append] at hap
  have h5 := (List.nodup_append.mp hap).1
  simp only [zipOwn, List.map_cons, List.map_nil, List.nodup_cons, List.mem_cons, List.not_mem_nil, or_false, not_or, not_false_eq_true, and_true, List.nodup_nil] at h5
  obtain ⟨⟨a1, a2, a3, a4⟩, ⟨b1, b2, b3⟩, ⟨c1, c2⟩, d1⟩ := h5
  have hne : ∀ p ∈ zipOwn z TI TO i1 i2 l1 l2 f0 k, l1 ≠ p.1 ∧ l2 ≠ p.1 := fun p hp => by
    have hb := (H.own p (List.mem_append_left _ hp)).2.2.1
    exact ⟨fun e => (by rw [e, hb] at h1; cases h1), fun e => (by rw [e, hb] at h2; cases h2)⟩
  simp only [zipOwn, List.mem_cons, List.not_mem_nil, or_false, forall_eq_or_imp, forall_eq] at hne
  obtain ⟨⟨e1, f1⟩, ⟨e2, f2⟩, ⟨e3, f3⟩, ⟨e4, f4⟩, e5, f5⟩ := hne
  exact ⟨Ne.symm a1, Ne.symm a2, Ne.symm a3, Ne.symm a4, b1, b2, b3, c1, c2, d1, e1, e3, e4, e5, f1, f3, f4, f5⟩
theorem zip_facts {z TI TO i1 i2 l1 l2 : Addr} {f0 : Value} {k : Nat} (H : St X B (zipOwn z TI TO i1 i2 l1 l2 f0 k ++ O) l s) :
    IsZip s.heap z TI TO f0 ∧ IsPair s.heap TI (.ref i1) (.ref i2) ∧ (∃ a b, IsPair s.heap TO a b) ∧ s.heap.IsListIter i1 l1 k ∧ s.heap.IsListIter i2 l2 k := by
  have f := fun p hp => (H.own p (List.mem_append_left _ hp)).1
  simp only [zipOwn, List.mem_cons, List.not_mem_nil, or_false, forall_eq_or_imp, forall_eq] at f
  obtain ⟨⟨oz, hz, rfl⟩, ⟨oI, hI, rfl⟩, ⟨oO, hO, a, b, rfl⟩, ⟨o1, h1, c1⟩, ⟨o2, h2, c2⟩⟩ := f
  exact ⟨hz, hI, ⟨a, b, hO⟩, ⟨o1, h1, c1⟩, ⟨o2, h2, c2⟩⟩

theorem e_zip {l1 l2 : Addr} {xs ys : List Value} {o1 o2 : Obj} {n1 n2 : Nat} (H : St X B O l s) (h1 : B l1 = some o1) (c1 : o1.cls = .type "list") (d1 : o1.data = .seq xs.toArray n1) (h2 : B l2 = some o2) (c2 : o2.cls = .type "list") (d2 : o2.data = .seq ys.toArray n2)
    (h : ∀ z TI TO i1 i2 s', St X B (zipOwn z TI TO i1 i2 l1 l2 .none 0 ++ O) l s' → Q (.ref z) s') : wpAny (model prog w) A (call (.type "zip") [.ref l1, .ref l2]) Q E s := by
  refine call_zip_2 (xs := xs.toArray) (ys := ys.toArray) ⟨_, H.fz _ _ h1, c1, n1, d1⟩ ⟨_, H.fz _ _ h2, c2, n2, d2⟩ fun h' hz hI hO hi1 hi2 hsz hk => ?_
  have H' : St X B O l { s with heap := h' } := H.keeps (n := s.toks) hk
  refine h _ _ _ _ _ _ (?_ : St X B (zipOwn (s.heap.objs.size + 4) (s.heap.objs.size + 2) (s.heap.objs.size + 3) s.heap.objs.size (s.heap.objs.size + 1) l1 l2 .none 0 ++ O) l _)
  have hN : ∀ {b : Addr}, s.heap.objs.size ≤ b → s.heap.get? b = none := fun e => none_of_le e
  have hge : ∀ p ∈ zipOwn (s.heap.objs.size + 4) (s.heap.objs.size + 2) (s.heap.objs.size + 3) s.heap.objs.size (s.heap.objs.size + 1) l1 l2 .none 0, s.heap.objs.size ≤ p.1 := by
    simp only [zipOwn, List.mem_cons, List.not_mem_nil, or_false, forall_eq_or_imp, forall_eq]
    exact ⟨Nat.le_add_right _ _, Nat.le_add_right _ _, Nat.le_add_right _ _, Nat.le_refl _, Nat.le_add_right _ _⟩
  have hat : ∀ p ∈ zipOwn (s.heap.objs.size + 4) (s.heap.objs.size + 2) (s.heap.objs.size + 3) s.heap.objs.size (s.heap.objs.size + 1) l1 l2 .none 0, ∃ o, h'.get? p.1 = some o ∧ p.2 o := by
    simp only [zipOwn, List.mem_cons, List.not_mem_nil, or_false, forall_eq_or_imp, forall_eq]
    exact ⟨⟨_, hz, rfl⟩, ⟨_, hI, rfl⟩, ⟨_, hO, _, _, rfl⟩, hi1, hi2⟩
  have hsysm := H.sysm
  obtain ⟨oL, hL⟩ := H.Lsome
  have hLlt := Heap.lt_size hL
  refine { H' with lowO := fun p hp => ?_, own := fun p hp => ?_, apart := ?_ }
  · rcases List.mem_append.mp hp with hp | hp
    · exact Nat.ne_of_gt (Nat.lt_of_lt_of_le hsysm (hge p hp))
    · exact H.lowO p hp
  · rcases List.mem_append.mp hp with hp | hp
    · exact ⟨hat p hp, Nat.ne_of_gt (Nat.lt_of_lt_of_le hLlt (hge p hp)), H.Bnone (hN (hge p hp)), none_of_keep H.kept (hN (hge p hp))⟩
    · exact H'.own p hp
  · rw [List.map_append]
    refine List.nodup_append.mpr ⟨?_, H.apart, fun a ha b hb e => ?_⟩
    · simp [zipOwn]
    · obtain ⟨p, hp, rfl⟩ := List.mem_map.mp ha
      obtain ⟨r, hr, rfl⟩ := List.mem_map.mp hb
      obtain ⟨⟨o, h3, _⟩, _⟩ := H.own r hr
      rw [← e, hN (hge p hp)] at h3; cases h3

theorem it_zip (hh : A.handled = none) {elts : List Expr} {kk : Nat} {pp : Pos} {z TI TO i1 i2 l1 l2 : Addr} {xs ys : List Value} {o1 o2 : Obj} {n1 n2 : Nat} (H : St X B (zipOwn z TI TO i1 i2 l1 l2 .none 0 ++ O) l s)
    (h1 : B l1 = some o1) (c1 : o1.cls = .type "list") (d1 : o1.data = .seq xs.toArray n1) (h2 : B l2 = some o2) (c2 : o2.cls = .type "list") (d2 : o2.data = .seq ys.toArray n2) :
    Iterates prog w A (.Tuple elts kk pp) X B O l s (.ref z) (min xs.length ys.length) fun B i v => ∃ a x y, v = .ref a ∧ B a = some { cls := .type "tuple", data := .seq #[x, y] } ∧ xs[i]? = some x ∧ ys[i]? = some y := fun Q E h => by
  refine wpAny_pyIter_zip (zip_facts H).1 ?_
  refine h z (fun k => zipOwn z TI TO i1 i2 l1 l2 .none k) (fun B => B l1 = some o1 ∧ B l2 = some o2) s ?_ ⟨h1, h2⟩ H
  refine ⟨fun B B' hs ⟨a, b⟩ => ⟨hs _ _ a, hs _ _ b⟩, fun {X B O l s} i Q E _ H hQ => wpAny_pyIter_zip (zip_facts H).1 hQ, fun {X B O l s} i Q E hi ⟨h1, h2⟩ H hQ => ?_, fun {X B O l s} Q E ⟨h1, h2⟩ H hQ => ?_⟩
  · have D := zip_apart H h1 h2
    obtain ⟨hz, hI, ⟨a, b, hO⟩, hi1, hi2⟩ := zip_facts H
    refine wpAny_pyNext_zip_item D hz hI hO hi1 hi2 (xs := xs.toArray) (ys := ys.toArray) ⟨_, H.fz _ _ h1, c1, n1, d1⟩ ⟨_, H.fz _ _ h2, c2, n2, d2⟩ (x := xs[i]'(by omega)) (y := ys[i]'(by omega)) (by simp) (by simp) fun h' hz' hO' hi1' hi2' hn hsz hk => ?_
    refine hQ _ _ fun Q' E' hq => ?_
    refine wpAny_letOwnedTupleGo_zip hz' fun h'' hz'' hs => ?_
    have hzlt : z < s.heap.objs.size := Heap.lt_size hz
    obtain ⟨B', hs', hb', H'⟩ := H.morphNew (h' := h'') (n := s.toks) (q' := zipOwn z TI TO i1 i2 l1 l2 .none (i + 1)) rfl (fun b o hb e => by
        simp only [zipOwn, List.map_cons, List.map_nil, List.mem_cons, List.not_mem_nil, or_false, not_or] at hb
        exact hs.extBut _ _ hb.1 (hk b o hb.1 hb.2.2.1 hb.2.2.2.1 hb.2.2.2.2 e)) (by
        simp only [zipOwn, List.mem_cons, List.not_mem_nil, or_false, forall_eq_or_imp, forall_eq]
        obtain ⟨p1, g1, r1⟩ := hi1'
        obtain ⟨p2, g2, r2⟩ := hi2'
        exact ⟨⟨_, hz'', rfl⟩, ⟨_, hs.extBut _ _ D.TIz (hk _ _ D.TIz D.TITO D.TIi1 D.TIi2 hI), rfl⟩, ⟨_, hs.extBut _ _ D.TOz hO', _, _, rfl⟩, ⟨_, hs.extBut _ _ D.i1z g1, r1⟩, ⟨_, hs.extBut _ _ D.i2z g2, r2⟩⟩)
      (hs.extBut _ _ (Nat.ne_of_gt hzlt) hn)
    exact hq B' _ hs' ⟨_, _, _, rfl, hb', by simp, by simp⟩ H'
  · have D := zip_apart H h1 h2
    obtain ⟨hz, hI, ⟨a, b, hO⟩, hi1, hi2⟩ := zip_facts H
    refine wpAny_pyNext_zip_end hh D hz hI hO hi1 hi2 (xs := xs.toArray) (ys := ys.toArray) ⟨_, H.fz _ _ h1, c1, n1, d1⟩ ⟨_, H.fz _ _ h2, c2, n2, d2⟩ ?_ fun h' hk => ?_
    · rcases Nat.le_total xs.length ys.length with hle | hle
      · left; rw [Nat.min_eq_left hle]; simp
      · right; rw [Nat.min_eq_right hle]; simp
    · refine hQ _ ?_
      have hap := H.apart
      rw [List.map_append] at hap
      have hap3 := List.nodup_append.mp hap
      have hin : ∀ b, b ∉ (zipOwn z TI TO i1 i2 l1 l2 .none (min xs.length ys.length)).map (·.1) → ∀ o, s.heap.get? b = some o → h'.get? b = some o := fun b hb o e => by
        simp only [zipOwn, List.map_cons, List.map_nil, List.mem_cons, List.not_mem_nil, or_false, not_or] at hb
        exact hk b o hb.1 hb.2.2.1 hb.2.2.2.1 hb.2.2.2.2 e
      have hfz : ∀ b o, B b = some o → b ∉ (zipOwn z TI TO i1 i2 l1 l2 .none (min xs.length ys.length)).map (·.1) := fun b o e hm => by
        obtain ⟨p, hp, rfl⟩ := List.mem_map.mp hm
        rw [(H.own p (List.mem_append_left _ hp)).2.2.1] at e; cases e
      refine { H with ns := H.ns.at' fun o e => hin _ H.noItL o e, kept := fun b o e => hin _ (H.noIt e) _ (H.kept _ _ e), fz := fun b o e => hin _ (hfz b o e) _ (H.fz _ _ e), lowO := fun p hp => H.lowO p (List.mem_append_right _ hp), own := fun p hp => ?_, apart := hap3.2.1 }
      obtain ⟨⟨o, g1, g2⟩, g3⟩ := H.own p (List.mem_append_right _ hp)
      exact ⟨⟨o, hin _ (fun hm => hap3.2.2 p.1 hm p.1 (List.mem_map_of_mem hp) rfl) _ g1, g2⟩, g3⟩
end
end Mine
end
-- part C20
section
open PySem PySem.Spec PySem.Calls PyProof.Rows PySem.W
namespace Mine
section
variable {X : Fx} {B B' : FMap} {O O' q q' : Owns} {l l' : Locs} {s s' : Shared} {prog : Program} {w : World} {A : Around} {E : Value → Shared → Prop} {Q : Value → Shared → Prop} {env : Env}
theorem St.freezeP (H : St X B O l s) {a : Addr} {P : Obj → Prop} (ho : OPop O a P O') : ∃ B' o, Sub B B' ∧ B' a = some o ∧ P o ∧ St X B' O' l s := by
  obtain ⟨O₁, O₂, rfl, rfl⟩ := ho.split
  exact H.freeze rfl
theorem e_popB {pos : Pos} {a : Addr} {vs : List Value} {v : Value} (H : St X B O l s) (ho : OPut O a (LO (vs ++ [v])) (LO vs) O') (hz : vs.length < sizeLine) (h : ∀ s', St X B O' l s' → Q v s') :
    wpAny (model prog w) A (callWith pos (.builtin "list.pop") [.ref a] (backTo pos (starEach [] env)) []) Q E s := e_pop H ho hz h
/-- tuple(xs) of a list that stands -/
theorem e_tupleL {a : Addr} {vs : List Value} (H : St X B O l s) (hl : s.heap.IsList a vs.toArray) (hz : vs.length ≤ sizeLine)
    (h : ∀ x B' s', Sub B B' → B' x = some { cls := .type "tuple", data := .seq vs.toArray } → St X B' O l s' → Q (.ref x) s') :
    wpAny (model prog w) A (call (.type "tuple") [.ref a]) Q E s := by
  refine call_tuple_list hl (fun h' hk => ?_) (by simpa using hz)
  have H' : St X B O l { s with heap := h' } := H.keeps (n := s.toks) hk
  obtain ⟨B', h1, h2, H''⟩ := H'.push (o := { cls := .type "tuple", data := .seq vs.toArray }) rfl (n := s.toks)
  exact h _ B' _ h1 h2 H''
theorem e_lenL {a : Addr} {vs : List Value} (H : St X B O l s) (hl : s.heap.IsList a vs.toArray) (hz : vs.length ≤ sizeLine) (h : ∀ t s', St X B O l s' → Q (.int (vs.length : Int) t) s') :
    wpAny (model prog w) A (call (.builtin "len") [.ref a]) Q E s := by
  have hzz : sizeLine = 16777216 := by decide
  refine call_len_list hl (by simp; omega) ?_
  have := h (s.toks + 1) _ (H.tok (n := s.toks + 1 + 1))
  simpa using this
theorem fm_congr {α β : Type} {f g : α → Option β} : ∀ {l : List α}, (∀ x ∈ l, f x = g x) → l.filterMap f = l.filterMap g
  | [], _ => rfl
  | x :: l, h => by rw [List.filterMap_cons, List.filterMap_cons, h x (.head _), fm_congr fun y hy => h y (.tail _ hy)]
/-- the items at odd places -/
def oddsOf {α : Type} (vs : List α) : List α := (List.range (vs.length / 2)).filterMap fun k => vs[2 * k + 1]?
theorem pick_odds (vs : List Value) : slicePick vs.toArray (some 1) none (some 2) = (oddsOf vs).toArray := by
  unfold slicePick oddsOf sliceBounds sliceRange
  simp only [List.size_toArray, Option.getD_some, show (2 : Int) > 0 by decide, if_true]
  congr 1
  have e1 : ¬ ((1 : Int) < 0) := by decide
  simp only [e1, if_false]
  rw [List.filterMap_map]
  have hm : (if max 0 (min 1 (vs.length : Int)) < (vs.length : Int) then ((vs.length : Int) - max 0 (min 1 (vs.length : Int)) + 2 - 1) / 2 else 0).toNat = vs.length / 2 := by split <;> omega
  rw [hm]
  refine fm_congr fun k hk => ?_
  have hk' := List.mem_range.mp hk
  simp only [Function.comp_apply, List.getElem?_toArray]
  congr 1
  omega
theorem pick_to (vs : List Value) (n : Nat) : slicePick vs.toArray none (some (n : Int)) none = (vs.take n).toArray := by
  unfold slicePick sliceBounds sliceRange
  simp only [List.size_toArray, Option.getD_none, show (1 : Int) > 0 by decide, if_true]
  congr 1
  have e1 : ¬ ((n : Int) < 0) := neg_nat n
  simp only [e1, if_false]
  rw [List.filterMap_map]
  have hm : (if (0 : Int) < max 0 (min (n : Int) (vs.length : Int)) then (max 0 (min (n : Int) (vs.length : Int)) - 0 + 1 - 1) / 1 else 0).toNat = min n vs.length := by
    rw [clip_nat, Int.ediv_one]; exact span_nat 0 _
  rw [hm]
  have : ((fun x => vs.toArray[x]?) ∘ fun k : Nat => ((0 : Int) + 1 * (k : Int)).toNat) = fun k => vs[k]? := by funext k; simp
  rw [this, take_range]
  rw [← List.take_take, List.take_length]
theorem swaps_local {elt : Expr} {gens : List Comprehension} {scope : Scope} {pos py : Pos} {y : Str} {ln : Nat} (hk : env.scope.kind = .function) (hl : env.kindOf y = some .local) (h : (py.line == pos.line && !(scope.names.any fun (n, k) => n == y && (k == .local || k == .cell))) = true) :
    swapsWith (.ListComp elt gens scope pos) (some (.Name y py)) ln env = pure true := by
  have hb : env.blockKind = .function := by unfold Env.blockKind; rw [hk]; rfl
  show (pure (env.blockKind == .function && env.kindOf y == some .local && py.line == pos.line && !(scope.names.any fun (n, k) => n == y && (k == .local || k == .cell))) : Sem Bool) = pure true
  rw [hb, hl]
  have e1 : (ScopeKind.function == ScopeKind.function) = true := by decide
  have e2 : (some NameKind.local == some NameKind.local) = true := by decide
  rw [e1, e2, Bool.true_and, Bool.true_and, h]
theorem swaps_cell {kx vx : Expr} {gens : List Comprehension} {scope : Scope} {pos py : Pos} {y : Str} {ln : Nat} (hl : env.kindOf y = some .cell) :
    swapsWith (.DictComp kx vx gens scope pos) (some (.Name y py)) ln env = pure false := by
  show (pure (env.blockKind == .function && env.kindOf y == some .local && py.line == pos.line && !(scope.names.any fun (n, k) => n == y && (k == .local || k == .cell))) : Sem Bool) = pure false
  rw [hl]
  have e2 : (some NameKind.cell == some NameKind.local) = false := by decide
  rw [e2, Bool.and_false, Bool.false_and, Bool.false_and]
/-- an owned list is not the empty one -/
theorem q_neE {a b : Addr} {vs : List Value} (H : St X B O l s) (ho : OPop O a (LO vs) O') (hb : B b = some { cls := .type "list", data := .seq #[] }) (hu : A.units < cLine) (h : Q (.bool (!vs.isEmpty)) s) :
    wpAny (model prog w) A (compareOp .NotEq (.ref a) (.ref b)) Q E s := by
  have hl := LO.isList (H.ownAt ho)
  have hb' : s.heap.IsList b #[] := ⟨_, H.fz _ _ hb, rfl, 0, rfl⟩
  cases vs with
  | nil => exact SeqAt.RcNeAt.lists (e := fun _ => true) hl hb' rfl hu (fun j h1 => absurd h1 (by simp)) prog w E Q h
  | cons v vs => exact SeqAt.RcNeAt.lists_lengths hl hb' (by simp) hu prog w E Q h
/-- xs[1::2] and xs[:n] of a list -/
def ListCut (Q : Value → Shared → Prop) (o vl vu vs : Value) (s₃ : Shared) : Prop :=
  ∃ lo hi st X B O l a xs, st ≠ some 0 ∧ o = .ref a ∧ IsPart vl lo ∧ IsPart vu hi ∧ IsPart vs st ∧ St X B O l s₃ ∧ s₃.heap.IsList a (List.toArray xs) ∧ xs.length ≤ sizeLine ∧
    ∀ c B' s', Sub B B' → B' c = some { cls := .type "list", data := .seq (slicePick xs.toArray lo hi st) } → St X B' O l s' → Q (.ref c) s'
theorem cut_core {value slice : Expr} (us : Addr → Addr → List Value) {o vl vu vs : Value} (h : ListCut Q o vl vu vs s)
    (hs : ∀ a i, subscripted slice false (.ref a) (.ref i) = operate (us a i) (getItem (.ref a) (.ref i)))
    (ht : ∀ a r, letTemporaryGo value (.ref a) r = pure ()) :
    wpAny (model prog w) A (subscriptTail value slice o (.ref s.heap.objs.size)) Q E { s with heap := s.heap.push { cls := .type "slice", data := .fields #[vl, vu, vs] } } := by
  obtain ⟨lo, hi, st, X, B, O, l, a, xs, h0, rfl, pl, pu, ps, H, hl, hz, hQ⟩ := h
  have H' : St X B O l { s with heap := s.heap.push { cls := .type "slice", data := .fields #[vl, vu, vs] } } := H.pushed (n := s.toks)
  have hl' : (s.heap.push { cls := .type "slice", data := .fields #[vl, vu, vs] }).IsList a xs.toArray := hl.push _
  obtain ⟨B', h1, h2, H''⟩ := H'.push (o := { cls := .type "list", data := .seq (slicePick xs.toArray lo hi st) }) rfl (n := s.toks)
  refine tail_of_ItemOn (s := { s with heap := s.heap.push { cls := .type "slice", data := .fields #[vl, vu, vs] } }) ⟨"list", _, slot_list_getitem.lookup, hl'.typeIs, wpAny_getItem_list_slice (s := { s with heap := s.heap.push { cls := .type "slice", data := .fields #[vl, vu, vs] } }) hl' (Heap.IsSliceOf.new ..) pl pu ps h0 (hQ _ B' _ h1 h2 H'') (by simpa using hz)⟩ (hs _ _) (ht _)
theorem e_cutStep {value lo st : Expr} {p pos : Pos}
    (h : wpAny (model prog w) A (eval value env) (fun o s₁ => wpAny (model prog w) A (eval lo env) (fun vl s₂ => wpAny (model prog w) A (eval st env) (fun vs s₃ => ListCut Q o vl .none vs s₃) E s₂) E s₁) E s)
    (hs : ∀ a i, subscripted (.Slice (some lo) none (some st) p) false (.ref a) (.ref i) = operate [.ref a, .ref i] (getItem (.ref a) (.ref i)) := by intro _ _; with_unfolding_all rfl)
    (ht : ∀ a r, letTemporaryGo value (.ref a) r = pure () := by intro _ _; with_unfolding_all rfl) :
    wpAny (model prog w) A (eval (.Subscript value (.Slice (some lo) none (some st) p) pos) env) Q E s := by
  refine Subscript_ (wpAny_mono h (fun o s₁ h₁ => ?_) fun _ _ x => x)
  exact wpAny_Slice (wpAny_evalPart_some (wpAny_mono h₁ (fun iv s₂ h₂ => wpAny_evalPart_none (wpAny_evalPart_some (wpAny_mono h₂ (fun kv s₃ h₃ => cut_core (fun a i => [.ref a, .ref i]) h₃ hs ht) fun _ _ x => x))) fun _ _ x => x))
theorem cutStep_end {a : Addr} {xs : List Value} {i k : Int} {t u : Tok} (H : St X B O l s) (hl : s.heap.IsList a xs.toArray) (hz : xs.length ≤ sizeLine) (hk : k ≠ 0)
    (h : ∀ c B' s', Sub B B' → B' c = some { cls := .type "list", data := .seq (slicePick xs.toArray (some i) none (some k)) } → St X B' O l s' → Q (.ref c) s') : ListCut Q (.ref a) (.int i t) .none (.int k u) s :=
  ⟨_, _, _, X, B, O, l, a, xs, by simpa using hk, rfl, .int _ _, .none, .int _ _, H, hl, hz, h⟩
theorem cutTo_end {a : Addr} {xs : List Value} {i' : Int} {t : Tok} (i : Nat) (H : St X B O l s) (hl : s.heap.IsList a xs.toArray) (hz : xs.length ≤ sizeLine) (hi : i' = (i : Int))
    (h : ∀ c B' s', Sub B B' → B' c = some { cls := .type "list", data := .seq (xs.take i).toArray } → St X B' O l s' → Q (.ref c) s') : ListCut Q (.ref a) .none (.int i' t) .none s := by
  subst hi
  exact ⟨_, _, _, X, B, O, l, a, xs, by simp, rfl, .none, .int _ _, .none, H, hl, hz, fun c B' s' hs hc H => h c B' s' hs (by rw [hc, pick_to]) H⟩
theorem e_cutTo {value hi : Expr} {p pos : Pos}
    (h : wpAny (model prog w) A (eval value env) (fun o s₁ => wpAny (model prog w) A (eval hi env) (fun vu s₂ => ListCut Q o .none vu .none s₂) E s₁) E s)
    (hs : ∀ a i, subscripted (.Slice none (some hi) none p) false (.ref a) (.ref i) = operate [.ref i, .ref a] (getItem (.ref a) (.ref i)) := by intro _ _; with_unfolding_all rfl)
    (ht : ∀ a r, letTemporaryGo value (.ref a) r = pure () := by intro _ _; with_unfolding_all rfl) :
    wpAny (model prog w) A (eval (.Subscript value (.Slice none (some hi) none p) pos) env) Q E s := by
  refine Subscript_ (wpAny_mono h (fun o s₁ h₁ => ?_) fun _ _ x => x)
  exact wpAny_Slice (wpAny_evalPart_none (wpAny_evalPart_some (wpAny_mono h₁ (fun kv s₃ h₃ => wpAny_evalPart_none (cut_core (fun a i => [.ref i, .ref a]) h₃ hs ht)) fun _ _ x => x)))
end
end Mine
end
-- part P6
section
open PySem PySem.Spec PySem.Calls PyProof.Rows PySem.W
namespace Mine
/-- the key at place j of a row that is to be a table -/
def keyAt (ds : List PyData) (j : Nat) : Ky := match ds[j]? with | some (.str x) => .s x | _ => .i j
def keysOf (ds : List PyData) : List Ky := (List.range ((ds.length + 1) / 2)).map fun i => keyAt ds (2 * i)
def storedD {K V : Type} [DecidableEq K] (kvs : List (K × V)) (k : K) (v : V) : List (K × V) := if kvs.any (fun kv => kv.1 = k) then kvs.map (fun kv => if kv.1 = k then (kv.1, v) else kv) else kvs ++ [(k, v)]
def foldD {K V : Type} [DecidableEq K] (l : List (K × V)) : List (K × V) := l.foldl (fun acc kv => storedD acc kv.1 kv.2) []
def tableOf (ds : List PyData) : List (Ky × PyData) := foldD ((keysOf ds).zip (oddsOf ds ++ [.none]))
/-- what a row becomes when it is closed -/
def closeOf (k : Int) (ds : List PyData) : PyData := if k = 9 then .tuple ds else if k = 10 then .dict ((tableOf ds).map fun kv => (kv.1.dat, kv.2)) else .list ds
theorem foldD_snoc {K V : Type} [DecidableEq K] (l : List (K × V)) (kv : K × V) : foldD (l ++ [kv]) = storedD (foldD l) kv.1 kv.2 := by unfold foldD; rw [List.foldl_append]; rfl
section
variable {prog : Program} {w : World} {B : FMap}
theorem put_rel (k : Ky) {v : Value} {d : PyData} (h : Rd prog w B v d) : ∀ {zs : List (Ky × Value)} {kds : List (Ky × PyData)}, zs.map (·.1) = kds.map (·.1) → RdAll prog w B (zs.map (·.2)) (kds.map (·.2)) →
    (zs.map (fun kv => if kv.1 = k then (kv.1, v) else kv)).map (·.1) = (kds.map (fun kv => if kv.1 = k then (kv.1, d) else kv)).map (·.1) ∧
    RdAll prog w B ((zs.map (fun kv => if kv.1 = k then (kv.1, v) else kv)).map (·.2)) ((kds.map (fun kv => if kv.1 = k then (kv.1, d) else kv)).map (·.2))
  | [], [], _, _ => ⟨rfl, .nil⟩
  | [], _ :: _, h, _ => by simp at h
  | _ :: _, [], h, _ => by simp at h
  | (k1, v1) :: zs, (k2, d2) :: kds, hk, hr => by
    simp only [List.map_cons, List.cons.injEq] at hk
    obtain ⟨rfl, hk⟩ := hk
    simp only [List.map_cons] at hr
    cases hr with
    | cons h1 h2 =>
      obtain ⟨i1, i2⟩ := put_rel k h hk h2
      simp only [List.map_cons]
      by_cases hkk : k1 = k
      · simp only [hkk, if_true]; exact ⟨by rw [i1], .cons h i2⟩
      · simp only [hkk, if_false]; exact ⟨by rw [i1], .cons h1 i2⟩
theorem stored_rel {k : Ky} {v : Value} {d : PyData} {zs : List (Ky × Value)} {kds : List (Ky × PyData)} (hk : zs.map (·.1) = kds.map (·.1)) (hr : RdAll prog w B (zs.map (·.2)) (kds.map (·.2))) (h : Rd prog w B v d) :
    (stored zs k v).map (·.1) = (storedD kds k d).map (·.1) ∧ RdAll prog w B ((stored zs k v).map (·.2)) ((storedD kds k d).map (·.2)) := by
  have ha : zs.any (fun kv => kv.1 = k) = kds.any (fun kv => kv.1 = k) := by
    have e1 : zs.any (fun kv => decide (kv.1 = k)) = (zs.map (·.1)).any (fun x => decide (x = k)) := by rw [List.any_map]; rfl
    have e2 : kds.any (fun kv => decide (kv.1 = k)) = (kds.map (·.1)).any (fun x => decide (x = k)) := by rw [List.any_map]; rfl
    rw [e1, e2, hk]
  unfold stored storedD
  rw [ha]
  split
  · exact put_rel k h hk hr
  · rw [List.map_append, List.map_append, List.map_append, List.map_append, hk]
    exact ⟨rfl, hr.append (.cons h .nil)⟩
theorem RdAll.pick {vs : List Value} {ds : List PyData} (h : RdAll prog w B vs ds) : ∀ is : List Nat, RdAll prog w B (is.filterMap (vs[·]?)) (is.filterMap (ds[·]?))
  | [] => .nil
  | i :: is => by
    have ih := h.pick is
    cases hv : vs[i]? with
    | none =>
      have : ds[i]? = none := by rw [List.getElem?_eq_none_iff, ← h.length]; exact List.getElem?_eq_none_iff.mp hv
      rw [List.filterMap_cons, List.filterMap_cons, hv, this]; exact ih
    | some v =>
      obtain ⟨d, hd, hvd⟩ := h.get hv
      rw [List.filterMap_cons, List.filterMap_cons, hv, hd]; exact .cons hvd ih
theorem RdAll.odds {vs : List Value} {ds : List PyData} (h : RdAll prog w B vs ds) : RdAll prog w B (oddsOf vs) (oddsOf ds) := by
  have := h.pick ((List.range (vs.length / 2)).map fun k => 2 * k + 1)
  rw [List.filterMap_map, List.filterMap_map] at this
  unfold oddsOf
  rw [← h.length]; exact this
theorem odds_length {α : Type} (vs : List α) : (oddsOf vs).length = vs.length / 2 := by
  unfold oddsOf
  have : ∀ is : List Nat, (∀ i ∈ is, 2 * i + 1 < vs.length) → (is.filterMap fun k => vs[2 * k + 1]?).length = is.length := by
    intro is
    induction is with
    | nil => intro _; rfl
    | cons i is ih =>
      intro h
      have hi := h i (.head _)
      rw [List.filterMap_cons, List.getElem?_eq_getElem hi]
      simp [ih fun j hj => h j (.tail _ hj)]
  rw [this _ (fun i hi => by have := List.mem_range.mp hi; omega), List.length_range]
theorem keys_length (ds : List PyData) : (keysOf ds).length = (ds.length + 1) / 2 := by unfold keysOf; simp
theorem zip_take_snoc {α β : Type} {a : List α} {b : List β} {i : Nat} {x : α} {y : β} (h1 : a[i]? = some x) (h2 : b[i]? = some y) : (a.zip b).take (i + 1) = (a.zip b).take i ++ [(x, y)] := take_snoc (by rw [List.getElem?_zip_eq_some]; exact ⟨h1, h2⟩)
theorem key_str {x : Str} {ds : List PyData} {j : Nat} (h : ds[j]? = some (.str x)) : keyAt ds j = .s x := by unfold keyAt; rw [h]
theorem key_other {d : PyData} {ds : List PyData} {j : Nat} (h : ds[j]? = some d) (hs : Ty.str.of d = false) : keyAt ds j = .i j := by
  unfold keyAt; rw [h]
  cases d <;> first | rfl | cases hs
theorem str_of {d : PyData} (hs : Ty.str.of d = true) : ∃ x, d = .str x := by cases d <;> first | exact ⟨_, rfl⟩ | cases hs
end
end Mine
end
-- part P7
section
open PySem PySem.Spec PySem.Calls PyProof.Rows PySem.W
namespace Mine
/-- the things that the law builds: at most m levels, small numbers, signs that there are -/
def Gd : Nat → PyData → Prop
  | _, .none => True
  | _, .bool _ => True
  | _, .int i => i.natAbs < 1000000000000
  | _, .str x => ∀ c ∈ x.cps.toList, c < 1114112
  | 0, .list _ => False
  | 0, .tuple _ => False
  | 0, .dict _ => False
  | m + 1, .list ds => ∀ d ∈ ds, Gd m d
  | m + 1, .tuple ds => ∀ d ∈ ds, Gd m d
  | m + 1, .dict D => ∃ kvs : List (Ky × PyData), D = kvs.map (fun kv => (kv.1.dat, kv.2)) ∧ (kvs.map (·.1)).Nodup ∧ ∀ kv ∈ kvs, Gd m kv.1.dat ∧ Gd m kv.2
mutual
/-- the weight of a thing -/
def wt : PyData → Nat
  | .none => 1
  | .bool _ => 1
  | .int _ => 1
  | .str x => 1 + x.cps.toList.length
  | .list ds => 1 + wtAll ds
  | .tuple ds => 1 + wtAll ds
  | .dict D => 1 + wtKvs D
def wtAll : List PyData → Nat
  | [] => 0
  | d :: r => wt d + wtAll r
def wtKvs : List (PyData × PyData) → Nat
  | [] => 0
  | (k, v) :: r => wt k + wt v + wtKvs r
end
theorem wt_pos (d : PyData) : 1 ≤ wt d := by cases d <;> simp [wt] <;> omega
theorem wtAll_append : ∀ a b : List PyData, wtAll (a ++ b) = wtAll a + wtAll b
  | [], b => by simp [wtAll]
  | d :: a, b => by simp [wtAll, wtAll_append a b]; omega
theorem len_wtAll : ∀ ds : List PyData, ds.length ≤ wtAll ds
  | [] => by simp [wtAll]
  | d :: r => by have := wt_pos d; have := len_wtAll r; simp [wtAll]; omega
theorem wt_mem : ∀ {ds : List PyData} {d : PyData}, d ∈ ds → wt d ≤ wtAll ds
  | d :: r, _, .head _ => by simp [wtAll]
  | d :: r, _, .tail _ h => by have := wt_mem h; simp [wtAll]; omega
theorem len_wtKvs : ∀ ds : List (PyData × PyData), ds.length ≤ wtKvs ds
  | [] => by simp [wtKvs]
  | (k, v) :: r => by have := wt_pos k; have := len_wtKvs r; simp [wtKvs]; omega
theorem wtKvs_mem : ∀ {ds : List (PyData × PyData)} {kv : PyData × PyData}, kv ∈ ds → wt kv.1 + wt kv.2 ≤ wtKvs ds
  | (k, v) :: r, _, .head _ => by simp [wtKvs]
  | (k, v) :: r, _, .tail _ h => by have := wtKvs_mem h; simp [wtKvs]; omega
theorem Gd.succ : ∀ {m : Nat} {d : PyData}, Gd m d → Gd (m + 1) d
  | 0, .none, _ => by simp [Gd]
  | 0, .bool _, _ => by simp [Gd]
  | 0, .int _, h => by simpa [Gd] using h
  | 0, .str _, h => by simpa [Gd] using h
  | 0, .list _, h => by simp [Gd] at h
  | 0, .tuple _, h => by simp [Gd] at h
  | 0, .dict _, h => by simp [Gd] at h
  | m + 1, .none, _ => by simp [Gd]
  | m + 1, .bool _, _ => by simp [Gd]
  | m + 1, .int _, h => by simpa [Gd] using h
  | m + 1, .str _, h => by simpa [Gd] using h
  | m + 1, .list ds, h => by unfold Gd at h ⊢; exact fun d hd => (h d hd).succ
  | m + 1, .tuple ds, h => by unfold Gd at h ⊢; exact fun d hd => (h d hd).succ
  | m + 1, .dict ds, h => by unfold Gd at h ⊢; obtain ⟨kvs, h1, h2, h3⟩ := h; exact ⟨kvs, h1, h2, fun kv hkv => ⟨(h3 kv hkv).1.succ, (h3 kv hkv).2.succ⟩⟩
theorem Gd.le {m n : Nat} {d : PyData} (h : Gd m d) (hn : m ≤ n) : Gd n d := by
  induction hn with
  | refl => exact h
  | step _ ih => exact ih.succ
theorem Gd.dp : ∀ {m : Nat} {d : PyData}, Gd m d → wt d ≤ 4194304 → Dp m d
  | 0, .none, _, _ => by simp [Dp]
  | 0, .bool _, _, _ => by simp [Dp]
  | 0, .int _, h, _ => by simp [Dp]
  | 0, .str _, h, _ => by simp [Dp]
  | 0, .list _, h, _ => by simp [Gd] at h
  | 0, .tuple _, h, _ => by simp [Gd] at h
  | 0, .dict _, h, _ => by simp [Gd] at h
  | m + 1, .none, _, _ => by simp [Dp]
  | m + 1, .bool _, _, _ => by simp [Dp]
  | m + 1, .int _, h, _ => by simp [Dp]
  | m + 1, .str _, h, _ => by simp [Dp]
  | m + 1, .list ds, h, hw => by
    unfold Gd at h; unfold wt at hw; unfold Dp
    exact ⟨by have := len_wtAll ds; omega, fun d hd => (h d hd).dp (by have := wt_mem hd; omega)⟩
  | m + 1, .tuple ds, h, hw => by
    unfold Gd at h; unfold wt at hw; unfold Dp
    exact ⟨by have := len_wtAll ds; omega, fun d hd => (h d hd).dp (by have := wt_mem hd; omega)⟩
  | m + 1, .dict D, h, hw => by
    unfold Gd at h; unfold wt at hw; unfold Dp
    obtain ⟨kvs, h1, h2, h3⟩ := h
    refine ⟨by have := len_wtKvs D; omega, fun kv hkv => ?_⟩
    have hw2 := wtKvs_mem hkv
    rw [h1] at hkv
    obtain ⟨kv', hkv', rfl⟩ := List.mem_map.mp hkv
    exact (h3 kv' hkv').2.dp (by have : wt (kv'.1.dat, kv'.2).2 = wt kv'.2 := rfl; omega)
/-- the weight of a key and its value -/
def kvw (kv : Ky × PyData) : Nat := wt kv.1.dat + wt kv.2
theorem wtKvs_map : ∀ kvs : List (Ky × PyData), wtKvs (kvs.map fun kv => (kv.1.dat, kv.2)) = (kvs.map kvw).sum
  | [] => by simp [wtKvs]
  | kv :: r => by simp [wtKvs, wtKvs_map r, kvw]
theorem put_w (k : Ky) (d : PyData) : ∀ {kds : List (Ky × PyData)}, (kds.map (·.1)).Nodup → ((kds.map (fun kv => if kv.1 = k then (kv.1, d) else kv)).map kvw).sum ≤ (kds.map kvw).sum + wt d
  | [], _ => by simp
  | kv :: r, h => by
    rw [List.map_cons, List.nodup_cons] at h
    by_cases hk : kv.1 = k
    · have hr : r.map (fun kv => if kv.1 = k then (kv.1, d) else kv) = r := by
        rw [List.map_congr_left (g := id) fun x hx => ?_, List.map_id]
        have : x.1 ≠ k := fun e => h.1 (by rw [hk, ← e]; exact List.mem_map_of_mem (f := (·.1)) hx)
        simp [this]
      simp only [List.map_cons, hk, if_true, hr, List.sum_cons, kvw]; omega
    · have ih := put_w k d h.2
      simp only [List.map_cons, hk, if_false, List.sum_cons]; omega
theorem stored_w {k : Ky} {d : PyData} {kds : List (Ky × PyData)} (h : (kds.map (·.1)).Nodup) : ((storedD kds k d).map kvw).sum ≤ (kds.map kvw).sum + (wt k.dat + wt d) := by
  unfold storedD
  split
  · have := put_w k d h; omega
  · rw [List.map_append, List.sum_append]; simp [kvw]
theorem put_keys (k : Ky) (d : PyData) (kds : List (Ky × PyData)) : (kds.map (fun kv => if kv.1 = k then (kv.1, d) else kv)).map (·.1) = kds.map (·.1) := by
  rw [List.map_map]
  refine List.map_congr_left fun kv _ => ?_
  simp only [Function.comp_apply]; split <;> rfl
theorem stored_nodup {k : Ky} {d : PyData} {kds : List (Ky × PyData)} (h : (kds.map (·.1)).Nodup) : ((storedD kds k d).map (·.1)).Nodup := by
  unfold storedD
  split
  · rw [put_keys]; exact h
  · rename_i hn
    rw [List.map_append, List.nodup_append]
    refine ⟨h, by simp, fun a ha b hb e => ?_⟩
    simp at hb; subst hb; subst e
    obtain ⟨kv, hkv, e⟩ := List.mem_map.mp ha
    exact hn (List.any_eq_true.mpr ⟨kv, hkv, by simpa using e⟩)
theorem stored_mem {k : Ky} {d : PyData} {kds : List (Ky × PyData)} {kv : Ky × PyData} (h : kv ∈ storedD kds k d) : (kv ∈ kds ∨ kv = (k, d)) := by
  unfold storedD at h
  split at h
  · obtain ⟨kv', h', e⟩ := List.mem_map.mp h
    split at e
    · rename_i hk; subst e; rw [hk]; exact .inr rfl
    · subst e; exact .inl h'
  · rcases List.mem_append.mp h with h | h
    · exact .inl h
    · exact .inr (by simpa using h)
theorem foldD_facts : ∀ (n : Nat) (l : List (Ky × PyData)), l.length = n → ((foldD l).map (·.1)).Nodup ∧ ((foldD l).map kvw).sum ≤ (l.map kvw).sum ∧ ∀ kv ∈ foldD l, kv ∈ l
  | 0, l, h => by obtain rfl := List.length_eq_zero_iff.mp h; simp [foldD]
  | n + 1, l, h => by
    have hne : l ≠ [] := by intro e; subst e; simp at h
    obtain ⟨l', kv, rfl⟩ : ∃ l' kv, l = l' ++ [kv] := ⟨l.dropLast, l.getLast hne, (List.dropLast_concat_getLast hne).symm⟩
    obtain ⟨h1, h2, h3⟩ := foldD_facts n l' (by simpa using h)
    rw [foldD_snoc]
    refine ⟨stored_nodup h1, ?_, fun x hx => ?_⟩
    · have := stored_w (k := kv.1) (d := kv.2) h1
      rw [List.map_append, List.sum_append]; simp [kvw] at *; omega
    · rcases stored_mem hx with hx | rfl
      · exact List.mem_append_left _ (h3 x hx)
      · simp
theorem zip_w : ∀ (ks : List Ky) (ds : List PyData), ((ks.zip ds).map kvw).sum ≤ (ks.map fun k => wt k.dat).sum + wtAll ds
  | [], ds => by simp
  | k :: ks, [] => by simp
  | k :: ks, d :: ds => by have := zip_w ks ds; simp [kvw, wtAll]; omega
theorem key_w {ds : List PyData} {j : Nat} {d : PyData} (h : ds[j]? = some d) : wt (keyAt ds j).dat ≤ wt d := by
  unfold keyAt; rw [h]
  cases d <;> first | exact Nat.le_refl _ | exact wt_pos _
theorem key_shift (a b : PyData) (r : List PyData) (j : Nat) : wt (keyAt (a :: b :: r) (j + 2)).dat = wt (keyAt r j).dat := by
  unfold keyAt
  have : (a :: b :: r)[j + 2]? = r[j]? := by simp
  rw [this]
  cases hr : r[j]? with
  | none => simp [Ky.dat, wt]
  | some d => cases d <;> simp [Ky.dat, wt]
theorem keys_w : ∀ ds : List PyData, ((keysOf ds).map fun k => wt k.dat).sum + wtAll (oddsOf ds) ≤ wtAll ds
  | [] => by simp [keysOf, oddsOf, wtAll]
  | [a] => by
    have := key_w (ds := [a]) (j := 0) (d := a) rfl
    simp [keysOf, oddsOf, wtAll]; omega
  | a :: b :: r => by
    have ih := keys_w r
    have h0 := key_w (ds := a :: b :: r) (j := 0) (d := a) rfl
    have e1 : ((keysOf (a :: b :: r)).map fun k => wt k.dat).sum = wt (keyAt (a :: b :: r) 0).dat + ((keysOf r).map fun k => wt k.dat).sum := by
      unfold keysOf
      rw [show ((a :: b :: r).length + 1) / 2 = (r.length + 1) / 2 + 1 by simp; omega, List.range_succ_eq_map]
      simp only [List.map_cons, List.map_map, List.sum_cons, Nat.mul_zero]
      congr 2
      refine List.map_congr_left fun i _ => ?_
      simp only [Function.comp_apply]
      rw [show 2 * Nat.succ i = 2 * i + 2 by omega, key_shift]
    have e2 : oddsOf (a :: b :: r) = b :: oddsOf r := by
      unfold oddsOf
      rw [show (a :: b :: r).length / 2 = r.length / 2 + 1 by simp; omega, List.range_succ_eq_map, List.filterMap_cons]
      simp only [Nat.mul_zero, Nat.zero_add, List.getElem?_cons_succ, List.getElem?_cons_zero, List.filterMap_map]
      congr 1
    rw [e1, e2]
    simp [wtAll]; omega
theorem odds_mem {ds : List PyData} {d : PyData} (h : d ∈ oddsOf ds) : d ∈ ds := by
  unfold oddsOf at h
  obtain ⟨k, _, hk⟩ := List.mem_filterMap.mp h
  exact List.mem_of_getElem? hk
theorem keys_gd {e : Nat} {ds : List PyData} (h : ∀ d ∈ ds, Gd e d) (hn : ds.length < 1000000000000) {k : Ky} (hk : k ∈ keysOf ds) : Gd e k.dat := by
  unfold keysOf at hk
  obtain ⟨i, hi, rfl⟩ := List.mem_map.mp hk
  have hi' := List.mem_range.mp hi
  unfold keyAt
  cases hd : ds[2 * i]? with
  | none => have := List.getElem?_eq_none_iff.mp hd; omega
  | some d =>
    have hg := h d (List.mem_of_getElem? hd)
    cases d with
    | str x => cases e <;> simpa [Ky.dat, Gd] using hg
    | _ => cases e <;> (simp [Ky.dat, Gd]; omega)
theorem close_facts {e : Nat} {k : Int} {ds : List PyData} (h : ∀ d ∈ ds, Gd e d) (hn : wtAll ds < 1000000000000) : Gd (e + 1) (closeOf k ds) ∧ wt (closeOf k ds) ≤ 2 + wtAll ds := by
  unfold closeOf
  split
  · exact ⟨by unfold Gd; exact h, by unfold wt; omega⟩
  split
  · obtain ⟨f1, f2, f3⟩ := foldD_facts _ ((keysOf ds).zip (oddsOf ds ++ [.none])) rfl
    have hl := len_wtAll ds
    refine ⟨?_, ?_⟩
    · unfold Gd
      refine ⟨tableOf ds, rfl, f1, fun kv hkv => ?_⟩
      have hm := f3 kv hkv
      have hk := (List.of_mem_zip hm).1
      have hv := (List.of_mem_zip hm).2
      refine ⟨keys_gd h (by omega) hk, ?_⟩
      rcases List.mem_append.mp hv with hv | hv
      · exact h _ (odds_mem hv)
      · simp at hv; rw [hv]; cases e <;> simp [Gd]
    · unfold wt tableOf
      rw [wtKvs_map]
      have h1 := zip_w (keysOf ds) (oddsOf ds ++ [.none])
      rw [wtAll_append] at h1
      have h2 := keys_w ds
      have h3 : wtAll [PyData.none] = 1 := by simp [wtAll, wt]
      omega
  · exact ⟨by unfold Gd; exact h, by unfold wt; omega⟩
/-- a value that `is` may look at: its token was given -/
def Nz : Value → Prop
  | .int _ t => t ≠ 0
  | .str _ t => t ≠ 0
  | _ => True
/-- the rows that are open, the top one first; n: their weight -/
inductive Stk (prog : Program) (w : World) (B : FMap) (e : Nat) : List (Addr × List Value) → Nat → Prop
  | nil : Stk prog w B e [] 0
  | cons {a vs ds st n} : RdAll prog w B vs ds → (∀ d ∈ ds, Gd e d) → (∀ v ∈ vs, Nz v) → Stk prog w B e st n → Stk prog w B e ((a, vs) :: st) (1 + wtAll ds + n)
section
variable {prog : Program} {w : World} {B B' : FMap} {e e' n : Nat} {st : List (Addr × List Value)}
theorem Stk.sub (hs : Sub B B') (he : e ≤ e') (h : Stk prog w B e st n) : Stk prog w B' e' st n := by
  induction h with
  | nil => exact .nil
  | cons h1 h2 hz _ ih => exact .cons (h1.sub hs) (fun d hd => (h2 d hd).le he) hz ih
theorem Stk.len (h : Stk prog w B e st n) : st.length ≤ n ∧ ∀ r ∈ st, r.2.length ≤ n := by
  induction h with
  | nil => exact ⟨Nat.le_refl _, fun r hr => (nomatch hr)⟩
  | @cons a vs ds st n h1 h2 _ _ ih =>
    have hl := len_wtAll ds
    have hv := h1.length
    refine ⟨by simp; omega, fun r hr => ?_⟩
    rcases List.mem_cons.mp hr with rfl | hr
    · show vs.length ≤ _; omega
    · have := ih.2 r hr; omega
end
section
variable {prog : Program} {w : World} {B B' : FMap} {e e' n : Nat} {st : List (Addr × List Value)}
theorem Stk.app {a : Addr} {vs : List Value} {v : Value} {d : PyData} (h : Stk prog w B e ((a, vs) :: st) n) (hv : Rd prog w B v d) (hd : Gd e d) (hz : Nz v) : Stk prog w B e ((a, vs ++ [v]) :: st) (n + wt d) := by
  cases h with
  | @cons _ _ ds _ m h1 h2 hzs h3 =>
    have := Stk.cons (a := a) (h1.snoc hv) (fun x hx => by rcases List.mem_append.mp hx with hx | hx; exact h2 x hx; rw [List.mem_singleton] at hx; rw [hx]; exact hd) (fun x hx => by rcases List.mem_append.mp hx with hx | hx; exact hzs x hx; rw [List.mem_singleton] at hx; rw [hx]; exact hz) h3
    rw [wtAll_append, show wtAll [d] = wt d by simp [wtAll]] at this
    rw [show 1 + wtAll ds + m + wt d = 1 + (wtAll ds + wt d) + m by omega]; exact this
theorem Stk.push {a : Addr} (h : Stk prog w B e st n) : Stk prog w B e ((a, []) :: st) (n + 1) := by
  have := Stk.cons (a := a) RdAll.nil (fun x hx => (nomatch hx)) (fun x hx => (nomatch hx)) h
  rw [show 1 + wtAll [] + n = n + 1 by simp [wtAll]; omega] at this; exact this
theorem rd_snocInv {vs : List Value} {v : Value} {ds : List PyData} (h : RdAll prog w B (vs ++ [v]) ds) : ∃ ds' d, ds = ds' ++ [d] ∧ RdAll prog w B vs ds' ∧ Rd prog w B v d := by
  induction vs generalizing ds with
  | nil =>
    cases h with
    | cons h1 h2 => cases h2; exact ⟨[], _, rfl, .nil, h1⟩
  | cons u vs ih =>
    cases h with
    | cons h1 h2 =>
      obtain ⟨ds', d, rfl, h3, h4⟩ := ih h2
      exact ⟨_ :: ds', d, rfl, .cons h1 h3, h4⟩
theorem Stk.lastStr {a : Addr} {vs : List Value} {x : List Nat} {c : Nat} {t t' : Tok} (h : Stk prog w B e ((a, vs ++ [.str (S x) t]) :: st) n) (hc : c < 1114112) (hz : t' ≠ 0) : Stk prog w B e ((a, vs ++ [.str (S (x ++ [c])) t']) :: st) (n + 1) ∧ x.length ≤ n := by
  cases h with
  | @cons _ _ ds _ m h1 h2 hzs h3 =>
    obtain ⟨ds', d, rfl, h4, h5⟩ := rd_snocInv h1
    have hd : d = .str (S x) := by cases h5; rfl
    subst hd
    have hg := h2 (.str (S x)) (by simp)
    have hw : wt (.str (S x)) = 1 + x.length := by simp [wt, S]
    have hw' : wt (.str (S (x ++ [c]))) = 2 + x.length := by simp [wt, S]; omega
    have hg' : Gd e (.str (S (x ++ [c]))) := by
      have key : ∀ y ∈ x ++ [c], y < 1114112 := fun y hy => by
        rcases List.mem_append.mp hy with hy | hy
        · cases e <;> (simp [Gd, S] at hg; exact hg y hy)
        · simp at hy; omega
      cases e <;> simpa [Gd, S] using key
    have := Stk.cons (a := a) (h4.snoc (.str (S (x ++ [c])) t')) (fun y hy => by rcases List.mem_append.mp hy with hy | hy; exact h2 y (List.mem_append_left _ hy); rw [List.mem_singleton] at hy; rw [hy]; exact hg') (fun y hy => by rcases List.mem_append.mp hy with hy | hy; exact hzs y (List.mem_append_left _ hy); rw [List.mem_singleton] at hy; rw [hy]; exact hz) h3
    rw [wtAll_append, show wtAll [PyData.str (S (x ++ [c]))] = 2 + x.length by simp [wtAll, hw']] at this
    rw [wtAll_append, show wtAll [PyData.str (S x)] = 1 + x.length by simp [wtAll, hw]]
    exact ⟨by rw [show 1 + (wtAll ds' + (1 + x.length)) + m + 1 = 1 + (wtAll ds' + (2 + x.length)) + m by omega]; exact this, by omega⟩
theorem close_nz {k : Int} {ds : List PyData} {y : Value} (h : Rd prog w B y (closeOf k ds)) : Nz y := by
  unfold closeOf at h
  split at h
  · cases h; trivial
  split at h
  · generalize hq : PyData.dict _ = q at h
    cases h <;> first | trivial | (cases hq)
  · cases h; trivial
/-- two rows, of which the upper one is closed -/
theorem Stk.close {a p : Addr} {vs ps : List Value} (h : Stk prog w B e ((a, vs) :: (p, ps) :: st) n) (hn : n < 1000000) : ∃ ds, RdAll prog w B vs ds ∧
    ∀ B' k y, Sub B B' → Rd prog w B' y (closeOf k ds) → ∃ n', Stk prog w B' (e + 1) ((p, ps ++ [y]) :: st) n' ∧ n' ≤ n + 1 := by
  cases h with
  | @cons _ _ ds _ m h1 h2 _ h3 =>
    refine ⟨ds, h1, fun B' k y hs hy => ?_⟩
    obtain ⟨c1, c2⟩ := close_facts (k := k) h2 (by omega)
    have := (h3.sub hs (Nat.le_succ e)).app hy c1 (close_nz hy)
    exact ⟨_, this, by omega⟩
end
def stackOwns (st : List (Addr × List Value)) : Owns := st.map fun r => (r.1, LO r.2)
def stackRefs (st : List (Addr × List Value)) : List Value := (st.map fun r => Value.ref r.1).reverse
theorem stackRefs_cons {a : Addr} {vs : List Value} {st : List (Addr × List Value)} : stackRefs ((a, vs) :: st) = stackRefs st ++ [.ref a] := by simp [stackRefs]
theorem stackRefs_len (st : List (Addr × List Value)) : (stackRefs st).length = st.length := by simp [stackRefs]
theorem perm_push {α : Type} {x a b : α} {q r : List α} : (x :: (q ++ a :: b :: r)).Perm (q ++ a :: b :: x :: r) := by
  have := (List.perm_middle (a := x) (l₁ := q ++ [a, b]) (l₂ := r)).symm
  simpa using this
theorem perm_lend {α : Type} {a b c d : α} {q r : List α} : (q ++ a :: b :: c :: d :: r).Perm ([b, a, c, d] ++ (q ++ r)) := by
  have h1 : (q ++ a :: b :: c :: d :: r).Perm ((a :: b :: c :: d :: r) ++ q) := List.perm_append_comm
  refine h1.trans ?_
  refine (List.Perm.swap b a _).trans ?_
  show (b :: a :: c :: d :: (r ++ q)).Perm (b :: a :: c :: d :: (q ++ r))
  exact .cons _ (.cons _ (.cons _ (.cons _ List.perm_append_comm)))
theorem perm_back {α : Type} {a b c : α} {q r cl : List α} : ((cl ++ [b, a, c]) ++ (q ++ r)).Perm (cl ++ (q ++ a :: b :: c :: r)) := by
  rw [List.append_assoc]
  refine List.Perm.append_left cl ?_
  show (b :: a :: c :: (q ++ r)).Perm (q ++ a :: b :: c :: r)
  refine (List.Perm.swap a b _).trans ?_
  have h1 : (q ++ a :: b :: c :: r).Perm ((a :: b :: c :: r) ++ q) := List.perm_append_comm
  refine List.Perm.trans ?_ h1.symm
  exact .cons _ (.cons _ (.cons _ List.perm_append_comm))
theorem St.dropL {X : Fx} {B : FMap} {cl O : Owns} {l : Locs} {s : Shared} (H : St X B (cl ++ O) l s) : St X B O l s := by
  induction cl with
  | nil => exact H
  | cons q cl ih => exact ih (H.drop (O₁ := []) (a := q.1) (P := q.2) rfl)
end Mine
end
-- part C21
section
open PySem PySem.Spec PySem.Calls PyProof.Rows PySem.W
open Builtin Builtin.Str Builtin.Int
set_option maxRecDepth 100000
namespace Mine
theorem entry_ascii : entryFor table "ascii" = some Builtin.«ascii» := entryFor_of_tree (by kernel_rfl)
theorem kind_ascii : builtinKind "ascii" = none := by decide +kernel
theorem plain_ascii : plainId "ascii" = true := by decide +kernel
theorem args_ascii1 (a : Value) : argsOk "ascii" ⟨[a], []⟩ := by unfold argsOk; kernel_rfl
/-- figures of sixteen, so many at least -/
def hexOf (n width : Nat) : List Nat :=
  let ds := (Nat.toDigits 16 n).map (·.toNat)
  List.replicate (width - ds.length) 48 ++ ds
def aesc (c : Nat) : List Nat :=
  if c < 128 then [c]
  else if c < 256 then [92, 120] ++ hexOf c 2
  else if c < 65536 then [92, 117] ++ hexOf c 4
  else [92, 85] ++ hexOf c 8
/-- what ascii makes of a text -/
def asciiOf (x : Str) : Str := ⟨x.cps.flatMap fun c => (aesc c).toArray⟩
theorem asciiOf_low {x : Str} (h : x.cps.all (· < 128) = true) : asciiOf x = x := by
  obtain ⟨⟨l⟩⟩ := x
  unfold asciiOf
  have hl : ∀ c ∈ l, c < 128 := by simpa using h
  have : l.flatMap aesc = l := by
    clear h
    induction l with
    | nil => rfl
    | cons c l ih =>
      rw [List.flatMap_cons, ih (fun c hc => hl c (.tail _ hc))]
      have := hl c (.head _)
      unfold aesc
      rw [if_pos this]; rfl
  congr 1
  apply Array.ext'
  simpa using this
section
variable {prog : Program} {w : World} {A : Around} {E : Value → Shared → Prop} {s : Shared} {Q : Value → Shared → Prop}
theorem aesc_fold (l : List Nat) : ∀ n : Nat, l.foldl (fun n c => n + (aesc c).length) n = n + (l.flatMap aesc).length := by
  induction l with
  | nil => intro n; simp
  | cons c l ih => intro n; rw [List.foldl_cons, ih, List.flatMap_cons, List.length_append]; omega
theorem asciiOf_toList (x : Str) : (asciiOf x).cps.toList = x.cps.toList.flatMap aesc := by
  unfold asciiOf
  simp [Array.toList_flatMap]
theorem aesc_len (x : Str) : x.cps.foldl (fun n c => n + (aesc c).length) 0 = (asciiOf x).length := by
  rw [← Array.foldl_toList, aesc_fold, Nat.zero_add, ← asciiOf_toList]; rfl
theorem ascii_slot {T idr : String} {v : Value} (hu : A.units + 1 < cLine) (hT : s.TypeIs v T) (slotRepr : SlotG T "__repr__" idr)
    (hc : wpAny (model prog w) A.in1 (call (.builtin idr) [v]) (fun r s₁ => ∃ x t, r = .str x t ∧ (asciiOf x).length ≤ sizeLine ∧ ∀ t s', s'.heap = s₁.heap → s'.gens = s₁.gens → s'.os = s₁.os → s'.drawn = s₁.drawn → Q (.str (asciiOf x) t) s') E s) :
    wpAny (model prog w) A (call (.builtin "ascii") [v]) Q E s := by
  refine Calls.call_function_entry kind_ascii plain_ascii entry_ascii (args_ascii1 _) ?_
  unfold Builtin.«ascii»
  refine wpAny_bind (m := oneArg "ascii" _) (wpAny_pure ?_)
  refine wpAny_bind (m := cRoomFor _ _) (wpAny_cRoomFor (by show A.units + 1 < cLine; exact hu) ?_)
  refine wpAny_bind (m := callSpecialIfBound? v (Str.ofString "__repr__")) (wpAny_callSpecialIfBound?_slotG (name := Str.ofString "__repr__") hT slotRepr (wpAny_mono hc (fun r s₁ h₁ => ?_) fun _ _ e => e))
  obtain ⟨x, t, rfl, hz, hq⟩ := h₁
  refine wpAny_bind (m := asStr? (.str x t)) (wpAny_pure ?_)
  dsimp only
  by_cases hx : x.cps.all (· < 128) = true
  · rw [if_pos hx]
    refine wpAny_bind (wpAny_rule ?_)
    refine wpAny_bind (wpAny_pure (wpAny_pure ⟨_, rfl, ?_⟩))
    have := hq t s₁ rfl rfl rfl rfl
    rw [asciiOf_low hx] at this
    exact this
  · rw [if_neg hx]
    refine wpAny_bind (wpAny_letGo ?_)
    show wpAny _ _ (if (decide (10 * x.length > sizeLine) && decide (x.cps.foldl (fun n c => n + (aesc c).length) 0 > sizeLine)) = true then (do unsupported "str:memory"; retStr (asciiOf x)) else retStr (asciiOf x)) _ _ _
    rw [aesc_len, if_neg (by simp; intro _; omega)]
    show wpAny _ _ (mkStr (asciiOf x) >>= fun v => ret v) _ _ _
    exact wpAny_bind (wpAny_mkStr (wpAny_pure ⟨_, rfl, hq _ _ rfl rfl rfl rfl⟩) hz)
end
section
variable {X : Fx} {B : FMap} {O : Owns} {l : Locs} {s : Shared} {prog : Program} {w : World} {A : Around} {E : Value → Shared → Prop} {Q : Value → Shared → Prop}
/-- what is asked of a thing that is to be written -/
structure Wr (A : Around) (d : PyData) : Prop where
  show_ : d.showable = true
  size : d.shown.length ≤ sizeLine
  asize : (asciiOf d.shown).length ≤ sizeLine
  guards : A.guards = some []
  units : A.units + (d.depth + 3) < cLine
theorem e_repr {v : Value} {d : PyData} (H : St X B O l s) (hv : Rd prog w B v d) (W : Wr A d) (h : ∀ t s', St X B O l s' → Q (.str d.shown t) s') : wpAny (model prog w) A (call (.builtin "repr") [v]) Q E s := by
  obtain ⟨as, hr, hn⟩ := hv.reads H.fzIn
  have hs := W.show_
  have hu := W.units
  have href : ∀ a, v = .ref a → wpAny (model prog w) A (call (.builtin "repr") [v]) Q E s := fun a e => by
    subst e
    exact any_toks (repr_of_reads' hr hs (fun _ => hn) W.guards (by omega) (fun _ _ e => e) (fun h' u tk hk (hle : s.toks ≤ tk) => h _ _ (H.keeps (n := tk) hk)) W.size)
  cases hv with
  | none => exact P.repr_of_none (by have := h s.toks _ (H.tok (n := s.toks + 1)); rwa [PyData.shown_none] at this)
  | bool b => exact P.repr_of_bool (by have := h s.toks _ (H.tok (n := s.toks + 1)); rwa [PyData.shown_bool] at this)
  | int i t => exact P.repr_of_int (by simpa [PyData.showable] using hs) (by have := h s.toks _ (H.tok (n := s.toks + 1)); rwa [PyData.shown_int] at this)
  | str x t => exact P.repr_of_str (by have := h s.toks _ (H.tok (n := s.toks + 1)); rwa [PyData.shown_str] at this) (by have := W.size; rwa [PyData.shown_str] at this)
  | list _ _ _ _ => exact href _ rfl
  | tuple _ _ _ _ => exact href _ rfl
  | dict _ _ _ => exact href _ rfl
/-- what str makes of a thing -/
def strOfD (d : PyData) : Str := match d with | .str x => x | d => d.shown
theorem e_str {v : Value} {d : PyData} (H : St X B O l s) (hv : Rd prog w B v d) (W : Wr A d) (h : ∀ t s', St X B O l s' → Q (.str (strOfD d) t) s') : wpAny (model prog w) A (call (.type "str") [v]) Q E s := by
  obtain ⟨as, hr, hn⟩ := hv.reads H.fzIn
  have hs := W.show_
  have hu := W.units
  cases hv with
  | none => exact P.str_of_none (by have := h s.toks _ (H.tok (n := s.toks + 1)); rwa [show strOfD .none = PyData.none.shown from rfl, PyData.shown_none] at this)
  | bool b => exact P.str_of_bool (by have := h s.toks _ (H.tok (n := s.toks + 1)); rwa [show strOfD (.bool b) = (PyData.bool b).shown from rfl, PyData.shown_bool] at this)
  | int i t => exact P.str_of_int (by simpa [PyData.showable] using hs) (by have := h s.toks _ (H.tok (n := s.toks + 1)); rwa [show strOfD (.int i) = (PyData.int i).shown from rfl, PyData.shown_int] at this)
  | str x t => exact P.str_of_str (h t s H)
  | list _ _ _ _ => exact any_toks (str_of_reads hr hs (fun _ => hn) W.guards (by omega) (fun _ _ e => e) (fun h' u tk hk (hle : s.toks ≤ tk) => h _ _ (H.keeps (n := tk) hk)) W.size)
  | tuple _ _ _ _ => exact any_toks (str_of_reads hr hs (fun _ => hn) W.guards (by omega) (fun _ _ e => e) (fun h' u tk hk (hle : s.toks ≤ tk) => h _ _ (H.keeps (n := tk) hk)) W.size)
  | dict _ _ _ => exact any_toks (str_of_reads hr hs (fun _ => hn) W.guards (by omega) (fun _ _ e => e) (fun h' u tk hk (hle : s.toks ≤ tk) => h _ _ (H.keeps (n := tk) hk)) W.size)
theorem ascii_value {T id : String} {Bi : Builtin} {v : Value} {x : Str} (H : St X B O l s) (hu : A.units + 1 < cLine) (hT : s.TypeIs v T) (slot : Slot T "__repr__" id) (entry : entryFor table id = some Bi) (args : argsOk id ⟨[v], []⟩) (g : Gives (Bi ⟨[v], []⟩) (.str x))
    (hz : x.length ≤ sizeLine) (hz' : (asciiOf x).length ≤ sizeLine) (h : ∀ t s', St X B O l s' → Q (.str (asciiOf x) t) s') : wpAny (model prog w) A (call (.builtin "ascii") [v]) Q E s :=
  any_toks (ascii_slot hu hT slot.toG (call_gives slot hT entry args g ⟨hz, ⟨x, s.toks, rfl, hz', fun t s' h1 h2 h3 h4 (hle : s.toks ≤ s'.toks) => h t s' (H.to (by rw [h1]; exact Keep.refl _) h2 h3 h4 (Nat.lt_of_lt_of_le H.tk hle))⟩⟩))
theorem e_ascii {v : Value} {d : PyData} (H : St X B O l s) (hv : Rd prog w B v d) (W : Wr A d) (h : ∀ t s', St X B O l s' → Q (.str (asciiOf d.shown) t) s') : wpAny (model prog w) A (call (.builtin "ascii") [v]) Q E s := by
  obtain ⟨as, hr, hn⟩ := hv.reads H.fzIn
  have hs := W.show_
  have hu := W.units
  have href : ∀ a, v = .ref a → wpAny (model prog w) A (call (.builtin "ascii") [v]) Q E s := fun a e => by
    subst e
    obtain ⟨T, idr, S⟩ := showsBy_of_reads (prog := prog) (w := w) hr hs (fun _ => hn) W.size
    exact any_toks (ascii_slot (by omega) (S.typeIs s fun _ _ e => e) S.slotRepr (S.call A.in1 _ s _ W.guards (by show A.units + 1 + d.depth < cLine; omega) (fun _ _ e => e) fun h' u tk hk => ⟨_, _, rfl, W.asize, fun t s' h1 h2 h3 h4 (hle : s.toks ≤ s'.toks) => h t s' (H.to (by rw [h1]; exact hk) h2 h3 h4 (Nat.lt_of_lt_of_le H.tk hle))⟩))
  have ha := W.asize
  have hsz := W.size
  cases hv with
  | none => rw [PyData.shown_none] at h ha hsz; exact ascii_value H (by omega) (typeIs_none s) F.slot_NoneType_repr F.entry_NoneType_repr (F.args_NoneType_repr_1 _) gives_none_repr hsz ha h
  | bool b => rw [PyData.shown_bool] at h ha hsz; exact ascii_value H (by omega) (PySem.typeIs_bool s b) F.slot_bool_repr F.entry_bool_repr (F.args_bool_repr_1 _) (gives_bool_repr b) hsz ha h
  | int i t => rw [PyData.shown_int] at h ha hsz; exact ascii_value H (by omega) (typeIs_int s i t) F.slot_int_repr F.entry_int_repr (F.args_int_repr_1 _) (gives_int_repr i t (by simpa [PyData.showable] using hs)) hsz ha h
  | str x t => rw [PyData.shown_str] at h ha hsz; exact ascii_value H (by omega) (typeIs_str s x t) F.slot_str_repr F.entry_str_repr (F.args_str_repr_1 _) (gives_str_repr x t) hsz ha h
  | list _ _ _ _ => exact href _ rfl
  | tuple _ _ _ _ => exact href _ rfl
  | dict _ _ _ => exact href _ rfl
end
end Mine
end
-- part C22
section
open PySem PySem.Spec PySem.Calls PyProof.Rows PySem.W
namespace Mine
/-- lists of plain things, at most n levels -/
def Tl : Nat → PyData → Prop
  | _, .none => True
  | _, .bool _ => True
  | _, .int _ => True
  | _, .str _ => True
  | n + 1, .list ds => ∀ d ∈ ds, Tl n d
  | _, _ => False
theorem Tl.succ : ∀ {n : Nat} {d : PyData}, Tl n d → Tl (n + 1) d := by
  intro n
  induction n with
  | zero => intro d h; cases d <;> simp_all [Tl]
  | succ n ih =>
    intro d h
    cases d with
    | list ds => unfold Tl at h ⊢; exact fun d hd => ih (h d hd)
    | _ => simp_all [Tl]
theorem Tl.le {n m : Nat} {d : PyData} (h : Tl n d) (hm : n ≤ m) : Tl m d := by
  induction hm with
  | refl => exact h
  | step _ ih => exact ih.succ
theorem tl_str (n : Nat) (x : Str) : Tl n (.str x) := by cases n <;> simp [Tl]
theorem Gd.tl : ∀ (m : Nat) (d : PyData), Gd m d → Tl (2 * m + 1) (toldOf d) := by
  intro m
  induction m with
  | zero =>
    intro d h
    cases d with
    | list ds => simp [Gd] at h
    | tuple ds => simp [Gd] at h
    | dict ds => simp [Gd] at h
    | _ => simp [toldOf, Tl]
  | succ m ih =>
    intro d h
    rw [show 2 * (m + 1) + 1 = (2 * m + 1) + 1 + 1 by omega]
    cases d with
    | list ds =>
      unfold Gd at h
      unfold toldOf
      rw [toldAll_map]
      unfold Tl
      intro x hx
      rcases List.mem_cons.mp hx with rfl | hx
      · exact tl_str _ _
      · obtain ⟨d, hd, rfl⟩ := List.mem_map.mp hx
        exact (ih d (h d hd)).succ
    | tuple ds =>
      unfold Gd at h
      unfold toldOf
      rw [toldAll_map]
      unfold Tl
      intro x hx
      rcases List.mem_cons.mp hx with rfl | hx
      · exact tl_str _ _
      · obtain ⟨d, hd, rfl⟩ := List.mem_map.mp hx
        exact (ih d (h d hd)).succ
    | dict D =>
      unfold Gd at h
      obtain ⟨kvs, rfl, hnd, hg⟩ := h
      unfold toldOf
      have key : ∀ kvs : List (Ky × PyData), (∀ kv ∈ kvs, Gd m kv.1.dat ∧ Gd m kv.2) → ∀ x ∈ toldKvs (kvs.map fun kv => (kv.1.dat, kv.2)), Tl (2 * m + 1 + 1) x := by
        intro kvs
        induction kvs with
        | nil => intro _ x hx; simp [toldKvs] at hx
        | cons kv r ihr =>
          intro hg x hx
          simp only [List.map_cons, toldKvs, List.mem_cons] at hx
          rcases hx with rfl | hx
          · unfold Tl
            intro y hy
            simp only [List.mem_cons, List.not_mem_nil, or_false] at hy
            rcases hy with rfl | rfl
            · exact ih _ (hg _ (.head _)).1
            · exact ih _ (hg _ (.head _)).2
          · exact ihr (fun kv h => hg kv (.tail _ h)) x hx
      unfold Tl
      intro x hx
      rcases List.mem_cons.mp hx with rfl | hx
      · exact tl_str _ _
      · exact key kvs hg x hx
    | none => simp [toldOf, Tl]
    | bool b => simp [toldOf, Tl]
    | int i => simp [toldOf, Tl]
    | str x => simp [toldOf, Tl]
section
variable {prog : Program} {w : World} {B : FMap} {s : Shared} {Q : Value → Shared → Prop} {E : Value → Shared → Prop}
theorem rdAll_at : ∀ {vs : List Value} {ds : List PyData}, RdAll prog w B vs ds → ∀ {j : Nat} {v : Value}, vs[j]? = some v → ∃ d ∈ ds, ds[j]? = some d ∧ Rd prog w B v d
  | _, _, .nil, j, v, h => by simp at h
  | _, _, .cons hv hr, 0, v, h => by
    obtain rfl : _ = v := by simpa using h
    exact ⟨_, .head _, rfl, hv⟩
  | _, _, .cons hv hr, j + 1, v, h => by
    obtain ⟨d, h1, h2, h3⟩ := rdAll_at hr (j := j) (v := v) (by simpa using h)
    exact ⟨d, .tail _ h1, by simpa using h2, h3⟩
theorem rdAll_len : ∀ {vs : List Value} {ds : List PyData}, RdAll prog w B vs ds → vs.length = ds.length
  | _, _, .nil => rfl
  | _, _, .cons _ hr => by simp [rdAll_len hr]
theorem rd_lists {u v : Value} {ds : List PyData} (hf : ∀ b o, B b = some o → s.heap.get? b = some o) (hu : Rd prog w B u (.list ds)) (hv : Rd prog w B v (.list ds)) :
    ∃ l b us vs, u = .ref l ∧ v = .ref b ∧ s.heap.IsList l us ∧ s.heap.IsList b vs ∧ us.size = vs.size ∧
      ∀ j (h1 : j < us.size) (h2 : j < vs.size), ∃ d ∈ ds, Rd prog w B us[j] d ∧ Rd prog w B vs[j] d := by
  cases hu with
  | list e1 e2 e3 e4 =>
    cases hv with
    | list f1 f2 f3 f4 =>
      rename_i a o us n a' o' vs n'
      refine ⟨a, a', us, vs, rfl, rfl, ⟨o, hf _ _ e1, e2, _, e3⟩, ⟨o', hf _ _ f1, f2, _, f3⟩, ?_, fun j h1 h2 => ?_⟩
      · have := rdAll_len e4; have := rdAll_len f4; simp at *; omega
      · obtain ⟨d, hd, q1, r1⟩ := rdAll_at e4 (j := j) (v := us[j]) (by simp [h1])
        obtain ⟨d', _, q2, r2⟩ := rdAll_at f4 (j := j) (v := vs[j]) (by simp [h2])
        rw [q1] at q2; cases q2
        exact ⟨d, hd, r1, r2⟩
theorem eq_told (hf : ∀ b o, B b = some o → s.heap.get? b = some o) : ∀ (n : Nat) (d : PyData) (A : Around), Tl n d → ∀ u v, Rd prog w B u d → Rd prog w B v d → A.units + n < cLine → SeqAt.EqAt A s u v true := by
  intro n
  induction n with
  | zero =>
    intro d A h u v hu hv hA
    cases d with
    | none => cases hu; cases hv; exact SeqAt.EqAt.same _
    | bool b => cases hu; cases hv; exact SeqAt.EqAt.same _
    | int i => cases hu with | int _ t => cases hv with | int _ t' => have := (MeetsSeq.EqGives.int i i t t').at A s; simpa using this
    | str x => cases hu with | str _ t => cases hv with | str _ t' => have := (SeqRoads2.EqGives.str x x t t').at A s; simpa using this
    | _ => simp [Tl] at h
  | succ n ih =>
    intro d A h u v hu hv hA
    cases d with
    | none => cases hu; cases hv; exact SeqAt.EqAt.same _
    | bool b => cases hu; cases hv; exact SeqAt.EqAt.same _
    | int i => cases hu with | int _ t => cases hv with | int _ t' => have := (MeetsSeq.EqGives.int i i t t').at A s; simpa using this
    | str x => cases hu with | str _ t => cases hv with | str _ t' => have := (SeqRoads2.EqGives.str x x t t').at A s; simpa using this
    | list ds =>
      unfold Tl at h
      obtain ⟨l, b, us, vs, rfl, rfl, hl, hb, hsz, hitem⟩ := rd_lists hf hu hv
      by_cases hlb : l = b
      · subst hlb; exact SeqAt.EqAt.same _
      · have key := SeqAt.RcAt.lists (A := A) (e := fun _ => true) hl hb hsz (by omega) (fun j h1 h2 => by
          obtain ⟨d, hd, r1, r2⟩ := hitem j h1 h2
          exact ih d A.in1 (h d hd) _ _ r1 r2 (by show A.units + 1 + n < cLine; omega))
        have e : ((List.range us.size).all fun _ => true) = true := by simp
        rw [e] at key
        exact SeqAt.EqAt.of_refs hlb key
    | _ => simp [Tl] at h
/-- two readings of one told thing do not differ -/
theorem q_neT {A : Around} {n : Nat} {ds : List PyData} {u v : Value} (hf : ∀ b o, B b = some o → s.heap.get? b = some o) (ht : Tl (n + 1) (.list ds)) (hu : Rd prog w B u (.list ds)) (hv : Rd prog w B v (.list ds)) (hA : A.units + (n + 1) < cLine)
    (h : Q (.bool false) s) : wpAny (model prog w) A (compareOp .NotEq u v) Q E s := by
  unfold Tl at ht
  obtain ⟨l, b, us, vs, rfl, rfl, hl, hb, hsz, hitem⟩ := rd_lists hf hu hv
  have key := SeqAt.RcNeAt.lists (A := A) (e := fun _ => true) hl hb hsz (by omega) (fun j h1 h2 => by
    obtain ⟨d, hd, r1, r2⟩ := hitem j h1 h2
    exact eq_told hf n d A.in1 (ht d hd) _ _ r1 r2 (by show A.units + 1 + n < cLine; omega))
  have e : (!(List.range us.size).all fun _ => true) = false := by simp
  rw [e] at key
  exact key prog w E Q h
end
theorem toldOf_list (d : PyData) : ∃ ds, toldOf d = .list ds := by cases d <;> (simp only [toldOf]; exact ⟨_, rfl⟩)
end Mine
end
-- part C30
section
open PySem PySem.Spec PySem.Calls PyProof.Rows PySem.W
namespace Mine
section
variable {X : Fx} {B : FMap} {O : Owns} {l : Locs} {s : Shared} {prog : Program} {w : World} {A : Around} {E : Value → Shared → Prop} {Q : Value → Shared → Prop} {env : Env}
theorem St.next (H : St X B O l s) {P : Nat → Shared → Prop} (h : ∀ (t : Nat) s', St X B O l s' → P (t + 1) s') : P s.toks { s with toks := s.toks + 1 } := by
  have := h (s.toks - 1) { s with toks := s.toks + 1 } H.tok
  rw [Nat.sub_add_cancel H.tk] at this; exact this
theorem c_strT {x : Str} {k : Nat} {pos : Pos} (H : St X B O l s) (h : ∀ (t : Nat) s', St X B O l s' → Q (.str x (t + 1)) s') : wpAny (model prog w) A (eval (.Constant (.str x) k pos) env) Q E s :=
  wpAny_Constant_str (H.next (P := fun t s' => Q (.str x t) s') h)
theorem b_mulT {a b : Int} {t u : Tok} (H : St X B O l s) (hm : IntMulOk a b) (h : ∀ (t : Nat) s', St X B O l s' → Q (.int (a * b) (t + 1)) s') : wpAny (model prog w) A (binaryOp .Mult (.int a t) (.int b u)) Q E s :=
  mul_int (H.next (P := fun t s' => Q (.int (a * b) t) s') h) hm
theorem e_chrT {i : Int} {n : Nat} {t : Tok} (H : St X B O l s) (hi : i = (n : Int)) (hn : n ≤ 1114111) (h : ∀ (t : Nat) s', St X B O l s' → Q (.str (S [n]) (t + 1)) s') : wpAny (model prog w) A (call (.builtin "chr") [.int i t]) Q E s := by
  subst hi
  exact chr_of_range (by omega) (by omega) (H.next (P := fun t s' => Q (.str (S [n]) t) s') h)
theorem e_itemT {a : List Nat} {i c : Nat} {i' : Int} {t u : Tok} {value slice : Expr} (H : St X B O l s) (hc : a[i]? = some c) (hz : a.length ≤ sizeLine) (h : ∀ (t : Nat) s', St X B O l s' → Q (.str (S [c]) (t + 1)) s')
    (hi : i' = (i : Int) := by first | rfl | omega)
    (hs : ∀ x t i u, subscripted slice false (.str x t) (.int i u) = operate [.str x t, .int i u] (getItem (.str x t) (.int i u)) := by intro _ _ _ _; with_unfolding_all rfl)
    (ht : ∀ x t r, letTemporaryGo value (.str x t) r = pure () := by intro _ _ _; with_unfolding_all rfl) :
    wpAny (model prog w) A (subscriptTail value slice (.str (S a) t) (.int i' u)) Q E s := by
  subst hi
  have hi : i < a.length := (List.getElem?_eq_some_iff.mp hc).1
  have hzz : sizeLine = 16777216 := by decide
  refine tail_of_ItemOn ⟨"str", _, slot_str_getitem.lookup, typeIs_str _ _ _, ?_⟩ (hs _ _ _ _) (ht _ _)
  refine getItem_str (c := c) (fits_small (by omega) (by omega)) ?_ (H.next (P := fun t s' => Q (.str (S [c]) t) s') h)
  show (seqIndex? (i : Int) (S a).length).bind _ = _
  rw [S_length, seqIndex_nat hi]
  simp [S, hc]
theorem i_catT {a b : List Nat} {t u : Nat} (H : St X B O l s) (hz : a.length + b.length ≤ sizeLine) (h : ∀ (t : Nat) s', St X B O l s' → Q (.str (S (a ++ b)) (t + 1)) s') : wpAny (model prog w) A (inplaceOp .Add (.str (S a) (t + 1)) (.str (S b) (u + 1))) Q E s := by
  refine P.iadd_str ?_
  rw [S_length, S_length]
  split
  · rename_i e
    have : a = [] := List.length_eq_zero_iff.mp (by simpa using e)
    subst this
    exact h u s H
  split
  · rename_i e
    have : b = [] := List.length_eq_zero_iff.mp (by simpa using e)
    subst this
    have := h t s H; rw [List.append_nil] at this; exact this
  · refine ⟨(show (S a ++ S b).length ≤ sizeLine by rw [S_append, S_length, List.length_append]; exact hz), ?_⟩
    rw [S_append]
    exact H.next (P := fun t s' => Q (.str (S (a ++ b)) t) s') h
/-- v is not v: never -/
theorem is_same {B' : FMap} {v : Value} {d : PyData} (hv : Rd prog w B' v d) (hz : Nz v) (h : Q (.bool false) s) : wpAny (model prog w) A (compareOp .IsNot v v) Q E s := by
  have key : ∀ v : Value, wpAny (model prog w) A (isSame v v) (fun b s' => Q (.bool !b) s') E s → wpAny (model prog w) A (compareOp .IsNot v v) Q E s := fun v h => by
    show wpAny _ A (do return .bool (!(← isSame v v))) Q E s
    exact wpAny_bind (wpAny_mono h (fun _ _ h => wpAny_pure h) fun _ _ x => x)
  cases hv with
  | none => exact wpAny_isNot_self rfl h
  | bool => exact wpAny_isNot_self rfl h
  | @int i t =>
    refine key _ ?_
    have h0 : (t == 0) = false := beq_eq_false_iff_ne.mpr hz
    show wpAny _ A (if (i == i && smallInt i) = true then isSame.cachedInt t t else isSame.created (i == i) t t) _ E s
    split
    · unfold isSame.cachedInt
      rw [h0]
      exact wpAny_bind (wpAny_rule (wpAny_pure h))
    · unfold isSame.created
      rw [h0, beq_self_eq_true]
      exact wpAny_pure h
  | @str x t =>
    refine key _ ?_
    have h0 : (t == 0) = false := beq_eq_false_iff_ne.mpr hz
    show wpAny _ A (isSame.created (x == x) t t) _ E s
    unfold isSame.created
    rw [h0, beq_self_eq_true]
    exact wpAny_pure h
  | list => exact wpAny_isNot_ref_self h
  | tuple => exact wpAny_isNot_ref_self h
  | dict => exact wpAny_isNot_ref_self h
end
end Mine
end
-- part C23
section
open PySem PySem.Spec PySem.Calls PyProof.Rows PySem.W
set_option maxRecDepth 100000
namespace Mine
section
variable {prog : Program} {w : World} {A : Around} {E : Value → Shared → Prop} {h : Heap} {g : Array GenState} {d : Drawn} {t : Nat} {os : OsState}
variable {nm q : Str} {C N : Addr} {bs : List Value} {sn : List Str} {sub : List Value} {col : Option Bool} {dd : Option Addr} {k0 k1 k2 k3 k5 : Option Value} {newId : String}
abbrev madeHeap (h : Heap) (C : Addr) : Heap := (h.push { cls := .type "dict", data := .dict #[] }).push { cls := .ref C, dict := some h.objs.size, data := .plain }
theorem obj_new0 (F : ObjNewFacts newId) {R : Result → Shared → Prop} (hC : h.get? C = some (excClassObj nm q C N bs [.type "object"] true sn sub false col dd k0 k1 k2 k3 k5 newId))
    (hq : R (.ok (.ret (.ref (h.objs.size + 1)))) ⟨madeHeap h C, g, d, t, os⟩) :
    codeAny (model prog w) A (.builtin newId ⟨[.ref C], []⟩) R ⟨h, g, d, t, os⟩ := by
  refine codeAny_builtin F.entry ?_
  unfold Builtin.«object.__new__»
  repeat (first | with_reducible refine wpAny_madeHere_exc F.canon hC ?_ | with_reducible refine wpAny_madeBy_exc hC ?_ | with_reducible refine wpAny_loadPart_at hC ?_ | wp_step)
  show wpAny _ _ (alloc { cls := .type "dict", data := .dict #[] } >>= fun x => pure (some x)) _ _ _
  refine wpAny_bind (wpAny_alloc' (wpAny_pure ?_))
  unfold newObj
  repeat wp_step
  show R _ _
  rw [Heap.size_push]
  exact hq
set_option maxHeartbeats 1000000 in
theorem type_call0 (F : ObjNewFacts newId) {mN : Str → Option Value} {rest : List Value} (hr : rest = []) {Q : Fin → Shared → Prop}
    (hC : h.get? C = some (excClassObj nm q C N bs [.type "object"] true sn sub false col dd k0 k1 k2 k3 k5 newId)) (hn : h.Ns N mN) (hi : mN "__init__" = none)
    (hq : Q (.done (.ret (.ref (h.objs.size + 1)))) ⟨madeHeap h C, g, d, t, os⟩) :
    wpAny (model prog w) A (Builtin.«type.__call__» ⟨.ref C :: rest, []⟩) Q E ⟨h, g, d, t, os⟩ := by
  have hmro : mroOf (.type "object") = pure [.type "object"] := by kernel_rfl
  iterate 14 (first | with_reducible refine wpAny_loadPart_at hC ?_ | with_reducible refine wpAny_madeBy_exc hC ?_ | wp_step)
  refine wpAny_pure ?_
  refine wpAny_bind (wpAny_holding ?_)
  refine wpAny_call ?_
  refine codeAny_call_builtin_code (Code.quiet_builtin _ F.quiet) (wpAny_check_obj_new F hC ?_)
  subst hr
  refine obj_new0 F hC ?_
  show wpAny _ _ _ _ _ _
  have hC₁ := Heap.get?_push_of_some { cls := .ref C, dict := some h.objs.size, data := .plain } (Heap.get?_push_of_some { cls := .type "dict", data := .dict #[] } hC)
  have hn₁ : (madeHeap h C).Ns N mN :=
    let ⟨o, es, ep, e, r⟩ := hn; ⟨o, es, ep, Heap.get?_push_of_some _ (Heap.get?_push_of_some _ e), r⟩
  have hget : (madeHeap h C).get? (h.objs.size + 1) = some { cls := .ref C, dict := some h.objs.size, data := .plain } := by heap_get
  have hcC : (Value.ref C :: [Value.type "object"]).contains (.ref C) = true := by simp
  unfold isInstance
  iterate 12 (first | with_reducible refine wpAny_loadPart_at hget ?_ | (with_reducible refine wpAny_isSubtype_exc hC₁ ?_; rw [hcC]) | wp_step)
  refine wpAny_specialOf_inst hget rfl hC₁ hn₁ hi hmro PySem.F.slot_object_init.lookup ?_
  refine wpAny_holding (wpAny_bind ?_)
  rw [PySem.F.slot_object_init.bind]
  refine wpAny_pure (wpAny_bind ?_)
  show wpAny _ _ (call (.builtin "object.__init__") [.ref (h.objs.size + 1)] []) _ _ _
  refine wpAny_call (codeAny_call_builtin_at (Code.quiet_builtin _ (by decide +kernel)) PySem.F.entry_object_init (wpAny_check_slot_inst (owner := "object") (n := "__init__") (by decide +kernel) (by decide +kernel) (PySem.F.args_object_init_1 _) (by decide) hget rfl hC₁ ?_))
  refine wpAny_pure (wpAny_pure ?_)
  exact wpAny_pure hq
/-- C() where C is a class of the text without __init__ -/
theorem call_cls0 (F : ObjNewFacts newId) {mN : Str → Option Value} {Q : Value → Shared → Prop}
    (hC : h.get? C = some (excClassObj nm q C N bs [.type "object"] true sn sub false col dd k0 k1 k2 k3 k5 newId)) (hn : h.Ns N mN) (hi : mN "__init__" = none)
    (hq : Q (.ref (h.objs.size + 1)) ⟨madeHeap h C, g, d, t, os⟩) :
    wpAny (model prog w) A (call (.ref C) []) Q E ⟨h, g, d, t, os⟩ := by
  have f1 := tc_lookup
  have f2 := tc_bind (.ref C)
  have hT : (⟨h, g, d, t, os⟩ : Shared).TypeIs (.ref C) "type" := ⟨_, hC, rfl⟩
  refine wpAny_call (codeAny_of_tree ?_)
  show wpAny _ _ (callAny (.ref C) _) _ _ _
  repeat (any_goals (first | assumption | with_reducible refine wpAny_loadPart_at hC ?_ | wp_step))
  refine ⟨rfl, ?_⟩
  exact codeAny_call_builtin_at (Code.quiet_builtin _ (by decide +kernel)) entry_typeCall (wpAny_check_type_call_sub hC (type_call0 F rfl hC hn hi hq))
end
end Mine
end
-- part C24
section
open PySem PySem.Spec PySem.Calls PyProof.Rows PySem.W
set_option maxRecDepth 100000
namespace Mine
/-- a new exception that holds these -/
structure NewE (h h' : Heap) (e t : Addr) (X : String) (vs : List Value) : Prop where
  keeps : Keep h h'
  newE : h.get? e = none
  newT : h.get? t = none
  ne : t ≠ e
  lowE : h.objs.size ≤ e
  lowT : h.objs.size ≤ t
  exc : h'.get? e = some { cls := .type X, data := .fields #[.ref t, .none, .none, .none, .bool false, .none] }
  tup : h'.get? t = some { cls := .type "tuple", data := .seq vs.toArray }
section
variable {prog : Program} {w : World} {A : Around} {E : Value → Shared → Prop} {s : Shared} {X N I : String}
theorem call_excA (hc : ExcClass X N I) {rest : List Value} {Q : Value → Shared → Prop}
    (h : ∀ h' e t, NewE s.heap h' e t X rest → Q (.ref e) { s with heap := h' }) (hrest : rest.length ≤ sizeLine := by size_fits) :
    wpAny (model prog w) A (call (.type X) rest) Q E s := by
  refine wpAny_call (codeAny_of_tree ?_)
  show wpAny _ _ (callAny (.type X) ⟨rest, []⟩) _ _ s
  simp only [callAny]
  refine wpAny_pure ⟨Code.quiet_builtin _ (by decide +kernel), codeAny_builtin entry_type_call ?_⟩
  rw [Around.under_plain (weight_type_call X _ _) (by first | rfl | kernel_rfl | decide +kernel)]
  unfold Builtin.«type.__call__»
  dsimp only
  rw [if_neg (by rw [hc.notType]; exact Bool.false_ne_true), if_neg (by rw [hc.canNew]; exact Bool.false_ne_true)]
  obtain ⟨l, hl, hle⟩ := hc.mro
  refine wpAny_bind (wpAny_of_eq (hc.typeCall rest) (wpAny_bind (wpAny_of_eq hl ?_)))
  rw [if_neg (by rw [hle]; exact Bool.false_ne_true)]
  refine wpAny_bind (wpAny_of_eq hc.madeBy ?_)
  dsimp only
  refine wpAny_bind (wpAny_pure (wpAny_bind (wpAny_holding (new_exc hc ?_ hrest))))
  refine wpAny_bind (wpAny_isInstance (T := X) ⟨_, Heap.get?_push_size _ rfl, rfl⟩ hc.self ?_)
  simp only [Bool.not_true, Bool.false_eq_true, if_false]
  refine wpAny_bind (wpAny_holding (wpAny_callSpecial?_slot (name := Str.ofString "__init__") (T := X) ⟨_, Heap.get?_push_size _ rfl, rfl⟩ hc.init
    (init_exc hc (Heap.get?_push_size _ rfl) rfl rfl rfl ?_ hrest)))
  dsimp only
  rw [if_neg (by simp)]
  refine wpAny_pure ?_
  have hE0 : ((s.heap.push { cls := .type "tuple", data := .seq rest.toArray }).push { cls := .type X, data := .fields #[.ref s.heap.objs.size, .none, .none, .none, .bool false, .none] }).get? (s.heap.push { cls := .type "tuple", data := .seq rest.toArray }).objs.size = some { cls := .type X, data := .fields #[.ref s.heap.objs.size, .none, .none, .none, .bool false, .none] } := Heap.get?_push_size _ rfl
  have hne : ((s.heap.push { cls := .type "tuple", data := .seq rest.toArray }).push { cls := .type X, data := .fields #[.ref s.heap.objs.size, .none, .none, .none, .bool false, .none] }).objs.size ≠ (s.heap.push { cls := .type "tuple", data := .seq rest.toArray }).objs.size := by simp
  refine h _ _ ((s.heap.push { cls := .type "tuple", data := .seq rest.toArray }).push { cls := .type X, data := .fields #[.ref s.heap.objs.size, .none, .none, .none, .bool false, .none] }).objs.size ⟨fun b o hb => ?_, Heap.get?_none_of_le (by simp), Heap.get?_none_of_le (by simp; omega), hne, by simp, by simp; omega, ?_, ?_⟩
  · rw [Heap.get?_update_other _ _ (Nat.ne_of_gt (Nat.lt_of_lt_of_le (Heap.lt_size hb) (by simp)))]
    exact Heap.get?_push_of_some _ (Heap.get?_push_of_some _ (Heap.get?_push_of_some _ hb))
  · rw [Heap.get?_update_self _ (Heap.get?_push_of_some _ hE0) (Obj.isFreed_of_fields (Obj.data_mapFields rfl _))]
    rfl
  · rw [Heap.get?_update_other _ _ hne.symm]
    exact Heap.get?_push_size _ rfl
end
end Mine
end
-- part C25
section
open PySem PySem.Spec PySem.Calls PyProof.Rows PySem.W
open Builtin Builtin.Str
set_option maxRecDepth 100000
namespace Mine
theorem range_l {β : Type} (n : Nat) (b : β) (f : Nat → β → Sem (ForInStep β)) : forIn [:n] b f = forIn (List.range' 0 n 1) b f := by
  rw [Std.Legacy.Range.forIn_eq_forIn_range']
  have hsz : ([:n] : Std.Legacy.Range).size = n := by simp [Std.Legacy.Range.size]
  show forIn (List.range' 0 ([:n] : Std.Legacy.Range).size 1) b f = _
  rw [hsz]
theorem turn_ {M : Model} {A : Around} {E : Value → Shared → Prop} {s : Shared} {β : Type} {l : List Nat} {x : Nat} {b : β} {f : Nat → β → Sem (ForInStep β)} {Q : β → Shared → Prop}
    (h : wpAny M A (f x b) (fun r s' => match r with | .done b' => Q b' s' | .yield b' => wpAny M A (forIn l b' f) Q E s') E s) : wpAny M A (forIn (x :: l) b f) Q E s := by
  rw [List.forIn_cons]
  refine wpAny_bind (wpAny_mono h (fun r s' hr => ?_) fun _ _ e => e)
  cases r with
  | done b' => exact wpAny_pure hr
  | yield b' => exact hr
/-- the text that convert_field raises with -/
def unkLit : List Nat := ("Unknown conversion specifier ".toList.map Char.toNat)
def unkFmt : List Nat := unkLit ++ [123, 48, 33, 115, 125]
section
variable {prog : Program} {w : World} {A : Around} {E : Value → Shared → Prop} {s : Shared} {Q : Value → Shared → Prop}
theorem unk_next : nextMarkup unkFmt = .ok (unkLit, some { name := [48], conversion := some 115 }, []) := by kernel_rfl
theorem fmt_core {x : List Nat} {t u : Tok} {Q : PySem.Fin → Shared → Prop} (hx : x.length ≤ 1000000) (h : ∀ t' k, Q (.done (.ret (.str (S (unkLit ++ x)) t'))) { s with toks := k }) :
    wpAny (model prog w) A («str.format» ⟨[.str (S unkFmt) t, .str (S x) u], []⟩) Q E s := by
  unfold Builtin.«str.format»
  refine wpAny_bind (wpAny_of_eq (a := (_, _, _)) rfl ?_)
  refine wpAny_bind ?_
  unfold Builtin.Str.buildString
  refine wpAny_bind ?_
  rw [range_l]
  have e : (S unkFmt).cps.toList = unkFmt := rfl
  rw [e]
  have e2 : List.range' 0 unkFmt.length 1 = 0 :: 1 :: List.range' 2 32 1 := by decide +kernel
  rw [e2]
  refine turn_ ?_
  dsimp only
  rw [if_neg (by decide)]
  rw [if_neg (by decide)]
  rw [unk_next]
  dsimp only
  refine wpAny_bind (wpAny_of_eq (a := (.str (S x) u, .manual)) (by kernel_rfl) ?_)
  dsimp only
  refine wpAny_bind (wpAny_holding (wpAny_of_eq (a := .str (S x) u) (by kernel_rfl) ?_))
  rw [if_neg (by decide)]
  refine wpAny_bind (wpAny_pure ?_)
  dsimp only
  refine wpAny_bind (wpAny_holding (wpAny_of_eq (a := .str (S x) u) (by kernel_rfl) ?_))
  refine wpAny_bind (wpAny_of_eq (a := some (S x)) (by kernel_rfl) ?_)
  dsimp only
  refine wpAny_pure ?_
  dsimp only
  refine turn_ ?_
  dsimp only
  rw [if_pos (by rfl)]
  refine wpAny_pure ?_
  dsimp only
  refine wpAny_pure ?_
  dsimp only
  have hl : unkLit.length = 29 := by decide +kernel
  have e3 : (({} : Writer).add { cps := unkLit.toArray } (if (unkLit.length == unkFmt.length) = true then some (Value.str (S unkFmt) t) else none)) = { pieces := [S unkLit], total := 29, whole := none } := by
    rw [show (if (unkLit.length == unkFmt.length) = true then some (Value.str (S unkFmt) t) else none) = none from if_neg (by decide +kernel)]
    rfl
  rw [e3]
  have ends : ∀ W : Writer, W.whole = none → W.total ≤ 1000029 → W.text = S (unkLit ++ x) → wpAny (model prog w) A (Writer.finish "str.format" W) Q E s := fun W h1 h2 h3 => by
    unfold Writer.finish
    rw [h1]
    dsimp only
    rw [if_neg (by unfold tooLong; rw [sizeLine_eq]; simp; omega), h3]
    exact wpAny_bind (wpAny_mkStr (wpAny_pure (h _ _)) (by rw [S_length, sizeLine_eq]; simp [hl]; omega))
  cases x with
  | nil => exact ends { pieces := [S unkLit], total := 29, whole := none } rfl (by decide) (by simp; rfl)
  | cons c r =>
    have hz : ((S (c :: r)).length == 0) = false := by rw [S_length]; rfl
    have e4 : ({ pieces := [S unkLit], total := 29, whole := none } : Writer).add (S (c :: r)) (if ([] : List Nat).isEmpty = true then some (Value.str (S (c :: r)) u) else none) = { pieces := [S (c :: r), S unkLit], total := 29 + (S (c :: r)).length, whole := none } := by
      unfold Writer.add
      rw [hz]
      rfl
    rw [e4]
    refine ends _ rfl (by rw [S_length]; simp at hx ⊢; omega) ?_
    show (⟨(#[] ++ unkLit.toArray) ++ (c :: r).toArray⟩ : Str) = _
    simp [S]
/-- 'Unknown conversion specifier {0!s}'.format(x) -/
theorem e_unk {X : Fx} {B : FMap} {O : Owns} {l : Locs} {x : List Nat} {t u : Tok} (H : St X B O l s) (hx : x.length ≤ 1000000) (h : ∀ t s', St X B O l s' → Q (.str (S (unkLit ++ x)) t) s') :
    wpAny (model prog w) A (call (.builtin "str.format") [.str (S unkFmt) t, .str (S x) u]) Q E s := by
  refine any_toks ?_
  refine call_meets PySem.F.slot_str_format_m (typeIs_str s _ t) PySem.F.entry_str_format_m (PySem.F.args_str_format_m_2 _ _) (S := fun _ R s' => ∀ t' k, R (.ok (.ret (.str (S (unkLit ++ x)) t'))) { s' with toks := k })
    (Meets.of_wp fun prog w A _ s hS => fmt_core hx fun t' k => ⟨_, rfl, hS t' k⟩) ?_
  exact fun t' k (hle : s.toks ≤ k) => h _ _ H.tok
/-- 'text'.format -/
theorem m_format {M : Model} {x : Str} {t : Tok} {pl : Sem Bool} {Q : Value × List Value → Shared → Prop} (h : Q (.builtin "str.format", [.str x t]) s) : wpAny M A (getMethod (.str x t) "format" pl) Q E s := by
  with_reducible exact GM.of (.str x t) (typeIs_str _ _ _) PySem.F.slot_str_format_m PySem.F.type_str_format_m GM.noRef h
end
end Mine
end
-- part C26
section
open PySem PySem.Spec PySem.Calls PyProof.Rows PySem.W
set_option maxRecDepth 100000
namespace Mine
/-- a class of the text as it stands: no __init__ of its own -/
structure FmAt (mg : Str → Option Value) (c : ClsRec) (h : Heap) (C N : Addr) (mN : Str → Option Value) : Prop where
  glob : mg c.name = some (.ref C)
  cls : PlainAtD h c C N mN
  init : mN "__init__" = none
/-- an instance of C that has no attributes -/
def InstB (B : FMap) (x C : Addr) : Prop := ∃ dx, B x = some { cls := .ref C, dict := some dx, data := .plain } ∧ B dx = some { cls := .type "dict", data := .dict #[] } ∧ dx ≠ x
theorem InstB.sub {B B' : FMap} {x C : Addr} (hs : Sub B B') (h : InstB B x C) : InstB B' x C := let ⟨dx, h1, h2, h3⟩ := h; ⟨dx, hs _ _ h1, hs _ _ h2, h3⟩
def methRec (c : ClsRec) (m : MethRec) : DefRec := { name := c.name ++ "." ++ m.name, params := m.params, body := m.body, scope := m.scope, pos := default }
section
variable {prog : Program} {w : World} {X : Fx} {B B' : FMap} {O O' : Owns} {l l' : Locs} {s s' : Shared} {A : Around} {E : Value → Shared → Prop} {Q : Value → Shared → Prop} {c : ClsRec} {C N : Addr} {mN : Str → Option Value}
theorem InstB.inst {x : Addr} (hi : InstB B x C) (H : St X B O l s) : s.heap.Inst x C fun _ => none := by
  obtain ⟨dx, h1, h2, h3⟩ := hi
  exact ⟨_, H.fz _ _ h1, rfl, fun c => by simp, .inr ⟨dx, rfl, h3, Heap.Ns1.of_empty ⟨_, #[], _, H.fz _ _ h2, rfl, fun e he => absurd he (by simp), fun _ => rfl⟩⟩⟩
/-- C() -/
theorem e_make {n : Str} {np pos : Pos} (H : St X B O l s) (P : FmAt X.mg c X.h0 C N mN) (hn : c.name = n) (hx : X.env.kindOf n = some .globalImplicit) (h : ∀ x B' s', Sub B B' → InstB B' x C → St X B' O l s' → Q (.ref x) s')
    (hd : (n == ("__debug__" : Str)) = false := by decide) :
    wpAny (model prog w) A (eval (.Name n np) X.env) (fun f s₁ => wpAny (model prog w) A (callWith pos f [] (backTo pos (starEach [] X.env)) []) Q E s₁) E s := by
  refine w_glob H hx (hn ▸ P.glob) ?_ hd
  refine callWith_cls0 P.cls.cls H.kept ?_
  obtain ⟨nm, q, bs, sn, sub, col, dd, k0, k1, k2, k3, k5, hC⟩ := (P.cls.cls.keeps H.kept).obj
  obtain ⟨B₁, s1, b1, H₁⟩ := H.push (o := { cls := .type "dict", data := .dict #[] }) rfl (n := s.toks)
  obtain ⟨B₂, s2, b2, H₂⟩ := H₁.push (o := { cls := .ref C, dict := some s.heap.objs.size, data := .plain }) rfl (n := s.toks)
  have e : (s.heap.push { cls := .type "dict", data := .dict #[] }).objs.size = s.heap.objs.size + 1 := Heap.size_push ..
  have b2' : B₂ (s.heap.push { cls := .type "dict", data := .dict #[] }).objs.size = some { cls := .ref C, dict := some s.heap.objs.size, data := .plain } := b2
  rw [e] at b2'
  exact call_cls0 PySem.F.objNew hC (P.cls.cls.keeps H.kept).ns P.init (h _ B₂ _ (fun b o e => s2 _ _ (s1 _ _ e)) ⟨_, b2', s2 _ _ b1, Nat.ne_of_lt (Nat.lt_succ_self _)⟩ H₂)
theorem m_meth {M : MethRec} {x : Addr} {name : Str} {pl : Sem Bool} {Q : Value × List Value → Shared → Prop} (H : St X B O l s) (P : FmAt X.mg c X.h0 C N mN) (hi : InstB B x C) (hm : c.meths.find? (fun r => r.name == name) = some M)
    (hd : M.params.defaults = []) (hB : typeLookup (.type "object") name = pure none)
    (h : ∀ f o pm cdv doc, X.h0.get? f = some o → o.data = .func (methDefD M.name (methRec c M).name (methRec c M).params (methRec c M).body (methRec c M).scope pm cdv doc .none) → X.h0.CodeRec cdv (methRec c M).name → Q (.ref f, [.ref x]) s) :
    wpAny (model prog w) A (getMethod (.ref x) name pl) Q E s := by
  have hn : M.name = name := beq_iff_eq.mp (List.find?_some (p := fun r : MethRec => r.name == name) hm)
  obtain ⟨f, o, pm, cdv, doc, dV, h1, h2, h3, h4, h5, h6⟩ := P.cls.meths M (List.mem_of_find?_eq_some hm)
  obtain rfl := h6.none_of hd
  obtain ⟨nm, q, bs, sn, sub, col, dd, k0, k1, k2, k3, k5, hC⟩ := (P.cls.cls.keeps H.kept).obj
  have hQ := h f o pm cdv doc h2 h4 h5
  obtain ⟨hh, g, dr, tk, os⟩ := s
  exact method_of hC (P.cls.cls.keeps H.kept).ns (P.cls.quiet _ (List.mem_append_left _ (.tail _ (.head _)))) (P.cls.quiet _ (List.mem_append_left _ (.tail _ (.tail _ (.head _))))) (hn ▸ h1) (H.kept _ _ h2) h3 hB (hi.inst H) rfl hQ

/-- a call of the method comes back with P, or raises with Pe -/
def SpR (prog : Program) (w : World) (d : DefRec) (mname : Str) (A : Around) (vals : List Value) (B : FMap) (s : Shared) (P : FMap → Value → Prop) (Pe : Value → Shared → Prop) : Prop :=
  0 < s.toks → ∀ f o pm code doc, s.heap.get? f = some o → o.data = .func (methDefD mname d.name d.params d.body d.scope pm code doc .none) → s.heap.CodeRec code d.name →
    codeAny (model prog w) A (.call (.ref f) ⟨vals, []⟩) (fun r s' => Returns B s P r s' ∨ ∃ e, r = .error e ∧ Pe e s') s
end
end Mine
end
-- part C27
section
open PySem PySem.Spec PySem.Calls PyProof.Rows PySem.W
set_option maxRecDepth 100000
namespace Mine
section
variable {prog : Program} {w : World}
/-- the walk of a method; what it raises leaves its frame -/
theorem enterM {d : DefRec} {mname : Str} {A : Around} {k : Nat} (R : Rm A (k + 1)) {T : Tp} {s : Shared} {B : FMap} (hT : T.At s.heap) (hB : Fz B s.heap) {vals : List Value} {P : FMap → Value → Prop} {Pe : Value → Shared → Prop} {binds : List (Str × Value)} (ns : List Str)
    (hbind : ∀ pm cd doc, bindArgs (methDefD mname d.name d.params d.body d.scope pm cd doc .none) ⟨vals, []⟩ = pure binds)
    (hloc : ((binds.map (·.1) ++ ns).all fun x => decide (d.scope.names.lookup x = some .local ∧ (x == ("__debug__" : Str)) = false)) = true) (hnd : (binds.map (·.1) ++ ns).Nodup)
    (hco : d.scope.isCoroutine = false) (hgen : d.scope.isGenerator = false) (hk : d.scope.kind = .function) (hcell : ∀ x ∈ d.scope.names, x.2 ≠ .cell)
    (h : ∀ X (Q : Flow → Shared → Prop) (E : Value → Shared → Prop) s', Frm X T s B d → St X B [] (binds.map (fun b => (b.1, some b.2)) ++ ns.map fun n => (n, none)) s' → Rm (A.deeper X.env) k →
      (∀ {v B' O l s''}, St X B' O l s'' → P B' v → Q (.ret v) s'') →
      (∀ {e s''}, wpAny (model prog w) (A.deeper X.env) (leaving X.env e) (fun _ s₃ => Pe e s₃) (fun _ _ => False) s'' → E e s'') →
      wpAny (model prog w) (A.deeper X.env) (execs d.body X.env) Q E s') :
    SpR prog w d mname A vals B s P Pe := by
  intro htk f o pm code doc ho hd hcd
  have hall := List.all_eq_true.mp hloc
  have hndb : (binds.map (·.1)).Nodup := (List.nodup_append.mp hnd).1
  refine codeAny_call_def (fd := methDefD mname d.name d.params d.body d.scope pm code doc .none) (body := d.body) (binds := binds) R.room ho hd (Top.nolimit hT) hcd rfl (.of_eq (hbind pm code doc)) hcell
    (fun x hx => (of_decide_eq_true (hall _ (List.mem_append_left _ (List.mem_map_of_mem hx)))).1) (fun h₁ hns hk₁ => ?_) hco hgen hk
  let X : Fx := { p := T.p, loose := T.loose, mean := T.mean, mg := T.mg, mb := T.mb, env := envOf d.name d.scope s.heap.objs.size f code, h0 := s.heap, B0 := B, gens := s.gens, os := s.os, drawn := s.drawn }
  have keys : (binds.map (fun b => (b.1, some b.2)) ++ ns.map fun n => (n, (none : Option Value))).map (·.1) = binds.map (·.1) ++ ns := by simp [Function.comp_def]
  have hst : St X B [] (binds.map (fun b => (b.1, some b.2)) ++ ns.map fun n => (n, none)) { s with heap := h₁, toks := s.toks + binds.length } := by
    refine { ns := ?_, nd := by rw [keys]; exact hnd, kind := fun x hx => ?_, fn := hk, gl := rfl, bl := rfl, top := hT, kept := hk₁, offh := none_of_le (Nat.le_refl _), fz := fun b o e => hk₁ _ _ (hB.fz _ _ e), low := hB.low, lowO := fun q hq => absurd hq (by simp), b0 := Sub.refl _, new := fun b o e => .inl e, offL := ?_, own := fun q hq => absurd hq (by simp), apart := List.nodup_nil, gens := rfl, os := rfl, drawn := rfl, tk := Nat.lt_of_lt_of_le htk (Nat.le_add_right _ _) }
    · have e : mOf (binds.map (fun b => (b.1, some b.2)) ++ ns.map fun n => (n, none)) = fun x => binds.reverse.lookup x := by
        funext x
        rw [mOf_binds, mOf_none, lookup_rev hndb]
        cases binds.lookup x <;> rfl
      rw [e]; exact hns
    · rw [keys] at hx
      exact of_decide_eq_true (hall _ hx)
    · show B s.heap.objs.size = none
      cases q : B s.heap.objs.size with
      | none => rfl
      | some o' => exact absurd (Heap.lt_size (hB.fz _ _ q)) (Nat.lt_irrefl _)
  have hfr : Frm X T s B d := ⟨⟨_, _, _, rfl⟩, rfl, rfl, rfl, rfl, rfl, rfl⟩
  refine wpAny_mono (h X (fun fl s'' => ∃ v B', fl = .ret v ∧ Grow B s B' s'' ∧ P B' v) (fun e s'' => wpAny (model prog w) (A.deeper X.env) (leaving X.env e) (fun _ s₃ => Pe e s₃) (fun _ _ => False) s'') _ hfr hst (R.deeper _) (fun {v B' O l s''} H hp => ⟨v, B', rfl, hfr.B0 ▸ H.back hfr.h0 hfr.gens hfr.os hfr.drawn, hp⟩) fun {_ _} x => x) (fun fl s'' hq => ?_) fun e s'' he => ?_
  · obtain ⟨v, B', rfl, hg, hp⟩ := hq
    exact .inl ⟨v, B', rfl, hg, hp⟩
  · exact wpAny_mono he (fun _ s₃ h₃ => .inr ⟨e, rfl, h₃⟩) fun _ _ x => x.elim

variable {X : Fx} {B B' : FMap} {O O' : Owns} {l l' : Locs} {s s' : Shared} {A : Around} {E : Value → Shared → Prop} {Q : Value → Shared → Prop}
/-- ValueError(v), made to be raised -/
theorem e_excV {v : Value} (_H : St X B O l s) (h : ∀ s' e t, NewE s.heap s'.heap e t "ValueError" [v] → s'.gens = s.gens ∧ s'.os = s.os ∧ s'.drawn = s.drawn ∧ 0 < s'.toks → E (.ref e) s') : wpAny (model prog w) A (call (.type "ValueError") [v]) (Raisable E) E s :=
  call_excA excClass_ValueError fun h' e t hn => ⟨e, _, _, _, _, _, excClass_ValueError, rfl, hn.exc, rfl, rfl, rfl, h _ e t hn ⟨rfl, rfl, rfl, _H.tk⟩⟩
theorem Frm.frame {T : Tp} {d : DefRec} (F : Frm X T s B d) : X.env.frame = some X.env.locals := by
  obtain ⟨L, a, cd, e⟩ := F.env
  rw [e]; rfl

/-- what has come out of a call that was begun at s, ahead of the frame of env -/
structure Flown (env : Env) (L : Addr) (s s' : Shared) (e t : Addr) (v : Value) : Prop where
  fly : Heap.FlyingW (hideAll s.heap [L]) [env] e (.type "ValueError") (.ref t) s'.heap
  up : s.heap.UpToSlots s'.heap
  tup : s'.heap.TupAt t [v]
  newE : s.heap.get? e = none
  newT : s.heap.get? t = none
  ne : t ≠ e
  sysE : e ≠ sysModules
  sysT : t ≠ sysModules
  gens : s'.gens = s.gens
  os : s'.os = s.os
  drawn : s'.drawn = s.drawn
  tk : 0 < s'.toks

theorem hide_off {h : Heap} {L b : Addr} (e : h.get? b = none) : (hideAll h [L]).get? b = none := by
  cases q : (hideAll h [L]).get? b with
  | none => rfl
  | some o => have := of_hideAll _ q; rw [e] at this; cases this

theorem leaves {env : Env} {L e t : Addr} {v : Value} {s₀ s₁ : Shared} {Pe : Value → Shared → Prop} (H : St X B O l s₁) (h0 : X.h0 = s₀.heap) (hg : X.gens = s₀.gens) (hos : X.os = s₀.os) (hdr : X.drawn = s₀.drawn) (hf : X.env.frame = some X.env.locals)
    (hfr : A.frames = some [X.env, env]) (hk : env.scope.kind ≠ .module) (hL : env.frame = some L) (hN : ∃ m, s₀.heap.Ns L m) (hn : NewE s₁.heap s'.heap e t "ValueError" [v]) (hs' : s'.gens = s₁.gens ∧ s'.os = s₁.os ∧ s'.drawn = s₁.drawn ∧ 0 < s'.toks)
    (h : ∀ s₂, Flown env L s₀ s₂ e t v → Pe (.ref e) s₂) : wpAny (model prog w) A (leaving X.env (.ref e)) (fun _ s₃ => Pe (.ref e) s₃) (fun _ _ => False) s' := by
  have kept : Keep s₀.heap s₁.heap := h0 ▸ H.kept
  have stays : (hideAll s₀.heap [L]).StaysIn s'.heap := fun b o e => hn.keeps _ _ (kept _ _ (of_hideAll _ e))
  have hoff : s₀.heap.get? e = none := by
    cases q : s₀.heap.get? e with
    | none => rfl
    | some o => have := kept _ _ q; rw [hn.newE] at this; cases this
  have hofft : s₀.heap.get? t = none := by
    cases q : s₀.heap.get? t with
    | none => rfl
    | some o => have := kept _ _ q; rw [hn.newT] at this; cases this
  obtain ⟨m, hNs⟩ := hN
  have hNs' : s'.heap.Ns L m := (hNs.keeps kept).keeps hn.keeps
  have fun1 : s'.heap.FunFrames (hideAll s₀.heap [L]) [env] := Heap.FunFrames.cons hk hL hNs' (hideAll_none _ (.head _)) trivial
  have fun2 : s'.heap.FunFrames (hideAll s₀.heap [L]) [X.env, env] := Heap.FunFrames.cons (by rw [H.fn]; decide) hf (H.ns.keeps hn.keeps) (hide_off (h0 ▸ H.offh)) fun1
  refine wpAny_leaving_firstW (base := hideAll s₀.heap [L]) hfr fun2 hf hn.exc stays (hide_off hoff) rfl rfl rfl fun h' hl => ?_
  obtain ⟨k1, ⟨_, _, k2⟩, k3, k4⟩ := hl
  refine h _ ⟨⟨k1, hide_off hoff, k2, k3⟩, (Heap.UpToSlots.of_keeps fun b o e => hn.keeps _ _ (kept _ _ e)).trans k4, Heap.TupAt.of_slots ⟨_, _, hn.tup, rfl, rfl⟩ k4, hoff, hofft, hn.ne, Nat.ne_of_gt (Nat.lt_of_lt_of_le H.sysm hn.lowE), Nat.ne_of_gt (Nat.lt_of_lt_of_le H.sysm hn.lowT), hs'.1.trans (H.gens.trans hg), hs'.2.1.trans (H.os.trans hos), hs'.2.2.1.trans (H.drawn.trans hdr), hs'.2.2.2⟩
end
end Mine
end
-- part C28
section
open PySem PySem.Spec PySem.Calls PyProof.Rows PySem.W
set_option maxRecDepth 100000
namespace Mine
/-- a local gets this, or nothing -/
inductive PutO : Locs → Str → Option Value → Locs → Prop
  | here {x o v r} : PutO ((x, o) :: r) x v ((x, v) :: r)
  | there {p r x v r'} : PutO r x v r' → PutO (p :: r) x v (p :: r')
theorem PutO.keys {l x v l'} (h : PutO l x v l') : l'.map (·.1) = l.map (·.1) := by
  induction h with
  | here => rfl
  | there _ ih => simp [ih]
theorem PutO.mem {l x v l'} (h : PutO l x v l') : x ∈ l.map (·.1) := by
  induction h with
  | here => simp
  | there _ ih => simp [ih]
theorem PutO.mOf {l x v l'} (h : PutO l x v l') : (l.map (·.1)).Nodup → Mine.mOf l' = fun y => if y = x then v else Mine.mOf l y := by
  induction h with
  | @here x o v r =>
    intro _; funext y
    by_cases e : y = x
    · subst e; simp [mOf_cons_self]
    · rw [if_neg e, mOf_cons_ne e, mOf_cons_ne e]
  | there h ih =>
    intro hn
    rename_i p r x v r'
    rw [List.map_cons, List.nodup_cons] at hn
    obtain ⟨z, o⟩ := p
    funext y
    have hx : x ≠ z := fun e => hn.1 (e ▸ h.mem)
    by_cases e : y = z
    · subst e; rw [mOf_cons_self, mOf_cons_self, if_neg (Ne.symm hx)]
    · rw [mOf_cons_ne e, mOf_cons_ne e, ih hn.2]
/-- an exception that is frozen, with its arguments -/
structure ExcB (B : FMap) (e t : Addr) (T : String) (vs : List Value) : Prop where
  exc : ∃ o ws, B e = some o ∧ o.cls = .type T ∧ o.data = .fields ws ∧ ws[0]? = some (.ref t)
  tup : ∃ o n, B t = some o ∧ o.cls = .type "tuple" ∧ o.data = .seq vs.toArray n
section
variable {prog : Program} {w : World} {X : Fx} {B B' : FMap} {O O' : Owns} {l l' : Locs} {s s' : Shared} {A : Around} {E : Value → Shared → Prop} {Q : Value → Shared → Prop} {e t : Addr} {v : Value}
theorem flown_st (H : St X B O l s) (K : Keep (hideAll s.heap [X.env.locals]) s'.heap) (up : s.heap.UpToSlots s'.heap) (hg : s'.gens = s.gens) (ho : s'.os = s.os) (hd : s'.drawn = s.drawn) (hn : 0 < s'.toks) : St X B O l s' := by
  have ne : ∀ {b : Addr} {o : Obj}, (b = X.env.locals → False) → s.heap.get? b = some o → s'.heap.get? b = some o := fun {b o} hb e => K _ _ (hideAll_get _ e (by simpa using hb))
  exact { H with tk := hn, ns := up.ns H.ns, kept := fun b o e => ne (fun q => by rw [q, H.offh] at e; cases e) (H.kept _ _ e), fz := fun b o e => ne (fun q => by rw [q, H.offL] at e; cases e) (H.fz _ _ e), own := fun q hq => let ⟨⟨o, h1, h2⟩, h3, r⟩ := H.own q hq; ⟨⟨o, ne h3 h1, h2⟩, h3, r⟩, gens := hg.trans H.gens, os := ho.trans H.os, drawn := hd.trans H.drawn }
/-- str(e) -/
theorem e_strX {m : Str} {tk : Tok} (H : St X B O l s) (hx : ExcB B e t "ValueError" [.str m tk]) (hu : A.units + 2 < cLine) (h : Q (.str m tk) s) : wpAny (model prog w) A (call (.type "str") [.ref e]) Q E s := by
  obtain ⟨o, ws, h1, h2, h3, h4⟩ := hx.exc
  obtain ⟨o', n, g1, g2, g3⟩ := hx.tup
  exact P.str_of_exc_one PySem.F.excStr_ValueError hu ⟨o, ws, H.fz _ _ h1, h2, h3, h4⟩ ⟨o', n, H.fz _ _ g1, g2, g3⟩ h
/-- the name of a handler goes -/
theorem w_goes {n : Str} {pos : Pos} {Q : Unit → Shared → Prop} (H : St X B O l s) (f : Option Value → Locs) (hp : ∀ v, PutO l n v (f v)) (h : ∀ v s', St X B O (f v) s' → Q () s') :
    wpAny (model prog w) A (do bindName X.env n .none; unbindBehindTheSuite X.env n pos) Q E s := by
  have hmem : n ∈ l.map (·.1) := (hp none).mem
  refine wpAny_nameGoes_keeps (H.kind n hmem).1 H.ns (by rw [H.fn]; rfl) fun h' v hn hs => ?_
  have hp' := hp v
  refine h v _ ?_
  rw [← hp'.mOf H.nd] at hn
  have ne : ∀ {b : Addr}, (b = X.env.locals → False) → ∀ {o : Obj}, s.heap.get? b = some o → h'.get? b = some o := fun hb _ e => (hs.2 _ hb).trans e
  exact { H with tk := Nat.succ_pos _, ns := hn, nd := by rw [hp'.keys]; exact H.nd, kind := by rw [hp'.keys]; exact H.kind, kept := fun b o e => ne (fun q => by rw [q, H.offh] at e; cases e) (H.kept _ _ e), fz := fun b o e => ne (fun q => by rw [q, H.offL] at e; cases e) (H.fz _ _ e), own := fun q hq => let ⟨⟨o, h1, h2⟩, h3, r⟩ := H.own q hq; ⟨⟨o, ne h3 h1, h2⟩, h3, r⟩ }
theorem St.admitX (H : St X B O l s') {a : Addr} {o : Obj} (ho : s'.heap.get? a = some o) (h0 : X.h0.get? a = none) (hB : B a = none) (hL : a ≠ X.env.locals) (hO : ∀ p ∈ O, p.1 ≠ a) (hs : a ≠ sysModules) :
    ∃ B', Sub B B' ∧ B' a = some o ∧ (∀ b, b ≠ a → B' b = B b) ∧ St X B' O l s' := by
  refine ⟨fun b => if b = a then some o else B b, fun b o' e => ?_, if_pos rfl, fun b hb => if_neg hb, { H with fz := fun b o' e => ?_, low := fun b o' e => ?_, b0 := fun b o' e => ?_, new := fun b o' e => ?_, offL := ?_, own := fun p hp => ?_ }⟩
  · show (if b = a then _ else _) = _
    rw [if_neg (fun q => by rw [q, hB] at e; cases e)]; exact e
  · by_cases q : b = a
    · subst q; rw [if_pos rfl] at e; cases e; exact ho
    · rw [if_neg q] at e; exact H.fz _ _ e
  · by_cases q : b = a
    · subst q; exact hs
    · rw [if_neg q] at e; exact H.low _ _ e
  · show (if b = a then _ else _) = _
    rw [if_neg (fun q => by have := H.b0 _ _ e; rw [q, hB] at this; cases this)]; exact H.b0 _ _ e
  · by_cases q : b = a
    · subst q; exact .inr h0
    · rw [if_neg q] at e; exact H.new _ _ e
  · show (if _ = a then _ else _) = _
    rw [if_neg (Ne.symm hL)]; exact H.offL
  · obtain ⟨h1, h2, h3, h4⟩ := H.own p hp
    refine ⟨h1, h2, ?_, h4⟩
    show (if p.1 = a then _ else _) = _
    rw [if_neg (hO p hp)]; exact h3
/-- except ValueError as n, where one comes -/
theorem caught {n : Str} {b₀ : Stmt} {suite : List Stmt} {pos np : Pos} {rest : List ExceptHandler} {Q : Flow → Shared → Prop} (H : St X B O l s) (FL : Flown X.env X.env.locals s s' e t v) (hfr : A.frames = some [X.env]) (hf : X.env.frame = some X.env.locals)
    (hx : X.env.kindOf "ValueError" = some .globalImplicit) (hg : X.mg "ValueError" = none) (hp : Put l n (.ref e) l')
    (k : ∀ B' s'', Sub B B' → ExcB B' e t "ValueError" [v] → St X B' O l' s'' → wpAny (model prog w) (A.mark (some (.ref e))) (execs (b₀ :: suite) X.env)
      (fun f s₄ => wpAny (model prog w) A (do bindName X.env n .none; unbindBehindTheSuite X.env n pos) (fun _ s₅ => Q f s₅) E s₄) (fun _ _ => False) s'') :
    wpAny (model prog w) A (noteFrame (.ref e) X.env) (fun _ s₂ => wpAny (model prog w) A (setFlight (.ref e) none) (fun _ s₃ =>
      wpAny (model prog w) A (handleBy (.ref e) X.env (.ExceptHandler (some (.Name "ValueError" np)) (some n) (b₀ :: suite) pos :: rest)) Q E s₃) E s₂) E s' := by
  refine wpAny_looks_onW hfr hf FL.fly fun h₄ held₄ up₄ => ?_
  refine wpAny_landsW (s := { s' with heap := h₄ }) held₄ fun h₅ fly₅ up₅ => ?_
  have up45 : s.heap.UpToSlots h₅ := (FL.up.trans up₄).trans up₅
  have H₅ : St X B O l { s' with heap := h₅ } := flown_st H (fun b o e => fly₅.1 b o e) up45 FL.gens FL.os FL.drawn FL.tk
  refine wpAny_handleBy_builtin_as (X := "ValueError") (T := "ValueError") (b := true) (isSubtype_of_subB (by decide +kernel)) (isSubtype_of_subB (by decide +kernel)) (isSubtype_of_subB (by decide +kernel)) ?_
  refine w_builtin (v := .type "ValueError") H₅ hx hg (by decide +kernel) (by decide) ⟨rfl, fly₅.there, ?_⟩
  rw [if_pos rfl]
  refine lands_againW fly₅ fun h₆ fly₆ up₆ => ?_
  have up6 : s.heap.UpToSlots h₆ := up45.trans up₆
  have H₆ : St X B O l { s' with heap := h₆ } := flown_st H (fun b o e => fly₆.1 b o e) up6 FL.gens FL.os FL.drawn FL.tk
  obtain ⟨oe, ws, hoe, hoec, hoed, hoe0⟩ := fly₆.first
  obtain ⟨ot, nt, hot, hotc, hotd⟩ := ((FL.tup.of_slots up₄).of_slots up₅).of_slots up₆
  have offs : ∀ {b : Addr} {o : Obj}, s.heap.get? b = none → h₆.get? b = some o → X.h0.get? b = none ∧ B b = none ∧ b ≠ X.env.locals ∧ (∀ p ∈ O, p.1 ≠ b) := fun {b o} hb hb' => by
    refine ⟨?_, H.Bnone hb, fun q => ?_, fun p hp q => ?_⟩
    · cases q : X.h0.get? b with
      | none => rfl
      | some o => have := H.kept _ _ q; rw [hb] at this; cases this
    · obtain ⟨o, h1⟩ := H.Lsome; rw [q] at hb; rw [hb] at h1; cases h1
    · obtain ⟨⟨o, h1, _⟩, _⟩ := H.own p hp; rw [q, hb] at h1; cases h1
  obtain ⟨e1, e2, e3, e4⟩ := offs FL.newE hoe
  obtain ⟨t1, t2, t3, t4⟩ := offs FL.newT hot
  obtain ⟨B₁, s1, b1, r1, H₇⟩ := H₆.admitX hoe e1 e2 e3 e4 FL.sysE
  have ht2 : B₁ t = none := (r1 t FL.ne).trans t2
  obtain ⟨B₂, s2, b2, H₈⟩ := H₇.admit hot t1 ht2 t3 t4 FL.sysT
  refine w_store H₈ hp fun s'' H₉ => ?_
  exact wpAny_mono (k B₂ s'' (s1.trans s2) ⟨⟨_, _, s2 _ _ b1, hoec, hoed, hoe0⟩, ⟨_, _, b2, hotc, hotd⟩⟩ H₉) (fun _ _ x => x) fun _ _ x => x.elim
end
end Mine
end
-- part P8
section
open PySem
namespace Mine
/- what the model writes of a thing, and how it is read back: no program in sight -/
theorem Hex.snoc {ds : List Nat} {c m : Nat} (h : Hex ds c m) {v d : Nat} (hv : figures16[v]? = some d) : Hex (ds ++ [d]) c (16 * m + v) := by
  induction h with
  | nil => exact .cons v hv .nil
  | cons w hw _ ih => exact .cons w hw ih
theorem Hex.zeros {ds : List Nat} {m : Nat} (h : Hex ds 0 m) : ∀ k : Nat, Hex (List.replicate k 48 ++ ds) 0 m
  | 0 => h
  | k + 1 => by rw [List.replicate_succ]; exact .cons 0 rfl (by simpa using h.zeros k)
theorem Dec.snoc {ds : List Nat} {c m : Nat} (h : Dec ds c m) {v d : Nat} (hv : figures10[v]? = some d) : Dec (ds ++ [d]) c (10 * m + v) := by
  induction h with
  | nil => exact .cons v hv .nil
  | cons w hw _ ih => exact .cons w hw ih
theorem fig16_char : ∀ v : Fin 16, figures16[v.val]? = some (Nat.digitChar v.val).toNat := by decide +kernel
theorem fig10_char : ∀ v : Fin 10, figures10[v.val]? = some (Nat.digitChar v.val).toNat := by decide +kernel
theorem hex_digits : ∀ (k n : Nat), n < k → Hex ((Nat.toDigits 16 n).map Char.toNat) 0 n
  | 0, n, h => by omega
  | k + 1, n, h => by
    by_cases h16 : n < 16
    · rw [Nat.toDigits_of_lt_base h16]
      have := Hex.cons (ds := []) (c := 0) (c' := 16 * 0 + n) n (fig16_char ⟨n, h16⟩) .nil
      simpa using this
    · rw [Nat.toDigits_of_base_le (by decide) (by omega), List.map_append]
      have ih := hex_digits k (n / 16) (by omega)
      have := ih.snoc (fig16_char ⟨n % 16, Nat.mod_lt _ (by decide)⟩)
      rw [show 16 * (n / 16) + n % 16 = n by omega] at this
      exact this
theorem dec_digits : ∀ (k n : Nat), n < k → Dec ((Nat.toDigits 10 n).map Char.toNat) 0 n ∧ ∃ d ds, (Nat.toDigits 10 n).map Char.toNat = d :: ds ∧ (d = 48 → ds = [] ∧ n = 0)
  | 0, n, h => by omega
  | k + 1, n, h => by
    by_cases h10 : n < 10
    · rw [Nat.toDigits_of_lt_base h10]
      have := Dec.cons (ds := []) (c := 0) (c' := 10 * 0 + n) n (fig10_char ⟨n, h10⟩) .nil
      refine ⟨by simpa using this, _, [], rfl, fun e => ⟨rfl, ?_⟩⟩
      have key : ∀ v : Fin 10, (Nat.digitChar v.val).toNat = 48 → v.val = 0 := by decide +kernel
      exact key ⟨n, h10⟩ e
    · rw [Nat.toDigits_of_base_le (by decide) (by omega), List.map_append]
      obtain ⟨ih, d, ds, e, hd⟩ := dec_digits k (n / 10) (by omega)
      have := ih.snoc (fig10_char ⟨n % 10, Nat.mod_lt _ (by decide)⟩)
      rw [show 10 * (n / 10) + n % 10 = n by omega] at this
      refine ⟨this, d, ds ++ [(Nat.digitChar (n % 10)).toNat], by rw [e]; rfl, fun h48 => ?_⟩
      have := (hd h48).2
      omega
theorem toDigits16_len : ∀ (w n : Nat), 1 ≤ w → n < 16 ^ w → (Nat.toDigits 16 n).length ≤ w
  | 0, _, h, _ => by omega
  | w + 1, n, _, h => by
    by_cases h16 : n < 16
    · rw [Nat.toDigits_of_lt_base h16]; simp
    · rw [Nat.toDigits_of_base_le (by decide) (by omega), List.length_append]
      have hw : 1 ≤ w := by
        rcases Nat.eq_zero_or_pos w with e | e
        · subst e; omega
        · exact e
      have := toDigits16_len w (n / 16) hw (by rw [Nat.pow_succ] at h; omega)
      simp; omega
theorem toDigits10_len : ∀ (w n : Nat), 1 ≤ w → n < 10 ^ w → (Nat.toDigits 10 n).length ≤ w
  | 0, _, h, _ => by omega
  | w + 1, n, _, h => by
    by_cases h16 : n < 10
    · rw [Nat.toDigits_of_lt_base h16]; simp
    · rw [Nat.toDigits_of_base_le (by decide) (by omega), List.length_append]
      have hw : 1 ≤ w := by
        rcases Nat.eq_zero_or_pos w with e | e
        · subst e; omega
        · exact e
      have := toDigits10_len w (n / 10) hw (by rw [Nat.pow_succ] at h; omega)
      simp; omega
theorem hexOf_ok {c w : Nat} (hw : 1 ≤ w) (hc : c < 16 ^ w) : (hexOf c w).length = w ∧ Hex (hexOf c w) 0 c := by
  have hl := toDigits16_len w c hw hc
  unfold hexOf
  refine ⟨?_, (hex_digits (c + 1) c (Nat.lt_succ_self _)).zeros _⟩
  rw [List.length_append, List.length_replicate, List.length_map]; omega
theorem Hex.figs {ds : List Nat} {c m : Nat} (h : Hex ds c m) : ∀ d ∈ ds, 48 ≤ d ∧ d ≤ 102 := by
  induction h with
  | nil => intro d hd; simp at hd
  | @cons d ds c c' v hv _ ih =>
    intro x hx
    rcases List.mem_cons.mp hx with rfl | hx
    · have hl : v < 16 := (List.getElem?_eq_some_iff.mp hv).1
      have key : ∀ v : Fin 16, ∀ d, figures16[v.val]? = some d → 48 ≤ d ∧ d ≤ 102 := by
        intro v d h
        have h2 : figures16[v.val]! = d := by rw [List.getElem!_eq_getElem?_getD, h]; rfl
        subst h2
        revert v; intro v _; revert v; decide
      exact key ⟨v, hl⟩ _ hv
    · exact ih x hx
theorem Dec.figs {ds : List Nat} {c m : Nat} (h : Dec ds c m) : ∀ d ∈ ds, 48 ≤ d ∧ d ≤ 57 := by
  induction h with
  | nil => intro d hd; simp at hd
  | @cons d ds c c' v hv hr ih =>
    intro x hx
    rcases List.mem_cons.mp hx with rfl | hx
    · exact Dec.fig (.cons v hv hr)
    · exact ih x hx
/-- an escape by a number -/
structure EscOk (e : Nat) (hs : List Nat) (c : Nat) : Prop where
  len : hs.length = sizeOf e
  pos : sizeOf e ≠ 0
  hex : Hex hs 0 c
  least : leastOf (sizeOf e) ≤ c
  sign : e = 120 ∨ e = 117 ∨ e = 85
theorem esc_of {c : Nat} (hc : c < 1114112) : ∃ e hs, (if c < 256 then [92, 120] ++ hexOf c 2 else if c < 65536 then [92, 117] ++ hexOf c 4 else [92, 85] ++ hexOf c 8) = 92 :: e :: hs ∧ EscOk e hs c := by
  by_cases h1 : c < 256
  · rw [if_pos h1]
    obtain ⟨a, b⟩ := hexOf_ok (c := c) (w := 2) (by decide) (by omega)
    exact ⟨120, hexOf c 2, rfl, a, by decide, b, by simp [leastOf, sizeOf], .inl rfl⟩
  · rw [if_neg h1]
    by_cases h2 : c < 65536
    · rw [if_pos h2]
      obtain ⟨a, b⟩ := hexOf_ok (c := c) (w := 4) (by decide) (by omega)
      exact ⟨117, hexOf c 4, rfl, a, by decide, b, by simp [leastOf, sizeOf]; omega, .inr (.inl rfl)⟩
    · rw [if_neg h2]
      obtain ⟨a, b⟩ := hexOf_ok (c := c) (w := 8) (by decide) (by omega)
      exact ⟨85, hexOf c 8, rfl, a, by decide, b, by simp [leastOf, sizeOf]; omega, .inr (.inr rfl)⟩
/-- how the signs beyond 127 are laid: as they are, or by their number -/
structure Lays (esc : Nat → List Nat) : Prop where
  low : ∀ c, c < 128 → esc c = [c]
  high : ∀ c, 128 ≤ c → c < 1114112 → esc c = [c] ∨ ∃ e hs, esc c = 92 :: e :: hs ∧ EscOk e hs c
theorem lays_id : Lays fun c => [c] := ⟨fun _ _ => rfl, fun _ _ _ => .inl rfl⟩
theorem lays_ascii : Lays aesc := by
  refine ⟨fun c h => by unfold aesc; rw [if_pos h], fun c h hc => .inr ?_⟩
  unfold aesc
  rw [if_neg (by omega)]
  exact esc_of hc
theorem Lays.lows {esc : Nat → List Nat} (L : Lays esc) : ∀ {l : List Nat}, (∀ c ∈ l, c < 128) → l.flatMap esc = l
  | [], _ => rfl
  | c :: l, h => by rw [List.flatMap_cons, L.low c (h c (.head _)), L.lows fun x hx => h x (.tail _ hx)]; rfl
theorem printable_low : ∀ c : Fin 128, Unicode.isPrintable c.val = (decide (32 ≤ c.val) && decide (c.val ≤ 126)) := by decide +kernel
/-- what stands in a text for one sign -/
def bodyOf (esc : Nat → List Nat) (q c : Nat) : List Nat := (Builtin.Str.reprChar q c).flatMap esc
/-- a sign as it is, a backslash and a sign, or a backslash and a number -/
inductive Body (q c : Nat) : List Nat → Prop
  | plain : c ≠ q → c ≠ 92 → 32 ≤ c → c ≠ 127 → Body q c [c]
  | short {e} : sizeOf e = 0 → shortOf q e = some c → 32 ≤ e → e ≤ 126 → Body q c [92, e]
  | num {e hs} : EscOk e hs c → (c < 32 ∨ 126 < c) → c ≠ 10 → c ≠ 13 → c ≠ 9 → Body q c (92 :: e :: hs)
theorem body_of {esc : Nat → List Nat} (L : Lays esc) {q c : Nat} (hq : q = 39 ∨ q = 34) (hc : c < 1114112) : Body q c (bodyOf esc q c) ∧ (bodyOf esc q c ≠ [c] ∨ c < 128 ∨ esc c = [c]) := by
  unfold bodyOf Builtin.Str.reprChar
  by_cases h1 : (c == q || c == 92) = true
  · rw [if_pos h1]
    have hcq : c = q ∨ c = 92 := by simpa using h1
    have hlow : c < 128 := by omega
    rw [L.lows (l := [92, c]) (by simp; omega)]
    refine ⟨.short ?_ ?_ (by omega) (by omega), .inr (.inl hlow)⟩
    · rcases hcq with rfl | rfl
      · rcases hq with rfl | rfl <;> rfl
      · rfl
    · rcases hcq with rfl | rfl
      · rcases hq with rfl | rfl <;> rfl
      · rfl
  rw [if_neg h1]
  have hcq : c ≠ q ∧ c ≠ 92 := by simpa using h1
  by_cases h2 : (c == 10) = true
  · rw [if_pos h2, L.lows (l := [92, 110]) (by simp)]
    obtain rfl : c = 10 := by simpa using h2
    exact ⟨.short rfl rfl (by decide) (by decide), .inr (.inl (by decide))⟩
  rw [if_neg h2]
  by_cases h3 : (c == 13) = true
  · rw [if_pos h3, L.lows (l := [92, 114]) (by simp)]
    obtain rfl : c = 13 := by simpa using h3
    exact ⟨.short rfl rfl (by decide) (by decide), .inr (.inl (by decide))⟩
  rw [if_neg h3]
  by_cases h4 : (c == 9) = true
  · rw [if_pos h4, L.lows (l := [92, 116]) (by simp)]
    obtain rfl : c = 9 := by simpa using h4
    exact ⟨.short rfl rfl (by decide) (by decide), .inr (.inl (by decide))⟩
  rw [if_neg h4]
  have hne : c ≠ 10 ∧ c ≠ 13 ∧ c ≠ 9 := ⟨by simpa using h2, by simpa using h3, by simpa using h4⟩
  by_cases h5 : Unicode.isPrintable c = true
  · rw [if_pos h5]
    by_cases hlow : c < 128
    · have hp := printable_low ⟨c, hlow⟩
      simp only [h5] at hp
      have hp' : 32 ≤ c ∧ c ≤ 126 := by simpa using hp.symm
      rw [L.lows (l := [c]) (by simp; omega)]
      exact ⟨.plain hcq.1 hcq.2 hp'.1 (by omega), .inr (.inl hlow)⟩
    · rw [List.flatMap_cons, List.flatMap_nil, List.append_nil]
      rcases L.high c (by omega) hc with e | ⟨e, hs, e1, e2⟩
      · rw [e]; exact ⟨.plain hcq.1 hcq.2 (by omega) (by omega), .inr (.inr rfl)⟩
      · rw [e1]; exact ⟨.num e2 (by omega) hne.1 hne.2.1 hne.2.2, .inl (by simp)⟩
  · rw [if_neg h5]
    obtain ⟨e, hs, e1, e2⟩ := esc_of hc
    show Body q c (List.flatMap esc (if c < 256 then [92, 120] ++ hexOf c 2 else if c < 65536 then [92, 117] ++ hexOf c 4 else [92, 85] ++ hexOf c 8)) ∧ (List.flatMap esc (if c < 256 then [92, 120] ++ hexOf c 2 else if c < 65536 then [92, 117] ++ hexOf c 4 else [92, 85] ++ hexOf c 8) ≠ [c] ∨ _)
    rw [e1, L.lows (l := 92 :: e :: hs) (by
      intro x hx
      rcases List.mem_cons.mp hx with rfl | hx
      · decide
      rcases List.mem_cons.mp hx with rfl | hx
      · rcases e2.sign with rfl | rfl | rfl <;> decide
      · have := e2.hex.figs x hx; omega)]
    refine ⟨.num e2 ?_ hne.1 hne.2.1 hne.2.2, .inl (by simp)⟩
    by_cases hlow : c < 128
    · have hp := printable_low ⟨c, hlow⟩
      have h5' : Unicode.isPrintable c = false := by simpa using h5
      simp only [h5'] at hp
      have : ¬ (32 ≤ c ∧ c ≤ 126) := by simpa using hp.symm
      omega
    · omega
end Mine
end
-- part P9
section
open PySem
namespace Mine
def quoteOf (x : List Nat) : Nat := if (decide (39 ∈ x) && !decide (34 ∈ x)) = true then 34 else 39
def intText (i : Int) : List Nat := if i < 0 then 45 :: (Nat.toDigits 10 i.natAbs).map Char.toNat else (Nat.toDigits 10 i.natAbs).map Char.toNat
def sepTx : List (List Nat) → List Nat
  | [] => []
  | t :: r => 44 :: 32 :: t ++ sepTx r
def joinTx : List (List Nat) → List Nat
  | [] => []
  | t :: r => t ++ sepTx r
mutual
/-- the signs that are written for a thing -/
def tx (esc : Nat → List Nat) : PyData → List Nat
  | .none => [78, 111, 110, 101]
  | .bool b => if b then [84, 114, 117, 101] else [70, 97, 108, 115, 101]
  | .int i => intText i
  | .str x => quoteOf x.cps.toList :: (x.cps.toList.flatMap (bodyOf esc (quoteOf x.cps.toList)) ++ [quoteOf x.cps.toList])
  | .list ds => 91 :: (joinTx (txAll esc ds) ++ [93])
  | .tuple ds => 40 :: (joinTx (txAll esc ds) ++ (if ds.length = 1 then [44, 41] else [41]))
  | .dict kvs => 123 :: (joinTx (txKvs esc kvs) ++ [125])
def txAll (esc : Nat → List Nat) : List PyData → List (List Nat)
  | [] => []
  | d :: r => tx esc d :: txAll esc r
def txKvs (esc : Nat → List Nat) : List (PyData × PyData) → List (List Nat)
  | [] => []
  | (k, v) :: r => (tx esc k ++ 58 :: 32 :: tx esc v) :: txKvs esc r
end
theorem txAll_map (esc : Nat → List Nat) : ∀ ds : List PyData, txAll esc ds = ds.map (tx esc)
  | [] => by simp [txAll]
  | d :: r => by simp [txAll, txAll_map esc r]
theorem txKvs_map (esc : Nat → List Nat) : ∀ ds : List (PyData × PyData), txKvs esc ds = ds.map fun kv => tx esc kv.1 ++ 58 :: 32 :: tx esc kv.2
  | [] => by simp [txKvs]
  | (k, v) :: r => by simp [txKvs, txKvs_map esc r]

theorem toList_append (a b : Str) : (a ++ b).cps.toList = a.cps.toList ++ b.cps.toList := by
  show (Str.mk (a.cps ++ b.cps)).cps.toList = _
  simp
theorem join_toList (esc : Nat → List Nat) (L : Lays esc) : ∀ ts : List Str, ((Str.join ", " ts).cps.toList).flatMap esc = joinTx (ts.map fun t => t.cps.toList.flatMap esc)
  | [] => rfl
  | [t] => by simp [Str.join, joinTx, sepTx]
  | t :: u :: r => by
    have ih := join_toList esc L (u :: r)
    have e : Str.join ", " (t :: u :: r) = t ++ ", " ++ Str.join ", " (u :: r) := rfl
    have hs : ((", " : Str).cps.toList) = [44, 32] := by decide +kernel
    rw [e, toList_append, toList_append, List.flatMap_append, List.flatMap_append, ih, hs, L.lows (l := [44, 32]) (by simp)]
    simp [joinTx, sepTx]
theorem ofString_toList (x : String) : (Str.ofString x).cps.toList = x.toList.map Char.toNat := by
  rw [Str.ofString_eq_byList]
  rfl
theorem toString_int (i : Int) : ((toString i : String) : Str).cps.toList = intText i := by
  unfold intText
  rw [ofString_toList, Int.toString_eq_repr, Int.repr_eq_if]
  have key : ∀ m : Nat, (Nat.repr m).toList = Nat.toDigits 10 m := fun m => by
    unfold Nat.repr
    rw [String.toList_ofList]
  by_cases h : 0 ≤ i
  · rw [if_pos h, if_neg (by omega), key, show i.toNat = i.natAbs by omega]
  · rw [if_neg h, if_pos (by omega), String.toList_append, List.map_append, key, show (-i).toNat = i.natAbs by omega]
    rfl
theorem intText_low (i : Int) : ∀ c ∈ intText i, c < 128 := by
  have h := (dec_digits (i.natAbs + 1) i.natAbs (Nat.lt_succ_self _)).1.figs
  unfold intText
  split
  · intro c hc
    rcases List.mem_cons.mp hc with rfl | hc
    · decide
    · have := h c hc; omega
  · intro c hc; have := h c hc; omega
theorem repr_toList (esc : Nat → List Nat) (L : Lays esc) (x : Str) : (reprText x).cps.toList.flatMap esc = tx esc (.str x) := by
  unfold reprText tx
  have hq : reprQuote x = quoteOf x.cps.toList := by
    unfold reprQuote quoteOf
    simp
  have hq' : quoteOf x.cps.toList < 128 := by unfold quoteOf; split <;> decide
  rw [hq]
  have key : ∀ (l : List Nat) (acc : Array Nat), (l.foldl (fun out c => out ++ (Builtin.Str.reprChar (quoteOf x.cps.toList) c).toArray) acc).toList = acc.toList ++ l.flatMap (Builtin.Str.reprChar (quoteOf x.cps.toList)) := by
    intro l
    induction l with
    | nil => intro acc; simp
    | cons c l ih => intro acc; rw [List.foldl_cons, ih, List.flatMap_cons]; simp
  rw [Array.toList_push, ← Array.foldl_toList, key]
  simp only [List.flatMap_append, List.flatMap_cons, List.flatMap_nil, L.low _ hq', List.append_nil, List.cons_append, List.nil_append]
  congr 2
  rw [List.flatMap_assoc]
  rfl
mutual
theorem shown_tx (esc : Nat → List Nat) (L : Lays esc) : ∀ d : PyData, d.shown.cps.toList.flatMap esc = tx esc d
  | .none => by rw [PyData.shown_none]; rw [show (("None" : Str).cps.toList) = [78, 111, 110, 101] by decide +kernel, L.lows (by simp)]; simp [tx]
  | .bool true => by rw [PyData.shown_bool]; rw [show ((if true = true then ("True" : String) else "False" : Str).cps.toList) = [84, 114, 117, 101] by decide +kernel, L.lows (by simp)]; simp [tx]
  | .bool false => by rw [PyData.shown_bool]; rw [show ((if false = true then ("True" : String) else "False" : Str).cps.toList) = [70, 97, 108, 115, 101] by decide +kernel, L.lows (by simp)]; simp [tx]
  | .int i => by rw [PyData.shown_int, toString_int, L.lows (intText_low i)]; simp [tx]
  | .str x => by rw [PyData.shown_str, repr_toList esc L]
  | .list ds => by
    rw [PyData.shown_list, toList_append, toList_append, List.flatMap_append, List.flatMap_append, join_toList esc L, shownAll_tx esc L ds]
    rw [show (("[" : Str).cps.toList) = [91] by decide +kernel, show (("]" : Str).cps.toList) = [93] by decide +kernel, L.lows (l := [91]) (by simp), L.lows (l := [93]) (by simp)]
    simp [tx]
  | .tuple ds => by
    rw [PyData.shown_tuple, toList_append, toList_append, List.flatMap_append, List.flatMap_append, join_toList esc L, shownAll_tx esc L ds]
    rw [show (("(" : Str).cps.toList) = [40] by decide +kernel, L.lows (l := [40]) (by simp)]
    unfold tx
    by_cases h : ds.length = 1
    · rw [h]
      rw [show ((if (1 == 1) = true then (",)" : String) else ")" : String) : Str).cps.toList = [44, 41] by decide +kernel, L.lows (l := [44, 41]) (by simp)]
      simp
    · have hb : (ds.length == 1) = false := by simpa using h
      rw [hb, show ((if false = true then (",)" : String) else ")" : String) : Str).cps.toList = [41] by decide +kernel, L.lows (l := [41]) (by simp), if_neg h]
      simp
  | .dict kvs => by
    rw [PyData.shown_dict, toList_append, toList_append, List.flatMap_append, List.flatMap_append, join_toList esc L, shownKv_tx esc L kvs]
    rw [show (("{" : Str).cps.toList) = [123] by decide +kernel, show (("}" : Str).cps.toList) = [125] by decide +kernel, L.lows (l := [123]) (by simp), L.lows (l := [125]) (by simp)]
    simp [tx]
theorem shownAll_tx (esc : Nat → List Nat) (L : Lays esc) : ∀ ds : List PyData, (PyData.shownAll ds).map (fun t => t.cps.toList.flatMap esc) = txAll esc ds
  | [] => by rw [PyData.shownAll_nil]; simp [txAll]
  | d :: r => by rw [PyData.shownAll_cons, List.map_cons, shown_tx esc L d, shownAll_tx esc L r]; simp [txAll]
theorem shownKv_tx (esc : Nat → List Nat) (L : Lays esc) : ∀ kvs : List (PyData × PyData), (PyData.shownKv kvs).map (fun t => t.cps.toList.flatMap esc) = txKvs esc kvs
  | [] => by rw [PyData.shownKv_nil]; simp [txKvs]
  | (k, v) :: r => by
    rw [PyData.shownKv_cons, List.map_cons, toList_append, toList_append, List.flatMap_append, List.flatMap_append, shown_tx esc L k, shown_tx esc L v, shownKv_tx esc L r]
    rw [show ((": " : Str).cps.toList) = [58, 32] by decide +kernel, L.lows (l := [58, 32]) (by simp)]
    simp [txKvs]
end
end Mine
end
-- part P10
section
open PySem
namespace Mine
/-- what may stand behind a thing -/
def Term (suf : List Nat) : Prop := suf = [] ∨ ∃ c r, suf = c :: r ∧ c ∈ stops
theorem at_mid {pre r : List Nat} {c : Nat} : (pre ++ c :: r)[pre.length]? = some c := by simp
theorem drop_pre {pre r : List Nat} : (pre ++ r).drop pre.length = r := by simp
theorem TL_cast {a a' : List Nat} {q p p2 e e2 : Nat} {r r' r2 : List Nat} (h : TL a q p r e r') (h0 : a = a') (h1 : p = p2) (h2 : e = e2) (h3 : r' = r2) : TL a' q p2 r e2 r2 := by subst h0; subst h1; subst h2; subst h3; exact h
theorem TL_go {esc : Nat → List Nat} (L : Lays esc) {q : Nat} (hq : q = 39 ∨ q = 34) : ∀ (xs r pre suf : List Nat), (∀ c ∈ xs, c < 1114112) →
    TL (pre ++ (xs.flatMap (bodyOf esc q) ++ q :: suf)) q pre.length r (pre.length + (xs.flatMap (bodyOf esc q)).length) (r ++ xs)
  | [], r, pre, suf, _ => by
    simp only [List.flatMap_nil, List.nil_append, List.length_nil, Nat.add_zero, List.append_nil]
    exact .stop at_mid
  | c :: xs, r, pre, suf, h => by
    have hc := h c (.head _)
    have ih := fun pre r => TL_go L hq xs r pre suf fun x hx => h x (.tail _ hx)
    obtain ⟨hb, _⟩ := body_of L hq hc
    rw [List.flatMap_cons]
    generalize bodyOf esc q c = b at hb ⊢
    cases hb with
    | plain h1 h2 h3 h4 =>
      refine .plain c (by simp) h1 h2 h3 h4 ?_
      exact TL_cast (ih (pre ++ [c]) (r ++ [c])) (by simp) (by simp) (by simp; omega) (by simp)
    | @short e h1 h2 h3 h4 =>
      refine .esc e 0 c (by simp) (by simp) (by rw [h1]; simp; exact .nil) (.inl ⟨h1, h2⟩) ?_
      rw [h1]
      exact TL_cast (ih (pre ++ [92, e]) (r ++ [c])) (by simp) (by simp) (by simp; omega) (by simp)
    | @num e hs h1 h2 h3 h4 h5 =>
      have hd : (pre ++ (92 :: e :: hs ++ List.flatMap (bodyOf esc q) xs ++ q :: suf)).drop (pre.length + 2) = hs ++ (List.flatMap (bodyOf esc q) xs ++ q :: suf) := by
        rw [show pre ++ (92 :: e :: hs ++ List.flatMap (bodyOf esc q) xs ++ q :: suf) = (pre ++ [92, e]) ++ (hs ++ (List.flatMap (bodyOf esc q) xs ++ q :: suf)) by simp,
          show pre.length + 2 = (pre ++ [92, e]).length by simp, drop_pre]
      have hl := h1.len
      refine .esc e c c (by simp) (by simp) (by rw [hd, ← h1.len]; simp; exact h1.hex) (.inr ⟨h1.pos, rfl, by omega, h2, h3, h4, h5, h1.least⟩) ?_
      exact TL_cast (ih (pre ++ (92 :: e :: hs)) (r ++ [c])) (by simp) (by simp; omega) (by simp; omega) (by simp)
theorem word_to {pre w suf : List Nat} (hw : ∀ c ∈ w, c ∉ stops) (ht : Term suf) : WordTo (pre ++ (w ++ suf)) pre.length (pre.length + w.length) where
  le := Nat.le_add_right _ _
  len := by simp
  mid := fun k h1 h2 => by
    have hk : k - pre.length < w.length := by omega
    refine ⟨w[k - pre.length], ?_, hw _ (List.getElem_mem _)⟩
    rw [List.getElem?_append_right h1, List.getElem?_append_left hk, List.getElem?_eq_getElem hk]
  fin := by
    rcases ht with rfl | ⟨c, r, rfl, hc⟩
    · left; simp
    · right
      refine ⟨c, ?_, hc⟩
      rw [List.getElem?_append_right (by omega), show pre.length + w.length - pre.length = w.length by omega, List.getElem?_append_right (Nat.le_refl _)]; simp
theorem word_take {pre w suf : List Nat} : ((pre ++ (w ++ suf)).drop pre.length).take (pre.length + w.length - pre.length) = w := by
  rw [drop_pre, show pre.length + w.length - pre.length = w.length by omega]; simp
theorem leaf_word {pre w suf : List Nat} {d : PyData} {c : Nat} {r : List Nat} (e : w = c :: r) (hc : c ∉ [39, 34, 91, 40, 123]) (hw : ∀ c ∈ w, c ∉ stops) (ht : Term suf) (hd : WordIs w d) : Leafs (pre ++ (w ++ suf)) pre.length d (pre.length + w.length) := by
  refine .word (c := c) (by rw [e]; simp) hc (word_to hw ht) ?_
  rw [word_take]; exact hd
theorem int_word (i : Int) : WordIs (intText i) (.int i) ∧ (∀ c ∈ intText i, c ∉ stops ∧ c ≤ 126 ∧ 32 ≤ c) ∧ ∃ c r, intText i = c :: r ∧ c ∉ [39, 34, 91, 40, 123] ∧ c ≠ 93 ∧ c ≠ 41 ∧ c ≠ 125 := by
  obtain ⟨h1, d, ds, e, h2⟩ := dec_digits (i.natAbs + 1) i.natAbs (Nat.lt_succ_self _)
  have hf := h1.figs
  have hst : ∀ c, 48 ≤ c → c ≤ 57 → c ∉ stops := fun c a b => by unfold stops; simp; omega
  have hfd := hf d (by rw [e]; exact .head _)
  unfold intText
  by_cases hi : i < 0
  · rw [if_pos hi]
    refine ⟨?_, fun c hc => ?_, 45, _, rfl, by decide, by decide, by decide, by decide⟩
    · have := WordIs.neg (d := d) (ds := ds) (n := i.natAbs) (by rw [← e]; exact h1) (fun h => by have := (h2 h).2; omega)
      rw [e]
      rw [show (-(i.natAbs : Int)) = i by omega] at this
      exact this
    · rcases List.mem_cons.mp hc with rfl | hc
      · exact ⟨by decide, by decide, by decide⟩
      · have := hf c hc; exact ⟨hst c this.1 this.2, by omega, by omega⟩
  · rw [if_neg hi]
    refine ⟨?_, fun c hc => ?_, d, ds, e, by simp; omega, by omega, by omega, by omega⟩
    · have := WordIs.num (d := d) (ds := ds) (n := i.natAbs) (by rw [← e]; exact h1) (fun h => (h2 h).1)
      rw [e]
      rw [show ((i.natAbs : Nat) : Int) = i by omega] at this
      exact this
    · have := hf c hc; exact ⟨hst c this.1 this.2, by omega, by omega⟩
/-- the first sign of a thing closes nothing -/
theorem tx_head (esc : Nat → List Nat) (d : PyData) : ∃ c r, tx esc d = c :: r ∧ c ≠ 93 ∧ c ≠ 41 ∧ c ≠ 125 := by
  cases d with
  | none => exact ⟨78, [111, 110, 101], by simp [tx], by decide, by decide, by decide⟩
  | bool b => cases b
              · exact ⟨70, [97, 108, 115, 101], by simp [tx], by decide, by decide, by decide⟩
              · exact ⟨84, [114, 117, 101], by simp [tx], by decide, by decide, by decide⟩
  | int i => obtain ⟨_, _, c, r, e, _, h⟩ := int_word i; exact ⟨c, r, by simp [tx, e], h⟩
  | str x => exact ⟨_, _, by unfold tx; rfl, by unfold quoteOf; split <;> decide, by unfold quoteOf; split <;> decide, by unfold quoteOf; split <;> decide⟩
  | list ds => exact ⟨_, _, by unfold tx; rfl, by decide, by decide, by decide⟩
  | tuple ds => exact ⟨_, _, by unfold tx; rfl, by decide, by decide, by decide⟩
  | dict ds => exact ⟨_, _, by unfold tx; rfl, by decide, by decide, by decide⟩
/-- one item of a row: its text, and how it is read -/
structure ItemAt (T : List Nat → Nat → PyData → Nat → Prop) (f : Nat) (t : List Nat) (d : PyData) : Prop where
  head : ∃ c r, t = c :: r ∧ c ≠ 93 ∧ c ≠ 41 ∧ c ≠ 125
  read : ∀ pre suf, Term suf → f ≠ 123 ∧ T (pre ++ (t ++ suf)) pre.length d (pre.length + t.length) ∨
    f = 123 ∧ ∃ k v q, T (pre ++ (t ++ suf)) pre.length k q ∧ ((pre ++ (t ++ suf)).drop q).take 2 = [58, 32] ∧ T (pre ++ (t ++ suf)) (q + 2) v (pre.length + t.length) ∧ d = .tuple [k, v]
theorem term_sep (ts : List (List Nat)) {c : Nat} (hc : c ∈ stops) (suf : List Nat) : Term (sepTx ts ++ c :: suf) := by
  cases ts with
  | nil => exact .inr ⟨c, suf, rfl, hc⟩
  | cons t r => exact .inr ⟨44, _, rfl, by decide⟩
theorem Ls_more {T : List Nat → Nat → PyData → Nat → Prop} {f cl : Nat} (hcl : cl = 93 ∨ cl = 41 ∨ cl = 125) : ∀ (ts : List (List Nat)) (ds : List PyData) (n : Nat) (pre suf : List Nat), n ≠ 0 → ts.length = ds.length → (∀ (i : Nat) (t : List Nat) (d : PyData), ts[i]? = some t → ds[i]? = some d → ItemAt T f t d) →
    Ls (T (pre ++ (sepTx ts ++ cl :: suf))) (pre ++ (sepTx ts ++ cl :: suf)) f n pre.length ds (pre.length + (sepTx ts).length)
  | [], [], n, pre, suf, _, _, _ => by
    simp only [sepTx, List.nil_append, List.length_nil, Nat.add_zero]
    exact .stop at_mid hcl
  | [], _ :: _, _, _, _, _, h, _ => by simp at h
  | _ :: _, [], _, _, _, _, h, _ => by simp at h
  | t :: ts, d :: ds, n, pre, suf, hn, hl, hi => by
    have hcs : cl ∈ stops := by unfold stops; rcases hcl with rfl | rfl | rfl <;> decide
    have hit := hi 0 t d rfl rfl
    have ih := Ls_more hcl ts ds (n + 1) (pre ++ (44 :: 32 :: t)) suf (Nat.succ_ne_zero n) (by simpa using hl) (fun i t d h1 h2 => hi (i + 1) t d h1 h2)
    have hr := hit.read (pre ++ [44, 32]) (sepTx ts ++ cl :: suf) (term_sep ts hcs suf)
    have e1 : (pre ++ (44 :: 32 :: t)) ++ (sepTx ts ++ cl :: suf) = pre ++ (sepTx (t :: ts) ++ cl :: suf) := by simp [sepTx]
    have e2 : (pre ++ [44, 32]) ++ (t ++ (sepTx ts ++ cl :: suf)) = pre ++ (sepTx (t :: ts) ++ cl :: suf) := by simp [sepTx]
    rw [e1] at ih
    rw [e2] at hr
    simp only [List.length_append, List.length_cons, List.length_nil] at ih hr
    have hlen : (sepTx (t :: ts)).length = t.length + 2 + (sepTx ts).length := by simp [sepTx]; omega
    obtain ⟨c0, r0, et, _⟩ := hit.head
    have htl : 1 ≤ t.length := by rw [et]; simp
    refine .item (c := 44) (p₁ := pre.length + 2) (p₂ := pre.length + (t.length + 1 + 1)) (p₃ := pre.length + (t.length + 1 + 1)) (by simp [sepTx]) (by decide) (by decide) (by decide) (.inr ⟨hn, by simp [sepTx], rfl⟩) ?_ (.inr ⟨fun h => hn h.2.1, rfl⟩) (by omega) ?_
    · rw [show pre.length + (0 + 1 + 1) = pre.length + 2 by omega, show pre.length + 2 + t.length = pre.length + (t.length + 1 + 1) by omega] at hr
      exact hr
    · rw [hlen, show pre.length + (t.length + 2 + (sepTx ts).length) = pre.length + (t.length + 1 + 1) + (sepTx ts).length by omega]
      exact ih
end Mine
end
-- part P11
section
open PySem
namespace Mine
theorem Ls_cast {T T' : Nat → PyData → Nat → Prop} {a a' : List Nat} {f n p p2 e e2 : Nat} {ds : List PyData} (h : Ls T a f n p ds e) (hT : T = T') (h0 : a = a') (h1 : p = p2) (h2 : e = e2) : Ls T' a' f n p2 ds e2 := by subst hT; subst h0; subst h1; subst h2; exact h
/-- how a row is closed -/
def closeTx (f k : Nat) : List Nat := if f = 91 then [93] else if f = 123 then [125] else if k = 1 then [44, 41] else [41]
theorem Ls_all {T : List Nat → Nat → PyData → Nat → Prop} {f : Nat} (hf : f = 91 ∨ f = 40 ∨ f = 123) (ts : List (List Nat)) (ds : List PyData) (pre suf : List Nat) (hl : ts.length = ds.length)
    (hi : ∀ (i : Nat) (t : List Nat) (d : PyData), ts[i]? = some t → ds[i]? = some d → ItemAt T f t d) :
    ∃ e, Ls (T (pre ++ (joinTx ts ++ (closeTx f ds.length ++ suf)))) (pre ++ (joinTx ts ++ (closeTx f ds.length ++ suf))) f 0 pre.length ds e ∧ e + 1 = pre.length + (joinTx ts).length + (closeTx f ds.length).length ∧
      (pre ++ (joinTx ts ++ (closeTx f ds.length ++ suf)))[e]? = some (closerOf f) ∧ (f = 40 → ds.length = 1 → (pre ++ (joinTx ts ++ (closeTx f ds.length ++ suf)))[e - 1]? = some 44) := by
  have hcl : closerOf f = 93 ∨ closerOf f = 41 ∨ closerOf f = 125 := by rcases hf with rfl | rfl | rfl <;> simp [closerOf]
  have hcs : closerOf f ∈ stops := by rcases hf with rfl | rfl | rfl <;> decide
  match ts, ds, hl with
  | [], [], _ =>
    have hc0 : closeTx f ([] : List PyData).length = [closerOf f] := by rcases hf with rfl | rfl | rfl <;> simp [closeTx, closerOf]
    rw [hc0]
    refine ⟨pre.length, ?_, by simp [joinTx], by simp [joinTx], fun _ h => by simp at h⟩
    refine .stop (c := closerOf f) (by simp [joinTx]) hcl
  | t :: ts', d :: r, hl =>
    have hit := hi 0 t d rfl rfl
    obtain ⟨c0, r0, et, hc1, hc2, hc3⟩ := hit.head
    have htl : 1 ≤ t.length := by rw [et]; simp
    have hl' : ts'.length = r.length := by simpa using hl
    by_cases h1 : f = 40 ∧ r = []
    · obtain ⟨rfl, rfl⟩ := h1
      have hts : ts' = [] := List.length_eq_zero_iff.mp (by simpa using hl')
      subst hts
      have hc0 : closeTx 40 ([d] : List PyData).length = [44, 41] := by simp [closeTx]
      rw [hc0]
      have hr := hit.read pre ([44, 41] ++ suf) (.inr ⟨44, _, rfl, by decide⟩)
      have ea : pre ++ (joinTx [t] ++ ([44, 41] ++ suf)) = pre ++ (t ++ ([44, 41] ++ suf)) := by simp [joinTx, sepTx]
      rw [ea]
      refine ⟨pre.length + t.length + 1, ?_, by simp [joinTx, sepTx] <;> omega, ?_, fun _ _ => ?_⟩
      · refine .item (c := c0) (p₁ := pre.length) (p₂ := pre.length + t.length) (p₃ := pre.length + t.length + 1) (by rw [et]; simp) hc1 hc2 hc3 (.inl ⟨rfl, rfl⟩) hr (.inl ⟨rfl, rfl, ?_, rfl⟩) (by omega) (.stop (c := 41) ?_ (.inr (.inl rfl)))
        · rw [show pre ++ (t ++ ([44, 41] ++ suf)) = (pre ++ t) ++ ([44, 41] ++ suf) by simp, show pre.length + t.length = (pre ++ t).length by simp, drop_pre]; rfl
        · rw [show pre ++ (t ++ ([44, 41] ++ suf)) = (pre ++ t ++ [44]) ++ 41 :: suf by simp, show pre.length + t.length + 1 = (pre ++ t ++ [44]).length by simp <;> omega]; exact at_mid
      · rw [show pre ++ (t ++ ([44, 41] ++ suf)) = (pre ++ t ++ [44]) ++ 41 :: suf by simp, show pre.length + t.length + 1 = (pre ++ t ++ [44]).length by simp <;> omega]; exact at_mid
      · rw [show pre ++ (t ++ ([44, 41] ++ suf)) = (pre ++ t) ++ 44 :: (41 :: suf) by simp, show pre.length + t.length + 1 - 1 = (pre ++ t).length by simp]; exact at_mid
    · have hc0 : closeTx f (d :: r).length = [closerOf f] := by
        rcases hf with rfl | rfl | rfl
        · simp [closeTx, closerOf]
        · have : r ≠ [] := fun e => h1 ⟨rfl, e⟩
          have : (d :: r).length ≠ 1 := by simpa using this
          unfold closeTx
          rw [if_neg (by decide), if_neg (by decide), if_neg this]; rfl
        · simp [closeTx, closerOf]
      rw [hc0]
      have hm := Ls_more (T := T) (f := f) hcl ts' r 1 (pre ++ t) suf (by decide) hl' (fun i t d h1 h2 => hi (i + 1) t d h1 h2)
      have hr := hit.read pre (sepTx ts' ++ closerOf f :: suf) (term_sep ts' hcs suf)
      have ea : pre ++ (joinTx (t :: ts') ++ ([closerOf f] ++ suf)) = pre ++ (t ++ (sepTx ts' ++ closerOf f :: suf)) := by simp [joinTx]
      have eb : (pre ++ t) ++ (sepTx ts' ++ closerOf f :: suf) = pre ++ (t ++ (sepTx ts' ++ closerOf f :: suf)) := by simp
      rw [ea]
      rw [eb] at hm
      refine ⟨pre.length + t.length + (sepTx ts').length, ?_, by simp [joinTx]; omega, ?_, fun h40 hone => ?_⟩
      · refine .item (c := c0) (p₁ := pre.length) (p₂ := pre.length + t.length) (p₃ := pre.length + t.length) (by rw [et]; simp) hc1 hc2 hc3 (.inl ⟨rfl, rfl⟩) hr (.inr ⟨fun ⟨h40, _, h2⟩ => ?_, rfl⟩) (by omega) (Ls_cast hm rfl rfl (by simp) (by simp <;> omega))
        rw [show pre ++ (t ++ (sepTx ts' ++ closerOf f :: suf)) = (pre ++ t) ++ (sepTx ts' ++ closerOf f :: suf) by simp, show pre.length + t.length = (pre ++ t).length by simp, drop_pre] at h2
        cases ts' with
        | nil => exact h1 ⟨h40, List.length_eq_zero_iff.mp hl'.symm⟩
        | cons u us => simp [sepTx] at h2
      · rw [show pre ++ (t ++ (sepTx ts' ++ closerOf f :: suf)) = (pre ++ t ++ sepTx ts') ++ closerOf f :: suf by simp, show pre.length + t.length + (sepTx ts').length = (pre ++ t ++ sepTx ts').length by (simp; try omega)]; exact at_mid
      · exact absurd ⟨h40, by simpa using hone⟩ h1
theorem get_map {α β : Type} {g : α → β} {l : List α} {i : Nat} {y : β} (h : (l.map g)[i]? = some y) : ∃ x, l[i]? = some x ∧ g x = y := by
  rw [List.getElem?_map] at h
  exact Option.map_eq_some_iff.mp h
/-- a thing's text is read back as the thing -/
theorem parse {esc : Nat → List Nat} (L : Lays esc) : ∀ (m : Nat) (d : PyData), Gd m d → ∀ pre suf, Term suf → Th (pre ++ (tx esc d ++ suf)) m pre.length d (pre.length + (tx esc d).length) := by
  have leaf : ∀ (m : Nat) (d : PyData) pre suf, Leafs (pre ++ (tx esc d ++ suf)) pre.length d (pre.length + (tx esc d).length) → Th (pre ++ (tx esc d ++ suf)) m pre.length d (pre.length + (tx esc d).length) := fun m d pre suf h => by
    cases m with
    | zero => exact h
    | succ m => exact .inl h
  have flat : ∀ (d : PyData), (∃ m, Gd m d) → (∀ ds, d ≠ .list ds) → (∀ ds, d ≠ .tuple ds) → (∀ ds, d ≠ .dict ds) → ∀ pre suf, Term suf → Leafs (pre ++ (tx esc d ++ suf)) pre.length d (pre.length + (tx esc d).length) := fun d ⟨m, hd⟩ h1 h2 h3 pre suf ht => by
    cases d with
    | none => exact leaf_word (w := tx esc .none) (c := 78) (r := [111, 110, 101]) (by simp [tx]) (by decide) (by simp [tx, stops]) ht (by rw [show tx esc .none = [78, 111, 110, 101] by simp [tx]]; exact .no)
    | bool b =>
      cases b with
      | true => exact leaf_word (w := tx esc (.bool true)) (c := 84) (r := [114, 117, 101]) (by simp [tx]) (by decide) (by simp [tx, stops]) ht (by rw [show tx esc (.bool true) = [84, 114, 117, 101] by simp [tx]]; exact .tt)
      | false => exact leaf_word (w := tx esc (.bool false)) (c := 70) (r := [97, 108, 115, 101]) (by simp [tx]) (by decide) (by simp [tx, stops]) ht (by rw [show tx esc (.bool false) = [70, 97, 108, 115, 101] by simp [tx]]; exact .ff)
    | int i =>
      obtain ⟨w1, w2, c, r, e, hc, _⟩ := int_word i
      exact leaf_word (w := tx esc (.int i)) (c := c) (r := r) (by simp [tx, e]) hc (by simp only [tx]; exact fun c hc => (w2 c hc).1) ht (by simp only [tx]; exact w1)
    | str x =>
      have hx : ∀ c ∈ x.cps.toList, c < 1114112 := by cases m <;> simpa [Gd] using hd
      unfold tx
      generalize hl : x.cps.toList = l at hx
      have hxs : PyData.str x = .str (S l) := by rw [← hl, S_eta]
      have hq : quoteOf l = 39 ∨ quoteOf l = 34 := by unfold quoteOf; split <;> simp
      have h := TL_go L hq l [] (pre ++ [quoteOf l]) suf hx
      rw [hxs]
      have hqq : (quoteOf l == 34) = (decide (39 ∈ l) && !decide (34 ∈ l)) := by
        unfold quoteOf
        cases (decide (39 ∈ l) && !decide (34 ∈ l)) <;> rfl
      have hL := Leafs.text (a := pre ++ (quoteOf l :: (l.flatMap (bodyOf esc (quoteOf l)) ++ [quoteOf l]) ++ suf)) (i := pre.length) (q := quoteOf l) (p := pre.length + 1 + (l.flatMap (bodyOf esc (quoteOf l))).length) (r := l) (by simp) hq
        (TL_cast h (by simp) (by simp) (by simp) (by simp)) hqq
      have e : pre.length + (quoteOf l :: (l.flatMap (bodyOf esc (quoteOf l)) ++ [quoteOf l])).length = pre.length + 1 + (l.flatMap (bodyOf esc (quoteOf l))).length + 1 := by simp; omega
      rw [e]; exact hL
    | list ds => exact absurd rfl (h1 ds)
    | tuple ds => exact absurd rfl (h2 ds)
    | dict ds => exact absurd rfl (h3 ds)
  intro m
  induction m with
  | zero =>
    intro d hd pre suf ht
    exact leaf 0 d pre suf (flat d ⟨0, hd⟩ (fun ds e => by subst e; simp [Gd] at hd) (fun ds e => by subst e; simp [Gd] at hd) (fun ds e => by subst e; simp [Gd] at hd) pre suf ht)
  | succ m ih =>
    intro d hd pre suf ht
    have row : ∀ (f : Nat) (ts : List (List Nat)) (ds : List PyData) (d : PyData) (w : List Nat), f = 91 ∨ f = 40 ∨ f = 123 → ts.length = ds.length →
        (∀ (i : Nat) (t : List Nat) (d : PyData), ts[i]? = some t → ds[i]? = some d → ItemAt (fun a => Th a m) f t d) → w = f :: (joinTx ts ++ closeTx f ds.length) → Made f ds d →
        Th (pre ++ (w ++ suf)) (m + 1) pre.length d (pre.length + w.length) := fun f ts ds d w hf hl hi hw hm => by
      obtain ⟨e, h1, h2, h3, h4⟩ := Ls_all (T := fun a => Th a m) hf ts ds (pre ++ [f]) suf hl hi
      have ea : (pre ++ [f]) ++ (joinTx ts ++ (closeTx f ds.length ++ suf)) = pre ++ (w ++ suf) := by rw [hw]; simp
      rw [ea] at h1 h3 h4
      refine .inr ⟨f, ds, e, by rw [hw]; simp, hf, Ls_cast h1 rfl rfl (by simp) rfl, h4, h3, ?_, hm⟩
      rw [hw]
      simp at h2 ⊢; omega
    by_cases c1 : ∃ ds, d = .list ds
    · obtain ⟨ds, rfl⟩ := c1
      unfold Gd at hd
      refine row 91 (txAll esc ds) ds _ _ (.inl rfl) (by rw [txAll_map]; simp) (fun i t d h1 h2 => ?_) (by unfold tx closeTx; rw [if_pos rfl]) (.list rfl)
      rw [txAll_map] at h1
      obtain ⟨d', h3, rfl⟩ := get_map h1
      rw [h2] at h3; cases h3
      exact ⟨tx_head esc d, fun pre suf ht => .inl ⟨by decide, ih d (hd d (List.mem_of_getElem? h2)) pre suf ht⟩⟩
    by_cases c2 : ∃ ds, d = .tuple ds
    · obtain ⟨ds, rfl⟩ := c2
      unfold Gd at hd
      refine row 40 (txAll esc ds) ds _ _ (.inr (.inl rfl)) (by rw [txAll_map]; simp) (fun i t d h1 h2 => ?_) (by unfold tx closeTx; rw [if_neg (show ¬ (40:Nat) = 91 by decide), if_neg (show ¬ (40:Nat) = 123 by decide)]) (.tuple rfl)
      rw [txAll_map] at h1
      obtain ⟨d', h3, rfl⟩ := get_map h1
      rw [h2] at h3; cases h3
      exact ⟨tx_head esc d, fun pre suf ht => .inl ⟨by decide, ih d (hd d (List.mem_of_getElem? h2)) pre suf ht⟩⟩
    by_cases c3 : ∃ ds, d = .dict ds
    · obtain ⟨D, rfl⟩ := c3
      unfold Gd at hd
      obtain ⟨kvs, rfl, hnd, hg⟩ := hd
      refine row 123 (txKvs esc (kvs.map fun kv => (kv.1.dat, kv.2))) (kvs.map fun kv => .tuple [kv.1.dat, kv.2]) _ _ (.inr (.inr rfl)) (by rw [txKvs_map]; simp) (fun i t d h1 h2 => ?_) (by unfold tx closeTx; rw [if_neg (by decide), if_pos rfl]) (.dict rfl hnd)
      rw [txKvs_map, List.map_map] at h1
      obtain ⟨kv, h3, rfl⟩ := get_map h1
      obtain ⟨kv', h4, rfl⟩ := get_map h2
      rw [h3] at h4; cases h4
      have hgk := hg kv (List.mem_of_getElem? h3)
      refine ⟨?_, fun pre suf ht => .inr ⟨rfl, kv.1.dat, kv.2, pre.length + (tx esc kv.1.dat).length, ?_, ?_, ?_, rfl⟩⟩
      · obtain ⟨c, r, e, h⟩ := tx_head esc kv.1.dat
        exact ⟨c, r ++ 58 :: 32 :: tx esc kv.2, by simp [e], h⟩
      · have := ih kv.1.dat hgk.1 pre (58 :: 32 :: tx esc kv.2 ++ suf) (.inr ⟨58, _, rfl, by decide⟩)
        simpa using this
      · rw [show pre ++ (((fun kv : PyData × PyData => tx esc kv.1 ++ 58 :: 32 :: tx esc kv.2) ∘ fun kv : Ky × PyData => (kv.1.dat, kv.2)) kv ++ suf) = (pre ++ tx esc kv.1.dat) ++ (58 :: 32 :: (tx esc kv.2 ++ suf)) by simp,
          show pre.length + (tx esc kv.1.dat).length = (pre ++ tx esc kv.1.dat).length by simp, drop_pre]; rfl
      · have := ih kv.2 hgk.2 (pre ++ tx esc kv.1.dat ++ [58, 32]) suf ht
        have e1 : pre ++ tx esc kv.1.dat ++ [58, 32] ++ (tx esc kv.2 ++ suf) = pre ++ (((fun kv : PyData × PyData => tx esc kv.1 ++ 58 :: 32 :: tx esc kv.2) ∘ fun kv : Ky × PyData => (kv.1.dat, kv.2)) kv ++ suf) := by simp
        rw [e1] at this
        have e2 : (pre ++ tx esc kv.1.dat ++ [58, 32]).length = pre.length + (tx esc kv.1.dat).length + 2 := by simp <;> omega
        rw [e2] at this
        have e3 : pre.length + (((fun kv : PyData × PyData => tx esc kv.1 ++ 58 :: 32 :: tx esc kv.2) ∘ fun kv : Ky × PyData => (kv.1.dat, kv.2)) kv).length = pre.length + (tx esc kv.1.dat).length + 2 + (tx esc kv.2).length := by simp; omega
        rw [e3]; exact this
    exact leaf (m + 1) d pre suf (flat d ⟨m + 1, hd⟩ (fun ds e => c1 ⟨ds, e⟩) (fun ds e => c2 ⟨ds, e⟩) (fun ds e => c3 ⟨ds, e⟩) pre suf ht)
end Mine
end
-- part P12
section
open PySem
namespace Mine
theorem sep_len : ∀ ts : List (List Nat), (sepTx ts).length ≤ (ts.map fun t => t.length + 2).sum
  | [] => by simp [sepTx]
  | t :: r => by have := sep_len r; simp [sepTx]; omega
theorem join_len (ts : List (List Nat)) : (joinTx ts).length ≤ (ts.map fun t => t.length + 2).sum := by
  cases ts with
  | nil => simp [joinTx]
  | cons t r => have := sep_len r; simp [joinTx]; omega
theorem body_len {q c : Nat} {b : List Nat} (h : Body q c b) : b.length ≤ 10 := by
  cases h with
  | plain => simp
  | short => simp
  | num he =>
    have h1 := he.len
    have h2 := he.sign
    have : ∀ e, (e = 120 ∨ e = 117 ∨ e = 85) → sizeOf e ≤ 8 := fun e h => by rcases h with h | h | h <;> (rw [h]; decide)
    have := this _ h2
    simp; omega
theorem int_len {i : Int} (h : i.natAbs < 1000000000000) : (intText i).length ≤ 13 := by
  have := toDigits10_len 12 i.natAbs (by decide) (by simpa using h)
  unfold intText
  split <;> simp <;> omega
theorem sum_len {esc : Nat → List Nat} : ∀ ds : List PyData, (∀ d ∈ ds, (tx esc d).length + 4 ≤ 20 * wt d) → ((ds.map (tx esc)).map fun t => t.length + 2).sum ≤ 20 * wtAll ds
  | [], _ => by simp
  | d :: r, h => by
    have := h d (.head _)
    have := sum_len r fun x hx => h x (.tail _ hx)
    simp [wtAll] at *; omega
theorem sum_lenK {esc : Nat → List Nat} : ∀ ds : List (PyData × PyData), (∀ kv ∈ ds, (tx esc kv.1).length + 4 ≤ 20 * wt kv.1 ∧ (tx esc kv.2).length + 4 ≤ 20 * wt kv.2) →
    ((ds.map fun kv => tx esc kv.1 ++ 58 :: 32 :: tx esc kv.2).map fun t => t.length + 2).sum ≤ 20 * wtKvs ds
  | [], _ => by simp
  | (k, v) :: r, h => by
    have := h _ (.head _)
    have := sum_lenK r fun x hx => h x (.tail _ hx)
    simp [wtKvs] at *; omega
theorem flat_len {f : Nat → List Nat} : ∀ l : List Nat, (∀ c ∈ l, (f c).length ≤ 10) → (l.flatMap f).length ≤ 10 * l.length
  | [], _ => by simp
  | c :: r, h => by
    have := h c (.head _)
    have := flat_len r fun x hx => h x (.tail _ hx)
    simp only [List.flatMap_cons, List.length_append, List.length_cons]; omega
theorem quote_is (x : List Nat) : quoteOf x = 39 ∨ quoteOf x = 34 := by unfold quoteOf; split <;> simp
theorem tx_len {esc : Nat → List Nat} (L : Lays esc) : ∀ (m : Nat) (d : PyData), Gd m d → (tx esc d).length + 4 ≤ 20 * wt d := by
  intro m
  induction m with
  | zero =>
    intro d h
    cases d with
    | none => simp [tx, wt]
    | bool b => cases b <;> simp [tx, wt]
    | int i => have := int_len (by simpa [Gd] using h : i.natAbs < _); simp [tx, wt]; omega
    | str x =>
      have hx : ∀ c ∈ x.cps.toList, c < 1114112 := by simpa only [Gd] using h
      have := flat_len (f := bodyOf esc (quoteOf x.cps.toList)) x.cps.toList fun c hc => body_len (body_of L (quote_is _) (hx c hc)).1
      simp only [tx, wt, List.length_cons, List.length_append, List.length_nil]; omega
    | list ds => simp [Gd] at h
    | tuple ds => simp [Gd] at h
    | dict ds => simp [Gd] at h
  | succ m ih =>
    intro d h
    cases d with
    | none => simp [tx, wt]
    | bool b => cases b <;> simp [tx, wt]
    | int i => have := int_len (by simpa [Gd] using h : i.natAbs < _); simp [tx, wt]; omega
    | str x =>
      have hx : ∀ c ∈ x.cps.toList, c < 1114112 := by simpa only [Gd] using h
      have := flat_len (f := bodyOf esc (quoteOf x.cps.toList)) x.cps.toList fun c hc => body_len (body_of L (quote_is _) (hx c hc)).1
      simp only [tx, wt, List.length_cons, List.length_append, List.length_nil]; omega
    | list ds =>
      unfold Gd at h
      have h1 := sum_len ds fun d hd => ih d (h d hd)
      have h2 := join_len (ds.map (tx esc))
      simp only [tx, wt, txAll_map, List.length_cons, List.length_append, List.length_nil]; omega
    | tuple ds =>
      unfold Gd at h
      have h1 := sum_len ds fun d hd => ih d (h d hd)
      have h2 := join_len (ds.map (tx esc))
      have h3 : (if ds.length = 1 then [44, 41] else [41] : List Nat).length ≤ 2 := by split <;> simp
      simp only [tx, wt, txAll_map, List.length_cons, List.length_append]; omega
    | dict D =>
      unfold Gd at h
      obtain ⟨kvs, rfl, hnd, hg⟩ := h
      have h1 := sum_lenK (esc := esc) (kvs.map fun kv => (kv.1.dat, kv.2)) fun kv hkv => by
        obtain ⟨kv', hm, rfl⟩ := List.mem_map.mp hkv
        exact ⟨ih _ (hg _ hm).1, ih _ (hg _ hm).2⟩
      have h2 := join_len ((kvs.map fun kv => (kv.1.dat, kv.2)).map fun kv => tx esc kv.1 ++ 58 :: 32 :: tx esc kv.2)
      simp only [tx, wt, txKvs_map, List.length_cons, List.length_append, List.length_nil]; omega
/-- a sign from the blank to ~ -/
abbrev Asc (c : Nat) : Prop := 32 ≤ c ∧ c ≤ 126
theorem aesc_self {c : Nat} (h : aesc c = [c]) : c < 128 := by
  unfold aesc at h
  by_cases h1 : c < 128
  · exact h1
  · rw [if_neg h1] at h
    split at h
    · simp at h
    · split at h <;> simp at h
theorem body_asc {q c : Nat} (hq : q = 39 ∨ q = 34) (hc : c < 1114112) : ∀ x ∈ bodyOf aesc q c, Asc x := by
  obtain ⟨h1, h2⟩ := body_of lays_ascii hq hc
  generalize bodyOf aesc q c = b at h1 h2
  intro x hx
  unfold Asc
  cases h1 with
  | plain h3 h4 h5 h6 =>
    have hlt : c < 128 := by
      rcases h2 with h2 | h2 | h2
      · exact absurd rfl h2
      · exact h2
      · exact aesc_self h2
    simp at hx; omega
  | short h3 h4 h5 h6 => simp at hx; omega
  | num he =>
    simp only [List.mem_cons] at hx
    rcases hx with rfl | rfl | hx
    · omega
    · rcases he.sign with h | h | h <;> omega
    · have := he.hex.figs x hx; omega
theorem sep_asc : ∀ ts : List (List Nat), (∀ t ∈ ts, ∀ x ∈ t, Asc x) → ∀ x ∈ sepTx ts, Asc x
  | [], _, x, hx => by simp [sepTx] at hx
  | t :: r, h, x, hx => by
    simp only [sepTx, List.cons_append, List.mem_cons, List.mem_append] at hx
    rcases hx with rfl | rfl | hx | hx
    · exact ⟨by decide, by decide⟩
    · exact ⟨by decide, by decide⟩
    · exact h t (.head _) x hx
    · exact sep_asc r (fun t ht => h t (.tail _ ht)) x hx
theorem join_asc (ts : List (List Nat)) (h : ∀ t ∈ ts, ∀ x ∈ t, Asc x) : ∀ x ∈ joinTx ts, Asc x := by
  cases ts with
  | nil => intro x hx; simp [joinTx] at hx
  | cons t r =>
    intro x hx
    simp only [joinTx, List.mem_append] at hx
    rcases hx with hx | hx
    · exact h t (.head _) x hx
    · exact sep_asc r (fun t ht => h t (.tail _ ht)) x hx
theorem lit_asc {l : List Nat} (h : (l.all fun c => decide (32 ≤ c ∧ c ≤ 126)) = true) : ∀ x ∈ l, Asc x := fun x hx => of_decide_eq_true (List.all_eq_true.mp h x hx)
theorem str_asc {x : Str} (hx : ∀ c ∈ x.cps.toList, c < 1114112) : ∀ y ∈ tx aesc (.str x), Asc y := by
  have hq : Asc (quoteOf x.cps.toList) := by
    have := quote_is x.cps.toList
    unfold Asc; omega
  intro y hy
  simp only [tx, List.mem_cons, List.mem_append, List.mem_flatMap, List.not_mem_nil, or_false] at hy
  rcases hy with rfl | ⟨c, hc, hy⟩ | rfl
  · exact hq
  · exact body_asc (quote_is _) (hx c hc) y hy
  · exact hq
theorem tx_asc : ∀ (m : Nat) (d : PyData), Gd m d → ∀ x ∈ tx aesc d, Asc x := by
  have flat : ∀ (d : PyData), (∃ m, Gd m d) → (∀ ds, d ≠ .list ds) → (∀ ds, d ≠ .tuple ds) → (∀ ds, d ≠ .dict ds) → ∀ x ∈ tx aesc d, Asc x := fun d ⟨m, hd⟩ h1 h2 h3 => by
    cases d with
    | none => rw [show tx aesc .none = [78, 111, 110, 101] by simp [tx]]; exact lit_asc (by decide)
    | bool b => cases b <;> (simp only [tx]; exact lit_asc (by decide))
    | int i =>
      obtain ⟨_, w2, _⟩ := int_word i
      simp only [tx]
      exact fun x hx => ⟨(w2 x hx).2.2, (w2 x hx).2.1⟩
    | str x => exact str_asc (by cases m <;> simpa only [Gd] using hd)
    | list ds => exact absurd rfl (h1 ds)
    | tuple ds => exact absurd rfl (h2 ds)
    | dict ds => exact absurd rfl (h3 ds)
  intro m
  induction m with
  | zero => exact fun d hd => flat d ⟨0, hd⟩ (fun ds e => by subst e; simp [Gd] at hd) (fun ds e => by subst e; simp [Gd] at hd) (fun ds e => by subst e; simp [Gd] at hd)
  | succ m ih =>
    intro d h
    by_cases c1 : ∃ ds, d = .list ds
    · obtain ⟨ds, rfl⟩ := c1
      unfold Gd at h
      intro x hx
      simp only [tx, txAll_map, List.mem_cons, List.mem_append, List.not_mem_nil, or_false] at hx
      rcases hx with rfl | hx | rfl
      · exact ⟨by decide, by decide⟩
      · refine join_asc _ (fun t ht => ?_) x hx
        obtain ⟨d, hd, rfl⟩ := List.mem_map.mp ht
        exact ih d (h d hd)
      · exact ⟨by decide, by decide⟩
    by_cases c2 : ∃ ds, d = .tuple ds
    · obtain ⟨ds, rfl⟩ := c2
      unfold Gd at h
      intro x hx
      simp only [tx, txAll_map, List.mem_cons, List.mem_append] at hx
      rcases hx with rfl | hx | hx
      · exact ⟨by decide, by decide⟩
      · refine join_asc _ (fun t ht => ?_) x hx
        obtain ⟨d, hd, rfl⟩ := List.mem_map.mp ht
        exact ih d (h d hd)
      · split at hx <;> simp at hx <;> (unfold Asc; omega)
    by_cases c3 : ∃ ds, d = .dict ds
    · obtain ⟨D, rfl⟩ := c3
      unfold Gd at h
      obtain ⟨kvs, rfl, hnd, hg⟩ := h
      intro x hx
      simp only [tx, txKvs_map, List.mem_cons, List.mem_append, List.not_mem_nil, or_false] at hx
      rcases hx with rfl | hx | rfl
      · exact ⟨by decide, by decide⟩
      · refine join_asc _ (fun t ht => ?_) x hx
        rw [List.map_map] at ht
        obtain ⟨kv, hkv, rfl⟩ := List.mem_map.mp ht
        intro y hy
        simp only [Function.comp_def, List.mem_append, List.mem_cons] at hy
        rcases hy with hy | rfl | rfl | hy
        · exact ih _ (hg kv hkv).1 y hy
        · exact ⟨by decide, by decide⟩
        · exact ⟨by decide, by decide⟩
        · exact ih _ (hg kv hkv).2 y hy
      · exact ⟨by decide, by decide⟩
    exact flat d ⟨m + 1, h⟩ (fun ds e => c1 ⟨ds, e⟩) (fun ds e => c2 ⟨ds, e⟩) (fun ds e => c3 ⟨ds, e⟩)
theorem showAll : ∀ {ds : List PyData}, (∀ d ∈ ds, d.showable = true) → PyData.showableAll ds = true
  | [], _ => by simp [PyData.showableAll]
  | d :: r, h => by simp [PyData.showableAll, h d (.head _), showAll fun x hx => h x (.tail _ hx)]
theorem showKv : ∀ {ds : List (PyData × PyData)}, (∀ d ∈ ds, d.1.showable = true ∧ d.2.showable = true) → PyData.showableKv ds = true
  | [], _ => by simp [PyData.showableKv]
  | (k, v) :: r, h => by simp [PyData.showableKv, h _ (.head _), showKv fun x hx => h x (.tail _ hx)]
theorem depAll {m : Nat} : ∀ {ds : List PyData}, (∀ d ∈ ds, d.depth ≤ m) → PyData.depthAll ds ≤ m
  | [], _ => by simp [PyData.depthAll]
  | d :: r, h => by have := h d (.head _); have := depAll fun x hx => h x (.tail _ hx); simp only [PyData.depthAll]; omega
theorem depKv {m : Nat} : ∀ {ds : List (PyData × PyData)}, (∀ d ∈ ds, d.1.depth ≤ m ∧ d.2.depth ≤ m) → PyData.depthKv ds ≤ m
  | [], _ => by simp [PyData.depthKv]
  | (k, v) :: r, h => by
    have h1 : k.depth ≤ m ∧ v.depth ≤ m := h (k, v) (.head _)
    have := depKv fun x hx => h x (.tail _ hx)
    simp only [PyData.depthKv]; omega
theorem int_shows {i : Int} (h : i.natAbs < 1000000000000) : (PyData.int i).showable = true := by
  have : i.natAbs.log2 < 40 := by
    by_cases h0 : i.natAbs = 0
    · rw [h0]; decide
    · exact (Nat.log2_lt h0).mpr (by omega)
  simp only [PyData.showable, decide_eq_true_eq]; omega
theorem Gd.shows : ∀ (m : Nat) (d : PyData), Gd m d → d.showable = true ∧ d.depth ≤ m := by
  intro m
  induction m with
  | zero =>
    intro d h
    cases d with
    | none => simp [PyData.showable, PyData.depth]
    | bool b => simp [PyData.showable, PyData.depth]
    | int i => exact ⟨int_shows (by simpa [Gd] using h), by simp [PyData.depth]⟩
    | str x => simp [PyData.showable, PyData.depth]
    | list ds => simp [Gd] at h
    | tuple ds => simp [Gd] at h
    | dict ds => simp [Gd] at h
  | succ m ih =>
    intro d h
    cases d with
    | none => simp [PyData.showable, PyData.depth]
    | bool b => simp [PyData.showable, PyData.depth]
    | int i => exact ⟨int_shows (by simpa [Gd] using h), by simp [PyData.depth]⟩
    | str x => simp [PyData.showable, PyData.depth]
    | list ds =>
      unfold Gd at h
      have := depAll (m := m) fun d hd => (ih d (h d hd)).2
      simp only [PyData.showable, PyData.depth]
      exact ⟨showAll fun d hd => (ih d (h d hd)).1, by omega⟩
    | tuple ds =>
      unfold Gd at h
      have := depAll (m := m) fun d hd => (ih d (h d hd)).2
      simp only [PyData.showable, PyData.depth]
      exact ⟨showAll fun d hd => (ih d (h d hd)).1, by omega⟩
    | dict D =>
      unfold Gd at h
      obtain ⟨kvs, rfl, hnd, hg⟩ := h
      have hk : ∀ d ∈ kvs.map fun kv => (kv.1.dat, kv.2), (d.1.showable = true ∧ d.1.depth ≤ m) ∧ d.2.showable = true ∧ d.2.depth ≤ m := fun d hd => by
        obtain ⟨kv, hm, rfl⟩ := List.mem_map.mp hd
        exact ⟨ih _ (hg _ hm).1, ih _ (hg _ hm).2⟩
      have := depKv (m := m) fun d hd => ⟨(hk d hd).1.2, (hk d hd).2.2⟩
      simp only [PyData.showable, PyData.depth]
      exact ⟨showKv fun d hd => ⟨(hk d hd).1.1, (hk d hd).2.1⟩, by omega⟩
theorem flat_id : ∀ l : List Nat, l.flatMap (fun c => [c]) = l
  | [] => rfl
  | c :: r => by rw [List.flatMap_cons, flat_id r]; rfl
/-- repr's signs -/
def rx (d : PyData) : List Nat := tx (fun c => [c]) d
theorem shown_is (d : PyData) : d.shown = S (rx d) := by
  have := shown_tx _ lays_id d
  rw [flat_id] at this
  rw [rx, ← this, S_eta]
theorem ascii_is (d : PyData) : asciiOf d.shown = S (tx aesc d) := by
  have := shown_tx _ lays_ascii d
  rw [← asciiOf_toList] at this
  rw [← this, S_eta]
/-- all that the law asks of what is written of a thing -/
structure Said (d : PyData) : Prop where
  rep : d.shown = S (rx d)
  asc : asciiOf d.shown = S (tx aesc d)
  rlen : (rx d).length ≤ 6000
  alen : (tx aesc d).length ≤ 6000
  rth : Th (rx d) 100 0 d (rx d).length
  ath : Th (tx aesc d) 100 0 d (tx aesc d).length
  signs : ∀ x ∈ tx aesc d, Asc x
  dp : Dp 100 d
  shows : d.showable = true
  depth : d.depth ≤ 100
theorem Gd.said {d : PyData} (h : Gd 100 d) (hw : wt d ≤ 300) : Said d where
  rep := shown_is d
  asc := ascii_is d
  rlen := by have := tx_len lays_id 100 d h; unfold rx; omega
  alen := by have := tx_len lays_ascii 100 d h; omega
  rth := by have := parse lays_id 100 d h [] [] (.inl rfl); simpa [rx] using this
  ath := by have := parse lays_ascii 100 d h [] [] (.inl rfl); simpa using this
  signs := tx_asc 100 d h
  dp := h.dp (by omega)
  shows := (Gd.shows 100 d h).1
  depth := (Gd.shows 100 d h).2
theorem Said.wr {d : PyData} (h : Said d) {A : Around} (hg : A.guards = some []) (hu : A.units + 103 < cLine) : Wr A d where
  show_ := h.shows
  size := by rw [h.rep, S_length]; have := h.rlen; unfold sizeLine; omega
  asize := by rw [h.asc, S_length]; have := h.alen; unfold sizeLine; omega
  guards := hg
  units := by have := h.depth; omega
end Mine
end
-- part C29
section
open PySem PySem.Spec PySem.Calls PyProof.Rows PySem.W
set_option maxRecDepth 100000
namespace Mine
section
variable {prog : Program} {w : World}
/-- a call from module level: no token need be drawn yet -/
def Sp0 (prog : Program) (w : World) (d : DefRec) (A : Around) (vals : List Value) (B : FMap) (s : Shared) (P : FMap → Value → Prop) : Prop :=
  ∀ f o pm code doc, s.heap.get? f = some o → o.data = .func (docDef d.name d.params d.body d.scope pm code doc) → s.heap.CodeRec code d.name →
    codeAny (model prog w) A (.call (.ref f) ⟨vals, []⟩) (Returns B s P) s
/-- the walk of a def whose frame is named -/
theorem enterA {d : DefRec} {A : Around} {k : Nat} (R : Rm A (k + 1)) {T : Tp} {s : Shared} {B : FMap} (hT : T.At s.heap) (hB : Fz B s.heap) {vals : List Value} {P : FMap → Value → Prop} {binds : List (Str × Value)} (ns : List Str)
    (hbind : ∀ pm cd doc, bindArgs (docDef d.name d.params d.body d.scope pm cd doc) ⟨vals, []⟩ = pure binds)
    (hloc : ((binds.map (·.1) ++ ns).all fun x => decide (d.scope.names.lookup x = some .local ∧ (x == ("__debug__" : Str)) = false)) = true) (hnd : (binds.map (·.1) ++ ns).Nodup)
    (hco : d.scope.isCoroutine = false) (hgen : d.scope.isGenerator = false) (hk : d.scope.kind = .function) (hcell : ∀ x ∈ d.scope.names, x.2 ≠ .cell) (hb0 : 0 < binds.length)
    (h : ∀ X (Q : Flow → Shared → Prop) s', Frm X T s B d → St X B [] (binds.map (fun b => (b.1, some b.2)) ++ ns.map fun n => (n, none)) s' → Rm (A.deeper X.env) k →
      (∀ {v B' O l s''}, St X B' O l s'' → P B' v → Q (.ret v) s'') → wpAny (model prog w) (A.deeper X.env) (execs d.body X.env) Q (fun _ _ => False) s') :
    Sp0 prog w d A vals B s P := by
  intro f o pm code doc ho hd hcd
  have hall := List.all_eq_true.mp hloc
  have hndb : (binds.map (·.1)).Nodup := (List.nodup_append.mp hnd).1
  refine call_plain_ret R.room ho hd (Top.nolimit hT) hcd (hbind pm code doc) (fun x hx => (of_decide_eq_true (hall _ (List.mem_append_left _ (List.mem_map_of_mem hx)))).1) (fun h₁ F => ?_) hco hgen hk hcell
  let X : Fx := { p := T.p, loose := T.loose, mean := T.mean, mg := T.mg, mb := T.mb, env := envOf d.name d.scope s.heap.objs.size f code, h0 := s.heap, B0 := B, gens := s.gens, os := s.os, drawn := s.drawn }
  have keys : (binds.map (fun b => (b.1, some b.2)) ++ ns.map fun n => (n, (none : Option Value))).map (·.1) = binds.map (·.1) ++ ns := by simp [Function.comp_def]
  have hst : St X B [] (binds.map (fun b => (b.1, some b.2)) ++ ns.map fun n => (n, none)) { s with heap := h₁, toks := s.toks + binds.length } := by
    refine { ns := ?_, nd := by rw [keys]; exact hnd, kind := fun x hx => ?_, fn := hk, gl := rfl, bl := rfl, top := hT, kept := F.keep, offh := none_of_le (Nat.le_refl _), fz := fun b o e => F.keep _ _ (hB.fz _ _ e), low := hB.low, lowO := fun q hq => absurd hq (by simp), b0 := Sub.refl _, new := fun b o e => .inl e, offL := ?_, own := fun q hq => absurd hq (by simp), apart := List.nodup_nil, gens := rfl, os := rfl, drawn := rfl, tk := Nat.lt_of_lt_of_le hb0 (Nat.le_add_left _ _) }
    · have e : mOf (binds.map (fun b => (b.1, some b.2)) ++ ns.map fun n => (n, none)) = fun x => binds.reverse.lookup x := by
        funext x
        rw [mOf_binds, mOf_none, lookup_rev hndb]
        cases binds.lookup x <;> rfl
      rw [e]; exact F.ns
    · rw [keys] at hx
      exact of_decide_eq_true (hall _ hx)
    · show B s.heap.objs.size = none
      cases q : B s.heap.objs.size with
      | none => rfl
      | some o' => exact absurd (Heap.lt_size (hB.fz _ _ q)) (Nat.lt_irrefl _)
  have hfr : Frm X T s B d := ⟨⟨_, _, _, rfl⟩, rfl, rfl, rfl, rfl, rfl, rfl⟩
  refine wpAny_mono (h X (fun fl s'' => ∃ v B', fl = .ret v ∧ Grow B s B' s'' ∧ P B' v) _ hfr hst (R.deeper _) fun {v B' O l s''} H hp => ⟨v, B', rfl, hfr.B0 ▸ H.back hfr.h0 hfr.gens hfr.os hfr.drawn, hp⟩) (fun fl s'' hq => ?_) fun _ _ x => x
  obtain ⟨v, B', rfl, hg, hp⟩ := hq
  exact ⟨v, B', rfl, hg, hp⟩
variable {X : Fx} {B B' : FMap} {O O' : Owns} {l l' : Locs} {s s' : Shared} {A : Around} {E : Value → Shared → Prop} {Q : Value → Shared → Prop} {c : ClsRec} {C N : Addr} {mN : Str → Option Value}
/-- the method at hand, and its call -/
theorem e_methAt {M : MethRec} {x : Addr} {e : Expr} {rest : List Expr} {name : Str} {pos : Pos} {pl : Sem Bool} (H : St X B O l s) (P : FmAt X.mg c X.h0 C N mN) (hi : InstB B x C) (hm : c.meths.find? (fun r => r.name == name) = some M) (hd : M.params.defaults = []) (hB : typeLookup (.type "object") name = pure none)
    (he : starEach (e :: rest) X.env = (false, eval e X.env) :: starEach rest X.env)
    (h : wpAny (model prog w) A (spliced (backTo pos (starEach (e :: rest) X.env))) (fun vs s₂ => ∃ B₂ O₂ l₂ P Pe, St X B₂ O₂ l₂ s₂ ∧ SpR prog w (methRec c M) M.name A (.ref x :: vs) B₂ s₂ P Pe ∧
        (∀ v B₃ s₃, Sub B₂ B₃ → P B₃ v → St X B₃ O₂ l₂ s₃ → Q v s₃) ∧ ∀ y s₃, Pe y s₃ → E y s₃) E s) :
    wpAny (model prog w) A (getMethod (.ref x) name pl) (fun fx s₂ => wpAny (model prog w) A (callWith pos fx.1 fx.2 (backTo pos (starEach (e :: rest) X.env)) []) Q E s₂) E s := by
  refine m_meth H P hi hm hd hB fun f of pm cdv doc ho hdat hcd => ?_
  dsimp only
  refine callWith_meth (h₀ := X.h0) hdat ho (wpAny_mono h (fun vs s₂ hq => ?_) fun _ _ x => x) he
  obtain ⟨B₂, O₂, l₂, P, Pe, H₂, hsp, hQ, hE⟩ := hq
  refine ⟨H₂.kept, wpAny_call (codeAny_mono (hsp H₂.tk f of pm cdv doc (H₂.kept _ _ ho) hdat (hcd.keeps H₂.kept)) fun r s₃ hr => ?_)⟩
  rcases hr with ⟨v, B₃, rfl, hg, hp⟩ | ⟨y, rfl, hy⟩
  · exact hQ v B₃ s₃ hg.sub hp (H₂.grow hg)
  · exact hE y s₃ hy
end
end Mine
end
-- part L1a
open PySem PySem.Spec PySem.Calls PyProof.Rows PySem.W
set_option maxRecDepth 100000
namespace Mine
noncomputable abbrev loose1 := looseW V1 []
set_option compiler.extract_closed false
set_option hygiene false in
local macro_rules | `(tactic| walk_at "nm") => `(tactic| (conv => arg 3; arg 1; whnf); simp only [↓slits, names_])
set_option hygiene false in
local macro_rules | `(tactic| walk_at "get") => `(tactic| repeat (first | with_reducible exact Get.here | with_reducible apply Get.there))
set_option hygiene false in
local macro_rules | `(tactic| walk_at "put") => `(tactic| repeat (first | with_reducible exact Put.here | with_reducible apply Put.there))
set_option hygiene false in
local macro_rules | `(tactic| walk_at "opop") => `(tactic| repeat (first | with_reducible exact OPop.here | with_reducible apply OPop.there | with_reducible apply OPop.app))
set_option hygiene false in
local macro_rules | `(tactic| walk_at "oput") => `(tactic| repeat (first | with_reducible exact OPut.here | with_reducible apply OPut.there | with_reducible apply OPut.app))
set_option hygiene false in
local macro_rules | `(tactic| walk_at "blt") => `(tactic| ((with_reducible show wpAny _ _ (eval (Expr.Name _ _) _) _ _ _); with_reducible refine w_builtin H (by first | exact kindOf_frm F (by decide +kernel) | exact kindOf_cf C (by decide +kernel) | exact kindOf_frmG F (by decide +kernel)) (G.free H (by decide +kernel)) (by first | exact bn_len | exact bn_isinstance | exact bn_chr | exact bn_divmod | exact bn_abs | exact bn_repr | exact bn_ascii | exact bn_format | exact bn_max | exact bn_str | exact bn_dict | exact bn_list | exact bn_tuple | exact bn_bool | exact bn_int | exact bn_zip | exact bn_range | exact bn_enumerate | exact bn_set | exact bn_ValueError | exact bn_IndexError | exact bn_KeyError | exact bn_TypeError) (by decide +kernel) ?_ (by decide +kernel)))
set_option hygiene false in
local macro_rules | `(tactic| walk_at "mi") => `(tactic| first
  | ((with_reducible show wpAny _ _ (eval _ _) _ _ _); first
    | (with_reducible refine' w_local H ?hp ?_; (case hp => walk_at "get"))
    | with_reducible refine w_cellF H kC cC bC oC ?_ (by decide +kernel)
    | with_reducible refine w_cellF H kD cD bD oD ?_ (by decide +kernel)
    | with_reducible refine w_cellK H kC cC eC oC ?_ (by decide +kernel)
    | (with_reducible refine' w_cellO H kC cC ?hp ?_ (by decide +kernel); (case hp => walk_at "opop"))
    | (with_reducible refine c_int H ?_; clear H; intro t s H)
    | (with_reducible refine c_str H ?_; clear H; intro t s H)
    | (with_reducible first | refine wpAny_Constant_none ?_ | refine wpAny_Constant_bool ?_ | refine wpAny_BinOp ?_)
    | with_reducible refine wpAny_Compare1 ?_ (by with_unfolding_all rfl)
    | with_reducible refine Compare_chain ?_ (by with_unfolding_all rfl)
    | (with_reducible first | refine BoolOp_and ?_ | refine BoolOp_or ?_ | refine BoolOp_one ?_)
    | with_reducible refine e_cut ?_ (by rintro _ _ ⟨_, _, rfl⟩ ⟨_, rfl⟩; with_unfolding_all rfl) (by rintro _ _ ⟨_, _, rfl⟩; with_unfolding_all rfl)
    | with_reducible refine e_cutH ?_ (by rintro _ _ ⟨_, _, rfl⟩ ⟨_, rfl⟩; with_unfolding_all rfl) (by rintro _ _ ⟨_, _, rfl⟩; with_unfolding_all rfl)
    | with_reducible refine e_cutL ?_ (by rintro _ _ ⟨_, _, rfl⟩ ⟨_, rfl⟩; with_unfolding_all rfl) (by rintro _ _ ⟨_, _, rfl⟩; with_unfolding_all rfl)
    | with_reducible refine e_cutStep ?_ (by intro _ _; with_unfolding_all rfl) (by intro _ _; with_unfolding_all rfl)
    | (with_reducible first | refine Subscript_ ?_ | refine UnaryOp_ ?_)
    | (with_reducible first | refine Tuple_ ?_ | refine List_ ?_)
    | with_reducible refine e_call H (by first | exact kindOf_frm F (by decide +kernel) | exact kindOf_cf C (by decide +kernel) | exact kindOf_frmG F (by decide +kernel)) (by rw [G.p]; with_reducible first | exact find_past | exact find_text | exact find_word | exact find_thing | exact find_told | exact find_read | exact find_things) ?_ (by decide +kernel) (by with_unfolding_all rfl)
    | with_reducible refine e_callO H (by first | exact kindOf_frm F (by decide +kernel) | exact kindOf_frmG F (by decide +kernel)) (by rw [G.p]; with_reducible exact find_close) ?_ (by decide +kernel) (by with_unfolding_all rfl)
    | with_reducible refine MethodCall_ ?_ (by with_unfolding_all rfl)
    | with_reducible refine Call_ ?_ (by with_unfolding_all rfl)
    | with_reducible refine e_bcall ?_ (by with_unfolding_all rfl) (by with_unfolding_all rfl)
    | (walk_at "blt"))
  | ((with_reducible show wpAny _ _ (execs _ _) _ _ _); first
    | (with_reducible refine x_gen ?_; intro rest hrest)
    | with_reducible refine x_assign ?_ (by with_unfolding_all rfl)
    | (with_reducible refine x_ifG ?_; intro bd ob hbd hob)
    | with_reducible refine x_ret ?_
    | with_reducible refine x_unpack ?_ (by with_unfolding_all rfl) (by with_unfolding_all rfl)
    | with_reducible refine x_expr H.fn ?_ (by with_unfolding_all rfl)
    | with_reducible refine x_augS ?_ (by intros; with_unfolding_all rfl)
    | (with_reducible first | refine x_aug ?_ | refine x_pass ?_ | refine x_nil ?_)
    | (with_reducible refine x_rest hrest ?_; clear hrest; clear rest)
    | (with_reducible refine x_rest hbd ?_; clear hbd; clear bd; (try (clear hob; clear ob)))
    | (with_reducible refine x_rest hob ?_; clear hob; clear ob; (try (clear hbd; clear bd))))
  | ((with_reducible show wpAny _ _ (isTrue _ _ _) _ _ _); first
    | with_reducible refine wpAny_isTrue_Compare1 ?_ (by with_unfolding_all rfl)
    | (with_reducible first | refine wpAny_isTrue_BoolOp ?_ | refine wpAny_isTrue_Not ?_)
    | with_reducible refine isTrue_chain ?_ (by with_unfolding_all rfl)
    | with_reducible refine isTrue_plain ?_ (by with_unfolding_all rfl))
  | ((with_reducible show wpAny _ _ (compareOp _ _ _) _ _ _); first
    | (with_reducible first | refine q_eq ?_ | refine PyProof.Rows.gt_int ?_ | refine PyProof.Rows.lt_int ?_ | refine PyProof.Rows.le_int ?_ | refine PyProof.Rows.ge_int ?_ | refine PyProof.Rows.eq_int ?_ | refine PyProof.Rows.ne_int ?_ | refine q_ne ?_ | refine q_lt ?_ | refine q_in ?_ | refine q_notin ?_ | refine ne_bool ?_ | refine eq_bool ?_ | refine q_le ?_))
  | (with_reducible first | refine ite_tt' ?_ | refine ite_ff' ?_)
  | (with_reducible first | refine a_name ?_ | refine then_next ?_ | refine then_ret ?_)
  | (with_reducible refine' s_cell H kC cC ?hp ?_; (case hp => walk_at "oput"); clear H; intro s H)
  | (with_reducible refine' w_load H ?hp ?_; (case hp => walk_at "get"))
  | (with_reducible refine' w_store H ?hp ?_; (case hp => walk_at "put"); clear H; intro s H)
  | (with_reducible refine' w_bind H ?hp ?_; (case hp => walk_at "put"); clear H; intro s H)
  | (with_reducible refine b_add H ?_; clear H; intro t s H)
  | (with_reducible refine b_sub H ?_; clear H; intro t s H)
  | (with_reducible refine i_add H ?_; clear H; intro t s H)
  | (with_reducible first | refine wpAny_allTrue_And_cons ?_ | refine wpAny_allTrue_And_nil ?_ | refine wpAny_allTrue_Or_cons ?_ | refine wpAny_allTrue_Or_nil ?_ | refine test_link ?_ | refine test_lastE ?_ | refine chain_link ?_ | refine chain_lastE ?_ | refine wpAny_truthy_bool ?_)
  | (with_reducible refine u_neg H ?_; clear H; intro t s H)
  | with_reducible refine args_nil ?_
  | with_reducible refine args_cons ?_ (by with_unfolding_all rfl)
  | with_reducible refine e_bcall ?_ (by with_unfolding_all rfl) (by with_unfolding_all rfl)
  | (with_reducible first | refine tests_nil ?_ | refine tests_one ?_)
  | with_reducible refine GM.index ?_
  | (with_reducible refine' m_append H ?hp ?_; (case hp => walk_at "opop"))
  | (with_reducible refine' m_pop H ?hp ?_; (case hp => walk_at "opop"))
  | (with_reducible first | refine pairTrees_cons_walk ?_ | refine pairTrees_nil_walk ?_)
  | (with_reducible first | refine PyProof.Rows.callWith_builtin1 ?_ (by with_unfolding_all rfl) (by with_unfolding_all rfl) | refine PyProof.Rows.callWith_type1 ?_ (by with_unfolding_all rfl) (by with_unfolding_all rfl)))
set_option hygiene false in
local macro_rules | `(tactic| walk_at "m") => `(tactic| first | (walk_at "mi") | with_reducible refine IfExp_ ?_)
set_option hygiene false in
local macro_rules | `(tactic| walk_at "dS") => `(tactic| (with_reducible refine e_dict (PySem.strKind prog w) H ?_ (by with_unfolding_all rfl) (by with_unfolding_all rfl) (by with_unfolding_all rfl) (by with_unfolding_all rfl)); clear H; intro d s hd H)
set_option hygiene false in
local macro_rules | `(tactic| walk_at "dI") => `(tactic| (with_reducible refine e_dict (intKind prog w) H ?_ (by with_unfolding_all rfl) (by with_unfolding_all rfl) (by with_unfolding_all rfl) (by with_unfolding_all rfl)); clear H; intro d s hd H)
set_option hygiene false in
local macro_rules | `(tactic| walk_at "mm") => `(tactic| repeat (walk_at "m"))

set_option hygiene false in
local macro_rules | `(tactic| walk_at "mmi") => `(tactic| repeat (walk_at "mi"))
set_option maxHeartbeats 4000000

structure T1 (T : Tp) : Prop where
  p : T.p = V1
  loose : T.loose = loose1
theorem Frm.pg1 {X : Fx} {T : Tp} {d : DefRec} {s₀ : Shared} {B₀ : FMap} (F : Frm X T s₀ B₀ d) (h : T1 T) : Pg X V1 loose1 := ⟨F.pg.p.trans h.p, F.pg.loose.trans h.loose⟩

def names1 : List Str := ["len", "isinstance", "chr", "divmod", "abs", "repr", "ascii", "str", "dict", "list", "tuple", "bool", "int", "zip", "range", "ValueError", "IndexError", "KeyError", "TypeError"]
theorem free1_all : ∀ n ∈ names1, n ∉ startupNames ∧ n ∉ loose1 ∧ n ∉ (recsOf V1).map (·.name) ∧ n ∉ (litsOf V1).map (·.1) ∧ n ∉ (clssOf V1 loose1).map (·.name) := by decide +kernel
theorem Pg.free {X : Fx} {B : FMap} {O : Owns} {l : Locs} {s : Shared} (G : Pg X V1 loose1) (H : St X B O l s) {n : Str} (hn : n ∈ names1) : X.mg n = none := by
  obtain ⟨h1, h2, h3, h4, h5⟩ := free1_all n hn
  exact H.top.free n h1 (by rw [G.loose]; exact h2) (by rw [G.p]; exact h3) (by rw [G.p]; exact h4) (by rw [G.p, G.loose]; exact h5)

theorem find1 {n : Str} (h : ((recsOf V1).find? fun r => r.name == n).isSome = true) : (recsOf V1).find? (fun r => r.name == n) = some (recOf V1 n) := by
  unfold recOf
  cases hq : (recsOf V1).find? fun r => r.name == n with
  | none => rw [hq] at h; cases h
  | some r => rfl
noncomputable abbrev dPast := recOf V1 (Str.ofString "_law_past")
theorem find_past : (recsOf V1).find? (fun r => r.name == n__law_past) = some dPast := find1 (by decide +kernel)
noncomputable abbrev dText := recOf V1 (Str.ofString "_law_text")
theorem find_text : (recsOf V1).find? (fun r => r.name == n__law_text) = some dText := find1 (by decide +kernel)
noncomputable abbrev dWord := recOf V1 (Str.ofString "_law_word")
theorem find_word : (recsOf V1).find? (fun r => r.name == n__law_word) = some dWord := find1 (by decide +kernel)
noncomputable abbrev dThing := recOf V1 (Str.ofString "_law_thing")
theorem find_thing : (recsOf V1).find? (fun r => r.name == n__law_thing) = some dThing := find1 (by decide +kernel)
noncomputable abbrev dTold := recOf V1 (Str.ofString "_law_told")
theorem find_told : (recsOf V1).find? (fun r => r.name == n__law_told) = some dTold := find1 (by decide +kernel)
noncomputable abbrev dRead := recOf V1 (Str.ofString "_law_read")
theorem find_read : (recsOf V1).find? (fun r => r.name == n__law_read) = some dRead := find1 (by decide +kernel)
noncomputable abbrev dClose := recOf V1 (Str.ofString "_law_close")
theorem find_close : (recsOf V1).find? (fun r => r.name == n__law_close) = some dClose := find1 (by decide +kernel)
noncomputable abbrev dThings := recOf V1 (Str.ofString "_law_things")
theorem find_things : (recsOf V1).find? (fun r => r.name == n__law_things) = some dThings := find1 (by decide +kernel)
theorem sp_past {prog : Program} {w : World} {A : Around} {k : Nat} (R : Rm A (k + 1)) {T : Tp} (hT1 : T1 T) {s : Shared} {B : FMap} (hT : T.At s.heap) (hB : Fz B s.heap)
    {a m : List Nat} {i : Nat} {ta ti tm : Tok} (hz : a.length ≤ sizeLine) (hzm : m.length ≤ sizeLine) (hm : (a.drop i).take m.length = m) :
    Sp prog w dPast A [.str (S a) ta, .int i ti, .str (S m) tm] B s (fun _ v => ∃ t, v = .int (((i + m.length : Nat)) : Int) t) := by
  refine enter R hT hB (binds := [(n_text, .str (S a) ta), (n_place, .int i ti), (n_mark, .str (S m) tm)]) [] (fun _ _ _ => rfl) (by simp only [List.map_cons, List.map_nil]; decide +kernel) (by simp only [List.map_cons, List.map_nil]; decide +kernel) rfl rfl rfl (by decide +kernel) ?_
  intro X A Q s F H R hret
  have G := F.pg1 hT1
  simp only [List.map_cons, List.map_nil, List.cons_append, List.nil_append] at H
  walk_at "nm"
  walk_at "mm"
  refine e_len H hzm ?_; clear H; intro t s H
  walk_at "m"
  refine cut_end i (i + m.length) H hz rfl (by omega) ?_; clear H; intro t s H
  rw [show i + m.length - i = m.length by omega, hm]
  walk_at "mm"
  refine ite_f (by simp) ?_
  walk_at "mm"
  refine e_len H hzm ?_; clear H; intro t s H
  walk_at "m"
  exact hret H ⟨_, by congr 1⟩
-- part L1b
open PySem PySem.Spec PySem.Calls PyProof.Rows PySem.W
set_option maxRecDepth 100000
set_option maxHeartbeats 4000000
def textPost (r : List Nat) (p : Nat) (B : FMap) (v : Value) : Prop := ∃ x t u, v = .ref x ∧ B x = some { cls := .type "tuple", data := .seq #[.str (S r) t, .int (p : Int) u] }

theorem valueAt_size {e : Nat} {t1 t2 t3 t0 : Tok} : ∃ t, (valueAt [(S [120], Value.int 2 t1), (S [117], Value.int 4 t2), (S [85], Value.int 8 t3)] (S [e])).getD (Value.int 0 t0) = Value.int ((sizeOf e : Nat) : Int) t := by
  simp only [valueAt_cons, valueAt_nil, S_inj, List.cons.injEq, and_true]
  unfold sizeOf
  by_cases h1 : e = 120
  · subst h1; exact ⟨_, rfl⟩
  · by_cases h2 : e = 117
    · subst h2; exact ⟨_, rfl⟩
    · by_cases h3 : e = 85
      · subst h3; exact ⟨_, rfl⟩
      · rw [if_neg (Ne.symm h1), if_neg (Ne.symm h2), if_neg (Ne.symm h3), if_neg h1, if_neg h2, if_neg h3]; exact ⟨_, rfl⟩

theorem sizeOf_cases (e : Nat) : sizeOf e = 0 ∨ sizeOf e = 2 ∨ sizeOf e = 4 ∨ sizeOf e = 8 := by unfold sizeOf; (split; simp; split; simp; split <;> simp)
theorem valueAt_short {q e d : Nat} {t1 t2 t3 t4 t5 : Tok} (h : shortOf q e = some d) : ∃ t, valueAt [(S [110], Value.str (S [10]) t1), (S [114], Value.str (S [13]) t2), (S [116], Value.str (S [9]) t3), (S [92], Value.str (S [92]) t4), (S [q], Value.str (S [q]) t5)] (S [e]) = some (Value.str (S [d]) t) := by
  simp only [valueAt_cons, valueAt_nil, S_inj, List.cons.injEq, and_true]
  unfold shortOf at h
  by_cases h1 : e = 110
  · subst h1; rw [if_pos rfl] at h; cases h; exact ⟨_, rfl⟩
  rw [if_neg h1] at h; rw [if_neg (Ne.symm h1)]
  by_cases h2 : e = 114
  · subst h2; rw [if_pos rfl] at h; cases h; exact ⟨_, rfl⟩
  rw [if_neg h2] at h; rw [if_neg (Ne.symm h2)]
  by_cases h3 : e = 116
  · subst h3; rw [if_pos rfl] at h; cases h; exact ⟨_, rfl⟩
  rw [if_neg h3] at h; rw [if_neg (Ne.symm h3)]
  by_cases h4 : e = 92
  · subst h4; rw [if_pos rfl] at h; cases h; exact ⟨_, rfl⟩
  rw [if_neg h4] at h; rw [if_neg (Ne.symm h4)]
  by_cases h5 : e = q
  · subst h5; rw [if_pos rfl] at h; cases h; rw [if_pos rfl]; exact ⟨_, rfl⟩
  rw [if_neg h5] at h; cases h
theorem valueAt_least {k : Nat} {t1 t2 t3 : Tok} (h : k = 2 ∨ k = 4 ∨ k = 8) : ∃ t, valueAt [((2 : Int), Value.int 0 t1), (4, Value.int 256 t2), (8, Value.int 65536 t3)] ((k : Nat) : Int) = some (Value.int ((leastOf k : Nat) : Int) t) := by
  rcases h with rfl | rfl | rfl <;> exact ⟨_, rfl⟩

theorem sp_text {prog : Program} {w : World} {A : Around} {k : Nat} (R : Rm A (k + 1)) {T : Tp} (hT1 : T1 T) {s : Shared} {B : FMap} (hT : T.At s.heap) (hB : Fz B s.heap)
    {a : List Nat} {i q p' : Nat} {r' : List Nat} {ta ti : Tok} (hz : a.length ≤ 4194304) (hq : a[i]? = some q) (hq' : q = 39 ∨ q = 34) (hl : TL a q (i + 1) [] p' r') (hqq : (q == 34) = (decide (39 ∈ r') && !decide (34 ∈ r'))) :
    Sp prog w dText A [.str (S a) ta, .int i ti] B s (textPost r' (p' + 1)) := by
  refine enter R hT hB (binds := [(n_text, .str (S a) ta), (n_place, .int i ti)]) [n_quote, n_short, n_read, n_sign, n_size, n_code, n_figure] (fun _ _ _ => rfl) (by simp only [List.map_cons, List.map_nil]; decide +kernel) (by simp only [List.map_cons, List.map_nil]; decide +kernel) rfl rfl rfl (by decide +kernel) ?_
  intro X A Q s F H R hret
  have G := F.pg1 hT1
  have hz' : a.length ≤ sizeLine := Nat.le_trans hz (by decide)
  simp only [List.map_cons, List.map_nil, List.cons_append, List.nil_append] at H
  walk_at "nm"
  walk_at "mm"
  with_reducible refine e_item H hq hz' ?_; clear H; intro t s H
  walk_at "mm"
  walk_at "dS"
  walk_at "mm"
  refine dict_end [(S [110], _), (S [114], _), (S [116], _), (S [92], _), (S [q], _)] H ⟨PySem.strKind_is _ _ _ _, rfl, PySem.strKind_is _ _ _ _, rfl, PySem.strKind_is _ _ _ _, rfl, PySem.strKind_is _ _ _ _, rfl, PySem.strKind_is _ _ _ _, rfl, trivial⟩ ?_; clear H; intro B₁ s hs₁ hD H
  rw [merged_nil (by rcases hq' with rfl | rfl <;> simp [S_inj])] at hD
  walk_at "mm"
  with_reducible refine x_while H (fun n B₂ O₂ l₂ => O₂ = [] ∧ ∃ p r tp tq tr v1 v2 v3 v4, l₂ = ([(n_text, some (Value.str (S a) ta)), (n_place, some (Value.int (p : Nat) tp)), (n_quote, some (Value.str (S [q]) tq)), (n_short, some (Value.ref d)), (n_read, some (Value.str (S r) tr)), (n_sign, v1), (n_size, v2), (n_code, v3), (n_figure, v4)] : Locs) ∧
    n + p = a.length ∧ r.length ≤ p ∧ TL a q p r p' r') (a.length - (i + 1)) ?_ ?_
  · have := hl.lt
    exact ⟨rfl, i + 1, [], _, _, _, _, _, _, _, rfl, by omega, by simp, hl⟩
  clear H
  rintro bd hbd n B₂ O₂ l₂ s Qe hend hs₂ ⟨rfl, p, r, tp, tq, tr, v1, v2, v3, v4, rfl, hn, hr, hT⟩ H
  replace hD := hD.sub hs₂
  have hzz : sizeLine = 16777216 := by decide
  have hp := hT.lt
  walk_at "mm"
  cases hT with
  | stop h =>
    with_reducible refine e_item H h hz' ?_; clear H; intro t s H
    walk_at "mm"
    refine ite_f (by simp) ?_
    walk_at "mm"
    have hz2 : ∀ x y : Value, [x, y].length ≤ sizeLine := fun _ _ => by simp; decide
    refine ite_b (fun e1 => ?_) (fun e1 => ?_)
    · walk_at "mm"
      refine ite_f (by rw [beq1, hqq, e1]; cases decide (34 ∈ r') <;> rfl) ?_
      walk_at "mm"
      with_reducible refine e_tuple H (hz2 _ _) ?_; clear H; intro x B₃ s hs₃ hx H
      walk_at "mm"
      exact hret H ⟨_, _, _, rfl, hx⟩
    · walk_at "mm"
      refine ite_f (by rw [beq1, hqq, e1]; rfl) ?_
      walk_at "mm"
      with_reducible refine e_tuple H (hz2 _ _) ?_; clear H; intro x B₃ s hs₃ hx H
      walk_at "mm"
      exact hret H ⟨_, _, _, rfl, hx⟩
  | plain c h h1 h2 h3 h4 hT' =>
    with_reducible refine e_item H h hz' ?_; clear H; intro t s H
    walk_at "mm"
    refine ite_t (by simp [h1]) ?_
    walk_at "mm"
    with_reducible refine e_item H h hz' ?_; clear H; intro t s H
    walk_at "mm"
    refine ite_f (by rw [beq1]; simpa using h2) ?_
    walk_at "mm"
    refine ite_f (by rw [lt1]; simpa using h3) ?_
    walk_at "mm"
    refine ite_f (by rw [beq1]; simpa using h4) ?_
    walk_at "mm"
    with_reducible refine i_cat H (by simp; omega) ?_; clear H; intro t s H
    walk_at "mm"
    exact hend (m := n - 1) (by omega) (Sub.refl _) ⟨rfl, p + 1, r ++ [c], _, _, _, _, _, _, _, rfl, by omega, by simp; omega, hT'⟩ H
  | esc e c c' h h1 hx hor hT' =>
    with_reducible refine e_item H h hz' ?_; clear H; intro t s H
    walk_at "mm"
    refine ite_t (by rw [bne1]; rcases hq' with rfl | rfl <;> rfl) ?_
    walk_at "mm"
    with_reducible refine e_item H h hz' ?_; clear H; intro t s H
    walk_at "mm"
    refine ite_t (by rfl) ?_
    walk_at "mm"
    walk_at "dS"
    walk_at "mm"
    refine dict_end [(S [120], _), (S [117], _), (S [85], _)] H ⟨PySem.strKind_is _ _ _ _, rfl, PySem.strKind_is _ _ _ _, rfl, PySem.strKind_is _ _ _ _, rfl, trivial⟩ ?_; clear H; intro B₃ s hs₃ hE H
    rw [merged_nil (by simp [S_inj])] at hE
    with_reducible refine m_dget H hE ?_
    walk_at "mm"
    with_reducible refine e_item H h1 hz' ?_; clear H; intro t s H
    walk_at "mm"
    with_reducible refine e_dget H hE (PySem.strKind_is _ _ _ _) ?_; clear H; intro s H
    obtain ⟨t', ht'⟩ := valueAt_size (e := e) (t1 := _) (t2 := _) (t3 := _) (t0 := _)
    rw [ht']; clear ht'
    walk_at "mm"
    with_reducible refine x_for ?_ (by intro _; with_unfolding_all rfl); intro bd hbd
    walk_at "mm"
    have h8 := sizeOf_le e
    with_reducible refine cut_end (p + 2) (p + 2 + sizeOf e) H hz' (by omega) (by omega) ?_; clear H; intro t s H
    rw [show p + 2 + sizeOf e - (p + 2) = sizeOf e by omega]
    generalize hds : (a.drop (p + 2)).take (sizeOf e) = ds at hx ⊢
    refine for_it (it_str R.handled H) (fun i B₄ O₄ l₄ => O₄ = [] ∧ ∃ cc tc v4, l₄ = ([(n_text, some (Value.str (S a) ta)), (n_place, some (Value.int (p + 1 : Nat) _)), (n_quote, some (Value.str (S [q]) tq)), (n_short, some (Value.ref _)), (n_read, some (Value.str (S r) tr)), (n_sign, some (Value.str (S [92]) _)), (n_size, some (Value.int (sizeOf e : Nat) t')), (n_code, some (Value.int (cc : Nat) tc)), (n_figure, v4)] : Locs) ∧ Hex (ds.drop i) cc c) ⟨rfl, 0, _, _, rfl, hx⟩ ?_ ?_
    · intro i v B₄ B₄' O₄ l₄ s₄ qi Qe hend hi hP hs₄ hJ hs₄' H; obtain ⟨ch, tch, hch, rfl⟩ := hP; refine a_name ?_
      obtain ⟨rfl, cc, tc, v4, rfl, hH⟩ := hJ
      have hdr : ds.drop i = ch :: ds.drop (i + 1) := by
        obtain ⟨hl, he⟩ := List.getElem?_eq_some_iff.mp hch
        rw [List.drop_eq_getElem_cons hl, he]
      rw [hdr] at hH
      cases hH with
      | cons v hv hH =>
        have hix := idx16 (show fig16[v]? = some ch from hv)
        unfold fig16 at hix
        walk_at "mm"
        with_reducible refine b_mul H (mulOk_l (by decide) (by decide)) ?_; clear H; intro t s H
        walk_at "mm"
        with_reducible refine e_index H hix ?_; clear H; intro t s H
        walk_at "mm"
        exact hend (Sub.refl _) ⟨rfl, 16 * cc + v, _, _, rfl, hH⟩ H
    · rintro B₄ O₄ l₄ s hs₄ ⟨rfl, cc, tc, v4, rfl, hH⟩ H
      rw [List.drop_length] at hH
      cases hH
      replace hD := (hD.sub hs₃).sub hs₄
      walk_at "mm"
      rcases hor with ⟨h0, hsh⟩ | ⟨h0, rfl, h2, h3, h4, h5, h6, h7⟩
      · refine ite_f (by rw [h0]; rfl) ?_
        walk_at "mm"
        with_reducible refine e_item H h1 hz' ?_; clear H; intro t s H
        walk_at "mm"
        obtain ⟨ts, hts⟩ := valueAt_short (t1 := _) (t2 := _) (t3 := _) (t4 := _) (t5 := _) hsh
        with_reducible refine e_ditem H hD (PySem.strKind_is _ _ _ _) hts ?_ (by with_unfolding_all rfl); clear H; intro s H
        walk_at "mm"
        refine ite_f (by rw [h0]; rfl) ?_
        walk_at "mm"
        with_reducible refine i_cat H (by simp; omega) ?_; clear H; intro t s H
        walk_at "mm"
        have hl' := hT'.lt
        exact hend (m := a.length - (p + 1 + (1 + sizeOf e))) (by omega) (hs₃.trans hs₄) ⟨rfl, p + 1 + (1 + sizeOf e), r ++ [c'], _, _, _, _, _, _, _, rfl, by omega, by simp; omega, by rw [show p + 1 + (1 + sizeOf e) = p + 2 + sizeOf e by omega]; exact hT'⟩ H
      · refine ite_t (by simp; omega) ?_
        walk_at "mm"
        with_reducible refine e_chr H rfl h2 ?_; clear H; intro t s H
        walk_at "mm"
        refine ite_t (by simp; omega) ?_
        walk_at "mm"
        rcases h3 with h3 | h3
        · refine ite_f (by rw [lt1]; simpa using h3) ?_
          walk_at "mm"
          refine ite_f (by simp; omega) ?_
          walk_at "mm"
          walk_at "dI"
          walk_at "mm"
          refine dict_end [(2, _), (4, _), (8, _)] H ⟨intKind_is _ _ _ _, rfl, intKind_is _ _ _ _, rfl, intKind_is _ _ _ _, rfl, trivial⟩ ?_; clear H; intro B₅ s hs₅ hE H
          rw [merged_nil (by simp)] at hE
          walk_at "mm"
          obtain ⟨ts, hts⟩ := valueAt_least (t1 := _) (t2 := _) (t3 := _) (k := sizeOf e) (by have := sizeOf_cases e; omega)
          with_reducible refine e_ditem H hE (intKind_is _ _ _ _) hts ?_ (by with_unfolding_all rfl); clear H; intro s H
          walk_at "mm"
          refine ite_f (by simp; omega) ?_
          walk_at "mm"
          with_reducible refine i_cat H (by simp; omega) ?_; clear H; intro t s H
          walk_at "mm"
          have hl' := hT'.lt
          exact hend (m := a.length - (p + 1 + (1 + sizeOf e))) (by omega) ((hs₃.trans hs₄).trans hs₅) ⟨rfl, p + 1 + (1 + sizeOf e), r ++ [c'], _, _, _, _, _, _, _, rfl, by omega, by simp; omega, by rw [show p + 1 + (1 + sizeOf e) = p + 2 + sizeOf e by omega]; exact hT'⟩ H
        · refine ite_t (by rw [lt1]; simp; omega) ?_
          walk_at "mm"
          refine ite_f (by rw [lt1]; simpa using h3) ?_
          walk_at "mm"
          refine ite_f (by simp; omega) ?_
          walk_at "mm"
          walk_at "dI"
          walk_at "mm"
          refine dict_end [(2, _), (4, _), (8, _)] H ⟨intKind_is _ _ _ _, rfl, intKind_is _ _ _ _, rfl, intKind_is _ _ _ _, rfl, trivial⟩ ?_; clear H; intro B₅ s hs₅ hE H
          rw [merged_nil (by simp)] at hE
          walk_at "mm"
          obtain ⟨ts, hts⟩ := valueAt_least (t1 := _) (t2 := _) (t3 := _) (k := sizeOf e) (by have := sizeOf_cases e; omega)
          with_reducible refine e_ditem H hE (intKind_is _ _ _ _) hts ?_ (by with_unfolding_all rfl); clear H; intro s H
          walk_at "mm"
          refine ite_f (by simp; omega) ?_
          walk_at "mm"
          with_reducible refine i_cat H (by simp; omega) ?_; clear H; intro t s H
          walk_at "mm"
          have hl' := hT'.lt
          exact hend (m := a.length - (p + 1 + (1 + sizeOf e))) (by omega) ((hs₃.trans hs₄).trans hs₅) ⟨rfl, p + 1 + (1 + sizeOf e), r ++ [c'], _, _, _, _, _, _, _, rfl, by omega, by simp; omega, by rw [show p + 1 + (1 + sizeOf e) = p + 2 + sizeOf e by omega]; exact hT'⟩ H
-- part L1c
open PySem PySem.Spec PySem.Calls PyProof.Rows PySem.W
set_option maxRecDepth 100000
set_option maxHeartbeats 4000000
def wordPost (d : PyData) (p : Nat) (B : FMap) (v : Value) : Prop := ∃ x u y, v = .ref x ∧ B x = some { cls := .type "tuple", data := .seq #[y, .int (p : Int) u] } ∧ Leaf y d
theorem cons_str {a : List Nat} {t : Tok} {vs : List Value} (h : AllStr vs) : AllStr (.str (S a) t :: vs) := fun v hv => by
  rcases List.mem_cons.mp hv with rfl | hv
  · exact ⟨_, _, rfl⟩
  · exact h v hv
theorem nil_str : AllStr [] := fun _ h => nomatch h
theorem stop_any {x : List Nat} {t0 t1 t2 t3 t4 t5 : Tok} : [Value.str (S []) t0, .str (S [44]) t1, .str (S [58]) t2, .str (S [93]) t3, .str (S [41]) t4, .str (S [125]) t5].any (strIs x) = (x == [] || x == [44] || x == [58] || x == [93] || x == [41] || x == [125]) := by
  simp only [List.any_cons, List.any_nil, strIs_str, Bool.or_false, Bool.or_assoc, Bool.beq_comm]
theorem valueAt_names (x : List Nat) {a b c : Value} : valueAt [(S [84, 114, 117, 101], a), (S [70, 97, 108, 115, 101], b), (S [78, 111, 110, 101], c)] (S x) =
    if x = [84, 114, 117, 101] then some a else if x = [70, 97, 108, 115, 101] then some b else if x = [78, 111, 110, 101] then some c else none := by
  simp only [valueAt_cons, valueAt_nil, S_inj, eq_comm (b := x)]
theorem sp_word {prog : Program} {w : World} {A : Around} {k : Nat} (R : Rm A (k + 1)) {T : Tp} (hT1 : T1 T) {s : Shared} {B : FMap} (hT : T.At s.heap) (hB : Fz B s.heap)
    {a : List Nat} {i e : Nat} {dt : PyData} {ta ti : Tok} (hz : a.length ≤ 4194304) (hw : WordTo a i e) (hwi : WordIs ((a.drop i).take (e - i)) dt) :
    Sp prog w dWord A [.str (S a) ta, .int i ti] B s (wordPost dt e) := by
  refine enter R hT hB (binds := [(n_text, .str (S a) ta), (n_place, .int i ti)]) [n_end, n_word, n_names, n_figures, n_number, n_figure] (fun _ _ _ => rfl) (by simp only [List.map_cons, List.map_nil]; decide +kernel) (by simp only [List.map_cons, List.map_nil]; decide +kernel) rfl rfl rfl (by decide +kernel) ?_
  intro X A Q s F H R hret
  have G := F.pg1 hT1
  have hz' : a.length ≤ sizeLine := Nat.le_trans hz (by decide)
  have hzz : sizeLine = 16777216 := by decide
  simp only [List.map_cons, List.map_nil, List.cons_append, List.nil_append] at H
  walk_at "nm"
  walk_at "mm"
  have hlen := hw.len
  have hle := hw.le
  with_reducible refine x_while H (fun n B₂ O₂ l₂ => O₂ = [] ∧ ∃ p tp v1 v2 v3 v4 v5, l₂ = ([(n_text, some (Value.str (S a) ta)), (n_place, some (Value.int i ti)), (n_end, some (Value.int (p : Nat) tp)), (n_word, v1), (n_names, v2), (n_figures, v3), (n_number, v4), (n_figure, v5)] : Locs) ∧
    n + p = e ∧ i ≤ p) (e - i) ?_ ?_
  · exact ⟨rfl, i, _, _, _, _, _, _, rfl, by omega, Nat.le_refl _⟩
  clear H
  rintro bd hbd n B₂ O₂ l₂ s Qe hend hs₂ ⟨rfl, p, tp, v1, v2, v3, v4, v5, rfl, hn, hip⟩ H
  walk_at "mm"
  with_reducible refine cut_end p (p + 1) H hz' rfl (by omega) ?_; clear H; intro t s H
  rw [show p + 1 - p = 1 by omega]
  walk_at "mm"
  with_reducible refine e_listF H (by simp; omega) ?_; clear H; intro x B₃ s hs₃ hx H
  with_reducible refine q_notinL H hx (by repeat (first | exact nil_str | apply cons_str)) ?_
  rw [stop_any]
  walk_at "mm"
  by_cases hpe : p < e
  · obtain ⟨c, hc, hcs⟩ := hw.mid p hip hpe
    refine ite_t (by
      rw [take1_some hc]
      simp only [stops, List.mem_cons, List.not_mem_nil, or_false, not_or] at hcs
      obtain ⟨h1, h2, h3, h4, h5⟩ := hcs
      simp [h1, h2, h3, h4, h5]) ?_
    walk_at "mm"
    exact hend (m := n - 1) (by omega) (hs₃) ⟨rfl, p + 1, _, _, _, _, _, _, rfl, by omega, by omega⟩ H
  have hpe' : p = e := by omega
  subst hpe'
  refine ite_f (by
    rcases hw.fin with h | ⟨c, hc, hcs⟩
    · rw [take1_none h]; rfl
    · rw [take1_some hc]
      simp only [stops, List.mem_cons, List.not_mem_nil, or_false] at hcs
      rcases hcs with rfl | rfl | rfl | rfl | rfl <;> rfl) ?_
  walk_at "mm"
  with_reducible refine cut_end i p H hz' rfl rfl ?_; clear H; intro t s H
  generalize hwd : (a.drop i).take (p - i) = wd at hwi ⊢
  have hwl : wd.length ≤ 4194304 := by rw [← hwd]; simp; omega
  walk_at "mm"
  walk_at "dS"
  walk_at "mm"
  refine dict_end [(S [84, 114, 117, 101], _), (S [70, 97, 108, 115, 101], _), (S [78, 111, 110, 101], _)] H ⟨PySem.strKind_is _ _ _ _, rfl, PySem.strKind_is _ _ _ _, rfl, PySem.strKind_is _ _ _ _, rfl, trivial⟩ ?_; clear H; intro B₄ s hs₄ hD H
  rw [merged_nil (by simp [S_inj])] at hD
  walk_at "mm"
  with_reducible refine e_din H hD (PySem.strKind_is _ _ _ _) ?_; clear H; intro s H
  walk_at "mm"
  have hz2 : ∀ x y : Value, [x, y].length ≤ sizeLine := fun _ _ => by simp; decide
  cases hwi with
  | tt =>
    refine ite_t (by rw [valueAt_names]; simp) ?_
    walk_at "mm"
    with_reducible refine e_ditem H hD (PySem.strKind_is _ _ _ _) (v := .bool true) (by rw [valueAt_names]; simp) ?_ (by with_unfolding_all rfl); clear H; intro s H
    walk_at "mm"
    with_reducible refine e_tuple H (hz2 _ _) ?_; clear H; intro x B₅ s hs₅ hx H
    walk_at "mm"
    exact hret H ⟨_, _, _, rfl, hx, .bool _⟩
  | ff =>
    refine ite_t (by rw [valueAt_names]; simp) ?_
    walk_at "mm"
    with_reducible refine e_ditem H hD (PySem.strKind_is _ _ _ _) (v := .bool false) (by rw [valueAt_names]; simp) ?_ (by with_unfolding_all rfl); clear H; intro s H
    walk_at "mm"
    with_reducible refine e_tuple H (hz2 _ _) ?_; clear H; intro x B₅ s hs₅ hx H
    walk_at "mm"
    exact hret H ⟨_, _, _, rfl, hx, .bool _⟩
  | no =>
    refine ite_t (by rw [valueAt_names]; simp) ?_
    walk_at "mm"
    with_reducible refine e_ditem H hD (PySem.strKind_is _ _ _ _) (v := .none) (by rw [valueAt_names]; simp) ?_ (by with_unfolding_all rfl); clear H; intro s H
    walk_at "mm"
    with_reducible refine e_tuple H (hz2 _ _) ?_; clear H; intro x B₅ s hs₅ hx H
    walk_at "mm"
    exact hret H ⟨_, _, _, rfl, hx, .none⟩
  | @num d1 ds nn hdec h0 =>
    have hf := hdec.fig
    have h84 : d1 ≠ 84 ∧ d1 ≠ 70 ∧ d1 ≠ 78 := by omega
    refine ite_f (by rw [valueAt_names]; simp [h84]) ?_
    walk_at "mm"
    with_reducible refine cut_hi 1 H (by omega) rfl ?_; clear H; intro t s H
    rw [show List.take 1 (d1 :: ds) = [d1] from rfl]
    walk_at "mm"
    refine ite_f (by rw [beq1]; simp; omega) ?_
    walk_at "mm"
    with_reducible refine x_for ?_ (by intro _; with_unfolding_all rfl); intro bd hbd
    walk_at "mm"
    refine for_it (it_str R.handled H) (fun i' B₄ O₄ l₄ => O₄ = [] ∧ ∃ cc tc v5, l₄ = ([(n_text, some (Value.str (S a) ta)), (n_place, some (Value.int i ti)), (n_end, some (Value.int (p : Nat) tp)), (n_word, some (Value.str (S (d1 :: ds)) _)), (n_names, some (Value.ref d)), (n_figures, some (Value.str (S (d1 :: ds)) _)), (n_number, some (Value.int (cc : Nat) tc)), (n_figure, v5)] : Locs) ∧ Dec ((d1 :: ds).drop i') cc nn) ⟨rfl, 0, _, _, rfl, hdec⟩ ?_ ?_
    · intro i' v B₄ B₄' O₄ l₄ s₄ qi Qe hend hi hP hs₄ hJ hs₄' H; obtain ⟨ch, tch, hch, rfl⟩ := hP; refine a_name ?_
      obtain ⟨rfl, cc, tc, v5, rfl, hH⟩ := hJ
      have hdr : (d1 :: ds).drop i' = ch :: (d1 :: ds).drop (i' + 1) := by
        obtain ⟨hl, he⟩ := List.getElem?_eq_some_iff.mp hch
        rw [List.drop_eq_getElem_cons hl, he]
      rw [hdr] at hH
      cases hH with
      | cons v hv hH =>
        have hix := idx10 (show fig10[v]? = some ch from hv)
        unfold fig10 at hix
        walk_at "mm"
        with_reducible refine b_mul H (mulOk_l (by decide) (by decide)) ?_; clear H; intro t s H
        walk_at "mm"
        with_reducible refine e_index H hix ?_; clear H; intro t s H
        walk_at "mm"
        exact hend (Sub.refl _) ⟨rfl, 10 * cc + v, _, _, rfl, hH⟩ H
    · rintro B₅ O₄ l₄ s hs₅ ⟨rfl, cc, tc, v5, rfl, hH⟩ H
      rw [List.drop_length] at hH
      cases hH
      walk_at "mm"
      refine ite_f (by simp) ?_
      walk_at "mm"
      with_reducible refine e_item H (i := 0) (c := d1) rfl (by omega) ?_; clear H; intro t s H
      walk_at "mm"
      refine ite_b (fun e1 => ?_) (fun e1 => ?_)
      · rw [beq1, beq_iff_eq] at e1
        obtain rfl := h0 e1
        subst e1
        walk_at "mm"
        refine ite_f (by rfl) ?_
        walk_at "mm"
        refine ite_t (by simp) ?_
        walk_at "mm"
        with_reducible refine e_tuple H (hz2 _ _) ?_; clear H; intro x B₆ s hs₆ hx H
        walk_at "mm"
        exact hret H ⟨_, _, _, rfl, hx, .int _ _⟩
      · walk_at "mm"
        refine ite_t (by simp) ?_
        walk_at "mm"
        with_reducible refine e_tuple H (hz2 _ _) ?_; clear H; intro x B₆ s hs₆ hx H
        walk_at "mm"
        exact hret H ⟨_, _, _, rfl, hx, .int _ _⟩
  | @neg d1 ds nn hdec h0 =>
    have hf := hdec.fig
    refine ite_f (by rw [valueAt_names]; simp) ?_
    walk_at "mm"
    with_reducible refine cut_hi 1 H (by omega) rfl ?_; clear H; intro t s H
    rw [show List.take 1 (45 :: d1 :: ds) = [45] from rfl]
    walk_at "mm"
    refine ite_t (by rw [beq1]; rfl) ?_
    walk_at "mm"
    with_reducible refine cut_lo 1 H (by omega) rfl ?_; clear H; intro t s H
    rw [show List.drop 1 (45 :: d1 :: ds) = d1 :: ds from rfl]
    walk_at "mm"
    with_reducible refine x_for ?_ (by intro _; with_unfolding_all rfl); intro bd hbd
    walk_at "mm"
    refine for_it (it_str R.handled H) (fun i' B₄ O₄ l₄ => O₄ = [] ∧ ∃ cc tc v5, l₄ = ([(n_text, some (Value.str (S a) ta)), (n_place, some (Value.int i ti)), (n_end, some (Value.int (p : Nat) tp)), (n_word, some (Value.str (S (45 :: d1 :: ds)) _)), (n_names, some (Value.ref d)), (n_figures, some (Value.str (S (d1 :: ds)) _)), (n_number, some (Value.int (cc : Nat) tc)), (n_figure, v5)] : Locs) ∧ Dec ((d1 :: ds).drop i') cc nn) ⟨rfl, 0, _, _, rfl, hdec⟩ ?_ ?_
    · intro i' v B₄ B₄' O₄ l₄ s₄ qi Qe hend hi hP hs₄ hJ hs₄' H; obtain ⟨ch, tch, hch, rfl⟩ := hP; refine a_name ?_
      obtain ⟨rfl, cc, tc, v5, rfl, hH⟩ := hJ
      have hdr : (d1 :: ds).drop i' = ch :: (d1 :: ds).drop (i' + 1) := by
        obtain ⟨hl, he⟩ := List.getElem?_eq_some_iff.mp hch
        rw [List.drop_eq_getElem_cons hl, he]
      rw [hdr] at hH
      cases hH with
      | cons v hv hH =>
        have hix := idx10 (show fig10[v]? = some ch from hv)
        unfold fig10 at hix
        walk_at "mm"
        with_reducible refine b_mul H (mulOk_l (by decide) (by decide)) ?_; clear H; intro t s H
        walk_at "mm"
        with_reducible refine e_index H hix ?_; clear H; intro t s H
        walk_at "mm"
        exact hend (Sub.refl _) ⟨rfl, 10 * cc + v, _, _, rfl, hH⟩ H
    · rintro B₅ O₄ l₄ s hs₅ ⟨rfl, cc, tc, v5, rfl, hH⟩ H
      rw [List.drop_length] at hH
      cases hH
      walk_at "mm"
      refine ite_f (by simp) ?_
      walk_at "mm"
      with_reducible refine e_item H (i := 0) (c := d1) rfl (by simp at hwl ⊢; omega) ?_; clear H; intro t s H
      walk_at "mm"
      refine ite_f (by rw [beq1]; simpa using h0) ?_
      walk_at "mm"
      refine ite_f (by
        rw [beq_eq_false_iff_ne]; intro e
        have := congrArg List.length e
        simp at this) ?_
      walk_at "mm"
      with_reducible refine e_tuple H (hz2 _ _) ?_; clear H; intro x B₆ s hs₆ hx H
      walk_at "mm"
      exact hret H ⟨_, _, _, rfl, hx, .int _ _⟩
-- part L1d
open PySem PySem.Spec PySem.Calls PyProof.Rows PySem.W
set_option maxRecDepth 100000
set_option maxHeartbeats 4000000
def thingPost (prog : Program) (w : World) (d : PyData) (p : Nat) (B : FMap) (v : Value) : Prop := ∃ x u y, v = .ref x ∧ B x = some { cls := .type "tuple", data := .seq #[y, .int (p : Int) u] } ∧ Rd prog w B y d
theorem Leaf.rd {prog : Program} {w : World} {B : FMap} {v : Value} {d : PyData} (h : Leaf v d) : Rd prog w B v d := by
  cases h
  · exact .none
  · exact .bool _
  · exact .int _ _
theorem thing_leaf {prog : Program} {w : World} {a : List Nat} (hz : a.length ≤ 4194304) {k : Nat} {A : Around} (R : Rm A (k + 2)) {T : Tp} (hT1 : T1 T) {s : Shared} {B : FMap} (hT : T.At s.heap) (hB : Fz B s.heap) {i e : Nat} {dt : PyData} {ta ti : Tok} (hth : Leafs a i dt e) :
    Sp prog w dThing A [.str (S a) ta, .int i ti] B s (thingPost prog w dt e) := by
  refine enter R hT hB (binds := [(n_text, .str (S a) ta), (n_place, .int i ti)]) [n_first, n_things, n_thing, n_held, n_end] (fun _ _ _ => rfl) (by simp only [List.map_cons, List.map_nil]; decide +kernel) (by simp only [List.map_cons, List.map_nil]; decide +kernel) rfl rfl rfl (by decide +kernel) ?_
  intro X A Q s F H R hret
  have G := F.pg1 hT1
  have hTX : T1 X.T := F.T ▸ hT1
  have hz' : a.length ≤ sizeLine := Nat.le_trans hz (by decide)
  have hzz : sizeLine = 16777216 := by decide
  simp only [List.map_cons, List.map_nil, List.cons_append, List.nil_append] at H
  walk_at "nm"
  walk_at "mm"
  cases hth with
  | @text q p r hq hq' htl hqq =>
    with_reducible refine e_item H hq hz' ?_; clear H; intro t s H
    walk_at "mm"
    rcases hq' with rfl | rfl
    · refine ite_t (by rw [beq1]; rfl) ?_
      walk_at "mm"
      refine ⟨_, _, _, _, H, sp_text R hTX H.tp H.fzIn hz hq (by decide) htl hqq, ?_⟩
      clear H; rintro v B₂ s hs₂ ⟨x, t₁, u₁, rfl, hx⟩ H
      walk_at "mm"
      exact hret H ⟨x, u₁, _, rfl, hx, .str _ _⟩
    · refine ite_f (by rw [beq1]; rfl) ?_
      walk_at "mm"
      refine ite_t (by rw [beq1]; rfl) ?_
      walk_at "mm"
      refine ⟨_, _, _, _, H, sp_text R hTX H.tp H.fzIn hz hq (by decide) htl hqq, ?_⟩
      clear H; rintro v B₂ s hs₂ ⟨x, t₁, u₁, rfl, hx⟩ H
      walk_at "mm"
      exact hret H ⟨x, u₁, _, rfl, hx, .str _ _⟩
  | @word c _ _ hc hcs hw hwi =>
    with_reducible refine e_item H hc hz' ?_; clear H; intro t s H
    walk_at "mm"
    simp only [List.mem_cons, List.not_mem_nil, or_false, not_or] at hcs
    obtain ⟨h1, h2, h3, h4, h5⟩ := hcs
    refine ite_f (by rw [beq1]; simpa using h1) ?_
    walk_at "mm"
    refine ite_f (by rw [beq1]; simpa using h2) ?_
    walk_at "mm"
    refine ite_t (by simp [h3, h4, h5]) ?_
    walk_at "mm"
    refine ⟨_, _, _, _, H, sp_word R hTX H.tp H.fzIn hz hw hwi, ?_⟩
    clear H; rintro v B₂ s hs₂ ⟨x, u₁, y, rfl, hx, hy⟩ H
    walk_at "mm"
    exact hret H ⟨x, u₁, y, rfl, hx, hy.rd⟩

theorem valueAt_closer {f : Nat} {t1 t2 t3 : Tok} (h : f = 91 ∨ f = 40 ∨ f = 123) : ∃ t, valueAt [(S [91], Value.str (S [93]) t1), (S [40], Value.str (S [41]) t2), (S [123], Value.str (S [125]) t3)] (S [f]) = some (Value.str (S [closerOf f]) t) := by
  simp only [valueAt_cons, valueAt_nil, S_inj, List.cons.injEq, and_true]
  rcases h with rfl | rfl | rfl <;> exact ⟨_, rfl⟩
theorem sp_thing {prog : Program} {w : World} {a : List Nat} (hz : a.length ≤ 4194304) : ∀ (m : Nat) {A : Around} (_ : Rm A (m + 2)) {T : Tp} (_ : T1 T) {s : Shared} {B : FMap} (_ : T.At s.heap) (_ : Fz B s.heap) {i e : Nat} {d : PyData} {ta ti : Tok} (_ : Th a m i d e),
    Sp prog w dThing A [.str (S a) ta, .int i ti] B s (thingPost prog w d e) := by
  intro m
  induction m with
  | zero => intro A R T hT1 s B hT hB i e dt ta ti hth; exact thing_leaf hz R hT1 hT hB hth
  | succ m ih =>
  intro A R T hT1 s B hT hB i e dt ta ti hth
  rcases hth with hth | ⟨f, ds, p, hf, hf3, hls, hone, hcl, rfl, hmd⟩
  · exact thing_leaf hz R hT1 hT hB hth
  refine enter R hT hB (binds := [(n_text, .str (S a) ta), (n_place, .int i ti)]) [n_first, n_things, n_thing, n_held, n_end] (fun _ _ _ => rfl) (by simp only [List.map_cons, List.map_nil]; decide +kernel) (by simp only [List.map_cons, List.map_nil]; decide +kernel) rfl rfl rfl (by decide +kernel) ?_
  intro X A Q s F H R hret
  have G := F.pg1 hT1
  have hTX : T1 X.T := F.T ▸ hT1
  have hz' : a.length ≤ sizeLine := Nat.le_trans hz (by decide)
  have hzz : sizeLine = 16777216 := by decide
  simp only [List.map_cons, List.map_nil, List.cons_append, List.nil_append] at H
  walk_at "nm"
  walk_at "mm"
  with_reducible refine e_item H hf hz' ?_; clear H; intro t s H
  walk_at "mm"
  refine ite_f (by rw [beq1]; simp; omega) ?_
  walk_at "mm"
  refine ite_f (by rw [beq1]; simp; omega) ?_
  walk_at "mm"
  refine ite_f (by simp; omega) ?_
  walk_at "mm"
  with_reducible refine e_listO H (by simp) ?_; clear H; intro D s H
  walk_at "mm"
  with_reducible refine x_while H (fun n B₂ O₂ l₂ => ∃ q ys es ds' tq tf v3 v4 v5, O₂ = [(D, LO ys)] ∧ l₂ = ([(n_text, some (Value.str (S a) ta)), (n_place, some (Value.int (q : Nat) tq)), (n_first, some (Value.str (S [f]) tf)), (n_things, some (Value.ref D)), (n_thing, v3), (n_held, v4), (n_end, v5)] : Locs) ∧
    n + q = a.length ∧ ys.length ≤ q ∧ RdAll prog w B₂ ys es ∧ ds = es ++ ds' ∧ Ls (Th a m) a f ys.length q ds' p) (a.length - (i + 1)) ?_ ?_
  · have := hls.lt
    exact ⟨i + 1, [], [], ds, _, _, _, _, _, rfl, rfl, by omega, by simp, .nil, rfl, hls⟩
  clear H
  rintro bd hbd n B₂ O₂ l₂ s Qe hend hs₂ ⟨q, ys, es, ds', tq, tf, v3, v4, v5, rfl, rfl, hn, hyl, hrd, rfl, hL⟩ H
  walk_at "mm"
  cases hL with
  | @stop _ _ c hc hcc =>
    with_reducible refine e_item H hc hz' ?_; clear H; intro t s H
    walk_at "mm"
    refine ite_f (by rcases hcc with rfl | rfl | rfl <;> rfl) ?_
    walk_at "mm"
    have hys : ys.length ≤ sizeLine := by have := (List.getElem?_eq_some_iff.mp hc).1; omega
    simp only [List.append_nil] at hone hmd
    have hlen := hrd.length
    have hpa := (List.getElem?_eq_some_iff.mp hc).1
    suffices key : ∀ s t', St X B₂ [(D, LO ys)] ([(n_text, some (Value.str (S a) ta)), (n_place, some (Value.int (p : Nat) tq)), (n_first, some (Value.str (S [f]) t')), (n_things, some (Value.ref D)), (n_thing, v3), (n_held, v4), (n_end, v5)] : Locs) s →
        wpAny (model prog w) A (execs ob X.env) (Then (model prog w) A (fun _ _ => False) rest X.env Q) (fun _ _ => False) s by
      by_cases hf40 : f = 40
      · subst hf40
        refine ite_t (by rw [beq1]; rfl) ?_
        walk_at "mm"
        with_reducible refine' e_lenO H ?hp hys ?_; (case hp => walk_at "opop"); clear H; intro t s H
        walk_at "mm"
        refine ite_b (fun e1 => ?_) (fun e1 => ?_)
        · have h1 : es.length = 1 := by simp at e1; omega
          walk_at "mm"
          have hq1 := hone rfl h1
          have hp1 : 1 ≤ p := by omega
          with_reducible refine e_item H hq1 hz' ?_ (by omega); clear H; intro t s H
          walk_at "mm"
          refine ite_f (by rfl) ?_
          walk_at "m"
          exact key _ _ H
        · walk_at "m"
          exact key _ _ H
      · refine ite_f (by rw [beq1]; simpa using hf40) ?_
        walk_at "m"
        exact key _ _ H
    clear H tf; intro s tf H
    walk_at "mm"
    walk_at "dS"
    walk_at "mm"
    refine dict_end [(S [91], _), (S [40], _), (S [123], _)] H ⟨PySem.strKind_is _ _ _ _, rfl, PySem.strKind_is _ _ _ _, rfl, PySem.strKind_is _ _ _ _, rfl, trivial⟩ ?_; clear H; intro B₃ s hs₃ hE H
    rw [merged_nil (by simp [S_inj])] at hE
    walk_at "mm"
    obtain ⟨ts, hts⟩ := valueAt_closer (t1 := _) (t2 := _) (t3 := _) hf3
    with_reducible refine e_ditem H hE (PySem.strKind_is _ _ _ _) hts ?_ (by with_unfolding_all rfl); clear H; intro s H
    walk_at "mm"
    refine ⟨_, _, _, _, H, sp_past R hTX H.tp H.fzIn hz' (by simp; omega) (take1_some hcl), ?_⟩
    clear H; rintro v B₄ s hs₄ ⟨t₁, rfl⟩ H
    replace hrd := (hrd.sub hs₃).sub hs₄
    walk_at "mm"
    cases hmd with
    | list hf =>
      subst hf
      obtain ⟨B₅, o, hs₅, hB, ⟨nn, rfl⟩, H'⟩ := H.freeze (O₁ := []) rfl
      clear H; have H := H'; clear H'
      refine ite_f (by rw [beq1]; rfl) ?_
      walk_at "mm"
      refine ite_f (by rw [beq1]; rfl) ?_
      walk_at "mm"
      with_reducible refine e_tuple H (by simp; omega) ?_; clear H; intro x B₆ s hs₆ hx H
      walk_at "mm"
      exact hret H ⟨x, _, _, rfl, hx, .list (hs₆ _ _ hB) rfl rfl ((hrd.sub hs₅).sub hs₆)⟩
    | tuple hf =>
      subst hf
      refine ite_f (by rw [beq1]; rfl) ?_
      walk_at "mm"
      refine ite_t (by rw [beq1]; rfl) ?_
      walk_at "mm"
      with_reducible refine' e_tupleO H ?hp hys ?_; (case hp => walk_at "opop"); clear H; intro x B₅ s hs₅ hx5 H
      walk_at "mm"
      with_reducible refine e_tuple H (by simp; omega) ?_; clear H; intro x B₆ s hs₆ hx H
      walk_at "mm"
      exact hret H ⟨x, _, _, rfl, hx, .tuple (hs₆ _ _ hx5) rfl rfl ((hrd.sub hs₅).sub hs₆)⟩
    | @dict kvs hf hnd =>
      subst hf
      obtain ⟨B₅, o, hs₅, hB, ⟨nn, rfl⟩, H'⟩ := H.freeze (O₁ := []) rfl
      clear H; have H := H'; clear H'
      replace hrd := hrd.sub hs₅
      refine ite_t (by rw [beq1]; rfl) ?_
      walk_at "mm"
      with_reducible refine e_dictcomp (mixKind prog w) [n_key, n_held] ?_ (closureFor_none (by decide +kernel)) (by decide +kernel) (by rfl) (by decide +kernel) (by decide +kernel) (by decide +kernel) (by intro _; with_unfolding_all rfl)
      walk_at "mm"
      rw [List.length_map] at hlen
      refine dc_it (it_list R.handled takes_tuple H hB rfl rfl) hys (fun i B' l' zs => ∃ v1 v2, l' = ([(n_key, v1), (n_held, v2)] : Locs) ∧ zs.map (·.1) = (kvs.take i).map (·.1) ∧ RdAll prog w B' (zs.map (·.2)) ((kvs.take i).map (·.2))) ⟨_, _, rfl, rfl, .nil⟩ ?_ ?_
      · rintro X' D' C i v B₆ B₇ l₁ zs s q Qy Qn hend hi hv hs₆ ⟨v1, v2, rfl, hz1, hz2⟩ hs₇ H
        obtain ⟨dd, hdd, hvd⟩ := hrd.get hv
        rw [List.getElem?_map] at hdd
        obtain ⟨kv, hkv, rfl⟩ := Option.map_eq_some_iff.mp hdd
        obtain ⟨x8, o8, n8, y1, y2, rfl, h81, h82, h83, h84, h85⟩ := hvd.two
        refine a_two' R.handled H (hs₇ _ _ (hs₆ _ _ h81)) h82 h83 ?_; clear H; intro s H
        walk_at "mm"
        refine hend.y h84.key (Sub.refl _) ⟨_, _, rfl, ?_, ?_⟩ H
        · rw [stored_new (by rw [hz1]; exact nodup_take hnd hkv), take_snoc hkv, List.map_append, List.map_append, hz1]; rfl
        · rw [stored_new (by rw [hz1]; exact nodup_take hnd hkv), take_snoc hkv, List.map_append, List.map_append]
          exact (hz2.sub hs₇).append (.cons ((h85.sub hs₆).sub hs₇) .nil)
      · rintro B₆ B₇ D' zs l₁ s₁ hs₆ ⟨v1, v2, rfl, hz1, hz2⟩ hs₇ hD s H
        clear s₁
        rw [hlen, List.take_length] at hz1 hz2
        walk_at "mm"
        with_reducible refine e_tuple H (by simp; omega) ?_; clear H; intro x B₈ s hs₈ hx H
        walk_at "mm"
        exact hret H ⟨x, _, _, rfl, hx, Rd.table (hD.sub hs₈) hz1 ((hz2.sub hs₇).sub hs₈)⟩
  | @item _ _ p₁ p₂ p₃ d1 ds1 _ c hc hc1 hc2 hc3 hp1 hit hp3 hlt hL' =>
    with_reducible refine e_item H hc hz' ?_; clear H; intro t s H
    walk_at "mm"
    refine ite_t (by simp [hc1, hc2, hc3]) ?_
    walk_at "mmi"
    refine e_join (fun v s' => ∃ B₃ t', v = Value.int (p₁ : Nat) t' ∧ Sub B₂ B₃ ∧ St X B₃ [(D, LO ys)] ([(n_text, some (Value.str (S a) ta)), (n_place, some (Value.int (q : Nat) tq)), (n_first, some (Value.str (S [f]) tf)), (n_things, some (Value.ref D)), (n_thing, v3), (n_held, v4), (n_end, v5)] : Locs) s') ?_ ?_
    · intro Qj hQj
      with_reducible refine IfExp_ ?_
      walk_at "mm"
      with_reducible refine e_listF H (by simp) ?_; clear H; intro x B₃ s hs₃ hx H
      with_reducible refine' q_eqE H ?hp hx (Nat.lt_of_le_of_lt (Nat.le_add_right _ _) R.units) ?_; (case hp => walk_at "opop")
      walk_at "mm"
      rcases hp1 with ⟨h0, rfl⟩ | ⟨h0, h2, rfl⟩
      · rw [List.length_eq_zero_iff] at h0
        refine ite_t (by rw [h0]; rfl) ?_
        walk_at "mm"
        exact hQj ⟨_, _, rfl, hs₃, H⟩
      · refine ite_f (by cases ys with | nil => exact absurd rfl h0 | cons _ _ => rfl) ?_
        walk_at "mm"
        refine ⟨_, _, _, _, H, sp_past R hTX H.tp H.fzIn hz' (by simp; omega) h2, ?_⟩
        clear H; rintro v B₄ s hs₄ ⟨t₁, rfl⟩ H
        exact hQj ⟨_, _, rfl, hs₃.trans hs₄, H⟩
    · clear H; rintro v s ⟨B₃, t', rfl, hs₃, H⟩
      have hT0 : ∃ d0 q0, Th a m p₁ d0 q0 ∧ (f ≠ 123 ∧ d0 = d1 ∧ q0 = p₂ ∨ f = 123 ∧ ∃ v, (a.drop q0).take 2 = [58, 32] ∧ Th a m (q0 + 2) v p₂ ∧ d1 = .tuple [d0, v]) := by
        rcases hit with ⟨h1, h2⟩ | ⟨h1, k, v, q0, h2, h3, h4, h5⟩
        · exact ⟨_, _, h2, .inl ⟨h1, rfl, rfl⟩⟩
        · exact ⟨_, _, h2, .inr ⟨h1, v, h3, h4, h5⟩⟩
      obtain ⟨d0, q0, hT0, hit⟩ := hT0
      walk_at "mm"
      refine ⟨_, _, _, _, H, ih R hTX H.tp H.fzIn hT0, ?_⟩
      clear H; rintro v B₄ s hs₄ ⟨x, u₁, y, rfl, hx, hy⟩ H
      with_reducible refine a_two R.handled H hx ?_; clear H; intro s H
      walk_at "mm"
      refine ite_join (fun s' => ∃ B₅ y' t5 v4', Sub B₂ B₅ ∧ Rd prog w B₅ y' d1 ∧ St X B₅ [(D, LO ys)] ([(n_text, some (Value.str (S a) ta)), (n_place, some (Value.int (p₂ : Nat) t5)), (n_first, some (Value.str (S [f]) tf)), (n_things, some (Value.ref D)), (n_thing, some (y')), (n_held, v4'), (n_end, v5)] : Locs) s') ?_ ?_
      · intro Qj hQj
        rcases hit with ⟨h1, rfl, rfl⟩ | ⟨rfl, v, h2, h3, rfl⟩
        · refine ite_f (by rw [beq1]; simpa using h1) ?_
          walk_at "mm"
          exact hQj ⟨B₄, _, _, _, hs₃.trans hs₄, hy, H⟩
        · refine ite_t (by rw [beq1]; rfl) ?_
          walk_at "mm"
          refine ⟨_, _, _, _, H, sp_past R hTX H.tp H.fzIn hz' (by simp; omega) h2, ?_⟩
          clear H; rintro v B₅ s hs₅ ⟨t₁, rfl⟩ H
          walk_at "mm"
          refine ⟨_, _, _, _, H, ih R hTX H.tp H.fzIn h3, ?_⟩
          clear H; rintro v B₆ s hs₆ ⟨x6, u6, y6, rfl, hx6, hy6⟩ H
          with_reducible refine a_two R.handled H hx6 ?_; clear H; intro s H
          walk_at "mm"
          with_reducible refine e_tuple H (by simp; omega) ?_; clear H; intro x7 B₇ s hs₇ hx7 H
          walk_at "mm"
          exact hQj ⟨B₇, _, _, _, ((((hs₃.trans hs₄).trans hs₅).trans hs₆).trans hs₇), .tuple hx7 rfl rfl (.cons (hy.sub ((hs₅.trans hs₆).trans hs₇)) (.cons (hy6.sub hs₇) .nil)), H⟩
      · clear H hy; rintro s ⟨B₅, y', t5, v4', hs₅, hy, H⟩
        walk_at "mm"
        have hys : ys.length ≤ sizeLine := by omega
        with_reducible refine' e_append H ?hp hys ?_; (case hp => walk_at "oput"); clear H; intro s H
        walk_at "mm"
        replace hend : ∀ s t6, St X B₅ [(D, LO (ys ++ [y']))] ([(n_text, some (Value.str (S a) ta)), (n_place, some (Value.int (p₃ : Nat) t6)), (n_first, some (Value.str (S [f]) tf)), (n_things, some (Value.ref D)), (n_thing, some (y')), (n_held, v4'), (n_end, v5)] : Locs) s → Qe .next s := fun s t6 H => by
          have := hL'.lt
          exact hend (m := a.length - p₃) (by omega) hs₅ ⟨p₃, ys ++ [y'], es ++ [d1], ds1, _, _, _, _, _, rfl, rfl, by omega, by simp; omega, (hrd.sub hs₅).append (.cons hy .nil), by simp, by simpa using hL'⟩ H
        by_cases hf40 : f = 40
        · subst hf40
          refine ite_t (by rw [beq1]; rfl) ?_
          walk_at "mm"
          have hys1 : (ys ++ [y']).length ≤ sizeLine := by simp; omega
          with_reducible refine' e_lenO H ?hp hys1 ?_; (case hp => walk_at "opop"); clear H; intro t s H
          walk_at "mm"
          refine ite_b (fun e1 => ?_) (fun e1 => ?_)
          · have h0 : ys.length = 0 := by simp at e1; omega
            walk_at "mm"
            with_reducible refine cut_end p₂ (p₂ + 2) H hz' rfl (by omega) ?_; clear H; intro t s H
            rw [show p₂ + 2 - p₂ = 2 by omega]
            walk_at "mm"
            rcases hp3 with ⟨_, _, h2, rfl⟩ | ⟨hno, rfl⟩
            · refine ite_t (by rw [h2]; rfl) ?_
              walk_at "mm"
              exact hend _ _ H
            · refine ite_f (by rw [beq_eq_false_iff_ne]; exact fun e => hno ⟨rfl, h0, e⟩) ?_
              walk_at "mm"
              exact hend _ _ H
          · walk_at "mm"
            have h0 : ys.length ≠ 0 := fun e => by simp [e] at e1
            have hp : p₃ = p₂ := by rcases hp3 with ⟨_, h, _⟩ | ⟨_, h⟩; exact absurd h h0; exact h
            subst hp
            exact hend _ _ H
        · refine ite_f (by rw [beq1]; simpa using hf40) ?_
          walk_at "mm"
          have hp : p₃ = p₂ := by rcases hp3 with ⟨h, _⟩ | ⟨_, h⟩; exact absurd h hf40; exact h
          subst hp
          exact hend _ _ H
-- part L1e
open PySem PySem.Spec PySem.Calls PyProof.Rows PySem.W
set_option maxRecDepth 100000
set_option maxHeartbeats 4000000
theorem FrmG.pg1 {X : Fx} {T : Tp} {d : DefRec} {s₀ : Shared} {B₀ : FMap} {its : Owns} {cl : List (Str × Addr)} (F : FrmG X T s₀ B₀ its cl d) (h : T1 T) : Pg X V1 loose1 := ⟨F.pg.p.trans h.p, F.pg.loose.trans h.loose⟩
theorem sp_told {prog : Program} {w : World} : ∀ (m : Nat) {A : Around} (_ : Rm A (m + 1)) {T : Tp} (_ : T1 T) {s : Shared} {B : FMap} (_ : T.At s.heap) (_ : Fz B s.heap) {v : Value} {d : PyData} (_ : Rd prog w B v d) (_ : Dp m d),
    Sp prog w dTold A [v] B s (fun B' r => Rd prog w B' r (toldOf d)) := by
  intro m
  induction m using Nat.strongRecOn with
  | ind m ih =>
  intro A R T hT1 s B hT hB v d hv hd
  refine SpO.sp (enterG R (its := []) hT hB lent_nil [] [(n_thing, v)] [] [n_thing] (fun _ _ _ => rfl) (by decide +kernel) (by decide +kernel) (by simp only [List.map_cons, List.map_nil]; decide +kernel) (by decide +kernel) (by decide +kernel) rfl rfl rfl ?_)
  intro X A cl Q s F hcl H R hret _
  obtain ⟨c, rfl⟩ := one_cell hcl
  have G := F.pg1 hT1
  have hTX : T1 X.T := F.T ▸ hT1
  have hzz : sizeLine = 16777216 := by decide
  simp only [List.map_cons, List.map_nil, List.cons_append, List.nil_append, List.reverse_cons, List.reverse_nil, List.lookup_cons_self] at H
  have kC : X.env.kindOf n_thing = some .cell := kindOf_frmG F (by decide +kernel)
  have cC : X.env.cells.lookup n_thing = some c := by rw [F.cells, List.lookup_cons_self]
  obtain ⟨B₁, o, hs₁, bC, oC, H'⟩ := H.freeze (O₁ := []) rfl
  clear H; have H := H'; clear H'
  rw [List.append_nil] at H
  replace hv := hv.sub hs₁
  walk_at "nm"
  walk_at "mm"
  refine e_isi .dict H hv ?_; clear H; intro s H
  walk_at "mm"
  by_cases hD : ∃ D, d = .dict D
  · obtain ⟨D, rfl⟩ := hD
    obtain ⟨x, kvs, kds, rfl, hb, rfl, hk, hr⟩ := hv.dictInv
    obtain ⟨m', rfl⟩ : ∃ m', m = m' + 1 := by cases m with | zero => exact absurd hd (by simp [Dp]) | succ m' => exact ⟨m', rfl⟩
    unfold Dp at hd
    have hlen : kvs.length = kds.length := by have := congrArg List.length hk; simpa using this
    have hkn : kvs.length ≤ sizeLine := by have := hd.1; simp at this; omega
    refine ite_t (by rfl) ?_
    walk_at "mm"
    with_reducible refine e_listF H (by simp; omega) ?_; clear H; intro x₂ B₂ s hs₂ hx2 H
    replace bC := hs₂ _ _ bC
    with_reducible refine e_listcomp [n_key] ?_ (closureFor_of (cl := [(n_thing, c)]) (by rw [F.cells]; simp [clos])) (by decide +kernel) (by rfl) (by decide +kernel) (by decide +kernel) (by decide +kernel) (by intro _; with_unfolding_all rfl)
    walk_at "mm"
    refine lc_it (it_keys R.handled takes_name H (hb.sub hs₂)) hkn (fun i B' l' ys => ∃ v1, l' = ([(n_key, v1)] : Locs) ∧ RdAll prog w B' ys ((toldKvs (kds.map fun kv => (kv.1.dat, kv.2))).take i)) ⟨_, rfl, .nil⟩ ?_ ?_
    · rintro X' D C i v B₃ B₄ l₁ ys s q Qy Qn hend hi ⟨kv, hkv, hkk⟩ hs₃ ⟨v1, rfl, hys⟩ hs₄ H
      have kC := kindOf_cff C ‹St X B₂ [] [] _› (x := n_thing) (by decide +kernel) kC
      have cC : X'.env.cells.lookup n_thing = some c := by rw [C.cells, List.lookup_cons_self]
      replace hb := ((hb.sub hs₂).sub hs₃).sub hs₄
      replace bC := hs₄ _ _ (hs₃ _ _ bC)
      have hTX : T1 X'.T := C.T ▸ hTX
      replace G := C.pg G
      obtain ⟨dd, hdd, hvd⟩ := hr.get (i := i) (v := kv.2) (by rw [List.getElem?_map, hkv]; rfl)
      rw [List.getElem?_map] at hdd
      obtain ⟨kd, hkd, rfl⟩ := Option.map_eq_some_iff.mp hdd
      have hke : kv.1 = kd.1 := by
        have h1 : (kvs.map (·.1))[i]? = some kv.1 := by rw [List.getElem?_map, hkv]; rfl
        rw [hk, List.getElem?_map, hkd] at h1
        exact (Option.some.inj h1).symm
      have hrk : ∀ B, Rd prog w B v kd.1.dat := fun B => by
        rw [← hke]
        revert hkk
        generalize kv.1 = kk
        intro hkk
        cases kk with
        | i n => obtain ⟨t, rfl⟩ := Ky.is_i hkk; exact .int _ _
        | s x => obtain ⟨t, rfl⟩ := Ky.is_s hkk; exact .str _ _
      walk_at "mm"
      refine ⟨_, _, _, _, H, ih m' (Nat.lt_succ_self _) R hTX H.tp H.fzIn (hrk _) (Dp.key m' kd.1), ?_⟩
      clear H; rintro v₅ B₅ s hs₅ hv₅ H
      replace hb := hb.sub hs₅
      replace bC := hs₅ _ _ bC
      walk_at "mm"
      with_reducible refine e_ditem H hb hkk (valueAt_get hb.nodup hkv) ?_ (by with_unfolding_all rfl); clear H; intro s H
      walk_at "mm"
      refine ⟨_, _, _, _, H, ih m' (Nat.lt_succ_self _) R hTX H.tp H.fzIn (((((hvd.sub hs₂).sub hs₃).sub hs₄)).sub hs₅) (hd.2 (kd.1.dat, kd.2) (List.mem_map_of_mem (f := fun kv : Ky × PyData => (kv.1.dat, kv.2)) (List.mem_of_getElem? hkd))), ?_⟩
      clear H; rintro v₆ B₆ s hs₆ hv₆ H
      walk_at "mm"
      with_reducible refine e_listF H (by simp; omega) ?_; clear H; intro x₇ B₇ s hs₇ hx7 H
      refine hend.y (((hs₅.trans hs₆).trans hs₇)) ⟨_, rfl, ?_⟩ H
      rw [take_snoc (x := .list [toldOf kd.1.dat, toldOf kd.2]) (by rw [toldKvs_map, List.getElem?_map, List.getElem?_map, hkd]; rfl)]
      exact ((((hys.sub hs₄).sub hs₅).sub hs₆).sub hs₇).snoc (.list hx7 rfl rfl (.cons ((hv₅.sub hs₆).sub hs₇) (.cons (hv₆.sub hs₇) .nil)))
    · rintro B₃ B₄ D ys l₁ k s₁ hs₃ ⟨v1, rfl, hys⟩ hs₄ hx s H; clear s₁
      rw [List.take_of_length_le (by rw [toldKvs_map]; simp; omega)] at hys
      have hyl := hys.length
      rw [toldKvs_map] at hyl
      simp only [List.length_map] at hyl
      replace hx2 := hs₄ _ _ (hs₃ _ _ hx2)
      with_reducible refine e_addF H hx2 hx (by have h0 := hd.1; rw [List.length_map] at h0; simp only [List.length_cons, List.length_nil]; omega) ?_; clear H; intro x₅ B₅ s hs₅ hx5 H
      walk_at "mm"
      refine hret H ?_
      unfold toldOf
      exact .list hx5 rfl rfl (.cons (.str _ _) ((hys.sub hs₄).sub hs₅))
  refine ite_f (by cases d <;> first | rfl | exact absurd ⟨_, rfl⟩ hD) ?_
  walk_at "mm"
  refine e_isi .list H hv ?_; clear H; intro s H
  walk_at "mm"
  by_cases hL : ∃ ds il, d = (if il = true then PyData.list ds else PyData.tuple ds)
  · obtain ⟨ds, il, rfl⟩ := hL
    have hit : ∀ target, Takes target plainIters → ∀ B' s', Sub B₁ B' → St X B' [] [] s' → ∃ vs, RdAll prog w B' vs ds ∧ Iterates prog w A target X B' [] [] s' v vs.length fun _ i v => vs[i]? = some v := fun target ht B' s' hs H => by
      cases il with
      | true =>
        obtain ⟨x, o, vs, n, rfl, h1, h2, h3, h4⟩ := (hv.sub hs).listInv
        exact ⟨vs, h4, it_list R.handled ht H h1 h2 h3⟩
      | false =>
        obtain ⟨x, o, vs, n, rfl, h1, h2, h3, h4⟩ := (hv.sub hs).tupleInv
        exact ⟨vs, h4, it_tuple R.handled ht H h1 h2 h3⟩
    obtain ⟨m', rfl⟩ : ∃ m', m = m' + 1 := by cases m with | zero => cases il <;> exact absurd hd (by simp [Dp]) | succ m' => exact ⟨m', rfl⟩
    replace hd : ds.length ≤ 4194304 ∧ ∀ d ∈ ds, Dp m' d := by cases il <;> simpa [Dp] using hd
    have e1 : Ty.list.of (if il = true then PyData.list ds else PyData.tuple ds) = il := by cases il <;> rfl
    have e2 : Ty.tuple.of (if il = true then PyData.list ds else PyData.tuple ds) = !il := by cases il <;> rfl
    suffices key : ∀ s, St X B₁ [] [] s → wpAny (model prog w) A (execs bd X.env) (Then (model prog w) A (fun _ _ => False) rest X.env Q) (fun _ _ => False) s by
      by_cases hil : il = true
      · refine ite_t (by rw [e1, hil]) ?_
        walk_at "m"
        exact key s H
      · refine ite_f (by rw [e1]; simpa using hil) ?_
        walk_at "mm"
        refine e_isi .tuple H hv ?_; clear H; intro s H
        walk_at "mm"
        refine ite_t (by rw [e2]; simpa using hil) ?_
        walk_at "m"
        exact key s H
    clear H; intro s H
    walk_at "mm"
    refine e_isi .list H hv ?_; clear H; intro s H
    rw [e1]
    walk_at "mm"
    refine ite_ejoin (fun v s' => ∃ t, v = Value.str (S (if il = true then t_list else t_tuple)) t ∧ St X B₁ [] [] s') ?_ ?_
    · intro Qj hQj
      by_cases hil : il = true
      · refine ite_t hil ?_
        walk_at "mm"
        exact hQj ⟨_, by rw [if_pos hil]; rfl, H⟩
      · refine ite_f (by simpa using hil) ?_
        walk_at "mm"
        exact hQj ⟨_, by rw [if_neg hil]; rfl, H⟩
    clear H; rintro v₁ s ⟨t, rfl, H⟩
    walk_at "mm"
    with_reducible refine e_listF H (by simp; omega) ?_; clear H; intro x₂ B₂ s hs₂ hx2 H
    replace bC := hs₂ _ _ bC
    with_reducible refine e_listcomp [n_one] ?_ (closureFor_of (cl := []) (by simp [clos])) (by decide +kernel) (by rfl) (by decide +kernel) (by decide +kernel) (by decide +kernel) (by intro _; with_unfolding_all rfl)
    walk_at "mm"
    obtain ⟨vs, hr, hW⟩ := hit (.Name n_one _) takes_name B₂ _ hs₂ H
    have hlen := hr.length
    refine lc_it hW (by omega) (fun i B' l' ys => ∃ v1, l' = ([(n_one, v1)] : Locs) ∧ RdAll prog w B' ys ((ds.map toldOf).take i)) ⟨_, rfl, .nil⟩ ?_ ?_
    · rintro X' D C i v B₃ B₄ l₁ ys s q Qy Qn hend hi hv hs₃ ⟨v1, rfl, hys⟩ hs₄ H
      have hTX : T1 X'.T := C.T ▸ hTX
      replace G := C.pg G
      obtain ⟨dd, hdd, hvd⟩ := hr.get hv
      walk_at "mm"
      refine ⟨_, _, _, _, H, ih m' (Nat.lt_succ_self _) R hTX H.tp H.fzIn ((hvd.sub hs₃).sub hs₄) (hd.2 _ (List.mem_of_getElem? hdd)), ?_⟩
      clear H; rintro v₅ B₅ s hs₅ hv₅ H
      refine hend.y hs₅ ⟨_, rfl, ?_⟩ H
      rw [take_snoc (x := toldOf dd) (by rw [List.getElem?_map, hdd]; rfl)]
      exact ((hys.sub hs₄).sub hs₅).snoc hv₅
    · rintro B₃ B₄ D ys l₁ k s₁ hs₃ ⟨v1, rfl, hys⟩ hs₄ hx s H; clear s₁
      rw [List.take_of_length_le (by simp; omega)] at hys
      have hyl := hys.length
      simp only [List.length_map] at hyl
      replace hx2 := hs₄ _ _ (hs₃ _ _ hx2)
      with_reducible refine e_addF H hx2 hx (by simp only [List.length_cons, List.length_nil]; omega) ?_; clear H; intro x₅ B₅ s hs₅ hx5 H
      walk_at "mm"
      refine hret H ?_
      have e3 : toldOf (if il = true then PyData.list ds else PyData.tuple ds) = .list (.str (S (if il = true then t_list else t_tuple)) :: ds.map toldOf) := by
        cases il <;> simp [toldOf, toldAll_map]
      rw [e3]
      exact .list hx5 rfl rfl (.cons (.str _ _) ((hys.sub hs₄).sub hs₅))
  refine ite_f (by cases d <;> first | rfl | exact absurd ⟨_, true, rfl⟩ hL) ?_
  walk_at "mm"
  refine e_isi .tuple H hv ?_; clear H; intro s H
  walk_at "mm"
  refine ite_f (by cases d <;> first | rfl | exact absurd ⟨_, false, rfl⟩ hL) ?_
  walk_at "mm"
  refine e_isi .bool H hv ?_; clear H; intro s H
  walk_at "mm"
  with_reducible refine e_listF H (by simp; omega) ?_; clear H; intro x₂ B₂ s hs₂ hx2 H
  walk_at "mm"
  refine hret H ?_
  have e4 : toldOf d = .list [.bool (Ty.bool.of d), d] := by cases d <;> first | rfl | exact absurd ⟨_, rfl⟩ hD | exact absurd ⟨_, true, rfl⟩ hL | exact absurd ⟨_, false, rfl⟩ hL
  rw [e4]
  exact .list hx2 rfl rfl (.cons (.bool _) (.cons (hv.sub hs₂) .nil))
-- part L1f
open PySem PySem.Spec PySem.Calls PyProof.Rows PySem.W
set_option maxRecDepth 100000
set_option maxHeartbeats 4000000
theorem sp_read {prog : Program} {w : World} {a : List Nat} (hz : a.length ≤ 4194304) {m : Nat} {A : Around} (R : Rm A (m + 3)) {T : Tp} (hT1 : T1 T) {s : Shared} {B : FMap} (hT : T.At s.heap) (hB : Fz B s.heap) {d : PyData} {ta : Tok}
    (hth : Th a m 0 d a.length) (hd : Dp m d) : Sp prog w dRead A [.str (S a) ta] B s (fun B' r => Rd prog w B' r (toldOf d)) := by
  refine enter R hT hB (binds := [(n_text, .str (S a) ta)]) [n_thing, n_end] (fun _ _ _ => rfl) (by simp only [List.map_cons, List.map_nil]; decide +kernel) (by simp only [List.map_cons, List.map_nil]; decide +kernel) rfl rfl rfl (by decide +kernel) ?_
  intro X A Q s F H R hret
  have G := F.pg1 hT1
  have hTX : T1 X.T := F.T ▸ hT1
  have hz' : a.length ≤ sizeLine := Nat.le_trans hz (by decide)
  simp only [List.map_cons, List.map_nil, List.cons_append, List.nil_append] at H
  walk_at "nm"
  walk_at "mm"
  with_reducible refine x_tryN ?_; intro bd hbd
  walk_at "mm"
  refine ⟨_, _, _, _, H, sp_thing hz m R hTX H.tp H.fzIn (i := 0) hth, ?_⟩
  clear H; rintro v B₁ s hs₁ ⟨x, u₁, y, rfl, hx, hy⟩ H
  with_reducible refine a_two R.handled H hx ?_; clear H; intro s H
  walk_at "mm"
  refine e_len H hz' ?_; clear H; intro t s H
  walk_at "mm"
  refine ite_t (by simp) ?_
  walk_at "mm"
  refine ⟨_, _, _, _, H, sp_told m (R.le (by omega)) hTX H.tp H.fzIn hy hd, ?_⟩
  clear H; rintro v B₂ s hs₂ hv H
  exact hret H hv
-- part L1g
open PySem PySem.Spec PySem.Calls PyProof.Rows PySem.W
set_option maxRecDepth 100000
set_option maxHeartbeats 4000000
theorem sp_close {prog : Program} {w : World} {A : Around} {k : Nat} (R : Rm A (k + 1)) {T : Tp} (hT1 : T1 T) {s : Shared} {B : FMap} {R0 K q p : Addr} {rs ks vs ps : List Value} {kd : Int} {tk : Tok} {ds : List PyData}
    (hT : T.At (hideAll s.heap ([R0, K, q, p]))) (hB : Fz B s.heap) (hL : Lent B [(R0, LO ((rs ++ [.ref p]) ++ [.ref q])), (K, LO (ks ++ [.int kd tk])), (q, LO vs), (p, LO ps)] s)
    (hv : RdAll prog w B vs ds) (h1 : rs.length ≤ 1000000) (h2 : ks.length ≤ 1000000) (h3 : vs.length ≤ 1000000) (h4 : ps.length ≤ 1000000) :
    SpO prog w dClose A [.ref R0, .ref K] B [(R0, LO ((rs ++ [.ref p]) ++ [.ref q])), (K, LO (ks ++ [.int kd tk])), (q, LO vs), (p, LO ps)] s
      (fun B' O' _ => ∃ cl y, O' = cl ++ [(R0, LO (rs ++ [.ref p])), (K, LO ks), (p, LO (ps ++ [y]))] ∧ Rd prog w B' y (closeOf kd ds)) := by
  refine enterG R hT hB hL [(n_rows, .ref R0), (n_kinds, .ref K)] [] [n_kind, n_keys] [n_things] (fun _ _ _ => rfl) (by simp only [List.map_cons, List.map_nil]; decide +kernel) (by simp only [List.map_cons, List.map_nil]; decide +kernel) (by decide +kernel) (by decide +kernel) (by decide +kernel) rfl rfl rfl ?_
  intro X A cl Q s F hcl H R hret hnext
  obtain ⟨c, rfl⟩ := one_cell hcl
  have G := F.pg1 hT1
  have hTX : T1 X.T := F.T ▸ hT1
  have hzz : sizeLine = 16777216 := by decide
  simp only [List.map_cons, List.map_nil, List.cons_append, List.nil_append, List.reverse_nil, List.lookup_nil] at H
  have kC : X.env.kindOf n_things = some .cell := kindOf_frmG F (by decide +kernel)
  have cC : X.env.cells.lookup n_things = some c := by rw [F.cells, List.lookup_cons_self]
  walk_at "nm"
  walk_at "mm"
  with_reducible refine' e_popB H ?hp ?hz ?_; (case hp => walk_at "oput"); (case hz => (simp; omega)); clear H; intro s H
  walk_at "mm"
  with_reducible refine' e_popB H ?hp ?hz ?_; (case hp => walk_at "oput"); (case hz => omega); clear H; intro s H
  have hfr : ∃ B₁ o, Sub B B₁ ∧ B₁ q = some o ∧ LO vs o ∧ St X B₁ [(c, CellIs (some (.ref q))), (R0, LO (rs ++ [.ref p])), (K, LO ks), (p, LO ps)] ([(n_rows, some (.ref R0)), (n_kinds, some (.ref K)), (n_kind, none), (n_keys, none)] : Locs) s := H.freezeP (by walk_at "opop")
  clear H; obtain ⟨B₁, o, hs₁, hq, ⟨nq, rfl⟩, H⟩ := hfr
  replace hv := hv.sub hs₁
  have hvl := hv.length
  walk_at "mm"
  refine ite_join (fun s' => ∃ B₂ y, Sub B₁ B₂ ∧ (kd ≠ 9 → y = .ref q) ∧ (kd = 9 → Rd prog w B₂ y (.tuple ds)) ∧ St X B₂ [(c, CellIs (some y)), (R0, LO (rs ++ [.ref p])), (K, LO ks), (p, LO ps)] ([(n_rows, some (.ref R0)), (n_kinds, some (.ref K)), (n_kind, some (.int kd tk)), (n_keys, none)] : Locs) s') ?_ ?_
  · intro Qj hQj
    by_cases h9 : kd = 9
    · refine ite_t (by simpa using h9) ?_
      walk_at "mm"
      refine e_tupleL H (IsLF H hq rfl rfl) (by omega) ?_; clear H; intro x B₂ s hs₂ hx H
      walk_at "mm"
      exact hQj ⟨B₂, _, hs₂, fun h => absurd h9 h, fun _ => .tuple hx rfl rfl (hv.sub hs₂), H⟩
    · refine ite_f (by simpa using h9) ?_
      walk_at "mm"
      exact hQj ⟨B₁, _, Sub.refl _, fun _ => rfl, fun h => absurd h h9, H⟩
  clear H; rintro s ⟨B₂, y, hs₂, hy9, hy9', H⟩
  walk_at "mm"
  refine ite_join (fun s' => ∃ B₃ y v5, Rd prog w B₃ y (closeOf kd ds) ∧ St X B₃ [(c, CellIs (some y)), (R0, LO (rs ++ [.ref p])), (K, LO ks), (p, LO ps)] ([(n_rows, some (.ref R0)), (n_kinds, some (.ref K)), (n_kind, some (.int kd tk)), (n_keys, v5)] : Locs) s') ?_ ?_
  · intro Qj hQj
    by_cases h10 : kd = 10
    · refine ite_t (by simpa using h10) ?_
      obtain rfl := hy9 (by omega)
      replace hq := hs₂ _ _ hq
      replace hv := hv.sub hs₂
      walk_at "mm"
      with_reducible refine x_listcomp [n_k] ?_ (swaps_local H.fn (kindOf_frmG F (by decide +kernel)) (by decide +kernel)) (closureFor_of (cl := [(n_things, c)]) (by rw [F.cells]; simp [clos])) (by decide +kernel) (by rfl) (by decide +kernel) (by decide +kernel) (by decide +kernel) (by intro _; with_unfolding_all rfl)
      walk_at "mm"
      refine e_lenL H (IsLF H hq rfl rfl) (by omega) ?_; clear H; intro t s H
      walk_at "mm"
      refine e_range3 H (by decide) (PyProof.noPylong_of_log2 (by decide +kernel)) ?_; clear H; intro r B₃ s hs₃ hr H
      replace hq := hs₃ _ _ hq
      replace hv := hv.sub hs₃
      obtain ⟨hrs, hrn⟩ := range_small (n := vs.length) (c := 2) (by omega) (.inr rfl)
      refine lc_it (it_range R.handled takes_name H hr hrs hrn) (by omega) (fun i B' l' ys => ∃ v1, l' = ([(n_k, v1)] : Locs) ∧ RdAll prog w B' ys ((keysOf ds).take i |>.map Ky.dat)) ⟨_, rfl, .nil⟩ ?_ ?_
      · rintro X' D C i v B₄ B₅ l₁ ys s qi Qy Qn hend hi ⟨ti, rfl⟩ hs₄ ⟨v1, rfl, hys⟩ hs₅ H
        have kC := kindOf_cff C ‹St X B₃ _ _ _› (x := n_things) (by decide +kernel) kC
        have cC : X'.env.cells.lookup n_things = some c := by rw [C.cells, List.lookup_cons_self]
        obtain ⟨oc, eC, oC⟩ := C.own (c, CellIs (some (.ref q))) (.head _)
        have hTX : T1 X'.T := C.T ▸ hTX
        replace G := C.pg G
        replace hq := hs₅ _ _ (hs₄ _ _ hq)
        replace hv := (hv.sub hs₄).sub hs₅
        have hi2 : 2 * i < vs.length := by omega
        obtain ⟨dd, hdd, hvd⟩ := hv.get (i := 2 * i) (v := vs[2 * i]) (by simp [hi2])
        have hki : (keysOf ds)[i]? = some (keyAt ds (2 * i)) := by
          unfold keysOf
          rw [List.getElem?_map, List.getElem?_range (by omega)]; rfl
        walk_at "mm"
        refine e_lat (2 * i) (IsLF H hq rfl rfl) (v := vs[2 * i]) (by simp [hi2]) (by omega) ?_ (by omega)
        walk_at "mm"
        refine e_isi .str H hvd ?_; clear H; intro s H
        walk_at "mm"
        by_cases hst : Ty.str.of dd = true
        · refine ite_t hst ?_
          obtain ⟨x, rfl⟩ := str_of hst
          walk_at "mm"
          refine e_lat (2 * i) (IsLF H hq rfl rfl) (v := vs[2 * i]) (by simp [hi2]) (by omega) ?_ (by omega)
          refine hend.y (Sub.refl _) ⟨_, rfl, ?_⟩ H
          rw [take_snoc hki, List.map_append, key_str hdd]
          exact (hys.sub hs₅).snoc hvd
        · refine ite_f (by simpa using hst) ?_
          walk_at "mm"
          refine hend.y (Sub.refl _) ⟨_, rfl, ?_⟩ H
          rw [take_snoc hki, List.map_append, key_other hdd (by simpa using hst)]
          refine (hys.sub hs₅).snoc ?_
          have e2 : ((0 : Int) + (i : Int) * 2) = ((2 * i : Nat) : Int) := by omega
          rw [e2]
          exact .int _ _
      · rintro B₄ B₅ D ys l₁ kk s₁ hs₄ ⟨v1, rfl, hys⟩ hs₅ hD; clear s₁
        refine ⟨_, _, StoreTo.loc (by walk_at "put"), ?_⟩
        intro s H
        rw [List.take_of_length_le (by rw [keys_length]; omega)] at hys
        replace hq := hs₅ _ _ (hs₄ _ _ hq)
        replace hv := (hv.sub hs₄).sub hs₅
        replace hys := hys.sub hs₅
        walk_at "mm"
        refine x_assign ?_ (swaps_cell kC)
        with_reducible refine e_dictcomp (mixKind prog w) [n_key, n_held] ?_ (closureFor_none (by decide +kernel)) (by decide +kernel) (by rfl) (by decide +kernel) (by decide +kernel) (by decide +kernel) (by intro _; with_unfolding_all rfl)
        walk_at "mm"
        refine cutStep_end (k := 2) H (IsLF H hq rfl rfl) (by omega) (by decide) ?_; clear H; intro x₆ B₆ s hs₆ hx6 H
        rw [pick_odds] at hx6
        walk_at "mm"
        with_reducible refine e_listF H (by simp; omega) ?_; clear H; intro x₇ B₇ s hs₇ hx7 H
        replace hx6 := hs₇ _ _ hx6
        with_reducible refine e_addF H hx6 hx7 (by rw [odds_length]; simp only [List.length_cons, List.length_nil]; omega) ?_; clear H; intro x₈ B₈ s hs₈ hx8 H
        walk_at "mm"
        replace hD := hs₈ _ _ (hs₇ _ _ (hs₆ _ _ hD))
        have hov : RdAll prog w B₈ (oddsOf vs ++ [Value.none]) (oddsOf ds ++ [PyData.none]) := (((hv.sub hs₆).sub hs₇).sub hs₈).odds.snoc .none
        replace hys := ((hys.sub hs₆).sub hs₇).sub hs₈
        have hyl : ys.length = (ds.length + 1) / 2 := by have := hys.length; rw [List.length_map, keys_length] at this; exact this
        with_reducible refine e_zip H hD rfl rfl hx8 rfl rfl ?_; clear H; intro z TI TO i1 i2 s H
        refine dc_it (it_zip R.handled H hD rfl rfl hx8 rfl rfl) (by omega) (fun i B' l' zs => ∃ v1 v2, l' = ([(n_key, v1), (n_held, v2)] : Locs) ∧
          zs.map (·.1) = (foldD (((keysOf ds).zip (oddsOf ds ++ [PyData.none])).take i)).map (·.1) ∧ RdAll prog w B' (zs.map (·.2)) ((foldD (((keysOf ds).zip (oddsOf ds ++ [PyData.none])).take i)).map (·.2))) ⟨_, _, rfl, rfl, .nil⟩ ?_ ?_
        · rintro X' D' C i v B₉ B₁₀ l₁ zs s qi Qy Qn hend hi ⟨a9, x9, y9, rfl, ha9, hx9, hy9⟩ hs₉ ⟨v1, v2, rfl, hz1, hz2⟩ hs₁₀ H
          obtain ⟨dk, hdk, hrk⟩ := hys.get hx9
          rw [List.getElem?_map] at hdk
          obtain ⟨ky, hky, rfl⟩ := Option.map_eq_some_iff.mp hdk
          obtain ⟨dv, hdv, hrv⟩ := hov.get hy9
          refine a_two' R.handled H ha9 rfl rfl ?_; clear H; intro s H
          walk_at "mm"
          obtain ⟨g1, g2⟩ := stored_rel (k := ky) hz1 (hz2.sub hs₁₀) ((hrv.sub hs₉).sub hs₁₀)
          refine hend.y hrk.key (Sub.refl _) ⟨_, _, rfl, ?_, ?_⟩ H
          · rw [zip_take_snoc hky hdv, foldD_snoc]; exact g1
          · rw [zip_take_snoc hky hdv, foldD_snoc]; exact g2
        · rintro B₉ B₁₀ D' zs l₁ s₁ hs₉ ⟨v1, v2, rfl, hz1, hz2⟩ hs₁₀ hDD s H; clear s₁
          have htake : ((keysOf ds).zip (oddsOf ds ++ [PyData.none])).take (min ys.length (oddsOf vs ++ [Value.none]).length) = (keysOf ds).zip (oddsOf ds ++ [PyData.none]) := by
            refine List.take_of_length_le ?_
            rw [List.length_zip, List.length_append, List.length_append, odds_length, odds_length, keys_length, hyl, hvl]
            exact Nat.le_refl _
          rw [htake] at hz1 hz2
          walk_at "mm"
          refine hQj ⟨B₁₀, _, _, ?_, H⟩
          unfold closeOf
          rw [if_neg (by omega), if_pos h10]
          exact Rd.table hDD hz1 (hz2.sub hs₁₀)
    · refine ite_f (by simpa using h10) ?_
      walk_at "mm"
      refine hQj ⟨B₂, y, _, ?_, H⟩
      unfold closeOf
      by_cases h9 : kd = 9
      · rw [if_pos h9]; exact hy9' h9
      · rw [if_neg h9, if_neg h10, hy9 h9]; exact .list (hs₂ _ _ hq) rfl rfl (hv.sub hs₂)
  clear H; rintro s ⟨B₃, y, v5, hy, H⟩
  walk_at "mm"
  have hlR := LO.isList (H.ownAt (a := R0) (P := LO (rs ++ [.ref p])) (by walk_at "opop"))
  refine e_llast hlR ?_
  walk_at "mm"
  with_reducible refine' e_append H ?hp ?hz ?_; (case hp => walk_at "oput"); (case hz => omega); clear H; intro s H
  walk_at "mm"
  exact hnext H ⟨[(c, CellIs (some y))], y, rfl, hy⟩
-- part L1h
open PySem PySem.Spec PySem.Calls PyProof.Rows PySem.W
set_option maxRecDepth 100000
set_option maxHeartbeats 4000000
section
set_option hygiene false in
local macro_rules | `(tactic| walk_at "mi") => `(tactic| (with_reducible refine c_strT H ?_; clear H; intro t s H))
theorem five_ints {xs : List Value} {a b c d e : Int} {t1 t2 t3 t4 t5 : Tok} (h : ∀ v ∈ xs, ∃ i t, v = Value.int i t) : ∀ v ∈ [Value.int a t1, .int b t2, .int c t3, .int d t4, .int e t5] ++ xs, ∃ i t, v = Value.int i t := fun v hv => by
  rcases List.mem_append.mp hv with hv | hv
  · simp only [List.mem_cons, List.not_mem_nil, or_false] at hv
    rcases hv with rfl | rfl | rfl | rfl | rfl <;> exact ⟨_, _, rfl⟩
  · exact h v hv
theorem five_signs (kd : Int) (h5 : kd < 5) (h0 : 0 ≤ kd) {a b c d e : Nat} {t1 t2 t3 t4 t5 : Nat} (ha : a < 1114112) (hb : b < 1114112) (hc : c < 1114112) (hd : d < 1114112) (he : e < 1114112) :
    ∃ (c9 : Nat) (t9 : Nat), [Value.str (S [a]) (t1 + 1), .str (S [b]) (t2 + 1), .str (S [c]) (t3 + 1), .str (S [d]) (t4 + 1), .str (S [e]) (t5 + 1)][kd.toNat]? = some (.str (S [c9]) (t9 + 1)) ∧ c9 < 1114112 := by
  rcases (by omega : kd = 0 ∨ kd = 1 ∨ kd = 2 ∨ kd = 3 ∨ kd = 4) with rfl | rfl | rfl | rfl | rfl <;> exact ⟨_, _, rfl, by assumption⟩
/-- a call of _law_close as _law_things makes it -/
theorem close_call {prog : Program} {w : World} {A : Around} {k : Nat} (R : Rm A (k + 1)) {X : Fx} (hTX : T1 X.T) {B : FMap} {qi : Owns} {l : Locs} {s : Shared} {R0 K top : Addr} {tvs ks : List Value} {st : List (Addr × List Value)} {e n : Nat}
    (H : St X B (qi ++ ((K, LO ks) :: (R0, LO (stackRefs st ++ [.ref top])) :: (top, LO tvs) :: stackOwns st)) l s) (hks : ∀ v ∈ ks, ∃ i t, v = Value.int i t) (hkl : ks.length = st.length) (hne : ks ≠ [])
    (hstk : Stk prog w B e ((top, tvs) :: st) n) (hn : n < 1000000) (hkz : ks.length ≤ 1000000) {Qv : Value → Shared → Prop}
    (h : ∀ v s' B' p ps st' ks' n', Sub B B' → St X B' (qi ++ ((K, LO ks') :: (R0, LO (stackRefs st' ++ [.ref p])) :: (p, LO ps) :: stackOwns st')) l s' → (∀ v ∈ ks', ∃ i t, v = Value.int i t) → ks'.length = st'.length → ks'.length + 1 = ks.length →
      Stk prog w B' (e + 1) ((p, ps) :: st') n' → n' ≤ n + 1 → Qv v s') :
    ∃ B₁ its O₁ l₁ P, St X B₁ (its ++ O₁) l₁ s ∧ SpO prog w dClose A [.ref R0, .ref K] B₁ its s P ∧ ∀ v B₂ O₂ s₂, Sub B₁ B₂ → P B₂ O₂ v → St X B₂ (O₂ ++ O₁) l₁ s₂ → Qv v s₂ := by
  obtain ⟨ks', kv, rfl⟩ : ∃ ks' kv, ks = ks' ++ [kv] := ⟨ks.dropLast, ks.getLast hne, (List.dropLast_concat_getLast hne).symm⟩
  obtain ⟨kd, tk, rfl⟩ := hks kv (by simp)
  cases st with
  | nil => simp at hkl
  | cons pp st' =>
    obtain ⟨p, ps⟩ := pp
    rw [stackRefs_cons] at H
    have hlen := hstk.len
    have hl1 := hlen.1
    have hl2 : tvs.length ≤ n := hlen.2 (top, tvs) (.head _)
    have hl3 : ps.length ≤ n := hlen.2 (p, ps) (.tail _ (.head _))
    simp only [List.length_cons, List.length_append, List.length_nil] at hl1 hkl hkz
    obtain ⟨ds, hrd, hcl⟩ := hstk.close hn
    have H' := H.perm perm_lend
    refine ⟨B, _, _, l, _, H', sp_close R hTX H'.tpO H'.fzIn H'.lent hrd (by rw [stackRefs_len]; omega) (by omega) (Nat.le_trans hl2 (by omega)) (Nat.le_trans hl3 (by omega)), ?_⟩
    rintro v B₂ O₂ s₂ hs₂ ⟨cl, y, rfl, hy⟩ H₂
    obtain ⟨n', hstk', hn'⟩ := hcl B₂ kd y hs₂ hy
    exact h v s₂ B₂ p _ st' ks' n' hs₂ (H₂.perm perm_back).dropL (fun v hv => hks v (List.mem_append_left _ hv)) (by omega) (by simp) hstk' hn'
theorem sp_things {prog : Program} {w : World} {A : Around} {k : Nat} (R : Rm A (k + 2)) {T : Tp} (hT1 : T1 T) {s : Shared} {B : FMap} (hT : T.At s.heap) (hB : Fz B s.heap) {S0 : Addr} {sn : Nat} {xs : List Value}
    (hS : B S0 = some { cls := .type "list", data := .seq xs.toArray sn }) (hints : ∀ v ∈ xs, ∃ i t, v = Value.int i t) (hxl : xs.length ≤ 40) :
    Sp prog w dThings A [.ref S0] B s (fun B' v => ∃ D o vs n ds, v = .ref D ∧ B' D = some o ∧ o.cls = .type "list" ∧ o.data = .seq vs n ∧ RdAll prog w B' vs.toList ds ∧ (∀ v ∈ vs.toList, Nz v) ∧ (∀ d ∈ ds, Gd 100 d) ∧ wtAll ds ≤ 300) := by
  refine enter R hT hB (binds := [(n_script, .ref S0)]) [n_rows, n_kinds, n_grows, n_x, n_turn, n_kind, n_code, n_any_sign] (fun _ _ _ => rfl) (by simp only [List.map_cons, List.map_nil]; decide +kernel) (by simp only [List.map_cons, List.map_nil]; decide +kernel) rfl rfl rfl (by decide +kernel) ?_
  intro X A Q s F H R hret
  have G := F.pg1 hT1
  have hTX : T1 X.T := F.T ▸ hT1
  have hzz : sizeLine = 16777216 := by decide
  simp only [List.map_cons, List.map_nil, List.cons_append, List.nil_append] at H
  walk_at "nm"
  walk_at "mm"
  with_reducible refine e_listO H (by simp) ?_; clear H; intro D0 s H
  walk_at "mm"
  with_reducible refine e_listO H (by simp; omega) ?_; clear H; intro R0 s H
  walk_at "mm"
  with_reducible refine e_listO H (by simp) ?_; clear H; intro K s H
  walk_at "mm"
  with_reducible refine x_for ?_ (by intro _; with_unfolding_all rfl); intro bd hbd
  walk_at "mm"
  with_reducible refine e_listF H (by simp; omega) ?_; clear H; intro x₁ B₁ s hs₁ hx1 H
  walk_at "mm"
  replace hS := hs₁ _ _ hS
  with_reducible refine e_addF H hx1 hS (by simp; omega) ?_; clear H; intro x₂ B₂ s hs₂ hx2 H
  obtain ⟨ws, hall, hwl, hx2⟩ : ∃ ws : List Value, (∀ v ∈ ws, ∃ i t, v = Value.int i t) ∧ ws.length ≤ 45 ∧ B₂ x₂ = some { cls := .type "list", data := .seq ws.toArray } := ⟨_, five_ints hints, by simp; omega, hx2⟩
  refine for_it (it_list R.handled takes_name H hx2 rfl rfl) (fun i B' O' l' => ∃ top tvs st ks gv vx vt vk vc va, O' = (K, LO ks) :: (R0, LO (stackRefs st ++ [.ref top])) :: (top, LO tvs) :: stackOwns st ∧
    l' = ([(n_script, some (.ref S0)), (n_rows, some (.ref R0)), (n_kinds, some (.ref K)), (n_grows, some (.bool gv)), (n_x, vx), (n_turn, vt), (n_kind, vk), (n_code, vc), (n_any_sign, va)] : Locs) ∧ (∀ v ∈ ks, ∃ i t, v = Value.int i t) ∧ ks.length = st.length ∧ ks.length ≤ i ∧
    (∃ n, Stk prog w B' i ((top, tvs) :: st) n ∧ n ≤ 1 + 2 * i) ∧ (gv = true → ∃ (vs' : List Value) (x : List Nat) (t : Nat), tvs = vs' ++ [.str (S x) (t + 1)])) ?_ ?_ ?_
  · exact ⟨D0, [], [], [], false, _, _, _, _, _, rfl, rfl, by simp, rfl, Nat.le_refl _, ⟨1, .cons .nil (by simp) (by simp) .nil, by omega⟩, by simp⟩
  · rintro i v B₃ B₄ O₄ l₄ s qi Qe hend hi hv hs₃ ⟨top, tvs, st, ks, gv, vx, vt, vk, vc, va, rfl, rfl, hks, hkl, hki, ⟨n, hstk, hn⟩, hgv⟩ hs₄ H
    obtain ⟨xi, xt, rfl⟩ := hall v (List.mem_of_getElem? hv)
    have hi45 : i < 45 := by omega
    replace hstk := hstk.sub hs₄ (Nat.le_refl i)
    walk_at "mm"
    refine e_divmod H (by decide) (PyProof.noPylong_of_log2 (by decide +kernel)) ?_; clear H; intro x₅ B₅ s t1 t2 hs₅ hx5 H
    with_reducible refine a_two R.handled H hx5 ?_; clear H; intro s H
    replace hstk := hstk.sub hs₅ (Nat.le_refl i)
    have hk0 : 0 ≤ xi % 12 := by omega
    have hk12 : xi % 12 < 12 := by omega
    generalize xi % 12 = kd at hk0 hk12 H ⊢
    generalize xi / 12 = tn at H ⊢
    walk_at "mm"
    suffices after : ∀ s' tvs B₆ n, St X B₆ (qi ++ ((K, LO ks) :: (R0, LO (stackRefs st ++ [.ref top])) :: (top, LO tvs) :: stackOwns st)) ([(n_script, some (.ref S0)), (n_rows, some (.ref R0)), (n_kinds, some (.ref K)), (n_grows, some (.bool gv)), (n_x, some (.int xi xt)), (n_turn, some (.int tn t1)), (n_kind, some (.int kd t2)), (n_code, vc), (n_any_sign, va)] : Locs) s' →
        Sub B₅ B₆ → Stk prog w B₆ i ((top, tvs) :: st) n → n ≤ 2 + 2 * i → (kd < 6 → ∃ (vs' : List Value) (x : List Nat) (t : Nat), tvs = vs' ++ [.str (S x) (t + 1)]) → wpAny (model prog w) A (execs rest X.env) Qe (fun _ _ => False) s' by
      suffices app : ∀ s', St X B₅ (qi ++ ((K, LO ks) :: (R0, LO (stackRefs st ++ [.ref top])) :: (top, LO tvs) :: stackOwns st)) ([(n_script, some (.ref S0)), (n_rows, some (.ref R0)), (n_kinds, some (.ref K)), (n_grows, some (.bool gv)), (n_x, some (.int xi xt)), (n_turn, some (.int tn t1)), (n_kind, some (.int kd t2)), (n_code, vc), (n_any_sign, va)] : Locs) s' →
          wpAny (model prog w) A (execs bd X.env) (Then (model prog w) A (fun _ _ => False) rest X.env Qe) (fun _ _ => False) s' by
        refine ite_b (fun e1 => ?_) (fun e1 => ?_)
        · walk_at "m"
          exact app _ H
        · walk_at "mm"
          refine ite_b (fun e2 => ?_) (fun e2 => ?_)
          · walk_at "mm"
            refine ite_b (fun e3 => ?_) (fun e3 => ?_)
            · walk_at "mm"
              exact app _ H
            · walk_at "mm"
              exact after _ tvs B₅ n H (Sub.refl _) hstk (by omega) fun _ => hgv (by simpa using e3)
          · walk_at "mm"
            exact after _ tvs B₅ n H (Sub.refl _) hstk (by omega) fun h => by simp at e1 e2; omega
      clear H; intro s H
      walk_at "mm"
      refine e_llast (LO.isList (H.ownAt (a := R0) (P := LO (stackRefs st ++ [.ref top])) (by walk_at "opop"))) ?_
      walk_at "mm"
      have htl := hstk.len.2 (top, tvs) (.head _)
      with_reducible refine' e_append H ?hp ?hz ?_; (case hp => walk_at "oput"); (case hz => (have h0 : tvs.length ≤ n := htl; omega)); clear H; intro s H
      walk_at "mm"
      have hstk' := hstk.app (.str (S []) (t + 1)) (by cases i <;> simp [Gd, S]) (Nat.succ_ne_zero t)
      exact after _ _ B₅ _ H (Sub.refl _) hstk' (by simp [wt, S]; omega) fun _ => ⟨tvs, [], t, rfl⟩
    clear H hstk hn hgv; intro s tvs B₆ n H hs₆ hstk hn hlast
    walk_at "mm"
    suffices fin : ∀ s' top tvs st ks B₇ n vc va, St X B₇ (qi ++ ((K, LO ks) :: (R0, LO (stackRefs st ++ [.ref top])) :: (top, LO tvs) :: stackOwns st)) ([(n_script, some (.ref S0)), (n_rows, some (.ref R0)), (n_kinds, some (.ref K)), (n_grows, some (.bool gv)), (n_x, some (.int xi xt)), (n_turn, some (.int tn t1)), (n_kind, some (.int kd t2)), (n_code, vc), (n_any_sign, va)] : Locs) s' →
        Sub B₆ B₇ → (∀ v ∈ ks, ∃ i t, v = Value.int i t) → ks.length = st.length → ks.length ≤ i + 1 → Stk prog w B₇ (i + 1) ((top, tvs) :: st) n → n ≤ 3 + 2 * i → (kd < 6 → ∃ (vs' : List Value) (x : List Nat) (t : Nat), tvs = vs' ++ [.str (S x) (t + 1)]) → wpAny (model prog w) A (execs rest X.env) Qe (fun _ _ => False) s' by
      refine ite_b (fun e1 => ?_) (fun e1 => ?_)
      · replace e1 : kd < 5 := by simpa using e1
        obtain ⟨vs', x, ty, rfl⟩ := hlast (by omega)
        walk_at "mm"
        refine b_mod H (by decide) ?_; clear H; intro t s H
        have hc0 : 0 ≤ (tn + 97) % 1112064 := by omega
        have hc1 : (tn + 97) % 1112064 < 1112064 := by omega
        generalize (tn + 97) % 1112064 = cc at hc0 hc1 H ⊢
        walk_at "mm"
        refine ite_ejoin (fun v s' => ∃ nn t' tc, v = Value.int ((nn : Nat) : Int) t' ∧ nn < 1114112 ∧ St X B₆ (qi ++ ((K, LO ks) :: (R0, LO (stackRefs st ++ [.ref top])) :: (top, LO (vs' ++ [.str (S x) (ty + 1)])) :: stackOwns st)) ([(n_script, some (.ref S0)), (n_rows, some (.ref R0)), (n_kinds, some (.ref K)), (n_grows, some (.bool gv)), (n_x, some (.int xi xt)), (n_turn, some (.int tn t1)), (n_kind, some (.int kd t2)), (n_code, some (.int cc tc)), (n_any_sign, va)] : Locs) s') ?_ ?_
        · intro Qj hQj
          refine ite_b (fun e2 => ?_) (fun e2 => ?_)
          · walk_at "mm"
            exact hQj ⟨cc.toNat, _, _, by rw [Int.toNat_of_nonneg hc0], by omega, H⟩
          · walk_at "mm"
            exact hQj ⟨(cc + 2048).toNat, _, _, by rw [Int.toNat_of_nonneg (by omega)], by omega, H⟩
        clear H; rintro v₈ s ⟨nn, t', tc, rfl, hnn, H⟩
        walk_at "mm"
        refine e_chrT H rfl (by omega) ?_; clear H; intro t s H
        walk_at "mm"
        refine e_llast (LO.isList (H.ownAt (a := R0) (P := LO (stackRefs st ++ [.ref top])) (by walk_at "opop"))) ?_
        walk_at "mm"
        refine g_llast (LO.isList (H.ownAt (a := top) (P := LO (vs' ++ [.str (S x) (ty + 1)])) (by walk_at "opop"))) ?_
        walk_at "mm"
        refine b_mod H (by decide) ?_; clear H; intro t s H
        have hm0 : 0 ≤ tn % 8 := by omega
        have hm1 : tn % 8 < 8 := by omega
        generalize tn % 8 = mm at hm0 hm1 ⊢
        obtain ⟨c8, hc8, hc8'⟩ : ∃ c, [10, 13, 9, 233, 32, 48, 127, 173][mm.toNat]? = some c ∧ c < 1114112 := by
          rcases (by omega : mm = 0 ∨ mm = 1 ∨ mm = 2 ∨ mm = 3 ∨ mm = 4 ∨ mm = 5 ∨ mm = 6 ∨ mm = 7) with rfl | rfl | rfl | rfl | rfl | rfl | rfl | rfl <;> exact ⟨_, rfl, by decide⟩
        with_reducible refine e_itemT H hc8 (by decide) ?_ (by omega); clear H; intro t s H
        walk_at "mm"
        with_reducible refine e_listF H (by simp; omega) ?_; clear H; intro x₇ B₇ s hs₇ hx7 H
        walk_at "mm"
        obtain ⟨c9, t9, hv9, hc9⟩ := five_signs kd e1 hk0 (by decide : (39 : Nat) < 1114112) (by decide : (34 : Nat) < 1114112) (by decide : (92 : Nat) < 1114112) hnn hc8' (t1 := _) (t2 := _) (t3 := _) (t4 := _) (t5 := _)
        refine e_lat kd.toNat (IsLF H hx7 rfl rfl) hv9 (by simp; omega) ?_ (by omega)
        have hxl := (hstk.lastStr (t' := 1) hc9 (by decide)).2
        with_reducible refine i_catT H (by simp; omega) ?_; clear H; intro t s H
        have hstk' := ((hstk.sub hs₇ (Nat.le_succ i)).lastStr (t' := t + 1) hc9 (Nat.succ_ne_zero t)).1
        refine set_last H (by walk_at "oput") ?_; clear H; intro s H
        walk_at "mm"
        exact fin _ _ _ _ _ B₇ _ _ _ H hs₇ hks hkl (by omega) hstk' (by omega) (fun _ => ⟨vs', x ++ [c9], _, rfl⟩)
      walk_at "mm"
      refine ite_b (fun e2 => ?_) (fun e2 => ?_)
      · walk_at "mm"
        refine e_llast (LO.isList (H.ownAt (a := R0) (P := LO (stackRefs st ++ [.ref top])) (by walk_at "opop"))) ?_
        walk_at "mm"
        refine e_abs H ?_; clear H; intro t s H
        walk_at "mm"
        refine b_pow H (by decide) (by decide) (by decide) ?_; clear H; intro t s H
        rw [show (10 : Int) ^ (12 : Int).toNat = 1000000000000 by decide +kernel]
        refine b_mod H (by decide) ?_; clear H; intro t s H
        have hm0 : 0 ≤ (tn.natAbs : Int) % 1000000000000 := by omega
        have hm1 : (tn.natAbs : Int) % 1000000000000 < 1000000000000 := by omega
        generalize (tn.natAbs : Int) % 1000000000000 = mm at hm0 hm1 ⊢
        walk_at "mm"
        refine ite_ejoin (fun v s' => ∃ sg t', v = Value.int sg t' ∧ (sg = 1 ∨ sg = -1) ∧ St X B₆ (qi ++ ((K, LO ks) :: (R0, LO (stackRefs st ++ [.ref top])) :: (top, LO tvs) :: stackOwns st)) ([(n_script, some (.ref S0)), (n_rows, some (.ref R0)), (n_kinds, some (.ref K)), (n_grows, some (.bool gv)), (n_x, some (.int xi xt)), (n_turn, some (.int tn t1)), (n_kind, some (.int kd t2)), (n_code, vc), (n_any_sign, va)] : Locs) s') ?_ ?_
        · intro Qj hQj
          refine ite_b (fun e3 => ?_) (fun e3 => ?_)
          · walk_at "mm"
            exact hQj ⟨-1, _, rfl, .inr rfl, H⟩
          · walk_at "mm"
            exact hQj ⟨1, _, rfl, .inl rfl, H⟩
        clear H; rintro v₈ s ⟨sg, t', rfl, hsg, H⟩
        refine b_mulT H (mulOk_l (by omega) (by omega)) ?_; clear H; intro t s H
        walk_at "mm"
        have htl : tvs.length ≤ n := hstk.len.2 (top, tvs) (.head _)
        with_reducible refine' e_append H ?hp ?hz ?_; (case hp => walk_at "oput"); (case hz => omega); clear H; intro s H
        walk_at "mm"
        have hstk' := (hstk.sub (Sub.refl _) (Nat.le_succ i)).app (.int (mm * sg) (t + 1)) (by rcases hsg with rfl | rfl <;> simp [Gd] <;> omega) (Nat.succ_ne_zero t)
        exact fin _ _ _ _ _ B₆ _ _ _ H (Sub.refl _) hks hkl (by omega) hstk' (by simp [wt]; omega) (fun h => by simp at e2; omega)
      walk_at "mm"
      refine ite_b (fun e3 => ?_) (fun e3 => ?_)
      · walk_at "mm"
        refine e_llast (LO.isList (H.ownAt (a := R0) (P := LO (stackRefs st ++ [.ref top])) (by walk_at "opop"))) ?_
        walk_at "mm"
        with_reducible refine e_listF H (by simp; omega) ?_; clear H; intro x₇ B₇ s hs₇ hx7 H
        walk_at "mm"
        refine b_mod H (by decide) ?_; clear H; intro t s H
        have hm0 : 0 ≤ tn % 3 := by omega
        have hm1 : tn % 3 < 3 := by omega
        generalize tn % 3 = mm at hm0 hm1 ⊢
        obtain ⟨v₈, d₈, hv8, hr8, hg8, hw8, hz8⟩ : ∃ v d, [Value.bool true, Value.bool false, Value.none][mm.toNat]? = some v ∧ Rd prog w B₇ v d ∧ Gd (i + 1) d ∧ wt d = 1 ∧ Nz v := by
          rcases (by omega : mm = 0 ∨ mm = 1 ∨ mm = 2) with rfl | rfl | rfl
          · exact ⟨_, _, rfl, .bool _, by simp [Gd], by simp [wt], trivial⟩
          · exact ⟨_, _, rfl, .bool _, by simp [Gd], by simp [wt], trivial⟩
          · exact ⟨_, _, rfl, .none, by simp [Gd], by simp [wt], trivial⟩
        refine e_lat mm.toNat (IsLF H hx7 rfl rfl) hv8 (by simp; omega) ?_ (by omega)
        walk_at "mm"
        have htl : tvs.length ≤ n := hstk.len.2 (top, tvs) (.head _)
        with_reducible refine' e_append H ?hp ?hz ?_; (case hp => walk_at "oput"); (case hz => omega); clear H; intro s H
        walk_at "mm"
        have hstk' := (hstk.sub hs₇ (Nat.le_succ i)).app hr8 hg8 hz8
        exact fin _ _ _ _ _ B₇ _ _ _ H hs₇ hks hkl (by omega) hstk' (by omega) (fun h => by simp at e3; omega)
      walk_at "mm"
      refine ite_b (fun e4 => ?_) (fun e4 => ?_)
      · walk_at "mm"
        refine ite_b (fun e5 => ?_) (fun e5 => ?_)
        · walk_at "mm"
          with_reducible refine e_listO H (by simp) ?_; clear H; intro D s H
          walk_at "mm"
          have hlen := hstk.len.1
          simp only [List.length_cons] at hlen
          with_reducible refine' e_append H ?hp ?hz ?_; (case hp => walk_at "oput"); (case hz => (rw [List.length_append, stackRefs_len]; simp; omega)); clear H; intro s H
          walk_at "mm"
          with_reducible refine' e_append H ?hp ?hz ?_; (case hp => walk_at "oput"); (case hz => omega); clear H; intro s H
          walk_at "mm"
          replace H := H.perm perm_push
          refine fin s D [] ((top, tvs) :: st) (ks ++ [.int kd t2]) B₆ (n + 1) _ _ (by rw [stackRefs_cons]; exact H) (Sub.refl _) (fun v hv => ?_) (by simp; omega) (by simp; omega) ((hstk.sub (Sub.refl _) (Nat.le_succ i)).push) (by omega) (fun h => by simp at e4; omega)
          rcases List.mem_append.mp hv with hv | hv
          · exact hks v hv
          · rw [List.mem_singleton] at hv; exact ⟨_, _, hv⟩
        · walk_at "mm"
          have hk11 : kd = 11 := by simp at e5; omega
          refine ite_t (by simpa using hk11) ?_
          walk_at "mm"
          with_reducible refine e_listF H (by simp) ?_; clear H; intro x₇ B₇ s hs₇ hx7 H
          replace hstk := hstk.sub hs₇ (Nat.le_refl i)
          with_reducible refine' q_neE H ?hp hx7 (Nat.lt_of_le_of_lt (Nat.le_add_right _ _) R.units) ?_; (case hp => walk_at "opop")
          walk_at "mm"
          refine ite_b (fun e6 => ?_) (fun e6 => ?_)
          · walk_at "mm"
            refine close_call R hTX H hks hkl (by intro e; subst e; simp at e6) hstk (by omega) (by omega) fun v s B₈ p ps st' ks' n' hs₈ H hks' hkl' hkd hstk' hn' => ?_
            walk_at "mm"
            exact fin _ _ _ _ _ B₈ _ _ _ H (hs₇.trans hs₈) hks' hkl' (by omega) hstk' (by omega) (fun h => by omega)
          · walk_at "mm"
            exact fin _ _ _ _ _ B₇ _ _ _ H hs₇ hks hkl (by omega) (hstk.sub (Sub.refl _) (Nat.le_succ i)) (by omega) (fun h => by omega)
      · walk_at "mm"
        have hk5 : kd = 5 := by simp at e1 e2 e3 e4; omega
        refine ite_f (by subst hk5; rfl) ?_
        walk_at "mm"
        exact fin _ _ _ _ _ B₆ _ _ _ H (Sub.refl _) hks hkl (by omega) (hstk.sub (Sub.refl _) (Nat.le_succ i)) (by omega) (fun _ => hlast (by omega))
    clear H hstk hn hlast; intro s top tvs st ks B₇ n vc va H hs₇ hks hkl hki hstk hn hlast
    walk_at "mm"
    exact hend (((hs₅.trans hs₆).trans hs₇)) ⟨top, tvs, st, ks, _, _, _, _, _, _, rfl, rfl, hks, hkl, hki, ⟨n, hstk, by omega⟩, fun h => hlast (by simpa using h)⟩ H
  · rintro B₃ O₃ l₃ s hs₃ ⟨top, tvs, st, ks, gv, vx, vt, vk, vc, va, rfl, rfl, hks, hkl, hki, ⟨n, hstk, hn⟩, -⟩ H
    walk_at "mm"
    with_reducible refine x_while H (fun n' B' O' l' => ∃ top tvs st ks e nw, O' = (K, LO ks) :: (R0, LO (stackRefs st ++ [.ref top])) :: (top, LO tvs) :: stackOwns st ∧
      l' = ([(n_script, some (.ref S0)), (n_rows, some (.ref R0)), (n_kinds, some (.ref K)), (n_grows, some (.bool gv)), (n_x, vx), (n_turn, vt), (n_kind, vk), (n_code, vc), (n_any_sign, va)] : Locs) ∧ (∀ v ∈ ks, ∃ i t, v = Value.int i t) ∧ ks.length = st.length ∧ ks.length = n' ∧
      Stk prog w B' e ((top, tvs) :: st) nw ∧ e + n' ≤ 90 ∧ nw + n' ≤ 200) ks.length ?_ ?_
    · exact ⟨top, tvs, st, ks, _, n, rfl, rfl, hks, hkl, rfl, hstk, by omega, by omega⟩
    clear H hks hkl hki hstk hn
    rintro bd hbd n' B₄ O₄ l₄ s Qe hend hs₄ ⟨top, tvs, st, ks, e, nw, rfl, rfl, hks, hkl, hkn, hstk, hen, hnw⟩ H
    walk_at "mm"
    with_reducible refine e_listF H (by simp) ?_; clear H; intro x₇ B₇ s hs₇ hx7 H
    replace hstk := hstk.sub hs₇ (Nat.le_refl e)
    with_reducible refine' q_neE H ?hp hx7 (Nat.lt_of_le_of_lt (Nat.le_add_right _ _) R.units) ?_; (case hp => walk_at "opop")
    walk_at "mm"
    refine ite_b (fun e6 => ?_) (fun e6 => ?_)
    · walk_at "mm"
      refine close_call (qi := []) R hTX H hks hkl (by intro e; subst e; simp at e6) hstk (by omega) (by omega) fun v s B₈ p ps st' ks' n'' hs₈ H hks' hkl' hkd hstk' hn' => ?_
      walk_at "mm"
      exact hend (m := ks'.length) (by omega) (hs₇.trans hs₈) ⟨p, ps, st', ks', e + 1, n'', rfl, rfl, hks', hkl', rfl, hstk', by omega, by omega⟩ H
    · have hke : ks = [] := by simpa using e6
      subst hke
      have hst : st = [] := List.length_eq_zero_iff.mp hkl.symm
      subst hst
      walk_at "mm"
      refine e_lat 0 (LO.isList (H.ownAt (a := R0) (P := LO (stackRefs [] ++ [.ref top])) (by walk_at "opop"))) (v := .ref top) rfl (by simp [stackRefs]; omega) ?_
      walk_at "mm"
      have hfr : ∃ B₁ o, Sub B₇ B₁ ∧ B₁ top = some o ∧ LO tvs o ∧ ∃ O' l', St X B₁ O' l' s := by
        obtain ⟨B₁, o, h1, h2, h3, h4⟩ := H.freezeP (a := top) (P := LO tvs) (by walk_at "opop")
        exact ⟨B₁, o, h1, h2, h3, _, _, h4⟩
      obtain ⟨B₁, o, hs₉, htop, ⟨nq, rfl⟩, O', l', H⟩ := hfr
      cases hstk with
      | @cons _ _ ds _ m h1 h2 hz h3 =>
        cases h3
        exact hret H ⟨top, _, _, _, ds, rfl, htop, rfl, rfl, h1.sub hs₉, hz, fun d hd => (h2 d hd).le (by omega), by omega⟩
end
-- part L1i
open PySem PySem.Spec PySem.Calls PyProof.Rows PySem.W
set_option maxRecDepth 100000
noncomputable def fmtRec : ClsRec := ((dclssOf V1 []).find? (fun c => c.name == ("Formatter" : Str))).getD ⟨"", none, [], [], 0, []⟩
noncomputable def dConv : MethRec := (fmtRec.meths.find? (fun m => m.name == ("convert_field" : Str))).getD ⟨"", ⟨[], [], none, [], [], none, []⟩, [], ⟨.function, [], false, false, []⟩⟩
set_option maxHeartbeats 4000000
section
variable {prog : Program} {w : World} {A : Around} {k : Nat} {T : Tp} {s : Shared} {B : FMap}
/-- the ways that convert_field comes back -/
theorem sp_conv (R : Rm A (k + 2)) (hT1 : T1 T) (hT : T.At s.heap) (hB : Fz B s.heap) {self v cv : Value} {P : FMap → Value → Prop} {Pe : Value → Shared → Prop}
    {d : PyData} (hv : Rd prog w B v d) (hd : Said d) (hu : A.units + 110 < cLine)
    (hP : (cv = .none ∧ ∀ B', Sub B B' → P B' v) ∨ (∃ t, cv = .str (S [115]) t ∧ ∀ B' t, Sub B B' → P B' (.str (strOfD d) t)) ∨ (∃ t, cv = .str (S [114]) t ∧ ∀ B' t, Sub B B' → P B' (.str d.shown t)) ∨ (∃ t, cv = .str (S [97]) t ∧ ∀ B' t, Sub B B' → P B' (.str (asciiOf d.shown) t))) :
    SpR prog w (methRec fmtRec dConv) dConv.name A [self, v, cv] B s P Pe := by
  refine enterM R hT hB (binds := [(n_self, self), (n_value, v), (n_conversion, cv)]) [] (fun _ _ _ => rfl) (by simp only [List.map_cons, List.map_nil]; decide +kernel) (by simp only [List.map_cons, List.map_nil]; decide +kernel) rfl rfl rfl (by decide +kernel) ?_
  intro X Q E s F H R hret hraise
  have G := F.pg1 hT1
  have hTX : T1 X.T := F.T ▸ hT1
  have W : Wr (A.deeper X.env) d := hd.wr R.guards (by show A.units + 3 + 103 < cLine; omega)
  simp only [List.map_cons, List.map_nil, List.cons_append, List.nil_append] at H
  clear hraise
  walk_at "nm"
  walk_at "mm"
  rcases hP with ⟨rfl, hP⟩ | ⟨t, rfl, hP⟩ | ⟨t, rfl, hP⟩ | ⟨t, rfl, hP⟩
  · refine is_none_none ?_
    walk_at "mm"
    exact hret H (hP _ (Sub.refl _))
  · refine is_str_none ?_
    walk_at "mm"
    refine ite_t (by rfl) ?_
    walk_at "mm"
    with_reducible refine e_str H hv W ?_; clear H; intro t s H
    walk_at "mm"
    exact hret H (hP _ _ (Sub.refl _))
  · refine is_str_none ?_
    walk_at "mm"
    refine ite_f (by decide) ?_
    walk_at "mm"
    refine ite_t (by rfl) ?_
    walk_at "mm"
    with_reducible refine e_repr H hv W ?_; clear H; intro t s H
    walk_at "mm"
    exact hret H (hP _ _ (Sub.refl _))
  · refine is_str_none ?_
    walk_at "mm"
    refine ite_f (by decide) ?_
    walk_at "mm"
    refine ite_f (by decide) ?_
    walk_at "mm"
    refine ite_t (by rfl) ?_
    walk_at "mm"
    with_reducible refine e_ascii H hv W ?_; clear H; intro t s H
    walk_at "mm"
    exact hret H (hP _ _ (Sub.refl _))
/-- a conversion that there isn't is refused -/
theorem sp_refuse (R : Rm A (k + 2)) (hT1 : T1 T) (hT : T.At s.heap) (hB : Fz B s.heap) {self v : Value} {x : List Nat} {tc : Tok} (hx : x ≠ [115] ∧ x ≠ [114] ∧ x ≠ [97]) (hz : x.length ≤ 1000000) {P : FMap → Value → Prop} {Pe : Value → Shared → Prop}
    {env : Env} {L : Addr} (hfr : A.frames = some [env]) (hke : env.scope.kind ≠ .module) (hL : env.frame = some L) (hN : ∃ m, s.heap.Ns L m)
    (hP : ∀ s' e t tk, Flown env L s s' e t (.str (S (unkLit ++ x)) tk) → Pe (.ref e) s') :
    SpR prog w (methRec fmtRec dConv) dConv.name A [self, v, .str (S x) tc] B s P Pe := by
  refine enterM R hT hB (binds := [(n_self, self), (n_value, v), (n_conversion, .str (S x) tc)]) [] (fun _ _ _ => rfl) (by simp only [List.map_cons, List.map_nil]; decide +kernel) (by simp only [List.map_cons, List.map_nil]; decide +kernel) rfl rfl rfl (by decide +kernel) ?_
  intro X Q E s F H R hret hraise
  have G := F.pg1 hT1
  have hTX : T1 X.T := F.T ▸ hT1
  simp only [List.map_cons, List.map_nil, List.cons_append, List.nil_append] at H
  clear hret
  walk_at "nm"
  walk_at "mm"
  refine is_str_none ?_
  walk_at "mm"
  refine ite_f (by simpa using hx.1) ?_
  walk_at "mm"
  refine ite_f (by simpa using hx.2.1) ?_
  walk_at "mm"
  refine ite_f (by simpa using hx.2.2) ?_
  walk_at "mm"
  refine wpAny_execs_cons (Raise_new R.handled ?_)
  walk_at "mm"
  refine m_format ?_
  walk_at "mm"
  refine e_unk H hz ?_; clear H; intro t s H
  walk_at "mm"
  refine e_excV H ?_
  intro s' e t' hn hs'
  refine hraise ?_
  exact leaves H F.h0 F.gens F.os F.drawn F.frame (Around.frames_deeper hfr) hke hL hN hn hs' fun s₂ FL => hP s₂ e t' _ FL
end
-- part L1j
open PySem PySem.Spec PySem.Calls PyProof.Rows PySem.W
set_option maxRecDepth 100000
theorem find_is {α : Type} {p : α → Bool} {l : List α} {d : α} (h : (l.find? p).isSome = true) : l.find? p = some ((l.find? p).getD d) := by
  cases q : l.find? p with
  | none => rw [q] at h; cases h
  | some x => rfl
section
variable {prog : Program} {w : World} {A : Around} {E : Value → Shared → Prop} {env : Env} {s : Shared} {Q : Flow → Shared → Prop}
/-- a try whose body does raise -/
theorem x_tryE {body rest : List Stmt} {h₀ : ExceptHandler} {hs : List ExceptHandler} {pos : Pos} (Pe : Value → Shared → Prop) (h : ∀ bd, bd = body → wpAny (model prog w) A (execs bd env) (fun _ _ => False) Pe s)
    (k : ∀ e s₁, Pe e s₁ → wpAny (model prog w) A (noteFrame e env) (fun _ s₂ => wpAny (model prog w) A (setFlight e none) (fun _ s₃ => wpAny (model prog w) A (handleBy e env (h₀ :: hs)) (Then (model prog w) A E rest env Q) E s₃) E s₂) E s₁) :
    wpAny (model prog w) A (execs (.Try body (h₀ :: hs) [] [] pos :: rest) env) Q E s :=
  wpAny_execs_cons (wpAny_Try_except (wpAny_mono (h _ rfl) (fun _ _ hf => hf.elim) k))
end
theorem unk_same (y : List Nat) : ∀ l, l = unkLit → (unkLit ++ y != l ++ y) = false := by rintro _ rfl; exact bne_self_eq_false _
theorem allStr3 (a b c : Str) (t u v : Tok) : AllStr [.str a t, .str b u, .str c v] := fun x hx => by
  simp only [List.mem_cons, List.not_mem_nil, or_false] at hx
  rcases hx with rfl | rfl | rfl <;> exact ⟨_, _, rfl⟩
noncomputable abbrev dLaw := recOf V1 (Str.ofString "law")
set_option maxHeartbeats 4000000
theorem sp_law {prog : Program} {w : World} {A : Around} (R : Rm A 200) (hfr : A.frames = some []) {T : Tp} (hT1 : T1 T) {s : Shared} {B : FMap} {S0 : Addr} {xs : List Value} {sn : Nat} {C N : Addr} {mN : Str → Option Value}
    (hT : T.At s.heap) (hB : Fz B s.heap) (P : FmAt T.mg fmtRec s.heap C N mN) {oS : Obj} (hS : B S0 = some oS) (hoc : oS.cls = .type "list") (hod : oS.data = .seq xs.toArray sn) (hints : ∀ v ∈ xs, ∃ i t, v = Value.int i t) (hxl : xs.length ≤ sizeLine) :
    Sp0 prog w dLaw A [.ref S0] B s (fun _ v => v = .bool true) := by
  refine enterA R hT hB (binds := [(n_script, .ref S0)]) [n_maker, n_thing, n_told, n_shown, n_plain, n_other, n_unknown, n_fault] (fun _ _ _ => rfl) (by simp only [List.map_cons, List.map_nil]; decide +kernel) (by simp only [List.map_cons, List.map_nil]; decide +kernel) rfl rfl rfl (by decide +kernel) (Nat.succ_pos _) ?_
  intro X Q s F H R hret
  have G := F.pg1 hT1
  have hTX : T1 X.T := F.T ▸ hT1
  have hfr' : (A.deeper X.env).frames = some [X.env] := Around.frames_deeper hfr
  replace P : FmAt X.mg fmtRec X.h0 C N mN := by
    have e : X.mg = T.mg := by rw [← F.T]; rfl
    rw [e, F.h0]; exact P
  simp only [List.map_cons, List.map_nil, List.cons_append, List.nil_append] at H
  walk_at "nm"
  walk_at "mm"
  with_reducible refine e_make H P (by decide +kernel) (kindOf_frm F (by decide +kernel)) ?_ (by decide +kernel); clear H; intro mk B₀ s hs₀ hmk H
  walk_at "mm"
  with_reducible refine x_for ?_ (by intro _; with_unfolding_all rfl); intro bd hbd
  walk_at "m"
  walk_at "m"
  with_reducible refine e_cutTo ?_ (by intro _ _; with_unfolding_all rfl) (by intro _ _; with_unfolding_all rfl)
  walk_at "mm"
  refine cutTo_end 40 H (IsLF H (hs₀ _ _ hS) hoc hod) hxl rfl ?_; clear H; intro c B₁ s hs₁ hc H
  walk_at "mm"
  refine ⟨_, _, _, _, H, sp_things (k := 100) (R.le (by omega)) hTX H.tp H.fzIn hc (fun v hv => hints v (List.mem_of_mem_take hv)) (by simp; omega), ?_⟩
  clear H; rintro v B₂ s hs₂ ⟨D, o, vs, n, ds, rfl, hD, ho1, ho2, hall, hnz, hgd, hwt⟩ H
  replace hmk := hmk.sub (hs₁.trans hs₂)
  have fm : fmtRec.meths.find? (fun r => r.name == n_convert_field) = some dConv := find_is (by decide +kernel)
  refine for_it (it_list R.handled takes_name H hD ho1 (vs := vs.toList) (by rw [ho2])) (fun i B' O' l' => ∃ v1 v2 v3 v4, O' = [] ∧ l' = ([(n_script, some (.ref S0)), (n_maker, some (.ref mk)), (n_thing, v1), (n_told, v2), (n_shown, v3), (n_plain, v4), (n_other, none), (n_unknown, none), (n_fault, none)] : Locs)) ?_ ?_ ?_
  · exact ⟨_, _, _, _, rfl, rfl⟩
  · rintro i v B₃ B₄ O₄ l₄ s qi Qe hend hi hv' hs₃ ⟨v1, v2, v3, v4, rfl, rfl⟩ hs₄ H
    obtain ⟨d, hdm, -, hvd⟩ := rdAll_at hall hv'
    have hvz : Nz v := hnz v (List.mem_of_getElem? hv')
    replace hvd := hvd.sub (hs₃.trans hs₄)
    replace hmk := hmk.sub (hs₃.trans hs₄)
    have hu : (A.deeper X.env).units + 1096 < cLine := R.units
    obtain ⟨tds, etd⟩ := toldOf_list d
    have htl : Tl 201 (toldOf d) := Gd.tl 100 d (hgd d hdm)
    rw [etd] at htl
    have said : Said d := (hgd d hdm).said (Nat.le_trans (wt_mem hdm) hwt)
    walk_at "mm"
    refine ⟨_, _, _, _, H, sp_told 100 (R.le (by omega)) hTX H.tp H.fzIn hvd said.dp, ?_⟩
    clear H; rintro told B₅ s hs₅ htold H
    replace hvd := hvd.sub hs₅
    replace hmk := hmk.sub hs₅
    walk_at "mm"
    with_reducible refine e_methAt H P hmk fm (by decide +kernel) (by rw [typeLookup_type, builtinLookup_eq_fast]; kernel_rfl) (by with_unfolding_all rfl) ?_
    walk_at "mm"
    refine ⟨_, _, _, _, _, H, sp_conv (k := 0) (P := fun _ v => ∃ t, v = .str (S (rx d)) t) (Pe := fun _ _ => False) (R.le (by omega)) hTX H.tp H.fzIn hvd said (by omega) (.inr (.inr (.inl ⟨_, rfl, fun _ t _ => ⟨t, by rw [said.rep]⟩⟩))), ?_, fun _ _ h => h⟩
    clear H; rintro v₅ B₆ s hs₆ ⟨t₅, rfl⟩ H
    replace hvd := hvd.sub hs₆
    replace hmk := hmk.sub hs₆
    replace htold := htold.sub hs₆
    walk_at "mm"
    with_reducible refine e_methAt H P hmk fm (by decide +kernel) (by rw [typeLookup_type, builtinLookup_eq_fast]; kernel_rfl) (by with_unfolding_all rfl) ?_
    walk_at "mm"
    refine ⟨_, _, _, _, _, H, sp_conv (k := 0) (P := fun _ v => ∃ t, v = .str (S (tx aesc d)) t) (Pe := fun _ _ => False) (R.le (by omega)) hTX H.tp H.fzIn hvd said (by omega) (.inr (.inr (.inr ⟨_, rfl, fun _ t _ => ⟨t, by rw [said.asc]⟩⟩))), ?_, fun _ _ h => h⟩
    clear H; rintro v₆ B₇ s hs₇ ⟨t₆, rfl⟩ H
    replace hvd := hvd.sub hs₇
    replace hmk := hmk.sub hs₇
    replace htold := htold.sub hs₇
    walk_at "mm"
    refine ⟨_, _, _, _, H, sp_read (m := 100) (Nat.le_trans said.rlen (by decide)) (R.le (by omega)) hTX H.tp H.fzIn said.rth said.dp, ?_⟩
    clear H; rintro v₇ B₈ s hs₈ h₇ H
    replace hvd := hvd.sub hs₈
    replace hmk := hmk.sub hs₈
    replace htold := htold.sub hs₈
    walk_at "mm"
    rw [etd] at h₇ htold
    refine q_neT H.fz htl h₇ htold (by omega) ?_
    walk_at "mm"
    refine ⟨_, _, _, _, H, sp_read (m := 100) (Nat.le_trans said.alen (by decide)) (R.le (by omega)) hTX H.tp H.fzIn said.ath said.dp, ?_⟩
    clear H; rintro v₈ B₉ s hs₉ h₈ H
    replace hvd := hvd.sub hs₉
    replace hmk := hmk.sub hs₉
    replace htold := htold.sub hs₉
    walk_at "mm"
    rw [etd] at h₈
    refine q_neT H.fz htl h₈ htold (by omega) ?_
    walk_at "mm"
    have hsA := (((hs₅.trans hs₆).trans hs₇).trans hs₈).trans hs₉
    with_reducible refine e_listcomp [n_sign] ?_ (closureFor_of (cl := []) (by simp [clos])) (by decide +kernel) (by rfl) (by decide +kernel) (by decide +kernel) (by decide +kernel) (by intro _; with_unfolding_all rfl)
    walk_at "mm"
    refine lc_it (it_str R.handled H) (Nat.le_trans said.alen (by decide)) (fun i B' l' ys => ∃ v1, l' = ([(n_sign, v1)] : Locs) ∧ ys = []) ⟨_, rfl, rfl⟩ ?_ ?_
    · rintro X' D C j v B₅ B₆ l₁ ys s q Qy Qn hend hj ⟨cc, tc, hcc, rfl⟩ hs₅ ⟨v1, rfl, rfl⟩ hs₆ H
      have hcA := said.signs cc (List.mem_of_getElem? hcc)
      have hTX : T1 X'.T := C.T ▸ hTX
      replace G := C.pg G
      walk_at "mm"
      refine ite_f (by rw [lt1]; simp; omega) ?_
      walk_at "mm"
      refine PySem.P.gt_str ?_
      rw [show decide ((S [126]).cps.toList < (S [cc]).cps.toList) = false from by (show decide ([126] < [cc]) = false); rw [lt1]; simp; omega]
      walk_at "mm"
      exact hend.n (Sub.refl _) ⟨_, rfl, rfl⟩ H
    · rintro B₅ B₆ D ys l₁ k s₁ hs₅ ⟨v1, rfl, rfl⟩ hs₆ hx s H; clear s₁
      replace hvd := (hvd.sub hs₅).sub hs₆
      replace hmk := (hmk.sub hs₅).sub hs₆
      walk_at "mm"
      with_reducible refine e_listF H (by simp) ?_; clear H; intro x₂ B₅ s hs₇ hx2 H
      replace hvd := hvd.sub hs₇
      replace hmk := hmk.sub hs₇
      refine q_neT (n := 0) (ds := []) H.fz (by simp [Tl]) (.list (hs₇ _ _ hx) rfl rfl .nil) (.list hx2 rfl rfl .nil) (by omega) ?_
      walk_at "mm"
      with_reducible refine e_methAt H P hmk fm (by decide +kernel) (by rw [typeLookup_type, builtinLookup_eq_fast]; kernel_rfl) (by with_unfolding_all rfl) ?_
      walk_at "mm"
      refine ⟨_, _, _, _, _, H, sp_conv (k := 0) (P := fun _ v => ∃ t, v = .str (strOfD d) t) (Pe := fun _ _ => False) (R.le (by omega)) hTX H.tp H.fzIn hvd said (by omega) (.inr (.inl ⟨_, rfl, fun _ t _ => ⟨t, rfl⟩⟩)), ?_, fun _ _ h => h⟩
      clear H; rintro v₉ B₆ s hs₈ ⟨t₉, rfl⟩ H
      replace hvd := hvd.sub hs₈
      replace hmk := hmk.sub hs₈
      walk_at "mm"
      refine e_isi .str H hvd ?_; clear H; intro s H
      walk_at "mm"
      refine ite_ejoin (fun v' s' => ∃ t', v' = Value.str (strOfD d) t' ∧ St X B₆ (qi ++ []) ([(n_script, some (.ref S0)), (n_maker, some (.ref mk)), (n_thing, some (v)), (n_told, some (told)), (n_shown, some (.str (S (rx d)) t₅)), (n_plain, some (.str (S (tx aesc d)) t₆)), (n_other, none), (n_unknown, none), (n_fault, none)] : Locs) s') ?_ ?_
      · intro Qj hQj
        refine ite_b (fun e1 => ?_) (fun e1 => ?_)
        · walk_at "mm"
          cases hvd <;> first | exact Bool.noConfusion e1 | exact hQj ⟨_, rfl, H⟩
        · walk_at "mm"
          refine hQj ⟨t₅, ?_, H⟩
          cases hvd <;> first | exact Bool.noConfusion e1 | (show Value.str _ _ = Value.str (PyData.shown _) _; rw [said.rep])
      clear H; rintro v₉ s ⟨t', rfl, H⟩
      walk_at "mm"
      refine ne_str ?_
      rw [bne_self_eq_false]
      walk_at "mm"
      with_reducible refine e_methAt H P hmk fm (by decide +kernel) (by rw [typeLookup_type, builtinLookup_eq_fast]; kernel_rfl) (by with_unfolding_all rfl) ?_
      walk_at "mm"
      refine ⟨_, _, _, _, _, H, sp_conv (k := 0) (P := fun _ v' => v' = v) (Pe := fun _ _ => False) (R.le (by omega)) hTX H.tp H.fzIn hvd said (by omega) (.inl ⟨rfl, fun _ _ => rfl⟩), ?_, fun _ _ h => h⟩
      clear H; rintro v₉ B₇ s hs₉ rfl H
      walk_at "mm"
      refine is_same hvd hvz ?_
      walk_at "mm"
      exact hend (hsA.trans ((((hs₅.trans hs₆).trans hs₇).trans hs₈).trans hs₉)) ⟨_, _, _, _, rfl, rfl⟩ H
  · rintro B₃ O₃ l₃ s hs₃ ⟨v1, v2, v3, v4, rfl, rfl⟩ H
    replace hmk := hmk.sub hs₃
    replace hS := hs₃ _ _ (hs₂ _ _ (hs₁ _ _ (hs₀ _ _ hS)))
    walk_at "mm"
    with_reducible refine x_for ?_ (by intro _; with_unfolding_all rfl); intro bd hbd
    walk_at "mm"
    with_reducible refine e_listF H (by simp only [List.length_singleton]; decide) ?_; clear H; intro e0 B₄ s hs₄ he0 H
    replace hmk := hmk.sub hs₄
    replace hS := hs₄ _ _ hS
    with_reducible refine e_listcomp [n_x] ?_ (closureFor_of (cl := []) (by simp [clos])) (by decide +kernel) (by rfl) (by decide +kernel) (by decide +kernel) (by decide +kernel) (by intro _; with_unfolding_all rfl)
    with_reducible refine e_cutTo ?_ (by intro _ _; with_unfolding_all rfl) (by intro _ _; with_unfolding_all rfl)
    walk_at "mm"
    refine cutTo_end 40 H (IsLF H hS hoc hod) hxl rfl ?_; clear H; intro c₂ B₅ s hs₅ hc₂ H
    replace hmk := hmk.sub hs₅
    replace he0 := hs₅ _ _ he0
    refine lc_it (it_list R.handled takes_name H hc₂ rfl rfl) (by simp; omega) (fun i B' l' ys => ∃ v1, l' = ([(n_x, v1)] : Locs) ∧ ys.length = i ∧ ∀ y ∈ ys, ∃ n t, y = Value.str (S [n]) t) ⟨_, rfl, rfl, by simp⟩ ?_ ?_
    · rintro X' D C j v B₅ B₆ l₁ ys s q Qy Qn hend hj hv hs₅ ⟨v1, rfl, hyl, hys⟩ hs₆ H
      obtain ⟨xi, xt, rfl⟩ := hints v (List.mem_of_mem_take (List.mem_of_getElem? hv))
      have hTX : T1 X'.T := C.T ▸ hTX
      replace G := C.pg G
      walk_at "mm"
      refine b_mod H (by decide) ?_; clear H; intro t s H
      have hm0 : 0 ≤ xi % 94 := by omega
      have hm1 : xi % 94 < 94 := by omega
      generalize xi % 94 = mm at hm0 hm1 H ⊢
      obtain ⟨nn, rfl⟩ := Int.eq_ofNat_of_zero_le hm0
      walk_at "mm"
      refine e_chr (n := 33 + nn) H (by omega) (by omega) ?_; clear H; intro t s H
      refine hend.y (Sub.refl _) ⟨_, rfl, by simp [hyl], fun y hy => ?_⟩ H
      rcases List.mem_append.mp hy with hy | hy
      · exact hys y hy
      · rw [List.mem_singleton] at hy; exact ⟨_, _, hy⟩
    · rintro B₆ B₇ D ys l₁ k s₁ hs₆ ⟨v1, rfl, hyl, hys⟩ hs₇ hx s H; clear s₁
      replace hmk := (hmk.sub hs₆).sub hs₇
      replace he0 := hs₇ _ _ (hs₆ _ _ he0)
      have hyl40 : ys.length ≤ 40 := by rw [hyl]; simp; omega
      have hzz : sizeLine = 16777216 := by decide
      with_reducible refine e_addF H he0 hx (by simp only [List.length_singleton]; omega) ?_; clear H; intro c₃ B₈ s hs₈ hc₃ H
      replace hmk := hmk.sub hs₈
      obtain ⟨zs, hwd, hzl, hc₃⟩ : ∃ zs : List Value, (∀ v ∈ zs, ∃ x t, v = Value.str (S x) t ∧ x.length ≤ 1) ∧ zs.length ≤ 41 ∧ B₈ c₃ = some { cls := .type "list", data := .seq zs.toArray } := ⟨_, fun v hv => by
        rcases List.mem_append.mp hv with hv | hv
        · rw [List.mem_singleton] at hv; exact ⟨_, _, hv, by simp⟩
        · obtain ⟨n, t, e⟩ := hys v hv; exact ⟨_, _, e, by simp⟩, by simp; omega, hc₃⟩
      refine for_it (it_list R.handled takes_name H hc₃ rfl rfl) (fun i B' O' l' => ∃ v1 v2 v3 v4 v5 v6 v7, O' = [] ∧ l' = ([(n_script, some (.ref S0)), (n_maker, some (.ref mk)), (n_thing, v1), (n_told, v2), (n_shown, v3), (n_plain, v4), (n_other, v5), (n_unknown, v6), (n_fault, v7)] : Locs)) ?_ ?_ ?_
      · exact ⟨_, _, _, _, _, _, _, rfl, rfl⟩
      · rintro i v B₉ B₁ O₄ l₄ s qi Qe hend hi hv' hs₉ ⟨v1, v2, v3, v4, v5, v6, v7, rfl, rfl⟩ hs₁ H
        obtain ⟨x, tx, rfl, hx1⟩ := hwd v (List.mem_of_getElem? hv')
        replace hmk := (hmk.sub hs₉).sub hs₁
        walk_at "mm"
        with_reducible refine e_listF H (by simp only [List.length_cons, List.length_nil]; omega) ?_; clear H; intro x₇ B₇ s hs₇ hx7 H
        replace hmk := hmk.sub hs₇
        with_reducible refine q_inL H hx7 (allStr3 _ _ _ _ _ _) ?_
        walk_at "mm"
        refine ite_ejoin (fun v s' => ∃ y t, v = Value.str (S y) t ∧ (y ≠ [115] ∧ y ≠ [114] ∧ y ≠ [97]) ∧ y.length ≤ 2 ∧ St X B₇ (qi ++ []) ([(n_script, some (.ref S0)), (n_maker, some (.ref mk)), (n_thing, v1), (n_told, v2), (n_shown, v3), (n_plain, v4), (n_other, some (.str (S x) tx)), (n_unknown, v6), (n_fault, v7)] : Locs) s') ?_ ?_
        · intro Qj hQj
          refine ite_b (fun e1 => ?_) (fun e1 => ?_)
          · walk_at "mm"
            refine b_cat H (by omega) ?_; clear H; intro t s H
            simp [strIs_str] at e1
            exact hQj ⟨_, _, rfl, by rcases e1 with rfl | rfl | rfl <;> decide, by simp; omega, H⟩
          · walk_at "mm"
            simp [strIs_str] at e1
            exact hQj ⟨_, _, rfl, ⟨fun e => e1.1 e.symm, fun e => e1.2.1 e.symm, fun e => e1.2.2 e.symm⟩, by omega, H⟩
        clear H; rintro v₈ s ⟨y, ty, rfl, hy, hyl, H⟩
        walk_at "mm"
        with_reducible refine x_tryE (fun v s' => ∃ s₀ e t tk, v = .ref e ∧ St X B₇ (qi ++ []) ([(n_script, some (.ref S0)), (n_maker, some (.ref mk)), (n_thing, v1), (n_told, v2), (n_shown, v3), (n_plain, v4), (n_other, some (.str (S x) tx)), (n_unknown, some (.str (S y) ty)), (n_fault, v7)] : Locs) s₀ ∧ Flown X.env X.env.locals s₀ s' e t (.str (S (unkLit ++ y)) tk)) ?_ ?_
        · intro bd hbd
          walk_at "mm"
          with_reducible refine e_methAt H P hmk fm (by decide +kernel) (by rw [typeLookup_type, builtinLookup_eq_fast]; kernel_rfl) (by with_unfolding_all rfl) ?_
          walk_at "mm"
          have hN : ∃ m, s.heap.Ns X.env.locals m := ⟨_, H.ns⟩
          have H₀ := H
          refine ⟨_, _, _, _, _, H, sp_refuse (k := 0) (P := fun _ _ => False) (R.le (by omega)) hTX H.tp H.fzIn hy (by omega) hfr' (by rw [H.fn]; decide) F.frame hN (fun s' e t tk FL => ⟨_, e, t, tk, rfl, H₀, FL⟩), (fun _ _ _ _ hp _ => hp.elim), fun _ _ h => h⟩
        · rintro _ s₁ ⟨s₀, e, t, tk, rfl, H₀, FL⟩
          clear H
          refine caught H₀ FL hfr' F.frame (kindOf_frm F (by decide +kernel)) (G.free H₀ (by decide +kernel)) (by walk_at "put") ?_
          intro B₈ s hs₈ hx H
          walk_at "mm"
          have hu : ((A.deeper X.env).mark (some (Value.ref e))).units + 1096 < cLine := R.units
          refine e_strX H hx (by omega) ?_
          walk_at "mm"
          refine b_cat H (by simp only [List.length_cons, List.length_nil]; omega) ?_; clear H; intro t s H
          refine q_ne ?_
          rw [unk_same _ _ (by rfl)]
          walk_at "mm"
          refine w_goes H (fun v => ([(n_script, some (.ref S0)), (n_maker, some (.ref mk)), (n_thing, v1), (n_told, v2), (n_shown, v3), (n_plain, v4), (n_other, some (.str (S x) tx)), (n_unknown, some (.str (S y) ty)), (n_fault, v)] : Locs)) (fun v => .there (.there (.there (.there (.there (.there (.there (.there .here)))))))) ?_
          clear H; intro v s H
          walk_at "mm"
          exact hend (hs₇.trans hs₈) ⟨_, _, _, _, _, _, _, rfl, rfl⟩ H
      · rintro B₉ O₉ l₉ s hs₉ ⟨v1, v2, v3, v4, v5, v6, v7, rfl, rfl⟩ H
        walk_at "mm"
        exact hret H rfl
end Mine
-- part F0
open PySem PySem.Spec PySem.Calls PyProof.Rows PySem.W
set_option maxRecDepth 100000
namespace Mine
/-- the class of the text has no __init__ -/
def noInit (h : Heap) : Bool := match h.nsMap mainGlobals (Str.ofString "Formatter") with
  | some (.ref C) => match h.get? C with
    | some o => match o.data with
      | .cls cd => h.isNs cd.ns && (h.nsMap cd.ns "__init__").isNone
      | _ => false
    | none => false
  | _ => false
theorem nsMap_keeps {h h' : Heap} {a : Addr} {o : Obj} (k : ∀ b o, h.get? b = some o → h'.get? b = some o) (ho : h.get? a = some o) (x : Str) : h'.nsMap a x = h.nsMap a x := by
  unfold Heap.nsMap; rw [ho, k _ _ ho]
theorem noInit_keeps {h h' : Heap} (e : noInit h = true) (k : ∀ b o, h.get? b = some o → h'.get? b = some o) : noInit h' = true := by
  unfold noInit at e ⊢
  cases hg : h.get? mainGlobals with
  | none => have : h.nsMap mainGlobals (Str.ofString "Formatter") = none := by unfold Heap.nsMap; rw [hg]
            rw [this] at e; cases e
  | some og =>
    rw [nsMap_keeps k hg]
    split at e
    · rename_i C hC
      cases ho : h.get? C with
      | none => rw [ho] at e; cases e
      | some o =>
        rw [ho] at e; rw [k _ _ ho]
        dsimp only at e ⊢
        split at e
        · rename_i cd hcd
          rw [Bool.and_eq_true_iff] at e ⊢
          cases hn : h.get? cd.ns with
          | none => have := e.1; unfold Heap.isNs at this; rw [hn] at this; cases this
          | some on =>
            rw [nsMap_keeps k hn]
            refine ⟨?_, e.2⟩
            have := e.1
            unfold Heap.isNs at this ⊢
            rw [hn] at this; rw [k _ _ hn]; exact this
        · cases e
    · cases e
def fmHook : Hook := ⟨Bool, fun s => noInit s.heap, fun _ => true, fun _ h => noInit h = true, fun _ _ e => e, fun _ _ _ e k => noInit_keeps e k⟩
theorem fm_find : (dclssOf V1 []).find? (fun c : ClsRec => c.name == ("Formatter" : Str)) = some fmtRec := find_is (by decide +kernel)
theorem fm_mem : fmtRec ∈ dclssOf V1 [] := List.mem_of_find?_eq_some fm_find
theorem fm_name : fmtRec.name = ("Formatter" : Str) := beq_iff_eq.mp (List.find?_some (p := fun c : ClsRec => c.name == ("Formatter" : Str)) fm_find)
theorem fm_at {mean : ExcName → Option Value} {mg mb : Str → Option Value} {lo : List Str} {h : Heap} (T : Top V1 lo mean mg mb h) (TD : TopCD V1 [] mg h) (Y : noInit h = true) : ∃ C N mN, FmAt mg fmtRec h C N mN := by
  obtain ⟨C, N, mN, hg, P⟩ := TD fmtRec fm_mem
  refine ⟨C, N, mN, hg, P, ?_⟩
  obtain ⟨nm, q, bs, sn, sub, col, dd, k0, k1, k2, k3, k5, hC⟩ := P.cls.obj
  unfold noInit at Y
  rw [← T.g.eq_nsMap, show Str.ofString "Formatter" = fmtRec.name from fm_name.symm, hg] at Y
  dsimp only at Y
  rw [hC] at Y
  have e : (h.nsMap N "__init__").isNone = true := (Bool.and_eq_true_iff.mp Y).2
  rw [P.cls.ns.eq_nsMap]
  exact Option.isNone_iff_eq_none.mp e
theorem law_find : (recsOf V1).find? (fun r => r.name == (Str.ofString "law")) = some dLaw := find_is (by decide +kernel)
theorem ints_are {vs : List Value} {ns : List Int} (h : IntsAre vs ns) : (∀ v ∈ vs, ∃ i t, v = Value.int i t) ∧ vs.length = ns.length := by
  induction h with
  | nil => exact ⟨fun v hv => (nomatch hv), rfl⟩
  | cons n t _ ih =>
    refine ⟨fun v hv => ?_, by simp [ih.2]⟩
    rcases List.mem_cons.mp hv with rfl | hv
    · exact ⟨_, _, rfl⟩
    · exact ih.1 v hv
theorem reads_at {h : Heap} {a : Addr} {ds : List PyData} {as : List Addr} (r : Reads h (.ref a) (.list ds) as) : a ∈ as := by cases r; simp
theorem law_ends {prog : Program} {w : World} {mean : ExcName → Option Value} {mg mb : Str → Option Value} {s : Shared} {C N : Addr} {mN : Str → Option Value} (T : Top V1 (looseW V1 []) mean mg mb s.heap) (P : FmAt mg fmtRec s.heap C N mN)
    {fa S0 : Addr} {vs : List Value} {ns : List Int} (hmg : mg (Str.ofString "law") = some (.ref fa)) (hL : s.heap.IsList S0 vs.toArray) (hI : IntsAre vs ns) (hl : ns.length ≤ 63) (hS : S0 ≠ sysModules) {R : Result → Shared → Prop}
    (h : ∀ s', Keep s.heap s'.heap → s'.gens = s.gens → s'.os = s.os → R (.ok (.ret (.bool true))) s') : codeAny (model prog w) callerA (.call (.ref fa) ⟨[.ref S0], []⟩) R s := by
  have hn : dLaw.name = Str.ofString "law" := beq_iff_eq.mp (List.find?_some (p := fun r : DefRec => r.name == Str.ofString "law") law_find)
  obtain ⟨a, o, pm, code, doc, h1, h2, h3, h4⟩ := T.fn dLaw (List.mem_of_find?_eq_some law_find)
  rw [hn, hmg] at h1
  obtain rfl : fa = a := by injection h1 with e; injection e
  obtain ⟨oS, hoS, hc, k, hd⟩ := hL
  obtain ⟨hi, hlen⟩ := ints_are hI
  have hB : Fz (fun b => if b = S0 then some oS else none) s.heap := by
    refine ⟨fun b o e => ?_, fun b o e => ?_⟩
    · by_cases q : b = S0
      · rw [q]
        have e : (if b = S0 then some oS else none) = some o := e
        rw [if_pos q] at e; cases e; exact hoS
      · have e : (if b = S0 then some oS else none) = some o := e
        rw [if_neg q] at e; cases e
    · by_cases q : b = S0
      · rw [q]; exact hS
      · have e : (if b = S0 then some oS else none) = some o := e
        rw [if_neg q] at e; cases e
  have hzz : sizeLine = 16777216 := by decide
  refine codeAny_mono (sp_law (T := ⟨V1, looseW V1 [], mean, mg, mb⟩) ⟨rfl, rfl, by decide +kernel, by decide +kernel⟩ rfl ⟨rfl, rfl⟩ T hB P (if_pos rfl) hc hd hi (by omega) fa o pm code doc h2 h3 h4) fun r s' hr => ?_
  obtain ⟨v, B', rfl, hg, rfl⟩ := hr
  exact h s' hg.keep hg.gens hg.os
end Mine
set_option maxHeartbeats 8000000 in
theorem PySem.Challenge.cw_in0092_01_holds : PySem.Challenge.rw_in0092_01.Holds := by
  w_on; refine holds_law Mine.said1 fun said => ?_; o_head Mine.fmHook
  (case hw => w_witness2)
  intro w s₀ s₁ mg mb G Y fa o pm cd doc dV kV ho hd hcd hD hmg hg args vals as hpre hlay hrd hwl hlo
  have TD := G.TD
  have T := G.T
  clear G ho hd hcd hD
  have hlo2 := hlo
  obtain ⟨C, N, mN, P⟩ := Mine.fm_at T TD Y
  clear TD Y
  wrow_args hpre hlay hrd hwl hlo
  rename_i hs0 hl0 hL1 hr1 hl2 L1 L2 S0 vs L3 hL ra w1 r0 hI hr hc1 hc2
  refine enter_call (Mine.law_ends T P hmg hL hI (by omega) (fun e => by have := hlo2 S0 (List.mem_append_left _ (Mine.reads_at r0)); rw [e] at this; cases this) fun s' hk hg' ho' => ?_)
  refine GoodW.toG ⟨.inl ⟨_, .bool true, [], rfl, raisesW_false (by wrow_none_raised), .bool true, postW_of (by wrow_shape) (by wtm_val) (by w_fin), fun _ => ⟨List.nodup_nil, fun a ha => nomatch ha⟩⟩, hk, ho', hg'.trans hg⟩
