import PyProof.Rows.All
import Wide.All
import OpenK.AllK
import Wide.FinOn
import PyProof.EqLayable
import PyProof.EqAt
import PyProof.CompMap
import PyProof.MeetsStr
import PyProof.FactsAll.str_5
import PyProof.FactsAll.list_1
import PyProof.FactsAll.list_2
import PyProof.FactsAll.list_3
import PyProof.FactsAll.range_iterator_1
import PyProof.AutoListH
import PyProof.ListOps
import PyProof.AutoRange
import PyProof.ListIndex
import PyProof.SliceMore
import PyProof.FactsSeq
import PyProof.Seq
import PyProof.FactsAll.range_1
import PyProof.FactsAll.int_6
import PyProof.FactsAll.int_1
import PyProof.NoPylong
import PyProof.MakeMany
import PyProof.NeKinds
import PyProof.StrReplace2
import PyProof.AutoFloatOps
import PyProof.FactsAll.tuple_1
import PyProof.MeetsSeq
import Lean
import PySem.Challenge.RW_sl0016_01
set_option Elab.async false
section
set_option maxRecDepth 100000
namespace Mine
open PySem PySem.W PySem.W.X PyProof.Rows

noncomputable abbrev Ldg := List (Addr × Obj)
noncomputable abbrev RPost := Result → Ldg → Nat → Prop

structure VV where
  prog : Program
  w : World
  h₀ : Heap
  n₁ : Nat
  kt : KT
  tabs : List Addr
  g : Array GenState
  d : Drawn
  os : OsState

noncomputable def offTabs (V : VV) (a : Addr) : Bool := V.tabs.all fun P => !(Nat.beq P a)
theorem offTabs_not {V : VV} {a : Addr} (h : offTabs V a = true) : a ∉ V.tabs := fun hm => by
  have q := List.all_eq_true.mp h a hm
  rw [Nat.beq_refl] at q
  cases q

structure VV.Ok (V : VV) : Prop where
  size : V.h₀.objs.size = V.n₁
  kt : V.kt.Holds V.h₀ 1 0
  tabs : ∀ P ∈ V.tabs, ∃ c ps, V.h₀.TableAt c P ps

structure Led (V : VV) (h : Heap) (L : Ldg) : Prop where
  size : V.n₁ ≤ h.objs.size
  keep : ∀ b o, V.h₀.get? b = some o → b ∉ V.tabs → h.get? b = some o
  tab : ∀ P ∈ V.tabs, ∃ c ps more, V.h₀.TableAt c P ps ∧ h.get? P = some (tableObj (ps ++ more))
  led : ∀ p ∈ L, h.get? p.1 = some p.2
  nodup : (L.map (·.1)).Nodup
  new : ∀ p ∈ L, V.n₁ ≤ p.1 ∨ p.1 ∈ V.tabs

noncomputable def sh (V : VV) (h : Heap) (tk : Nat) : Shared := ⟨h, V.g, V.d, tk + 1, V.os⟩

noncomputable def Post (V : VV) (R : RPost) (r : Result) (s : Shared) : Prop := ∃ h tk L, s = sh V h tk ∧ Led V h L ∧ R r L tk

noncomputable def CodeG (V : VV) (A : Around) (c : Code) (R : RPost) (L : Ldg) (tk : Nat) : Prop :=
  ∀ h, Led V h L → codeAny (model V.prog V.w) A c (Post V R) (sh V h tk)

noncomputable def Go (V : VV) (A : Around) (c : Code) (t : Sem Fin) (R : RPost) (L : Ldg) (tk : Nat) : Prop :=
  ∀ h, Led V h L → wpOwn (model V.prog V.w) A c t (postC V.prog V.w A (Post V R)) (postE (Post V R)) (sh V h tk)

section
variable {V : VV} {A : Around} {c : Code} {R : RPost} {L : Ldg} {tk : Nat}

theorem Led.top {h : Heap} (O : V.Ok) (D : Led V h L) {a : Addr} {o : Obj} (e : V.kt.get a = some o) (nt : offTabs V a = true) : h.get? a = some o :=
  D.keep a o (by have z := KT.Holds.get O.kt e; rw [Nat.one_mul, Nat.add_zero] at z; exact z) (offTabs_not nt)

theorem go_code (x : Go V A c (denote table c) R L tk) : CodeG V A c R L tk :=
  fun h D => y_code _ _ _ _ _ _ (x h D)
theorem go_eq {t t' : Sem Fin} (e : t = t') (x : Go V A c t' R L tk) : Go V A c t R L tk := by rw [e]; exact x
theorem go_rule {t : String} {k : Unit → Sem Fin} (x : Go V A c (k ()) R L tk) : Go V A c (.rule t k) R L tk := fun h D Γ p hc hΓ => x h D Γ p hc hΓ
theorem go_at {q : Pos} {k : Unit → Sem Fin} (x : Go V A c (k ()) R L tk) : Go V A c (.at q k) R L tk := fun h D Γ _ hc hΓ => x h D Γ q hc hΓ
theorem go_point {l : List Value} {k : Unit → Sem Fin} (x : Go V A c (k ()) R L tk) : Go V A c (.point l k) R L tk := fun h D Γ p hc hΓ => x h D Γ p hc hΓ
theorem go_ask {k : Setting → Sem Fin} (x : Go V A c (k ⟨V.prog, V.w.params⟩) R L tk) : Go V A c (.ask k) R L tk := fun h D Γ p hc hΓ => x h D Γ p hc hΓ
theorem go_skim (n : Nat) {t : Sem Fin} (x : Go V A c (skim ⟨V.prog, V.w.params⟩ n t) R L tk) : Go V A c t R L tk := fun h D => y_skim _ _ _ _ _ _ _ _ _ n (x h D)
theorem go_fresh {k : Tok → Sem Fin} (x : Go V A c (k (tk + 1)) R L (tk + 1)) : Go V A c (.fresh k) R L tk := fun h D Γ p hc hΓ => x h D Γ p hc hΓ
theorem go_handled {k : Option Value → Sem Fin} (x : Go V A c (k A.handled) R L tk) : Go V A c (.handled false k) R L tk := fun h D => y_handled _ _ _ _ _ _ _ _ _ (x h D)
theorem go_stack {k : List (Code × Pos) → Sem Fin} (x : ∀ (p : Pos) (below : List (Code × Pos)), Lies (A.under c) ((c, p) :: below) → Go V A c (k ((c, p) :: below)) R L tk) : Go V A c (.stack k) R L tk :=
  fun h D => y_stack _ _ _ _ _ _ _ _ _ fun p below l => x p below l h D

theorem go_loadAt {a : Addr} {q : Option Value} {k : Obj → Sem Fin} {o : Obj} (hm : ∀ h, Led V h L → h.get? a = some o) (x : Go V A c (k o) R L tk) : Go V A c (.load a q k) R L tk :=
  fun h D => wpOwn_bind (m := loadPart a q) (f := k) (wpOwn_of_wpAny (wpAny_loadPart (hm h D) (x h D)))
theorem go_top (O : V.Ok) {a : Addr} {q : Option Value} {k : Obj → Sem Fin} {o : Obj} (e : V.kt.get a = some o) (nt : offTabs V a = true) (x : Go V A c (k o) R L tk) : Go V A c (.load a q k) R L tk :=
  go_loadAt (fun _ D => D.top O e nt) x
theorem go_old {a : Addr} {q : Option Value} {k : Obj → Sem Fin} {o : Obj} (e : V.h₀.get? a = some o) (nt : offTabs V a = true) (x : Go V A c (k o) R L tk) : Go V A c (.load a q k) R L tk :=
  go_loadAt (fun _ D => D.keep a o e (offTabs_not nt)) x
theorem go_load (i : Nat) {a : Addr} {q : Option Value} {k : Obj → Sem Fin} {o : Obj} (hi : L[i]? = some (a, o)) (x : Go V A c (k o) R L tk) : Go V A c (.load a q k) R L tk :=
  go_loadAt (fun _ D => D.led (a, o) (List.mem_of_getElem? hi)) x
theorem go_aliveAt {a : Addr} {k : Option Obj → Sem Fin} {o : Obj} (hm : ∀ h, Led V h L → h.get? a = some o) (x : Go V A c (k (some o)) R L tk) : Go V A c (.loadIfAlive a k) R L tk :=
  fun h D => y_alive _ _ _ _ _ _ _ _ _ _ _ _ _ _ _ (hm h D) (x h D)
theorem go_aliveTop (O : V.Ok) {a : Addr} {k : Option Obj → Sem Fin} {o : Obj} (e : V.kt.get a = some o) (nt : offTabs V a = true) (x : Go V A c (k (some o)) R L tk) : Go V A c (.loadIfAlive a k) R L tk :=
  go_aliveAt (fun _ D => D.top O e nt) x
theorem go_alive (i : Nat) {a : Addr} {k : Option Obj → Sem Fin} {o : Obj} (hi : L[i]? = some (a, o)) (x : Go V A c (k (some o)) R L tk) : Go V A c (.loadIfAlive a k) R L tk :=
  go_aliveAt (fun _ D => D.led (a, o) (List.mem_of_getElem? hi)) x

theorem Led.lt {h : Heap} (D : Led V h L) {p : Addr × Obj} (hp : p ∈ L) : p.1 < h.objs.size := Heap.lt_size (D.led p hp)
theorem Led.alloc {h : Heap} (D : Led V h L) {o : Obj} (hf : o.isFreed = false) : Led V (h.push o) ((h.objs.size, o) :: L) := by
  refine ⟨by rw [Heap.size_push]; exact Nat.le_succ_of_le D.size, fun b o' e n => Heap.get?_push_of_some _ (D.keep b o' e n), fun P hP => ?_, fun p hp => ?_, ?_, fun p hp => ?_⟩
  · obtain ⟨c, ps, more, ht, hg⟩ := D.tab P hP
    exact ⟨c, ps, more, ht, Heap.get?_push_of_some _ hg⟩
  · rcases List.mem_cons.mp hp with rfl | hp
    · exact Heap.get?_push_size _ hf
    · exact Heap.get?_push_of_some _ (D.led p hp)
  · rw [List.map_cons]
    refine List.nodup_cons.mpr ⟨fun hm => ?_, D.nodup⟩
    obtain ⟨p, hp, he⟩ := List.mem_map.mp hm
    exact absurd he (Nat.ne_of_lt (D.lt hp))
  · rcases List.mem_cons.mp hp with rfl | hp
    · exact .inl D.size
    · exact D.new p hp
theorem go_alloc {o : Obj} {k : Addr → Sem Fin} (hf : o.isFreed = false) (x : ∀ a, Go V A c (k a) R ((a, o) :: L) tk) : Go V A c (.alloc o k) R L tk :=
  fun _ D => wpOwn_bind (m := alloc o) (f := k) (wpOwn_of_wpAny (wpAny_alloc (x _ _ (D.alloc hf))))

theorem split_at {L : Ldg} {i : Nat} {p : Addr × Obj} (hi : L[i]? = some p) : L = L.take i ++ p :: L.drop (i + 1) := by
  obtain ⟨hl, he⟩ := List.getElem?_eq_some_iff.mp hi
  rw [← he, ← List.drop_eq_getElem_cons hl, List.take_append_drop]
theorem map_set_same {L : Ldg} {i : Nat} {a : Addr} {o o' : Obj} (hi : L[i]? = some (a, o)) : (L.set i (a, o')).map (·.1) = L.map (·.1) := by
  rw [List.map_set]
  exact set_same (by rw [List.getElem?_map, hi]; rfl)
theorem Led.setAny {h : Heap} (D : Led V h L) {i : Nat} {a : Addr} {o : Obj} {f : Obj → Obj} (hi : L[i]? = some (a, o)) (hf : (f o).isFreed = false)
    (hk : ∀ b o', V.h₀.get? b = some o' → b ∉ V.tabs → b ≠ a) (ht : ∀ P ∈ V.tabs, P = a → ∃ c ps more, V.h₀.TableAt c P ps ∧ f o = tableObj (ps ++ more)) : Led V (h.update a f) (L.set i (a, f o)) := by
  have hm := List.mem_of_getElem? hi
  have ho := D.led _ hm
  have hs : Heap.SameBut a h (h.update a f) := Heap.SameBut.update ..
  have ge : (h.update a f).get? a = some (f o) := by first | exact Heap.get?_update_self f ho hf | exact Heap.get?_update_self _ ho hf
  have em := map_set_same (o' := f o) hi
  refine ⟨by rw [hs.1]; exact D.size, fun b o' e n => (hs.2 b (hk b o' e n)).trans (D.keep b o' e n), fun P hP => ?_, fun p hp => ?_, by rw [em]; exact D.nodup, fun p hp => ?_⟩
  · by_cases hPa : P = a
    · obtain ⟨c, ps, more, h1, h2⟩ := ht P hP hPa
      subst hPa
      exact ⟨c, ps, more, h1, by rw [ge, h2]⟩
    · obtain ⟨c, ps, more, h1, h2⟩ := D.tab P hP
      exact ⟨c, ps, more, h1, (hs.2 P hPa).trans h2⟩
  · obtain ⟨hl, _⟩ := List.getElem?_eq_some_iff.mp hi
    have hx : (a, f o) ∈ L.set i (a, f o) := List.mem_set hl _
    by_cases hpa : p.1 = a
    · have : p = (a, f o) := key_unique (by rw [em]; exact D.nodup) hp hx hpa
      subst this
      exact ge
    · rcases List.mem_or_eq_of_mem_set hp with hp | rfl
      · exact (hs.2 _ hpa).trans (D.led p hp)
      · exact absurd rfl hpa
  · rcases List.mem_or_eq_of_mem_set hp with hp | rfl
    · exact D.new p hp
    · exact D.new (a, o) hm
theorem Led.set {h : Heap} (O : V.Ok) (D : Led V h L) {i : Nat} {a : Addr} {o : Obj} {f : Obj → Obj} (hi : L[i]? = some (a, o)) (hf : (f o).isFreed = false) (hc : hasCls o = true) : Led V (h.update a f) (L.set i (a, f o)) := by
  have hm := List.mem_of_getElem? hi
  have ho := D.led _ hm
  have nt : a ∉ V.tabs := fun ht => by
    obtain ⟨c, ps, more, _, h2⟩ := D.tab a ht
    rw [h2] at ho
    cases ho
    cases hc
  refine D.setAny hi hf (fun b o' e n z => ?_) (fun P hP z => absurd (z ▸ hP) nt)
  subst z
  rcases D.new _ hm with q | q
  · have h1 := Heap.lt_size e
    rw [O.size] at h1
    exact absurd q (Nat.not_le.mpr h1)
  · exact nt q
theorem Led.grow {h : Heap} (O : V.Ok) (D : Led V h L) {i : Nat} {a : Addr} {vs more : Array Value} {f : Obj → Obj} (hi : L[i]? = some (a, tableObj vs)) (hn : f (tableObj vs) = tableObj (vs ++ more)) : Led V (h.update a f) (L.set i (a, tableObj (vs ++ more))) := by
  have hm := List.mem_of_getElem? hi
  have ho := D.led _ hm
  have z := D.setAny (f := f) hi (by rw [hn]; rfl) (fun b o' e n z => ?_) (fun P hP z => ?_)
  · rw [hn] at z; exact z
  · subst z
    rcases D.new _ hm with q | q
    · have h1 := Heap.lt_size e
      rw [O.size] at h1
      exact absurd q (Nat.not_le.mpr h1)
    · exact n q
  · subst z
    obtain ⟨c, ps, m₁, h1, h2⟩ := D.tab P hP
    rw [h2] at ho
    have e : ps ++ m₁ = vs := by
      have := congrArg Obj.data (Option.some.inj ho)
      injection this
    exact ⟨c, ps, m₁ ++ more, h1, by rw [hn, ← e, Array.append_assoc]⟩
theorem go_update (O : V.Ok) (i : Nat) {a : Addr} {q : Option Value} {f : Obj → Obj} {k : Unit → Sem Fin} {o : Obj} (hi : L[i]? = some (a, o)) (hf : (f o).isFreed = false) (hc : hasCls o = true)
    (x : Go V A c (k ()) R (L.set i (a, f o)) tk) : Go V A c (.update a q f k) R L tk :=
  fun _ D => wpOwn_bind (m := updatePart a q f) (f := k) (wpOwn_of_wpAny (wpAny_updatePart (D.led _ (List.mem_of_getElem? hi)) (x _ (D.set O hi hf hc))))
theorem go_grow (O : V.Ok) (i : Nat) {a : Addr} {q : Option Value} {f : Obj → Obj} {k : Unit → Sem Fin} {vs more : Array Value} (hi : L[i]? = some (a, tableObj vs)) (hn : f (tableObj vs) = tableObj (vs ++ more))
    (x : Go V A c (k ()) R (L.set i (a, tableObj (vs ++ more))) tk) : Go V A c (.update a q f k) R L tk :=
  fun _ D => wpOwn_bind (m := updatePart a q f) (f := k) (wpOwn_of_wpAny (wpAny_updatePart (D.led _ (List.mem_of_getElem? hi)) (x _ (D.grow O hi hn))))

theorem go_call {c' : Code} {hd : Option Value} {g : Bool} {l : List Value} {k : Result → Sem Fin} (hnb : okMark hd = true)
    (x : CodeG V ((A.under c).mark hd) c' (fun r L' tk' => Go V A c (k r) R L' tk') L tk) : Go V A c (.call c' hd g l k) R L tk := fun h D => by
  refine y_call _ _ _ _ _ _ _ _ _ _ _ _ _ (fun e => ?_) (codeAny_mono (x h D) fun r s' hr => ?_)
  · subst e; simp [okMark] at hnb
  · obtain ⟨h', tk', L', rfl, D', q⟩ := hr
    exact q h' D'
theorem go_done {f : Flow} (x : R (.ok f) L tk) : Go V A c (.pure (.done f)) R L tk := fun h D _ _ _ _ => ⟨h, tk, L, rfl, D, x⟩
theorem go_raise {e : Value} (x : R (.error e) L tk) : Go V A c (.raise e) R L tk := fun h D _ _ _ _ => ⟨h, tk, L, rfl, D, x⟩
theorem go_again {c' : Code} (hq : c'.quiet = true) (x : CodeG V A c' R L tk) : Go V A c (.pure (.again c')) R L tk := fun h D _ _ _ _ => ⟨hq, x h D⟩

/-- forget part of the ledger, or put it in another order -/
theorem Led.sub {h : Heap} {L' : Ldg} (D : Led V h L) (hs : ∀ p ∈ L', p ∈ L) (hn : (L'.map (·.1)).Nodup) : Led V h L' :=
  ⟨D.size, D.keep, D.tab, fun p hp => D.led p (hs p hp), hn, fun p hp => D.new p (hs p hp)⟩
noncomputable def pick (L : Ldg) : List Nat → Ldg
  | [] => []
  | i :: is => match L[i]? with
    | some p => p :: pick L is
    | none => pick L is
noncomputable def okIdx : List Nat → Bool
  | [] => true
  | i :: is => (is.all fun j => !(Nat.beq i j)) && okIdx is
end
end Mine
end
section
open PySem PySem.W PyProof.Rows
set_option maxRecDepth 100000
set_option maxHeartbeats 0
namespace Mine
local macro_rules | `(tactic| k_head) => `(tactic| z_head)
open_top hd for PySem.Challenge.rw_sl0016_01
end Mine
end
section
set_option maxRecDepth 100000
namespace Mine
open PySem PySem.W PySem.W.X PyProof.Rows

/-- what an event brings: an alloc its address (n 0); a contract whatever its words name -/
structure Sup where
  n : Nat → Nat
  z : Nat → Int
  s : Nat → Str
  v : Nat → List Value
structure Ev where
  s : Sup
  tk : Nat
noncomputable def sup0 : Sup := ⟨fun _ => 0, fun _ => 0, fun _ => ⟨#[]⟩, fun _ => []⟩
noncomputable def ev0 : Ev := ⟨sup0, 0⟩
structure Spec where
  need : Bool
  d : Nat
  code : Code
  pre : Ldg
  hasFact : Bool
  fact : Sup → Prop
  res : Sup → Result
  post : Sup → Ldg
  /-- what must be known of the values before (by the facts so far) -/
  hasHyp : Bool := false
  hyp : Prop := True
  /-- what is said of tokens: before (with hyp), and of before and behind -/
  hasT : Bool := false
  hypT : Nat → Prop := fun _ => True
  factT : Nat → Sup → Nat → Prop := fun _ _ _ => True
noncomputable def Spec.hypO (S : Spec) : Prop := match S.hasHyp with
  | true => S.hyp
  | false => True
noncomputable def Spec.hypTO (S : Spec) (t : Nat) : Prop := match S.hasHyp with
  | true => match S.hasT with
    | true => S.hypT t
    | false => True
  | false => True
noncomputable def Spec.hypB (S : Spec) (t : Nat) : Prop := match S.hasT with
  | true => S.hyp ∧ S.hypT t
  | false => S.hyp
noncomputable def Spec.factTO (S : Spec) (t : Nat) (σ : Sup) (t' : Nat) : Prop := match S.hasT with
  | true => S.factT t σ t'
  | false => True
/-- a proved proposition -/
structure HP where
  p : Prop
  h : p
noncomputable def hp0 : HP := ⟨True, trivial⟩
noncomputable def impL : List Prop → Prop → Prop
  | [], h => h
  | p :: fs, h => p → impL fs h
theorem impL_out : ∀ {fs : List Prop} {h : Prop}, impL fs h → (∀ p ∈ fs, p) → h
  | [], _, x, _ => x
  | _ :: _, _, x, f => impL_out (x (f _ (.head _))) fun p hp => f p (.tail _ hp)

noncomputable def Rm (A : Around) (b : Nat) : Prop := A.depth + 5 * b + 5 < recursionLimit ∧ A.units + 10 * b + 10 < cLine ∧ A.handled = none
noncomputable def postOf (S : Spec) (F : Ldg) (t : Nat) : RPost := fun r L' t' => t ≤ t' ∧ ∃ σ, S.fact σ ∧ S.factTO t σ t' ∧ r = S.res σ ∧ L' = S.post σ ++ F
noncomputable def Meets (V : VV) (S : Spec) : Prop := S.need = true → S.hypO → ∀ A F tk, S.hypTO tk → Rm A S.d → CodeG V A S.code (postOf S F tk) (S.pre ++ F) tk

inductive Eqn where
  | nat (a b : Nat) | bool (a b : Bool) | code (a b : Code) | tree (a b : Sem Fin) | ldg (a b : Ldg) | res (a b : Result) | props (a b : List Prop)
inductive Itm where
  | nat (a : Nat) | bool (a : Bool) | code (a : Code) | tree (a : Sem Fin) | ldg (a : Ldg) | res (a : Result) | props (a : List Prop)
noncomputable def Eqn.Holds : Eqn → Prop
  | .nat a b => a = b | .bool a b => a = b | .code a b => a = b | .tree a b => a = b | .ldg a b => a = b | .res a b => a = b | .props a b => a = b
noncomputable def Eqn.l : Eqn → Itm
  | .nat a _ => .nat a | .bool a _ => .bool a | .code a _ => .code a | .tree a _ => .tree a | .ldg a _ => .ldg a | .res a _ => .res a | .props a _ => .props a
noncomputable def Eqn.r : Eqn → Itm
  | .nat _ a => .nat a | .bool _ a => .bool a | .code _ a => .code a | .tree _ a => .tree a | .ldg _ a => .ldg a | .res _ a => .res a | .props _ a => .props a
theorem Eqn.holds_of {q : Eqn} (h : q.l = q.r) : q.Holds := by
  cases q <;> (simp only [Eqn.l, Eqn.r] at h; injection h)
noncomputable def sides (f : Eqn → Itm) : List Eqn → List Itm
  | [] => []
  | q :: l => f q :: sides f l
theorem all_of : ∀ {l : List Eqn}, sides Eqn.l l = sides Eqn.r l → ∀ q ∈ l, q.Holds
  | [], _, _, h => nomatch h
  | q :: l, e, p, h => by
    simp only [sides] at e
    injection e with e1 e2
    rcases List.mem_cons.mp h with rfl | h
    · exact Eqn.holds_of e1
    · exact all_of e2 p h

inductive Hint where
  | t | l (i : Nat) | g (i : Nat) | i | c (j : Nat) (is : List Nat) | a (j : Nat) (is : List Nat) | e (src : Option Nat) (li : Nat) (cells : List (Str × Nat)) (qual : Str) | q (j : Nat) (is : List Nat) | ch (j : Nat) (is : List Nat) (m : Nat) | ah (j : Nat) (is : List Nat) (m : Nat) | qh (j : Nat) (is : List Nat) (m : Nat)

noncomputable abbrev Kt := Code × (Result → Sem Fin)
noncomputable def dn (c : Code) : Sem Fin := PySem.W.ZFast.zw11892475500146522536 PySem.W.ZFast.tableZ c
theorem dn_eq (c : Code) : denote table c = dn c := by
  unfold dn
  rw [PySem.W.ZFast.ze11892475500146522536, PySem.W.ZFast.tableZ_eq]
noncomputable def qt (c : Code) : Bool := PySem.W.ZFast.zw17772548960776305114 c
theorem qt_eq (c : Code) : c.quiet = qt c := by
  unfold qt
  rw [PySem.W.ZFast.ze17772548960776305114]
noncomputable def nc (c : Code) : Bool := match c with
  | .builtin id _ => !(S.eqLit 35714603318786955769505017188 id)
  | _ => true
theorem nc_code : PySem.code "claim.caller" = 35714603318786955769505017188 := by decide +kernel
theorem nc_is {c : Code} (h : nc c = true) : c.isCaller = false := by
  unfold Code.isCaller
  split
  · exfalso
    unfold nc at h
    rw [← S.eqLit_eq "claim.caller" _ nc_code] at h
    simp at h
  · rfl
theorem frames_le (c : Code) : c.frames ≤ 3 := by
  unfold Code.frames
  split <;> (try decide)
  split <;> decide
theorem weight_le {c : Code} (h : c.isCaller = false) : c.weight ≤ 5 := by
  have := frames_le c
  unfold Code.weight
  rw [h]
  simp only [Bool.false_eq_true, if_false]
  split <;> split <;> omega
theorem units_le (c : Code) : c.cUnits ≤ 10 := by
  have := frames_le c
  unfold Code.cUnits
  split <;> omega
noncomputable def cellsAt (L : Ldg) (base : List (Str × Addr)) : List (Str × Nat) → List (Str × Addr)
  | [] => base
  | (x, i) :: r => match L[i]? with
    | some p => (x, p.1) :: cellsAt L base r
    | none => base
noncomputable def frameAt (fd : FuncData) (a l : Addr) (cells : List (Str × Addr)) (qual : Str) : Code :=
  let env : Env := { scope := fd.scope, locals := l, globals := fd.globals, cells, qual, func := some a, code := fd.code, frame := some l, builtins := fd.builtins }
  match fd.body with
  | .stmts b => .func b env
  | .expr x => .expr x env
noncomputable def frameCode (V : VV) (c : Code) (L : Ldg) (src : Option Nat) (li : Nat) (cells : List (Str × Nat)) (qual : Str) : Code := match c with
  | .call (.ref a) _ => match (match src with | none => V.kt.get a | some i => Option.map Prod.snd (L[i]?)) with
    | some o => match o.data with
      | .func fd => match L[li]? with
        | some p => frameAt fd a p.1 (cellsAt L fd.closure cells) qual
        | none => c
      | _ => c
    | none => c
  | c => c
noncomputable def addFact (S : Spec) (σ : Sup) (fs : List Prop) : List Prop := match S.hasFact with
  | true => S.fact σ :: fs
  | false => fs
theorem addFact_ok {S : Spec} {σ : Sup} {fs : List Prop} (h : S.fact σ) (hfs : ∀ p ∈ fs, p) : ∀ p ∈ addFact S σ fs, p := by
  intro p hp
  unfold addFact at hp
  split at hp
  · rcases List.mem_cons.mp hp with rfl | hp
    · exact h
    · exact hfs p hp
  · exact hfs p hp
noncomputable def addF (tf : Bool) (S : Spec) (t : Nat) (σ : Sup) (t' : Nat) (fs : List Prop) : List Prop := match tf with
  | false => addFact S σ fs
  | true => (t ≤ t') :: (match S.hasT with
    | true => S.factT t σ t' :: addFact S σ fs
    | false => addFact S σ fs)
theorem addF_ok {tf : Bool} {S : Spec} {t : Nat} {σ : Sup} {t' : Nat} {fs : List Prop} (h : S.fact σ) (hl : t ≤ t') (ht : S.factTO t σ t') (hfs : ∀ p ∈ fs, p) : ∀ p ∈ addF tf S t σ t' fs, p := by
  intro p hp
  unfold addF at hp
  split at hp
  · exact addFact_ok h hfs p hp
  · rcases List.mem_cons.mp hp with rfl | hp
    · exact hl
    · unfold Spec.factTO at ht
      split at hp
      · rename_i hT
        rw [hT] at ht
        rcases List.mem_cons.mp hp with rfl | hp
        · exact ht
        · exact addFact_ok h hfs p hp
      · exact addFact_ok h hfs p hp
noncomputable def enterT (code : Code) : Sem Fin := R.bindR (ZFast.enterX 0) fun _ => .pure (.again code)

noncomputable def takes : List Nat → Ldg → Ldg × Ldg
  | [], L => ([], L)
  | i :: is, L => match L[i]? with
    | some p => (p :: (takes is (L.eraseIdx i)).1, (takes is (L.eraseIdx i)).2)
    | none => ([], L)

noncomputable abbrev RunTy := List Hint → Nat → Code → List Kt → Sem Fin → Nat → Ldg → List Prop → Nat → List Eqn
noncomputable def bad : List Eqn := [.nat 0 1]
/-- what is asked at the end: result, hints left, room, events, ledger, facts, tokens -/
noncomputable abbrev FinTy := Result → List Hint → Nat → Nat → Ldg → List Prop → Nat → List Eqn
noncomputable def endF (T : Spec) (out : (Nat → Ev) → Sup) (ex : (Nat → Ev) → List Prop) (fis : List Nat) (P : Nat → Ev) : FinTy := fun r _ _ _ L fs _ => [.res r (T.res (out P)), .ldg (takes fis L).1 (T.post (out P)), .props fs (ex P)]
section
variable (V : VV) (cs : List (Code → Ldg → Spec)) (dep : Nat → Nat) (tf : Bool) (fin : FinTy) (Pf : Nat → HP) (P : Nat → Ev)
noncomputable def retR (ih : RunTy) (r : Result) (hs : List Hint) (b : Nat) (κ : List Kt) (e : Nat) (L : Ldg) (fs : List Prop) (tk : Nat) : List Eqn := match κ with
  | [] => fin r hs b e L fs tk
  | k :: κ => ih hs (Nat.succ b) k.1 κ (k.2 r) e L fs tk
noncomputable def stepR (ih : RunTy) : RunTy := fun hs b c κ t e L fs tk => match t with
  | .pure fi => match fi with
    | .done f => retR fin ih (.ok f) hs b κ e L fs tk
    | .again c' => match hs with
      | .a j is :: hs => match cs[j]? with
        | some Cf => .bool (Nat.ble (dep j) e) true :: .bool (Cf c' (takes is L).1).hasHyp false :: .bool (Cf c' (takes is L).1).need true :: .code c' (Cf c' (takes is L).1).code :: .bool (qt c') true :: .bool (Nat.ble (Cf c' (takes is L).1).d b) true :: .ldg (takes is L).1 (Cf c' (takes is L).1).pre ::
            retR fin ih ((Cf c' (takes is L).1).res (P e).s) hs b κ (Nat.succ e) ((Cf c' (takes is L).1).post (P e).s ++ (takes is L).2) (addF tf (Cf c' (takes is L).1) tk (P e).s (P e).tk fs) (P e).tk
        | none => bad
      | .ah j is m :: hs => match cs[j]? with
        | some Cf => .bool (Nat.ble (dep j) e) true :: .bool (Cf c' (takes is L).1).hasHyp true :: .props [impL fs ((Cf c' (takes is L).1).hypB tk)] [(Pf m).p] :: .bool (Cf c' (takes is L).1).need true :: .code c' (Cf c' (takes is L).1).code :: .bool (qt c') true :: .bool (Nat.ble (Cf c' (takes is L).1).d b) true :: .ldg (takes is L).1 (Cf c' (takes is L).1).pre ::
            retR fin ih ((Cf c' (takes is L).1).res (P e).s) hs b κ (Nat.succ e) ((Cf c' (takes is L).1).post (P e).s ++ (takes is L).2) (addF tf (Cf c' (takes is L).1) tk (P e).s (P e).tk fs) (P e).tk
        | none => bad
      | hs => .bool (qt c') true :: ih hs b c' κ (dn c') e L fs tk
  | .raise v => retR fin ih (.error v) hs b κ e L fs tk
  | .rule _ k => ih hs b c κ (k ()) e L fs tk
  | .at _ k => ih hs b c κ (k ()) e L fs tk
  | .point _ k => ih hs b c κ (k ()) e L fs tk
  | .ask k => ih hs b c κ (k ⟨V.prog, V.w.params⟩) e L fs tk
  | .fresh k => ih hs b c κ (k (Nat.succ tk)) e L fs (Nat.succ tk)
  | .load a _ k => match hs with
    | .t :: hs => match V.kt.get a with
      | some o => .bool (offTabs V a) true :: ih hs b c κ (k o) e L fs tk
      | none => bad
    | .l i :: hs => match L[i]? with
      | some p => .nat a p.1 :: ih hs b c κ (k p.2) e L fs tk
      | none => bad
    | _ => bad
  | .loadIfAlive a k => match hs with
    | .t :: hs => match V.kt.get a with
      | some o => .bool (offTabs V a) true :: ih hs b c κ (k (some o)) e L fs tk
      | none => bad
    | .l i :: hs => match L[i]? with
      | some p => .nat a p.1 :: ih hs b c κ (k (some p.2)) e L fs tk
      | none => bad
    | _ => bad
  | .alloc o k => .bool o.isFreed false :: ih hs b c κ (k ((P e).s.n 0)) (Nat.succ e) (((P e).s.n 0, o) :: L) fs tk
  | .update a _ f k => match hs with
    | .l i :: hs => match L[i]? with
      | some p => .nat a p.1 :: .bool (f p.2).isFreed false :: .bool (hasCls p.2) true :: ih hs b c κ (k ()) e (L.set i (p.1, f p.2)) fs tk
      | none => bad
    | .g i :: hs => match L[i]? with
      | some p => match tabOf p.2 with
        | some vs => match tabOf (f (tableObj vs)) with
          | some vs' => .nat a p.1 :: .ldg [(0, f (tableObj vs))] [(0, tableObj (vs ++ (vs'.toList.drop vs.size).toArray))] :: ih hs b c κ (k ()) e (L.set i (p.1, tableObj (vs ++ (vs'.toList.drop vs.size).toArray))) fs tk
          | none => bad
        | none => bad
      | none => bad
    | _ => bad
  | .call c' hd _ _ k => match hs with
    | .i :: hs => match hd with
      | none => .bool (nc c) true :: .bool (Nat.ble 1 b) true :: ih hs (Nat.pred b) c' ((c, k) :: κ) (dn c') e L fs tk
      | some _ => bad
    | .c j is :: hs => match hd with
     | none => match cs[j]? with
      | some Cf => .bool (Nat.ble (dep j) e) true :: .bool (Cf c' (takes is L).1).hasHyp false :: .bool (Cf c' (takes is L).1).need true :: .code c' (Cf c' (takes is L).1).code :: .bool (nc c) true :: .bool (Nat.ble (Nat.succ (Cf c' (takes is L).1).d) b) true :: .ldg (takes is L).1 (Cf c' (takes is L).1).pre ::
          ih hs b c κ (k ((Cf c' (takes is L).1).res (P e).s)) (Nat.succ e) ((Cf c' (takes is L).1).post (P e).s ++ (takes is L).2) (addF tf (Cf c' (takes is L).1) tk (P e).s (P e).tk fs) (P e).tk
      | none => bad
     | some _ => bad
    | .ch j is m :: hs => match hd with
     | none => match cs[j]? with
      | some Cf => .bool (Nat.ble (dep j) e) true :: .bool (Cf c' (takes is L).1).hasHyp true :: .props [impL fs ((Cf c' (takes is L).1).hypB tk)] [(Pf m).p] :: .bool (Cf c' (takes is L).1).need true :: .code c' (Cf c' (takes is L).1).code :: .bool (nc c) true :: .bool (Nat.ble (Nat.succ (Cf c' (takes is L).1).d) b) true :: .ldg (takes is L).1 (Cf c' (takes is L).1).pre ::
          ih hs b c κ (k ((Cf c' (takes is L).1).res (P e).s)) (Nat.succ e) ((Cf c' (takes is L).1).post (P e).s ++ (takes is L).2) (addF tf (Cf c' (takes is L).1) tk (P e).s (P e).tk fs) (P e).tk
      | none => bad
     | some _ => bad
    | _ => bad
  | .handled own k => match own with
    | false => ih hs b c κ (k none) e L fs tk
    | true => bad
  | .stack k => match hs with
    | .e src li cells qual :: hs => .tree (.stack k) (enterT (frameCode V c L src li cells qual)) :: .bool (nc c) true ::
        ih hs b c κ (.pure (.again (frameCode V c L src li cells qual))) e L fs tk
    | _ => bad
  | _ => bad
noncomputable def runF : Nat → RunTy
  | 0 => fun _ _ _ _ _ _ _ _ _ => bad
  | n + 1 => stepR V cs dep tf fin Pf P (runF n)
end
noncomputable def run (V : VV) (cs : List (Code → Ldg → Spec)) (T : Spec) (out : (Nat → Ev) → Sup) (ex : (Nat → Ev) → List Prop) (fis : List Nat) (P : Nat → Ev) : Nat → RunTy := runF V cs (fun _ => 0) false (endF T out ex fis P) (fun _ => hp0) P

/-! soundness -/
section
variable {V : VV} {cs : (Nat → Ev) → List (Code → Ldg → Spec)} {dep : Nat → Nat} {tf : Bool} {t₀ : Nat} {fin : (Nat → Ev) → FinTy} {Pf : (Nat → Ev) → Nat → HP} {R₀ : RPost} {A₀ : Around} {F : Ldg}
noncomputable def ar (A₀ : Around) : List Kt → Around
  | [] => A₀
  | k :: κ => ((ar A₀ κ).under k.1).mark none
noncomputable def po (V : VV) (A₀ : Around) (R₀ : RPost) : List Kt → RPost
  | [] => R₀
  | k :: κ => fun r L tk => Go V (ar A₀ κ) k.1 (k.2 r) (po V A₀ R₀ κ) L tk
noncomputable def RmK (A₀ : Around) : List Kt → Nat → Prop
  | [], b => Rm A₀ b
  | k :: κ, b => k.1.isCaller = false ∧ RmK A₀ κ (b + 1)
theorem Rm.under {A : Around} {b : Nat} {c : Code} (h : Rm A (b + 1)) (hc : c.isCaller = false) : Rm ((A.under c).mark none) b := by
  have w := weight_le hc
  have u := units_le c
  obtain ⟨h1, h2, h3⟩ := h
  refine ⟨?_, ?_, ?_⟩
  · show A.depth + c.weight + 5 * b + 5 < _
    omega
  · show A.units + c.cUnits + 10 * b + 10 < _
    omega
  · show Option.or none A.handled = none
    rw [h3]; rfl
theorem Rm.mono {A : Around} {b b' : Nat} (h : Rm A b) (hb : b' ≤ b) : Rm A b' := ⟨by have := h.1; omega, by have := h.2.1; omega, h.2.2⟩
theorem RmK.rm : ∀ {κ : List Kt} {b : Nat}, RmK A₀ κ b → Rm (ar A₀ κ) b
  | [], _, h => h
  | _ :: _, _, h => Rm.under (RmK.rm h.2) h.1
noncomputable def CsOk (V : VV) : List (Code → Ldg → Spec) → Prop
  | [] => True
  | S :: cs => (∀ c l, Meets V (S c l)) ∧ CsOk V cs
theorem CsOk.get : ∀ {cs : List (Code → Ldg → Spec)}, CsOk V cs → ∀ {j : Nat} {S : Code → Ldg → Spec}, cs[j]? = some S → ∀ c l, Meets V (S c l)
  | [], _, _, _, h => by cases h
  | S :: cs, h, 0, S', e => by cases e; exact h.1
  | S :: cs, h, j + 1, S', e => CsOk.get h.2 (j := j) (by simpa using e)

noncomputable def setEv (P : Nat → Ev) (e : Nat) (x : Ev) : Nat → Ev := fun i => if i = e then x else P i

structure Good (V : VV) : Prop where
  ok : V.Ok
  lim : V.h₀.NoLimit
  st : offTabs V cStatics = true
  top : (V.h₀.get? cStatics).isSome = true
theorem Good.limit {h : Heap} {L : Ldg} (G : Good V) (D : Led V h L) : h.NoLimit :=
  G.lim.at fun o e => D.keep _ o e (offTabs_not G.st)

theorem erase_perm : ∀ {L : Ldg} {i : Nat} {p : Addr × Obj}, L[i]? = some p → (p :: L.eraseIdx i).Perm L
  | [], _, _, h => by cases h
  | q :: L, 0, p, h => by cases h; exact List.Perm.refl _
  | q :: L, i + 1, p, h => (List.Perm.swap q p _).trans (List.Perm.cons q (erase_perm (by simpa using h)))
theorem takes_perm : ∀ (is : List Nat) (L : Ldg), ((takes is L).1 ++ (takes is L).2).Perm L
  | [], L => List.Perm.refl _
  | i :: is, L => by
    unfold takes
    split
    · rename_i p hp
      have h1 := takes_perm is (L.eraseIdx i)
      exact (List.Perm.cons p h1).trans (erase_perm hp)
    · exact List.Perm.refl _
theorem Led.perm {h : Heap} {L L' : Ldg} (D : Led V h L) (p : L'.Perm L) : Led V h L' :=
  D.sub (fun q hq => p.mem_iff.mp hq) ((p.map (·.1)).nodup_iff.mpr D.nodup)
theorem Go.perm {A : Around} {c : Code} {t : Sem Fin} {R : RPost} {L L' : Ldg} {tk : Nat} (p : L'.Perm L) (x : Go V A c t R L' tk) : Go V A c t R L tk :=
  fun h D => x h (D.perm p)
theorem CodeG.perm {A : Around} {c : Code} {R : RPost} {L L' : Ldg} {tk : Nat} (p : L'.Perm L) (x : CodeG V A c R L' tk) : CodeG V A c R L tk :=
  fun h D => x h (D.perm p)
theorem CodeG.mono {A : Around} {c : Code} {R R' : RPost} {L : Ldg} {tk : Nat} (x : CodeG V A c R L tk) (m : ∀ r L tk, R r L tk → R' r L tk) : CodeG V A c R' L tk :=
  fun h D => codeAny_mono (x h D) fun _ _ hr => by
    obtain ⟨h', tk', L', e, D', q⟩ := hr
    exact ⟨h', tk', L', e, D', m _ _ _ q⟩
theorem get_app {L F : Ldg} {i : Nat} {p : Addr × Obj} (h : L[i]? = some p) : (L ++ F)[i]? = some p := by
  obtain ⟨hl, he⟩ := List.getElem?_eq_some_iff.mp h
  rw [List.getElem?_append_left hl]
  exact h
theorem set_app {L F : Ldg} {i : Nat} {p q : Addr × Obj} (h : L[i]? = some p) : (L ++ F).set i q = L.set i q ++ F := by
  obtain ⟨hl, he⟩ := List.getElem?_eq_some_iff.mp h
  exact List.set_append_left _ _ hl

noncomputable abbrev HoldsAll (l : List Eqn) : Prop := ∀ q ∈ l, q.Holds
theorem HoldsAll.head {q : Eqn} {l : List Eqn} (h : HoldsAll (q :: l)) : q.Holds := h q (.head _)
theorem HoldsAll.tail {q : Eqn} {l : List Eqn} (h : HoldsAll (q :: l)) : HoldsAll l := fun p hp => h p (.tail _ hp)
theorem not_bad (h : HoldsAll bad) : False := by have := h (.nat 0 1) (.head _); cases this

noncomputable def Agree (e : Nat) (P Q : Nat → Ev) : Prop := ∀ i, i < e → P i = Q i
theorem Agree.set {e : Nat} {P Q : Nat → Ev} {x : Ev} (h : Agree (e + 1) P (setEv Q e x)) : Agree e P Q := fun i hi => by
  rw [h i (Nat.lt_succ_of_lt hi)]
  show (if i = e then x else Q i) = Q i
  rw [if_neg (Nat.ne_of_lt hi)]
theorem Agree.at {e : Nat} {P Q : Nat → Ev} {x : Ev} (h : Agree (e + 1) P (setEv Q e x)) : P e = x := by
  rw [h e (Nat.lt_succ_self e)]
  show (if e = e then x else Q e) = x
  rw [if_pos rfl]

theorem hypO_no {S : Spec} (h : S.hasHyp = false) (t : Nat) : S.hypO ∧ S.hypTO t := by
  unfold Spec.hypO Spec.hypTO
  rw [h]; exact ⟨trivial, trivial⟩
theorem hypO_yes {S : Spec} {fs : List Prop} {p : HP} {t : Nat} (e : ([impL fs (S.hypB t)] : List Prop) = [p.p]) (hfs : ∀ q ∈ fs, q) : S.hypO ∧ S.hypTO t := by
  injection e with e _
  have z : S.hypB t := impL_out (e ▸ p.h) hfs
  unfold Spec.hypB at z
  unfold Spec.hypO Spec.hypTO
  cases hT : S.hasT <;> cases hH : S.hasHyp <;> rw [hT] at z <;> simp only [] <;> first | exact ⟨trivial, trivial⟩ | exact ⟨z, trivial⟩ | exact z
noncomputable abbrev Sound (V : VV) (R₀ : RPost) (A₀ : Around) (F : Ldg) (t₀ : Nat) (rn : (Nat → Ev) → RunTy) : Prop :=
  ∀ hs b c κ t e L fs tk P₀, (∀ P, Agree e P P₀ → HoldsAll (rn P hs b c κ t e L fs tk)) → (∀ p ∈ fs, p) → t₀ ≤ tk → RmK A₀ κ b →
    Go V (ar A₀ κ) c t (po V A₀ R₀ κ) (L ++ F) tk
noncomputable abbrev FinOk (V : VV) (R₀ : RPost) (A₀ : Around) (F : Ldg) (t₀ : Nat) (fin : (Nat → Ev) → FinTy) : Prop :=
  ∀ r hs b e L fs tk P₀, (∀ P, Agree e P P₀ → HoldsAll (fin P r hs b e L fs tk)) → (∀ p ∈ fs, p) → t₀ ≤ tk → Rm A₀ b → ∀ h, Led V h (L ++ F) → ∃ L', Led V h L' ∧ R₀ r L' tk
section
variable (G : Good V) (hcs : ∀ P, CsOk V (cs P)) (hdep : ∀ j P Q, Agree (dep j) P Q → (cs P)[j]? = (cs Q)[j]?) (hF : FinOk V R₀ A₀ F t₀ fin) (rn : (Nat → Ev) → RunTy) (IH : Sound V R₀ A₀ F t₀ rn)
include hF IH in
theorem ret_sound {r : Result} {hs : List Hint} {b : Nat} {κ : List Kt} {e : Nat} {L : Ldg} {fs : List Prop} {tk : Nat} {P₀ : Nat → Ev}
    (H : ∀ P, Agree e P P₀ → HoldsAll (retR (fin P) (rn P) r hs b κ e L fs tk)) (hfs : ∀ p ∈ fs, p) (ht : t₀ ≤ tk) (hR : RmK A₀ κ b) :
    ∀ h, Led V h (L ++ F) → ∃ L', Led V h L' ∧ po V A₀ R₀ κ r L' tk := by
  cases κ with
  | nil => exact hF r hs b e L fs tk P₀ H hfs ht hR
  | cons k κ =>
    intro h D
    exact ⟨L ++ F, D, IH hs (b + 1) k.1 κ (k.2 r) e L fs tk P₀ H hfs ht hR.2⟩
theorem go_post {A : Around} {c : Code} {R : RPost} {L : Ldg} {tk : Nat} {r : Result} {t : Sem Fin} (ht : t = leafOf r) (x : ∀ h, Led V h L → ∃ L', Led V h L' ∧ R r L' tk) : Go V A c t R L tk := by
  intro h D
  obtain ⟨L', D', q⟩ := x h D
  cases r with
  | ok f => subst ht; exact (go_done (L := L') q) h D'
  | error v => subst ht; exact (go_raise (L := L') q) h D'

include G hcs hdep hF IH in
theorem step_sound : Sound V R₀ A₀ F t₀ (fun P => stepR V (cs P) dep tf (fin P) (Pf P) P (rn P)) := by
  intro hs b c κ t e L fs tk P₀ H hfs ht hR
  have O := G.ok
  have tl : ∀ {Q : (Nat → Ev) → Eqn} {l : (Nat → Ev) → List Eqn}, (∀ P, Agree e P P₀ → HoldsAll (Q P :: l P)) → ∀ P, Agree e P P₀ → HoldsAll (l P) := fun h P a => (h P a).tail
  have rf : Agree e P₀ P₀ := fun _ _ => rfl
  cases t with
  | pure fi =>
    cases fi with
    | done f => exact go_post rfl (ret_sound hF rn IH H hfs ht hR)
    | again c' =>
      have plain : (∀ P, Agree e P P₀ → HoldsAll (.bool (qt c') true :: rn P hs b c' κ (dn c') e L fs tk)) → Go V (ar A₀ κ) c (.pure (.again c')) (po V A₀ R₀ κ) (L ++ F) tk := by
        intro H
        have h1 : qt c' = true := (H P₀ rf).head
        refine go_again (by rw [qt_eq]; exact h1) (go_code ?_)
        rw [dn_eq]
        exact IH hs b c' κ (dn c') e L fs tk P₀ (tl H) hfs ht hR
      cases hs with
      | nil => exact plain H
      | cons x hs =>
        cases x with
        | a j is =>
          simp only [stepR] at H
          cases hj : (cs P₀)[j]? with
          | none =>
            have H0 := H P₀ rf
            rw [hj] at H0
            exact (not_bad H0).elim
          | some S =>
            have hd : dep j ≤ e := by
              have H0 := H P₀ rf
              rw [hj] at H0
              exact Nat.le_of_ble_eq_true H0.head
            have hP : ∀ P, Agree e P P₀ → (cs P)[j]? = some S := fun P a => (hdep j P P₀ (fun i hi => a i (Nat.lt_of_lt_of_le hi hd))).trans hj
            replace H := fun P (a : Agree e P P₀) => (by have z := H P a; rw [hP P a] at z; exact z.tail)
            have hh := hypO_no (S := S c' (takes is L).1) (H P₀ rf).head tk
            replace H := tl H
            have H0 := H P₀ rf
            have h0 := H0.head
            have h1 := H0.tail.head
            have h2 : qt c' = true := H0.tail.tail.head
            have h3 := H0.tail.tail.tail.head
            have h4 := H0.tail.tail.tail.tail.head
            have m := CsOk.get (hcs P₀) hj c' (takes is L).1 h0 hh.1 (ar A₀ κ) ((takes is L).2 ++ F) tk hh.2 (Rm.mono (RmK.rm hR) (Nat.le_of_ble_eq_true h3))
            refine go_again (by rw [qt_eq]; exact h2) ?_
            have pm : ((S c' (takes is L).1).pre ++ ((takes is L).2 ++ F)).Perm (L ++ F) := by
              have h4' : (takes is L).1 = (S c' (takes is L).1).pre := h4
              rw [← h4', ← List.append_assoc]
              exact (takes_perm is L).append_right F
            have h1' : c' = (S c' (takes is L).1).code := h1
            rw [← h1'] at m
            refine CodeG.perm pm ?_
            intro h D
            refine codeAny_mono (m h D) fun r s' hr => ?_
            obtain ⟨h', tk', L', es, D', hle, σ, hf, hft, hr', hL⟩ := hr
            subst es
            have key := ret_sound (tk := tk') (r := (S c' (takes is L).1).res σ) (hs := hs) (b := b) (κ := κ) (e := e + 1) (L := (S c' (takes is L).1).post σ ++ (takes is L).2) (fs := addF tf (S c' (takes is L).1) tk σ tk' fs) (P₀ := setEv P₀ e ⟨σ, tk'⟩) hF rn IH
              (fun P a => by
                have z := (((tl (tl (tl (tl (tl H))))) P a.set))
                rw [a.at] at z
                exact z) (addF_ok hf hle hft hfs) (Nat.le_trans ht hle) hR
            subst hL
            obtain ⟨L2, D2, q⟩ := key h' (by rw [List.append_assoc]; exact D')
            subst hr'
            exact ⟨h', tk', L2, rfl, D2, q⟩
        | ah j is m' =>
          simp only [stepR] at H
          cases hj : (cs P₀)[j]? with
          | none =>
            have H0 := H P₀ rf
            rw [hj] at H0
            exact (not_bad H0).elim
          | some S =>
            have hd : dep j ≤ e := by
              have H0 := H P₀ rf
              rw [hj] at H0
              exact Nat.le_of_ble_eq_true H0.head
            have hP : ∀ P, Agree e P P₀ → (cs P)[j]? = some S := fun P a => (hdep j P P₀ (fun i hi => a i (Nat.lt_of_lt_of_le hi hd))).trans hj
            replace H := fun P (a : Agree e P P₀) => (by have z := H P a; rw [hP P a] at z; exact z.tail)
            have hh := hypO_yes (S := S c' (takes is L).1) (H P₀ rf).tail.head hfs
            replace H := tl (tl H)
            have H0 := H P₀ rf
            have h0 := H0.head
            have h1 := H0.tail.head
            have h2 : qt c' = true := H0.tail.tail.head
            have h3 := H0.tail.tail.tail.head
            have h4 := H0.tail.tail.tail.tail.head
            have m := CsOk.get (hcs P₀) hj c' (takes is L).1 h0 hh.1 (ar A₀ κ) ((takes is L).2 ++ F) tk hh.2 (Rm.mono (RmK.rm hR) (Nat.le_of_ble_eq_true h3))
            refine go_again (by rw [qt_eq]; exact h2) ?_
            have pm : ((S c' (takes is L).1).pre ++ ((takes is L).2 ++ F)).Perm (L ++ F) := by
              have h4' : (takes is L).1 = (S c' (takes is L).1).pre := h4
              rw [← h4', ← List.append_assoc]
              exact (takes_perm is L).append_right F
            have h1' : c' = (S c' (takes is L).1).code := h1
            rw [← h1'] at m
            refine CodeG.perm pm ?_
            intro h D
            refine codeAny_mono (m h D) fun r s' hr => ?_
            obtain ⟨h', tk', L', es, D', hle, σ, hf, hft, hr', hL⟩ := hr
            subst es
            have key := ret_sound (tk := tk') (r := (S c' (takes is L).1).res σ) (hs := hs) (b := b) (κ := κ) (e := e + 1) (L := (S c' (takes is L).1).post σ ++ (takes is L).2) (fs := addF tf (S c' (takes is L).1) tk σ tk' fs) (P₀ := setEv P₀ e ⟨σ, tk'⟩) hF rn IH
              (fun P a => by
                have z := (((tl (tl (tl (tl (tl H))))) P a.set))
                rw [a.at] at z
                exact z) (addF_ok hf hle hft hfs) (Nat.le_trans ht hle) hR
            subst hL
            obtain ⟨L2, D2, q⟩ := key h' (by rw [List.append_assoc]; exact D')
            subst hr'
            exact ⟨h', tk', L2, rfl, D2, q⟩
        | _ => exact plain H
  | raise v => exact go_post rfl (ret_sound hF rn IH H hfs ht hR)
  | rule tag k => exact go_rule (IH _ _ _ _ _ _ _ _ _ _ H hfs ht hR)
  | «at» q k => exact go_at (IH _ _ _ _ _ _ _ _ _ _ H hfs ht hR)
  | point l k => exact go_point (IH _ _ _ _ _ _ _ _ _ _ H hfs ht hR)
  | ask k => exact go_ask (IH _ _ _ _ _ _ _ _ _ _ H hfs ht hR)
  | fresh k => exact go_fresh (IH _ _ _ _ _ _ _ _ _ _ H hfs (Nat.le_succ_of_le ht) hR)
  | load a q k =>
    simp only [stepR] at H
    split at H
    · split at H
      · rename_i o ho
        exact go_top O ho (H P₀ rf).head (IH _ _ _ _ _ _ _ _ _ _ (tl H) hfs ht hR)
      · exact (not_bad (H P₀ rf)).elim
    · split at H
      · rename_i p hp
        have h1 : a = p.1 := (H P₀ rf).head
        subst h1
        exact go_load _ (get_app hp) (IH _ _ _ _ _ _ _ _ _ _ (tl H) hfs ht hR)
      · exact (not_bad (H P₀ rf)).elim
    · exact (not_bad (H P₀ rf)).elim
  | loadIfAlive a k =>
    simp only [stepR] at H
    split at H
    · split at H
      · rename_i o ho
        exact go_aliveTop O ho (H P₀ rf).head (IH _ _ _ _ _ _ _ _ _ _ (tl H) hfs ht hR)
      · exact (not_bad (H P₀ rf)).elim
    · split at H
      · rename_i p hp
        have h1 : a = p.1 := (H P₀ rf).head
        subst h1
        exact go_alive _ (get_app hp) (IH _ _ _ _ _ _ _ _ _ _ (tl H) hfs ht hR)
      · exact (not_bad (H P₀ rf)).elim
    · exact (not_bad (H P₀ rf)).elim
  | alloc o k =>
    have h1 : o.isFreed = false := (H P₀ rf).head
    refine go_alloc h1 fun a => ?_
    refine IH hs b c κ (k a) (e + 1) ((a, o) :: L) fs tk (setEv P₀ e ⟨⟨fun _ => a, fun _ => 0, fun _ => ⟨#[]⟩, fun _ => []⟩, 0⟩) (fun P ag => ?_) hfs ht hR
    have z := tl H P ag.set
    rw [ag.at] at z
    exact z
  | update a q f k =>
    simp only [stepR] at H
    split at H
    · split at H
      · rename_i p hp
        have h1 : a = p.1 := (H P₀ rf).head
        have h2 : (f p.2).isFreed = false := (H P₀ rf).tail.head
        have h3 : hasCls p.2 = true := (H P₀ rf).tail.tail.head
        subst h1
        refine go_update O _ (get_app hp) h2 h3 ?_
        rw [set_app hp]
        exact IH _ _ _ _ _ _ _ _ _ _ (tl (tl (tl H))) hfs ht hR
      · exact (not_bad (H P₀ rf)).elim
    · split at H
      · rename_i p hp
        split at H
        · rename_i vs hv
          split at H
          · rename_i vs' hv'
            have h1 : a = p.1 := (H P₀ rf).head
            have h2 : [((0 : Addr), f (tableObj vs))] = [((0 : Addr), tableObj (vs ++ (vs'.toList.drop vs.size).toArray))] := (H P₀ rf).tail.head
            subst h1
            obtain ⟨pa, po⟩ := p
            have e1 := tabOf_eq hv
            subst e1
            have e4 : f (tableObj vs) = tableObj (vs ++ (vs'.toList.drop vs.size).toArray) := by
              injection h2 with h2 _
              injection h2
            refine go_grow O _ (get_app hp) e4 ?_
            rw [set_app hp]
            exact IH _ _ _ _ _ _ _ _ _ _ (tl (tl H)) hfs ht hR
          · exact (not_bad (H P₀ rf)).elim
        · exact (not_bad (H P₀ rf)).elim
      · exact (not_bad (H P₀ rf)).elim
    · exact (not_bad (H P₀ rf)).elim
  | call c' hd g l k =>
    simp only [stepR] at H
    split at H
    · split at H
      · have h2 : nc c = true := (H P₀ rf).head
        have h3 : Nat.ble 1 b = true := (H P₀ rf).tail.head
        refine go_call rfl (go_code ?_)
        rw [dn_eq]
        have hb : Nat.pred b + 1 = b := Nat.succ_pred_eq_of_pos (Nat.le_of_ble_eq_true h3)
        exact IH _ (Nat.pred b) c' ((c, k) :: κ) (dn c') e L fs tk P₀ (tl (tl H)) hfs ht ⟨nc_is h2, by rw [hb]; exact hR⟩
      · exact (not_bad (H P₀ rf)).elim
    · rename_i j is hs'
      split at H
      · cases hj : (cs P₀)[j]? with
        | none =>
          have H0 := H P₀ rf
          rw [hj] at H0
          exact (not_bad H0).elim
        | some S =>
          have hd : dep j ≤ e := by
            have H0 := H P₀ rf
            rw [hj] at H0
            exact Nat.le_of_ble_eq_true H0.head
          have hP : ∀ P, Agree e P P₀ → (cs P)[j]? = some S := fun P a => (hdep j P P₀ (fun i hi => a i (Nat.lt_of_lt_of_le hi hd))).trans hj
          replace H := fun P (a : Agree e P P₀) => (by have z := H P a; rw [hP P a] at z; exact z.tail)
          have hh := hypO_no (S := S c' (takes is L).1) (H P₀ rf).head tk
          replace H := tl H
          have H0 := H P₀ rf
          have h0 := H0.head
          have h1 : c' = (S c' (takes is L).1).code := H0.tail.head
          have h3 : nc c = true := H0.tail.tail.head
          have h4 := H0.tail.tail.tail.head
          have h5 : (takes is L).1 = (S c' (takes is L).1).pre := H0.tail.tail.tail.tail.head
          have m := CsOk.get (hcs P₀) hj c' (takes is L).1 h0 hh.1 (((ar A₀ κ).under c).mark none) ((takes is L).2 ++ F) tk hh.2 (Rm.under (Rm.mono (RmK.rm hR) (Nat.le_of_ble_eq_true h4)) (nc_is h3))
          refine go_call rfl ?_
          rw [← h1] at m
          have pm : ((S c' (takes is L).1).pre ++ ((takes is L).2 ++ F)).Perm (L ++ F) := by
            rw [← h5, ← List.append_assoc]
            exact (takes_perm is L).append_right F
          refine CodeG.perm pm (CodeG.mono m fun r L' tk' hr => ?_)
          obtain ⟨hle, σ, hf, hft, hr', hL⟩ := hr
          subst hr' hL
          have z := IH hs' b c κ (k ((S c' (takes is L).1).res σ)) (e + 1) ((S c' (takes is L).1).post σ ++ (takes is L).2) (addF tf (S c' (takes is L).1) tk σ tk' fs) tk' (setEv P₀ e ⟨σ, tk'⟩)
            (fun P a => by
              have z := ((tl (tl (tl (tl (tl H)))) P a.set))
              rw [a.at] at z
              exact z) (addF_ok hf hle hft hfs) (Nat.le_trans ht hle) hR
          rw [List.append_assoc] at z
          exact z
      · exact (not_bad (H P₀ rf)).elim
    · rename_i j is m' hs'
      split at H
      · cases hj : (cs P₀)[j]? with
        | none =>
          have H0 := H P₀ rf
          rw [hj] at H0
          exact (not_bad H0).elim
        | some S =>
          have hd : dep j ≤ e := by
            have H0 := H P₀ rf
            rw [hj] at H0
            exact Nat.le_of_ble_eq_true H0.head
          have hP : ∀ P, Agree e P P₀ → (cs P)[j]? = some S := fun P a => (hdep j P P₀ (fun i hi => a i (Nat.lt_of_lt_of_le hi hd))).trans hj
          replace H := fun P (a : Agree e P P₀) => (by have z := H P a; rw [hP P a] at z; exact z.tail)
          have hh := hypO_yes (S := S c' (takes is L).1) (H P₀ rf).tail.head hfs
          replace H := tl (tl H)
          have H0 := H P₀ rf
          have h0 := H0.head
          have h1 : c' = (S c' (takes is L).1).code := H0.tail.head
          have h3 : nc c = true := H0.tail.tail.head
          have h4 := H0.tail.tail.tail.head
          have h5 : (takes is L).1 = (S c' (takes is L).1).pre := H0.tail.tail.tail.tail.head
          have m := CsOk.get (hcs P₀) hj c' (takes is L).1 h0 hh.1 (((ar A₀ κ).under c).mark none) ((takes is L).2 ++ F) tk hh.2 (Rm.under (Rm.mono (RmK.rm hR) (Nat.le_of_ble_eq_true h4)) (nc_is h3))
          refine go_call rfl ?_
          rw [← h1] at m
          have pm : ((S c' (takes is L).1).pre ++ ((takes is L).2 ++ F)).Perm (L ++ F) := by
            rw [← h5, ← List.append_assoc]
            exact (takes_perm is L).append_right F
          refine CodeG.perm pm (CodeG.mono m fun r L' tk' hr => ?_)
          obtain ⟨hle, σ, hf, hft, hr', hL⟩ := hr
          subst hr' hL
          have z := IH hs' b c κ (k ((S c' (takes is L).1).res σ)) (e + 1) ((S c' (takes is L).1).post σ ++ (takes is L).2) (addF tf (S c' (takes is L).1) tk σ tk' fs) tk' (setEv P₀ e ⟨σ, tk'⟩)
            (fun P a => by
              have z := ((tl (tl (tl (tl (tl H)))) P a.set))
              rw [a.at] at z
              exact z) (addF_ok hf hle hft hfs) (Nat.le_trans ht hle) hR
          rw [List.append_assoc] at z
          exact z
      · exact (not_bad (H P₀ rf)).elim
    · exact (not_bad (H P₀ rf)).elim
  | handled own k =>
    cases own with
    | true => exact (not_bad (H P₀ rf)).elim
    | false =>
      refine go_handled ?_
      have q := (RmK.rm hR).2.2
      rw [q]
      exact IH _ _ _ _ _ _ _ _ _ _ H hfs ht hR
  | stack k =>
    simp only [stepR] at H
    split at H
    · rename_i src li cells qual hs'
      have h1 : Sem.stack k = enterT (frameCode V c L src li cells qual) := (H P₀ rf).head
      have h2 : nc c = true := (H P₀ rf).tail.head
      rw [h1]
      have x : Go V (ar A₀ κ) c (.pure (.again (frameCode V c L src li cells qual))) (po V A₀ R₀ κ) (L ++ F) tk :=
        IH hs' b c κ _ e L fs tk P₀ (tl (tl H)) hfs ht hR
      intro h D
      unfold enterT
      rw [← ZFast.enterX_eq, ← R.bindR_eq]
      have r1 := RmK.rm hR
      refine wpOwn_bind (m := enterFrame 0) (wpOwn_of_wpAny (wpAny_enterFrame (G.limit D) ?_ (x h D)))
      have := weight_le (nc_is h2)
      show (ar A₀ κ).depth + c.weight < recursionLimit
      have := r1.1
      omega
    · exact (not_bad (H P₀ rf)).elim
  | _ => exact (not_bad (H P₀ rf)).elim
end
theorem runF_sound (G : Good V) (hcs : ∀ P, CsOk V (cs P)) (hdep : ∀ j P Q, Agree (dep j) P Q → (cs P)[j]? = (cs Q)[j]?) (hF : FinOk V R₀ A₀ F t₀ fin) : ∀ n, Sound V R₀ A₀ F t₀ (fun P => runF V (cs P) dep tf (fin P) (Pf P) P n)
  | 0 => fun _ _ _ _ _ _ _ _ _ P₀ H _ _ _ => (not_bad (H P₀ (fun _ _ => rfl))).elim
  | n + 1 => step_sound G hcs hdep hF (fun P => runF V (cs P) dep tf (fin P) (Pf P) P n) (runF_sound G hcs hdep hF n)
theorem endF_core {T : Spec} {σ : Sup} {fis : List Nat} {r : Result} {L : Ldg} {tk : Nat} (hf : T.fact σ) (ht : T.factTO t₀ σ tk) (hle : t₀ ≤ tk) (h1 : r = T.res σ) (h2 : (takes fis L).1 = T.post σ) : ∀ h, Led V h (L ++ F) → ∃ L', Led V h L' ∧ postOf T F t₀ r L' tk := by
  intro h D
  refine ⟨(takes fis L).1 ++ F, ?_, hle, σ, hf, ht, h1, by rw [h2]⟩
  have p := takes_perm fis L
  have D1 : Led V h (((takes fis L).1 ++ (takes fis L).2) ++ F) := D.perm (p.append_right F)
  refine D1.sub (fun q hq => ?_) ?_
  · rcases List.mem_append.mp hq with hq | hq
    · exact List.mem_append_left _ (List.mem_append_left _ hq)
    · exact List.mem_append_right _ hq
  · have nd := D1.nodup
    refine List.Sublist.nodup (List.Sublist.map _ ?_) nd
    rw [List.append_assoc]
    exact List.Sublist.append_left (List.sublist_append_right _ _) _
theorem endF_ok {T : Spec} {out : (Nat → Ev) → Sup} {ex : (Nat → Ev) → List Prop} {fis : List Nat} (hq : ∀ σ t, T.factTO t₀ σ t) (hT : ∀ P, (∀ p ∈ ex P, p) → T.fact (out P)) : FinOk V (postOf T F t₀) A₀ F t₀ (fun P => endF T out ex fis P) := by
  intro r hs b e L fs tk P₀ H hfs hle _
  have H0 := H P₀ (fun _ _ => rfl)
  have h3 : fs = ex P₀ := H0.tail.tail.head
  exact endF_core (hT P₀ (h3 ▸ hfs)) (hq _ _) hle H0.head H0.tail.head
theorem run_sound {cs : List (Code → Ldg → Spec)} {T : Spec} {out : (Nat → Ev) → Sup} {ex : (Nat → Ev) → List Prop} {fis : List Nat} (G : Good V) (hcs : CsOk V cs) (hq : ∀ σ t, T.factTO t₀ σ t) (hT : ∀ P, (∀ p ∈ ex P, p) → T.fact (out P)) (n : Nat) : Sound V (postOf T F t₀) A₀ F t₀ (fun P => run V cs T out ex fis P n) :=
  runF_sound (cs := fun _ => cs) (dep := fun _ => 0) G (fun _ => hcs) (fun _ _ _ _ => rfl) (endF_ok hq hT) n
/-- the same end, the tokens named -/
noncomputable def endFT (T : Spec) (out : (Nat → Ev) → Sup) (ex : (Nat → Ev) → List Prop) (fis : List Nat) (te : (Nat → Ev) → Nat) (P : Nat → Ev) : FinTy := fun r _ _ _ L fs tk => [.res r (T.res (out P)), .ldg (takes fis L).1 (T.post (out P)), .props fs (ex P), .nat tk (te P)]
theorem endFT_ok {T : Spec} {out : (Nat → Ev) → Sup} {ex : (Nat → Ev) → List Prop} {fis : List Nat} {te : (Nat → Ev) → Nat} (hT : ∀ P, (∀ p ∈ ex P, p) → T.fact (out P) ∧ T.factTO t₀ (out P) (te P)) : FinOk V (postOf T F t₀) A₀ F t₀ (fun P => endFT T out ex fis te P) := by
  intro r hs b e L fs tk P₀ H hfs hle _
  have H0 := H P₀ (fun _ _ => rfl)
  have h3 : fs = ex P₀ := H0.tail.tail.head
  have h4 : tk = te P₀ := H0.tail.tail.tail.head
  have z := hT P₀ (h3 ▸ hfs)
  exact endF_core z.1 (h4 ▸ z.2) hle H0.head H0.tail.head
/-- the whole of it: one check by the kernel for a piece -/
noncomputable def eqs (V : VV) (cs : List (Code → Ldg → Spec)) (T : Spec) (out : (Nat → Ev) → Sup) (ex : (Nat → Ev) → List Prop) (fis : List Nat) (n : Nat) (hs : List Hint) (tk : Nat) (P : Nat → Ev) : List Eqn :=
  run V cs T out ex fis P n hs T.d T.code [] (dn T.code) 0 T.pre [] tk
theorem meets_of {cs : List (Code → Ldg → Spec)} {T : Spec} (G : Good V) (hcs : CsOk V cs) (n : Nat) (hs : List Hint) (out : Nat → (Nat → Ev) → Sup) (ex : Nat → (Nat → Ev) → List Prop) (fis : List Nat) (hT : ∀ tk P, (∀ p ∈ ex tk P, p) → T.fact (out tk P))
    (H : ∀ tk P, sides Eqn.l (eqs V cs T (out tk) (ex tk) fis n hs tk P) = sides Eqn.r (eqs V cs T (out tk) (ex tk) fis n hs tk P)) (hq : ∀ t₀ σ t, T.factTO t₀ σ t := by intros; exact trivial) : Meets V T := by
  intro _ _ A F tk _ hR
  refine go_code ?_
  rw [dn_eq]
  exact run_sound (A₀ := A) (F := F) (t₀ := tk) G hcs (hq tk) (hT tk) n hs T.d T.code [] (dn T.code) 0 T.pre [] tk (fun _ => ev0) (fun P _ => all_of (H tk P)) (fun _ h => nomatch h) (Nat.le_refl _) hR
end
end Mine
end
section
set_option maxRecDepth 100000
namespace Mine
open PySem PySem.W PySem.W.X PyProof.Rows
structure Un where
  prog : Program
  draws : Source → Nat → Nat
  P : Params
  h₀ : Heap
  g : Array GenState
  d : Drawn
  os : OsState
noncomputable def ft (b₁ b₂ : Bool) (P : Params) : Params :=
  { P with followText := fun s => cond (S.eqLit 10139888712337904147300001983332972444938612 s) b₁ (cond (S.eqLit 2510650655181157320538776789020469319833841985448949215332 s) b₂ (P.followText s)) }
noncomputable def tabs0 : List Addr := [47, 54, 148]
noncomputable def mkV (U : Un) (b₁ b₂ : Bool) : VV :=
  ⟨U.prog, ⟨U.draws, ft b₁ b₂ U.P⟩, U.h₀, 198, hd.ktop_399 (ft b₁ b₂ U.P), tabs0, U.g, U.d, U.os⟩
end Mine
open PySem
end
section
set_option maxRecDepth 100000
namespace Mine
open PySem PySem.W PySem.W.X PyProof.Rows

noncomputable def mval : Made → Nat → Value
  | .val v, _ => v
  | .int i, t => .int i t
  | .str x, t => .str x t
  | .float b, t => .float b t
  | .bytes b, t => .bytes b t
  | .either _ _, _ => .none
noncomputable def mok : Made → Prop
  | .str x => x.length ≤ sizeLine
  | .bytes b => b.size ≤ sizeLine
  | .either _ _ => False
  | _ => True
noncomputable def bSpec (c : Code) (need : Bool) (v : Sup → Value) : Spec := { need, d := 1, code := c, pre := [], hasFact := false, fact := fun _ => True, res := fun σ => .ok (.ret (v σ)), post := fun _ => [] }
noncomputable def never (c : Code) : Spec := { need := false, d := 0, code := c, pre := [], hasFact := false, fact := fun _ => True, res := fun _ => .ok .next, post := fun _ => [] }
theorem never_meets {V : VV} {c : Code} : Meets V (never c) := fun h => nomatch h
/-- a contract read off a code and a ledger -/
noncomputable def oS {α : Type} (c : Code) (o : Option α) (f : α → Spec) : Spec := match o with
  | some a => f a
  | none => never c
theorem oS_ok {V : VV} {α : Type} {c : Code} {o : Option α} {f : α → Spec} (h : ∀ a, Meets V (f a)) : Meets V (oS c o f) := by
  cases o with
  | some a => exact h a
  | none => exact never_meets
/-- an order that computes on written numbers -/
noncomputable def Int.ble' (a b : Int) : Bool := match a, b with
  | .ofNat m, .ofNat n => Nat.ble m n
  | .ofNat _, .negSucc _ => false
  | .negSucc _, .ofNat _ => true
  | .negSucc m, .negSucc n => Nat.ble n m
theorem le_of_ble' {a b : Int} (h : Int.ble' a b = true) : a ≤ b := by
  unfold Int.ble' at h
  split at h
  · have := Nat.le_of_ble_eq_true h
    exact Int.ofNat_le.mpr this
  · cases h
  · rename_i m n
    show Int.negSucc m ≤ (n : Int)
    omega
  · have := Nat.le_of_ble_eq_true h
    omega
theorem id_of {id s : String} {N : Nat} (h : S.eqLit N id = true) (e : PySem.code s = N) : id = s := by
  rw [← S.eqLit_eq s N e] at h
  simpa using h

theorem con_gives {V : VV} {T : String} {name : Str} {id : String} {B : Builtin} {self : Value} {rest : List Value} {m : Made} {need : Bool} {v : Sup → Value}
    (slot : Slot T name id) (hT : ∀ s : Shared, s.TypeIs self T) (entry : entryFor table id = some B) (ha : argsOk id ⟨self :: rest, []⟩) (g : Gives (B ⟨self :: rest, []⟩) m) (hok : mok m) (hv : ∀ σ : Sup, v σ = mval m (σ.n 0)) :
    Meets V (bSpec (.call (.builtin id) ⟨self :: rest, []⟩) need v) := by
  intro _ _ A F tk _ _ h D
  refine codeAny_call_builtin slot.plain entry (slot.check _ _ _ _ _ _ _ _ (hT _) ha (g V.prog V.w A _ _ ?_))
  have key : ∀ t tk', tk ≤ tk' → Post V (postOf (bSpec (.call (.builtin id) ⟨self :: rest, []⟩) need v) F tk) (.ok (.ret (mval m t))) (sh V h tk') := fun t tk' hle =>
    ⟨h, tk', F, rfl, D, hle, ⟨fun _ => t, fun _ => 0, fun _ => ⟨#[]⟩, fun _ => []⟩, trivial, trivial, by show _ = Except.ok (Flow.ret (v _)); rw [hv], rfl⟩
  cases m with
  | val x => exact key 0 tk (Nat.le_refl _)
  | int i => exact key (tk + 1) (tk + 1) (Nat.le_succ _)
  | str x => exact ⟨hok, key (tk + 1) (tk + 1) (Nat.le_succ _)⟩
  | float b => exact key (tk + 1) (tk + 1) (Nat.le_succ _)
  | bytes b => exact ⟨hok, key (tk + 1) (tk + 1) (Nat.le_succ _)⟩
  | either a b => exact hok.elim

/-- one token is drawn: its place among the tokens -/
noncomputable def bSpecS (c : Code) (need : Bool) (v : Sup → Value) : Spec := { need, d := 1, code := c, pre := [], hasFact := false, fact := fun _ => True, res := fun σ => .ok (.ret (v σ)), post := fun _ => [], hasT := true, factT := fun t σ t' => t < Nat.succ (σ.n 0) ∧ Nat.succ (σ.n 0) ≤ t' }
theorem con_givesS {V : VV} {T : String} {name : Str} {id : String} {B : Builtin} {self : Value} {rest : List Value} {b : UInt64} {need : Bool} {v : Sup → Value}
    (slot : Slot T name id) (hT : ∀ s : Shared, s.TypeIs self T) (entry : entryFor table id = some B) (ha : argsOk id ⟨self :: rest, []⟩) (g : Gives (B ⟨self :: rest, []⟩) (.float b)) (hv : ∀ σ : Sup, v σ = .float b (Nat.succ (σ.n 0))) :
    Meets V (bSpecS (.call (.builtin id) ⟨self :: rest, []⟩) need v) := by
  intro _ _ A F tk _ _ h D
  refine codeAny_call_builtin slot.plain entry (slot.check _ _ _ _ _ _ _ _ (hT _) ha (g V.prog V.w A _ _ ?_))
  exact ⟨h, tk + 1, F, rfl, D, Nat.le_succ _, ⟨fun _ => tk, fun _ => 0, fun _ => ⟨#[]⟩, fun _ => []⟩, trivial, ⟨Nat.lt_succ_self _, Nat.le_refl _⟩, by show _ = Except.ok (Flow.ret (v _)); rw [hv]; rfl, rfl⟩

/-! ints -/
noncomputable def nz (b : Int) : Bool := !(b == 0)
theorem nz_is {b : Int} (h : nz b = true) : ¬ (b == 0) = true := by unfold nz at h; simpa using h
noncomputable def C_mod : Code → Ldg → Spec := fun c _ => match c with
  | .call (.builtin id) ⟨[.int a _, .int b _], []⟩ => bSpec c (S.eqLit 116512097088030077292474218 id && nz b) (fun σ => .int (Int.fmod a b) (σ.n 0))
  | _ => never c
noncomputable def C_fdiv : Code → Ldg → Spec := fun c _ => match c with
  | .call (.builtin id) ⟨[.int a _, .int b _], []⟩ => bSpec c (S.eqLit 128106770130096871752080967664072486762 id && (nz b && !(Builtin.divisionGoesByPylong a b))) (fun σ => .int (Int.fdiv a b) (σ.n 0))
  | _ => never c
noncomputable def C_shr : Code → Ldg → Spec := fun c _ => match c with
  | .call (.builtin id) ⟨[.int a _, .int b _], []⟩ => bSpec c (S.eqLit 1954753560319954401256180983099242 id && (Int.ble' 0 a && Int.ble' 0 b)) (fun σ => .int (Int.fdiv a (2 ^ b.toNat)) (σ.n 0))
  | _ => never c
noncomputable def C_pow : Code → Ldg → Spec := fun c _ => match c with
  | .call (.builtin id) ⟨[.int a _, .int b _], []⟩ => bSpec c (S.eqLit 116512447577011902704086890 id && (Int.ble' 2 a && (Int.ble' 0 b && !(Builtin.Int.intTooBig (((Builtin.Int.intBits a : Nat) : Int) * b))))) (fun σ => .int (a ^ b.toNat) (σ.n 0))
  | _ => never c
theorem lt_bits {a : Int} (h : 0 ≤ a) : a < 2 ^ (Builtin.Int.intBits a) := by
  unfold Builtin.Int.intBits
  by_cases z : a = 0
  · subst z; simp
  · have hz : (a == 0) = false := by simpa using z
    rw [hz]
    simp only [Bool.false_eq_true, if_false]
    have n0 : a.natAbs ≠ 0 := by omega
    have := Nat.lt_log2_self (n := a.natAbs)
    have e : (a.natAbs : Int) = a := by omega
    have h2 : ((a.natAbs : Nat) : Int) < ((2 ^ (a.natAbs.log2 + 1) : Nat) : Int) := by exact_mod_cast this
    rw [e] at h2
    push_cast at h2
    exact h2
theorem fdiv_big {a : Int} {b : Nat} (h : 0 ≤ a) (hb : Builtin.Int.intBits a ≤ b) : Int.fdiv a (2 ^ b) = 0 := by
  have l := lt_bits h
  have m : (2 : Int) ^ Builtin.Int.intBits a ≤ 2 ^ b := by
    have := Nat.pow_le_pow_right (n := 2) (by omega) hb
    exact_mod_cast this
  rw [Int.fdiv_eq_ediv_of_nonneg _ (Int.le_of_lt (Int.pow_pos (by omega)))]
  exact Int.ediv_eq_zero_of_lt h (by omega)
theorem C_mod_ok {V : VV} (c : Code) (l : Ldg) : Meets V (C_mod c l) := by
  unfold C_mod
  split
  · rename_i id a t b u
    intro h
    have h0 := h
    simp only [bSpec, Bool.and_eq_true] at h
    have e := id_of h.1 (s := "int.__mod__") (by decide +kernel)
    subst e
    exact con_gives F.slot_int_mod (fun s => rfl) F.entry_int_mod (F.args_int_mod_2 _ _) (AutoIntG6.int___mod___int_int_1 a t b u (nz_is h.2)) trivial (fun _ => rfl) h0
  · exact never_meets
theorem C_fdiv_ok {V : VV} (c : Code) (l : Ldg) : Meets V (C_fdiv c l) := by
  unfold C_fdiv
  split
  · rename_i id a t b u
    intro h
    have h0 := h
    simp only [bSpec, Bool.and_eq_true] at h
    have e := id_of h.1 (s := "int.__floordiv__") (by decide +kernel)
    subst e
    exact con_gives F.slot_int_floordiv (fun s => rfl) F.entry_int_floordiv (F.args_int_floordiv_2 _ _) (AutoIntG4.int___floordiv___int_int_1 a t b u (nz_is h.2.1) (by simpa using h.2.2)) trivial (fun _ => rfl) h0
  · exact never_meets
theorem C_shr_ok {V : VV} (c : Code) (l : Ldg) : Meets V (C_shr c l) := by
  unfold C_shr
  split
  · rename_i id a t b u
    intro h
    have h0 := h
    simp only [bSpec, Bool.and_eq_true] at h
    have e := id_of h.1 (s := "int.__rshift__") (by decide +kernel)
    subst e
    have ha : 0 ≤ a := le_of_ble' h.2.1
    have hb : 0 ≤ b := le_of_ble' h.2.2
    by_cases hc : b ≥ ((Builtin.Int.intBits a : Nat) : Int)
    · refine con_gives F.slot_int_rshift (fun s => rfl) F.entry_int_rshift (F.args_int_rshift_2 _ _) (AutoIntG9.int___rshift___int_int_1 a t b u (by omega) hc) trivial (fun σ => ?_) h0
      show Value.int _ _ = Value.int _ _
      rw [if_neg (by omega), fdiv_big ha (by omega)]
    · exact con_gives F.slot_int_rshift (fun s => rfl) F.entry_int_rshift (F.args_int_rshift_2 _ _) (AutoIntG0.int___rshift___int_int_2 a t b u (by omega) hc) trivial (fun σ => rfl) h0
  · exact never_meets
theorem C_pow_ok {V : VV} (c : Code) (l : Ldg) : Meets V (C_pow c l) := by
  unfold C_pow
  split
  · rename_i id a t b u
    intro h
    have h0 := h
    simp only [bSpec, Bool.and_eq_true] at h
    have e := id_of h.1 (s := "int.__pow__") (by decide +kernel)
    subst e
    have ha : 2 ≤ a := le_of_ble' h.2.1
    have hb : 0 ≤ b := le_of_ble' h.2.2.1
    by_cases z : b = 0
    · subst z
      exact con_gives F.slot_int_pow (fun s => rfl) F.entry_int_pow (F.args_int_pow_2 _ _) (AutoIntG9.int___pow___int_int_0 a t 0 u (by omega) (by rfl)) trivial (fun σ => by show Value.int _ _ = Value.int _ _; simp) h0
    · exact con_gives F.slot_int_pow (fun s => rfl) F.entry_int_pow (F.args_int_pow_2 _ _) (AutoIntG2.int___pow___int_int_4 a t b u hb (by simpa using z) (by simp; omega) (by simp; omega) (by simpa using h.2.2.2)) trivial (fun σ => rfl) h0
  · exact never_meets
end Mine
end
section
set_option maxRecDepth 100000
namespace Mine
open PySem PySem.W PySem.W.X PyProof.Rows
open Sem (wp)

/-- a part of a code: no raise -/
noncomputable def GoM (V : VV) (A : Around) (c : Code) {α : Type} (m : Sem α) (Q : α → Ldg → Nat → Prop) (L : Ldg) (tk : Nat) : Prop :=
  ∀ h, Led V h L → wpOwn (model V.prog V.w) A c m (fun v s => ∃ h' tk' L', s = sh V h' tk' ∧ Led V h' L' ∧ Q v L' tk') (fun _ _ => False) (sh V h tk)
section
variable {V : VV} {A : Around} {c : Code} {α β : Type} {L : Ldg} {tk : Nat}
theorem GoM.mono {m : Sem α} {Q Q' : α → Ldg → Nat → Prop} (x : GoM V A c m Q L tk) (h : ∀ v L tk, Q v L tk → Q' v L tk) : GoM V A c m Q' L tk :=
  fun hp D => wpOwn_mono (x hp D) (fun v s ⟨h', tk', L', e, D', q⟩ => ⟨h', tk', L', e, D', h _ _ _ q⟩) (fun _ _ f => f)
theorem goM_pure {a : α} {Q : α → Ldg → Nat → Prop} (h : Q a L tk) : GoM V A c (pure a) Q L tk := fun hp D _ _ _ _ => ⟨hp, tk, L, rfl, D, h⟩
theorem goM_bind {m : Sem α} {f : α → Sem β} {Q : β → Ldg → Nat → Prop} (x : GoM V A c m (fun v L' tk' => GoM V A c (f v) Q L' tk') L tk) : GoM V A c (m >>= f) Q L tk :=
  fun hp D => wpOwn_bind (wpOwn_mono (x hp D) (fun v s ⟨h', tk', L', e, D', q⟩ => by subst e; exact q h' D') (fun _ _ f => f.elim))
theorem GoM.perm {m : Sem α} {Q : α → Ldg → Nat → Prop} {L' : Ldg} (p : L'.Perm L) (x : GoM V A c m Q L' tk) : GoM V A c m Q L tk := fun hp D => x hp (D.perm p)
theorem GoM.of_wpAny {m : Sem α} {Q : α → Ldg → Nat → Prop}
    (x : ∀ h, Led V h L → wpAny (model V.prog V.w) (A.under c) m (fun v s => ∃ h' tk' L', s = sh V h' tk' ∧ Led V h' L' ∧ Q v L' tk') (fun _ _ => False) (sh V h tk)) : GoM V A c m Q L tk :=
  fun h D => wpOwn_of_wpAny (x h D)
theorem goM_standAt {pos : Pos} {f : Unit → Sem β} {Q : β → Ldg → Nat → Prop} (x : GoM V A c (f ()) Q L tk) : GoM V A c (standAt pos >>= f) Q L tk :=
  goM_bind fun hp D _ _ _ _ => ⟨hp, tk, L, rfl, D, x⟩
theorem goM_onRaise {m : Sem α} {k : Value → Sem Unit} {Q : α → Ldg → Nat → Prop} (x : GoM V A c m Q L tk) : GoM V A c (m.onRaise k) Q L tk :=
  fun hp D Γ p hc hΓ => by
    rw [Sem.wp_onRaise]
    exact Sem.wp_mono _ Γ _ (fun _ _ _ h => h) (fun _ _ _ h => h.elim) _ _ (x hp D Γ p hc hΓ)
theorem goM_holding {vs : List Value} {m : Sem α} {Q : α → Ldg → Nat → Prop} (x : GoM V A c m Q L tk) : GoM V A c (holding vs m) Q L tk :=
  fun hp D Γ p hc hΓ => by rw [Sem.wp_holding]; exact x hp D Γ p hc hΓ
theorem goM_operate {vs : List Value} {m : Sem Value} {Q : Value → Ldg → Nat → Prop} (x : GoM V A c m Q L tk) : GoM V A c (operate vs m) Q L tk :=
  fun hp D Γ p hc hΓ => by rw [Sem.wp_operate]; exact x hp D Γ p hc hΓ
theorem goM_point {f : Unit → Sem β} {Q : β → Ldg → Nat → Prop} (x : GoM V A c (f ()) Q L tk) : GoM V A c (point >>= f) Q L tk :=
  goM_bind fun hp D _ _ _ _ => ⟨hp, tk, L, rfl, D, x⟩

/-! statements -/
theorem app_aux {V : VV} {A : Around} {c : Code} {env : Env} {Q : Flow → Ldg → Nat → Prop} {rest : List Stmt} {Γ : Ctx} (hc : Γ.code = c) (hΓ : Γ.Below A) : ∀ (xs : List Stmt) {p : Pos} {s : Shared},
    wp (model V.prog V.w) Γ (execs xs env) (fun f _ s => ∃ h' tk' L', s = sh V h' tk' ∧ Led V h' L' ∧ (match f with | .next => GoM V A c (execs rest env) Q L' tk' | f => Q f L' tk')) (fun _ _ _ => False) p s →
    wp (model V.prog V.w) Γ (execs (xs ++ rest) env) (fun f _ s => ∃ h' tk' L', s = sh V h' tk' ∧ Led V h' L' ∧ Q f L' tk') (fun _ _ _ => False) p s
  | [], p, s, z => by
    obtain ⟨h', tk', L', e, D', q⟩ := z
    rw [e]
    exact q h' D' Γ p hc hΓ
  | st :: xs, p, s, z => by
    rw [execs_cons, Sem.wp_bind'] at z
    show wp _ Γ (execs (st :: (xs ++ rest)) env) _ _ p _
    rw [execs_cons, Sem.wp_bind']
    refine Sem.wp_mono _ Γ _ (fun f p' s' q => ?_) (fun _ _ _ q => q) _ _ z
    cases f with
    | next => exact app_aux hc hΓ xs q
    | _ =>
      obtain ⟨h', tk', L', e, D', q⟩ := q
      exact ⟨h', tk', L', e, D', q⟩
theorem goM_execs_nil {env : Env} {Q : Flow → Ldg → Nat → Prop} (h : Q .next L tk) : GoM V A c (execs [] env) Q L tk := goM_pure h
theorem goM_execs_cons {st : Stmt} {rest : List Stmt} {env : Env} {Q : Flow → Ldg → Nat → Prop}
    (x : GoM V A c (exec st env) (fun f L' tk' => match f with | .next => GoM V A c (execs rest env) Q L' tk' | f => Q f L' tk') L tk) : GoM V A c (execs (st :: rest) env) Q L tk := by
  rw [execs_cons]
  refine goM_bind (x.mono fun f L' tk' h => ?_)
  cases f <;> first | exact h | exact goM_pure h
theorem goM_execs_append {env : Env} {Q : Flow → Ldg → Nat → Prop} {rest xs : List Stmt}
    (x : GoM V A c (execs xs env) (fun f L' tk' => match f with | .next => GoM V A c (execs rest env) Q L' tk' | f => Q f L' tk') L tk) : GoM V A c (execs (xs ++ rest) env) Q L tk :=
  fun h D Γ p hc hΓ => app_aux hc hΓ xs (x h D Γ p hc hΓ)
theorem goM_If {test : Expr} {body orelse : List Stmt} {pos : Pos} {env : Env} {Q : Flow → Ldg → Nat → Prop}
    (x : GoM V A c (isTrue test env (eval test env)) (fun b L' tk' => if b then GoM V A c (execs body env) Q L' tk' else GoM V A c (execs orelse env) Q L' tk') L tk) :
    GoM V A c (exec (.If test body orelse pos) env) Q L tk := by
  rw [exec_If]
  refine goM_standAt (goM_bind (x.mono fun b L' tk' h => ?_))
  cases b <;> exact h
theorem goM_isTrue_Compare1 {l r : Expr} {op : CmpOp} {pos : Pos} {env : Env} {whole : Sem Value} {Q : Bool → Ldg → Nat → Prop} (hm : behindInMarks op r = false)
    (x : GoM V A c (eval l env) (fun a L₁ t₁ => GoM V A c (eval r env) (fun b L₂ t₂ => GoM V A c (compareOp op a b) (fun v L₃ t₃ => GoM V A c (truthy v) Q L₃ t₃) L₂ t₂) L₁ t₁) L tk) :
    GoM V A c (isTrue (.Compare l [op] [r] pos) env whole) Q L tk := by
  rw [isTrue_Compare1, markedBehindIn_of_false hm]
  exact goM_bind (x.mono fun a L₁ t₁ h => goM_bind (goM_holding (h.mono fun b L₂ t₂ h => goM_standAt (goM_bind (goM_operate (h.mono fun v L₃ t₃ h => goM_holding h))))))
theorem goM_Compare1 {l r : Expr} {op : CmpOp} {pos : Pos} {env : Env} {Q : Value → Ldg → Nat → Prop} (hm : behindInMarks op r = false)
    (x : GoM V A c (eval l env) (fun a L₁ t₁ => GoM V A c (eval r env) (fun b L₂ t₂ => GoM V A c (compareOp op a b) Q L₂ t₂) L₁ t₁) L tk) :
    GoM V A c (eval (.Compare l [op] [r] pos) env) Q L tk := by
  rw [eval_Compare1, markedBehindIn_of_false hm]
  exact goM_bind (x.mono fun a L₁ t₁ h => goM_bind (goM_holding (h.mono fun b L₂ t₂ h => goM_standAt (goM_operate h))))
theorem goM_Return {e : Expr} {pos : Pos} {env : Env} {Q : Flow → Ldg → Nat → Prop} (x : GoM V A c (eval e env) (fun v L' tk' => Q (.ret v) L' tk') L tk) : GoM V A c (exec (.Return (some e) pos) env) Q L tk := by
  rw [exec_Return_some]
  exact goM_standAt (goM_bind (x.mono fun v L' tk' h => goM_pure h))

/-! codes -/
theorem code_of {c : Code} {R : RPost} (x : GoM V A c (denote table c) (fun fin L' tk' => match fin with | .done f => R (.ok f) L' tk' | .again c' => c'.quiet = true ∧ CodeG V A c' R L' tk') L tk) : CodeG V A c R L tk := by
  intro h D
  refine codeAny_of_own (wpOwn_mono (x h D) (fun fin s hq => ?_) (fun _ _ f => f.elim))
  obtain ⟨h', tk', L', e, D', q⟩ := hq
  subst e
  cases fin with
  | done f => exact ⟨h', tk', L', rfl, D', q⟩
  | again c' => exact ⟨q.1, q.2 h' D'⟩
theorem code_func {body : List Stmt} {env : Env} {R : RPost}
    (x : GoM V A (.func body env) (execs body env) (fun f L' tk' => R (.ok (.ret (match f with | .ret v => v | _ => .none))) L' tk') L tk) : CodeG V A (.func body env) R L tk := by
  refine code_of ?_
  show GoM V A _ (do point; match ← (execs body env).onRaise (leaving env) with | .ret v => ret v | _ => ret .none) _ L tk
  refine goM_point (goM_bind (goM_onRaise (x.mono fun f L' tk' h => ?_)))
  cases f <;> exact goM_pure h
end

/-! a part by the runner -/
theorem runM {V : VV} {cs : List (Code → Ldg → Spec)} {A : Around} {c : Code} {α : Type} (m mZ : Sem α) (hm : m = mZ) (emb : α → Flow) (T : Spec) (G : Good V) (hcs : CsOk V cs) (b : Nat) (hR : Rm A b) (F : Ldg) (tk : Nat)
    (hok : ∀ σ e, T.res σ ≠ .error e) (n : Nat) (hs : List Hint) (out : Nat → (Nat → Ev) → Sup) (ex : Nat → (Nat → Ev) → List Prop) (fis : List Nat) (hT : ∀ tk P, (∀ p ∈ ex tk P, p) → T.fact (out tk P))
    (H : ∀ P, sides Eqn.l (run V cs T (out tk) (ex tk) fis P n hs b c [] (R.bindR mZ fun v => .pure (.done (emb v))) 0 T.pre [] tk) = sides Eqn.r (run V cs T (out tk) (ex tk) fis P n hs b c [] (R.bindR mZ fun v => .pure (.done (emb v))) 0 T.pre [] tk)) (hq : ∀ t₀ σ t, T.factTO t₀ σ t := by intros; exact trivial) :
    GoM V A c m (fun v L' tk' => tk ≤ tk' ∧ ∃ σ, T.fact σ ∧ .ok (emb v) = T.res σ ∧ L' = T.post σ ++ F) (T.pre ++ F) tk := by
  have key := run_sound (A₀ := A) (F := F) (t₀ := tk) G hcs (hq tk) (hT tk) n hs b c [] (R.bindR mZ fun v => .pure (.done (emb v))) 0 T.pre [] tk (fun _ => ev0) (fun P _ => all_of (H P)) (fun _ h => nomatch h) (Nat.le_refl _) hR
  intro h D Γ p hc hΓ
  have z := key h D Γ p hc hΓ
  rw [← R.bindR_eq] at z
  rw [hm]
  have e := Sem.wp_bind' (model V.prog V.w) Γ mZ (fun v => Sem.pure (Fin.done (emb v))) (fun a _ s' => postC V.prog V.w A (Post V (po V A (postOf T F tk) [])) a s') (fun x _ s' => postE (Post V (po V A (postOf T F tk) [])) x s') p (sh V h tk)
  have z' := e.mp z
  refine Sem.wp_mono _ Γ _ (fun v p' s' q => ?_) (fun x p' s' q => ?_) _ _ z'
  · obtain ⟨h', tk', L', es, D', hp⟩ := q
    obtain ⟨hle, σ, hf, _, hr, hL⟩ := hp
    exact ⟨h', tk', L', es, D', hle, σ, hf, hr, hL⟩
  · obtain ⟨h', tk', L', es, D', _, σ, hf, _, hr, hL⟩ := q
    exact hok σ x hr.symm
end Mine
end
section
set_option maxRecDepth 100000
namespace Mine
open PySem PySem.W PySem.W.X PyProof.Rows
open Sem (wp)
/-! codes in pieces: a chain of parts, each by the runner, with comparisons of containers between them -/
structure CSp where
  need : Bool
  pre : Ldg
  v : Bool
  hasHyp : Bool := false
  hyp : Prop := True
noncomputable def CSp.hypO (S : CSp) : Prop := match S.hasHyp with
  | true => S.hyp
  | false => True
noncomputable abbrev CmpTy := CmpOp → Value → Value → Ldg → CSp
noncomputable def CMeets (V : VV) (op : CmpOp) (a b : Value) (S : CSp) : Prop := S.need = true → S.hypO → ∀ (A : Around) (h : Heap) (F : Ldg) (tk : Nat) (Q : Value → Shared → Prop) (E : Value → Shared → Prop),
  A.units + 64 < cLine → Led V h (S.pre ++ F) → Q (.bool S.v) (sh V h tk) → wpAny (model V.prog V.w) A (compareOp op a b) Q E (sh V h tk)
noncomputable def DsOk (V : VV) : List CmpTy → Prop
  | [] => True
  | D :: ds => (∀ op a b l, CMeets V op a b (D op a b l)) ∧ DsOk V ds
theorem DsOk.get {V : VV} : ∀ {ds : List CmpTy}, DsOk V ds → ∀ {j : Nat} {D : CmpTy}, ds[j]? = some D → ∀ op a b l, CMeets V op a b (D op a b l)
  | [], _, _, _, h => by cases h
  | D :: ds, h, 0, D', e => by cases e; exact h.1
  | D :: ds, h, j + 1, D', e => DsOk.get h.2 (j := j) (by simpa using e)
theorem cHypO_no {S : CSp} (h : S.hasHyp = false) : S.hypO := by
  unfold CSp.hypO
  rw [h]; trivial
theorem cHypO_yes {S : CSp} {fs : List Prop} {p : HP} (e : ([impL fs S.hyp] : List Prop) = [p.p]) (hfs : ∀ q ∈ fs, q) : S.hypO := by
  unfold CSp.hypO
  split
  · injection e with e _
    exact impL_out (e ▸ p.h) hfs
  · trivial
inductive Sg : Type 1
  | run (t : Sem Fin)
  | bind {α : Type} (m : Sem α) (emb : α → Flow) (K : Flow → Sg)
  | cmp (op : CmpOp) (a b : Value) (K : Value → Sg)
  | bad
noncomputable def SgGo (V : VV) (A : Around) (c : Code) (R : RPost) : Sg → Ldg → Nat → Prop
  | .run t, L, tk => Go V A c t R L tk
  | .bind m emb K, L, tk => GoM V A c m (fun v L' tk' => SgGo V A c R (K (emb v)) L' tk') L tk
  | .cmp op a b K, L, tk => GoM V A c (compareOp op a b) (fun v L' tk' => SgGo V A c R (K v) L' tk') L tk
  | .bad, _, _ => False
section
variable (V : VV) (cs : List (Code → Ldg → Spec)) (dep : Nat → Nat) (ds : List CmpTy) (tf : Bool) (fin : FinTy) (Pf : Nat → HP) (P : Nat → Ev) (n : Nat) (b : Nat) (c : Code)
noncomputable abbrev SgF := List Hint → Nat → Ldg → List Prop → Nat → List Eqn
noncomputable def bindF {α : Type} (m : Sem α) (emb : α → Flow) (ih : Flow → SgF) : SgF := fun hs e L fs tk => runF V cs dep tf (fun r hs _ e L fs tk => match r with
      | .ok f => ih f hs e L fs tk
      | .error _ => bad) Pf P n hs b c [] (R.bindR m fun v => .pure (.done (emb v))) e L fs tk
noncomputable def cmpF (op : CmpOp) (x y : Value) (ih : Value → SgF) : SgF := fun hs e L fs tk => match hs with
    | .q j is :: hs => match ds[j]? with
      | some D => .bool (D op x y (takes is L).1).hasHyp false :: .bool (D op x y (takes is L).1).need true :: .bool (Nat.ble 7 b) true :: .ldg (takes is L).1 (D op x y (takes is L).1).pre :: ih (.bool (D op x y (takes is L).1).v) hs e L fs tk
      | none => bad
    | .qh j is m :: hs => match ds[j]? with
      | some D => .bool (D op x y (takes is L).1).hasHyp true :: .props [impL fs (D op x y (takes is L).1).hyp] [(Pf m).p] :: .bool (D op x y (takes is L).1).need true :: .bool (Nat.ble 7 b) true :: .ldg (takes is L).1 (D op x y (takes is L).1).pre :: ih (.bool (D op x y (takes is L).1).v) hs e L fs tk
      | none => bad
    | _ => bad
noncomputable def runS (sg : Sg) : SgF := Sg.rec (motive := fun _ => SgF) (fun t hs e L fs tk => runF V cs dep tf fin Pf P n hs b c [] t e L fs tk) (fun m emb _ ih => bindF V cs dep tf Pf P n b c m emb ih) (fun op x y _ ih => cmpF ds Pf b op x y ih) (fun _ _ _ _ _ => bad) sg
end
theorem SgGo.perm {V : VV} {A : Around} {c : Code} {R : RPost} {sg : Sg} {L L' : Ldg} {tk : Nat} (p : L'.Perm L) (x : SgGo V A c R sg L' tk) : SgGo V A c R sg L tk := by
  cases sg with
  | run t => exact Go.perm p x
  | bind m emb K => exact GoM.perm p x
  | cmp op a b K => exact GoM.perm p x
  | bad => exact x
section
variable {V : VV} {cs : (Nat → Ev) → List (Code → Ldg → Spec)} {dep : Nat → Nat} {ds : List CmpTy} {tf : Bool} {t₀ : Nat} {fin : (Nat → Ev) → FinTy} {Pf : (Nat → Ev) → Nat → HP} {R₀ : RPost} {A : Around} {F : Ldg} {c : Code} {n b : Nat}
theorem goM_of_bindR {α : Type} {m : Sem α} {emb : α → Flow} {Q : Flow → Ldg → Nat → Prop} {L : Ldg} {tk : Nat}
    (x : Go V A c (R.bindR m fun v => .pure (.done (emb v))) (fun r L tk => match r with | .ok f => Q f L tk | .error _ => False) L tk) : GoM V A c m (fun v L tk => Q (emb v) L tk) L tk := by
  intro h D Γ p hc hΓ
  have z := x h D Γ p hc hΓ
  rw [← R.bindR_eq] at z
  have e := Sem.wp_bind' (model V.prog V.w) Γ m (fun v => Sem.pure (Fin.done (emb v))) (fun a _ s' => postC V.prog V.w A (Post V (fun r L tk => match r with | .ok f => Q f L tk | .error _ => False)) a s') (fun x _ s' => postE (Post V (fun r L tk => match r with | .ok f => Q f L tk | .error _ => False)) x s') p (sh V h tk)
  have z' := e.mp z
  refine Sem.wp_mono _ Γ _ (fun v p' s' q => ?_) (fun x p' s' q => ?_) _ _ z'
  · obtain ⟨h', tk', L', es, D', hp⟩ := q
    exact ⟨h', tk', L', es, D', hp⟩
  · obtain ⟨h', tk', L', es, D', hp⟩ := q
    exact hp.elim
theorem runS_sound (G : Good V) (hcs : ∀ P, CsOk V (cs P)) (hdep : ∀ j P Q, Agree (dep j) P Q → (cs P)[j]? = (cs Q)[j]?) (hds : DsOk V ds) (hF : FinOk V R₀ A F t₀ fin) (hR : Rm A b) : ∀ (sg : Sg) (hs : List Hint) (e : Nat) (L : Ldg) (fs : List Prop) (tk : Nat) (P₀ : Nat → Ev),
    (∀ P, Agree e P P₀ → HoldsAll (runS V (cs P) dep ds tf (fin P) (Pf P) P n b c sg hs e L fs tk)) → (∀ p ∈ fs, p) → t₀ ≤ tk → SgGo V A c R₀ sg (L ++ F) tk := by
  intro sg
  induction sg with
  | run t =>
    intro hs e L fs tk P₀ H hfs ht
    exact runF_sound (A₀ := A) (F := F) G hcs hdep hF n hs b c [] t e L fs tk P₀ H hfs ht hR
  | bind m emb K ih =>
    intro hs e L fs tk P₀ H hfs ht
    refine goM_of_bindR (Q := fun f L tk => SgGo V A c R₀ (K f) L tk) ?_
    have hF' : FinOk V (fun r L tk => match r with | .ok f => SgGo V A c R₀ (K f) L tk | .error _ => False) A F t₀ (fun P r hs _ e L fs tk => match r with
      | .ok f => runS V (cs P) dep ds tf (fin P) (Pf P) P n b c (K f) hs e L fs tk
      | .error _ => bad) := by
      intro r hs b' e L fs tk P₀ H hfs ht _ h D
      cases r with
      | ok f => exact ⟨L ++ F, D, ih f hs e L fs tk P₀ H hfs ht⟩
      | error x => exact (not_bad (H P₀ fun _ _ => rfl)).elim
    exact runF_sound (A₀ := A) (F := F) G hcs hdep hF' n hs b c [] _ e L fs tk P₀ H hfs ht hR
  | cmp op x y K ih =>
    intro hs e L fs tk P₀ H hfs ht
    have H : ∀ P, Agree e P P₀ → HoldsAll (cmpF ds (Pf P) b op x y (fun v => runS V (cs P) dep ds tf (fin P) (Pf P) P n b c (K v)) hs e L fs tk) := H
    cases hs with
    | nil => exact (not_bad (H P₀ (fun _ _ => rfl))).elim
    | cons x0 hs' =>
      cases x0 with
      | q j is =>
        simp only [cmpF] at H
        cases hj : ds[j]? with
        | none => rw [hj] at H; exact (not_bad (H P₀ (fun _ _ => rfl))).elim
        | some D =>
          rw [hj] at H
          have hh : (D op x y (takes is L).1).hypO := cHypO_no (H P₀ (fun _ _ => rfl)).head
          have H0 := (H P₀ (fun _ _ => rfl)).tail
          have h0 := H0.head
          have h1 : Nat.ble 7 b = true := H0.tail.head
          have h2 : (takes is L).1 = (D op x y (takes is L).1).pre := H0.tail.tail.head
          refine GoM.of_wpAny fun h Dl => ?_
          have m := DsOk.get hds hj op x y (takes is L).1 h0 hh (A.under c) h ((takes is L).2 ++ F) tk
          refine m _ _ ?_ (Dl.perm ?_) ⟨h, tk, L ++ F, rfl, Dl, ?_⟩
          · have := hR.2.1
            have := units_le c
            have := Nat.le_of_ble_eq_true h1
            show A.units + c.cUnits + 64 < cLine
            omega
          · rw [← h2, ← List.append_assoc]
            exact (takes_perm is L).append_right F
          · exact ih _ hs' e L fs tk P₀ (fun P a => (H P a).tail.tail.tail.tail) hfs ht
      | qh j is m' =>
        simp only [cmpF] at H
        cases hj : ds[j]? with
        | none => rw [hj] at H; exact (not_bad (H P₀ (fun _ _ => rfl))).elim
        | some D =>
          rw [hj] at H
          have hh : (D op x y (takes is L).1).hypO := cHypO_yes (H P₀ (fun _ _ => rfl)).tail.head hfs
          have H0 := (H P₀ (fun _ _ => rfl)).tail.tail
          have h0 := H0.head
          have h1 : Nat.ble 7 b = true := H0.tail.head
          have h2 : (takes is L).1 = (D op x y (takes is L).1).pre := H0.tail.tail.head
          refine GoM.of_wpAny fun h Dl => ?_
          have m := DsOk.get hds hj op x y (takes is L).1 h0 hh (A.under c) h ((takes is L).2 ++ F) tk
          refine m _ _ ?_ (Dl.perm ?_) ⟨h, tk, L ++ F, rfl, Dl, ?_⟩
          · have := hR.2.1
            have := units_le c
            have := Nat.le_of_ble_eq_true h1
            show A.units + c.cUnits + 64 < cLine
            omega
          · rw [← h2, ← List.append_assoc]
            exact (takes_perm is L).append_right F
          · exact ih _ hs' e L fs tk P₀ (fun P a => (H P a).tail.tail.tail.tail.tail) hfs ht
      | _ => exact (not_bad (H P₀ (fun _ _ => rfl))).elim
  | bad =>
    intro hs e L fs tk P₀ H hfs ht
    exact (not_bad (H P₀ (fun _ _ => rfl))).elim
end
/-- a code in pieces -/
theorem meets_sg {V : VV} {cs : List (Code → Ldg → Spec)} {ds : List CmpTy} {T : Spec} (G : Good V) (hcs : CsOk V cs) (hds : DsOk V ds) (sg : Sg) (hsg : ∀ A R L tk, SgGo V A T.code R sg L tk → CodeG V A T.code R L tk)
    (n : Nat) (hs : List Hint) (out : Nat → (Nat → Ev) → Sup) (ex : Nat → (Nat → Ev) → List Prop) (fis : List Nat) (Pf : Nat → (Nat → Ev) → Nat → HP) (hT : ∀ tk P, (∀ p ∈ ex tk P, p) → T.fact (out tk P))
    (H : ∀ tk P, sides Eqn.l (runS V cs (fun _ => 0) ds false (endF T (out tk) (ex tk) fis P) (Pf tk P) P n T.d T.code sg hs 0 T.pre [] tk) = sides Eqn.r (runS V cs (fun _ => 0) ds false (endF T (out tk) (ex tk) fis P) (Pf tk P) P n T.d T.code sg hs 0 T.pre [] tk)) (hq : ∀ t₀ σ t, T.factTO t₀ σ t := by intros; exact trivial) : Meets V T := by
  intro _ _ A F tk _ hR
  exact hsg A _ _ tk (runS_sound (F := F) (Pf := Pf tk) (t₀ := tk) (cs := fun _ => cs) (dep := fun _ => 0) G (fun _ => hcs) (fun _ _ _ _ => rfl) hds (endF_ok (hq tk) (hT tk)) hR sg hs 0 T.pre [] tk (fun _ => ev0) (fun P _ => all_of (H tk P)) (fun _ h => nomatch h) (Nat.le_refl _))
/-- a code by the runner, with what must be known ahead of its contracts -/
theorem meets_hp {V : VV} {cs : List (Code → Ldg → Spec)} {T : Spec} (G : Good V) (hcs : CsOk V cs)
    (n : Nat) (hs : List Hint) (out : Nat → (Nat → Ev) → Sup) (ex : Nat → (Nat → Ev) → List Prop) (fis : List Nat) (Pf : Nat → (Nat → Ev) → Nat → HP) (hT : ∀ tk P, (∀ p ∈ ex tk P, p) → T.fact (out tk P))
    (H : ∀ tk P, sides Eqn.l (runF V cs (fun _ => 0) false (endF T (out tk) (ex tk) fis P) (Pf tk P) P n hs T.d T.code [] (dn T.code) 0 T.pre [] tk) = sides Eqn.r (runF V cs (fun _ => 0) false (endF T (out tk) (ex tk) fis P) (Pf tk P) P n hs T.d T.code [] (dn T.code) 0 T.pre [] tk)) (hq : ∀ t₀ σ t, T.factTO t₀ σ t := by intros; exact trivial) : Meets V T := by
  intro _ _ A F tk _ hR
  refine go_code ?_
  rw [dn_eq]
  exact runF_sound (A₀ := A) (F := F) (Pf := Pf tk) (t₀ := tk) (cs := fun _ => cs) (dep := fun _ => 0) G (fun _ => hcs) (fun _ _ _ _ => rfl) (endF_ok (hq tk) (hT tk)) n hs T.d T.code [] (dn T.code) 0 T.pre [] tk (fun _ => ev0) (fun P _ => all_of (H tk P)) (fun _ h => nomatch h) (Nat.le_refl _) hR
/-- the same, with the tokens watched; te: the tokens at the end -/
theorem meets_ht {V : VV} {cs : List (Code → Ldg → Spec)} {T : Spec} (G : Good V) (hcs : CsOk V cs)
    (n : Nat) (hs : List Hint) (out : Nat → (Nat → Ev) → Sup) (ex : Nat → (Nat → Ev) → List Prop) (fis : List Nat) (te : Nat → (Nat → Ev) → Nat) (Pf : ∀ tk, T.hypTO tk → (Nat → Ev) → Nat → HP) (hT : ∀ tk, T.hypTO tk → ∀ P, (∀ p ∈ ex tk P, p) → T.fact (out tk P) ∧ T.factTO tk (out tk P) (te tk P))
    (H : ∀ tk (ht : T.hypTO tk) P, sides Eqn.l (runF V cs (fun _ => 0) true (endFT T (out tk) (ex tk) fis (te tk) P) (Pf tk ht P) P n hs T.d T.code [] (dn T.code) 0 T.pre [] tk) = sides Eqn.r (runF V cs (fun _ => 0) true (endFT T (out tk) (ex tk) fis (te tk) P) (Pf tk ht P) P n hs T.d T.code [] (dn T.code) 0 T.pre [] tk)) : Meets V T := by
  intro _ _ A F tk ht hR
  refine go_code ?_
  rw [dn_eq]
  exact runF_sound (A₀ := A) (F := F) (Pf := Pf tk ht) (t₀ := tk) (cs := fun _ => cs) (dep := fun _ => 0) G (fun _ => hcs) (fun _ _ _ _ => rfl) (endFT_ok (hT tk ht)) n hs T.d T.code [] (dn T.code) 0 T.pre [] tk (fun _ => ev0) (fun P _ => all_of (H tk ht P)) (fun _ h => nomatch h) (Nat.le_refl _) hR
/-- a code in pieces, with the tokens watched -/
theorem meets_sgt {V : VV} {cs : List (Code → Ldg → Spec)} {ds : List CmpTy} {T : Spec} (G : Good V) (hcs : CsOk V cs) (hds : DsOk V ds) (sg : Sg) (hsg : ∀ A R L tk, SgGo V A T.code R sg L tk → CodeG V A T.code R L tk)
    (n : Nat) (hs : List Hint) (out : Nat → (Nat → Ev) → Sup) (ex : Nat → (Nat → Ev) → List Prop) (fis : List Nat) (te : Nat → (Nat → Ev) → Nat) (Pf : ∀ tk, T.hypTO tk → (Nat → Ev) → Nat → HP) (hT : ∀ tk, T.hypTO tk → ∀ P, (∀ p ∈ ex tk P, p) → T.fact (out tk P) ∧ T.factTO tk (out tk P) (te tk P))
    (H : ∀ tk (ht : T.hypTO tk) P, sides Eqn.l (runS V cs (fun _ => 0) ds true (endFT T (out tk) (ex tk) fis (te tk) P) (Pf tk ht P) P n T.d T.code sg hs 0 T.pre [] tk) = sides Eqn.r (runS V cs (fun _ => 0) ds true (endFT T (out tk) (ex tk) fis (te tk) P) (Pf tk ht P) P n T.d T.code sg hs 0 T.pre [] tk)) : Meets V T := by
  intro _ _ A F tk ht hR
  exact hsg A _ _ tk (runS_sound (F := F) (Pf := Pf tk ht) (t₀ := tk) (cs := fun _ => cs) (dep := fun _ => 0) G (fun _ => hcs) (fun _ _ _ _ => rfl) hds (endFT_ok (hT tk ht)) hR sg hs 0 T.pre [] tk (fun _ => ev0) (fun P _ => all_of (H tk ht P)) (fun _ h => nomatch h) (Nat.le_refl _))
/-- the most general: contracts that name what earlier events brought; contract j from event dep j on -/
theorem meets_dep {V : VV} {cs : (Nat → Ev) → List (Code → Ldg → Spec)} {dep : Nat → Nat} {ds : List CmpTy} {T : Spec} (G : Good V) (hcs : ∀ P, CsOk V (cs P)) (hdep : ∀ j P Q, Agree (dep j) P Q → (cs P)[j]? = (cs Q)[j]?) (hds : DsOk V ds) (sg : Sg) (hsg : ∀ A R L tk, SgGo V A T.code R sg L tk → CodeG V A T.code R L tk)
    (n : Nat) (hs : List Hint) (out : Nat → (Nat → Ev) → Sup) (ex : Nat → (Nat → Ev) → List Prop) (fis : List Nat) (te : Nat → (Nat → Ev) → Nat) (Pf : ∀ tk, T.hypTO tk → (Nat → Ev) → Nat → HP) (hT : ∀ tk, T.hypTO tk → ∀ P, (∀ p ∈ ex tk P, p) → T.fact (out tk P) ∧ T.factTO tk (out tk P) (te tk P))
    (H : ∀ tk (ht : T.hypTO tk) P, sides Eqn.l (runS V (cs P) dep ds true (endFT T (out tk) (ex tk) fis (te tk) P) (Pf tk ht P) P n T.d T.code sg hs 0 T.pre [] tk) = sides Eqn.r (runS V (cs P) dep ds true (endFT T (out tk) (ex tk) fis (te tk) P) (Pf tk ht P) P n T.d T.code sg hs 0 T.pre [] tk)) : Meets V T := by
  intro _ _ A F tk ht hR
  exact hsg A _ _ tk (runS_sound (F := F) (Pf := Pf tk ht) (t₀ := tk) G hcs hdep hds (endFT_ok (hT tk ht)) hR sg hs 0 T.pre [] tk (fun _ => ev0) (fun P _ => all_of (H tk ht P)) (fun _ h => nomatch h) (Nat.le_refl _))
/-- a code that is not in pieces, as pieces -/
theorem sg_run {V : VV} {A : Around} {c : Code} {R : RPost} {L : Ldg} {tk : Nat} (x : SgGo V A c R (.run (dn c)) L tk) : CodeG V A c R L tk := by
  refine go_code ?_
  rw [dn_eq]
  exact x
end Mine
end
section
set_option maxRecDepth 100000
namespace Mine
open PySem PySem.W PySem.W.X PyProof.Rows
open Sem (wp)
noncomputable def evZ (e : Expr) (env : Env) : Sem Value := PySem.W.ZFast.zw14044960220447912780 e env
theorem evZ_eq (e : Expr) (env : Env) : eval e env = evZ e env := by unfold evZ; rw [PySem.W.ZFast.ze14044960220447912780]
noncomputable def itZ (e : Expr) (env : Env) : Sem Bool := PySem.W.ZFast.zw15418851999007992765 e env (PySem.W.ZFast.zw14044960220447912780 e env)
theorem itZ_eq (e : Expr) (env : Env) : isTrue e env (eval e env) = itZ e env := by unfold itZ; rw [PySem.W.ZFast.ze15418851999007992765, PySem.W.ZFast.ze14044960220447912780]
noncomputable def exZ (l : List Stmt) (env : Env) : Sem Flow := PySem.W.ZFast.zw12563942051412417395 l env
theorem exZ_eq (l : List Stmt) (env : Env) : execs l env = exZ l env := by unfold exZ; rw [PySem.W.ZFast.ze12563942051412417395]
noncomputable def rv : Flow → Value
  | .ret v => v
  | _ => .none
noncomputable def emB (b : Bool) : Flow := .ret (.bool b)
section
variable {V : VV} {A : Around} {c : Code} {R : RPost} {L : Ldg} {tk : Nat} {env : Env}
theorem goM_cmp {l r : Expr} {op : CmpOp} {pos : Pos} {K : Value → Sg} (hm : behindInMarks op r = false)
    (x : SgGo V A c R (.bind (evZ l env) .ret fun f => .bind (evZ r env) .ret fun g => .cmp op (rv f) (rv g) K) L tk) : GoM V A c (eval (.Compare l [op] [r] pos) env) (fun v L' tk' => SgGo V A c R (K v) L' tk') L tk := by
  refine goM_Compare1 hm ?_
  rw [evZ_eq]
  refine GoM.mono x fun a L₁ t₁ h => ?_
  rw [evZ_eq]
  exact h
theorem goM_cmpT {l r : Expr} {op : CmpOp} {pos : Pos} {whole : Sem Value} {K : Bool → Sg} (hm : behindInMarks op r = false)
    (x : SgGo V A c R (.bind (evZ l env) .ret fun f => .bind (evZ r env) .ret fun g => .cmp op (rv f) (rv g) fun v => match v with | .bool b => K b | _ => .bad) L tk) :
    GoM V A c (isTrue (.Compare l [op] [r] pos) env whole) (fun b L' tk' => SgGo V A c R (K b) L' tk') L tk := by
  refine goM_isTrue_Compare1 hm ?_
  rw [evZ_eq]
  refine GoM.mono x fun a L₁ t₁ h => ?_
  rw [evZ_eq]
  refine GoM.mono h fun b L₂ t₂ h => GoM.mono h fun v L₃ t₃ h => ?_
  cases v with
  | bool b => exact GoM.of_wpAny fun hp D => wpAny_truthy_bool ⟨hp, t₃, L₃, rfl, D, h⟩
  | _ => exact h.elim
theorem goM_or {a : Expr} {b : Expr} {p : Pos} {whole : Sem Value} {Q : Bool → Ldg → Nat → Prop}
    (x : GoM V A c (isTrue a env (eval a env)) (fun v L' tk' => if v then Q true L' tk' else GoM V A c (isTrue b env (eval b env)) Q L' tk') L tk) : GoM V A c (isTrue (.BoolOp .Or [a, b] p) env whole) Q L tk := by
  show GoM V A c (do
    match BoolOp.Or, ← isTrue a env (eval a env) with
    | .And, false => pure false
    | .Or, true => pure true
    | _, _ => (do
      match BoolOp.Or, ← isTrue b env (eval b env) with
      | .And, false => pure false
      | .Or, true => pure true
      | _, _ => pure (BoolOp.Or == .And))) Q L tk
  refine goM_bind (x.mono fun v L' tk' h => ?_)
  cases v with
  | true => exact goM_pure h
  | false =>
    refine goM_bind (GoM.mono h fun v L' tk' h => ?_)
    cases v with
    | true => exact goM_pure h
    | false => exact goM_pure h
end
end Mine
end
section
set_option maxRecDepth 100000
namespace Mine
open PySem PySem.W PySem.W.X PyProof.Rows
open Sem (wp)
noncomputable def nxZ (it : Value) : Sem (Option Value) := PySem.W.ZFast.zw9404975358583537561 it
theorem nxZ_eq (it : Value) : pyNext it = nxZ it := by unfold nxZ; rw [PySem.W.ZFast.ze9404975358583537561]
noncomputable def loZ (t : Expr) (it v : Value) : Sem Unit := PySem.W.ZFast.zw1578499551869305889 t it v
theorem loZ_eq (t : Expr) (it v : Value) : letOwnedTupleGo t it v = loZ t it v := by unfold loZ; rw [PySem.W.ZFast.ze1578499551869305889]
noncomputable def asZ (t : Expr) (env : Env) (v : Value) : Sem Unit := PySem.W.ZFast.zw17772580674575903948 t env v
theorem asZ_eq (t : Expr) (env : Env) (v : Value) : assign t env v = asZ t env v := by unfold asZ; rw [PySem.W.ZFast.ze17772580674575903948]
noncomputable def emO : Option Value → Flow
  | none => .next
  | some v => .ret v
noncomputable def emU (_ : Unit) : Flow := .next
section
variable {V : VV} {A : Around} {c : Code} {R : RPost} {L : Ldg} {tk : Nat} {env : Env}
theorem GoM.withΓ {α : Type} {m : Sem α} {Q : α → Ldg → Nat → Prop} (x : GoM V A c m Q L tk) : GoM V A c m (fun v L tk => Q v L tk ∧ ∃ Γ : Ctx, Γ.code = c ∧ Γ.Below A) L tk := fun h D Γ p hc hΓ =>
  Sem.wp_mono _ Γ _ (fun _ _ _ ⟨h', tk', L', e, D', q⟩ => ⟨h', tk', L', e, D', q, Γ, hc, hΓ⟩) (fun _ _ _ f => f) _ _ (x h D Γ p hc hΓ)
theorem again_out {c' : Code} (x : Go V A c (.pure (.again c')) R L tk) (g : ∃ Γ : Ctx, Γ.code = c ∧ Γ.Below A) : CodeG V A c' R L tk := fun h D => by
  obtain ⟨Γ, hc, hΓ⟩ := g
  exact (x h D Γ default hc hΓ).2
/-- a turn of a for, a comparison of containers in its body -/
noncomputable def sgFor (target : Expr) (it : Value) (xs : List Stmt) (l r : Expr) (op : CmpOp) (rest : List Stmt) (env : Env) (again : Code) : Sg :=
  .bind (nxZ it) emO fun f => match f with
    | .ret v => .bind (loZ target it v) emU fun _ => .bind (asZ target env v) emU fun _ => .bind (exZ xs env) id fun f => match f with
      | .next => .bind (evZ l env) .ret fun f => .bind (evZ r env) .ret fun g => .cmp op (rv f) (rv g) fun v => match v with
        | .bool b => match b with
          | false => .bind (exZ rest env) id fun f => match f with
            | .next => .run (.pure (.again again))
            | _ => .bad
          | true => .bad
        | _ => .bad
      | _ => .bad
    | _ => .bad
theorem for_conv {target : Expr} {it : Value} {xs : List Stmt} {l r : Expr} {op : CmpOp} {p q : Pos} {tb rest : List Stmt} (hm : behindInMarks op r = false)
    (hq : (Code.forLoop target it (xs ++ .If (.Compare l [op] [r] p) tb [] q :: rest) [] env).quiet = true)
    (x : SgGo V A (.forLoop target it (xs ++ .If (.Compare l [op] [r] p) tb [] q :: rest) [] env) R (sgFor target it xs l r op rest env (.forLoop target it (xs ++ .If (.Compare l [op] [r] p) tb [] q :: rest) [] env)) L tk) :
    CodeG V A (.forLoop target it (xs ++ .If (.Compare l [op] [r] p) tb [] q :: rest) [] env) R L tk := by
  refine code_of ?_
  show GoM V A _ ((forTurn target it (xs ++ .If (.Compare l [op] [r] p) tb [] q :: rest) [] env).onRaise _) _ L tk
  refine goM_onRaise ?_
  unfold forTurn
  refine goM_standAt (goM_bind (goM_onRaise ?_))
  rw [nxZ_eq]
  refine GoM.mono x fun o L₁ t₁ h => ?_
  cases o with
  | none => exact h.elim
  | some v =>
    refine goM_bind ?_
    rw [loZ_eq]
    refine GoM.mono h fun _ L₂ t₂ h => goM_bind ?_
    rw [asZ_eq]
    refine GoM.mono h fun _ L₃ t₃ h => goM_bind ?_
    refine goM_execs_append ?_
    rw [exZ_eq]
    refine GoM.mono h fun f L₄ t₄ h => ?_
    cases f with
    | next =>
      refine goM_execs_cons (goM_If (GoM.mono (goM_cmpT (K := fun b => match b with
          | false => .bind (exZ rest env) id fun f => match f with
            | .next => .run (.pure (.again (.forLoop target it (xs ++ .If (.Compare l [op] [r] p) tb [] q :: rest) [] env)))
            | _ => .bad
          | true => .bad) hm h) fun b L₅ t₅ h => ?_))
      cases b with
      | true => exact h.elim
      | false =>
        refine goM_execs_nil ?_
        show GoM V A _ (execs rest env) _ L₅ t₅
        rw [exZ_eq]
        refine GoM.mono (GoM.withΓ h) fun f L₆ t₆ ⟨h, g⟩ => ?_
        cases f with
        | next => exact goM_pure ⟨hq, again_out h g⟩
        | _ => exact h.elim
    | _ => exact h.elim
end
end Mine
end
section
set_option maxRecDepth 100000
namespace Mine
open PySem PySem.W PySem.W.X PyProof.Rows
open Sem (wp)
noncomputable def cpZ (op : CmpOp) (a b : Value) : Sem Value := PySem.W.ZFast.zw12886488535604756494 op a b
theorem cpZ_eq (op : CmpOp) (a b : Value) : compareOp op a b = cpZ op a b := by unfold cpZ; rw [PySem.W.ZFast.ze12886488535604756494]
noncomputable def clZ (f : Value) (vs : List Value) : Sem Value := PySem.W.ZFast.zw11478286150595567475 f vs []
theorem clZ_eq (f : Value) (vs : List Value) : PySem.call f vs = clZ f vs := by unfold clZ; rw [PySem.W.ZFast.ze11478286150595567475]
section
variable {V : VV} {A : Around} {c : Code} {R : RPost} {L : Ldg} {tk : Nat} {env : Env}
/-- a turn of [elt for target in it if (a == b) == rr] -/
noncomputable def sgComp (target : Expr) (it acc : Value) (elt a b rr : Expr) (env : Env) (again : Code) : Sg :=
  .bind (nxZ it) emO fun f => match f with
    | .ret v => .bind (loZ target it v) emU fun _ => .bind (asZ target env v) emU fun _ =>
      .bind (evZ a env) .ret fun f => .bind (evZ b env) .ret fun g => .cmp .Eq (rv f) (rv g) fun v1 =>
      .bind (evZ rr env) .ret fun g2 => .bind (cpZ .Eq v1 (rv g2)) .ret fun v2 => match rv v2 with
        | .bool t => match t with
          | true => .bind (evZ elt env) .ret fun x => .bind (clZ (.builtin "list.append") [acc, rv x]) .ret fun _ => .run (.pure (.again again))
          | false => .run (.pure (.again again))
        | _ => .bad
    | _ => .bad
theorem comp_conv {elt target iter a b rr : Expr} {p1 p2 : Pos} {scope : Scope} {pos : Pos} {it acc : Value} (h1 : behindInMarks .Eq b = false) (h2 : behindInMarks .Eq rr = false)
    (hq : (Code.compLoop (.ListComp elt [⟨target, iter, [.Compare (.Compare a [.Eq] [b] p1) [.Eq] [rr] p2], 0⟩] scope pos) 0 it acc env).quiet = true)
    (x : SgGo V A (.compLoop (.ListComp elt [⟨target, iter, [.Compare (.Compare a [.Eq] [b] p1) [.Eq] [rr] p2], 0⟩] scope pos) 0 it acc env) R (sgComp target it acc elt a b rr env (.compLoop (.ListComp elt [⟨target, iter, [.Compare (.Compare a [.Eq] [b] p1) [.Eq] [rr] p2], 0⟩] scope pos) 0 it acc env)) L tk) :
    CodeG V A (.compLoop (.ListComp elt [⟨target, iter, [.Compare (.Compare a [.Eq] [b] p1) [.Eq] [rr] p2], 0⟩] scope pos) 0 it acc env) R L tk := by
  refine code_of ?_
  show GoM V A _ ((compTurn (.ListComp elt [⟨target, iter, [.Compare (.Compare a [.Eq] [b] p1) [.Eq] [rr] p2], 0⟩] scope pos) 0 it acc env).onRaise (fun x => do noteFrame x env; theTreesLotGoes x)) _ L tk
  refine goM_onRaise ?_
  rw [compTurn_list]
  refine goM_standAt (goM_bind ?_)
  rw [nxZ_eq]
  refine GoM.mono x fun o L₁ t₁ h => ?_
  cases o with
  | none => exact h.elim
  | some v =>
    refine goM_bind ?_
    rw [loZ_eq]
    refine GoM.mono h fun _ L₂ t₂ h => goM_bind ?_
    rw [asZ_eq]
    refine GoM.mono h fun _ L₃ t₃ h => goM_bind ?_
    simp only [List.forIn_cons, List.forIn_nil, if_true]
    refine goM_bind (goM_bind ?_)
    refine goM_isTrue_Compare1 h2 (goM_Compare1 h1 ?_)
    rw [evZ_eq]
    refine GoM.mono h fun f L₄ t₄ h => ?_
    rw [evZ_eq]
    refine GoM.mono h fun g L₅ t₅ h => GoM.mono h fun v1 L₆ t₆ h => ?_
    rw [evZ_eq]
    refine GoM.mono h fun g2 L₇ t₇ h => ?_
    rw [cpZ_eq]
    refine GoM.mono h fun v2 L₈ t₈ h => ?_
    cases v2 with
    | bool t =>
      refine GoM.of_wpAny fun hp D => wpAny_truthy_bool ⟨hp, t₈, L₈, rfl, D, ?_⟩
      refine goM_pure (goM_pure ?_)
      cases t with
      | true =>
        refine goM_bind (goM_bind ?_)
        rw [evZ_eq]
        refine GoM.mono h fun xv L₉ t₉ h => goM_bind ?_
        rw [clZ_eq]
        refine GoM.mono (GoM.withΓ h) fun _ L₁ t₁ ⟨h, g⟩ => goM_pure ?_
        exact goM_pure ⟨hq, again_out h g⟩
      | false =>
        rw [if_neg Bool.false_ne_true]
        exact fun hp D Γ p hc hΓ => ⟨hp, t₈, L₈, rfl, D, hq, again_out h ⟨Γ, hc, hΓ⟩⟩
    | _ => exact h.elim
end
end Mine
end
section
set_option maxRecDepth 100000
namespace Mine
open PySem PySem.W PySem.W.X PyProof.Rows
open Sem (wp)
section
variable {V : VV} {A : Around} {c : Code} {R : RPost} {L : Ldg} {tk : Nat} {env : Env}
theorem goM_out {α : Type} {m : Sem α} {emb : α → Flow} (x : GoM V A c m (fun v L tk => Go V A c (.pure (.done (emb v))) R L tk) L tk) : GoM V A c m (fun v L tk => R (.ok (emb v)) L tk) L tk := fun hp D Γ p hc hΓ =>
  Sem.wp_mono _ Γ _ (fun v p' s q => by
    obtain ⟨h', tk', L', es, D', g⟩ := q
    obtain ⟨h2, tk2, L2, e2, D2, q2⟩ := g h' D' Γ p' hc hΓ
    exact ⟨h2, tk2, L2, by rw [es]; exact e2, D2, q2⟩) (fun _ _ _ f => f) _ _ (x hp D Γ p hc hΓ)
noncomputable def emF (f : Flow) : Flow := .ret (match f with | .ret v => v | _ => .none)
/-- a function's body by pieces: what it gives back -/
theorem func_conv {body : List Stmt} (x : GoM V A (.func body env) (execs body env) (fun f L' tk' => Go V A (.func body env) (.pure (.done (.ret (match f with | .ret v => v | _ => .none)))) R L' tk') L tk) : CodeG V A (.func body env) R L tk :=
  code_func (goM_out (emb := emF) x)
/-- if a or l != r: ..; return l3 == r3 -/
noncomputable def sgCalm (a l r l3 r3 : Expr) (env : Env) : Sg :=
  .bind (itZ a env) emB fun f => match rv f with
    | .bool b => match b with
      | false => .bind (evZ l env) .ret fun f => .bind (evZ r env) .ret fun g => .cmp .NotEq (rv f) (rv g) fun v => match v with
        | .bool b => match b with
          | false => .bind (evZ l3 env) .ret fun f => .bind (evZ r3 env) .ret fun g => .cmp .Eq (rv f) (rv g) fun v => .run (.pure (.done (.ret v)))
          | true => .bad
        | _ => .bad
      | true => .bad
    | _ => .bad
theorem calm_conv {body : List Stmt} {a l r l3 r3 : Expr} {tb : List Stmt} {p1 p2 p3 q1 q2 : Pos} (e : body = [.If (.BoolOp .Or [a, .Compare l [.NotEq] [r] p2] p1) tb [] q1, .Return (some (.Compare l3 [.Eq] [r3] p3)) q2]) (h1 : behindInMarks .NotEq r = false) (h2 : behindInMarks .Eq r3 = false)
    (x : SgGo V A (.func body env) R (sgCalm a l r l3 r3 env) L tk) : CodeG V A (.func body env) R L tk := by
  refine func_conv ?_
  have key : ∀ c, SgGo V A c R (sgCalm a l r l3 r3 env) L tk → GoM V A c (execs [.If (.BoolOp .Or [a, .Compare l [.NotEq] [r] p2] p1) tb [] q1, .Return (some (.Compare l3 [.Eq] [r3] p3)) q2] env) (fun f L' tk' => Go V A c (.pure (.done (.ret (match f with | .ret v => v | _ => .none)))) R L' tk') L tk := by
    intro c x
    refine goM_execs_cons (goM_If (goM_or ?_))
    rw [itZ_eq]
    refine GoM.mono x fun b L₁ t₁ h => ?_
    cases b with
    | true => exact h.elim
    | false =>
      rw [if_neg Bool.false_ne_true]
      refine GoM.mono (goM_cmpT (K := fun b => match b with
          | false => .bind (evZ l3 env) .ret fun f => .bind (evZ r3 env) .ret fun g => .cmp .Eq (rv f) (rv g) fun v => .run (.pure (.done (.ret v)))
          | true => .bad) h1 h) fun b L₂ t₂ h => ?_
      cases b with
      | true => exact h.elim
      | false =>
        rw [if_neg Bool.false_ne_true]
        refine goM_execs_nil (goM_execs_cons (goM_Return ?_))
        exact GoM.mono (goM_cmp (K := fun v => .run (.pure (.done (.ret v)))) h2 h) fun v L₃ t₃ h => h
  rw [← e] at key
  exact key _ x
/-- xs; if l != r: ..; rest -/
noncomputable def sgTurn (xs : List Stmt) (l r : Expr) (rest : List Stmt) (env : Env) : Sg :=
  .bind (exZ xs env) id fun f => match f with
    | .next => .bind (evZ l env) .ret fun f => .bind (evZ r env) .ret fun g => .cmp .NotEq (rv f) (rv g) fun v => match v with
      | .bool b => match b with
        | false => .bind (exZ rest env) emF fun f => .run (.pure (.done f))
        | true => .bad
      | _ => .bad
    | _ => .bad
theorem turn_conv {body xs rest tb : List Stmt} {l r : Expr} {p q : Pos} (e : body = xs ++ .If (.Compare l [.NotEq] [r] p) tb [] q :: rest) (h1 : behindInMarks .NotEq r = false)
    (x : SgGo V A (.func body env) R (sgTurn xs l r rest env) L tk) : CodeG V A (.func body env) R L tk := by
  refine func_conv ?_
  have key : ∀ c, SgGo V A c R (sgTurn xs l r rest env) L tk → GoM V A c (execs (xs ++ .If (.Compare l [.NotEq] [r] p) tb [] q :: rest) env) (fun f L' tk' => Go V A c (.pure (.done (.ret (match f with | .ret v => v | _ => .none)))) R L' tk') L tk := by
    intro c x
    refine goM_execs_append ?_
    rw [exZ_eq]
    refine GoM.mono x fun f L₁ t₁ h => ?_
    cases f with
    | next =>
      refine goM_execs_cons (goM_If (GoM.mono (goM_cmpT (K := fun b => match b with
          | false => .bind (exZ rest env) emF fun f => .run (.pure (.done f))
          | true => .bad) h1 h) fun b L₂ t₂ h => ?_))
      cases b with
      | true => exact h.elim
      | false =>
        rw [if_neg Bool.false_ne_true]
        refine goM_execs_nil ?_
        show GoM V A _ (execs rest env) _ L₂ t₂
        rw [exZ_eq]
        exact GoM.mono h fun f L₃ t₃ h => h
    | _ => exact h.elim
  rw [← e] at key
  exact key _ x
theorem goM_and {pos : Pos} {x y : Sem Value} {rest : List (Sem Value)} {Q : Value → Ldg → Nat → Prop}
    (h : GoM V A c x (fun v L t => v = .bool true ∧ GoM V A c (boolOp pos .And (y :: rest)) Q L t) L tk) : GoM V A c (boolOp pos .And (x :: y :: rest)) Q L tk := by
  show GoM V A c (do
    let v ← x
    standAt pos
    let t ← holding [v] (truthy v)
    match BoolOp.And, t with
    | .And, false | .Or, true => pure v
    | _, _ => boolOp pos .And (y :: rest)) Q L tk
  refine goM_bind (GoM.mono h fun v L₁ t₁ ⟨e, h⟩ => goM_standAt (goM_bind (goM_holding ?_)))
  subst e
  exact GoM.of_wpAny fun hp D => wpAny_truthy_bool ⟨hp, t₁, L₁, rfl, D, h⟩
/-- xs; return a and b and l == r -/
noncomputable def sgLaw (xs : List Stmt) (a b l r : Expr) (env : Env) : Sg :=
  .bind (exZ xs env) id fun f => match f with
    | .next => .bind (evZ a env) .ret fun f => match rv f with
      | .bool t => match t with
        | true => .bind (evZ b env) .ret fun f => match rv f with
          | .bool t => match t with
            | true => .bind (evZ l env) .ret fun f => .bind (evZ r env) .ret fun g => .cmp .Eq (rv f) (rv g) fun v => .run (.pure (.done (.ret v)))
            | false => .bad
          | _ => .bad
        | false => .bad
      | _ => .bad
    | _ => .bad
theorem law_conv {body xs : List Stmt} {a b l r : Expr} {p1 p2 p3 : Pos} (e : body = xs ++ [.Return (some (.BoolOp .And [a, b, .Compare l [.Eq] [r] p3] p2)) p1]) (h1 : behindInMarks .Eq r = false)
    (x : SgGo V A (.func body env) R (sgLaw xs a b l r env) L tk) : CodeG V A (.func body env) R L tk := by
  refine func_conv ?_
  have key : ∀ c, SgGo V A c R (sgLaw xs a b l r env) L tk → GoM V A c (execs (xs ++ [.Return (some (.BoolOp .And [a, b, .Compare l [.Eq] [r] p3] p2)) p1]) env) (fun f L' tk' => Go V A c (.pure (.done (.ret (match f with | .ret v => v | _ => .none)))) R L' tk') L tk := by
    intro c x
    refine goM_execs_append ?_
    rw [exZ_eq]
    refine GoM.mono x fun f L₁ t₁ h => ?_
    cases f with
    | next =>
      refine goM_execs_cons (goM_Return ?_)
      show GoM V A c (boolOp p2 .And [eval a env, eval b env, eval (.Compare l [.Eq] [r] p3) env]) _ L₁ t₁
      refine goM_and ?_
      rw [evZ_eq]
      refine GoM.mono h fun v L₂ t₂ h => ?_
      cases v with
      | bool t =>
        cases t with
        | false => exact h.elim
        | true =>
          refine ⟨rfl, goM_and ?_⟩
          rw [evZ_eq]
          refine GoM.mono h fun v L₂ t₂ h => ?_
          cases v with
          | bool t =>
            cases t with
            | false => exact h.elim
            | true =>
              refine ⟨rfl, ?_⟩
              show GoM V A c (eval (.Compare l [.Eq] [r] p3) env) _ L₂ t₂
              exact GoM.mono (goM_cmp (K := fun v => .run (.pure (.done (.ret v)))) h1 h) fun v L₃ t₃ h => h
          | _ => exact h.elim
      | _ => exact h.elim
    | _ => exact h.elim
  rw [← e] at key
  exact key _ x
end
end Mine
end
section
set_option maxRecDepth 100000
namespace Mine
open PySem PySem.W PySem.W.X PyProof.Rows

noncomputable def dotS (l : Nat) : Str := ⟨(List.replicate l 46).toArray⟩
noncomputable def C_fmul : Code → Ldg → Spec := fun c _ => match c with
  | .call (.builtin id) ⟨[.float a _, .float b _], []⟩ => bSpecS c (S.eqLit 7635746494501894959690641599847 id) (fun σ => .float (Float64.mul a b) (Nat.succ (σ.n 0)))
  | _ => never c
noncomputable def C_fsub : Code → Ldg → Spec := fun c _ => match c with
  | .call (.builtin id) ⟨[.float a _, .float b _], []⟩ => bSpecS c (S.eqLit 7635734405354379277841151847783 id) (fun σ => .float (Float64.sub a b) (Nat.succ (σ.n 0)))
  | _ => never c
theorem C_fmul_ok {V : VV} (c : Code) (l : Ldg) : Meets V (C_fmul c l) := by
  unfold C_fmul
  split
  · rename_i id a t b u
    intro h
    have h0 := h
    simp only [bSpecS] at h
    have e := id_of h (s := "float.__mul__") (by decide +kernel)
    subst e
    exact con_givesS F.slot_float_mul (fun s => rfl) F.entry_float_mul (F.args_float_mul_2 _ _) (AutoFloatG1.float___mul___float_float_0 a t b u) (fun _ => rfl) h0
  · exact never_meets
theorem C_fsub_ok {V : VV} (c : Code) (l : Ldg) : Meets V (C_fsub c l) := by
  unfold C_fsub
  split
  · rename_i id a t b u
    intro h
    have h0 := h
    simp only [bSpecS] at h
    have e := id_of h (s := "float.__sub__") (by decide +kernel)
    subst e
    exact con_givesS F.slot_float_sub (fun s => rfl) F.entry_float_sub (F.args_float_sub_2 _ _) (AutoFloatG0.float___sub___float_float_0 a t b u) (fun _ => rfl) h0
  · exact never_meets

/-- what is known of the two numbers of a light -/
noncomputable def qf (l h : Nat) : UInt64 := Float64.ofFrac (decide (Int.ofNat l < 0) != decide (Int.ofNat h < 0)) (Int.ofNat l).natAbs (Int.ofNat h).natAbs
noncomputable def xf (l h : Nat) : UInt64 := Float64.mul (qf l h) 4618441417868443648
noncomputable def ti (l h : Nat) : Int := match Float64.decode (xf l h) with
  | .fin sg m e => Float64.truncOf sg m e
  | _ => 0
noncomputable def C_lenS (n : Nat) : Code → Ldg → Spec := fun c _ => oS c (match c with
  | .call (.builtin id) ⟨[.str _ t], []⟩ => some (id, t)
  | _ => none) fun (id, t) =>
    bSpec (.call (.builtin id) ⟨[.str (dotS n) t], []⟩) (S.eqLit 7300717 id) (fun σ => .int (Int.ofNat n) (σ.n 0))
noncomputable def C_tdiv (l h : Nat) : Code → Ldg → Spec := fun c _ => oS c (match c with
  | .call (.builtin id) ⟨[.int _ t, .int _ u], []⟩ => some (id, t, u)
  | _ => none) fun (id, t, u) =>
    bSpecS (.call (.builtin id) ⟨[.int (Int.ofNat l) t, .int (Int.ofNat h) u], []⟩) (S.eqLit 500417070820629625416170301335891818 id) (fun σ => .float (qf l h) (Nat.succ (σ.n 0)))
noncomputable def C_toInt (l h : Nat) : Code → Ldg → Spec := fun c _ => oS c (match c with
  | .call (.builtin id) ⟨[.float _ t], []⟩ => some (id, t)
  | _ => none) fun (id, t) =>
    bSpec (.call (.builtin id) ⟨[.float (xf l h) t], []⟩) (S.eqLit 7635756132778099520341684546919 id) (fun σ => .int (ti l h) (σ.n 0))
noncomputable def finB (l h : Nat) : Bool := match Float64.decode (xf l h) with
  | .fin _ _ _ => true
  | _ => false
theorem C_toInt_ok {V : VV} {l h : Nat} (hf : finB l h = true) (c : Code) (L : Ldg) : Meets V (C_toInt l h c L) := by
  refine oS_ok fun ⟨id, t⟩ => ?_
  show Meets _ (bSpec (.call (.builtin id) ⟨[.float (xf l h) t], []⟩) (S.eqLit 7635756132778099520341684546919 id) (fun σ => .int (ti l h) (σ.n 0)))
  intro q
  have h0 := q
  simp only [bSpec] at q
  have e := id_of q (s := "float.__int__") (by decide +kernel)
  subst e
  unfold finB at hf
  split at hf
  · rename_i sg m e hd
    have z : ti l h = Float64.truncOf sg m e := by unfold ti; rw [hd]
    exact con_gives F.slot_float_int (fun s => rfl) F.entry_float_int (F.args_float_int_1 _) (gives_float_int (xf l h) t hd) trivial (fun _ => by rw [z]; rfl) h0
  · cases hf
noncomputable def C_fsubi (l h : Nat) : Code → Ldg → Spec := fun c _ => oS c (match c with
  | .call (.builtin id) ⟨[.float a t, .int _ u], []⟩ => some (id, a, t, u)
  | _ => none) fun (id, a, t, u) =>
    bSpecS (.call (.builtin id) ⟨[.float a t, .int (ti l h) u], []⟩) (S.eqLit 7635734405354379277841151847783 id) (fun σ => .float (Float64.sub a (Float64.ofInt (ti l h))) (Nat.succ (σ.n 0)))
noncomputable def beqN (k : Int) (r : Nat) : Bool := match k with
  | .ofNat n => Nat.beq r n
  | .negSucc _ => false
/-- an int whose value is known, against a written one -/
noncomputable def C_eqi (x : Int) (r : Nat) : Code → Ldg → Spec := fun c _ => oS c (match c with
  | .call (.builtin id) ⟨[.int _ t, .int k u], []⟩ => some (id, t, k, u)
  | _ => none) fun (id, t, k, u) =>
    bSpec (.call (.builtin id) ⟨[.int x t, .int k u], []⟩) (S.eqLit 455126313168696235093866 id) (fun _ => .bool (beqN k r))
theorem C_tdiv_ok {V : VV} {l h : Nat} (hz : h ≠ 0) (hi : Float64.isInf (qf l h) = false) (c : Code) (L : Ldg) : Meets V (C_tdiv l h c L) := by
  refine oS_ok fun ⟨id, t, u⟩ => ?_
  show Meets _ (bSpecS (.call (.builtin id) ⟨[.int (Int.ofNat l) t, .int (Int.ofNat h) u], []⟩) (S.eqLit 500417070820629625416170301335891818 id) (fun σ => .float (qf l h) (Nat.succ (σ.n 0))))
  intro q
  have h0 := q
  simp only [bSpecS] at q
  have e := id_of q (s := "int.__truediv__") (by decide +kernel)
  subst e
  have z : ¬ ((Int.ofNat h) == 0) = true := by simpa using hz
  exact con_givesS F.slot_int_truediv (fun s => rfl) F.entry_int_truediv (F.args_int_truediv_2 _ _) (AutoIntG4.int___truediv___int_int_2 (Int.ofNat l) t (Int.ofNat h) u z (by
    have : Float64.isInf (Float64.ofFrac (decide (Int.ofNat l < 0) != decide (Int.ofNat h < 0)) (Int.ofNat l).natAbs (Int.ofNat h).natAbs) = false := hi
    rw [this]; exact Bool.false_ne_true)) (fun _ => rfl) h0
theorem C_fsubi_ok {V : VV} {l h : Nat} (hi : Float64.isInf (Float64.ofInt (ti l h)) = false) (c : Code) (L : Ldg) : Meets V (C_fsubi l h c L) := by
  refine oS_ok fun ⟨id, a, t, u⟩ => ?_
  show Meets _ (bSpecS (.call (.builtin id) ⟨[.float a t, .int (ti l h) u], []⟩) (S.eqLit 7635734405354379277841151847783 id) (fun σ => .float (Float64.sub a (Float64.ofInt (ti l h))) (Nat.succ (σ.n 0))))
  intro q
  have h0 := q
  simp only [bSpecS] at q
  have e := id_of q (s := "float.__sub__") (by decide +kernel)
  subst e
  exact con_givesS F.slot_float_sub (fun s => rfl) F.entry_float_sub (F.args_float_sub_2 _ _) (AutoFloatG3.float___sub___float_int_1 a t (ti l h) u (by rw [hi]; exact Bool.false_ne_true)) (fun _ => rfl) h0
theorem beqN_is (k : Int) (r : Nat) : ((Int.ofNat r) == k) = beqN k r := by
  unfold beqN
  cases k with
  | ofNat n =>
    show decide (Int.ofNat r = Int.ofNat n) = Nat.beq r n
    cases q : Nat.beq r n with
    | true => simp [Nat.eq_of_beq_eq_true q]
    | false => exact decide_eq_false fun e => Nat.ne_of_beq_eq_false q (Int.ofNat.inj e)
  | negSucc n => rfl
theorem C_eqi_ok {V : VV} {x : Int} {r : Nat} (hx : x = Int.ofNat r) (c : Code) (L : Ldg) : Meets V (C_eqi x r c L) := by
  refine oS_ok fun ⟨id, t, k, u⟩ => ?_
  show Meets _ (bSpec (.call (.builtin id) ⟨[.int x t, .int k u], []⟩) (S.eqLit 455126313168696235093866 id) (fun _ => .bool (beqN k r)))
  intro q
  have h0 := q
  simp only [bSpec] at q
  have e := id_of q (s := "int.__eq__") (by decide +kernel)
  subst e
  exact con_gives F.slot_int_eq (fun s => rfl) F.entry_int_eq (F.args_int_eq_2 _ _) (AutoIntG7.int___eq___int_int_0 x t k u) trivial (fun _ => by
    show Value.bool (beqN k r) = Value.bool (x == k)
    rw [hx, beqN_is]) h0
end Mine
end
section
set_option maxRecDepth 100000
namespace Mine
open PySem PySem.W PySem.W.X PyProof.Rows
/-- the light of a word of l dots -/
structure Tri where
  a : UInt64
  b : UInt64
  c : UInt64
noncomputable def ffrac (l h : Nat) : UInt64 := Float64.sub (xf l h) (Float64.ofInt (ti l h))
noncomputable def one64 : UInt64 := 4607182418800017408
noncomputable def pf : UInt64 := Float64.mul one64 (Float64.sub one64 one64)
noncomputable def qq (l h : Nat) : UInt64 := Float64.mul one64 (Float64.sub one64 (Float64.mul one64 (ffrac l h)))
noncomputable def tt (l h : Nat) : UInt64 := Float64.mul one64 (Float64.sub one64 (Float64.mul one64 (Float64.sub one64 (ffrac l h))))
noncomputable def light (l h r : Nat) : Tri := match r with
  | 0 => ⟨one64, tt l h, pf⟩
  | 1 => ⟨qq l h, one64, pf⟩
  | 2 => ⟨pf, one64, tt l h⟩
  | 3 => ⟨pf, qq l h, one64⟩
  | 4 => ⟨tt l h, pf, one64⟩
  | _ => ⟨one64, pf, qq l h⟩
noncomputable def tupO (vs : Array Value) : Obj := { cls := .type "tuple", data := .seq vs 0 }
noncomputable def S_light (l h r : Nat) (t u : Nat) : Spec where
  need := true
  d := 8
  code := .call (.ref 167) ⟨[.str (dotS l) t, .int (Int.ofNat h) u], []⟩
  pre := []
  hasFact := false
  fact := fun _ => True
  res := fun σ => .ok (.ret (.ref (σ.n 0)))
  post := fun σ => [(σ.n 0, tupO #[.float (light l h r).a (Nat.succ (σ.n 1)), .float (light l h r).b (Nat.succ (σ.n 2)), .float (light l h r).c (Nat.succ (σ.n 3))])]
  hasT := true
  factT := fun t σ t' => (t < Nat.succ (σ.n 1) ∧ Nat.succ (σ.n 1) ≤ t') ∧ (t < Nat.succ (σ.n 2) ∧ Nat.succ (σ.n 2) ≤ t') ∧ (t < Nat.succ (σ.n 3) ∧ Nat.succ (σ.n 3) ≤ t')
noncomputable def cs_light (l h r : Nat) : List (Code → Ldg → Spec) := [C_lenS l, C_tdiv l h, C_toInt l h, C_fsubi l h, C_eqi (Int.fmod (ti l h) 6) r, C_mod, C_fmul, C_fsub]
noncomputable def S_len (n : Nat) (t : Nat) : Spec := bSpec (.call (.builtin "len") ⟨[.str (dotS n) t], []⟩) true (fun σ => .int (Int.ofNat n) (σ.n 0))
end Mine
end
section
set_option maxRecDepth 100000
set_option maxHeartbeats 0
namespace Mine
open PySem PySem.W PySem.W.X PyProof.Rows
section
variable {U : Un} {b₁ b₂ : Bool} (G : Good (mkV U b₁ b₂))
include G
theorem len_small (n t : Nat) (h : n < 40) : Meets (mkV U b₁ b₂) (S_len n t) := by
  have key : ∀ n ∈ List.range 40, Meets (mkV U b₁ b₂) (S_len n t) := by
    simp only [show List.range 40 = [0,1,2,3,4,5,6,7,8,9,10,11,12,13,14,15,16,17,18,19,20,21,22,23,24,25,26,27,28,29,30,31,32,33,34,35,36,37,38,39] from rfl]
    repeat' (first | exact List.forall_mem_nil _ | refine List.forall_mem_cons.mpr ⟨?_, ?_⟩)
    all_goals exact meets_of G (cs := []) trivial 18 [.i] (fun tk P => ⟨fun i => match i with | 0 => (Nat.succ (Nat.succ tk)) | _ => 0, fun _ => 0, fun _ => ⟨#[]⟩, fun _ => []⟩) (fun tk P => []) [] (fun _ _ _ => trivial) (fun tk P => by kernel_rfl!)
  exact key n (List.mem_range.mpr h)

omit G in
theorem C_lenS_ok {V : VV} {n : Nat} (m : ∀ t, Meets V (S_len n t)) (c : Code) (L : Ldg) : Meets V (C_lenS n c L) := by
  refine oS_ok fun ⟨id, t⟩ => ?_
  show Meets _ (bSpec (.call (.builtin id) ⟨[.str (dotS n) t], []⟩) (S.eqLit 7300717 id) (fun σ => .int (Int.ofNat n) (σ.n 0)))
  intro q
  have h0 := q
  simp only [bSpec] at q
  have e := id_of q (s := "len") (by decide +kernel)
  subst e
  exact m t rfl
omit G in
theorem fin_ok : ∀ h ∈ [4, 6, 8], ∀ l ∈ List.range 40, Float64.isInf (qf l h) = false ∧ Float64.isInf (Float64.ofInt (ti l h)) = false ∧ h ≠ 0 ∧ finB l h = true := by decide +kernel
theorem cs_light_ok (l h r : Nat) (hl : l < 40) (hh : h ∈ [4, 6, 8]) (hr : Int.fmod (ti l h) 6 = Int.ofNat r) : CsOk (mkV U b₁ b₂) (cs_light l h r) := by
  obtain ⟨f1, f2, f3, f4⟩ := fin_ok h hh l (List.mem_range.mpr hl)
  exact ⟨C_lenS_ok (fun t => len_small G l t hl), C_tdiv_ok f3 f1, C_toInt_ok f4, C_fsubi_ok f2, C_eqi_ok hr, C_mod_ok, C_fmul_ok, C_fsub_ok, trivial⟩
theorem light_meets (l h r t u : Nat) (hl : l < 40) (hh : h ∈ [4, 6, 8]) (hr : Int.fmod (ti l h) 6 = Int.ofNat r) (h6 : r < 6) : Meets (mkV U b₁ b₂) (S_light l h r t u) := by
  have C := cs_light_ok G l h r hl hh hr
  match r, h6, C with
  | 0, _, C =>
    exact meets_ht G C 249 [.t, .t, .l 0, .l 0, .l 0, .l 0, .e none 0 [] ⟨#[95, 108, 97, 119, 95, 108, 105, 103, 104, 116, 46, 60, 108, 111, 99, 97, 108, 115, 62, 46]⟩, .t, .t, .t, .l 0, .c 0 [], .l 0, .c 1 [], .t, .i, .t, .t, .l 0, .l 0, .l 0, .l 0, .l 0, .l 0, .e none 0 [] ⟨#[104, 115, 118, 95, 116, 111, 95, 114, 103, 98, 46, 60, 108, 111, 99, 97, 108, 115, 62, 46]⟩, .l 0, .i, .t, .t, .l 0, .c 6 [], .i, .i, .c 2 [], .i, .l 0, .l 0, .l 0, .c 6 [], .l 0, .c 3 [], .l 0, .l 0, .l 0, .l 0, .c 7 [], .c 6 [], .l 0, .l 0, .l 0, .l 0, .l 0, .c 6 [], .c 7 [], .c 6 [], .l 0, .l 0, .l 0, .l 0, .l 0, .c 7 [], .c 6 [], .c 7 [], .c 6 [], .l 0, .l 0, .l 0, .c 5 [], .l 0, .l 0, .l 0, .c 4 [], .l 0, .l 0, .l 0] (fun tk P => ⟨fun i => match i with | 0 => ((P 19).s.n 0) | 1 => (Nat.succ ((P 2).tk)) | 2 => ((P 16).s.n 0) | 3 => ((P 9).s.n 0) | _ => 0, fun _ => 0, fun _ => ⟨#[]⟩, fun _ => []⟩) (fun tk P => [((Nat.succ (Nat.succ ((P 17).tk))) ≤ ((P 18).tk)), ((Nat.succ (Nat.succ ((P 16).tk))) ≤ ((P 17).tk)), (((P 15).tk) ≤ ((P 16).tk)), ((((P 15).tk) < (Nat.succ ((P 16).s.n 0))) ∧ ((Nat.succ ((P 16).s.n 0)) ≤ ((P 16).tk))), (((P 14).tk) ≤ ((P 15).tk)), ((((P 14).tk) < (Nat.succ ((P 15).s.n 0))) ∧ ((Nat.succ ((P 15).s.n 0)) ≤ ((P 15).tk))), (((P 13).tk) ≤ ((P 14).tk)), ((((P 13).tk) < (Nat.succ ((P 14).s.n 0))) ∧ ((Nat.succ ((P 14).s.n 0)) ≤ ((P 14).tk))), ((Nat.succ (Nat.succ (Nat.succ ((P 12).tk)))) ≤ ((P 13).tk)), (((Nat.succ (Nat.succ (Nat.succ ((P 12).tk)))) < (Nat.succ ((P 13).s.n 0))) ∧ ((Nat.succ ((P 13).s.n 0)) ≤ ((P 13).tk))), (((P 11).tk) ≤ ((P 12).tk)), ((((P 11).tk) < (Nat.succ ((P 12).s.n 0))) ∧ ((Nat.succ ((P 12).s.n 0)) ≤ ((P 12).tk))), (((P 10).tk) ≤ ((P 11).tk)), ((((P 10).tk) < (Nat.succ ((P 11).s.n 0))) ∧ ((Nat.succ ((P 11).s.n 0)) ≤ ((P 11).tk))), ((Nat.succ (Nat.succ ((P 9).tk))) ≤ ((P 10).tk)), (((Nat.succ (Nat.succ ((P 9).tk))) < (Nat.succ ((P 10).s.n 0))) ∧ ((Nat.succ ((P 10).s.n 0)) ≤ ((P 10).tk))), (((P 8).tk) ≤ ((P 9).tk)), ((((P 8).tk) < (Nat.succ ((P 9).s.n 0))) ∧ ((Nat.succ ((P 9).s.n 0)) ≤ ((P 9).tk))), ((Nat.succ (Nat.succ ((P 7).tk))) ≤ ((P 8).tk)), (((Nat.succ (Nat.succ ((P 7).tk))) < (Nat.succ ((P 8).s.n 0))) ∧ ((Nat.succ ((P 8).s.n 0)) ≤ ((P 8).tk))), (((P 6).tk) ≤ ((P 7).tk)), ((((P 6).tk) < (Nat.succ ((P 7).s.n 0))) ∧ ((Nat.succ ((P 7).s.n 0)) ≤ ((P 7).tk))), ((Nat.succ (Nat.succ ((P 5).tk))) ≤ ((P 6).tk)), (((Nat.succ (Nat.succ ((P 5).tk))) < (Nat.succ ((P 6).s.n 0))) ∧ ((Nat.succ ((P 6).s.n 0)) ≤ ((P 6).tk))), (((P 4).tk) ≤ ((P 5).tk)), ((Nat.succ (Nat.succ (Nat.succ (Nat.succ (Nat.succ (Nat.succ (Nat.succ ((P 2).tk)))))))) ≤ ((P 4).tk)), (((Nat.succ (Nat.succ (Nat.succ (Nat.succ (Nat.succ (Nat.succ (Nat.succ ((P 2).tk)))))))) < (Nat.succ ((P 4).s.n 0))) ∧ ((Nat.succ ((P 4).s.n 0)) ≤ ((P 4).tk))), (((P 1).tk) ≤ ((P 2).tk)), ((((P 1).tk) < (Nat.succ ((P 2).s.n 0))) ∧ ((Nat.succ ((P 2).s.n 0)) ≤ ((P 2).tk))), ((Nat.succ (Nat.succ tk)) ≤ ((P 1).tk))]) [0] (fun tk P => ((P 18).tk)) (fun _ _ _ _ => hp0) (fun tk _ P h => by
      simp only [List.forall_mem_cons] at h
      refine ⟨trivial, ?_⟩
      have z : (tk < Nat.succ (Nat.succ ((P 2).tk)) ∧ Nat.succ (Nat.succ ((P 2).tk)) ≤ ((P 18).tk)) ∧ (tk < Nat.succ ((P 16).s.n 0) ∧ Nat.succ ((P 16).s.n 0) ≤ ((P 18).tk)) ∧ (tk < Nat.succ ((P 9).s.n 0) ∧ Nat.succ ((P 9).s.n 0) ≤ ((P 18).tk)) := ⟨⟨by omega, by omega⟩, ⟨by omega, by omega⟩, by omega, by omega⟩
      exact z) (fun tk _ P => by exact Bool.casesOn b₁ (by kernel_rfl!) (by kernel_rfl!))
  | 1, _, C =>
    exact meets_ht G C 258 [.t, .t, .l 0, .l 0, .l 0, .l 0, .e none 0 [] ⟨#[95, 108, 97, 119, 95, 108, 105, 103, 104, 116, 46, 60, 108, 111, 99, 97, 108, 115, 62, 46]⟩, .t, .t, .t, .l 0, .c 0 [], .l 0, .c 1 [], .t, .i, .t, .t, .l 0, .l 0, .l 0, .l 0, .l 0, .l 0, .e none 0 [] ⟨#[104, 115, 118, 95, 116, 111, 95, 114, 103, 98, 46, 60, 108, 111, 99, 97, 108, 115, 62, 46]⟩, .l 0, .i, .t, .t, .l 0, .c 6 [], .i, .i, .c 2 [], .i, .l 0, .l 0, .l 0, .c 6 [], .l 0, .c 3 [], .l 0, .l 0, .l 0, .l 0, .c 7 [], .c 6 [], .l 0, .l 0, .l 0, .l 0, .l 0, .c 6 [], .c 7 [], .c 6 [], .l 0, .l 0, .l 0, .l 0, .l 0, .c 7 [], .c 6 [], .c 7 [], .c 6 [], .l 0, .l 0, .l 0, .c 5 [], .l 0, .l 0, .l 0, .c 4 [], .l 0, .c 4 [], .l 0, .l 0, .l 0] (fun tk P => ⟨fun i => match i with | 0 => ((P 20).s.n 0) | 1 => ((P 12).s.n 0) | 2 => (Nat.succ ((P 2).tk)) | 3 => ((P 9).s.n 0) | _ => 0, fun _ => 0, fun _ => ⟨#[]⟩, fun _ => []⟩) (fun tk P => [((Nat.succ ((P 18).tk)) ≤ ((P 19).tk)), ((Nat.succ (Nat.succ ((P 17).tk))) ≤ ((P 18).tk)), ((Nat.succ (Nat.succ ((P 16).tk))) ≤ ((P 17).tk)), (((P 15).tk) ≤ ((P 16).tk)), ((((P 15).tk) < (Nat.succ ((P 16).s.n 0))) ∧ ((Nat.succ ((P 16).s.n 0)) ≤ ((P 16).tk))), (((P 14).tk) ≤ ((P 15).tk)), ((((P 14).tk) < (Nat.succ ((P 15).s.n 0))) ∧ ((Nat.succ ((P 15).s.n 0)) ≤ ((P 15).tk))), (((P 13).tk) ≤ ((P 14).tk)), ((((P 13).tk) < (Nat.succ ((P 14).s.n 0))) ∧ ((Nat.succ ((P 14).s.n 0)) ≤ ((P 14).tk))), ((Nat.succ (Nat.succ (Nat.succ ((P 12).tk)))) ≤ ((P 13).tk)), (((Nat.succ (Nat.succ (Nat.succ ((P 12).tk)))) < (Nat.succ ((P 13).s.n 0))) ∧ ((Nat.succ ((P 13).s.n 0)) ≤ ((P 13).tk))), (((P 11).tk) ≤ ((P 12).tk)), ((((P 11).tk) < (Nat.succ ((P 12).s.n 0))) ∧ ((Nat.succ ((P 12).s.n 0)) ≤ ((P 12).tk))), (((P 10).tk) ≤ ((P 11).tk)), ((((P 10).tk) < (Nat.succ ((P 11).s.n 0))) ∧ ((Nat.succ ((P 11).s.n 0)) ≤ ((P 11).tk))), ((Nat.succ (Nat.succ ((P 9).tk))) ≤ ((P 10).tk)), (((Nat.succ (Nat.succ ((P 9).tk))) < (Nat.succ ((P 10).s.n 0))) ∧ ((Nat.succ ((P 10).s.n 0)) ≤ ((P 10).tk))), (((P 8).tk) ≤ ((P 9).tk)), ((((P 8).tk) < (Nat.succ ((P 9).s.n 0))) ∧ ((Nat.succ ((P 9).s.n 0)) ≤ ((P 9).tk))), ((Nat.succ (Nat.succ ((P 7).tk))) ≤ ((P 8).tk)), (((Nat.succ (Nat.succ ((P 7).tk))) < (Nat.succ ((P 8).s.n 0))) ∧ ((Nat.succ ((P 8).s.n 0)) ≤ ((P 8).tk))), (((P 6).tk) ≤ ((P 7).tk)), ((((P 6).tk) < (Nat.succ ((P 7).s.n 0))) ∧ ((Nat.succ ((P 7).s.n 0)) ≤ ((P 7).tk))), ((Nat.succ (Nat.succ ((P 5).tk))) ≤ ((P 6).tk)), (((Nat.succ (Nat.succ ((P 5).tk))) < (Nat.succ ((P 6).s.n 0))) ∧ ((Nat.succ ((P 6).s.n 0)) ≤ ((P 6).tk))), (((P 4).tk) ≤ ((P 5).tk)), ((Nat.succ (Nat.succ (Nat.succ (Nat.succ (Nat.succ (Nat.succ (Nat.succ ((P 2).tk)))))))) ≤ ((P 4).tk)), (((Nat.succ (Nat.succ (Nat.succ (Nat.succ (Nat.succ (Nat.succ (Nat.succ ((P 2).tk)))))))) < (Nat.succ ((P 4).s.n 0))) ∧ ((Nat.succ ((P 4).s.n 0)) ≤ ((P 4).tk))), (((P 1).tk) ≤ ((P 2).tk)), ((((P 1).tk) < (Nat.succ ((P 2).s.n 0))) ∧ ((Nat.succ ((P 2).s.n 0)) ≤ ((P 2).tk))), ((Nat.succ (Nat.succ tk)) ≤ ((P 1).tk))]) [0] (fun tk P => ((P 19).tk)) (fun _ _ _ _ => hp0) (fun tk _ P h => by
      simp only [List.forall_mem_cons] at h
      refine ⟨trivial, ?_⟩
      have z : (tk < Nat.succ ((P 12).s.n 0) ∧ Nat.succ ((P 12).s.n 0) ≤ ((P 19).tk)) ∧ (tk < Nat.succ (Nat.succ ((P 2).tk)) ∧ Nat.succ (Nat.succ ((P 2).tk)) ≤ ((P 19).tk)) ∧ (tk < Nat.succ ((P 9).s.n 0) ∧ Nat.succ ((P 9).s.n 0) ≤ ((P 19).tk)) := ⟨⟨by omega, by omega⟩, ⟨by omega, by omega⟩, by omega, by omega⟩
      exact z) (fun tk _ P => by exact Bool.casesOn b₁ (by kernel_rfl!) (by kernel_rfl!))
  | 2, _, C =>
    exact meets_ht G C 267 [.t, .t, .l 0, .l 0, .l 0, .l 0, .e none 0 [] ⟨#[95, 108, 97, 119, 95, 108, 105, 103, 104, 116, 46, 60, 108, 111, 99, 97, 108, 115, 62, 46]⟩, .t, .t, .t, .l 0, .c 0 [], .l 0, .c 1 [], .t, .i, .t, .t, .l 0, .l 0, .l 0, .l 0, .l 0, .l 0, .e none 0 [] ⟨#[104, 115, 118, 95, 116, 111, 95, 114, 103, 98, 46, 60, 108, 111, 99, 97, 108, 115, 62, 46]⟩, .l 0, .i, .t, .t, .l 0, .c 6 [], .i, .i, .c 2 [], .i, .l 0, .l 0, .l 0, .c 6 [], .l 0, .c 3 [], .l 0, .l 0, .l 0, .l 0, .c 7 [], .c 6 [], .l 0, .l 0, .l 0, .l 0, .l 0, .c 6 [], .c 7 [], .c 6 [], .l 0, .l 0, .l 0, .l 0, .l 0, .c 7 [], .c 6 [], .c 7 [], .c 6 [], .l 0, .l 0, .l 0, .c 5 [], .l 0, .l 0, .l 0, .c 4 [], .l 0, .c 4 [], .l 0, .c 4 [], .l 0, .l 0, .l 0] (fun tk P => ⟨fun i => match i with | 0 => ((P 21).s.n 0) | 1 => ((P 9).s.n 0) | 2 => (Nat.succ ((P 2).tk)) | 3 => ((P 16).s.n 0) | _ => 0, fun _ => 0, fun _ => ⟨#[]⟩, fun _ => []⟩) (fun tk P => [((Nat.succ ((P 19).tk)) ≤ ((P 20).tk)), ((Nat.succ ((P 18).tk)) ≤ ((P 19).tk)), ((Nat.succ (Nat.succ ((P 17).tk))) ≤ ((P 18).tk)), ((Nat.succ (Nat.succ ((P 16).tk))) ≤ ((P 17).tk)), (((P 15).tk) ≤ ((P 16).tk)), ((((P 15).tk) < (Nat.succ ((P 16).s.n 0))) ∧ ((Nat.succ ((P 16).s.n 0)) ≤ ((P 16).tk))), (((P 14).tk) ≤ ((P 15).tk)), ((((P 14).tk) < (Nat.succ ((P 15).s.n 0))) ∧ ((Nat.succ ((P 15).s.n 0)) ≤ ((P 15).tk))), (((P 13).tk) ≤ ((P 14).tk)), ((((P 13).tk) < (Nat.succ ((P 14).s.n 0))) ∧ ((Nat.succ ((P 14).s.n 0)) ≤ ((P 14).tk))), ((Nat.succ (Nat.succ (Nat.succ ((P 12).tk)))) ≤ ((P 13).tk)), (((Nat.succ (Nat.succ (Nat.succ ((P 12).tk)))) < (Nat.succ ((P 13).s.n 0))) ∧ ((Nat.succ ((P 13).s.n 0)) ≤ ((P 13).tk))), (((P 11).tk) ≤ ((P 12).tk)), ((((P 11).tk) < (Nat.succ ((P 12).s.n 0))) ∧ ((Nat.succ ((P 12).s.n 0)) ≤ ((P 12).tk))), (((P 10).tk) ≤ ((P 11).tk)), ((((P 10).tk) < (Nat.succ ((P 11).s.n 0))) ∧ ((Nat.succ ((P 11).s.n 0)) ≤ ((P 11).tk))), ((Nat.succ (Nat.succ ((P 9).tk))) ≤ ((P 10).tk)), (((Nat.succ (Nat.succ ((P 9).tk))) < (Nat.succ ((P 10).s.n 0))) ∧ ((Nat.succ ((P 10).s.n 0)) ≤ ((P 10).tk))), (((P 8).tk) ≤ ((P 9).tk)), ((((P 8).tk) < (Nat.succ ((P 9).s.n 0))) ∧ ((Nat.succ ((P 9).s.n 0)) ≤ ((P 9).tk))), ((Nat.succ (Nat.succ ((P 7).tk))) ≤ ((P 8).tk)), (((Nat.succ (Nat.succ ((P 7).tk))) < (Nat.succ ((P 8).s.n 0))) ∧ ((Nat.succ ((P 8).s.n 0)) ≤ ((P 8).tk))), (((P 6).tk) ≤ ((P 7).tk)), ((((P 6).tk) < (Nat.succ ((P 7).s.n 0))) ∧ ((Nat.succ ((P 7).s.n 0)) ≤ ((P 7).tk))), ((Nat.succ (Nat.succ ((P 5).tk))) ≤ ((P 6).tk)), (((Nat.succ (Nat.succ ((P 5).tk))) < (Nat.succ ((P 6).s.n 0))) ∧ ((Nat.succ ((P 6).s.n 0)) ≤ ((P 6).tk))), (((P 4).tk) ≤ ((P 5).tk)), ((Nat.succ (Nat.succ (Nat.succ (Nat.succ (Nat.succ (Nat.succ (Nat.succ ((P 2).tk)))))))) ≤ ((P 4).tk)), (((Nat.succ (Nat.succ (Nat.succ (Nat.succ (Nat.succ (Nat.succ (Nat.succ ((P 2).tk)))))))) < (Nat.succ ((P 4).s.n 0))) ∧ ((Nat.succ ((P 4).s.n 0)) ≤ ((P 4).tk))), (((P 1).tk) ≤ ((P 2).tk)), ((((P 1).tk) < (Nat.succ ((P 2).s.n 0))) ∧ ((Nat.succ ((P 2).s.n 0)) ≤ ((P 2).tk))), ((Nat.succ (Nat.succ tk)) ≤ ((P 1).tk))]) [0] (fun tk P => ((P 20).tk)) (fun _ _ _ _ => hp0) (fun tk _ P h => by
      simp only [List.forall_mem_cons] at h
      refine ⟨trivial, ?_⟩
      have z : (tk < Nat.succ ((P 9).s.n 0) ∧ Nat.succ ((P 9).s.n 0) ≤ ((P 20).tk)) ∧ (tk < Nat.succ (Nat.succ ((P 2).tk)) ∧ Nat.succ (Nat.succ ((P 2).tk)) ≤ ((P 20).tk)) ∧ (tk < Nat.succ ((P 16).s.n 0) ∧ Nat.succ ((P 16).s.n 0) ≤ ((P 20).tk)) := ⟨⟨by omega, by omega⟩, ⟨by omega, by omega⟩, by omega, by omega⟩
      exact z) (fun tk _ P => by exact Bool.casesOn b₁ (by kernel_rfl!) (by kernel_rfl!))
  | 3, _, C =>
    exact meets_ht G C 276 [.t, .t, .l 0, .l 0, .l 0, .l 0, .e none 0 [] ⟨#[95, 108, 97, 119, 95, 108, 105, 103, 104, 116, 46, 60, 108, 111, 99, 97, 108, 115, 62, 46]⟩, .t, .t, .t, .l 0, .c 0 [], .l 0, .c 1 [], .t, .i, .t, .t, .l 0, .l 0, .l 0, .l 0, .l 0, .l 0, .e none 0 [] ⟨#[104, 115, 118, 95, 116, 111, 95, 114, 103, 98, 46, 60, 108, 111, 99, 97, 108, 115, 62, 46]⟩, .l 0, .i, .t, .t, .l 0, .c 6 [], .i, .i, .c 2 [], .i, .l 0, .l 0, .l 0, .c 6 [], .l 0, .c 3 [], .l 0, .l 0, .l 0, .l 0, .c 7 [], .c 6 [], .l 0, .l 0, .l 0, .l 0, .l 0, .c 6 [], .c 7 [], .c 6 [], .l 0, .l 0, .l 0, .l 0, .l 0, .c 7 [], .c 6 [], .c 7 [], .c 6 [], .l 0, .l 0, .l 0, .c 5 [], .l 0, .l 0, .l 0, .c 4 [], .l 0, .c 4 [], .l 0, .c 4 [], .l 0, .c 4 [], .l 0, .l 0, .l 0] (fun tk P => ⟨fun i => match i with | 0 => ((P 22).s.n 0) | 1 => ((P 9).s.n 0) | 2 => ((P 12).s.n 0) | 3 => (Nat.succ ((P 2).tk)) | _ => 0, fun _ => 0, fun _ => ⟨#[]⟩, fun _ => []⟩) (fun tk P => [((Nat.succ ((P 20).tk)) ≤ ((P 21).tk)), ((Nat.succ ((P 19).tk)) ≤ ((P 20).tk)), ((Nat.succ ((P 18).tk)) ≤ ((P 19).tk)), ((Nat.succ (Nat.succ ((P 17).tk))) ≤ ((P 18).tk)), ((Nat.succ (Nat.succ ((P 16).tk))) ≤ ((P 17).tk)), (((P 15).tk) ≤ ((P 16).tk)), ((((P 15).tk) < (Nat.succ ((P 16).s.n 0))) ∧ ((Nat.succ ((P 16).s.n 0)) ≤ ((P 16).tk))), (((P 14).tk) ≤ ((P 15).tk)), ((((P 14).tk) < (Nat.succ ((P 15).s.n 0))) ∧ ((Nat.succ ((P 15).s.n 0)) ≤ ((P 15).tk))), (((P 13).tk) ≤ ((P 14).tk)), ((((P 13).tk) < (Nat.succ ((P 14).s.n 0))) ∧ ((Nat.succ ((P 14).s.n 0)) ≤ ((P 14).tk))), ((Nat.succ (Nat.succ (Nat.succ ((P 12).tk)))) ≤ ((P 13).tk)), (((Nat.succ (Nat.succ (Nat.succ ((P 12).tk)))) < (Nat.succ ((P 13).s.n 0))) ∧ ((Nat.succ ((P 13).s.n 0)) ≤ ((P 13).tk))), (((P 11).tk) ≤ ((P 12).tk)), ((((P 11).tk) < (Nat.succ ((P 12).s.n 0))) ∧ ((Nat.succ ((P 12).s.n 0)) ≤ ((P 12).tk))), (((P 10).tk) ≤ ((P 11).tk)), ((((P 10).tk) < (Nat.succ ((P 11).s.n 0))) ∧ ((Nat.succ ((P 11).s.n 0)) ≤ ((P 11).tk))), ((Nat.succ (Nat.succ ((P 9).tk))) ≤ ((P 10).tk)), (((Nat.succ (Nat.succ ((P 9).tk))) < (Nat.succ ((P 10).s.n 0))) ∧ ((Nat.succ ((P 10).s.n 0)) ≤ ((P 10).tk))), (((P 8).tk) ≤ ((P 9).tk)), ((((P 8).tk) < (Nat.succ ((P 9).s.n 0))) ∧ ((Nat.succ ((P 9).s.n 0)) ≤ ((P 9).tk))), ((Nat.succ (Nat.succ ((P 7).tk))) ≤ ((P 8).tk)), (((Nat.succ (Nat.succ ((P 7).tk))) < (Nat.succ ((P 8).s.n 0))) ∧ ((Nat.succ ((P 8).s.n 0)) ≤ ((P 8).tk))), (((P 6).tk) ≤ ((P 7).tk)), ((((P 6).tk) < (Nat.succ ((P 7).s.n 0))) ∧ ((Nat.succ ((P 7).s.n 0)) ≤ ((P 7).tk))), ((Nat.succ (Nat.succ ((P 5).tk))) ≤ ((P 6).tk)), (((Nat.succ (Nat.succ ((P 5).tk))) < (Nat.succ ((P 6).s.n 0))) ∧ ((Nat.succ ((P 6).s.n 0)) ≤ ((P 6).tk))), (((P 4).tk) ≤ ((P 5).tk)), ((Nat.succ (Nat.succ (Nat.succ (Nat.succ (Nat.succ (Nat.succ (Nat.succ ((P 2).tk)))))))) ≤ ((P 4).tk)), (((Nat.succ (Nat.succ (Nat.succ (Nat.succ (Nat.succ (Nat.succ (Nat.succ ((P 2).tk)))))))) < (Nat.succ ((P 4).s.n 0))) ∧ ((Nat.succ ((P 4).s.n 0)) ≤ ((P 4).tk))), (((P 1).tk) ≤ ((P 2).tk)), ((((P 1).tk) < (Nat.succ ((P 2).s.n 0))) ∧ ((Nat.succ ((P 2).s.n 0)) ≤ ((P 2).tk))), ((Nat.succ (Nat.succ tk)) ≤ ((P 1).tk))]) [0] (fun tk P => ((P 21).tk)) (fun _ _ _ _ => hp0) (fun tk _ P h => by
      simp only [List.forall_mem_cons] at h
      refine ⟨trivial, ?_⟩
      have z : (tk < Nat.succ ((P 9).s.n 0) ∧ Nat.succ ((P 9).s.n 0) ≤ ((P 21).tk)) ∧ (tk < Nat.succ ((P 12).s.n 0) ∧ Nat.succ ((P 12).s.n 0) ≤ ((P 21).tk)) ∧ (tk < Nat.succ (Nat.succ ((P 2).tk)) ∧ Nat.succ (Nat.succ ((P 2).tk)) ≤ ((P 21).tk)) := ⟨⟨by omega, by omega⟩, ⟨by omega, by omega⟩, by omega, by omega⟩
      exact z) (fun tk _ P => by exact Bool.casesOn b₁ (by kernel_rfl!) (by kernel_rfl!))
  | 4, _, C =>
    exact meets_ht G C 285 [.t, .t, .l 0, .l 0, .l 0, .l 0, .e none 0 [] ⟨#[95, 108, 97, 119, 95, 108, 105, 103, 104, 116, 46, 60, 108, 111, 99, 97, 108, 115, 62, 46]⟩, .t, .t, .t, .l 0, .c 0 [], .l 0, .c 1 [], .t, .i, .t, .t, .l 0, .l 0, .l 0, .l 0, .l 0, .l 0, .e none 0 [] ⟨#[104, 115, 118, 95, 116, 111, 95, 114, 103, 98, 46, 60, 108, 111, 99, 97, 108, 115, 62, 46]⟩, .l 0, .i, .t, .t, .l 0, .c 6 [], .i, .i, .c 2 [], .i, .l 0, .l 0, .l 0, .c 6 [], .l 0, .c 3 [], .l 0, .l 0, .l 0, .l 0, .c 7 [], .c 6 [], .l 0, .l 0, .l 0, .l 0, .l 0, .c 6 [], .c 7 [], .c 6 [], .l 0, .l 0, .l 0, .l 0, .l 0, .c 7 [], .c 6 [], .c 7 [], .c 6 [], .l 0, .l 0, .l 0, .c 5 [], .l 0, .l 0, .l 0, .c 4 [], .l 0, .c 4 [], .l 0, .c 4 [], .l 0, .c 4 [], .l 0, .c 4 [], .l 0, .l 0, .l 0] (fun tk P => ⟨fun i => match i with | 0 => ((P 23).s.n 0) | 1 => ((P 16).s.n 0) | 2 => ((P 9).s.n 0) | 3 => (Nat.succ ((P 2).tk)) | _ => 0, fun _ => 0, fun _ => ⟨#[]⟩, fun _ => []⟩) (fun tk P => [((Nat.succ ((P 21).tk)) ≤ ((P 22).tk)), ((Nat.succ ((P 20).tk)) ≤ ((P 21).tk)), ((Nat.succ ((P 19).tk)) ≤ ((P 20).tk)), ((Nat.succ ((P 18).tk)) ≤ ((P 19).tk)), ((Nat.succ (Nat.succ ((P 17).tk))) ≤ ((P 18).tk)), ((Nat.succ (Nat.succ ((P 16).tk))) ≤ ((P 17).tk)), (((P 15).tk) ≤ ((P 16).tk)), ((((P 15).tk) < (Nat.succ ((P 16).s.n 0))) ∧ ((Nat.succ ((P 16).s.n 0)) ≤ ((P 16).tk))), (((P 14).tk) ≤ ((P 15).tk)), ((((P 14).tk) < (Nat.succ ((P 15).s.n 0))) ∧ ((Nat.succ ((P 15).s.n 0)) ≤ ((P 15).tk))), (((P 13).tk) ≤ ((P 14).tk)), ((((P 13).tk) < (Nat.succ ((P 14).s.n 0))) ∧ ((Nat.succ ((P 14).s.n 0)) ≤ ((P 14).tk))), ((Nat.succ (Nat.succ (Nat.succ ((P 12).tk)))) ≤ ((P 13).tk)), (((Nat.succ (Nat.succ (Nat.succ ((P 12).tk)))) < (Nat.succ ((P 13).s.n 0))) ∧ ((Nat.succ ((P 13).s.n 0)) ≤ ((P 13).tk))), (((P 11).tk) ≤ ((P 12).tk)), ((((P 11).tk) < (Nat.succ ((P 12).s.n 0))) ∧ ((Nat.succ ((P 12).s.n 0)) ≤ ((P 12).tk))), (((P 10).tk) ≤ ((P 11).tk)), ((((P 10).tk) < (Nat.succ ((P 11).s.n 0))) ∧ ((Nat.succ ((P 11).s.n 0)) ≤ ((P 11).tk))), ((Nat.succ (Nat.succ ((P 9).tk))) ≤ ((P 10).tk)), (((Nat.succ (Nat.succ ((P 9).tk))) < (Nat.succ ((P 10).s.n 0))) ∧ ((Nat.succ ((P 10).s.n 0)) ≤ ((P 10).tk))), (((P 8).tk) ≤ ((P 9).tk)), ((((P 8).tk) < (Nat.succ ((P 9).s.n 0))) ∧ ((Nat.succ ((P 9).s.n 0)) ≤ ((P 9).tk))), ((Nat.succ (Nat.succ ((P 7).tk))) ≤ ((P 8).tk)), (((Nat.succ (Nat.succ ((P 7).tk))) < (Nat.succ ((P 8).s.n 0))) ∧ ((Nat.succ ((P 8).s.n 0)) ≤ ((P 8).tk))), (((P 6).tk) ≤ ((P 7).tk)), ((((P 6).tk) < (Nat.succ ((P 7).s.n 0))) ∧ ((Nat.succ ((P 7).s.n 0)) ≤ ((P 7).tk))), ((Nat.succ (Nat.succ ((P 5).tk))) ≤ ((P 6).tk)), (((Nat.succ (Nat.succ ((P 5).tk))) < (Nat.succ ((P 6).s.n 0))) ∧ ((Nat.succ ((P 6).s.n 0)) ≤ ((P 6).tk))), (((P 4).tk) ≤ ((P 5).tk)), ((Nat.succ (Nat.succ (Nat.succ (Nat.succ (Nat.succ (Nat.succ (Nat.succ ((P 2).tk)))))))) ≤ ((P 4).tk)), (((Nat.succ (Nat.succ (Nat.succ (Nat.succ (Nat.succ (Nat.succ (Nat.succ ((P 2).tk)))))))) < (Nat.succ ((P 4).s.n 0))) ∧ ((Nat.succ ((P 4).s.n 0)) ≤ ((P 4).tk))), (((P 1).tk) ≤ ((P 2).tk)), ((((P 1).tk) < (Nat.succ ((P 2).s.n 0))) ∧ ((Nat.succ ((P 2).s.n 0)) ≤ ((P 2).tk))), ((Nat.succ (Nat.succ tk)) ≤ ((P 1).tk))]) [0] (fun tk P => ((P 22).tk)) (fun _ _ _ _ => hp0) (fun tk _ P h => by
      simp only [List.forall_mem_cons] at h
      refine ⟨trivial, ?_⟩
      have z : (tk < Nat.succ ((P 16).s.n 0) ∧ Nat.succ ((P 16).s.n 0) ≤ ((P 22).tk)) ∧ (tk < Nat.succ ((P 9).s.n 0) ∧ Nat.succ ((P 9).s.n 0) ≤ ((P 22).tk)) ∧ (tk < Nat.succ (Nat.succ ((P 2).tk)) ∧ Nat.succ (Nat.succ ((P 2).tk)) ≤ ((P 22).tk)) := ⟨⟨by omega, by omega⟩, ⟨by omega, by omega⟩, by omega, by omega⟩
      exact z) (fun tk _ P => by exact Bool.casesOn b₁ (by kernel_rfl!) (by kernel_rfl!))
  | 5, _, C =>
    exact meets_ht G C 294 [.t, .t, .l 0, .l 0, .l 0, .l 0, .e none 0 [] ⟨#[95, 108, 97, 119, 95, 108, 105, 103, 104, 116, 46, 60, 108, 111, 99, 97, 108, 115, 62, 46]⟩, .t, .t, .t, .l 0, .c 0 [], .l 0, .c 1 [], .t, .i, .t, .t, .l 0, .l 0, .l 0, .l 0, .l 0, .l 0, .e none 0 [] ⟨#[104, 115, 118, 95, 116, 111, 95, 114, 103, 98, 46, 60, 108, 111, 99, 97, 108, 115, 62, 46]⟩, .l 0, .i, .t, .t, .l 0, .c 6 [], .i, .i, .c 2 [], .i, .l 0, .l 0, .l 0, .c 6 [], .l 0, .c 3 [], .l 0, .l 0, .l 0, .l 0, .c 7 [], .c 6 [], .l 0, .l 0, .l 0, .l 0, .l 0, .c 6 [], .c 7 [], .c 6 [], .l 0, .l 0, .l 0, .l 0, .l 0, .c 7 [], .c 6 [], .c 7 [], .c 6 [], .l 0, .l 0, .l 0, .c 5 [], .l 0, .l 0, .l 0, .c 4 [], .l 0, .c 4 [], .l 0, .c 4 [], .l 0, .c 4 [], .l 0, .c 4 [], .l 0, .c 4 [], .l 0, .l 0, .l 0] (fun tk P => ⟨fun i => match i with | 0 => ((P 24).s.n 0) | 1 => (Nat.succ ((P 2).tk)) | 2 => ((P 9).s.n 0) | 3 => ((P 12).s.n 0) | _ => 0, fun _ => 0, fun _ => ⟨#[]⟩, fun _ => []⟩) (fun tk P => [((Nat.succ ((P 22).tk)) ≤ ((P 23).tk)), ((Nat.succ ((P 21).tk)) ≤ ((P 22).tk)), ((Nat.succ ((P 20).tk)) ≤ ((P 21).tk)), ((Nat.succ ((P 19).tk)) ≤ ((P 20).tk)), ((Nat.succ ((P 18).tk)) ≤ ((P 19).tk)), ((Nat.succ (Nat.succ ((P 17).tk))) ≤ ((P 18).tk)), ((Nat.succ (Nat.succ ((P 16).tk))) ≤ ((P 17).tk)), (((P 15).tk) ≤ ((P 16).tk)), ((((P 15).tk) < (Nat.succ ((P 16).s.n 0))) ∧ ((Nat.succ ((P 16).s.n 0)) ≤ ((P 16).tk))), (((P 14).tk) ≤ ((P 15).tk)), ((((P 14).tk) < (Nat.succ ((P 15).s.n 0))) ∧ ((Nat.succ ((P 15).s.n 0)) ≤ ((P 15).tk))), (((P 13).tk) ≤ ((P 14).tk)), ((((P 13).tk) < (Nat.succ ((P 14).s.n 0))) ∧ ((Nat.succ ((P 14).s.n 0)) ≤ ((P 14).tk))), ((Nat.succ (Nat.succ (Nat.succ ((P 12).tk)))) ≤ ((P 13).tk)), (((Nat.succ (Nat.succ (Nat.succ ((P 12).tk)))) < (Nat.succ ((P 13).s.n 0))) ∧ ((Nat.succ ((P 13).s.n 0)) ≤ ((P 13).tk))), (((P 11).tk) ≤ ((P 12).tk)), ((((P 11).tk) < (Nat.succ ((P 12).s.n 0))) ∧ ((Nat.succ ((P 12).s.n 0)) ≤ ((P 12).tk))), (((P 10).tk) ≤ ((P 11).tk)), ((((P 10).tk) < (Nat.succ ((P 11).s.n 0))) ∧ ((Nat.succ ((P 11).s.n 0)) ≤ ((P 11).tk))), ((Nat.succ (Nat.succ ((P 9).tk))) ≤ ((P 10).tk)), (((Nat.succ (Nat.succ ((P 9).tk))) < (Nat.succ ((P 10).s.n 0))) ∧ ((Nat.succ ((P 10).s.n 0)) ≤ ((P 10).tk))), (((P 8).tk) ≤ ((P 9).tk)), ((((P 8).tk) < (Nat.succ ((P 9).s.n 0))) ∧ ((Nat.succ ((P 9).s.n 0)) ≤ ((P 9).tk))), ((Nat.succ (Nat.succ ((P 7).tk))) ≤ ((P 8).tk)), (((Nat.succ (Nat.succ ((P 7).tk))) < (Nat.succ ((P 8).s.n 0))) ∧ ((Nat.succ ((P 8).s.n 0)) ≤ ((P 8).tk))), (((P 6).tk) ≤ ((P 7).tk)), ((((P 6).tk) < (Nat.succ ((P 7).s.n 0))) ∧ ((Nat.succ ((P 7).s.n 0)) ≤ ((P 7).tk))), ((Nat.succ (Nat.succ ((P 5).tk))) ≤ ((P 6).tk)), (((Nat.succ (Nat.succ ((P 5).tk))) < (Nat.succ ((P 6).s.n 0))) ∧ ((Nat.succ ((P 6).s.n 0)) ≤ ((P 6).tk))), (((P 4).tk) ≤ ((P 5).tk)), ((Nat.succ (Nat.succ (Nat.succ (Nat.succ (Nat.succ (Nat.succ (Nat.succ ((P 2).tk)))))))) ≤ ((P 4).tk)), (((Nat.succ (Nat.succ (Nat.succ (Nat.succ (Nat.succ (Nat.succ (Nat.succ ((P 2).tk)))))))) < (Nat.succ ((P 4).s.n 0))) ∧ ((Nat.succ ((P 4).s.n 0)) ≤ ((P 4).tk))), (((P 1).tk) ≤ ((P 2).tk)), ((((P 1).tk) < (Nat.succ ((P 2).s.n 0))) ∧ ((Nat.succ ((P 2).s.n 0)) ≤ ((P 2).tk))), ((Nat.succ (Nat.succ tk)) ≤ ((P 1).tk))]) [0] (fun tk P => ((P 23).tk)) (fun _ _ _ _ => hp0) (fun tk _ P h => by
      simp only [List.forall_mem_cons] at h
      refine ⟨trivial, ?_⟩
      have z : (tk < Nat.succ (Nat.succ ((P 2).tk)) ∧ Nat.succ (Nat.succ ((P 2).tk)) ≤ ((P 23).tk)) ∧ (tk < Nat.succ ((P 9).s.n 0) ∧ Nat.succ ((P 9).s.n 0) ≤ ((P 23).tk)) ∧ (tk < Nat.succ ((P 12).s.n 0) ∧ Nat.succ ((P 12).s.n 0) ≤ ((P 23).tk)) := ⟨⟨by omega, by omega⟩, ⟨by omega, by omega⟩, by omega, by omega⟩
      exact z) (fun tk _ P => by exact Bool.casesOn b₁ (by kernel_rfl!) (by kernel_rfl!))
  | r + 6, h, _ => exact absurd h (by omega)
end
end Mine
end
section
set_option maxRecDepth 100000
namespace Mine
open PySem PySem.W PySem.W.X PyProof.Rows
noncomputable def topTab (V : VV) (a : Addr) : Array Value := match V.kt.get a with
  | some o => match tabOf o with
    | some vs => vs
    | none => #[]
  | none => #[]
noncomputable def S_machine0 (V : VV) (text : Str) (t : Nat) : Spec where
  need := true
  d := 20
  code := .call (.ref 153) ⟨[.str text t], []⟩
  pre := [(148, tableObj (topTab V 148))]
  hasFact := false
  fact := fun _ => True
  res := fun σ => .ok (.ret (.ref (σ.n 0)))
  post := fun σ => []
end Mine
end
section
set_option maxRecDepth 100000
namespace Mine
open PySem PySem.W PySem.W.X PyProof.Rows

noncomputable def listO (vs : Array Value) (e : Nat) : Obj := { cls := .type "list", data := .seq vs e }
noncomputable def dflO : Obj := { cls := .none }
noncomputable def objAt (i : Nat) (L : Ldg) : Obj := match L[i]? with
  | some p => p.2
  | none => dflO
/-- the ledger that a run leaves behind (its last equation of ledgers) -/
noncomputable def lastL : List Eqn → Ldg → Ldg
  | [], d => d
  | .ldg a _ :: l, _ => lastL l a
  | _ :: l, d => lastL l d
noncomputable def evs (σ : Sup) : Nat → Ev := fun i => ⟨⟨fun _ => σ.n i, σ.z, σ.s, σ.v⟩, 0⟩
noncomputable def mHints : List Hint := [.t, .t, .l 1, .l 1, .e none 2 [(⟨#[97, 116]⟩, 0), (⟨#[116, 101, 120, 116]⟩, 1)] ⟨#[95, 108, 97, 119, 95, 109, 97, 99, 104, 105, 110, 101, 46, 60, 108, 111, 99, 97, 108, 115, 62, 46]⟩, .l 1, .l 1, .t, .l 5, .l 11, .g 11, .l 11, .t, .t, .t, .l 11, .l 11, .t, .l 12, .l 18, .g 18, .l 18, .t, .t, .t, .l 18, .l 18, .l 18, .l 18, .l 0, .i, .l 0, .l 0, .l 0, .l 0, .l 1, .l 0, .l 0, .l 0, .t, .l 19, .t, .t, .i, .t, .t, .t, .t, .t, .t, .i, .t, .t, .t, .t, .t, .t, .t, .t, .t, .t, .t, .t, .t, .t, .t, .t, .t, .t, .t, .t, .l 0, .t, .l 0, .t, .t, .t, .t, .i, .t, .t, .l 0, .l 0, .l 0, .l 0, .e none 0 [] ⟨#[95, 110, 101, 116, 114, 99, 108, 101, 120, 46, 95, 95, 105, 110, 105, 116, 95, 95, 46, 60, 108, 111, 99, 97, 108, 115, 62, 46]⟩, .l 0, .l 1, .t, .t, .t, .i, .l 1, .t, .l 1, .t, .l 1, .t, .t, .t, .l 1, .t, .l 2, .l 2, .l 2, .l 0, .l 0, .l 1, .t, .t, .t, .i, .l 1, .t, .l 1, .t, .l 1, .t, .t, .t, .l 1, .t, .l 2, .l 2, .l 2, .l 0, .l 1, .t, .t, .t, .i, .l 1, .t, .l 1, .t, .l 1, .t, .t, .t, .l 1, .t, .l 2, .l 2, .l 2, .l 1, .l 2, .t, .t, .t, .i, .l 2, .t, .l 2, .t, .l 2, .t, .t, .t, .l 2, .t, .l 3, .l 3, .l 3]
/-- what _law_machine leaves: σ.n i is the address of its event i, σ.n 99 the tokens at its start -/
noncomputable def mL (V : VV) (text : Str) (t : Nat) (σ : Sup) : Ldg :=
  lastL (eqs V [] (S_machine0 V text t) (fun _ => sup0) (fun _ => []) (List.replicate 25 0) 1000 mHints (σ.n 99) (evs σ)) []
noncomputable def lexL (V : VV) (text : Str) (t : Nat) (σ : Sup) (p tp : Nat) : Ldg :=
  let m := mL V text t σ
  [(σ.n 21, objAt 2 m), (σ.n 20, objAt 3 m), (σ.n 19, objAt 4 m), (σ.n 18, objAt 5 m), (σ.n 11, objAt 12 m), (σ.n 10, objAt 13 m), (σ.n 2, objAt 21 m), (σ.n 1, objAt 22 m), (σ.n 3, listO #[.int (Int.ofNat p) tp] 0)]
noncomputable def S_machine (V : VV) (text : Str) (t : Nat) : Spec where
  need := true
  d := 10
  code := .call (.ref 153) ⟨[.str text t], []⟩
  pre := [(148, tableObj (topTab V 148))]
  hasFact := false
  fact := fun _ => True
  res := fun σ => .ok (.ret (.ref (σ.n 21)))
  post := fun σ => (lexL V text t σ 0 (σ.n 98) ++ [(σ.n 23, listO #[] 0), (148, objAt 24 (mL V text t σ))])

/-- text[p:p+1] -/
noncomputable def C_cut (text : Str) (p : Nat) (o : Str) : Code → Ldg → Spec := fun c l => oS c (match c with
  | .call (.builtin id) ⟨[.str _ t, .ref _], []⟩ => match l with
    | [(a, ⟨_, _, .fields ⟨[.int _ u, .int _ v, .none]⟩, _⟩)] => some (id, t, a, u, v)
    | _ => none
  | _ => none) fun (id, t, a, u, v) =>
    let pre : Ldg := [(a, { cls := .type "slice", data := .fields #[.int (Int.ofNat p) u, .int (Int.ofNat (p + 1)) v, .none] })]; { need := S.eqLit 500416356548588640944365259017385332 id, d := 1, code := .call (.builtin id) ⟨[.str text t, .ref a], []⟩, pre, hasFact := false, fact := fun _ => True, res := fun σ => .ok (.ret (.str o (σ.n 0))), post := fun _ => pre }
/-- one sign of the file -/
noncomputable def S_rc (V : VV) (text : Str) (t : Nat) (σ : Sup) (p tp p' : Nat) (o : Str) : Spec where
  need := true
  d := 6
  code := .call (.ref 101) ⟨[.ref (σ.n 21)], []⟩
  pre := lexL V text t σ p tp
  hasFact := false
  fact := fun _ => True
  res := fun σ' => .ok (.ret (.str o (σ'.n 0)))
  post := fun σ' => lexL V text t σ p' (σ'.n 1)
end Mine
end
section
set_option maxRecDepth 100000
set_option maxHeartbeats 0
namespace Mine
open PySem PySem.W PySem.W.X PyProof.Rows

/-- what text[p:p+1] is -/
structure Cut (text : Str) (p : Nat) (o : Str) : Prop where
  whole : (Builtin.Str.strSliceIndices (some (Int.ofNat p)) (some (Int.ofNat (p + 1))) 1 text.length).length ≠ text.length
  is : ((Builtin.Str.strSliceIndices (some (Int.ofNat p)) (some (Int.ofNat (p + 1))) 1 text.length).filterMap (text.cps[·]?)).toArray = o.cps
  small : o.length ≤ sizeLine
theorem cut_idx (p n : Nat) : Builtin.Str.strSliceIndices (some (Int.ofNat p)) (some (Int.ofNat (p + 1))) 1 n = if p < n then [p] else [] := by
  unfold Builtin.Str.strSliceIndices sliceRange
  have h1 : ¬ (Int.ofNat p < 0) := by show ¬ ((p : Int) < 0); omega
  have h2 : ¬ (Int.ofNat (p + 1) < 0) := by show ¬ (((p + 1 : Nat) : Int) < 0); omega
  simp only [h1, h2, if_false, show (1 : Int) > 0 from by decide, if_true]
  have e1 : (Int.ofNat p : Int) = (p : Int) := rfl
  have e2 : (Int.ofNat (p + 1) : Int) = (p : Int) + 1 := rfl
  rw [e1, e2]
  by_cases h : p < n
  · have a1 : max (0 : Int) (min (p : Int) n) = p := by omega
    have a2 : max (0 : Int) (min ((p : Int) + 1) n) = p + 1 := by omega
    rw [a1, a2, if_pos (by omega), if_pos h]
    have : (((p : Int) + 1 - p + 1 - 1) / 1).toNat = 1 := by
      have : ((p : Int) + 1 - p + 1 - 1) = 1 := by omega
      rw [this]; rfl
    rw [this]
    simp
  · have a1 : max (0 : Int) (min (p : Int) n) = n := by omega
    have a2 : max (0 : Int) (min ((p : Int) + 1) n) = n := by omega
    rw [a1, a2, if_neg (by omega), if_neg h]
    rfl
theorem Cut.of_some {text : Str} {p c : Nat} (h : text.cps[p]? = some c) (h2 : 2 ≤ text.length) : Cut text p ⟨#[c]⟩ := by
  have hp : p < text.length := by
    obtain ⟨x, _⟩ := Array.getElem?_eq_some_iff.mp h
    exact x
  refine ⟨?_, ?_, ?_⟩
  · rw [cut_idx, if_pos hp]
    show 1 ≠ text.length
    omega
  · rw [cut_idx, if_pos hp]
    simp [h]
  · show 1 ≤ sizeLine
    decide
theorem Cut.of_end {text : Str} {p : Nat} (h : text.length ≤ p) (h2 : 2 ≤ text.length) : Cut text p ⟨#[]⟩ := by
  refine ⟨?_, ?_, ?_⟩
  · rw [cut_idx, if_neg (by omega)]
    show 0 ≠ text.length
    omega
  · rw [cut_idx, if_neg (by omega)]
    rfl
  · show 0 ≤ sizeLine
    decide
theorem C_cut_ok {V : VV} {text : Str} {p : Nat} {o : Str} (H : Cut text p o) (c : Code) (l : Ldg) : Meets V (C_cut text p o c l) := by
  refine oS_ok fun ⟨id, t, a, u, v⟩ => ?_
  show Meets _ (let pre : Ldg := [(a, { cls := .type "slice", data := .fields #[.int (Int.ofNat p) u, .int (Int.ofNat (p + 1)) v, .none] })]; { need := S.eqLit 500416356548588640944365259017385332 id, d := 1, code := .call (.builtin id) ⟨[.str text t, .ref a], []⟩, pre, hasFact := false, fact := fun _ => True, res := fun σ => .ok (.ret (.str o (σ.n 0))), post := fun _ => pre })
  intro q _ A Fr tk _ _ h D
  have e := id_of q (s := "str.__getitem__") (by decide +kernel)
  subst e
  have hs : h.IsSlice a (some (Int.ofNat p, u)) (some (Int.ofNat (p + 1), v)) none := ⟨_, D.led _ (List.mem_append_left _ (List.mem_singleton.mpr rfl)), rfl, rfl⟩
  refine codeAny_call_builtin F.slot_str_getitem.plain F.entry_str_getitem (F.slot_str_getitem.check _ _ _ _ _ _ _ _ (typeIs_str _ _ _) (F.args_str_getitem_2 _ _) ?_)
  refine meets_str_getitem_slice text t a _ _ _ rfl V.prog V.w A _ _ ⟨hs, ?_⟩
  have em : sliceMade text t (some (Int.ofNat p, u)) (some (Int.ofNat (p + 1), v)) none = .str o := by
    unfold sliceMade slicePicked
    have w := H.whole
    have k := H.is
    have hb : (((none : Option (Int × Tok)).map (·.1)).getD 1 == 1 && (Builtin.Str.strSliceIndices ((some (Int.ofNat p, u)).map (·.1)) ((some (Int.ofNat (p + 1), v)).map (·.1)) (((none : Option (Int × Tok)).map (·.1)).getD 1) text.length).length == text.length) = false := by
      show (true && (Builtin.Str.strSliceIndices (some (Int.ofNat p)) (some (Int.ofNat (p + 1))) 1 text.length).length == text.length) = false
      simpa using w
    rw [hb]
    simp only [Bool.false_eq_true, if_false]
    exact congrArg (fun z => Made.str ⟨z⟩) k
  rw [em]
  refine ⟨H.small, h, tk + 1, _, rfl, D, by omega, ⟨fun _ => tk + 1, fun _ => 0, fun _ => ⟨#[]⟩, fun _ => []⟩, trivial, trivial, rfl, rfl⟩
section
variable {U : Un} {b₁ b₂ : Bool} (G : Good (mkV U b₁ b₂))
include G
theorem machine_meets (text : Str) (t : Nat) : Meets (mkV U b₁ b₂) (S_machine (mkV U b₁ b₂) text t) :=
  meets_of G (cs := []) trivial 343 [.t, .t, .l 1, .l 1, .e none 2 [(⟨#[97, 116]⟩, 0), (⟨#[116, 101, 120, 116]⟩, 1)] ⟨#[95, 108, 97, 119, 95, 109, 97, 99, 104, 105, 110, 101, 46, 60, 108, 111, 99, 97, 108, 115, 62, 46]⟩, .l 1, .l 1, .t, .l 5, .l 11, .g 11, .l 11, .t, .t, .t, .l 11, .l 11, .t, .l 12, .l 18, .g 18, .l 18, .t, .t, .t, .l 18, .l 18, .l 18, .l 18, .l 0, .i, .l 0, .l 0, .l 0, .l 0, .l 1, .l 0, .l 0, .l 0, .t, .l 19, .t, .t, .i, .t, .t, .t, .t, .t, .t, .i, .t, .t, .t, .t, .t, .t, .t, .t, .t, .t, .t, .t, .t, .t, .t, .t, .t, .t, .t, .t, .l 0, .t, .l 0, .t, .t, .t, .t, .i, .t, .t, .l 0, .l 0, .l 0, .l 0, .e none 0 [] ⟨#[95, 110, 101, 116, 114, 99, 108, 101, 120, 46, 95, 95, 105, 110, 105, 116, 95, 95, 46, 60, 108, 111, 99, 97, 108, 115, 62, 46]⟩, .l 0, .l 1, .t, .t, .t, .i, .l 1, .t, .l 1, .t, .l 1, .t, .t, .t, .l 1, .t, .l 2, .l 2, .l 2, .l 0, .l 0, .l 1, .t, .t, .t, .i, .l 1, .t, .l 1, .t, .l 1, .t, .t, .t, .l 1, .t, .l 2, .l 2, .l 2, .l 0, .l 1, .t, .t, .t, .i, .l 1, .t, .l 1, .t, .l 1, .t, .t, .t, .l 1, .t, .l 2, .l 2, .l 2, .l 1, .l 2, .t, .t, .t, .i, .l 2, .t, .l 2, .t, .l 2, .t, .t, .t, .l 2, .t, .l 3, .l 3, .l 3] (fun tk P => ⟨fun i => match i with | 1 => ((P 1).s.n 0) | 2 => ((P 2).s.n 0) | 3 => ((P 3).s.n 0) | 4 => ((P 4).s.n 0) | 5 => ((P 5).s.n 0) | 6 => ((P 6).s.n 0) | 7 => ((P 7).s.n 0) | 8 => ((P 8).s.n 0) | 9 => ((P 9).s.n 0) | 10 => ((P 10).s.n 0) | 11 => ((P 11).s.n 0) | 17 => ((P 17).s.n 0) | 18 => ((P 18).s.n 0) | 19 => ((P 19).s.n 0) | 20 => ((P 20).s.n 0) | 21 => ((P 21).s.n 0) | 23 => ((P 23).s.n 0) | 98 => (Nat.succ tk) | 99 => tk | _ => 0, fun _ => 0, fun _ => ⟨#[]⟩, fun _ => []⟩) (fun tk P => []) [2, 2, 2, 2, 8, 8, 15, 15, 14, 0, 14] (fun _ _ _ => trivial) (fun tk P => by kernel_rfl!)
noncomputable def rcOut : Nat → Str
  | 0 => ⟨#[]⟩
  | c => ⟨#[c]⟩
theorem rc_meets (text : Str) (t : Nat) (σ : Sup) (p tp c p' : Nat) (hc : (c = 0 ∧ p' = p) ∨ (c ∈ [46, 32, 34, 92] ∧ p' = p + 1)) (H : Cut text p (rcOut c)) : Meets (mkV U b₁ b₂) (S_rc (mkV U b₁ b₂) text t σ p tp p' (rcOut c)) := by
  have C : CsOk (mkV U b₁ b₂) [C_cut text p (rcOut c)] := ⟨C_cut_ok H, trivial⟩
  rcases hc with ⟨rfl, rfl⟩ | ⟨hc, rfl⟩
  · exact meets_of G C 191 [.t, .t, .l 0, .l 0, .e none 0 [] ⟨#[95, 110, 101, 116, 114, 99, 108, 101, 120, 46, 95, 114, 101, 97, 100, 95, 99, 104, 97, 114, 46, 60, 108, 111, 99, 97, 108, 115, 62, 46]⟩, .l 0, .l 1, .t, .t, .t, .i, .l 1, .t, .t, .t, .l 1, .l 1, .t, .l 2, .l 4, .l 4, .l 4, .l 4, .i, .l 4, .l 4, .l 4, .l 4, .l 3, .l 5, .i, .l 5, .l 6, .l 0, .l 0, .e (some 6) 0 [] ⟨#[95, 108, 97, 119, 95, 109, 97, 99, 104, 105, 110, 101, 46, 60, 108, 111, 99, 97, 108, 115, 62, 46, 95, 108, 97, 119, 95, 114, 101, 97, 100, 95, 111, 110, 46, 60, 108, 111, 99, 97, 108, 115, 62, 46]⟩, .l 9, .l 8, .l 10, .l 10, .l 10, .i, .l 10, .l 10, .l 8, .l 10, .l 10, .l 10, .i, .l 10, .l 10, .l 0, .i, .c 0 [0], .l 1, .l 1, .l 9, .l 11, .l 11, .l 11, .i, .l 11, .l 11, .t, .t, .l 1, .i, .i, .i, .l 9, .l 11, .l 11, .i, .l 11, .l 11, .l 11, .l 11, .l 1, .l 2, .l 2, .l 2, .i, .l 2] (fun tk P => ⟨fun i => match i with | 0 => ((P 3).s.n 0) | 1 => (Nat.succ (Nat.succ (Nat.succ (Nat.succ (Nat.succ ((P 3).tk)))))) | _ => 0, fun _ => 0, fun _ => ⟨#[]⟩, fun _ => []⟩) (fun tk P => []) [3, 3, 3, 3, 3, 3, 3, 3, 3] (fun _ _ _ => trivial) (fun tk P => by exact Bool.casesOn b₁ (by kernel_rfl!) (by kernel_rfl!))
  · simp only [List.mem_cons, List.not_mem_nil, or_false] at hc
    rcases hc with rfl | rfl | rfl | rfl <;> exact meets_of G C 191 [.t, .t, .l 0, .l 0, .e none 0 [] ⟨#[95, 110, 101, 116, 114, 99, 108, 101, 120, 46, 95, 114, 101, 97, 100, 95, 99, 104, 97, 114, 46, 60, 108, 111, 99, 97, 108, 115, 62, 46]⟩, .l 0, .l 1, .t, .t, .t, .i, .l 1, .t, .t, .t, .l 1, .l 1, .t, .l 2, .l 4, .l 4, .l 4, .l 4, .i, .l 4, .l 4, .l 4, .l 4, .l 3, .l 5, .i, .l 5, .l 6, .l 0, .l 0, .e (some 6) 0 [] ⟨#[95, 108, 97, 119, 95, 109, 97, 99, 104, 105, 110, 101, 46, 60, 108, 111, 99, 97, 108, 115, 62, 46, 95, 108, 97, 119, 95, 114, 101, 97, 100, 95, 111, 110, 46, 60, 108, 111, 99, 97, 108, 115, 62, 46]⟩, .l 9, .l 8, .l 10, .l 10, .l 10, .i, .l 10, .l 10, .l 8, .l 10, .l 10, .l 10, .i, .l 10, .l 10, .l 0, .i, .c 0 [0], .l 1, .l 1, .l 9, .l 11, .l 11, .l 11, .i, .l 11, .l 11, .t, .t, .l 1, .i, .i, .i, .l 9, .l 11, .l 11, .i, .l 11, .l 11, .l 11, .l 11, .l 1, .l 2, .l 2, .l 2, .i, .l 2] (fun tk P => ⟨fun i => match i with | 0 => ((P 3).s.n 0) | 1 => (Nat.succ (Nat.succ (Nat.succ (Nat.succ (Nat.succ ((P 3).tk)))))) | _ => 0, fun _ => 0, fun _ => ⟨#[]⟩, fun _ => []⟩) (fun tk P => []) [3, 3, 3, 3, 3, 3, 3, 3, 3] (fun _ _ _ => trivial) (fun tk P => by exact Bool.casesOn b₁ (by kernel_rfl!) (by kernel_rfl!))
end
end Mine
end
section
set_option maxRecDepth 100000
namespace Mine
open PySem PySem.W PySem.W.X PyProof.Rows
/-- read_char as a contract: at position p, sign o, behind it p' -/
noncomputable def C_rc (V : VV) (text : Str) (t : Nat) (σ : Sup) (p p' : Nat) (o : Str) : Code → Ldg → Spec := fun c l => oS c (match c with
  | .call (.ref _) ⟨[.ref _], []⟩ => match l with
    | [_, _, _, _, _, _, _, _, (_, ⟨_, _, .seq ⟨[.int _ tp]⟩ _, _⟩)] => some tp
    | _ => none
  | _ => none) fun tp =>
    S_rc V text t σ p tp p' o
/-! the text's own trees -/
noncomputable def dflE : Expr := .Constant .none 0 default
noncomputable def dflS : Stmt := .Pass default
noncomputable def fnBody (V : VV) (a : Addr) : List Stmt := match V.kt.get a with
  | some o => match o.data with
    | .func fd => match fd.body with
      | .stmts b => b
      | _ => []
    | _ => []
  | none => []
noncomputable def fnFd (V : VV) (a : Addr) : FuncData := match V.kt.get a with
  | some o => match o.data with
    | .func fd => fd
    | _ => default
  | none => default
noncomputable def nthS (l : List Stmt) (i : Nat) : Stmt := match l[i]? with
  | some s => s
  | none => dflS
noncomputable def forT : Stmt → Expr
  | .For t _ _ _ _ => t
  | _ => dflE
noncomputable def forB : Stmt → List Stmt
  | .For _ _ b _ _ => b
  | _ => []
noncomputable def ifB : Stmt → List Stmt
  | .If _ b _ _ => b
  | _ => []
noncomputable def ifE : Stmt → List Stmt
  | .If _ _ e _ => e
  | _ => []
noncomputable def envAt (V : VV) (a l : Addr) (cells : List (Str × Addr)) (qual : Str) : Env :=
  { scope := (fnFd V a).scope, locals := l, globals := (fnFd V a).globals, cells, qual, func := some a, code := (fnFd V a).code, frame := some l, builtins := (fnFd V a).builtins }
noncomputable def tokOuter (V : VV) : Stmt := nthS (fnBody V 108) 3
noncomputable def bareFor (V : VV) : Stmt := nthS (ifE (nthS (forB (tokOuter V)) 1)) 2
noncomputable def quotFor (V : VV) : Stmt := nthS (ifB (nthS (forB (tokOuter V)) 1)) 0
/-- '_netrclex.get_token.<locals>.' -/
noncomputable def qTok : Str := ⟨#[95, 110, 101, 116, 114, 99, 108, 101, 120, 46, 103, 101, 116, 95, 116, 111, 107, 101, 110, 46, 60, 108, 111, 99, 97, 108, 115, 62, 46]⟩
noncomputable def frO (es : List DictEntry) (e : Nat) : Obj := { cls := .type "frame", data := .dict ⟨es⟩ e }
noncomputable def sSelf : Str := ⟨#[115, 101, 108, 102]⟩
noncomputable def sToken : Str := ⟨#[116, 111, 107, 101, 110]⟩
noncomputable def sFiter : Str := ⟨#[102, 105, 116, 101, 114]⟩
noncomputable def sCh : Str := ⟨#[99, 104]⟩
/-- the frame of get_token in a loop: hashes, keys' tokens -/
structure Fk where
  fa : Addr
  ia : Addr
  ma : Addr
  h : Nat → Int
  k : Nat → Nat
noncomputable def tokFr (σ : Sup) (x : Fk) (v : Str) (tv : Nat) (ch : Str) (tc : Nat) : Obj :=
  frO [⟨x.h 0, .str sSelf (x.k 0), .ref (σ.n 21)⟩, ⟨x.h 1, .str sToken (x.k 1), .str v tv⟩, ⟨x.h 2, .str sFiter (x.k 2), .ref x.ia⟩, ⟨x.h 3, .str sCh (x.k 3), .str ch tc⟩] 4
end Mine
namespace Mine
open PySem PySem.W PySem.W.X PyProof.Rows
noncomputable def itO (x : Fk) (ts : Nat) (d : Bool) : Obj := { cls := .type "callable_iterator", data := .fields ⟨[.ref x.ma, .str ⟨#[]⟩ ts, .bool d]⟩ }
noncomputable def endO : Obj := { cls := .type "callable_iterator", data := .fields ⟨[.none, .none, .bool true]⟩ }
noncomputable def meO (σ : Sup) : Obj := { cls := .type "method", data := .fields ⟨[.ref 101, .ref (σ.n 21)]⟩ }
noncomputable def loopL (V : VV) (text : Str) (t : Nat) (σ : Sup) (x : Fk) (ts : Nat) (d : Bool) (v : Str) (tv : Nat) (ch : Str) (tc : Nat) (p tp : Nat) : Ldg :=
  (x.fa, tokFr σ x v tv ch tc) :: (x.ia, itO x ts d) :: (x.ma, meO σ) :: lexL V text t σ p tp
/-- behind dots: the rest of a word, ended by a blank (fin) or by the text's end -/
noncomputable def S_bare (V : VV) (text : Str) (t : Nat) (σ : Sup) (j J p q : Nat) (fin : Bool) (x : Fk) (ts tv tc tp : Nat) : Spec where
  need := true
  d := 12
  code := .forLoop (forT (bareFor V)) (.ref x.ia) (forB (bareFor V)) [] (envAt V 108 x.fa [] qTok)
  pre := loopL V text t σ x ts false (dotS j) tv ⟨#[46]⟩ tc p tp
  hasFact := false
  fact := fun _ => True
  res := fun σ' => match fin with
    | true => .ok (.ret (.str (dotS J) (σ'.n 0)))
    | false => .ok .next
  post := fun σ' => match fin with
    | true => lexL V text t σ (q + 1) (σ'.n 1)
    | false => (x.fa, tokFr σ x (dotS J) (σ'.n 0) ⟨#[46]⟩ (σ'.n 2)) :: (x.ia, endO) :: lexL V text t σ q (σ'.n 1)
noncomputable def C_bare (V : VV) (text : Str) (t : Nat) (σ : Sup) (j J p q : Nat) (fin : Bool) : Code → Ldg → Spec := fun c l => oS c (match c with
  | .forLoop _ (.ref ia) _ _ _ => match l with
    | [(fa, ⟨_, _, .dict ⟨[⟨h0, .str _ k0, _⟩, ⟨h1, .str _ k1, .str _ tv⟩, ⟨h2, .str _ k2, _⟩, ⟨h3, .str _ k3, .str _ tc⟩]⟩ _, _⟩), (_, ⟨_, _, .fields ⟨[.ref ma, .str _ ts, _]⟩, _⟩), _, _, _, _, _, _, _, _, _, (_, ⟨_, _, .seq ⟨[.int _ tp]⟩ _, _⟩)] => some (ia, fa, h0, k0, h1, k1, tv, h2, k2, h3, k3, tc, ma, ts, tp)
    | _ => none
  | _ => none) fun (ia, fa, h0, k0, h1, k1, tv, h2, k2, h3, k3, tc, ma, ts, tp) =>
    S_bare V text t σ j J p q fin ⟨fa, ia, ma, fun i => match i with | 0 => h0 | 1 => h1 | 2 => h2 | _ => h3, fun i => match i with | 0 => k0 | 1 => k1 | 2 => k2 | _ => k3⟩ ts tv tc tp
/-- dots and one more -/
noncomputable def C_addS (j : Nat) : Code → Ldg → Spec := fun c _ => oS c (match c with
  | .call (.builtin id) ⟨[.str _ a, .str _ b], []⟩ => some (id, a, b)
  | _ => none) fun (id, a, b) =>
    bSpec (.call (.builtin id) ⟨[.str (dotS j) a, .str ⟨#[46]⟩ b], []⟩) (S.eqLit 116512096292018843154609524 id) (fun σ => .str (dotS (j + 1)) (σ.n 0))
/-! the end of the file: the iterator stops -/
noncomputable def excO (tu : Addr) : Obj := { cls := .type "StopIteration", data := .fields ⟨[.ref tu, .none, .none, .none, .bool false, .none]⟩ }
noncomputable def S_nextE (V : VV) (text : Str) (t : Nat) (σ : Sup) (p : Nat) (id : String) (ia ma ts tp : Nat) : Spec where
  need := S.eqLit 154871534474935724191431299575622858322749446335671712506274404 id
  d := 9
  code := .builtin id ⟨[.ref ia], []⟩
  pre := (ia, itO ⟨0, ia, ma, fun _ => 0, fun _ => 0⟩ ts false) :: (ma, meO σ) :: lexL V text t σ p tp
  hasFact := false
  fact := fun _ => True
  res := fun σ' => .error (.ref (σ'.n 0))
  post := fun σ' => (σ'.n 0, excO (σ'.n 1)) :: (σ'.n 1, { cls := .type "tuple", data := .seq #[] 0 }) :: (ia, endO) :: (ma, meO σ) :: lexL V text t σ p (σ'.n 2)
noncomputable def C_nextE (V : VV) (text : Str) (t : Nat) (σ : Sup) (p : Nat) : Code → Ldg → Spec := fun c l => oS c (match c with
  | .builtin id ⟨[.ref ia], []⟩ => match l with
    | [(_, ⟨_, _, .fields ⟨[.ref ma, .str _ ts, _]⟩, _⟩), _, _, _, _, _, _, _, _, _, (_, ⟨_, _, .seq ⟨[.int _ tp]⟩ _, _⟩)] => some (id, ia, ma, ts, tp)
    | _ => none
  | _ => none) fun (id, ia, ma, ts, tp) =>
    S_nextE V text t σ p id ia ma ts tp
/-! a quoted word -/
noncomputable def S_quot (V : VV) (text : Str) (t : Nat) (σ : Sup) (j J p q : Nat) (x : Fk) (ts tv : Nat) (ch : Str) (tc tp : Nat) : Spec where
  need := true
  d := 12
  code := .forLoop (forT (quotFor V)) (.ref x.ia) (forB (quotFor V)) [] (envAt V 108 x.fa [] qTok)
  pre := loopL V text t σ x ts false (dotS j) tv ch tc p tp
  hasFact := false
  fact := fun _ => True
  res := fun σ' => .ok (.ret (.str (dotS J) (σ'.n 0)))
  post := fun σ' => lexL V text t σ (q + 1) (σ'.n 1)
noncomputable def C_quot (V : VV) (text : Str) (t : Nat) (σ : Sup) (j J p q : Nat) : Code → Ldg → Spec := fun c l => oS c (match c with
  | .forLoop _ (.ref ia) _ _ _ => match l with
    | [(fa, ⟨_, _, .dict ⟨[⟨h0, .str _ k0, _⟩, ⟨h1, .str _ k1, .str _ tv⟩, ⟨h2, .str _ k2, _⟩, ⟨h3, .str _ k3, .str ch tc⟩]⟩ _, _⟩), (_, ⟨_, _, .fields ⟨[.ref ma, .str _ ts, _]⟩, _⟩), _, _, _, _, _, _, _, _, _, (_, ⟨_, _, .seq ⟨[.int _ tp]⟩ _, _⟩)] => some (ia, fa, h0, k0, h1, k1, tv, h2, k2, h3, k3, ch, tc, ma, ts, tp)
    | _ => none
  | _ => none) fun (ia, fa, h0, k0, h1, k1, tv, h2, k2, h3, k3, ch, tc, ma, ts, tp) =>
    S_quot V text t σ j J p q ⟨fa, ia, ma, fun i => match i with | 0 => h0 | 1 => h1 | 2 => h2 | _ => h3, fun i => match i with | 0 => k0 | 1 => k1 | 2 => k2 | _ => k3⟩ ts tv ch tc tp
/-! get_token, nothing pushed back -/
noncomputable def S_tok (V : VV) (text : Str) (t : Nat) (σ : Sup) (J p q : Nat) (tp e : Nat) : Spec where
  need := true
  d := 20
  code := .call (.ref 108) ⟨[.ref (σ.n 21)], []⟩
  pre := lexL V text t σ p tp ++ [(σ.n 23, listO #[] e)]
  hasFact := false
  fact := fun _ => True
  res := fun σ' => .ok (.ret (.str (dotS J) (σ'.n 0)))
  post := fun σ' => lexL V text t σ q (σ'.n 1) ++ [(σ.n 23, listO #[] e)]
end Mine
end
section
set_option maxRecDepth 100000
set_option maxHeartbeats 0
namespace Mine
open PySem PySem.W PySem.W.X PyProof.Rows
theorem dotS_len (j : Nat) : (dotS j).length = j := by
  show (List.replicate j 46).toArray.size = j
  simp
theorem dots_snoc (j : Nat) : (List.replicate j 46).toArray ++ #[46] = (List.replicate (j + 1) 46).toArray := by
  apply Array.ext'
  rw [Array.toList_append]
  show List.replicate j 46 ++ [46] = List.replicate (j + 1) 46
  exact List.replicate_succ'.symm
theorem C_addS_ok {V : VV} {j : Nat} (hj : 1 ≤ j) (hJ : j < 1000) (c : Code) (l : Ldg) : Meets V (C_addS j c l) := by
  refine oS_ok fun ⟨id, a, b⟩ => ?_
  show Meets _ (bSpec (.call (.builtin id) ⟨[.str (dotS j) a, .str ⟨#[46]⟩ b], []⟩) (S.eqLit 116512096292018843154609524 id) (fun σ => .str (dotS (j + 1)) (σ.n 0)))
  intro q
  have h0 := q
  simp only [bSpec] at q
  have e := id_of q (s := "str.__add__") (by decide +kernel)
  subst e
  have g := gives_str_add (dotS j) ⟨#[46]⟩ a b
  rw [if_neg (by rw [dotS_len]; simp; omega), if_neg (by show ¬ ((1 : Nat) == 0) = true; decide)] at g
  have e2 : dotS j ++ ⟨#[46]⟩ = dotS (j + 1) := congrArg Str.mk (dots_snoc j)
  rw [e2] at g
  exact con_gives F.slot_str_add (fun s => rfl) F.entry_str_add (F.args_str_add_2 _ _) g (by show (dotS (j + 1)).length ≤ sizeLine; rw [dotS_len]; have : sizeLine = 16777216 := rfl; omega) (fun _ => rfl) h0
section
variable {U : Un} {b₁ b₂ : Bool} (G : Good (mkV U b₁ b₂))
theorem C_rc_ok (G : Good (mkV U b₁ b₂)) {text : Str} {t : Nat} {σ : Sup} {p c p' : Nat} (hc : (c = 0 ∧ p' = p) ∨ (c ∈ [46, 32, 34, 92] ∧ p' = p + 1)) (H : Cut text p (rcOut c)) (cd : Code) (l : Ldg) : Meets (mkV U b₁ b₂) (C_rc (mkV U b₁ b₂) text t σ p p' (rcOut c) cd l) := by
  exact oS_ok fun tp => rc_meets G text t σ _ _ c p' hc H
noncomputable def NextE (V : VV) : Prop := ∀ (text : Str) (t : Nat) (σ : Sup) (p : Nat) (id : String) (ia ma ts tp : Nat), 2 ≤ text.length → text.length ≤ p → Meets V (S_nextE V text t σ p id ia ma ts tp)
theorem C_nextE_ok {V : VV} (N : NextE V) {text : Str} {t : Nat} {σ : Sup} {p : Nat} (h2 : 2 ≤ text.length) (hp : text.length ≤ p) (cd : Code) (l : Ldg) : Meets V (C_nextE V text t σ p cd l) := by
  exact oS_ok fun ⟨id, ia, ma, ts, tp⟩ => N _ _ _ _ _ _ _ _ _ h2 hp
theorem C_bare_ok {V : VV} {text : Str} {t : Nat} {σ : Sup} {j J p q : Nat} {fin : Bool} (m : ∀ x ts tv tc tp, Meets V (S_bare V text t σ j J p q fin x ts tv tc tp)) (cd : Code) (l : Ldg) : Meets V (C_bare V text t σ j J p q fin cd l) := by
  exact oS_ok fun ⟨ia, fa, h0, k0, h1, k1, tv, h2, k2, h3, k3, tc, ma, ts, tp⟩ => m _ _ _ _ _
/-- how a bare word ends at q -/
noncomputable def EndsAt (text : Str) (q : Nat) : Bool → Prop
  | true => text.cps[q]? = some 32
  | false => text.length ≤ q
include G
theorem bare_meets (N : NextE (mkV U b₁ b₂)) (text : Str) (t : Nat) (σ : Sup) (J q : Nat) (fin : Bool) (h2 : 2 ≤ text.length) (hJ : J < 1000) (he : EndsAt text q fin) : ∀ (m j p : Nat), j + m = J → p + m = q → 1 ≤ j →
    (∀ i, i < m → text.cps[p + i]? = some 46) → ∀ x ts tv tc tp, Meets (mkV U b₁ b₂) (S_bare (mkV U b₁ b₂) text t σ j J p q fin x ts tv tc tp)
  | 0, j, p, e1, e2, h1, hd, x, ts, tv, tc, tp => by
    obtain rfl : j = J := by omega
    obtain rfl : p = q := by omega
    cases fin with
    | true =>
      have C : CsOk (mkV U b₁ b₂) [C_rc (mkV U b₁ b₂) text t σ p (Nat.succ p) ⟨#[32]⟩] := ⟨C_rc_ok (c := 32) G (.inr ⟨by decide, rfl⟩) (Cut.of_some he h2), trivial⟩
      exact meets_of G C 68 [.l 1, .i, .l 1, .l 1, .l 1, .l 2, .t, .i, .l 2, .a 0 [3, 3, 3, 3, 3, 3, 3, 3, 3], .l 10, .l 10, .i, .l 9, .l 9, .l 9, .l 9, .l 0, .t, .t, .t, .i, .l 0, .t, .t, .t, .l 0, .l 0, .t, .l 1, .i, .l 9] (fun tk P => ⟨fun i => match i with | 0 => tv | 1 => ((P 0).s.n 1) | _ => 0, fun _ => 0, fun _ => ⟨#[]⟩, fun _ => []⟩) (fun tk P => []) [0, 0, 0, 0, 0, 0, 0, 0, 0] (fun _ _ _ => trivial) (fun tk P => by exact Bool.casesOn b₁ (by kernel_rfl!) (by kernel_rfl!))
    | false =>
      have C : CsOk (mkV U b₁ b₂) [C_nextE (mkV U b₁ b₂) text t σ p] := ⟨C_nextE_ok N h2 he, trivial⟩
      exact meets_of G C 20 [.l 1, .i, .l 1, .a 0 [1, 1, 1, 1, 1, 1, 1, 1, 1, 1, 1], .l 0] (fun tk P => ⟨fun i => match i with | 0 => tv | 1 => ((P 0).s.n 2) | 2 => tc | _ => 0, fun _ => 0, fun _ => ⟨#[]⟩, fun _ => []⟩) (fun tk P => []) [13, 2, 3, 3, 3, 3, 3, 3, 3, 3, 3] (fun _ _ _ => trivial) (fun tk P => by exact Bool.casesOn b₁ (by kernel_rfl!) (by kernel_rfl!))
  | m + 1, j, p, e1, e2, h1, hd, x, ts, tv, tc, tp => by
    have ih := bare_meets N text t σ J q fin h2 hJ he m (Nat.succ j) (Nat.succ p) (by omega) (by omega) (by omega) (fun i hi => by have := hd (i + 1) (by omega); rwa [Nat.succ_add, ← Nat.add_succ])
    have d0 := hd 0 (by omega)
    rw [Nat.add_zero] at d0
    have C : CsOk (mkV U b₁ b₂) [C_rc (mkV U b₁ b₂) text t σ p (Nat.succ p) ⟨#[46]⟩, C_addS j, C_bare (mkV U b₁ b₂) text t σ (Nat.succ j) J (Nat.succ p) q fin] :=
      ⟨C_rc_ok (c := 46) G (.inr ⟨by decide, rfl⟩) (Cut.of_some d0 h2), C_addS_ok h1 (by omega), C_bare_ok ih, trivial⟩
    cases fin with
    | true => exact meets_of G C 92 [.l 1, .i, .l 1, .l 1, .l 1, .l 2, .t, .i, .l 2, .a 0 [3, 3, 3, 3, 3, 3, 3, 3, 3], .l 10, .l 10, .i, .l 9, .l 9, .l 9, .l 9, .l 0, .t, .t, .t, .i, .l 0, .t, .t, .t, .l 0, .l 0, .t, .l 1, .i, .l 9, .i, .l 9, .l 9, .c 1 [], .l 9, .l 9, .a 2 [9, 9, 9, 0, 0, 0, 0, 0, 0, 0, 0, 0]] (fun tk P => ⟨fun i => match i with | 0 => ((P 2).s.n 0) | 1 => ((P 2).s.n 1) | _ => 0, fun _ => 0, fun _ => ⟨#[]⟩, fun _ => []⟩) (fun tk P => []) [0, 0, 0, 0, 0, 0, 0, 0, 0] (fun _ _ _ => trivial) (fun tk P => by exact Bool.casesOn b₁ (by kernel_rfl!) (by kernel_rfl!))
    | false => exact meets_of G C 92 [.l 1, .i, .l 1, .l 1, .l 1, .l 2, .t, .i, .l 2, .a 0 [3, 3, 3, 3, 3, 3, 3, 3, 3], .l 10, .l 10, .i, .l 9, .l 9, .l 9, .l 9, .l 0, .t, .t, .t, .i, .l 0, .t, .t, .t, .l 0, .l 0, .t, .l 1, .i, .l 9, .i, .l 9, .l 9, .c 1 [], .l 9, .l 9, .a 2 [9, 9, 9, 0, 0, 0, 0, 0, 0, 0, 0, 0]] (fun tk P => ⟨fun i => match i with | 0 => ((P 2).s.n 0) | 1 => ((P 2).s.n 1) | 2 => ((P 2).s.n 2) | _ => 0, fun _ => 0, fun _ => ⟨#[]⟩, fun _ => []⟩) (fun tk P => []) [0, 0, 0, 0, 0, 0, 0, 0, 0, 0, 0] (fun _ _ _ => trivial) (fun tk P => by exact Bool.casesOn b₁ (by kernel_rfl!) (by kernel_rfl!))
end
end Mine
end
section
set_option maxRecDepth 100000
set_option maxHeartbeats 0
namespace Mine
open PySem PySem.W PySem.W.X PyProof.Rows
theorem C_quot_ok {V : VV} {text : Str} {t : Nat} {σ : Sup} {j J p q : Nat} (m : ∀ x ts tv ch tc tp, Meets V (S_quot V text t σ j J p q x ts tv ch tc tp)) (cd : Code) (l : Ldg) : Meets V (C_quot V text t σ j J p q cd l) := by
  exact oS_ok fun ⟨ia, fa, h0, k0, h1, k1, tv, h2, k2, h3, k3, ch, tc, ma, ts, tp⟩ => m _ _ _ _ _ _
section
variable {U : Un} {b₁ b₂ : Bool} (G : Good (mkV U b₁ b₂))
include G
theorem quot_meets (text : Str) (t : Nat) (σ : Sup) (J q : Nat) (h2 : 2 ≤ text.length) (hJ : J < 1000) (he : text.cps[q]? = some 34) : ∀ (m j p : Nat), j + m = J → p + m = q →
    (∀ i, i < m → text.cps[p + i]? = some 46) → ∀ x ts tv ch tc tp, Meets (mkV U b₁ b₂) (S_quot (mkV U b₁ b₂) text t σ j J p q x ts tv ch tc tp)
  | 0, j, p, e1, e2, hd, x, ts, tv, ch, tc, tp => by
    obtain rfl : j = J := by omega
    obtain rfl : p = q := by omega
    have C : CsOk (mkV U b₁ b₂) [C_rc (mkV U b₁ b₂) text t σ p (Nat.succ p) ⟨#[34]⟩] := ⟨C_rc_ok (c := 34) G (.inr ⟨by decide, rfl⟩) (Cut.of_some he h2), trivial⟩
    exact meets_of G C 51 [.l 1, .i, .l 1, .l 1, .l 1, .l 2, .t, .i, .l 2, .a 0 [3, 3, 3, 3, 3, 3, 3, 3, 3], .l 10, .l 10, .i, .l 9, .l 9, .l 9, .i, .l 9] (fun tk P => ⟨fun i => match i with | 0 => tv | 1 => ((P 0).s.n 1) | _ => 0, fun _ => 0, fun _ => ⟨#[]⟩, fun _ => []⟩) (fun tk P => []) [0, 0, 0, 0, 0, 0, 0, 0, 0] (fun _ _ _ => trivial) (fun tk P => by exact Bool.casesOn b₁ (by kernel_rfl!) (by kernel_rfl!))
  | m + 1, j, p, e1, e2, hd, x, ts, tv, ch, tc, tp => by
    have ih := quot_meets text t σ J q h2 hJ he m (Nat.succ j) (Nat.succ p) (by omega) (by omega) (fun i hi => by have := hd (i + 1) (by omega); rwa [Nat.succ_add, ← Nat.add_succ])
    have d0 := hd 0 (by omega)
    rw [Nat.add_zero] at d0
    have c1 : ∀ cd l, Meets (mkV U b₁ b₂) (C_rc (mkV U b₁ b₂) text t σ p (Nat.succ p) ⟨#[46]⟩ cd l) := C_rc_ok (c := 46) G (.inr ⟨by decide, rfl⟩) (Cut.of_some d0 h2)
    match j, e1, ih with
    | 0, _, ih =>
      have C : CsOk (mkV U b₁ b₂) [C_rc (mkV U b₁ b₂) text t σ p (Nat.succ p) ⟨#[46]⟩, C_quot (mkV U b₁ b₂) text t σ (Nat.succ 0) J (Nat.succ p) q] := ⟨c1, C_quot_ok ih, trivial⟩
      exact meets_of G C 76 [.l 1, .i, .l 1, .l 1, .l 1, .l 2, .t, .i, .l 2, .a 0 [3, 3, 3, 3, 3, 3, 3, 3, 3], .l 10, .l 10, .i, .l 9, .l 9, .l 9, .i, .l 9, .i, .l 9, .l 9, .i, .l 9, .l 9, .a 1 [9, 9, 9, 0, 0, 0, 0, 0, 0, 0, 0, 0]] (fun tk P => ⟨fun i => match i with | 0 => ((P 1).s.n 0) | 1 => ((P 1).s.n 1) | _ => 0, fun _ => 0, fun _ => ⟨#[]⟩, fun _ => []⟩) (fun tk P => []) [0, 0, 0, 0, 0, 0, 0, 0, 0] (fun _ _ _ => trivial) (fun tk P => by exact Bool.casesOn b₁ (by kernel_rfl!) (by kernel_rfl!))
    | j' + 1, e1, ih =>
      generalize ej : j' + 1 = j at e1 ih ⊢
      have C : CsOk (mkV U b₁ b₂) [C_rc (mkV U b₁ b₂) text t σ p (Nat.succ p) ⟨#[46]⟩, C_quot (mkV U b₁ b₂) text t σ (Nat.succ j) J (Nat.succ p) q, C_addS j] := ⟨c1, C_quot_ok ih, C_addS_ok (by omega) (by omega), trivial⟩
      clear ej
      exact meets_of G C 75 [.l 1, .i, .l 1, .l 1, .l 1, .l 2, .t, .i, .l 2, .a 0 [3, 3, 3, 3, 3, 3, 3, 3, 3], .l 10, .l 10, .i, .l 9, .l 9, .l 9, .i, .l 9, .i, .l 9, .l 9, .c 2 [], .l 9, .l 9, .a 1 [9, 9, 9, 0, 0, 0, 0, 0, 0, 0, 0, 0]] (fun tk P => ⟨fun i => match i with | 0 => ((P 2).s.n 0) | 1 => ((P 2).s.n 1) | _ => 0, fun _ => 0, fun _ => ⟨#[]⟩, fun _ => []⟩) (fun tk P => []) [0, 0, 0, 0, 0, 0, 0, 0, 0] (fun _ _ _ => trivial) (fun tk P => by exact Bool.casesOn b₁ (by kernel_rfl!) (by kernel_rfl!))
/-- a word as it stands in the file from p on: its kind, d dots; behind it q -/
noncomputable def Word (text : Str) (p d q : Nat) : Nat → Bool → Prop
  | 0, fin => (∀ i, i < d → text.cps[p + i]? = some 46) ∧ EndsAt text (p + d) fin ∧ q = (if fin then p + d + 1 else p + d)
  | 1, _ => text.cps[p]? = some 34 ∧ (∀ i, i < d → text.cps[p + 1 + i]? = some 46) ∧ text.cps[p + 1 + d]? = some 34 ∧ q = p + 1 + d + 1
  | _, fin => text.cps[p]? = some 92 ∧ (∀ i, i < d → text.cps[p + 1 + i]? = some 46) ∧ EndsAt text (p + 1 + d) fin ∧ q = (if fin then p + 1 + d + 1 else p + 1 + d)
theorem tok_meets (N : NextE (mkV U b₁ b₂)) (text : Str) (t : Nat) (σ : Sup) (k d p q tp e : Nat) (fin : Bool) (h2 : 2 ≤ text.length) (h1 : 1 ≤ d) (hd : d < 1000) (W : Word text p d q k fin) :
    Meets (mkV U b₁ b₂) (S_tok (mkV U b₁ b₂) text t σ d p q tp e) := by
  match k, W with
  | 0, W =>
    obtain ⟨w1, w2, rfl⟩ := W
    have d0 := w1 0 (by omega)
    rw [Nat.add_zero] at d0
    have c1 : ∀ cd l, Meets (mkV U b₁ b₂) (C_rc (mkV U b₁ b₂) text t σ p (Nat.succ p) ⟨#[46]⟩ cd l) := C_rc_ok (c := 46) G (.inr ⟨by decide, rfl⟩) (Cut.of_some d0 h2)
    have ih := bare_meets G N text t σ d (p + d) fin h2 hd w2 (d - 1) (Nat.succ 0) (Nat.succ p) (by omega) (by omega) (by omega) (fun i hi => by have := w1 (i + 1) (by omega); rwa [Nat.succ_add, ← Nat.add_succ])
    generalize p + d = r at ih
    have C : CsOk (mkV U b₁ b₂) [C_rc (mkV U b₁ b₂) text t σ p (Nat.succ p) ⟨#[46]⟩, C_bare (mkV U b₁ b₂) text t σ (Nat.succ 0) d (Nat.succ p) r fin] := ⟨c1, C_bare_ok ih, trivial⟩
    cases fin with
    | true => exact meets_of G C 237 [.t, .t, .l 0, .l 0, .e none 0 [] ⟨#[95, 110, 101, 116, 114, 99, 108, 101, 120, 46, 103, 101, 116, 95, 116, 111, 107, 101, 110, 46, 60, 108, 111, 99, 97, 108, 115, 62, 46]⟩, .l 0, .l 1, .t, .t, .t, .i, .l 1, .t, .t, .t, .l 1, .l 1, .t, .l 2, .l 10, .l 10, .i, .l 10, .i, .l 10, .l 10, .l 0, .l 0, .t, .t, .l 0, .l 1, .t, .t, .t, .i, .l 1, .t, .t, .t, .t, .t, .t, .l 1, .l 1, .t, .l 2, .t, .t, .t, .i, .t, .i, .l 0, .l 2, .l 2, .l 2, .l 0, .l 0, .i, .l 0, .l 0, .i, .l 0, .i, .l 0, .l 0, .l 0, .l 1, .t, .i, .l 1, .a 0 [3, 3, 3, 3, 3, 3, 3, 3, 3], .l 9, .l 9, .i, .l 11, .l 11, .l 11, .l 11, .l 0, .t, .t, .t, .i, .l 0, .t, .t, .t, .l 0, .l 0, .t, .l 1, .i, .l 11, .i, .l 11, .i, .l 11, .l 11, .i, .l 11, .l 11, .l 11, .l 9, .l 9, .i, .l 9, .l 9, .c 1 [11, 9, 9, 0, 0, 0, 0, 0, 0, 0, 0, 0]] (fun tk P => ⟨fun i => match i with | 0 => ((P 4).s.n 0) | 1 => ((P 4).s.n 1) | _ => 0, fun _ => 0, fun _ => ⟨#[]⟩, fun _ => []⟩) (fun tk P => []) [0, 0, 0, 0, 0, 0, 0, 0, 0, 0] (fun _ _ _ => trivial) (fun tk P => by exact Bool.casesOn b₁ (by kernel_rfl!) (by kernel_rfl!))
    | false => exact meets_of G C 258 [.t, .t, .l 0, .l 0, .e none 0 [] ⟨#[95, 110, 101, 116, 114, 99, 108, 101, 120, 46, 103, 101, 116, 95, 116, 111, 107, 101, 110, 46, 60, 108, 111, 99, 97, 108, 115, 62, 46]⟩, .l 0, .l 1, .t, .t, .t, .i, .l 1, .t, .t, .t, .l 1, .l 1, .t, .l 2, .l 10, .l 10, .i, .l 10, .i, .l 10, .l 10, .l 0, .l 0, .t, .t, .l 0, .l 1, .t, .t, .t, .i, .l 1, .t, .t, .t, .t, .t, .t, .l 1, .l 1, .t, .l 2, .t, .t, .t, .i, .t, .i, .l 0, .l 2, .l 2, .l 2, .l 0, .l 0, .i, .l 0, .l 0, .i, .l 0, .i, .l 0, .l 0, .l 0, .l 1, .t, .i, .l 1, .a 0 [3, 3, 3, 3, 3, 3, 3, 3, 3], .l 9, .l 9, .i, .l 11, .l 11, .l 11, .l 11, .l 0, .t, .t, .t, .i, .l 0, .t, .t, .t, .l 0, .l 0, .t, .l 1, .i, .l 11, .i, .l 11, .i, .l 11, .l 11, .i, .l 11, .l 11, .l 11, .l 9, .l 9, .i, .l 9, .l 9, .c 1 [11, 9, 9, 0, 0, 0, 0, 0, 0, 0, 0, 0], .l 1, .i, .l 1, .l 1, .l 0, .l 2] (fun tk P => ⟨fun i => match i with | 0 => ((P 4).s.n 0) | 1 => ((P 4).s.n 1) | _ => 0, fun _ => 0, fun _ => ⟨#[]⟩, fun _ => []⟩) (fun tk P => []) [4, 4, 4, 4, 4, 4, 4, 4, 4, 4] (fun _ _ _ => trivial) (fun tk P => by exact Bool.casesOn b₁ (by kernel_rfl!) (by kernel_rfl!))
  | 1, W =>
    obtain ⟨w0, w1, w2, rfl⟩ := W
    have c1 : ∀ cd l, Meets (mkV U b₁ b₂) (C_rc (mkV U b₁ b₂) text t σ p (Nat.succ p) ⟨#[34]⟩ cd l) := C_rc_ok (c := 34) G (.inr ⟨by decide, rfl⟩) (Cut.of_some w0 h2)
    have ih := quot_meets G text t σ d (p + 1 + d) h2 hd w2 d 0 (Nat.succ p) (by omega) (by omega) w1
    generalize p + 1 + d = r at ih
    have C : CsOk (mkV U b₁ b₂) [C_rc (mkV U b₁ b₂) text t σ p (Nat.succ p) ⟨#[34]⟩, C_quot (mkV U b₁ b₂) text t σ 0 d (Nat.succ p) r] := ⟨c1, C_quot_ok ih, trivial⟩
    exact meets_of G C 211 [.t, .t, .l 0, .l 0, .e none 0 [] ⟨#[95, 110, 101, 116, 114, 99, 108, 101, 120, 46, 103, 101, 116, 95, 116, 111, 107, 101, 110, 46, 60, 108, 111, 99, 97, 108, 115, 62, 46]⟩, .l 0, .l 1, .t, .t, .t, .i, .l 1, .t, .t, .t, .l 1, .l 1, .t, .l 2, .l 10, .l 10, .i, .l 10, .i, .l 10, .l 10, .l 0, .l 0, .t, .t, .l 0, .l 1, .t, .t, .t, .i, .l 1, .t, .t, .t, .t, .t, .t, .l 1, .l 1, .t, .l 2, .t, .t, .t, .i, .t, .i, .l 0, .l 2, .l 2, .l 2, .l 0, .l 0, .i, .l 0, .l 0, .i, .l 0, .i, .l 0, .l 0, .l 0, .l 1, .t, .i, .l 1, .a 0 [3, 3, 3, 3, 3, 3, 3, 3, 3], .l 9, .l 9, .i, .l 11, .l 11, .l 11, .l 11, .l 0, .t, .t, .t, .i, .l 0, .t, .t, .t, .l 0, .l 0, .t, .l 1, .i, .l 11, .i, .l 11, .l 9, .l 9, .i, .l 9, .l 9, .c 1 [11, 9, 9, 0, 0, 0, 0, 0, 0, 0, 0, 0]] (fun tk P => ⟨fun i => match i with | 0 => ((P 4).s.n 0) | 1 => ((P 4).s.n 1) | _ => 0, fun _ => 0, fun _ => ⟨#[]⟩, fun _ => []⟩) (fun tk P => []) [0, 0, 0, 0, 0, 0, 0, 0, 0, 0] (fun _ _ _ => trivial) (fun tk P => by exact Bool.casesOn b₁ (by kernel_rfl!) (by kernel_rfl!))
  | k + 2, W =>
    obtain ⟨w0, w1, w2, rfl⟩ := W
    have d0 := w1 0 (by omega)
    rw [Nat.add_zero] at d0
    have c1 : ∀ cd l, Meets (mkV U b₁ b₂) (C_rc (mkV U b₁ b₂) text t σ p (Nat.succ p) ⟨#[92]⟩ cd l) := C_rc_ok (c := 92) G (.inr ⟨by decide, rfl⟩) (Cut.of_some w0 h2)
    have c2 : ∀ cd l, Meets (mkV U b₁ b₂) (C_rc (mkV U b₁ b₂) text t σ (Nat.succ p) (Nat.succ (Nat.succ p)) ⟨#[46]⟩ cd l) := C_rc_ok (c := 46) G (.inr ⟨by decide, rfl⟩) (Cut.of_some d0 h2)
    have ih := bare_meets G N text t σ d (p + 1 + d) fin h2 hd w2 (d - 1) (Nat.succ 0) (Nat.succ (Nat.succ p)) (by omega) (by omega) (by omega) (fun i hi => by have := w1 (i + 1) (by omega); rwa [show Nat.succ (Nat.succ p) + i = p + 1 + (i + 1) from by omega])
    generalize p + 1 + d = r at ih
    have C : CsOk (mkV U b₁ b₂) [C_rc (mkV U b₁ b₂) text t σ p (Nat.succ p) ⟨#[92]⟩, C_rc (mkV U b₁ b₂) text t σ (Nat.succ p) (Nat.succ (Nat.succ p)) ⟨#[46]⟩, C_bare (mkV U b₁ b₂) text t σ (Nat.succ 0) d (Nat.succ (Nat.succ p)) r fin] := ⟨c1, c2, C_bare_ok ih, trivial⟩
    cases fin with
    | true => exact meets_of G C 270 [.t, .t, .l 0, .l 0, .e none 0 [] ⟨#[95, 110, 101, 116, 114, 99, 108, 101, 120, 46, 103, 101, 116, 95, 116, 111, 107, 101, 110, 46, 60, 108, 111, 99, 97, 108, 115, 62, 46]⟩, .l 0, .l 1, .t, .t, .t, .i, .l 1, .t, .t, .t, .l 1, .l 1, .t, .l 2, .l 10, .l 10, .i, .l 10, .i, .l 10, .l 10, .l 0, .l 0, .t, .t, .l 0, .l 1, .t, .t, .t, .i, .l 1, .t, .t, .t, .t, .t, .t, .l 1, .l 1, .t, .l 2, .t, .t, .t, .i, .t, .i, .l 0, .l 2, .l 2, .l 2, .l 0, .l 0, .i, .l 0, .l 0, .i, .l 0, .i, .l 0, .l 0, .l 0, .l 1, .t, .i, .l 1, .a 0 [3, 3, 3, 3, 3, 3, 3, 3, 3], .l 9, .l 9, .i, .l 11, .l 11, .l 11, .l 11, .l 0, .t, .t, .t, .i, .l 0, .t, .t, .t, .l 0, .l 0, .t, .l 1, .i, .l 11, .i, .l 11, .i, .l 11, .l 0, .t, .t, .t, .l 0, .t, .t, .t, .l 0, .t, .t, .t, .t, .l 0, .l 1, .t, .c 1 [0, 0, 0, 0, 0, 0, 0, 0, 0], .l 11, .l 11, .l 11, .l 11, .i, .l 11, .l 11, .l 11, .l 9, .l 9, .i, .l 9, .l 9, .c 2 [11, 9, 9, 0, 0, 0, 0, 0, 0, 0, 0, 0]] (fun tk P => ⟨fun i => match i with | 0 => ((P 5).s.n 0) | 1 => ((P 5).s.n 1) | _ => 0, fun _ => 0, fun _ => ⟨#[]⟩, fun _ => []⟩) (fun tk P => []) [0, 0, 0, 0, 0, 0, 0, 0, 0, 0] (fun _ _ _ => trivial) (fun tk P => by exact Bool.casesOn b₁ (by kernel_rfl!) (by kernel_rfl!))
    | false => exact meets_of G C 291 [.t, .t, .l 0, .l 0, .e none 0 [] ⟨#[95, 110, 101, 116, 114, 99, 108, 101, 120, 46, 103, 101, 116, 95, 116, 111, 107, 101, 110, 46, 60, 108, 111, 99, 97, 108, 115, 62, 46]⟩, .l 0, .l 1, .t, .t, .t, .i, .l 1, .t, .t, .t, .l 1, .l 1, .t, .l 2, .l 10, .l 10, .i, .l 10, .i, .l 10, .l 10, .l 0, .l 0, .t, .t, .l 0, .l 1, .t, .t, .t, .i, .l 1, .t, .t, .t, .t, .t, .t, .l 1, .l 1, .t, .l 2, .t, .t, .t, .i, .t, .i, .l 0, .l 2, .l 2, .l 2, .l 0, .l 0, .i, .l 0, .l 0, .i, .l 0, .i, .l 0, .l 0, .l 0, .l 1, .t, .i, .l 1, .a 0 [3, 3, 3, 3, 3, 3, 3, 3, 3], .l 9, .l 9, .i, .l 11, .l 11, .l 11, .l 11, .l 0, .t, .t, .t, .i, .l 0, .t, .t, .t, .l 0, .l 0, .t, .l 1, .i, .l 11, .i, .l 11, .i, .l 11, .l 0, .t, .t, .t, .l 0, .t, .t, .t, .l 0, .t, .t, .t, .t, .l 0, .l 1, .t, .c 1 [0, 0, 0, 0, 0, 0, 0, 0, 0], .l 11, .l 11, .l 11, .l 11, .i, .l 11, .l 11, .l 11, .l 9, .l 9, .i, .l 9, .l 9, .c 2 [11, 9, 9, 0, 0, 0, 0, 0, 0, 0, 0, 0], .l 1, .i, .l 1, .l 1, .l 0, .l 2] (fun tk P => ⟨fun i => match i with | 0 => ((P 5).s.n 0) | 1 => ((P 5).s.n 1) | _ => 0, fun _ => 0, fun _ => ⟨#[]⟩, fun _ => []⟩) (fun tk P => []) [4, 4, 4, 4, 4, 4, 4, 4, 4, 4] (fun _ _ _ => trivial) (fun tk P => by exact Bool.casesOn b₁ (by kernel_rfl!) (by kernel_rfl!))
theorem tok_meets_lead (N : NextE (mkV U b₁ b₂)) (text : Str) (t : Nat) (σ : Sup) (k d p q tp e : Nat) (fin : Bool) (h2 : 2 ≤ text.length) (h1 : 1 ≤ d) (hd : d < 1000) (hl : text.cps[p]? = some 32) (W : Word text (p + 1) d q k fin) :
    Meets (mkV U b₁ b₂) (S_tok (mkV U b₁ b₂) text t σ d p q tp e) := by
  have c0 : ∀ cd l, Meets (mkV U b₁ b₂) (C_rc (mkV U b₁ b₂) text t σ p (Nat.succ p) ⟨#[32]⟩ cd l) := C_rc_ok (c := 32) G (.inr ⟨by decide, rfl⟩) (Cut.of_some hl h2)
  match k, W with
  | 0, W =>
    obtain ⟨w1, w2, rfl⟩ := W
    have d0 := w1 0 (by omega)
    rw [Nat.add_zero] at d0
    have c1 : ∀ cd l, Meets (mkV U b₁ b₂) (C_rc (mkV U b₁ b₂) text t σ (Nat.succ p) (Nat.succ (Nat.succ p)) ⟨#[46]⟩ cd l) := C_rc_ok (c := 46) G (.inr ⟨by decide, rfl⟩) (Cut.of_some d0 h2)
    have ih := bare_meets G N text t σ d (p + 1 + d) fin h2 hd w2 (d - 1) (Nat.succ 0) (Nat.succ (Nat.succ p)) (by omega) (by omega) (by omega) (fun i hi => by have := w1 (i + 1) (by omega); rwa [Nat.succ_add, ← Nat.add_succ])
    generalize p + 1 + d = r at ih
    have C : CsOk (mkV U b₁ b₂) [C_rc (mkV U b₁ b₂) text t σ p (Nat.succ p) ⟨#[32]⟩, C_rc (mkV U b₁ b₂) text t σ (Nat.succ p) (Nat.succ (Nat.succ p)) ⟨#[46]⟩, C_bare (mkV U b₁ b₂) text t σ (Nat.succ 0) d (Nat.succ (Nat.succ p)) r fin] := ⟨c0, c1, C_bare_ok ih, trivial⟩
    cases fin with
    | true => exact meets_of G C 293 [.t, .t, .l 0, .l 0, .e none 0 [] ⟨#[95, 110, 101, 116, 114, 99, 108, 101, 120, 46, 103, 101, 116, 95, 116, 111, 107, 101, 110, 46, 60, 108, 111, 99, 97, 108, 115, 62, 46]⟩, .l 0, .l 1, .t, .t, .t, .i, .l 1, .t, .t, .t, .l 1, .l 1, .t, .l 2, .l 10, .l 10, .i, .l 10, .i, .l 10, .l 10, .l 0, .l 0, .t, .t, .l 0, .l 1, .t, .t, .t, .i, .l 1, .t, .t, .t, .t, .t, .t, .l 1, .l 1, .t, .l 2, .t, .t, .t, .i, .t, .i, .l 0, .l 2, .l 2, .l 2, .l 0, .l 0, .i, .l 0, .l 0, .i, .l 0, .i, .l 0, .l 0, .l 0, .l 1, .t, .i, .l 1, .a 0 [3, 3, 3, 3, 3, 3, 3, 3, 3], .l 9, .l 9, .i, .l 11, .l 11, .l 11, .l 11, .l 0, .t, .t, .t, .i, .l 0, .t, .t, .t, .l 0, .l 0, .t, .l 1, .i, .l 9, .i, .l 9, .l 9, .l 9, .l 10, .t, .i, .l 10, .a 1 [0, 0, 0, 0, 0, 0, 0, 0, 0], .l 9, .l 9, .i, .l 11, .l 11, .l 11, .l 11, .l 0, .t, .t, .t, .i, .l 0, .t, .t, .t, .l 0, .l 0, .t, .l 1, .i, .l 11, .i, .l 11, .i, .l 11, .l 11, .i, .l 11, .l 11, .l 11, .l 9, .l 9, .i, .l 9, .l 9, .c 2 [11, 9, 9, 0, 0, 0, 0, 0, 0, 0, 0, 0]] (fun tk P => ⟨fun i => match i with | 0 => ((P 5).s.n 0) | 1 => ((P 5).s.n 1) | _ => 0, fun _ => 0, fun _ => ⟨#[]⟩, fun _ => []⟩) (fun tk P => []) [0, 0, 0, 0, 0, 0, 0, 0, 0, 0] (fun _ _ _ => trivial) (fun tk P => by exact Bool.casesOn b₁ (by kernel_rfl!) (by kernel_rfl!))
    | false => exact meets_of G C 314 [.t, .t, .l 0, .l 0, .e none 0 [] ⟨#[95, 110, 101, 116, 114, 99, 108, 101, 120, 46, 103, 101, 116, 95, 116, 111, 107, 101, 110, 46, 60, 108, 111, 99, 97, 108, 115, 62, 46]⟩, .l 0, .l 1, .t, .t, .t, .i, .l 1, .t, .t, .t, .l 1, .l 1, .t, .l 2, .l 10, .l 10, .i, .l 10, .i, .l 10, .l 10, .l 0, .l 0, .t, .t, .l 0, .l 1, .t, .t, .t, .i, .l 1, .t, .t, .t, .t, .t, .t, .l 1, .l 1, .t, .l 2, .t, .t, .t, .i, .t, .i, .l 0, .l 2, .l 2, .l 2, .l 0, .l 0, .i, .l 0, .l 0, .i, .l 0, .i, .l 0, .l 0, .l 0, .l 1, .t, .i, .l 1, .a 0 [3, 3, 3, 3, 3, 3, 3, 3, 3], .l 9, .l 9, .i, .l 11, .l 11, .l 11, .l 11, .l 0, .t, .t, .t, .i, .l 0, .t, .t, .t, .l 0, .l 0, .t, .l 1, .i, .l 9, .i, .l 9, .l 9, .l 9, .l 10, .t, .i, .l 10, .a 1 [0, 0, 0, 0, 0, 0, 0, 0, 0], .l 9, .l 9, .i, .l 11, .l 11, .l 11, .l 11, .l 0, .t, .t, .t, .i, .l 0, .t, .t, .t, .l 0, .l 0, .t, .l 1, .i, .l 11, .i, .l 11, .i, .l 11, .l 11, .i, .l 11, .l 11, .l 11, .l 9, .l 9, .i, .l 9, .l 9, .c 2 [11, 9, 9, 0, 0, 0, 0, 0, 0, 0, 0, 0], .l 1, .i, .l 1, .l 1, .l 0, .l 2] (fun tk P => ⟨fun i => match i with | 0 => ((P 5).s.n 0) | 1 => ((P 5).s.n 1) | _ => 0, fun _ => 0, fun _ => ⟨#[]⟩, fun _ => []⟩) (fun tk P => []) [4, 4, 4, 4, 4, 4, 4, 4, 4, 4] (fun _ _ _ => trivial) (fun tk P => by exact Bool.casesOn b₁ (by kernel_rfl!) (by kernel_rfl!))
  | 1, W =>
    obtain ⟨w0, w1, w2, rfl⟩ := W
    have c1 : ∀ cd l, Meets (mkV U b₁ b₂) (C_rc (mkV U b₁ b₂) text t σ (Nat.succ p) (Nat.succ (Nat.succ p)) ⟨#[34]⟩ cd l) := C_rc_ok (c := 34) G (.inr ⟨by decide, rfl⟩) (Cut.of_some w0 h2)
    have ih := quot_meets G text t σ d (p + 1 + 1 + d) h2 hd w2 d 0 (Nat.succ (Nat.succ p)) (by omega) (by omega) w1
    generalize p + 1 + 1 + d = r at ih
    have C : CsOk (mkV U b₁ b₂) [C_rc (mkV U b₁ b₂) text t σ p (Nat.succ p) ⟨#[32]⟩, C_rc (mkV U b₁ b₂) text t σ (Nat.succ p) (Nat.succ (Nat.succ p)) ⟨#[34]⟩, C_quot (mkV U b₁ b₂) text t σ 0 d (Nat.succ (Nat.succ p)) r] := ⟨c0, c1, C_quot_ok ih, trivial⟩
    exact meets_of G C 267 [.t, .t, .l 0, .l 0, .e none 0 [] ⟨#[95, 110, 101, 116, 114, 99, 108, 101, 120, 46, 103, 101, 116, 95, 116, 111, 107, 101, 110, 46, 60, 108, 111, 99, 97, 108, 115, 62, 46]⟩, .l 0, .l 1, .t, .t, .t, .i, .l 1, .t, .t, .t, .l 1, .l 1, .t, .l 2, .l 10, .l 10, .i, .l 10, .i, .l 10, .l 10, .l 0, .l 0, .t, .t, .l 0, .l 1, .t, .t, .t, .i, .l 1, .t, .t, .t, .t, .t, .t, .l 1, .l 1, .t, .l 2, .t, .t, .t, .i, .t, .i, .l 0, .l 2, .l 2, .l 2, .l 0, .l 0, .i, .l 0, .l 0, .i, .l 0, .i, .l 0, .l 0, .l 0, .l 1, .t, .i, .l 1, .a 0 [3, 3, 3, 3, 3, 3, 3, 3, 3], .l 9, .l 9, .i, .l 11, .l 11, .l 11, .l 11, .l 0, .t, .t, .t, .i, .l 0, .t, .t, .t, .l 0, .l 0, .t, .l 1, .i, .l 9, .i, .l 9, .l 9, .l 9, .l 10, .t, .i, .l 10, .a 1 [0, 0, 0, 0, 0, 0, 0, 0, 0], .l 9, .l 9, .i, .l 11, .l 11, .l 11, .l 11, .l 0, .t, .t, .t, .i, .l 0, .t, .t, .t, .l 0, .l 0, .t, .l 1, .i, .l 11, .i, .l 11, .l 9, .l 9, .i, .l 9, .l 9, .c 2 [11, 9, 9, 0, 0, 0, 0, 0, 0, 0, 0, 0]] (fun tk P => ⟨fun i => match i with | 0 => ((P 5).s.n 0) | 1 => ((P 5).s.n 1) | _ => 0, fun _ => 0, fun _ => ⟨#[]⟩, fun _ => []⟩) (fun tk P => []) [0, 0, 0, 0, 0, 0, 0, 0, 0, 0] (fun _ _ _ => trivial) (fun tk P => by exact Bool.casesOn b₁ (by kernel_rfl!) (by kernel_rfl!))
  | k + 2, W =>
    obtain ⟨w0, w1, w2, rfl⟩ := W
    have d0 := w1 0 (by omega)
    rw [Nat.add_zero] at d0
    have c1 : ∀ cd l, Meets (mkV U b₁ b₂) (C_rc (mkV U b₁ b₂) text t σ (Nat.succ p) (Nat.succ (Nat.succ p)) ⟨#[92]⟩ cd l) := C_rc_ok (c := 92) G (.inr ⟨by decide, rfl⟩) (Cut.of_some w0 h2)
    have c2 : ∀ cd l, Meets (mkV U b₁ b₂) (C_rc (mkV U b₁ b₂) text t σ (Nat.succ (Nat.succ p)) (Nat.succ (Nat.succ (Nat.succ p))) ⟨#[46]⟩ cd l) := C_rc_ok (c := 46) G (.inr ⟨by decide, rfl⟩) (Cut.of_some d0 h2)
    have ih := bare_meets G N text t σ d (p + 1 + 1 + d) fin h2 hd w2 (d - 1) (Nat.succ 0) (Nat.succ (Nat.succ (Nat.succ p))) (by omega) (by omega) (by omega) (fun i hi => by have := w1 (i + 1) (by omega); rwa [show Nat.succ (Nat.succ (Nat.succ p)) + i = p + 1 + 1 + (i + 1) from by omega])
    generalize p + 1 + 1 + d = r at ih
    have C : CsOk (mkV U b₁ b₂) [C_rc (mkV U b₁ b₂) text t σ p (Nat.succ p) ⟨#[32]⟩, C_rc (mkV U b₁ b₂) text t σ (Nat.succ p) (Nat.succ (Nat.succ p)) ⟨#[92]⟩, C_rc (mkV U b₁ b₂) text t σ (Nat.succ (Nat.succ p)) (Nat.succ (Nat.succ (Nat.succ p))) ⟨#[46]⟩, C_bare (mkV U b₁ b₂) text t σ (Nat.succ 0) d (Nat.succ (Nat.succ (Nat.succ p))) r fin] := ⟨c0, c1, c2, C_bare_ok ih, trivial⟩
    cases fin with
    | true => exact meets_of G C 326 [.t, .t, .l 0, .l 0, .e none 0 [] ⟨#[95, 110, 101, 116, 114, 99, 108, 101, 120, 46, 103, 101, 116, 95, 116, 111, 107, 101, 110, 46, 60, 108, 111, 99, 97, 108, 115, 62, 46]⟩, .l 0, .l 1, .t, .t, .t, .i, .l 1, .t, .t, .t, .l 1, .l 1, .t, .l 2, .l 10, .l 10, .i, .l 10, .i, .l 10, .l 10, .l 0, .l 0, .t, .t, .l 0, .l 1, .t, .t, .t, .i, .l 1, .t, .t, .t, .t, .t, .t, .l 1, .l 1, .t, .l 2, .t, .t, .t, .i, .t, .i, .l 0, .l 2, .l 2, .l 2, .l 0, .l 0, .i, .l 0, .l 0, .i, .l 0, .i, .l 0, .l 0, .l 0, .l 1, .t, .i, .l 1, .a 0 [3, 3, 3, 3, 3, 3, 3, 3, 3], .l 9, .l 9, .i, .l 11, .l 11, .l 11, .l 11, .l 0, .t, .t, .t, .i, .l 0, .t, .t, .t, .l 0, .l 0, .t, .l 1, .i, .l 9, .i, .l 9, .l 9, .l 9, .l 10, .t, .i, .l 10, .a 1 [0, 0, 0, 0, 0, 0, 0, 0, 0], .l 9, .l 9, .i, .l 11, .l 11, .l 11, .l 11, .l 0, .t, .t, .t, .i, .l 0, .t, .t, .t, .l 0, .l 0, .t, .l 1, .i, .l 11, .i, .l 11, .i, .l 11, .l 0, .t, .t, .t, .l 0, .t, .t, .t, .l 0, .t, .t, .t, .t, .l 0, .l 1, .t, .c 2 [0, 0, 0, 0, 0, 0, 0, 0, 0], .l 11, .l 11, .l 11, .l 11, .i, .l 11, .l 11, .l 11, .l 9, .l 9, .i, .l 9, .l 9, .c 3 [11, 9, 9, 0, 0, 0, 0, 0, 0, 0, 0, 0]] (fun tk P => ⟨fun i => match i with | 0 => ((P 6).s.n 0) | 1 => ((P 6).s.n 1) | _ => 0, fun _ => 0, fun _ => ⟨#[]⟩, fun _ => []⟩) (fun tk P => []) [0, 0, 0, 0, 0, 0, 0, 0, 0, 0] (fun _ _ _ => trivial) (fun tk P => by exact Bool.casesOn b₁ (by kernel_rfl!) (by kernel_rfl!))
    | false => exact meets_of G C 347 [.t, .t, .l 0, .l 0, .e none 0 [] ⟨#[95, 110, 101, 116, 114, 99, 108, 101, 120, 46, 103, 101, 116, 95, 116, 111, 107, 101, 110, 46, 60, 108, 111, 99, 97, 108, 115, 62, 46]⟩, .l 0, .l 1, .t, .t, .t, .i, .l 1, .t, .t, .t, .l 1, .l 1, .t, .l 2, .l 10, .l 10, .i, .l 10, .i, .l 10, .l 10, .l 0, .l 0, .t, .t, .l 0, .l 1, .t, .t, .t, .i, .l 1, .t, .t, .t, .t, .t, .t, .l 1, .l 1, .t, .l 2, .t, .t, .t, .i, .t, .i, .l 0, .l 2, .l 2, .l 2, .l 0, .l 0, .i, .l 0, .l 0, .i, .l 0, .i, .l 0, .l 0, .l 0, .l 1, .t, .i, .l 1, .a 0 [3, 3, 3, 3, 3, 3, 3, 3, 3], .l 9, .l 9, .i, .l 11, .l 11, .l 11, .l 11, .l 0, .t, .t, .t, .i, .l 0, .t, .t, .t, .l 0, .l 0, .t, .l 1, .i, .l 9, .i, .l 9, .l 9, .l 9, .l 10, .t, .i, .l 10, .a 1 [0, 0, 0, 0, 0, 0, 0, 0, 0], .l 9, .l 9, .i, .l 11, .l 11, .l 11, .l 11, .l 0, .t, .t, .t, .i, .l 0, .t, .t, .t, .l 0, .l 0, .t, .l 1, .i, .l 11, .i, .l 11, .i, .l 11, .l 0, .t, .t, .t, .l 0, .t, .t, .t, .l 0, .t, .t, .t, .t, .l 0, .l 1, .t, .c 2 [0, 0, 0, 0, 0, 0, 0, 0, 0], .l 11, .l 11, .l 11, .l 11, .i, .l 11, .l 11, .l 11, .l 9, .l 9, .i, .l 9, .l 9, .c 3 [11, 9, 9, 0, 0, 0, 0, 0, 0, 0, 0, 0], .l 1, .i, .l 1, .l 1, .l 0, .l 2] (fun tk P => ⟨fun i => match i with | 0 => ((P 6).s.n 0) | 1 => ((P 6).s.n 1) | _ => 0, fun _ => 0, fun _ => ⟨#[]⟩, fun _ => []⟩) (fun tk P => []) [4, 4, 4, 4, 4, 4, 4, 4, 4, 4] (fun _ _ _ => trivial) (fun tk P => by exact Bool.casesOn b₁ (by kernel_rfl!) (by kernel_rfl!))
end
end Mine
end
section
set_option maxRecDepth 100000
namespace Mine
open PySem PySem.W PySem.W.X PyProof.Rows
/-- the lexer's push-back list -/
noncomputable def pushL (V : VV) (text : Str) (t : Nat) (σ : Sup) (vs : List Value) (e : Nat) : Ldg :=
  let m := mL V text t σ
  [(σ.n 21, objAt 2 m), (σ.n 20, objAt 3 m), (σ.n 23, listO ⟨vs⟩ e)]
noncomputable def S_pop (V : VV) (text : Str) (t : Nat) (σ : Sup) (w : Str) (tw : Nat) (rest : List Value) (e : Nat) : Spec where
  need := true
  d := 8
  code := .call (.ref 108) ⟨[.ref (σ.n 21)], []⟩
  pre := pushL V text t σ (.str w tw :: rest) e
  hasFact := false
  fact := fun _ => True
  res := fun _ => .ok (.ret (.str w tw))
  post := fun _ => pushL V text t σ rest (e + 1)
noncomputable def S_push (V : VV) (text : Str) (t : Nat) (σ : Sup) (w : Str) (tw : Nat) (vs : List Value) (e : Nat) : Spec where
  need := true
  d := 8
  code := .call (.ref 115) ⟨[.ref (σ.n 21), .str w tw], []⟩
  pre := pushL V text t σ vs e
  hasFact := false
  fact := fun _ => True
  res := fun _ => .ok (.ret .none)
  post := fun _ => pushL V text t σ (vs ++ [.str w tw]) (e + 1)
noncomputable def C_pop (V : VV) (text : Str) (t : Nat) (σ : Sup) : Code → Ldg → Spec := fun c l => oS c (match c with
  | .call (.ref _) ⟨[.ref _], []⟩ => match l with
    | [_, _, (_, ⟨_, _, .seq ⟨.str w tw :: rest⟩ e, _⟩)] => some (w, tw, rest, e)
    | _ => none
  | _ => none) fun (w, tw, rest, e) =>
    S_pop V text t σ w tw rest e
noncomputable def C_push (V : VV) (text : Str) (t : Nat) (σ : Sup) : Code → Ldg → Spec := fun c l => oS c (match c with
  | .call (.ref _) ⟨[.ref _, .str w tw], []⟩ => match l with
    | [_, _, (_, ⟨_, _, .seq ⟨vs⟩ e, _⟩)] => some (w, tw, vs, e)
    | _ => none
  | _ => none) fun (w, tw, vs, e) =>
    S_push V text t σ w tw vs e
end Mine
end
section
set_option maxRecDepth 100000
set_option maxHeartbeats 0
namespace Mine
open PySem PySem.W PySem.W.X PyProof.Rows
section
variable {U : Un} {b₁ b₂ : Bool} (G : Good (mkV U b₁ b₂))
include G
theorem pop_meets (text : Str) (t : Nat) (σ : Sup) (w : Str) (tw e : Nat) : ∀ rest : List Value, rest.length ≤ 3 → Meets (mkV U b₁ b₂) (S_pop (mkV U b₁ b₂) text t σ w tw rest e)
  | [], _ => by exact meets_of G (cs := []) trivial 93 [.t, .t, .l 0, .l 0, .e none 0 [] ⟨#[95, 110, 101, 116, 114, 99, 108, 101, 120, 46, 103, 101, 116, 95, 116, 111, 107, 101, 110, 46, 60, 108, 111, 99, 97, 108, 115, 62, 46]⟩, .l 0, .l 1, .t, .t, .t, .i, .l 1, .t, .t, .t, .l 1, .l 1, .t, .l 2, .l 3, .l 3, .i, .l 3, .i, .l 3, .l 3, .l 0, .l 1, .t, .t, .t, .i, .l 1, .t, .t, .t, .l 1, .l 1, .t, .l 2, .l 3, .l 3, .l 3, .l 3, .i, .l 3, .l 3, .l 3, .l 3, .l 3] (fun tk P => ⟨fun _ => 0, fun _ => 0, fun _ => ⟨#[]⟩, fun _ => []⟩) (fun tk P => []) [1, 1, 1] (fun _ _ _ => trivial) (fun tk P => by exact Bool.casesOn b₁ (by kernel_rfl!) (by kernel_rfl!))
  | [a], _ => by exact meets_of G (cs := []) trivial 93 [.t, .t, .l 0, .l 0, .e none 0 [] ⟨#[95, 110, 101, 116, 114, 99, 108, 101, 120, 46, 103, 101, 116, 95, 116, 111, 107, 101, 110, 46, 60, 108, 111, 99, 97, 108, 115, 62, 46]⟩, .l 0, .l 1, .t, .t, .t, .i, .l 1, .t, .t, .t, .l 1, .l 1, .t, .l 2, .l 3, .l 3, .i, .l 3, .i, .l 3, .l 3, .l 0, .l 1, .t, .t, .t, .i, .l 1, .t, .t, .t, .l 1, .l 1, .t, .l 2, .l 3, .l 3, .l 3, .l 3, .i, .l 3, .l 3, .l 3, .l 3, .l 3] (fun tk P => ⟨fun _ => 0, fun _ => 0, fun _ => ⟨#[]⟩, fun _ => []⟩) (fun tk P => []) [1, 1, 1] (fun _ _ _ => trivial) (fun tk P => by exact Bool.casesOn b₁ (by kernel_rfl!) (by kernel_rfl!))
  | [a, b], _ => by exact meets_of G (cs := []) trivial 93 [.t, .t, .l 0, .l 0, .e none 0 [] ⟨#[95, 110, 101, 116, 114, 99, 108, 101, 120, 46, 103, 101, 116, 95, 116, 111, 107, 101, 110, 46, 60, 108, 111, 99, 97, 108, 115, 62, 46]⟩, .l 0, .l 1, .t, .t, .t, .i, .l 1, .t, .t, .t, .l 1, .l 1, .t, .l 2, .l 3, .l 3, .i, .l 3, .i, .l 3, .l 3, .l 0, .l 1, .t, .t, .t, .i, .l 1, .t, .t, .t, .l 1, .l 1, .t, .l 2, .l 3, .l 3, .l 3, .l 3, .i, .l 3, .l 3, .l 3, .l 3, .l 3] (fun tk P => ⟨fun _ => 0, fun _ => 0, fun _ => ⟨#[]⟩, fun _ => []⟩) (fun tk P => []) [1, 1, 1] (fun _ _ _ => trivial) (fun tk P => by exact Bool.casesOn b₁ (by kernel_rfl!) (by kernel_rfl!))
  | [a, b, c], _ => by exact meets_of G (cs := []) trivial 93 [.t, .t, .l 0, .l 0, .e none 0 [] ⟨#[95, 110, 101, 116, 114, 99, 108, 101, 120, 46, 103, 101, 116, 95, 116, 111, 107, 101, 110, 46, 60, 108, 111, 99, 97, 108, 115, 62, 46]⟩, .l 0, .l 1, .t, .t, .t, .i, .l 1, .t, .t, .t, .l 1, .l 1, .t, .l 2, .l 3, .l 3, .i, .l 3, .i, .l 3, .l 3, .l 0, .l 1, .t, .t, .t, .i, .l 1, .t, .t, .t, .l 1, .l 1, .t, .l 2, .l 3, .l 3, .l 3, .l 3, .i, .l 3, .l 3, .l 3, .l 3, .l 3] (fun tk P => ⟨fun _ => 0, fun _ => 0, fun _ => ⟨#[]⟩, fun _ => []⟩) (fun tk P => []) [1, 1, 1] (fun _ _ _ => trivial) (fun tk P => by exact Bool.casesOn b₁ (by kernel_rfl!) (by kernel_rfl!))
  | _ :: _ :: _ :: _ :: _, h => absurd h (by simp)
theorem push_meets (text : Str) (t : Nat) (σ : Sup) (w : Str) (tw e : Nat) : ∀ vs : List Value, vs.length ≤ 3 → Meets (mkV U b₁ b₂) (S_push (mkV U b₁ b₂) text t σ w tw vs e)
  | [], _ => by exact meets_of G (cs := []) trivial 63 [.t, .t, .l 0, .l 0, .l 0, .l 0, .e none 0 [] ⟨#[95, 110, 101, 116, 114, 99, 108, 101, 120, 46, 112, 117, 115, 104, 95, 116, 111, 107, 101, 110, 46, 60, 108, 111, 99, 97, 108, 115, 62, 46]⟩, .l 0, .l 1, .t, .t, .t, .i, .l 1, .t, .t, .t, .l 1, .l 1, .t, .l 2, .l 3, .l 3, .l 3, .l 3, .l 0, .i, .l 3, .l 3, .l 3, .l 3] (fun tk P => ⟨fun _ => 0, fun _ => 0, fun _ => ⟨#[]⟩, fun _ => []⟩) (fun tk P => []) [1, 1, 1] (fun _ _ _ => trivial) (fun tk P => by exact Bool.casesOn b₁ (by kernel_rfl!) (by kernel_rfl!))
  | [a], _ => by exact meets_of G (cs := []) trivial 63 [.t, .t, .l 0, .l 0, .l 0, .l 0, .e none 0 [] ⟨#[95, 110, 101, 116, 114, 99, 108, 101, 120, 46, 112, 117, 115, 104, 95, 116, 111, 107, 101, 110, 46, 60, 108, 111, 99, 97, 108, 115, 62, 46]⟩, .l 0, .l 1, .t, .t, .t, .i, .l 1, .t, .t, .t, .l 1, .l 1, .t, .l 2, .l 3, .l 3, .l 3, .l 3, .l 0, .i, .l 3, .l 3, .l 3, .l 3] (fun tk P => ⟨fun _ => 0, fun _ => 0, fun _ => ⟨#[]⟩, fun _ => []⟩) (fun tk P => []) [1, 1, 1] (fun _ _ _ => trivial) (fun tk P => by exact Bool.casesOn b₁ (by kernel_rfl!) (by kernel_rfl!))
  | [a, b], _ => by exact meets_of G (cs := []) trivial 63 [.t, .t, .l 0, .l 0, .l 0, .l 0, .e none 0 [] ⟨#[95, 110, 101, 116, 114, 99, 108, 101, 120, 46, 112, 117, 115, 104, 95, 116, 111, 107, 101, 110, 46, 60, 108, 111, 99, 97, 108, 115, 62, 46]⟩, .l 0, .l 1, .t, .t, .t, .i, .l 1, .t, .t, .t, .l 1, .l 1, .t, .l 2, .l 3, .l 3, .l 3, .l 3, .l 0, .i, .l 3, .l 3, .l 3, .l 3] (fun tk P => ⟨fun _ => 0, fun _ => 0, fun _ => ⟨#[]⟩, fun _ => []⟩) (fun tk P => []) [1, 1, 1] (fun _ _ _ => trivial) (fun tk P => by exact Bool.casesOn b₁ (by kernel_rfl!) (by kernel_rfl!))
  | [a, b, c], _ => by exact meets_of G (cs := []) trivial 63 [.t, .t, .l 0, .l 0, .l 0, .l 0, .e none 0 [] ⟨#[95, 110, 101, 116, 114, 99, 108, 101, 120, 46, 112, 117, 115, 104, 95, 116, 111, 107, 101, 110, 46, 60, 108, 111, 99, 97, 108, 115, 62, 46]⟩, .l 0, .l 1, .t, .t, .t, .i, .l 1, .t, .t, .t, .l 1, .l 1, .t, .l 2, .l 3, .l 3, .l 3, .l 3, .l 0, .i, .l 3, .l 3, .l 3, .l 3] (fun tk P => ⟨fun _ => 0, fun _ => 0, fun _ => ⟨#[]⟩, fun _ => []⟩) (fun tk P => []) [1, 1, 1] (fun _ _ _ => trivial) (fun tk P => by exact Bool.casesOn b₁ (by kernel_rfl!) (by kernel_rfl!))
  | _ :: _ :: _ :: _ :: _, h => absurd h (by simp)
end
end Mine
end
section
set_option maxRecDepth 100000
namespace Mine
open PySem PySem.W PySem.W.X PyProof.Rows
/-- the slot's call, at the end of the file -/
noncomputable def T_slot (V : VV) (text : Str) (t : Nat) (σ : Sup) (p : Nat) (ia ma ts tp : Nat) : Spec where
  need := true
  d := 8
  code := .block [] default
  pre := (ia, itO ⟨0, ia, ma, fun _ => 0, fun _ => 0⟩ ts false) :: (ma, meO σ) :: lexL V text t σ p tp
  hasFact := false
  fact := fun _ => True
  res := fun σ' => .ok (.ret (.str ⟨#[]⟩ (σ'.n 0)))
  post := fun σ' => (ia, itO ⟨0, ia, ma, fun _ => 0, fun _ => 0⟩ ts false) :: (ma, meO σ) :: lexL V text t σ p (σ'.n 1)
noncomputable def slotZ (f : Value) : Sem Value := PySem.callOutOfASlot f
end Mine
end
section
set_option maxRecDepth 100000
set_option maxHeartbeats 0
namespace Mine
open PySem PySem.W PySem.W.X PyProof.Rows
open Sem (wp)
theorem entry_next : entryFor table "callable_iterator.__next__" = some Builtin.«callable_iterator.__next__» := entryFor_of_tree (by kernel_rfl!)
section
variable {V : VV} {A : Around} {c : Code} {α : Type} {L : Ldg} {tk : Nat} {R : RPost}
theorem go_of {m : Sem α} {f : α → Sem Fin} (x : GoM V A c m (fun v L' tk' => Go V A c (f v) R L' tk') L tk) : Go V A c (m >>= f) R L tk :=
  fun hp D => wpOwn_bind (wpOwn_mono (x hp D) (fun v s ⟨h', tk', L', e, D', q⟩ => by subst e; exact q h' D') (fun _ _ f => f.elim))
theorem go_ifn {p : Prop} [Decidable p] {x y : Sem Fin} (hn : ¬ p) (h : Go V A c y R L tk) : Go V A c (if p then x else y) R L tk := by
  rw [if_neg hn]; exact h
theorem goM_attempt {m : Sem α} {Q : Except Value α → Ldg → Nat → Prop} (x : GoM V A c m (fun v => Q (.ok v)) L tk) : GoM V A c m.attempt Q L tk := fun hp D Γ p hc hΓ => by
  rw [Sem.wp_attempt]
  exact Sem.wp_mono _ Γ _ (fun _ _ _ h => h) (fun _ _ _ h => h.elim) _ _ (x hp D Γ p hc hΓ)
theorem goM_field {a : Addr} {o : Obj} {vs : Array Value} {i : Nat} {x : Value} {Q : Value → Ldg → Nat → Prop} (hm : (a, o) ∈ L) (hd : o.data = .fields vs) (hi : vs[i]? = some x) (q : Q x L tk) : GoM V A c (field (.ref a) i) Q L tk :=
  GoM.of_wpAny fun h D => wpAny_field (D.led _ hm) hd hi ⟨h, tk, L, rfl, D, q⟩
theorem goM_eqBool_str {a b : Str} {t u : Nat} {Q : Bool → Ldg → Nat → Prop} (q : Q (decide (a = b)) L tk) : GoM V A c (eqBool (.str a t) (.str b u)) Q L tk :=
  GoM.of_wpAny fun h D => wpAny_eqBool_str ⟨h, tk, L, rfl, D, q⟩
theorem goM_eqBool_same {a : Str} {t u : Nat} {Q : Bool → Ldg → Nat → Prop} (q : Q true L tk) : GoM V A c (eqBool (.str a t) (.str a u)) Q L tk :=
  goM_eqBool_str (by rw [decide_eq_true (rfl : a = a)]; exact q)
end
/-- a tree by the runner, its end (also a raise) as a Spec says -/
theorem go_run {V : VV} {cs : List (Code → Ldg → Spec)} {A : Around} {c : Code} (tr : Sem Fin) (T : Spec) (G : Good V) (hcs : CsOk V cs) (b : Nat) (hR : Rm A b) (F : Ldg) (tk : Nat)
    (n : Nat) (hs : List Hint) (out : Nat → (Nat → Ev) → Sup) (ex : Nat → (Nat → Ev) → List Prop) (fis : List Nat) (hT : ∀ tk P, (∀ p ∈ ex tk P, p) → T.fact (out tk P))
    (H : ∀ P, sides Eqn.l (run V cs T (out tk) (ex tk) fis P n hs b c [] tr 0 T.pre [] tk) = sides Eqn.r (run V cs T (out tk) (ex tk) fis P n hs b c [] tr 0 T.pre [] tk)) (hq : ∀ t₀ σ t, T.factTO t₀ σ t := by intros; exact trivial) :
    Go V A c tr (postOf T F tk) (T.pre ++ F) tk :=
  run_sound (A₀ := A) (F := F) (t₀ := tk) G hcs (hq tk) (hT tk) n hs b c [] tr 0 T.pre [] tk (fun _ => ev0) (fun P _ => all_of (H P)) (fun _ h => nomatch h) (Nat.le_refl _) hR
noncomputable def T_tail (V : VV) (text : Str) (t : Nat) (σ : Sup) (p ia ma ts tp : Nat) (σ' : Sup) : Spec where
  need := true
  d := 8
  code := .block [] default
  pre := (T_slot V text t σ p ia ma ts tp).post σ'
  hasFact := false
  fact := fun _ => True
  res := fun σ' => .error (.ref (σ'.n 0))
  post := (S_nextE V text t σ p "" ia ma ts tp).post
theorem Go.mono {V : VV} {A : Around} {c : Code} {t : Sem Fin} {R R' : RPost} {L : Ldg} {tk : Nat} (x : Go V A c t R L tk) (m : ∀ r L tk, R r L tk → R' r L tk) : Go V A c t R' L tk :=
  fun h D => wpOwn_mono (x h D) (fun fin s q => by
    cases fin with
    | done f =>
      obtain ⟨h', tk', L', e, D', z⟩ := q
      exact ⟨h', tk', L', e, D', m _ _ _ z⟩
    | again c' => exact ⟨q.1, codeAny_mono q.2 fun r s' hr => by
        obtain ⟨h', tk', L', e, D', z⟩ := hr
        exact ⟨h', tk', L', e, D', m _ _ _ z⟩⟩) (fun e s q => by
      obtain ⟨h', tk', L', e, D', z⟩ := q
      exact ⟨h', tk', L', e, D', m _ _ _ z⟩)
section
variable {U : Un} {b₁ b₂ : Bool} (G : Good (mkV U b₁ b₂))
include G
theorem slot_go (text : Str) (t : Nat) (σ : Sup) (p ia ma ts tp : Nat) (h2 : 2 ≤ text.length) (hp : text.length ≤ p) {A : Around} (hR : Rm A 8) (F : Ldg) (tk : Nat) :
    GoM (mkV U b₁ b₂) A (.builtin "callable_iterator.__next__" ⟨[.ref ia], []⟩) (callOutOfASlot (.ref ma)) (fun v L' tk' => tk ≤ tk' ∧ ∃ σ', (T_slot (mkV U b₁ b₂) text t σ p ia ma ts tp).fact σ' ∧ Except.ok (Flow.ret v) = (T_slot (mkV U b₁ b₂) text t σ p ia ma ts tp).res σ' ∧ L' = (T_slot (mkV U b₁ b₂) text t σ p ia ma ts tp).post σ' ++ F)
      ((T_slot (mkV U b₁ b₂) text t σ p ia ma ts tp).pre ++ F) tk := by
  have C : CsOk (mkV U b₁ b₂) [C_rc (mkV U b₁ b₂) text t σ p p ⟨#[]⟩] := ⟨C_rc_ok (c := 0) G (.inl ⟨rfl, rfl⟩) (Cut.of_end hp h2), trivial⟩
  exact runM (callOutOfASlot (.ref ma)) (PySem.W.ZFast.zw2547987554251169477 (.ref ma) []) (by rw [PySem.W.ZFast.ze2547987554251169477]) .ret (T_slot (mkV U b₁ b₂) text t σ p ia ma ts tp) G C 8 hR F tk (fun _ _ h => nomatch h)
    18 [.l 1, .t, .i, .l 1, .a 0 [2, 2, 2, 2, 2, 2, 2, 2, 2]] (fun tk P => ⟨fun i => match i with | 0 => ((P 0).s.n 0) | 1 => ((P 0).s.n 1) | _ => 0, fun _ => 0, fun _ => ⟨#[]⟩, fun _ => []⟩) (fun tk P => []) [9, 9, 0, 0, 0, 0, 0, 0, 0, 0, 0] (fun _ _ _ => trivial) (fun P => by kernel_rfl!)
theorem nextE : NextE (mkV U b₁ b₂) := by
  intro text t σ p id ia ma ts tp h2 hp hn _ A F tk _ hR
  have e := id_of hn (s := "callable_iterator.__next__") (by decide +kernel)
  subst e
  refine go_code ?_
  show Go _ A _ (match entryFor table "callable_iterator.__next__" with | some b => b ⟨[.ref ia], []⟩ | none => unsupported ((withoutEnding? "callable_iterator.__next__" "#data").getD "callable_iterator.__next__")) _ _ tk
  rw [entry_next]
  show Go _ A _ (Builtin.«callable_iterator.__next__» ⟨[.ref ia], []⟩) _ _ tk
  unfold Builtin.«callable_iterator.__next__»
  refine go_of (m := slotArgs "__next__" 0 _) (goM_pure ?_)
  refine go_of (goM_field (x := .bool false) (List.mem_append_left _ (.head _)) rfl rfl ?_)
  refine go_ifn (show ¬ (Value.bool false == Value.bool true) = true by decide) ?_
  refine go_of (goM_field (x := .ref ma) (List.mem_append_left _ (.head _)) rfl rfl ?_)
  refine go_of (goM_attempt (GoM.mono (slot_go G text t σ p ia ma ts tp h2 hp (Rm.mono hR (Nat.le_of_ble_eq_true rfl)) F tk) ?_))
  rintro v L' tk' ⟨hle, σ', _, hv, rfl⟩
  injection hv with hv
  injection hv with hv
  subst hv
  refine go_of (goM_field (x := .bool false) (List.mem_append_left _ (.head _)) rfl rfl ?_)
  refine go_ifn (show ¬ (Value.bool false == Value.bool true) = true by decide) ?_
  refine go_of (goM_field (x := .str ⟨#[]⟩ ts) (List.mem_append_left _ (.head _)) rfl rfl ?_)
  refine go_of (goM_holding (goM_eqBool_same ?_))
  refine go_ifn (show ¬ (!true) = true from Bool.false_ne_true) ?_
  refine' go_eq ?e ?x
  case e => rw [PySem.W.ZFast.ze7774638238746244234, PySem.W.ZFast.ze17615448654315672387]
  have z := fun tr => go_run tr (T_tail (mkV U b₁ b₂) text t σ p ia ma ts tp σ') G (A := A) (c := .builtin "callable_iterator.__next__" ⟨[.ref ia], []⟩) (cs := []) trivial 8 (Rm.mono hR (Nat.le_of_ble_eq_true rfl)) F tk' 60 [.l 0, .l 1, .t, .l 0, .l 0, .l 0, .l 0, .l 0, .l 0]
    (fun tk P => ⟨fun i => match i with | 0 => ((P 1).s.n 0) | 1 => ((P 0).s.n 0) | 2 => (σ'.n 1) | _ => 0, fun _ => 0, fun _ => ⟨#[]⟩, fun _ => []⟩) (fun tk P => []) [0, 0, 0, 0, 0, 0, 0, 0, 0, 0, 0, 0, 0] (fun _ _ _ => trivial)
  refine Go.mono (z _ ?_) ?_
  · exact fun P => by kernel_rfl!
  · rintro r L tk ⟨hle', σ'', _, _, hr, hL⟩
    exact ⟨Nat.le_trans hle hle', σ'', trivial, trivial, hr, hL⟩
end
end Mine
end
section
set_option maxRecDepth 100000
namespace Mine
open PySem PySem.W PySem.W.X PyProof.Rows
noncomputable def S_mul (d a b : Nat) : Spec := bSpec (.call (.builtin "str.__mul__") ⟨[.str ⟨#[46]⟩ a, .int (Int.ofNat d) b], []⟩) true (fun σ => .str (dotS d) (σ.n 0))
noncomputable def C_mul (d : Nat) : Code → Ldg → Spec := fun c _ => oS c (match c with
  | .call (.builtin id) ⟨[.str _ a, .int _ b], []⟩ => some (id, a, b)
  | _ => none) fun (id, a, b) =>
    bSpec (.call (.builtin id) ⟨[.str ⟨#[46]⟩ a, .int (Int.ofNat d) b], []⟩) (S.eqLit 116512245094328231196325236 id) (fun σ => .str (dotS d) (σ.n 0))
/-- two texts, neither empty -/
noncomputable def C_add2 (X Y : Str) : Code → Ldg → Spec := fun c _ => oS c (match c with
  | .call (.builtin id) ⟨[.str _ a, .str _ b], []⟩ => some (id, a, b)
  | _ => none) fun (id, a, b) =>
    bSpec (.call (.builtin id) ⟨[.str X a, .str Y b], []⟩) (S.eqLit 116512096292018843154609524 id) (fun σ => .str (X ++ Y) (σ.n 0))
/-- a word as it is written -/
noncomputable def wordS (r d : Nat) : Str := match r with
  | 0 => dotS d
  | 1 => (⟨#[34]⟩ ++ dotS d) ++ ⟨#[34]⟩
  | _ => ⟨#[92]⟩ ++ dotS d
noncomputable def kindZ (S : Int) (k : Nat) : Int := Int.fmod (Int.fdiv S ((Int.ofNat 3) ^ k)) (Int.ofNat 3)
noncomputable def flFor (V : VV) : Stmt := nthS (fnBody V 160) 1
/-- '_law_file.<locals>.' -/
noncomputable def qFile : Str := ⟨#[95, 108, 97, 119, 95, 102, 105, 108, 101, 46, 60, 108, 111, 99, 97, 108, 115, 62, 46]⟩
noncomputable def sDots : Str := ⟨#[100, 111, 116, 115]⟩
noncomputable def sSpelled : Str := ⟨#[115, 112, 101, 108, 108, 101, 100]⟩
noncomputable def sWritten : Str := ⟨#[119, 114, 105, 116, 116, 101, 110]⟩
noncomputable def sK : Str := ⟨#[107]⟩
noncomputable def sWord : Str := ⟨#[119, 111, 114, 100]⟩
noncomputable def sKind : Str := ⟨#[107, 105, 110, 100]⟩
/-- what stays in the loop of _law_file: addresses, hashes, tokens -/
structure Fx where
  fa : Addr
  da : Addr
  wa : Addr
  ia : Addr
  S : Int
  ts : Nat
  h : Nat → Int
  k : Nat → Nat
noncomputable def rgO (i n : Nat) : Obj := { cls := .type "range_iterator", data := .fields ⟨[.int (Int.ofNat i) 0, .int (Int.ofNat n) 0, .int (Int.ofNat 1) 0]⟩ }
noncomputable def dotsO (d : Nat → Nat) (tt : Nat → Nat) : Obj := listO #[.int (Int.ofNat (d 0)) (tt 0), .int (Int.ofNat (d 1)) (tt 1), .int (Int.ofNat (d 2)) (tt 2), .int (Int.ofNat (d 3)) (tt 3)] 4
noncomputable def flFr0 (x : Fx) : Obj := frO [⟨x.h 0, .str sDots (x.k 0), .ref x.da⟩, ⟨x.h 1, .str sSpelled (x.k 1), .int x.S x.ts⟩, ⟨x.h 2, .str sWritten (x.k 2), .ref x.wa⟩] 3
noncomputable def flFr (x : Fx) (k tk : Nat) (w : Str) (tw : Nat) (z : Int) (tz : Nat) : Obj := frO [⟨x.h 0, .str sDots (x.k 0), .ref x.da⟩, ⟨x.h 1, .str sSpelled (x.k 1), .int x.S x.ts⟩, ⟨x.h 2, .str sWritten (x.k 2), .ref x.wa⟩,
  ⟨x.h 3, .str sK (x.k 3), .int (Int.ofNat k) tk⟩, ⟨x.h 4, .str sWord (x.k 4), .str w tw⟩, ⟨x.h 5, .str sKind (x.k 5), .int z tz⟩] 6
/-- r, but kd at k -/
noncomputable def atK (k kd : Nat) (r : Nat → Nat) (i : Nat) : Nat := match Nat.beq i k with
  | true => kd
  | false => r i
noncomputable def moreW (r d : Nat → Nat) (σ : Sup) : Nat → List Value
  | 0 => []
  | n + 1 => .str (wordS (r (3 - n)) (d (3 - n))) (σ.n (13 - n)) :: moreW r d σ n
/-- the loop of _law_file from its k-th turn on -/
noncomputable def S_fl (V : VV) (x : Fx) (d tt r : Nat → Nat) (k : Nat) (fr : Obj) (ws : List Value) : Spec where
  need := true
  d := 8
  code := .forLoop (forT (flFor V)) (.ref x.ia) (forB (flFor V)) [] (envAt V 160 x.fa [] qFile)
  pre := [(x.fa, fr), (x.ia, rgO k (4 - k)), (x.da, dotsO d tt), (x.wa, listO ⟨ws⟩ k)]
  hasFact := false
  fact := fun _ => True
  res := fun _ => .ok .next
  post := fun σ => [(x.fa, flFr x 3 (σ.n 0) (wordS (r 3) (d 3)) (σ.n 1) (σ.z 0) (σ.n 2)), (x.da, dotsO d tt), (x.wa, listO ⟨ws ++ moreW r d σ (4 - k)⟩ 4)]
/-- the hash of a name -/
noncomputable def nmH (V : VV) (s : Str) : Int := PySem.W.ZFast.zw12210062019545310541 (V.w.params.strHash s.cps)
/-- the whole loop of _law_file -/
noncomputable def S_fl0 (V : VV) (x : Fx) (d tt r : Nat → Nat) : Spec where
  need := true
  d := 8
  code := .forLoop (forT (flFor V)) (.ref x.ia) (forB (flFor V)) [] (envAt V 160 x.fa [] qFile)
  pre := [(x.fa, flFr0 x), (x.ia, rgO 0 4), (x.da, dotsO d tt), (x.wa, listO #[] 0)]
  hasFact := false
  fact := fun _ => True
  res := fun _ => .ok .next
  post := fun σ => [(x.fa, flFr ⟨x.fa, x.da, x.wa, x.ia, x.S, x.ts, fun i => match i with | 0 => x.h 0 | 1 => x.h 1 | 2 => x.h 2 | 3 => nmH V sK | 4 => nmH V sWord | _ => nmH V sKind, fun i => match i with | 0 => x.k 0 | 1 => x.k 1 | 2 => x.k 2 | 3 => σ.n 3 | 4 => σ.n 4 | _ => σ.n 5⟩ 3 (σ.n 0) (wordS (r 3) (d 3)) (σ.n 1) (σ.z 0) (σ.n 2)), (x.da, dotsO d tt), (x.wa, listO ⟨moreW r d σ 4⟩ 4)]
noncomputable def lastW (r d : Nat → Nat) (k : Nat) (w : Str) : Str := match Nat.beq k 4 with
  | true => wordS (r 3) (d 3)
  | false => w
noncomputable def C_fl (V : VV) (S : Int) (d tt r : Nat → Nat) (k : Nat) : Code → Ldg → Spec := fun c l => oS c (match c with
  | .forLoop _ (.ref ia) _ _ _ => match l with
    | [(fa, ⟨_, _, .dict ⟨[⟨h0, .str _ k0, .ref da⟩, ⟨h1, .str _ k1, .int _ ts⟩, ⟨h2, .str _ k2, .ref wa⟩, ⟨h3, .str _ k3, .int _ tk⟩, ⟨h4, .str _ k4, .str w tw⟩, ⟨h5, .str _ k5, .int z tz⟩]⟩ _, _⟩), _, _, (_, ⟨_, _, .seq ⟨ws⟩ _, _⟩)] => some (ia, fa, h0, k0, da, h1, k1, ts, h2, k2, wa, h3, k3, tk, h4, k4, w, tw, h5, k5, z, tz, ws)
    | _ => none
  | _ => none) fun (ia, fa, h0, k0, da, h1, k1, ts, h2, k2, wa, h3, k3, tk, h4, k4, w, tw, h5, k5, z, tz, ws) =>
    let x : Fx := ⟨fa, da, wa, ia, S, ts, fun i => match i with | 0 => h0 | 1 => h1 | 2 => h2 | 3 => h3 | 4 => h4 | _ => h5, fun i => match i with | 0 => k0 | 1 => k1 | 2 => k2 | 3 => k3 | 4 => k4 | _ => k5⟩; { S_fl V x d tt r k (flFr x (k - 1) tk (lastW r d k w) tw z tz) ws with need := Nat.beq ws.length k }
noncomputable def C_fl0 (V : VV) (S : Int) (d tt r : Nat → Nat) : Code → Ldg → Spec := fun c l => oS c (match c with
  | .forLoop _ (.ref ia) _ _ _ => match l with
    | [(fa, ⟨_, _, .dict ⟨[⟨h0, .str _ k0, .ref da⟩, ⟨h1, .str _ k1, .int _ ts⟩, ⟨h2, .str _ k2, .ref wa⟩]⟩ _, _⟩), _, _, _] => some (ia, fa, h0, k0, da, h1, k1, ts, h2, k2, wa)
    | _ => none
  | _ => none) fun (ia, fa, h0, k0, da, h1, k1, ts, h2, k2, wa) =>
    S_fl0 V ⟨fa, da, wa, ia, S, ts, fun i => match i with | 0 => h0 | 1 => h1 | _ => h2, fun i => match i with | 0 => k0 | 1 => k1 | _ => k2⟩ d tt r
noncomputable def gl4 (w : Nat → Str) : Str := (((w 0 ++ ⟨#[32]⟩) ++ (w 1 ++ ⟨#[32]⟩)) ++ (w 2 ++ ⟨#[32]⟩)) ++ w 3
end Mine
end
section
set_option maxRecDepth 100000
set_option maxHeartbeats 0
namespace Mine
open PySem PySem.W PySem.W.X PyProof.Rows
theorem C_add2_ok {V : VV} {X Y : Str} (hX : X.length ≠ 0) (hY : Y.length ≠ 0) (hl : X.length + Y.length < 1000) (c : Code) (l : Ldg) : Meets V (C_add2 X Y c l) := by
  refine oS_ok fun ⟨id, a, b⟩ => ?_
  show Meets _ (bSpec (.call (.builtin id) ⟨[.str X a, .str Y b], []⟩) (S.eqLit 116512096292018843154609524 id) (fun σ => .str (X ++ Y) (σ.n 0)))
  intro q
  have h0 := q
  simp only [bSpec] at q
  have e := id_of q (s := "str.__add__") (by decide +kernel)
  subst e
  have g := gives_str_add X Y a b
  rw [if_neg (by simpa using hX), if_neg (by simpa using hY)] at g
  exact con_gives F.slot_str_add (fun s => rfl) F.entry_str_add (F.args_str_add_2 _ _) g (by
    show (X ++ Y).length ≤ sizeLine
    rw [Str.length_append]
    have : sizeLine = 16777216 := rfl
    omega) (fun _ => rfl) h0
theorem C_mul_ok {V : VV} {d : Nat} (m : ∀ a b, Meets V (S_mul d a b)) (c : Code) (L : Ldg) : Meets V (C_mul d c L) := by
  refine oS_ok fun ⟨id, a, b⟩ => ?_
  show Meets _ (bSpec (.call (.builtin id) ⟨[.str ⟨#[46]⟩ a, .int (Int.ofNat d) b], []⟩) (S.eqLit 116512245094328231196325236 id) (fun σ => .str (dotS d) (σ.n 0)))
  intro q
  have h0 := q
  simp only [bSpec] at q
  have e := id_of q (s := "str.__mul__") (by decide +kernel)
  subst e
  exact m a b rfl
theorem atK_self {k kd : Nat} {r : Nat → Nat} (h : r k = kd) : r = atK k kd r := by
  funext i
  unfold atK
  cases q : Nat.beq i k with
  | true => rw [Nat.eq_of_beq_eq_true q]; exact h
  | false => rfl
end Mine
end
section
set_option maxRecDepth 100000
set_option maxHeartbeats 0
namespace Mine
open PySem PySem.W PySem.W.X PyProof.Rows
theorem C_fl_ok {V : VV} {S : Int} {d tt r : Nat → Nat} {k : Nat} (m : ∀ x : Fx, x.S = S → ∀ t0 w tw z tz ws, ws.length = k → Meets V (S_fl V x d tt r k (flFr x (k - 1) t0 (lastW r d k w) tw z tz) ws)) (c : Code) (L : Ldg) : Meets V (C_fl V S d tt r k c L) := by
  refine oS_ok fun ⟨ia, fa, h0, k0, da, h1, k1, ts, h2, k2, wa, h3, k3, tk, h4, k4, w, tw, h5, k5, z, tz, ws⟩ => ?_
  show Meets _ (let x : Fx := ⟨fa, da, wa, ia, S, ts, fun i => match i with | 0 => h0 | 1 => h1 | 2 => h2 | 3 => h3 | 4 => h4 | _ => h5, fun i => match i with | 0 => k0 | 1 => k1 | 2 => k2 | 3 => k3 | 4 => k4 | _ => k5⟩; { S_fl V x d tt r k (flFr x (k - 1) tk (lastW r d k w) tw z tz) ws with need := Nat.beq ws.length k })
  intro h
  exact m _ rfl _ _ _ _ _ _ (Nat.eq_of_beq_eq_true h) rfl
theorem C_fl0_ok {V : VV} {S : Int} {d tt r : Nat → Nat} (m : ∀ x : Fx, x.S = S → Meets V (S_fl0 V x d tt r)) (c : Code) (L : Ldg) : Meets V (C_fl0 V S d tt r c L) := by
  exact oS_ok fun ⟨ia, fa, h0, k0, da, h1, k1, ts, h2, k2, wa⟩ => m _ rfl
section
variable {U : Un} {b₁ b₂ : Bool} (G : Good (mkV U b₁ b₂))
include G
theorem mul_small (d t a : Nat) (h : d < 40) : Meets (mkV U b₁ b₂) (S_mul d t a) := by
  have key : ∀ d ∈ List.range 40, Meets (mkV U b₁ b₂) (S_mul d t a) := by
    simp only [show List.range 40 = [0,1,2,3,4,5,6,7,8,9,10,11,12,13,14,15,16,17,18,19,20,21,22,23,24,25,26,27,28,29,30,31,32,33,34,35,36,37,38,39] from rfl]
    refine List.forall_mem_cons.mpr ⟨?_, List.forall_mem_cons.mpr ⟨?_, ?_⟩⟩
    · exact meets_of G (cs := []) trivial 14 [] (fun tk P => ⟨fun i => match i with | 0 => (Nat.succ tk) | _ => 0, fun _ => 0, fun _ => ⟨#[]⟩, fun _ => []⟩) (fun tk P => []) [] (fun _ _ _ => trivial) (fun tk P => by kernel_rfl!)
    · exact meets_of G (cs := []) trivial 13 [] (fun tk P => ⟨fun i => match i with | 0 => t | _ => 0, fun _ => 0, fun _ => ⟨#[]⟩, fun _ => []⟩) (fun tk P => []) [] (fun _ _ _ => trivial) (fun tk P => by kernel_rfl!)
    repeat' (first | exact List.forall_mem_nil _ | refine List.forall_mem_cons.mpr ⟨?_, ?_⟩)
    all_goals exact meets_of G (cs := []) trivial 13 [] (fun tk P => ⟨fun i => match i with | 0 => (Nat.succ tk) | _ => 0, fun _ => 0, fun _ => ⟨#[]⟩, fun _ => []⟩) (fun tk P => []) [] (fun _ _ _ => trivial) (fun tk P => by kernel_rfl!)
  exact key d (List.mem_range.mpr h)
theorem cs_fl {x : Fx} {d tt r : Nat → Nat} {k kd : Nat} {Cn : Code → Ldg → Spec} (hk : kindZ x.S k = Int.ofNat kd) (hd : 1 ≤ d k ∧ d k < 40) (cn : ∀ c l, Meets (mkV U b₁ b₂) (Cn c l)) :
    CsOk (mkV U b₁ b₂) [C_mod, C_fdiv, C_pow, C_mul (d k), C_eqi (kindZ x.S k) kd, C_add2 ⟨#[34]⟩ (dotS (d k)), C_add2 (⟨#[34]⟩ ++ dotS (d k)) ⟨#[34]⟩, C_add2 ⟨#[92]⟩ (dotS (d k)), Cn] := by
  have l := dotS_len (d k)
  have one : ∀ c, (⟨#[c]⟩ : Str).length = 1 := fun _ => rfl
  exact ⟨C_mod_ok, C_fdiv_ok, C_pow_ok, C_mul_ok (fun a b => mul_small G _ a b hd.2), C_eqi_ok hk, C_add2_ok (by rw [one]; decide) (by omega) (by rw [one]; omega), C_add2_ok (by rw [Str.length_append, one]; omega) (by rw [one]; decide) (by rw [Str.length_append, one]; omega),
    C_add2_ok (by rw [one]; decide) (by omega) (by rw [one]; omega), cn, trivial⟩
theorem fl4 (x : Fx) (d tt r : Nat → Nat) (t0 : Nat) (w : Str) (tw : Nat) (z : Int) (tz : Nat) (ws : List Value) (hw : ws.length = 4) : Meets (mkV U b₁ b₂) (S_fl (mkV U b₁ b₂) x d tt r 4 (flFr x (4 - 1) t0 (lastW r d 4 w) tw z tz) ws) := by
  match ws, hw with
  | [v0, v1, v2, v3], _ => exact meets_of G (cs := []) trivial 30 [.l 1, .i, .l 1, .l 1, .l 1, .l 1, .l 0] (fun tk P => ⟨fun i => match i with | 0 => t0 | 1 => tw | 2 => tz | _ => 0, fun i => match i with | 0 => z | _ => 0, fun _ => ⟨#[]⟩, fun _ => []⟩) (fun tk P => []) [2, 3, 3] (fun _ _ _ => trivial) (fun tk P => by kernel_rfl!)
theorem fl3 (S : Int) (d tt r : Nat → Nat) (hz : ∀ k, k < 4 → kindZ S k = Int.ofNat (r k)) (hr : ∀ k, r k < 3) (hd : ∀ k, 1 ≤ d k ∧ d k < 40) (x : Fx) (hx : x.S = S) (t0 : Nat) (w : Str) (tw : Nat) (z : Int) (tz : Nat) (ws : List Value) (hw : ws.length = 3) : Meets (mkV U b₁ b₂) (S_fl (mkV U b₁ b₂) x d tt r 3 (flFr x (3 - 1) t0 (lastW r d 3 w) tw z tz) ws) := by
  match ws, hw with
  | [v0, v1, v2], _ =>
    have nx : ∀ r', (∀ k, k < 4 → kindZ S k = Int.ofNat (r' k)) → (∀ k, r' k < 3) → ∀ c l, Meets (mkV U b₁ b₂) (C_fl (mkV U b₁ b₂) S d tt r' 4 c l) := fun r' hz' hr' => C_fl_ok (fun x _ => fl4 G x d tt r')
    have q := hr 3
    have z0 := hz 3 (by decide)
    subst hx
    match e : r 3, q with
    | 0, _ =>
      rw [e] at z0
      rw [atK_self e] at hz hr ⊢
      exact meets_of G (cs_fl G (x := x) (d := d) (tt := tt) (r := r) z0 (hd 3) (nx _ hz hr)) 129 [.l 1, .i, .l 1, .l 1, .l 1, .l 1, .l 1, .l 1, .l 1, .l 1, .l 0, .l 0, .l 0, .l 0, .l 2, .l 2, .l 2, .i, .l 2, .l 2, .i, .c 3 [], .l 0, .l 0, .l 0, .l 0, .c 2 [], .c 1 [], .c 0 [], .l 0, .l 0, .l 0, .c 4 [], .l 0, .c 4 [], .l 0, .l 3, .l 3, .l 3, .l 3, .l 0, .i, .l 3, .l 3, .l 3, .l 3, .a 8 [0, 0, 0, 0]] (fun tk P => ⟨fun i => match i with | 0 => ((P 6).s.n 0) | 1 => ((P 6).s.n 1) | 2 => ((P 6).s.n 2) | 13 => ((P 0).s.n 0) | _ => 0, fun i => match i with | 0 => (P 6).1.2 0 | _ => 0, fun _ => ⟨#[]⟩, fun _ => []⟩) (fun tk P => []) [0, 0, 0] (fun _ _ _ => trivial) (fun tk P => by exact Bool.casesOn b₁ (by kernel_rfl!) (by kernel_rfl!))
    | 1, _ =>
      rw [e] at z0
      rw [atK_self e] at hz hr ⊢
      exact meets_of G (cs_fl G (x := x) (d := d) (tt := tt) (r := r) z0 (hd 3) (nx _ hz hr)) 151 [.l 1, .i, .l 1, .l 1, .l 1, .l 1, .l 1, .l 1, .l 1, .l 1, .l 0, .l 0, .l 0, .l 0, .l 2, .l 2, .l 2, .i, .l 2, .l 2, .i, .c 3 [], .l 0, .l 0, .l 0, .l 0, .c 2 [], .c 1 [], .c 0 [], .l 0, .l 0, .l 0, .c 4 [], .l 0, .c 5 [], .c 6 [], .l 0, .l 0, .l 0, .c 4 [], .l 0, .l 3, .l 3, .l 3, .l 3, .l 0, .i, .l 3, .l 3, .l 3, .l 3, .a 8 [0, 0, 0, 0]] (fun tk P => ⟨fun i => match i with | 0 => ((P 8).s.n 0) | 1 => ((P 8).s.n 1) | 2 => ((P 8).s.n 2) | 13 => ((P 6).s.n 0) | _ => 0, fun i => match i with | 0 => (P 8).1.2 0 | _ => 0, fun _ => ⟨#[]⟩, fun _ => []⟩) (fun tk P => []) [0, 0, 0] (fun _ _ _ => trivial) (fun tk P => by exact Bool.casesOn b₁ (by kernel_rfl!) (by kernel_rfl!))
    | 2, _ =>
      rw [e] at z0
      rw [atK_self e] at hz hr ⊢
      exact meets_of G (cs_fl G (x := x) (d := d) (tt := tt) (r := r) z0 (hd 3) (nx _ hz hr)) 145 [.l 1, .i, .l 1, .l 1, .l 1, .l 1, .l 1, .l 1, .l 1, .l 1, .l 0, .l 0, .l 0, .l 0, .l 2, .l 2, .l 2, .i, .l 2, .l 2, .i, .c 3 [], .l 0, .l 0, .l 0, .l 0, .c 2 [], .c 1 [], .c 0 [], .l 0, .l 0, .l 0, .c 4 [], .l 0, .c 4 [], .l 0, .c 7 [], .l 0, .l 0, .l 0, .l 3, .l 3, .l 3, .l 3, .l 0, .i, .l 3, .l 3, .l 3, .l 3, .a 8 [0, 0, 0, 0]] (fun tk P => ⟨fun i => match i with | 0 => ((P 7).s.n 0) | 1 => ((P 7).s.n 1) | 2 => ((P 7).s.n 2) | 13 => ((P 6).s.n 0) | _ => 0, fun i => match i with | 0 => (P 7).1.2 0 | _ => 0, fun _ => ⟨#[]⟩, fun _ => []⟩) (fun tk P => []) [0, 0, 0] (fun _ _ _ => trivial) (fun tk P => by exact Bool.casesOn b₁ (by kernel_rfl!) (by kernel_rfl!))
    | n + 3, q => exact absurd q (by omega)
theorem fl2 (S : Int) (d tt r : Nat → Nat) (hz : ∀ k, k < 4 → kindZ S k = Int.ofNat (r k)) (hr : ∀ k, r k < 3) (hd : ∀ k, 1 ≤ d k ∧ d k < 40) (x : Fx) (hx : x.S = S) (t0 : Nat) (w : Str) (tw : Nat) (z : Int) (tz : Nat) (ws : List Value) (hw : ws.length = 2) : Meets (mkV U b₁ b₂) (S_fl (mkV U b₁ b₂) x d tt r 2 (flFr x (2 - 1) t0 (lastW r d 2 w) tw z tz) ws) := by
  match ws, hw with
  | [v0, v1], _ =>
    have nx : ∀ r', (∀ k, k < 4 → kindZ S k = Int.ofNat (r' k)) → (∀ k, r' k < 3) → ∀ c l, Meets (mkV U b₁ b₂) (C_fl (mkV U b₁ b₂) S d tt r' 3 c l) := fun r' hz' hr' => C_fl_ok (fun x hx => fl3 G S d tt r' hz' hr' hd x hx)
    have q := hr 2
    have z0 := hz 2 (by decide)
    subst hx
    match e : r 2, q with
    | 0, _ =>
      rw [e] at z0
      rw [atK_self e] at hz hr ⊢
      exact meets_of G (cs_fl G (x := x) (d := d) (tt := tt) (r := r) z0 (hd 2) (nx _ hz hr)) 129 [.l 1, .i, .l 1, .l 1, .l 1, .l 1, .l 1, .l 1, .l 1, .l 1, .l 0, .l 0, .l 0, .l 0, .l 2, .l 2, .l 2, .i, .l 2, .l 2, .i, .c 3 [], .l 0, .l 0, .l 0, .l 0, .c 2 [], .c 1 [], .c 0 [], .l 0, .l 0, .l 0, .c 4 [], .l 0, .c 4 [], .l 0, .l 3, .l 3, .l 3, .l 3, .l 0, .i, .l 3, .l 3, .l 3, .l 3, .a 8 [0, 0, 0, 0]] (fun tk P => ⟨fun i => match i with | 0 => ((P 6).s.n 0) | 1 => ((P 6).s.n 1) | 2 => ((P 6).s.n 2) | 12 => ((P 0).s.n 0) | 13 => ((P 6).s.n 13) | _ => 0, fun i => match i with | 0 => (P 6).1.2 0 | _ => 0, fun _ => ⟨#[]⟩, fun _ => []⟩) (fun tk P => []) [0, 0, 0] (fun _ _ _ => trivial) (fun tk P => by exact Bool.casesOn b₁ (by kernel_rfl!) (by kernel_rfl!))
    | 1, _ =>
      rw [e] at z0
      rw [atK_self e] at hz hr ⊢
      exact meets_of G (cs_fl G (x := x) (d := d) (tt := tt) (r := r) z0 (hd 2) (nx _ hz hr)) 151 [.l 1, .i, .l 1, .l 1, .l 1, .l 1, .l 1, .l 1, .l 1, .l 1, .l 0, .l 0, .l 0, .l 0, .l 2, .l 2, .l 2, .i, .l 2, .l 2, .i, .c 3 [], .l 0, .l 0, .l 0, .l 0, .c 2 [], .c 1 [], .c 0 [], .l 0, .l 0, .l 0, .c 4 [], .l 0, .c 5 [], .c 6 [], .l 0, .l 0, .l 0, .c 4 [], .l 0, .l 3, .l 3, .l 3, .l 3, .l 0, .i, .l 3, .l 3, .l 3, .l 3, .a 8 [0, 0, 0, 0]] (fun tk P => ⟨fun i => match i with | 0 => ((P 8).s.n 0) | 1 => ((P 8).s.n 1) | 2 => ((P 8).s.n 2) | 12 => ((P 6).s.n 0) | 13 => ((P 8).s.n 13) | _ => 0, fun i => match i with | 0 => (P 8).1.2 0 | _ => 0, fun _ => ⟨#[]⟩, fun _ => []⟩) (fun tk P => []) [0, 0, 0] (fun _ _ _ => trivial) (fun tk P => by exact Bool.casesOn b₁ (by kernel_rfl!) (by kernel_rfl!))
    | 2, _ =>
      rw [e] at z0
      rw [atK_self e] at hz hr ⊢
      exact meets_of G (cs_fl G (x := x) (d := d) (tt := tt) (r := r) z0 (hd 2) (nx _ hz hr)) 145 [.l 1, .i, .l 1, .l 1, .l 1, .l 1, .l 1, .l 1, .l 1, .l 1, .l 0, .l 0, .l 0, .l 0, .l 2, .l 2, .l 2, .i, .l 2, .l 2, .i, .c 3 [], .l 0, .l 0, .l 0, .l 0, .c 2 [], .c 1 [], .c 0 [], .l 0, .l 0, .l 0, .c 4 [], .l 0, .c 4 [], .l 0, .c 7 [], .l 0, .l 0, .l 0, .l 3, .l 3, .l 3, .l 3, .l 0, .i, .l 3, .l 3, .l 3, .l 3, .a 8 [0, 0, 0, 0]] (fun tk P => ⟨fun i => match i with | 0 => ((P 7).s.n 0) | 1 => ((P 7).s.n 1) | 2 => ((P 7).s.n 2) | 12 => ((P 6).s.n 0) | 13 => ((P 7).s.n 13) | _ => 0, fun i => match i with | 0 => (P 7).1.2 0 | _ => 0, fun _ => ⟨#[]⟩, fun _ => []⟩) (fun tk P => []) [0, 0, 0] (fun _ _ _ => trivial) (fun tk P => by exact Bool.casesOn b₁ (by kernel_rfl!) (by kernel_rfl!))
    | n + 3, q => exact absurd q (by omega)
theorem fl1 (S : Int) (d tt r : Nat → Nat) (hz : ∀ k, k < 4 → kindZ S k = Int.ofNat (r k)) (hr : ∀ k, r k < 3) (hd : ∀ k, 1 ≤ d k ∧ d k < 40) (x : Fx) (hx : x.S = S) (t0 : Nat) (w : Str) (tw : Nat) (z : Int) (tz : Nat) (ws : List Value) (hw : ws.length = 1) : Meets (mkV U b₁ b₂) (S_fl (mkV U b₁ b₂) x d tt r 1 (flFr x (1 - 1) t0 (lastW r d 1 w) tw z tz) ws) := by
  match ws, hw with
  | [v0], _ =>
    have nx : ∀ r', (∀ k, k < 4 → kindZ S k = Int.ofNat (r' k)) → (∀ k, r' k < 3) → ∀ c l, Meets (mkV U b₁ b₂) (C_fl (mkV U b₁ b₂) S d tt r' 2 c l) := fun r' hz' hr' => C_fl_ok (fun x hx => fl2 G S d tt r' hz' hr' hd x hx)
    have q := hr 1
    have z0 := hz 1 (by decide)
    subst hx
    match e : r 1, q with
    | 0, _ =>
      rw [e] at z0
      rw [atK_self e] at hz hr ⊢
      exact meets_of G (cs_fl G (x := x) (d := d) (tt := tt) (r := r) z0 (hd 1) (nx _ hz hr)) 129 [.l 1, .i, .l 1, .l 1, .l 1, .l 1, .l 1, .l 1, .l 1, .l 1, .l 0, .l 0, .l 0, .l 0, .l 2, .l 2, .l 2, .i, .l 2, .l 2, .i, .c 3 [], .l 0, .l 0, .l 0, .l 0, .c 2 [], .c 1 [], .c 0 [], .l 0, .l 0, .l 0, .c 4 [], .l 0, .c 4 [], .l 0, .l 3, .l 3, .l 3, .l 3, .l 0, .i, .l 3, .l 3, .l 3, .l 3, .a 8 [0, 0, 0, 0]] (fun tk P => ⟨fun i => match i with | 0 => ((P 6).s.n 0) | 1 => ((P 6).s.n 1) | 2 => ((P 6).s.n 2) | 11 => ((P 0).s.n 0) | 12 => ((P 6).s.n 12) | 13 => ((P 6).s.n 13) | _ => 0, fun i => match i with | 0 => (P 6).1.2 0 | _ => 0, fun _ => ⟨#[]⟩, fun _ => []⟩) (fun tk P => []) [0, 0, 0] (fun _ _ _ => trivial) (fun tk P => by exact Bool.casesOn b₁ (by kernel_rfl!) (by kernel_rfl!))
    | 1, _ =>
      rw [e] at z0
      rw [atK_self e] at hz hr ⊢
      exact meets_of G (cs_fl G (x := x) (d := d) (tt := tt) (r := r) z0 (hd 1) (nx _ hz hr)) 151 [.l 1, .i, .l 1, .l 1, .l 1, .l 1, .l 1, .l 1, .l 1, .l 1, .l 0, .l 0, .l 0, .l 0, .l 2, .l 2, .l 2, .i, .l 2, .l 2, .i, .c 3 [], .l 0, .l 0, .l 0, .l 0, .c 2 [], .c 1 [], .c 0 [], .l 0, .l 0, .l 0, .c 4 [], .l 0, .c 5 [], .c 6 [], .l 0, .l 0, .l 0, .c 4 [], .l 0, .l 3, .l 3, .l 3, .l 3, .l 0, .i, .l 3, .l 3, .l 3, .l 3, .a 8 [0, 0, 0, 0]] (fun tk P => ⟨fun i => match i with | 0 => ((P 8).s.n 0) | 1 => ((P 8).s.n 1) | 2 => ((P 8).s.n 2) | 11 => ((P 6).s.n 0) | 12 => ((P 8).s.n 12) | 13 => ((P 8).s.n 13) | _ => 0, fun i => match i with | 0 => (P 8).1.2 0 | _ => 0, fun _ => ⟨#[]⟩, fun _ => []⟩) (fun tk P => []) [0, 0, 0] (fun _ _ _ => trivial) (fun tk P => by exact Bool.casesOn b₁ (by kernel_rfl!) (by kernel_rfl!))
    | 2, _ =>
      rw [e] at z0
      rw [atK_self e] at hz hr ⊢
      exact meets_of G (cs_fl G (x := x) (d := d) (tt := tt) (r := r) z0 (hd 1) (nx _ hz hr)) 145 [.l 1, .i, .l 1, .l 1, .l 1, .l 1, .l 1, .l 1, .l 1, .l 1, .l 0, .l 0, .l 0, .l 0, .l 2, .l 2, .l 2, .i, .l 2, .l 2, .i, .c 3 [], .l 0, .l 0, .l 0, .l 0, .c 2 [], .c 1 [], .c 0 [], .l 0, .l 0, .l 0, .c 4 [], .l 0, .c 4 [], .l 0, .c 7 [], .l 0, .l 0, .l 0, .l 3, .l 3, .l 3, .l 3, .l 0, .i, .l 3, .l 3, .l 3, .l 3, .a 8 [0, 0, 0, 0]] (fun tk P => ⟨fun i => match i with | 0 => ((P 7).s.n 0) | 1 => ((P 7).s.n 1) | 2 => ((P 7).s.n 2) | 11 => ((P 6).s.n 0) | 12 => ((P 7).s.n 12) | 13 => ((P 7).s.n 13) | _ => 0, fun i => match i with | 0 => (P 7).1.2 0 | _ => 0, fun _ => ⟨#[]⟩, fun _ => []⟩) (fun tk P => []) [0, 0, 0] (fun _ _ _ => trivial) (fun tk P => by exact Bool.casesOn b₁ (by kernel_rfl!) (by kernel_rfl!))
    | n + 3, q => exact absurd q (by omega)
theorem fl0 (S : Int) (d tt r : Nat → Nat) (hz : ∀ k, k < 4 → kindZ S k = Int.ofNat (r k)) (hr : ∀ k, r k < 3) (hd : ∀ k, 1 ≤ d k ∧ d k < 40) (x : Fx) (hx : x.S = S) : Meets (mkV U b₁ b₂) (S_fl0 (mkV U b₁ b₂) x d tt r) := by
  have nx : ∀ r', (∀ k, k < 4 → kindZ S k = Int.ofNat (r' k)) → (∀ k, r' k < 3) → ∀ c l, Meets (mkV U b₁ b₂) (C_fl (mkV U b₁ b₂) S d tt r' 1 c l) := fun r' hz' hr' => C_fl_ok (fun x hx => fl1 G S d tt r' hz' hr' hd x hx)
  have q := hr 0
  have z0 := hz 0 (by decide)
  subst hx
  match e : r 0, q with
  | 0, _ =>
    rw [e] at z0
    rw [atK_self e] at hz hr ⊢
    exact meets_of G (cs_fl G (x := x) (d := d) (tt := tt) (r := r) z0 (hd 0) (nx _ hz hr)) 129 [.l 1, .i, .l 1, .l 1, .l 1, .l 1, .l 1, .l 1, .l 1, .l 1, .l 0, .l 0, .l 0, .l 0, .l 2, .l 2, .l 2, .i, .l 2, .l 2, .i, .c 3 [], .l 0, .l 0, .l 0, .l 0, .c 2 [], .c 1 [], .c 0 [], .l 0, .l 0, .l 0, .c 4 [], .l 0, .c 4 [], .l 0, .l 3, .l 3, .l 3, .l 3, .l 0, .i, .l 3, .l 3, .l 3, .l 3, .a 8 [0, 0, 0, 0]] (fun tk P => ⟨fun i => match i with | 0 => ((P 6).s.n 0) | 1 => ((P 6).s.n 1) | 2 => ((P 6).s.n 2) | 3 => (Nat.succ (Nat.succ tk)) | 4 => (Nat.succ ((P 0).tk)) | 5 => (Nat.succ ((P 3).tk)) | 10 => ((P 0).s.n 0) | 11 => ((P 6).s.n 11) | 12 => ((P 6).s.n 12) | 13 => ((P 6).s.n 13) | _ => 0, fun i => match i with | 0 => (P 6).1.2 0 | _ => 0, fun _ => ⟨#[]⟩, fun _ => []⟩) (fun tk P => []) [0, 0, 0] (fun _ _ _ => trivial) (fun tk P => by exact Bool.casesOn b₁ (by kernel_rfl!) (by kernel_rfl!))
  | 1, _ =>
    rw [e] at z0
    rw [atK_self e] at hz hr ⊢
    exact meets_of G (cs_fl G (x := x) (d := d) (tt := tt) (r := r) z0 (hd 0) (nx _ hz hr)) 151 [.l 1, .i, .l 1, .l 1, .l 1, .l 1, .l 1, .l 1, .l 1, .l 1, .l 0, .l 0, .l 0, .l 0, .l 2, .l 2, .l 2, .i, .l 2, .l 2, .i, .c 3 [], .l 0, .l 0, .l 0, .l 0, .c 2 [], .c 1 [], .c 0 [], .l 0, .l 0, .l 0, .c 4 [], .l 0, .c 5 [], .c 6 [], .l 0, .l 0, .l 0, .c 4 [], .l 0, .l 3, .l 3, .l 3, .l 3, .l 0, .i, .l 3, .l 3, .l 3, .l 3, .a 8 [0, 0, 0, 0]] (fun tk P => ⟨fun i => match i with | 0 => ((P 8).s.n 0) | 1 => ((P 8).s.n 1) | 2 => ((P 8).s.n 2) | 3 => (Nat.succ (Nat.succ tk)) | 4 => (Nat.succ ((P 0).tk)) | 5 => (Nat.succ ((P 3).tk)) | 10 => ((P 6).s.n 0) | 11 => ((P 8).s.n 11) | 12 => ((P 8).s.n 12) | 13 => ((P 8).s.n 13) | _ => 0, fun i => match i with | 0 => (P 8).1.2 0 | _ => 0, fun _ => ⟨#[]⟩, fun _ => []⟩) (fun tk P => []) [0, 0, 0] (fun _ _ _ => trivial) (fun tk P => by exact Bool.casesOn b₁ (by kernel_rfl!) (by kernel_rfl!))
  | 2, _ =>
    rw [e] at z0
    rw [atK_self e] at hz hr ⊢
    exact meets_of G (cs_fl G (x := x) (d := d) (tt := tt) (r := r) z0 (hd 0) (nx _ hz hr)) 145 [.l 1, .i, .l 1, .l 1, .l 1, .l 1, .l 1, .l 1, .l 1, .l 1, .l 0, .l 0, .l 0, .l 0, .l 2, .l 2, .l 2, .i, .l 2, .l 2, .i, .c 3 [], .l 0, .l 0, .l 0, .l 0, .c 2 [], .c 1 [], .c 0 [], .l 0, .l 0, .l 0, .c 4 [], .l 0, .c 4 [], .l 0, .c 7 [], .l 0, .l 0, .l 0, .l 3, .l 3, .l 3, .l 3, .l 0, .i, .l 3, .l 3, .l 3, .l 3, .a 8 [0, 0, 0, 0]] (fun tk P => ⟨fun i => match i with | 0 => ((P 7).s.n 0) | 1 => ((P 7).s.n 1) | 2 => ((P 7).s.n 2) | 3 => (Nat.succ (Nat.succ tk)) | 4 => (Nat.succ ((P 0).tk)) | 5 => (Nat.succ ((P 3).tk)) | 10 => ((P 6).s.n 0) | 11 => ((P 7).s.n 11) | 12 => ((P 7).s.n 12) | 13 => ((P 7).s.n 13) | _ => 0, fun i => match i with | 0 => (P 7).1.2 0 | _ => 0, fun _ => ⟨#[]⟩, fun _ => []⟩) (fun tk P => []) [0, 0, 0] (fun _ _ _ => trivial) (fun tk P => by exact Bool.casesOn b₁ (by kernel_rfl!) (by kernel_rfl!))
  | n + 3, q => exact absurd q (by omega)
end
end Mine
end
section
set_option maxRecDepth 100000
set_option maxHeartbeats 0
namespace Mine
open PySem PySem.W PySem.W.X PyProof.Rows
noncomputable def fileT (w : Nat → Str) : Str := (((((w 0 ++ (⟨#[32]⟩ : Str)) ++ w 1) ++ (⟨#[32]⟩ : Str)) ++ w 2) ++ (⟨#[32]⟩ : Str)) ++ w 3
/-- ' '.join of four words -/
noncomputable def C_join (w : Nat → Str) : Code → Ldg → Spec := fun c l => oS c (match c with
  | .call (.builtin id) ⟨[.str _ t, .ref _], []⟩ => match l with
    | [(a, ⟨_, _, .seq ⟨[.str _ t0, .str _ t1, .str _ t2, .str _ t3]⟩ n, _⟩)] => some (id, t, a, t0, t1, t2, t3, n)
    | _ => none
  | _ => none) fun (id, t, a, t0, t1, t2, t3, n) =>
    { need := S.eqLit 8028352891401237876 id, d := 2, code := .call (.builtin id) ⟨[.str ⟨#[32]⟩ t, .ref a], []⟩, pre := [(a, listO #[.str (w 0) t0, .str (w 1) t1, .str (w 2) t2, .str (w 3) t3] n)], hasFact := false, fact := fun _ => True, res := fun σ => .ok (.ret (.str (fileT w) (σ.n 0))), post := fun _ => [(a, listO #[.str (w 0) t0, .str (w 1) t1, .str (w 2) t2, .str (w 3) t3] n)] }
theorem C_join_ok {V : VV} {w : Nat → Str} (hw : ∀ k, (w k).length < 1000) (c : Code) (l : Ldg) : Meets V (C_join w c l) := by
  refine oS_ok fun ⟨id, t, a, t0, t1, t2, t3, n⟩ => ?_
  show Meets _ ({ need := S.eqLit 8028352891401237876 id, d := 2, code := .call (.builtin id) ⟨[.str ⟨#[32]⟩ t, .ref a], []⟩, pre := [(a, listO #[.str (w 0) t0, .str (w 1) t1, .str (w 2) t2, .str (w 3) t3] n)], hasFact := false, fact := fun _ => True, res := fun σ => .ok (.ret (.str (fileT w) (σ.n 0))), post := fun _ => [(a, listO #[.str (w 0) t0, .str (w 1) t1, .str (w 2) t2, .str (w 3) t3] n)] })
  intro q _ A F₀ tk _ _ h D
  have e := id_of q (s := "str.join") (by decide +kernel)
  subst e
  have h0 := hw 0
  have h1 := hw 1
  have h2 := hw 2
  have h3 := hw 3
  have sz : sizeLine = 16777216 := rfl
  have one : (⟨#[32]⟩ : Str).length = 1 := rfl
  have m := meets_str_join_list ⟨#[32]⟩ t a [(w 0, t0), (w 1, t1), (w 2, t2), (w 3, t3)] (by
    show decide ((((0 + ((w 0).length + 1) + ((w 1).length + 1)) + ((w 2).length + 1)) + ((w 3).length + 1)) > sizeLine) = false
    rw [sz]
    simp
    omega)
  refine codeAny_call_builtin F.slot_str_join.plain F.entry_str_join (F.slot_str_join.check _ _ _ _ _ _ _ _ (typeIs_str _ _ _) (F.args_str_join_2 _ _) (m V.prog V.w A _ _ ⟨⟨_, D.led _ (List.mem_append_left _ (.head _)), rfl, n, rfl⟩, ?_⟩))
  refine ⟨?_, h, tk + 1, _, rfl, D, by omega, ⟨fun _ => tk + 1, fun _ => 0, fun _ => ⟨#[]⟩, fun _ => []⟩, trivial, trivial, rfl, rfl⟩
  show (fileT w).length ≤ sizeLine
  unfold fileT
  simp only [Str.length_append, one, sz]
  omega
/-- the lexer's file -/
noncomputable def S_file (d tt r : Nat → Nat) (a : Addr) (S : Int) (ts : Nat) : Spec where
  need := true
  d := 14
  code := .call (.ref 160) ⟨[.ref a, .int S ts], []⟩
  pre := [(a, dotsO d tt)]
  hasFact := false
  fact := fun _ => True
  res := fun σ => .ok (.ret (.str (fileT (fun k => wordS (r k) (d k))) (σ.n 0)))
  post := fun _ => [(a, dotsO d tt)]
end Mine
end
section
set_option maxRecDepth 100000
set_option maxHeartbeats 0
namespace Mine
open PySem PySem.W PySem.W.X PyProof.Rows
theorem wordS_len (r d : Nat) (h : 1 ≤ d) : 1 ≤ (wordS r d).length ∧ (wordS r d).length ≤ d + 2 := by
  have l := dotS_len d
  have one : ∀ c, (⟨#[c]⟩ : Str).length = 1 := fun _ => rfl
  unfold wordS
  split
  · omega
  · rw [Str.length_append, Str.length_append, one]; omega
  · rw [Str.length_append, one]; omega
section
variable {U : Un} {b₁ b₂ : Bool} (G : Good (mkV U b₁ b₂))
include G
theorem file_meets (d tt r : Nat → Nat) (a : Addr) (S : Int) (ts : Nat) (hz : ∀ k, k < 4 → kindZ S k = Int.ofNat (r k)) (hr : ∀ k, r k < 3) (hd : ∀ k, 1 ≤ d k ∧ d k < 40) : Meets (mkV U b₁ b₂) (S_file d tt r a S ts) := by
  have C : CsOk (mkV U b₁ b₂) [C_fl0 (mkV U b₁ b₂) S d tt r, C_join (fun k => wordS (r k) (d k))] :=
    ⟨C_fl0_ok (fun x hx => fl0 G S d tt r hz hr hd x hx), C_join_ok (fun k => by have := (wordS_len (r k) (d k) (hd k).1).2; have := (hd k).2; show (wordS (r k) (d k)).length < 1000; omega), trivial⟩
  exact meets_of G C 111 [.t, .t, .l 0, .l 0, .l 0, .l 0, .e none 0 [] ⟨#[95, 108, 97, 119, 95, 102, 105, 108, 101, 46, 60, 108, 111, 99, 97, 108, 115, 62, 46]⟩, .l 1, .l 1, .t, .t, .t, .t, .l 1, .i, .l 2, .i, .l 2, .l 2, .i, .i, .l 0, .l 0, .i, .l 0, .l 0, .l 0, .l 0, .i, .l 0, .l 0, .l 0, .l 0, .l 0, .c 0 [3, 0, 2, 1], .l 0, .c 1 [2]] (fun tk P => ⟨fun i => match i with | 0 => ((P 5).s.n 0) | _ => 0, fun _ => 0, fun _ => ⟨#[]⟩, fun _ => []⟩) (fun tk P => []) [2] (fun _ _ _ => trivial) (fun tk P => by exact Bool.casesOn b₁ (by kernel_rfl!) (by kernel_rfl!))
end
end Mine
end
section
set_option maxRecDepth 100000
set_option maxHeartbeats 0
namespace Mine
open PySem PySem.W PySem.W.X PyProof.Rows
noncomputable def S_quote (l t : Nat) : Spec := { need := true, d := 10, code := .call (.ref 139) ⟨[.str (dotS l) t], []⟩, pre := [], hasFact := false, fact := fun _ => True, res := fun σ => .ok (.ret (.str (dotS (l+1)) (σ.n 0))), post := fun _ => [] }
noncomputable def C_quote (l : Nat) : Code → Ldg → Spec := fun c _ => oS c (match c with
  | .call _ ⟨[.str _ t], []⟩ => some t
  | _ => none) fun t =>
    S_quote l t
theorem quote_meets {U : Un} {b₁ b₂ : Bool} (G : Good (mkV U b₁ b₂)) (l t : Nat) (h1 : 1 ≤ l) (h : l ≤ 38) : Meets (mkV U b₁ b₂) (S_quote l t) := by
  have key : ∀ l ∈ [1, 2, 3, 4, 5, 6, 7, 8, 9, 10, 11, 12, 13, 14, 15, 16, 17, 18, 19, 20, 21, 22, 23, 24, 25, 26, 27, 28, 29, 30, 31, 32, 33, 34, 35, 36, 37, 38], Meets (mkV U b₁ b₂) (S_quote l t) := by
    refine List.forall_mem_cons.mpr ⟨?_, ?_⟩
    · exact meets_of G (cs := []) trivial 108 [.t, .t, .l 0, .l 0, .e none 0 [] ⟨#[113, 117, 111, 116, 101, 100, 97, 116, 97, 46, 60, 108, 111, 99, 97, 108, 115, 62, 46]⟩, .t, .t, .t, .t, .t, .t, .t, .t, .t, .t, .t, .l 0, .i, .t, .t, .t, .t, .t, .l 0, .l 0, .l 0, .l 0, .i, .l 0, .l 0, .i, .t, .t, .t, .t, .t, .l 0, .l 0, .l 0, .t, .t, .l 0, .i, .l 0, .l 0] (fun tk P => ⟨fun i => match i with | 0 => (Nat.succ (Nat.succ tk)) | _ => 0, fun _ => 0, fun _ => ⟨#[]⟩, fun _ => []⟩) (fun tk P => []) [] (fun _ _ _ => trivial) (fun tk P => by kernel_rfl!)
    repeat' (first | exact List.forall_mem_nil _ | refine List.forall_mem_cons.mpr ⟨?_, ?_⟩)
    all_goals exact meets_of G (cs := []) trivial 120 [.t, .t, .l 0, .l 0, .e none 0 [] ⟨#[113, 117, 111, 116, 101, 100, 97, 116, 97, 46, 60, 108, 111, 99, 97, 108, 115, 62, 46]⟩, .t, .t, .t, .t, .t, .t, .t, .t, .t, .t, .t, .l 0, .i, .t, .t, .t, .t, .t, .l 0, .l 0, .l 0, .l 0, .i, .l 0, .l 0, .i, .t, .t, .t, .t, .t, .l 0, .l 0, .l 0, .t, .t, .l 0, .l 0, .l 0, .l 0, .i, .l 0, .l 0] (fun tk P => ⟨fun i => match i with | 0 => (Nat.succ (Nat.succ (Nat.succ (Nat.succ (Nat.succ (Nat.succ (Nat.succ tk))))))) | _ => 0, fun _ => 0, fun _ => ⟨#[]⟩, fun _ => []⟩) (fun tk P => []) [] (fun _ _ _ => trivial) (fun tk P => by kernel_rfl!)
  exact key l (by
    have : ∀ l, l < 39 → 1 ≤ l → l ∈ [1, 2, 3, 4, 5, 6, 7, 8, 9, 10, 11, 12, 13, 14, 15, 16, 17, 18, 19, 20, 21, 22, 23, 24, 25, 26, 27, 28, 29, 30, 31, 32, 33, 34, 35, 36, 37, 38] := by decide
    exact this l (by omega) h1)
theorem C_quote_ok {U : Un} {b₁ b₂ : Bool} (G : Good (mkV U b₁ b₂)) {n : Nat} (h1 : 1 ≤ n) (h : n ≤ 38) (c : Code) (l : Ldg) : Meets (mkV U b₁ b₂) (C_quote n c l) := by
  exact oS_ok fun t => quote_meets G n _ h1 h
end Mine
end
section
set_option maxRecDepth 100000
set_option maxHeartbeats 0
namespace Mine
open PySem PySem.W PySem.W.X PyProof.Rows
/-- a builtin by the library's word for it -/
theorem con_L {V : VV} {S : Spec} {T : String} {name : Str} {id : String} {B : Builtin} {self : Value} {rest : List Value} {SS : PySem.Spec}
    (slot : Slot T name id) (entry : entryFor table id = some B) (ha : argsOk id ⟨self :: rest, []⟩) (m : PySem.Meets (B ⟨self :: rest, []⟩) SS) (hc : S.code = .call (.builtin id) ⟨self :: rest, []⟩)
    (x : S.hypO → ∀ A h F tk, Led V h (S.pre ++ F) → (sh V h tk).TypeIs self T ∧ SS A (Post V (postOf S F tk)) (sh V h tk)) : Meets V S := by
  intro _ hy A F tk _ _ h D
  rw [hc]
  obtain ⟨h1, h2⟩ := x hy A h F tk D
  exact codeAny_call_builtin slot.plain entry (slot.check _ _ _ _ _ _ _ _ h1 ha (m V.prog V.w A _ _ h2))
theorem led_at {V : VV} {h : Heap} {F : Ldg} {a : Addr} {o : Obj} {L : Ldg} (D : Led V h (((a, o) :: L) ++ F)) : h.get? a = some o := D.led (a, o) (.head _)
theorem mapSeq_listO (f : Array Value → Array Value) (vs : Array Value) (e : Nat) : Obj.mapSeq f (listO vs e) = listO (f vs) (if (f vs).size == vs.size then e else e + 1) := rfl
noncomputable def zOf (vs : List Value) (i : Nat) : Int := match vs[i]? with
  | some (.int z _) => z
  | _ => 0
noncomputable def tOf (vs : List Value) (i : Nat) : Nat := match vs[i]? with
  | some (.int _ t) => t
  | _ => 0
/-- an int of a list: x is known -/
noncomputable def C_get (x : Int) : Code → Ldg → Spec := fun c l => oS c (match c with
  | .call (.builtin id) ⟨[.ref _, .int i t], []⟩ => match l with
    | [(a, ⟨_, _, .seq ⟨vs⟩ e, _⟩)] => some (id, i, t, a, vs, e)
    | _ => none
  | _ => none) fun (id, i, t, a, vs, e) =>
    { need := S.eqLit 128106587276438692081757506308484131437 id, d := 1, code := .call (.builtin id) ⟨[.ref a, .int i t], []⟩, pre := [(a, listO ⟨vs⟩ e)], hasFact := false, fact := fun _ => True, res := fun _ => .ok (.ret (.int x (tOf vs i.toNat))), post := fun _ => [(a, listO ⟨vs⟩ e)], hasHyp := true, hyp := 0 ≤ i ∧ i < 1000 ∧ ∃ u, vs[i.toNat]? = some (.int x u) }
theorem meets_getitem {l : Addr} {vs : Array Value} {n : Nat} {k : Int} {t : Tok} {x : Value} (h0 : 0 ≤ k) (hfit : k < 2 ^ 63) (hx : vs[k.toNat]? = some x) :
    PySem.Meets (Builtin.«list.__getitem__» ⟨[.ref l, .int k t], []⟩) (fun _ R s => s.heap.get? l = some (listO vs n) ∧ R (.ok (.ret x)) s) :=
  .of_wp fun prog w A R s h => by
    obtain ⟨ho, h⟩ := h
    show wpAny _ _ (Builtin.List.listSubscript? (.int k t) >>= _) _ _ s
    refine wpAny_bind (wpAny_listSubscript_int (fitsIndex_of h0 hfit) ?_)
    clear hfit
    obtain ⟨j, rfl⟩ := Int.eq_ofNat_of_zero_le h0
    have hx' : vs[j]? = some x := hx
    show wpAny _ _ ((seqItemAt l j >>= fun r => pure (r.map (j, ·))) >>= _) _ _ s
    refine wpAny_bind (wpAny_bind (wpAny_seqItemAt ho rfl (wpAny_pure ?_)))
    rw [hx']
    first
      | exact wpAny_bind (wpAny_pure (wpAny_pure ⟨_, rfl, h⟩))
      | exact wpAny_pure ⟨_, rfl, h⟩
theorem tOf_eq {vs : List Value} {i : Nat} {z : Int} {u : Nat} (h : vs[i]? = some (.int z u)) : tOf vs i = u := by unfold tOf; rw [h]
theorem zOf_eq {vs : List Value} {i : Nat} {z : Int} {u : Nat} (h : vs[i]? = some (.int z u)) : zOf vs i = z := by unfold zOf; rw [h]
theorem C_get_ok {V : VV} {x : Int} (c : Code) (l : Ldg) : Meets V (C_get x c l) := by
  refine oS_ok fun ⟨id, i, t, a, vs, e⟩ => ?_
  show Meets _ ({ need := S.eqLit 128106587276438692081757506308484131437 id, d := 1, code := .call (.builtin id) ⟨[.ref a, .int i t], []⟩, pre := [(a, listO ⟨vs⟩ e)], hasFact := false, fact := fun _ => True, res := fun _ => .ok (.ret (.int x (tOf vs i.toNat))), post := fun _ => [(a, listO ⟨vs⟩ e)], hasHyp := true, hyp := 0 ≤ i ∧ i < 1000 ∧ ∃ u, vs[i.toNat]? = some (.int x u) })
  intro q
  have h0 := q
  have e0 := id_of q (s := "list.__getitem__") (by decide +kernel)
  subst e0
  intro hy
  have hy' : 0 ≤ i ∧ i < 1000 ∧ ∃ u, vs[i.toNat]? = some (.int x u) := hy
  obtain ⟨i0, i1, u, hu⟩ := hy'
  refine con_L F.slot_list_getitem F.entry_list_getitem (F.args_list_getitem_2 _ _) (meets_getitem (l := a) (vs := ⟨vs⟩) (n := e) (x := .int x u) i0 (by omega) (by simpa using hu)) rfl (fun _ A h F tk D => ?_) h0 hy
  have ho := led_at D
  refine ⟨⟨_, ho, rfl⟩, ho, h, tk, _, rfl, D, by omega, sup0, trivial, trivial, ?_, rfl⟩
  show Except.ok (Flow.ret (Value.int x u)) = Except.ok (Flow.ret (Value.int x (tOf vs i.toNat)))
  rw [tOf_eq hu]
/-- append -/
noncomputable def C_app : Code → Ldg → Spec := fun c l => oS c (match c with
  | .call (.builtin id) ⟨[.ref _, v], []⟩ => match l with
    | [(a, ⟨_, _, .seq ⟨vs⟩ e, _⟩)] => some (id, v, a, vs, e)
    | _ => none
  | _ => none) fun (id, v, a, vs, e) =>
    { need := S.eqLit 122627580202994350266018413 id, d := 1, code := .call (.builtin id) ⟨[.ref a, v], []⟩, pre := [(a, listO ⟨vs⟩ e)], hasFact := false, fact := fun _ => True, res := fun _ => .ok (.ret .none), post := fun _ => [(a, listO ⟨vs ++ [v]⟩ (e + 1))], hasHyp := true, hyp := vs.length ≤ 1000 }
theorem C_app_ok {V : VV} (O : V.Ok) (c : Code) (l : Ldg) : Meets V (C_app c l) := by
  refine oS_ok fun ⟨id, v, a, vs, e⟩ => ?_
  show Meets _ ({ need := S.eqLit 122627580202994350266018413 id, d := 1, code := .call (.builtin id) ⟨[.ref a, v], []⟩, pre := [(a, listO ⟨vs⟩ e)], hasFact := false, fact := fun _ => True, res := fun _ => .ok (.ret .none), post := fun _ => [(a, listO ⟨vs ++ [v]⟩ (e + 1))], hasHyp := true, hyp := vs.length ≤ 1000 })
  intro q
  have h0 := q
  have e0 := id_of q (s := "list.append") (by decide +kernel)
  subst e0
  intro hy
  have hy' : vs.length ≤ 1000 := hy
  have sz : sizeLine = 16777216 := rfl
  refine con_L F.slot_list_append F.entry_list_append (F.args_list_append_2 _ _) (list_append a ⟨vs⟩ e v (by show vs.length ≤ sizeLine; omega)) rfl (fun _ A h F tk D => ?_) h0 hy
  have ho := led_at D
  refine ⟨⟨_, ho, rfl⟩, ho, h.update a (Obj.mapSeq fun x => x.push v), tk, _, rfl, D.set O (i := 0) (f := Obj.mapSeq fun x => x.push v) rfl rfl rfl, by omega, sup0, trivial, trivial, rfl, ?_⟩
  show (a, Obj.mapSeq (fun x => x.push v) (listO ⟨vs⟩ e)) :: F = (a, listO ⟨vs ++ [v]⟩ (e + 1)) :: F
  have z : Obj.mapSeq (fun x => x.push v) (listO ⟨vs⟩ e) = listO ⟨vs ++ [v]⟩ (e + 1) := by
    rw [mapSeq_listO]
    have : (((⟨vs⟩ : Array Value).push v).size == (⟨vs⟩ : Array Value).size) = false := by simp
    rw [this]
    simp
  rw [z]
/-- a place of a list, set -/
noncomputable def C_set : Code → Ldg → Spec := fun c l => oS c (match c with
  | .call (.builtin id) ⟨[.ref _, .int i t, v], []⟩ => match l with
    | [(a, ⟨_, _, .seq ⟨vs⟩ e, _⟩)] => some (id, i, t, v, a, vs, e)
    | _ => none
  | _ => none) fun (id, i, t, v, a, vs, e) =>
    { need := S.eqLit 128106587276438692082622197436939266669 id, d := 1, code := .call (.builtin id) ⟨[.ref a, .int i t, v], []⟩, pre := [(a, listO ⟨vs⟩ e)], hasFact := false, fact := fun _ => True, res := fun _ => .ok (.ret .none), post := fun _ => [(a, listO ⟨vs.set i.toNat v⟩ e)], hasHyp := true, hyp := 0 ≤ i ∧ i < 1000 ∧ i.toNat < vs.length }
theorem meets_setitem {l : Addr} {vs : Array Value} {n : Nat} {k : Int} {t : Tok} {v : Value} (h0 : 0 ≤ k) (hfit : k < 2 ^ 63) (hn : k.toNat < vs.size) :
    PySem.Meets (Builtin.«list.__setitem__» ⟨[.ref l, .int k t, v], []⟩) (fun _ R s => s.heap.get? l = some (listO vs n) ∧ R (.ok (.ret .none)) { s with heap := s.heap.update l (Obj.mapSeq (·.setIfInBounds k.toNat v)) }) :=
  .of_wp fun prog w A R s h => by
    obtain ⟨ho, h⟩ := h
    show wpAny _ _ (Builtin.List.listSubscript? (.int k t) >>= _) _ _ s
    refine wpAny_bind (wpAny_listSubscript_int (fitsIndex_of h0 hfit) ?_)
    clear hfit
    obtain ⟨j, rfl⟩ := Int.eq_ofNat_of_zero_le h0
    have hj : j < vs.size := hn
    have hx' : vs[j]? = some vs[j] := Array.getElem?_eq_getElem hj
    show wpAny _ _ ((seqItemAt l j >>= fun r => pure (r.map (j, ·))) >>= _) _ _ s
    refine wpAny_bind (wpAny_bind (wpAny_seqItemAt ho rfl (wpAny_pure ?_)))
    rw [hx']
    show wpAny _ _ (setSeqItemAt l j v >>= _) _ _ s
    refine wpAny_bind (wpAny_setSeqItemAt ho rfl ?_)
    first
      | exact wpAny_bind (wpAny_pure (wpAny_pure ⟨_, rfl, h⟩))
      | exact wpAny_pure ⟨_, rfl, h⟩
theorem C_set_ok {V : VV} (O : V.Ok) (c : Code) (l : Ldg) : Meets V (C_set c l) := by
  refine oS_ok fun ⟨id, i, t, v, a, vs, e⟩ => ?_
  show Meets _ ({ need := S.eqLit 128106587276438692082622197436939266669 id, d := 1, code := .call (.builtin id) ⟨[.ref a, .int i t, v], []⟩, pre := [(a, listO ⟨vs⟩ e)], hasFact := false, fact := fun _ => True, res := fun _ => .ok (.ret .none), post := fun _ => [(a, listO ⟨vs.set i.toNat v⟩ e)], hasHyp := true, hyp := 0 ≤ i ∧ i < 1000 ∧ i.toNat < vs.length })
  intro q
  have h0 := q
  have e0 := id_of q (s := "list.__setitem__") (by decide +kernel)
  subst e0
  intro hy
  have hy' : 0 ≤ i ∧ i < 1000 ∧ i.toNat < vs.length := hy
  obtain ⟨i0, i1, hn⟩ := hy'
  refine con_L F.slot_list_setitem F.entry_list_setitem (F.args_list_setitem_3 _ _ _) (meets_setitem (l := a) (vs := ⟨vs⟩) (n := e) i0 (by omega) (by simpa using hn)) rfl (fun _ A h F tk D => ?_) h0 hy
  have ho := led_at D
  refine ⟨⟨_, ho, rfl⟩, ho, h.update a (Obj.mapSeq (·.setIfInBounds i.toNat v)), tk, _, rfl, D.set O (i := 0) (f := Obj.mapSeq (·.setIfInBounds i.toNat v)) rfl rfl rfl, by omega, sup0, trivial, trivial, rfl, ?_⟩
  show (a, Obj.mapSeq (·.setIfInBounds i.toNat v) (listO ⟨vs⟩ e)) :: F = (a, listO ⟨vs.set i.toNat v⟩ e) :: F
  have z : Obj.mapSeq (·.setIfInBounds i.toNat v) (listO ⟨vs⟩ e) = listO ⟨vs.set i.toNat v⟩ e := by
    rw [mapSeq_listO]
    have : (((⟨vs⟩ : Array Value).setIfInBounds i.toNat v).size == (⟨vs⟩ : Array Value).size) = true := by simp
    rw [this]
    simp
  rw [z]
/-- the next number of a range, where one is left -/
noncomputable def C_rnx (k m : Nat) : Code → Ldg → Spec := fun c _ => oS c (match c with
  | .call (.builtin id) ⟨[.ref a], []⟩ => some (id, a)
  | _ => none) fun (id, a) =>
    { need := S.eqLit 9231062798198206674541908477283886571094360729114862195 id, d := 1, code := .call (.builtin id) ⟨[.ref a], []⟩, pre := [(a, rgO k (m + 1))], hasFact := false, fact := fun _ => True, res := fun σ => .ok (.ret (.int (Int.ofNat k) (σ.n 0))), post := fun _ => [(a, rgO (k + 1) m)] }
theorem C_rnx_ok {V : VV} (O : V.Ok) {k m : Nat} (c : Code) (l : Ldg) : Meets V (C_rnx k m c l) := by
  refine oS_ok fun ⟨id, a⟩ => ?_
  show Meets _ ({ need := S.eqLit 9231062798198206674541908477283886571094360729114862195 id, d := 1, code := .call (.builtin id) ⟨[.ref a], []⟩, pre := [(a, rgO k (m + 1))], hasFact := false, fact := fun _ => True, res := fun σ => .ok (.ret (.int (Int.ofNat k) (σ.n 0))), post := fun _ => [(a, rgO (k + 1) m)] })
  intro q
  have h0 := q
  have e0 := id_of q (s := "range_iterator.__next__") (by decide +kernel)
  subst e0
  refine con_L F.slot_range_iterator_next F.entry_range_iterator_next (F.args_range_iterator_next_1 _) (AutoRange.range_iterator___next___range_iterator_1 a (Int.ofNat k) (Int.ofNat (m + 1)) 1 (by show ¬ ((m + 1 : Nat) : Int) ≤ 0; omega)) rfl (fun _ A h F tk D => ?_) h0
  have ho := led_at D
  have D1 := D.set O (i := 0) (f := Obj.mapFields fun x => x.setIfInBounds 0 (rawInt (Int.ofNat k + 1))) rfl rfl rfl
  have D2 := D1.set O (i := 0) (f := Obj.mapFields fun x => x.setIfInBounds 1 (rawInt (Int.ofNat (m + 1) - 1))) rfl rfl rfl
  refine ⟨⟨_, ho, rfl⟩, ho, _, tk + 1, _, rfl, D2, by omega, ⟨fun _ => tk + 1, fun _ => 0, fun _ => ⟨#[]⟩, fun _ => []⟩, trivial, trivial, rfl, ?_⟩
  have e1 : Int.ofNat (m + 1) - 1 = Int.ofNat m := by show ((m + 1 : Nat) : Int) - 1 = (m : Int); omega
  rw [e1]
  rfl
/-- comparisons of ints, their truth known -/
noncomputable def C_cmpb (N : Nat) (a b : Int) (v : Bool) : Code → Ldg → Spec := fun c _ => oS c (match c with
  | .call (.builtin id) ⟨[.int _ t, .int _ u], []⟩ => some (id, t, u)
  | _ => none) fun (id, t, u) =>
    bSpec (.call (.builtin id) ⟨[.int a t, .int b u], []⟩) (S.eqLit N id) (fun _ => .bool v)
noncomputable def nGt : Nat := 455126529904428302298986
noncomputable def nLt : Nat := 455126531311803185852266
theorem C_gt_ok {V : VV} {a b : Int} {v : Bool} (h : decide (a > b) = v) (c : Code) (l : Ldg) : Meets V (C_cmpb nGt a b v c l) := by
  refine oS_ok fun ⟨id, t, u⟩ => ?_
  show Meets _ (bSpec (.call (.builtin id) ⟨[.int a t, .int b u], []⟩) (S.eqLit _ id) (fun _ => .bool v))
  intro q
  have h0 := q
  have e := id_of q (s := "int.__gt__") (by decide +kernel)
  subst e
  exact con_gives F.slot_int_gt (fun s => rfl) F.entry_int_gt (F.args_int_gt_2 _ _) (AutoIntG4.int___gt___int_int_0 a t b u) trivial (fun σ => by rw [← h]; rfl) h0
theorem C_lt_ok {V : VV} {a b : Int} {v : Bool} (h : decide (a < b) = v) (c : Code) (l : Ldg) : Meets V (C_cmpb nLt a b v c l) := by
  refine oS_ok fun ⟨id, t, u⟩ => ?_
  show Meets _ (bSpec (.call (.builtin id) ⟨[.int a t, .int b u], []⟩) (S.eqLit _ id) (fun _ => .bool v))
  intro q
  have h0 := q
  have e := id_of q (s := "int.__lt__") (by decide +kernel)
  subst e
  exact con_gives F.slot_int_lt (fun s => rfl) F.entry_int_lt (F.args_int_lt_2 _ _) (AutoIntG1.int___lt___int_int_0 a t b u) trivial (fun σ => by rw [← h]; rfl) h0
end Mine
end
section
set_option maxRecDepth 100000
set_option maxHeartbeats 0
namespace Mine
open PySem PySem.W PySem.W.X PyProof.Rows
noncomputable def slO (a b c : Value) : Obj := { cls := .type "slice", data := .fields #[a, b, c] }
theorem meets_slice {l sl : Addr} {items : Array Value} {n : Nat} {vl vu vst : Value} {lo hi st : Option Int} (pl : IsPart vl lo) (pu : IsPart vu hi) (ps : IsPart vst st) (h0 : st ≠ some 0) (hsz : items.size ≤ sizeLine) :
    PySem.Meets (Builtin.«list.__getitem__» ⟨[.ref l, .ref sl], []⟩) (fun _ R s => s.heap.get? l = some (listO items n) ∧ s.heap.get? sl = some (slO vl vu vst) ∧
      R (.ok (.ret (.ref s.heap.objs.size))) { s with heap := s.heap.push (listO (slicePick items lo hi st) 0) }) :=
  .of_wp fun prog w A R s h => by
    obtain ⟨ho, hos, h⟩ := h
    have hTs : s.TypeIs (.ref sl) "slice" := ⟨_, hos, rfl⟩
    show wpAny _ _ (Builtin.List.listSubscript? (.ref sl) >>= _) _ _ s
    refine wpAny_bind ?_
    unfold Builtin.List.listSubscript?
    refine wpAny_bind (wpAny_specialOf hTs slice_no_index ?_)
    simp only [Option.isNone_none, if_true]
    refine wpAny_pure ?_
    show wpAny _ _ (typeOf (.ref sl) >>= _) _ _ s
    refine wpAny_bind (wpAny_typeOf hTs ?_)
    rw [if_neg (by decide), listSliceParts_eq]
    have hstep : ¬ ((rawPart st == rawInt 0) = true) := by
      cases st with
      | none => exact Bool.false_ne_true
      | some c =>
        intro hh
        have : c = 0 := by simpa [rawPart, rawInt] using hh
        exact h0 (by rw [this])
    refine wpAny_bind (wpAny_bind (wpAny_field hos rfl (x := vst) rfl (wpAny_bind (wpAny_listPart ps ?_))))
    rw [if_neg hstep]
    refine wpAny_bind (wpAny_field hos rfl (x := vl) rfl (wpAny_bind (wpAny_listPart pl ?_)))
    refine wpAny_bind (wpAny_field hos rfl (x := vu) rfl (wpAny_bind (wpAny_listPart pu (wpAny_pure ?_))))
    refine wpAny_bind (m := Builtin.List.listItems (.ref l)) ?_
    unfold Builtin.List.listItems
    refine wpAny_bind (wpAny_seqItems ho rfl (wpAny_pure ?_))
    refine wpAny_bind (wpAny_of_eq (sliceIndices_raw lo hi st items.size h0) ?_)
    exact wpAny_bind (wpAny_newObj_type (wpAny_pure ⟨_, rfl, h⟩) (Nat.le_trans (slicePick_size_le items lo hi st) hsz))
/-- l[:b] -/
noncomputable def C_slu (b : Nat) : Code → Ldg → Spec := fun c l => oS c (match c with
  | .call (.builtin id) ⟨[.ref _, .ref _], []⟩ => match l with
    | [(a, ⟨_, _, .seq ⟨vs⟩ e, _⟩), (s, ⟨_, _, .fields ⟨[.none, .int _ u, .none]⟩, _⟩)] => some (id, a, vs, e, s, u)
    | _ => none
  | _ => none) fun (id, a, vs, e, s, u) =>
    { need := S.eqLit 128106587276438692081757506308484131437 id, d := 1, code := .call (.builtin id) ⟨[.ref a, .ref s], []⟩, pre := [(a, listO ⟨vs⟩ e), (s, slO .none (.int (Int.ofNat b) u) .none)], hasFact := false, fact := fun _ => True, res := fun σ => .ok (.ret (.ref (σ.n 0))), post := fun σ => [(σ.n 0, listO ⟨vs.take b⟩ 0), (a, listO ⟨vs⟩ e), (s, slO .none (.int (Int.ofNat b) u) .none)], hasHyp := true, hyp := vs.length ≤ 1000 }
/-- l[b:] -/
noncomputable def C_slf (b : Nat) : Code → Ldg → Spec := fun c l => oS c (match c with
  | .call (.builtin id) ⟨[.ref _, .ref _], []⟩ => match l with
    | [(a, ⟨_, _, .seq ⟨vs⟩ e, _⟩), (s, ⟨_, _, .fields ⟨[.int _ u, .none, .none]⟩, _⟩)] => some (id, a, vs, e, s, u)
    | _ => none
  | _ => none) fun (id, a, vs, e, s, u) =>
    { need := S.eqLit 128106587276438692081757506308484131437 id, d := 1, code := .call (.builtin id) ⟨[.ref a, .ref s], []⟩, pre := [(a, listO ⟨vs⟩ e), (s, slO (.int (Int.ofNat b) u) .none .none)], hasFact := false, fact := fun _ => True, res := fun σ => .ok (.ret (.ref (σ.n 0))), post := fun σ => [(σ.n 0, listO ⟨vs.drop b⟩ 0), (a, listO ⟨vs⟩ e), (s, slO (.int (Int.ofNat b) u) .none .none)], hasHyp := true, hyp := vs.length ≤ 1000 }
theorem C_slu_ok {V : VV} {b : Nat} (c : Code) (l : Ldg) : Meets V (C_slu b c l) := by
  refine oS_ok fun ⟨id, a, vs, e, s, u⟩ => ?_
  show Meets _ ({ need := S.eqLit 128106587276438692081757506308484131437 id, d := 1, code := .call (.builtin id) ⟨[.ref a, .ref s], []⟩, pre := [(a, listO ⟨vs⟩ e), (s, slO .none (.int (Int.ofNat b) u) .none)], hasFact := false, fact := fun _ => True, res := fun σ => .ok (.ret (.ref (σ.n 0))), post := fun σ => [(σ.n 0, listO ⟨vs.take b⟩ 0), (a, listO ⟨vs⟩ e), (s, slO .none (.int (Int.ofNat b) u) .none)], hasHyp := true, hyp := vs.length ≤ 1000 })
  intro q
  have h0 := q
  have e0 := id_of q (s := "list.__getitem__") (by decide +kernel)
  subst e0
  intro hy
  have hy' : vs.length ≤ 1000 := hy
  have sz : sizeLine = 16777216 := rfl
  refine con_L F.slot_list_getitem F.entry_list_getitem (F.args_list_getitem_2 _ _) (meets_slice (l := a) (sl := s) (items := ⟨vs⟩) (n := e) (vl := .none) (vu := .int (Int.ofNat b) u) (vst := .none) .none (.int _ _) .none (by simp) (by show vs.length ≤ sizeLine; omega)) rfl (fun _ A h F tk D => ?_) h0 hy
  have ho := led_at D
  have hs : h.get? s = some (slO .none (.int (Int.ofNat b) u) .none) := D.led (s, _) (.tail _ (.head _))
  have D2 := D.alloc (o := listO (slicePick ⟨vs⟩ none (some (Int.ofNat b)) none) 0) rfl
  have ev : slicePick ⟨vs⟩ none (some (Int.ofNat b)) none = ⟨vs.take b⟩ := slicePick_upto' ⟨vs⟩ b
  rw [ev] at D2
  refine ⟨⟨_, ho, rfl⟩, ho, hs, h.push (listO (slicePick ⟨vs⟩ none (some (Int.ofNat b)) none) 0), tk, _, rfl, by rw [ev]; exact D2, by omega, ⟨fun _ => h.objs.size, fun _ => 0, fun _ => ⟨#[]⟩, fun _ => []⟩, trivial, trivial, rfl, rfl⟩
theorem C_slf_ok {V : VV} {b : Nat} (c : Code) (l : Ldg) : Meets V (C_slf b c l) := by
  refine oS_ok fun ⟨id, a, vs, e, s, u⟩ => ?_
  show Meets _ ({ need := S.eqLit 128106587276438692081757506308484131437 id, d := 1, code := .call (.builtin id) ⟨[.ref a, .ref s], []⟩, pre := [(a, listO ⟨vs⟩ e), (s, slO (.int (Int.ofNat b) u) .none .none)], hasFact := false, fact := fun _ => True, res := fun σ => .ok (.ret (.ref (σ.n 0))), post := fun σ => [(σ.n 0, listO ⟨vs.drop b⟩ 0), (a, listO ⟨vs⟩ e), (s, slO (.int (Int.ofNat b) u) .none .none)], hasHyp := true, hyp := vs.length ≤ 1000 })
  intro q
  have h0 := q
  have e0 := id_of q (s := "list.__getitem__") (by decide +kernel)
  subst e0
  intro hy
  have hy' : vs.length ≤ 1000 := hy
  have sz : sizeLine = 16777216 := rfl
  refine con_L F.slot_list_getitem F.entry_list_getitem (F.args_list_getitem_2 _ _) (meets_slice (l := a) (sl := s) (items := ⟨vs⟩) (n := e) (vl := .int (Int.ofNat b) u) (vu := .none) (vst := .none) (.int _ _) .none .none (by simp) (by show vs.length ≤ sizeLine; omega)) rfl (fun _ A h F tk D => ?_) h0 hy
  have ho := led_at D
  have hs : h.get? s = some (slO (.int (Int.ofNat b) u) .none .none) := D.led (s, _) (.tail _ (.head _))
  have D2 := D.alloc (o := listO (slicePick ⟨vs⟩ (some (Int.ofNat b)) none none) 0) rfl
  have ev : slicePick ⟨vs⟩ (some (Int.ofNat b)) none none = ⟨vs.drop b⟩ := slicePick_from' ⟨vs⟩ b
  rw [ev] at D2
  refine ⟨⟨_, ho, rfl⟩, ho, hs, h.push (listO (slicePick ⟨vs⟩ (some (Int.ofNat b)) none none) 0), tk, _, rfl, by rw [ev]; exact D2, by omega, ⟨fun _ => h.objs.size, fun _ => 0, fun _ => ⟨#[]⟩, fun _ => []⟩, trivial, trivial, rfl, rfl⟩
/-- a plain function among the builtins -/
theorem con_F {V : VV} {S : Spec} {id : String} {B : Builtin} {args : List Value} (hk : builtinKind id = none) (hp : plainId id = true) (hb : entryFor table id = some B) (ha : argsOk id ⟨args, []⟩) (hc : S.code = .call (.builtin id) ⟨args, []⟩)
    (x : S.hypO → ∀ (A : Around) (h : Heap) (F : Ldg) (tk : Nat), Led V h (S.pre ++ F) → wpAny (model V.prog V.w) A.in1 (B ⟨args, []⟩) (fun fin s' => ∃ f, fin = .done f ∧ Post V (postOf S F tk) (.ok f) s') (fun _ _ => False) (sh V h tk)) : Meets V S := by
  intro _ hy A F tk _ _ h D
  rw [hc]
  refine codeAny_call_builtin hp hb ?_
  have z := wpAny_mono (x hy A h F tk D) (Q' := fun fin s' => match fin with
    | .done f => Post V (postOf S F tk) (.ok f) s'
    | .again c' => c'.quiet = true ∧ codeAny (model V.prog V.w) A c' (Post V (postOf S F tk)) s') (E' := fun e s' => Post V (postOf S F tk) (.error e) s') (fun fin s' h' => by obtain ⟨f, rfl, q⟩ := h'; exact q) (fun _ _ q => q.elim)
  simp only [checkBuiltinCall, hk]
  cases hsig : Manifest.signature? id with
  | none => exact wpAny_pure z
  | some sig =>
    have h2 : Bind.checkArgs id sig ⟨args, []⟩ = pure () := by simpa only [argsOk, hsig] using ha
    show wpAny _ A.in1 (Bind.checkArgs id sig ⟨args, []⟩) _ _ _
    rw [h2]
    exact wpAny_pure z
/-- len of a list: n is known -/
noncomputable def C_len (n : Nat) : Code → Ldg → Spec := fun c l => oS c (match c with
  | .call (.builtin id) ⟨[.ref _], []⟩ => match l with
    | [(a, ⟨_, _, .seq ⟨vs⟩ e, _⟩)] => some (id, a, vs, e)
    | _ => none
  | _ => none) fun (id, a, vs, e) =>
    { need := S.eqLit 7300717 id, d := 3, code := .call (.builtin id) ⟨[.ref a], []⟩, pre := [(a, listO ⟨vs⟩ e)], hasFact := false, fact := fun _ => True, res := fun σ => .ok (.ret (.int (Int.ofNat n) (σ.n 0))), post := fun _ => [(a, listO ⟨vs⟩ e)], hasHyp := true, hyp := vs.length = n ∧ n ≤ 1000 }
theorem C_len_ok {V : VV} {n : Nat} (c : Code) (l : Ldg) : Meets V (C_len n c l) := by
  refine oS_ok fun ⟨id, a, vs, e⟩ => ?_
  show Meets _ ({ need := S.eqLit 7300717 id, d := 3, code := .call (.builtin id) ⟨[.ref a], []⟩, pre := [(a, listO ⟨vs⟩ e)], hasFact := false, fact := fun _ => True, res := fun σ => .ok (.ret (.int (Int.ofNat n) (σ.n 0))), post := fun _ => [(a, listO ⟨vs⟩ e)], hasHyp := true, hyp := vs.length = n ∧ n ≤ 1000 })
  intro q
  have h0 := q
  have e0 := id_of q (s := "len") (by decide +kernel)
  subst e0
  intro hy
  have hy' : vs.length = n ∧ n ≤ 1000 := hy
  obtain ⟨hn, hs⟩ := hy'
  refine con_F kind_len plain_len entry_len (args_len1 _) rfl (fun _ A h F₀ tk D => ?_) h0 hy
  have ho := led_at D
  have hT : (sh V h tk).TypeIs (.ref a) "list" := ⟨_, ho, rfl⟩
  unfold Builtin.«len»
  refine wpAny_bind (m := oneArg "len" _) (wpAny_pure ?_)
  refine wpAny_bind (m := callSpecial? (.ref a) (Str.ofString "__len__")) (wpAny_callSpecial?_slot (name := Str.ofString "__len__") hT F.slot_list_len
    (call_meets F.slot_list_len hT F.entry_list_len (F.args_list_len_1 _) (AutoListH.list___len___list_0 a ⟨vs⟩ e) ⟨ho, ?_⟩))
  refine wpAny_bind (wpAny_holding (wpAny_pure ?_))
  refine wpAny_bind (wpAny_letGo ?_)
  have e1 : ((({ toList := vs } : Array Value).size : Nat) : Int) = Int.ofNat n := by
    show ((vs.length : Nat) : Int) = _
    rw [hn]; rfl
  rw [e1]
  have n0 : ¬ (Int.ofNat n < 0) := by show ¬ ((n : Int) < 0); omega
  have n1 : ¬ (Int.ofNat n ≥ 2 ^ 63) := by show ¬ ((n : Int) ≥ 2 ^ 63); omega
  show wpAny _ _ (if Int.ofNat n < 0 then _ else _) _ _ _
  rw [if_neg n0]
  show wpAny _ _ (if Int.ofNat n ≥ 2 ^ 63 then _ else _) _ _ _
  rw [if_neg n1]
  exact wpAny_bind (wpAny_mkInt (wpAny_pure ⟨_, rfl, h, tk + 1 + 1, _, rfl, D, by omega, ⟨fun _ => tk + 1 + 1, fun _ => 0, fun _ => ⟨#[]⟩, fun _ => []⟩, trivial, trivial, rfl, rfl⟩))
/-- an int of a list, whatever it is -/
noncomputable def C_getz : Code → Ldg → Spec := fun c l => oS c (match c with
  | .call (.builtin id) ⟨[.ref _, .int i t], []⟩ => match l with
    | [(a, ⟨_, _, .seq ⟨vs⟩ e, _⟩)] => some (id, i, t, a, vs, e)
    | _ => none
  | _ => none) fun (id, i, t, a, vs, e) =>
    { need := S.eqLit 128106587276438692081757506308484131437 id, d := 1, code := .call (.builtin id) ⟨[.ref a, .int i t], []⟩, pre := [(a, listO ⟨vs⟩ e)], hasFact := false, fact := fun _ => True, res := fun _ => .ok (.ret (.int (zOf vs i.toNat) (tOf vs i.toNat))), post := fun _ => [(a, listO ⟨vs⟩ e)], hasHyp := true, hyp := 0 ≤ i ∧ i < 1000 ∧ ∃ z u, vs[i.toNat]? = some (.int z u) }
theorem C_getz_ok {V : VV} (c : Code) (l : Ldg) : Meets V (C_getz c l) := by
  refine oS_ok fun ⟨id, i, t, a, vs, e⟩ => ?_
  show Meets _ ({ need := S.eqLit 128106587276438692081757506308484131437 id, d := 1, code := .call (.builtin id) ⟨[.ref a, .int i t], []⟩, pre := [(a, listO ⟨vs⟩ e)], hasFact := false, fact := fun _ => True, res := fun _ => .ok (.ret (.int (zOf vs i.toNat) (tOf vs i.toNat))), post := fun _ => [(a, listO ⟨vs⟩ e)], hasHyp := true, hyp := 0 ≤ i ∧ i < 1000 ∧ ∃ z u, vs[i.toNat]? = some (.int z u) })
  intro q
  have h0 := q
  have e0 := id_of q (s := "list.__getitem__") (by decide +kernel)
  subst e0
  intro hy
  have hy' : 0 ≤ i ∧ i < 1000 ∧ ∃ z u, vs[i.toNat]? = some (.int z u) := hy
  obtain ⟨i0, i1, z, u, hu⟩ := hy'
  refine con_L F.slot_list_getitem F.entry_list_getitem (F.args_list_getitem_2 _ _) (meets_getitem (l := a) (vs := ⟨vs⟩) (n := e) (x := .int z u) i0 (by omega) (by simpa using hu)) rfl (fun _ A h F tk D => ?_) h0 hy
  have ho := led_at D
  refine ⟨⟨_, ho, rfl⟩, ho, h, tk, _, rfl, D, by omega, sup0, trivial, trivial, ?_, rfl⟩
  show Except.ok (Flow.ret (Value.int z u)) = Except.ok (Flow.ret (Value.int (zOf vs i.toNat) (tOf vs i.toNat)))
  rw [tOf_eq hu, zOf_eq hu]
noncomputable def updZ (z : Nat → Int) (L : Nat) (x : Int) (i : Nat) : Int := match Nat.beq i L with
  | true => x
  | false => z i
noncomputable def updN (z : Nat → Nat) (L : Nat) (x : Nat) (i : Nat) : Nat := match Nat.beq i L with
  | true => x
  | false => z i
/-- iter(range(n)) -/
noncomputable def C_rit (n : Nat) : Code → Ldg → Spec := fun c l => oS c (match c with
  | .call (.builtin id) ⟨[.ref _], []⟩ => match l with
    | [(a, ⟨_, _, .fields ⟨[.int _ t, .int _ u, .int _ v]⟩, _⟩)] => some (id, a, t, u, v)
    | _ => none
  | _ => none) fun (id, a, t, u, v) =>
    { need := S.eqLit 1954752940192971970453299505619571 id, d := 1, code := .call (.builtin id) ⟨[.ref a], []⟩, pre := [(a, { cls := .type "range", data := .fields #[.int (Int.ofNat 0) t, .int (Int.ofNat n) u, .int (Int.ofNat 1) v] })], hasFact := false, fact := fun _ => True, res := fun σ => .ok (.ret (.ref (σ.n 0))), post := fun σ => [(σ.n 0, rgO 0 n), (a, { cls := .type "range", data := .fields #[.int (Int.ofNat 0) t, .int (Int.ofNat n) u, .int (Int.ofNat 1) v] })] }
theorem C_rit_ok {V : VV} {n : Nat} (hn : n ≤ 1000) (c : Code) (l : Ldg) : Meets V (C_rit n c l) := by
  refine oS_ok fun ⟨id, a, t, u, v⟩ => ?_
  show Meets _ ({ need := S.eqLit 1954752940192971970453299505619571 id, d := 1, code := .call (.builtin id) ⟨[.ref a], []⟩, pre := [(a, { cls := .type "range", data := .fields #[.int (Int.ofNat 0) t, .int (Int.ofNat n) u, .int (Int.ofNat 1) v] })], hasFact := false, fact := fun _ => True, res := fun σ => .ok (.ret (.ref (σ.n 0))), post := fun σ => [(σ.n 0, rgO 0 n), (a, { cls := .type "range", data := .fields #[.int (Int.ofNat 0) t, .int (Int.ofNat n) u, .int (Int.ofNat 1) v] })] })
  intro q
  have h0 := q
  have e0 := id_of q (s := "range.__iter__") (by decide +kernel)
  subst e0
  have sz : Builtin.Range.rangeSize (Int.ofNat 0) (Int.ofNat n) (Int.ofNat 1) = Int.ofNat n := by
    show Builtin.Range.rangeSize 0 (n : Int) 1 = (n : Int)
    unfold Builtin.Range.rangeSize
    simp
    try omega
  have fits : ∀ x : Int, 0 ≤ x → x ≤ 2000 → Builtin.Range.rangeFitsLong x = true := fun x h1 h2 => by
    unfold Builtin.Range.rangeFitsLong
    simp
    omega
  have n0 : (0 : Int) ≤ Int.ofNat n := Int.natCast_nonneg n
  have n1 : Int.ofNat n ≤ 1000 := by show (n : Int) ≤ 1000; omega
  have f0 := fits (Int.ofNat 0) (Int.le_refl _) (by decide)
  have f1 := fits (Int.ofNat n) n0 (by omega)
  have f2 := fits (Int.ofNat 1) (by decide) (by decide)
  have f3 := fits (Int.ofNat n + (Int.ofNat 1 - 1)) (by show (0 : Int) ≤ Int.ofNat n + (1 - 1); omega) (by show Int.ofNat n + (1 - 1) ≤ 2000; omega)
  have hb : (Builtin.Range.rangeFitsLong (Int.ofNat 0) && Builtin.Range.rangeFitsLong (Int.ofNat n) && Builtin.Range.rangeFitsLong (Int.ofNat 1) && Builtin.Range.rangeFitsLong (Builtin.Range.rangeSize (Int.ofNat 0) (Int.ofNat n) (Int.ofNat 1)) && (Builtin.Range.rangeSize (Int.ofNat 0) (Int.ofNat n) (Int.ofNat 1) == 0 || if Int.ofNat 1 > 0 then Builtin.Range.rangeFitsLong (Int.ofNat n + (Int.ofNat 1 - 1)) else Builtin.Range.rangeFitsLong (Int.ofNat n + (Int.ofNat 1 + 1)))) = true := by
    rw [sz, f0, f1, f2, if_pos (by decide), f3]
    simp
  have m := AutoRange.range___iter___range_1 a (Int.ofNat 0) (Int.ofNat n) (Int.ofNat 1) t u v (by rw [hb]; decide)
  refine con_L F.slot_range_iter F.entry_range_iter (F.args_range_iter_1 _) m rfl (fun _ A h F₀ tk D => ?_) h0
  have ho := led_at D
  have D2 := D.alloc (o := rgO 0 n) rfl
  refine ⟨⟨_, ho, rfl⟩, ho, h.push (rgO 0 n), tk, _, ?_, D2, by omega, ⟨fun _ => h.objs.size, fun _ => 0, fun _ => ⟨#[]⟩, fun _ => []⟩, trivial, trivial, rfl, rfl⟩
  rw [hb, sz]
  rfl
/-- ints, whatever they are -/
noncomputable def AllInt (vs : List Value) : Prop := ∀ i, i < vs.length → ∃ z u, vs[i]? = some (.int z u)
theorem Meets.hyp {V : VV} {T : Spec} (m : T.hypO → Meets V T) : Meets V T := fun q hy => m hy q hy
end Mine
end
section
set_option maxRecDepth 100000
set_option maxHeartbeats 0
namespace Mine
open PySem PySem.W PySem.W.X PyProof.Rows
/-- a.bit_length() is k -/
noncomputable def C_bits (a : Int) (k : Nat) : Code → Ldg → Spec := fun c _ => oS c (match c with
  | .call (.builtin id) ⟨[.int _ t], []⟩ => some (id, t)
  | _ => none) fun (id, t) =>
    bSpec (.call (.builtin id) ⟨[.int a t], []⟩) (S.eqLit 2138955024513080746059204096520042 id) (fun σ => .int (Int.ofNat k) (σ.n 0))
/-- a // b is m -/
noncomputable def C_fd (a b : Int) (m : Nat) : Code → Ldg → Spec := fun c _ => oS c (match c with
  | .call (.builtin id) ⟨[.int _ t, .int _ u], []⟩ => some (id, t, u)
  | _ => none) fun (id, t, u) =>
    bSpec (.call (.builtin id) ⟨[.int a t, .int b u], []⟩) (S.eqLit 128106770130096871752080967664072486762 id) (fun σ => .int (Int.ofNat m) (σ.n 0))
noncomputable def C_eqb (a b : Int) (v : Bool) : Code → Ldg → Spec := fun c _ => oS c (match c with
  | .call (.builtin id) ⟨[.int _ t, .int _ u], []⟩ => some (id, t, u)
  | _ => none) fun (id, t, u) =>
    bSpec (.call (.builtin id) ⟨[.int a t, .int b u], []⟩) (S.eqLit 455126313168696235093866 id) (fun _ => .bool v)
noncomputable def C_sr (a b : Int) (y : Int) : Code → Ldg → Spec := fun c _ => oS c (match c with
  | .call (.builtin id) ⟨[.int _ t, .int _ u], []⟩ => some (id, t, u)
  | _ => none) fun (id, t, u) =>
    bSpec (.call (.builtin id) ⟨[.int a t, .int b u], []⟩) (S.eqLit 1954753560319954401256180983099242 id) (fun σ => .int y (σ.n 0))
noncomputable def C_sl (a b : Int) (y : Int) : Code → Ldg → Spec := fun c _ => oS c (match c with
  | .call (.builtin id) ⟨[.int _ t, .int _ u], []⟩ => some (id, t, u)
  | _ => none) fun (id, t, u) =>
    bSpec (.call (.builtin id) ⟨[.int a t, .int b u], []⟩) (S.eqLit 1954753560319954399567331122835306 id) (fun σ => .int y (σ.n 0))
noncomputable def C_im (a b : Int) (y : Int) : Code → Ldg → Spec := fun c _ => oS c (match c with
  | .call (.builtin id) ⟨[.int _ t, .int _ u], []⟩ => some (id, t, u)
  | _ => none) fun (id, t, u) =>
    bSpec (.call (.builtin id) ⟨[.int a t, .int b u], []⟩) (S.eqLit 116512245094328231196454762 id) (fun σ => .int y (σ.n 0))
noncomputable def C_xo (a b : Int) (y : Int) : Code → Ldg → Spec := fun c _ => oS c (match c with
  | .call (.builtin id) ⟨[.int _ t, .int _ u], []⟩ => some (id, t, u)
  | _ => none) fun (id, t, u) =>
    bSpec (.call (.builtin id) ⟨[.int a t, .int b u], []⟩) (S.eqLit 116512355345543333970014058 id) (fun σ => .int y (σ.n 0))
theorem Meets.up {V : VV} {S : Spec} (m : Meets V S) {d : Nat} (h : S.d ≤ d) : Meets V { S with d := d } :=
  fun q y A F tk ht r => m q y A F tk ht (r.mono h)
theorem C_eqb_ok {V : VV} {a b : Int} {v : Bool} (h : (a == b) = v) (c : Code) (l : Ldg) : Meets V (C_eqb a b v c l) := by
  refine oS_ok fun ⟨id, t, u⟩ => ?_
  show Meets _ (bSpec (.call (.builtin id) ⟨[.int a t, .int b u], []⟩) (S.eqLit 455126313168696235093866 id) (fun _ => .bool v))
  intro q
  have h0 := q
  simp only [bSpec] at q
  have e := id_of q (s := "int.__eq__") (by decide +kernel)
  subst e
  exact con_gives F.slot_int_eq (fun s => rfl) F.entry_int_eq (F.args_int_eq_2 _ _) (AutoIntG7.int___eq___int_int_0 a t b u) trivial (fun σ => by rw [← h]; rfl) h0
theorem C_bits_ok {V : VV} {a : Int} {k : Nat} (h : Builtin.Int.intBits a = k) (c : Code) (l : Ldg) : Meets V (C_bits a k c l) := by
  refine oS_ok fun ⟨id, t⟩ => ?_
  show Meets _ (bSpec (.call (.builtin id) ⟨[.int a t], []⟩) (S.eqLit 2138955024513080746059204096520042 id) (fun σ => .int (Int.ofNat k) (σ.n 0)))
  intro q
  have h0 := q
  simp only [bSpec] at q
  have e := id_of q (s := "int.bit_length") (by decide +kernel)
  subst e
  exact con_gives F.slot_int_bit_length (fun s => rfl) F.entry_int_bit_length (F.args_int_bit_length_1 _) (AutoIntG2.int_bit_length_int_0 a t) trivial (fun σ => by rw [← h]; rfl) h0
theorem C_fd_ok {V : VV} {a b : Int} {m : Nat} (hb : b ≠ 0) (hp : Builtin.divisionGoesByPylong a b = false) (h : Int.fdiv a b = Int.ofNat m) (c : Code) (l : Ldg) : Meets V (C_fd a b m c l) := by
  refine oS_ok fun ⟨id, t, u⟩ => ?_
  show Meets _ (bSpec (.call (.builtin id) ⟨[.int a t, .int b u], []⟩) (S.eqLit 128106770130096871752080967664072486762 id) (fun σ => .int (Int.ofNat m) (σ.n 0)))
  intro q
  have h0 := q
  simp only [bSpec] at q
  have e := id_of q (s := "int.__floordiv__") (by decide +kernel)
  subst e
  exact con_gives F.slot_int_floordiv (fun s => rfl) F.entry_int_floordiv (F.args_int_floordiv_2 _ _) (AutoIntG4.int___floordiv___int_int_1 a t b u (by simpa using hb) (by simpa using hp)) trivial (fun σ => by rw [← h]; rfl) h0
theorem C_sr_ok {V : VV} {a b y : Int} (ha : 0 ≤ a) (hb : 0 ≤ b) (h : Int.fdiv a (2 ^ b.toNat) = y) (c : Code) (l : Ldg) : Meets V (C_sr a b y c l) := by
  refine oS_ok fun ⟨id, t, u⟩ => ?_
  show Meets _ (bSpec (.call (.builtin id) ⟨[.int a t, .int b u], []⟩) (S.eqLit 1954753560319954401256180983099242 id) (fun σ => .int y (σ.n 0)))
  intro q
  have h0 := q
  simp only [bSpec] at q
  have e := id_of q (s := "int.__rshift__") (by decide +kernel)
  subst e
  by_cases hc : b ≥ ((Builtin.Int.intBits a : Nat) : Int)
  · refine con_gives F.slot_int_rshift (fun s => rfl) F.entry_int_rshift (F.args_int_rshift_2 _ _) (AutoIntG9.int___rshift___int_int_1 a t b u (by omega) hc) trivial (fun σ => ?_) h0
    show Value.int _ _ = Value.int _ _
    rw [if_neg (by omega), ← h, fdiv_big ha (by omega)]
  · exact con_gives F.slot_int_rshift (fun s => rfl) F.entry_int_rshift (F.args_int_rshift_2 _ _) (AutoIntG0.int___rshift___int_int_2 a t b u (by omega) hc) trivial (fun σ => by rw [← h]; rfl) h0
theorem C_im_ok {V : VV} {a b y : Int} (hm : IntMulOk a b) (h : a * b = y) (c : Code) (l : Ldg) : Meets V (C_im a b y c l) := by
  refine oS_ok fun ⟨id, t, u⟩ => ?_
  show Meets _ (bSpec (.call (.builtin id) ⟨[.int a t, .int b u], []⟩) (S.eqLit 116512245094328231196454762 id) (fun σ => .int y (σ.n 0)))
  intro q
  have h0 := q
  simp only [bSpec] at q
  have e := id_of q (s := "int.__mul__") (by decide +kernel)
  subst e
  exact con_gives F.slot_int_mul (fun s => rfl) F.entry_int_mul (F.args_int_mul_2 _ _) (AutoIntG1.int___mul___int_int_0 a t b u hm) trivial (fun σ => by rw [← h]; rfl) h0
theorem gives_xor (a : Int) (t : Tok) (b : Int) (u : Tok) : Gives (Builtin.«int.__xor__» ⟨[.int a t, .int b u], []⟩) (.int (Builtin.bitXor a b)) :=
  .of_wp fun M A E s Q h => by obtain ⟨hp, g, d, tk, os⟩ := s; wp_walk; exact ⟨_, rfl, h⟩
theorem C_xo_ok {V : VV} {a b y : Int} (h : Builtin.bitXor a b = y) (c : Code) (l : Ldg) : Meets V (C_xo a b y c l) := by
  refine oS_ok fun ⟨id, t, u⟩ => ?_
  show Meets _ (bSpec (.call (.builtin id) ⟨[.int a t, .int b u], []⟩) (S.eqLit 116512355345543333970014058 id) (fun σ => .int y (σ.n 0)))
  intro q
  have h0 := q
  simp only [bSpec] at q
  have e := id_of q (s := "int.__xor__") (by decide +kernel)
  subst e
  exact con_gives F.slot_int_xor (fun s => rfl) F.entry_int_xor (F.args_int_xor_2 _ _) (gives_xor a t b u) trivial (fun σ => by rw [← h]; rfl) h0
theorem gives_shl (a : Int) (t : Tok) (b : Int) (u : Tok) (hc0 : ¬b < 0) (hc1 : ¬(a == 0) = true) (hc2 : ¬ ((((Builtin.Int.intBits a : Nat) : Int) + 29) / 30 + b / 30 + (if (b % 30 == 0) = true then 0 else 1) > Builtin.maxDigits)) (hc3 : ¬ Builtin.Int.intTooBig (((Builtin.Int.intBits a : Nat) : Int) + b) = true) :
    Gives (Builtin.«int.__lshift__» ⟨[.int a t, .int b u], []⟩) (.int (a * 2 ^ b.toNat)) :=
  .of_wp fun M A E s Q h => by
    obtain ⟨hp, g, d, tk, os⟩ := s
    wp_walk
    rw [if_neg hc2]
    dsimp only
    rw [if_neg hc3]
    wp_walk
    exact ⟨_, rfl, h⟩
theorem C_sl_ok {V : VV} {a b y : Int} (ha : Builtin.Int.intBits a ≤ 200) (hb : 0 ≤ b) (hb' : b ≤ 200) (h : a * 2 ^ b.toNat = y) (c : Code) (l : Ldg) : Meets V (C_sl a b y c l) := by
  refine oS_ok fun ⟨id, t, u⟩ => ?_
  show Meets _ (bSpec (.call (.builtin id) ⟨[.int a t, .int b u], []⟩) (S.eqLit 1954753560319954399567331122835306 id) (fun σ => .int y (σ.n 0)))
  intro q
  have h0 := q
  simp only [bSpec] at q
  have e := id_of q (s := "int.__lshift__") (by decide +kernel)
  subst e
  by_cases hz : (a == 0) = true
  · refine con_gives F.slot_int_lshift (fun s => rfl) F.entry_int_lshift (F.args_int_lshift_2 _ _) (AutoIntG6.int___lshift___int_int_1 a t b u (by omega) hz) trivial (fun σ => ?_) h0
    have z : a = 0 := by simpa using hz
    show Value.int _ _ = Value.int _ _
    rw [← h, z, Int.zero_mul]
  · refine con_gives F.slot_int_lshift (fun s => rfl) F.entry_int_lshift (F.args_int_lshift_2 _ _) (gives_shl a t b u (by omega) hz ?_ ?_) trivial (fun σ => by rw [← h]; rfl) h0
    · have m : Builtin.maxDigits = 2305843009213693945 := rfl
      rw [m]
      have : (((Builtin.Int.intBits a : Nat) : Int) + 29) / 30 ≤ 100 := by omega
      have : b / 30 ≤ 100 := by omega
      split <;> omega
    · have m : bitsLine ≥ 1000 := by decide
      unfold Builtin.Int.intTooBig
      simp
      omega
theorem bitXor_nat (a b : Nat) : Builtin.bitXor (a : Int) (b : Int) = ((a ||| b : Nat) : Int) - ((a &&& b : Nat) : Int) := by
  have ha : (0 : Int) ≤ a := by omega
  have hb : (0 : Int) ≤ b := by omega
  have n1 : ¬ (0 : Int) ≤ Builtin.bitNot a := by unfold Builtin.bitNot; omega
  have n2 : ¬ (0 : Int) ≤ Builtin.bitNot b := by unfold Builtin.bitNot; omega
  have e : ∀ x : Int, Builtin.bitNot (Builtin.bitNot x) = x := by intro x; unfold Builtin.bitNot; omega
  unfold Builtin.bitXor Builtin.bitOr
  have h1 : Builtin.bitAnd (a : Int) (b : Int) = ((a &&& b : Nat) : Int) := by
    unfold Builtin.bitAnd
    rw [decide_eq_true ha, decide_eq_true hb]
    rfl
  have h2 : Builtin.bitAnd (Builtin.bitNot a) (Builtin.bitNot b) = Builtin.bitNot ((a ||| b : Nat) : Int) := by
    unfold Builtin.bitAnd
    rw [decide_eq_false n1, decide_eq_false n2]
    show Builtin.bitNot _ = _
    rw [e, e]
    rfl
  rw [h1, h2, e]
end Mine
end
section
set_option maxRecDepth 100000
namespace Mine
open PySem PySem.W PySem.W.X PyProof.Rows
/-- eight ints -/
noncomputable def cellsO (z : Nat → Int) (tt : Nat → Nat) : Obj := listO #[.int (z 0) (tt 0), .int (z 1) (tt 1), .int (z 2) (tt 2), .int (z 3) (tt 3), .int (z 4) (tt 4), .int (z 5) (tt 5), .int (z 6) (tt 6), .int (z 7) (tt 7)] 0
noncomputable def clFor (V : VV) : Stmt := nthS (fnBody V 146) 2
/-- '_law_cells.<locals>.' -/
noncomputable def qCells : Str := ⟨#[95, 108, 97, 119, 95, 99, 101, 108, 108, 115, 46, 60, 108, 111, 99, 97, 108, 115, 62, 46]⟩
noncomputable def sScript : Str := ⟨#[115, 99, 114, 105, 112, 116]⟩
noncomputable def sCells : Str := ⟨#[99, 101, 108, 108, 115]⟩
noncomputable def sDrawn : Str := ⟨#[100, 114, 97, 119, 110]⟩
/-- what stays in the loop of _law_cells -/
structure Cx where
  fa : Addr
  ca : Addr
  da : Addr
  ia : Addr
  h : Nat → Int
  k : Nat → Nat
noncomputable def clFr0 (x : Cx) : Obj := frO [⟨x.h 0, .str sScript (x.k 0), .ref 198⟩, ⟨x.h 1, .str sCells (x.k 1), .ref x.ca⟩, ⟨x.h 2, .str sDrawn (x.k 2), .ref x.da⟩] 3
noncomputable def clFr (x : Cx) (k : Int) (tk : Nat) : Obj := frO [⟨x.h 0, .str sScript (x.k 0), .ref 198⟩, ⟨x.h 1, .str sCells (x.k 1), .ref x.ca⟩, ⟨x.h 2, .str sDrawn (x.k 2), .ref x.da⟩, ⟨x.h 3, .str sK (x.k 3), .int k tk⟩] 4
noncomputable def cBound (B : Int) (z : Nat → Int) : Prop := ∀ i, i < 8 → 0 ≤ z i ∧ z i < B
noncomputable def S_cl (V : VV) (x : Cx) (first : Bool) (dv : List Value) (z : Nat → Int) (tt : Nat → Nat) (k m : Nat) (k0 : Int) (t0 : Nat) (B : Int) : Spec where
  need := true
  d := 8
  code := .forLoop (forT (clFor V)) (.ref x.ia) (forB (clFor V)) [] (envAt V 146 x.fa [] qCells)
  pre := [(x.fa, match first with | true => clFr0 x | false => clFr x k0 t0), (x.ia, rgO k m), (x.ca, cellsO z tt), (x.da, listO ⟨dv⟩ 0)]
  hasFact := true
  fact := fun σ => cBound (B + 1000000 * (m : Int)) σ.z
  res := fun _ => .ok .next
  post := fun σ => [(x.fa, clFr ⟨x.fa, x.ca, x.da, x.ia, fun i => match i with | 0 => x.h 0 | 1 => x.h 1 | 2 => x.h 2 | _ => σ.z 20, fun i => match i with | 0 => x.k 0 | 1 => x.k 1 | 2 => x.k 2 | _ => σ.n 20⟩ (σ.z 21) (σ.n 21)), (x.ca, cellsO σ.z σ.n)]
  hasHyp := true
  hyp := cBound B z
noncomputable def C_cl (V : VV) (first : Bool) (dv : List Value) (k m : Nat) (B : Int) : Code → Ldg → Spec := fun c l => oS c (match c with
  | .forLoop _ (.ref ia) _ _ _ => match l with
    | [(fa, ⟨_, _, .dict ⟨⟨h0, .str _ k0, _⟩ :: ⟨h1, .str _ k1, .ref ca⟩ :: ⟨h2, .str _ k2, .ref da⟩ :: r⟩ _, _⟩), _, (_, ⟨_, _, .seq ⟨vs⟩ _, _⟩), _] => match first with
      | true => some (fa, ca, da, ia, h0, h1, h2, h2, k0, k1, k2, k2, vs, (0 : Int), (0 : Nat))
      | false => match r with
        | [⟨h3, .str _ k3, .int kk tk⟩] => some (fa, ca, da, ia, h0, h1, h2, h3, k0, k1, k2, k3, vs, kk, tk)
        | _ => none
    | _ => none
  | _ => none) fun (fa, ca, da, ia, h0, h1, h2, h3, k0, k1, k2, k3, vs, kk, tk) =>
    S_cl V ⟨fa, ca, da, ia, fun i => match i with | 0 => h0 | 1 => h1 | 2 => h2 | _ => h3, fun i => match i with | 0 => k0 | 1 => k1 | 2 => k2 | _ => k3⟩ first dv (zOf vs) (tOf vs) k m kk tk B
/-- cells[i] = x -/
noncomputable def C_set8 : Code → Ldg → Spec := fun c l => oS c (match c with
  | .call (.builtin id) ⟨[.ref _, .int i t, .int x u], []⟩ => match l with
    | [(a, ⟨_, _, .seq ⟨vs⟩ _, _⟩)] => some (id, i, t, x, u, a, vs)
    | _ => none
  | _ => none) fun (id, i, t, x, u, a, vs) =>
    { need := S.eqLit 128106587276438692082622197436939266669 id, d := 1, code := .call (.builtin id) ⟨[.ref a, .int i t, .int x u], []⟩, pre := [(a, cellsO (zOf vs) (tOf vs))], hasFact := false, fact := fun _ => True, res := fun _ => .ok (.ret .none), post := fun _ => [(a, cellsO (updZ (zOf vs) i.toNat x) (updN (tOf vs) i.toNat u))], hasHyp := true, hyp := 0 ≤ i ∧ i < 8 }
theorem C_set8_ok {V : VV} (O : V.Ok) (c : Code) (l : Ldg) : Meets V (C_set8 c l) := by
  refine oS_ok fun ⟨id, i, t, x, u, a, vs⟩ => ?_
  show Meets _ ({ need := S.eqLit 128106587276438692082622197436939266669 id, d := 1, code := .call (.builtin id) ⟨[.ref a, .int i t, .int x u], []⟩, pre := [(a, cellsO (zOf vs) (tOf vs))], hasFact := false, fact := fun _ => True, res := fun _ => .ok (.ret .none), post := fun _ => [(a, cellsO (updZ (zOf vs) i.toNat x) (updN (tOf vs) i.toNat u))], hasHyp := true, hyp := 0 ≤ i ∧ i < 8 })
  intro q hy A F tk ht r
  have hy' : 0 ≤ i ∧ i < 8 := hy
  have e0 := id_of q (s := "list.__setitem__") (by decide +kernel)
  subst e0
  have m := C_set_ok O (.call (.builtin "list.__setitem__") ⟨[.ref a, .int i t, .int x u], []⟩) [(a, cellsO (zOf vs) (tOf vs))] q (show 0 ≤ i ∧ i < 1000 ∧ i.toNat < 8 by omega) A F tk trivial r
  refine CodeG.mono m fun r L tk ⟨hle, σ, h1, _, h2, h3⟩ => ⟨hle, σ, trivial, trivial, h2, ?_⟩
  rw [h3]
  show (a, listO ⟨List.set _ i.toNat (Value.int x u)⟩ 0) :: F = (a, cellsO _ _) :: F
  have : i.toNat = 0 ∨ i.toNat = 1 ∨ i.toNat = 2 ∨ i.toNat = 3 ∨ i.toNat = 4 ∨ i.toNat = 5 ∨ i.toNat = 6 ∨ i.toNat = 7 := by omega
  rcases this with h | h | h | h | h | h | h | h <;> (rw [h]; rfl)
theorem C_cl_ok {V : VV} {first : Bool} {dv : List Value} {k m : Nat} {B : Int} (mm : ∀ x z tt k0 t0, Meets V (S_cl V x first dv z tt k m k0 t0 B)) (c : Code) (L : Ldg) : Meets V (C_cl V first dv k m B c L) := by
  exact oS_ok fun ⟨_, _, _, _, _, _, _, _, _, _, _, _, _, _, _⟩ => mm _ _ _ _ _
/-- _law_cells -/
noncomputable def S_ce (vs : List Value) : Spec where
  need := true
  d := 20
  code := .call (.ref 146) ⟨[.ref 198], []⟩
  pre := [(198, listO ⟨vs⟩ 0)]
  hasFact := true
  fact := fun σ => cBound 16777216 σ.z
  res := fun σ => .ok (.ret (.ref (σ.n 20)))
  post := fun σ => [(198, listO ⟨vs⟩ 0), (σ.n 20, cellsO σ.z σ.n)]
end Mine
end
section
set_option maxRecDepth 100000
set_option maxHeartbeats 0
namespace Mine
open PySem PySem.W PySem.W.X PyProof.Rows
theorem fm8 (k : Nat) : 0 ≤ Int.fmod (Int.ofNat k) 8 ∧ Int.fmod (Int.ofNat k) 8 < 8 := by
  rw [Int.fmod_eq_emod_of_nonneg _ (by decide)]
  exact ⟨Int.emod_nonneg _ (by decide), Int.emod_lt_of_pos _ (by decide)⟩
theorem fm6 (a : Int) : 0 ≤ Int.fmod a 1000000 ∧ Int.fmod a 1000000 < 1000000 := by
  rw [Int.fmod_eq_emod_of_nonneg _ (by decide)]
  exact ⟨Int.emod_nonneg _ (by decide), Int.emod_lt_of_pos _ (by decide)⟩
noncomputable def cells8 (z : Nat → Int) (tt : Nat → Nat) : List Value := [.int (z 0) (tt 0), .int (z 1) (tt 1), .int (z 2) (tt 2), .int (z 3) (tt 3), .int (z 4) (tt 4), .int (z 5) (tt 5), .int (z 6) (tt 6), .int (z 7) (tt 7)]
theorem cells8_get (z : Nat → Int) (tt : Nat → Nat) {i : Nat} (h : i < 8) : (cells8 z tt)[i]? = some (.int (z i) (tt i)) := by
  match i, h with
  | 0, _ => rfl
  | 1, _ => rfl
  | 2, _ => rfl
  | 3, _ => rfl
  | 4, _ => rfl
  | 5, _ => rfl
  | 6, _ => rfl
  | 7, _ => rfl
  | i + 8, h => exact absurd h (by omega)
theorem hyp_get8 (k : Nat) (z : Nat → Int) (tt : Nat → Nat) : 0 ≤ Int.fmod (Int.ofNat k) 8 ∧ Int.fmod (Int.ofNat k) 8 < 1000 ∧ ∃ y u, (cells8 z tt)[(Int.fmod (Int.ofNat k) 8).toNat]? = some (.int y u) := by
  have := fm8 k
  refine ⟨this.1, by omega, ?_⟩
  exact ⟨_, _, cells8_get z tt (i := (Int.fmod (Int.ofNat k) 8).toNat) (by omega)⟩
theorem hyp_next (k : Nat) (z : Nat → Int) (tt : Nat → Nat) (y : Int) (u : Nat) (B : Int) (hB : cBound B z) :
    cBound (B + 1000000) (zOf (cells8 (updZ (zOf (cells8 z tt)) (Int.fmod (Int.ofNat k) 8).toNat (zOf (cells8 z tt) (Int.fmod (Int.ofNat k) 8).toNat + Int.fmod y 1000000)) (updN (tOf (cells8 z tt)) (Int.fmod (Int.ofNat k) 8).toNat u))) := by
  have z8 : ∀ i, i < 8 → zOf (cells8 z tt) i = z i := fun i h => zOf_eq (cells8_get z tt h)
  have hL := fm8 k
  have f6 := fm6 y
  generalize hl : (Int.fmod (Int.ofNat k) 8).toNat = L
  have hL8 : L < 8 := by omega
  intro i hi
  rw [zOf_eq (cells8_get _ _ hi)]
  unfold updZ
  have bi := hB i hi
  have bL := hB L hL8
  cases q : Nat.beq i L with
  | true => show 0 ≤ zOf (cells8 z tt) L + _ ∧ zOf (cells8 z tt) L + _ < _; rw [z8 L hL8]; omega
  | false => show 0 ≤ zOf (cells8 z tt) i ∧ zOf (cells8 z tt) i < _; rw [z8 i hi]; omega
noncomputable def z0c (i : Nat) : Int := match i with | 0 => 0 | 1 => 3 | 2 => 9 | 3 => 1 | 4 => 6 | 5 => 4660 | 6 => 33 | _ => 3
theorem z0c_b : cBound 4661 z0c := fun i hi => by
      match i, hi with
      | 0, _ => decide
      | 1, _ => decide
      | 2, _ => decide
      | 3, _ => decide
      | 4, _ => decide
      | 5, _ => decide
      | 6, _ => decide
      | 7, _ => decide
      | i + 8, h => exact absurd h (by omega)
theorem fact_cl {z z' : Nat → Int} {B : Int} (h : cBound B z) (e : ∀ i, i < 8 → z' i = z i) : cBound B z' := fun i hi => by rw [e i hi]; exact h i hi
section
variable {U : Un} {b₁ b₂ : Bool} (G : Good (mkV U b₁ b₂))
include G
theorem cl_end (x : Cx) (dv : List Value) (z : Nat → Int) (tt : Nat → Nat) (k : Nat) (k0 : Int) (t0 : Nat) (B : Int) : Meets (mkV U b₁ b₂) (S_cl (mkV U b₁ b₂) x false dv z tt k 0 k0 t0 B) := by
  refine Meets.hyp fun hy => ?_
  have hB : cBound B z := hy
  refine meets_hp G (cs := []) trivial 30 [.l 1, .i, .l 1, .l 1, .l 1, .l 1, .l 0] (fun tk P => ⟨fun i => match i with | 0 => tt 0 | 1 => tt 1 | 2 => tt 2 | 3 => tt 3 | 4 => tt 4 | 5 => tt 5 | 6 => tt 6 | 7 => tt 7 | 20 => x.6 3 | 21 => t0 | _ => 0, fun i => match i with | 0 => z 0 | 1 => z 1 | 2 => z 2 | 3 => z 3 | 4 => z 4 | 5 => z 5 | 6 => z 6 | 7 => z 7 | 20 => x.5 3 | 21 => k0 | _ => 0, fun _ => ⟨#[]⟩, fun _ => []⟩) (fun tk P => []) [2, 3] (fun _ _ _ => hp0) (fun tk P _ => ?_) (fun tk P => by kernel_rfl!)
  refine fact_cl (z := z) (fun i hi => ?_) (fun i hi => ?_)
  · have := hB i hi
    show 0 ≤ z i ∧ z i < B + 1000000 * ((0 : Nat) : Int)
    omega
  · match i, hi with
    | 0, _ => rfl
    | 1, _ => rfl
    | 2, _ => rfl
    | 3, _ => rfl
    | 4, _ => rfl
    | 5, _ => rfl
    | 6, _ => rfl
    | 7, _ => rfl
    | i + 8, h => exact absurd h (by omega)
theorem cl_meets (dv : List Value) (hd : AllInt dv) (hl : dv.length ≤ 16) : ∀ (m k : Nat), k + m = dv.length → ∀ (B : Int) (x : Cx) (z : Nat → Int) (tt : Nat → Nat) (k0 : Int) (t0 : Nat),
    Meets (mkV U b₁ b₂) (S_cl (mkV U b₁ b₂) x false dv z tt k m k0 t0 B) ∧ (0 < m → Meets (mkV U b₁ b₂) (S_cl (mkV U b₁ b₂) x true dv z tt k m k0 t0 B))
  | 0, k, _, B, x, z, tt, k0, t0 => ⟨cl_end G x dv z tt k k0 t0 B, fun h => absurd h (by omega)⟩
  | m + 1, k, hk, B, x, z, tt, k0, t0 => by
    have IH := fun x z tt k0 t0 => (cl_meets dv hd hl m (k + 1) (by omega) (B + 1000000) x z tt k0 t0).1
    have C : CsOk (mkV U b₁ b₂) [C_rnx k m, C_mod, C_pow, C_getz, C_set8, C_cl (mkV U b₁ b₂) false dv (k + 1) m (B + 1000000)] :=
      ⟨C_rnx_ok G.ok, C_mod_ok, C_pow_ok, C_getz_ok, C_set8_ok G.ok, C_cl_ok IH, trivial⟩
    have h1 : 0 ≤ Int.ofNat k ∧ Int.ofNat k < 1000 ∧ ∃ y u, dv[(Int.ofNat k).toNat]? = some (.int y u) := by
      refine ⟨Int.natCast_nonneg k, ?_, hd k (by omega)⟩
      show (k : Int) < 1000
      omega
    have fc : ∀ (z' : Nat → Int), cBound (B + 1000000 + 1000000 * (m : Int)) z' → cBound (B + 1000000 * ((m + 1 : Nat) : Int)) z' := fun z' h i hi => by
      have := h i hi
      omega
    have e8 : ∀ (s : Sup), ∀ i, i < 8 → (match i with | 0 => s.z 0 | 1 => s.z 1 | 2 => s.z 2 | 3 => s.z 3 | 4 => s.z 4 | 5 => s.z 5 | 6 => s.z 6 | 7 => s.z 7 | 20 => s.z 20 | 21 => s.z 21 | _ => 0) = s.z i := fun s i hi => by
      match i, hi with
      | 0, _ => rfl
      | 1, _ => rfl
      | 2, _ => rfl
      | 3, _ => rfl
      | 4, _ => rfl
      | 5, _ => rfl
      | 6, _ => rfl
      | 7, _ => rfl
      | i + 8, h => exact absurd h (by omega)
    refine ⟨Meets.hyp fun hy => ?_, fun _ => Meets.hyp fun hy => ?_⟩
    · have hB : cBound B z := hy
      exact meets_hp G C 83 [.l 1, .c 0 [1], .l 1, .l 1, .l 1, .l 1, .c 1 [], .l 2, .l 2, .l 2, .ch 3 [2] 0, .l 2, .l 2, .l 3, .l 3, .l 3, .ch 3 [3] 1, .c 2 [], .c 1 [], .i, .l 3, .l 3, .c 1 [], .l 1, .l 1, .ch 4 [1] 2, .ah 5 [3, 2, 0, 0] 3] (fun tk P => ⟨fun i => match i with | 0 => ((P 8).s.n 0) | 1 => ((P 8).s.n 1) | 2 => ((P 8).s.n 2) | 3 => ((P 8).s.n 3) | 4 => ((P 8).s.n 4) | 5 => ((P 8).s.n 5) | 6 => ((P 8).s.n 6) | 7 => ((P 8).s.n 7) | 20 => ((P 8).s.n 20) | 21 => ((P 8).s.n 21) | _ => 0, fun i => match i with | 0 => (P 8).1.2 0 | 1 => (P 8).1.2 1 | 2 => (P 8).1.2 2 | 3 => (P 8).1.2 3 | 4 => (P 8).1.2 4 | 5 => (P 8).1.2 5 | 6 => (P 8).1.2 6 | 7 => (P 8).1.2 7 | 20 => (P 8).1.2 20 | 21 => (P 8).1.2 21 | _ => 0, fun _ => ⟨#[]⟩, fun _ => []⟩) (fun tk P => [∀ (i : Nat), i < 8 → 0 ≤ (P 8).s.z i ∧ (P 8).s.z i < B + 1000000 + 1000000 * ↑m]) [0, 0] (fun tk P m' => match m' with | 0 => ⟨_, hyp_get8 k z tt⟩ | 1 => ⟨_, h1⟩ | 2 => ⟨_, fm8 k⟩ | _ => ⟨_, hyp_next k z tt (zOf dv (Int.ofNat k).toNat) (Nat.succ ((P 5).tk)) B hB⟩)
        (fun tk P h => fc _ (fact_cl (h _ (.head _)) (e8 (P 8).s))) (fun tk P => by exact Bool.casesOn b₁ (by kernel_rfl!) (by kernel_rfl!))
    · have hB : cBound B z := hy
      exact meets_hp G C 83 [.l 1, .c 0 [1], .l 1, .l 1, .l 1, .l 1, .c 1 [], .l 2, .l 2, .l 2, .ch 3 [2] 0, .l 2, .l 2, .l 3, .l 3, .l 3, .ch 3 [3] 1, .c 2 [], .c 1 [], .i, .l 3, .l 3, .c 1 [], .l 1, .l 1, .ch 4 [1] 2, .ah 5 [3, 2, 0, 0] 3] (fun tk P => ⟨fun i => match i with | 0 => ((P 8).s.n 0) | 1 => ((P 8).s.n 1) | 2 => ((P 8).s.n 2) | 3 => ((P 8).s.n 3) | 4 => ((P 8).s.n 4) | 5 => ((P 8).s.n 5) | 6 => ((P 8).s.n 6) | 7 => ((P 8).s.n 7) | 20 => ((P 8).s.n 20) | 21 => ((P 8).s.n 21) | _ => 0, fun i => match i with | 0 => (P 8).1.2 0 | 1 => (P 8).1.2 1 | 2 => (P 8).1.2 2 | 3 => (P 8).1.2 3 | 4 => (P 8).1.2 4 | 5 => (P 8).1.2 5 | 6 => (P 8).1.2 6 | 7 => (P 8).1.2 7 | 20 => (P 8).1.2 20 | 21 => (P 8).1.2 21 | _ => 0, fun _ => ⟨#[]⟩, fun _ => []⟩) (fun tk P => [∀ (i : Nat), i < 8 → 0 ≤ (P 8).s.z i ∧ (P 8).s.z i < B + 1000000 + 1000000 * ↑m]) [0, 0] (fun tk P m' => match m' with | 0 => ⟨_, hyp_get8 k z tt⟩ | 1 => ⟨_, h1⟩ | 2 => ⟨_, fm8 k⟩ | _ => ⟨_, hyp_next k z tt (zOf dv (Int.ofNat k).toNat) (Nat.succ ((P 5).tk)) B hB⟩)
        (fun tk P h => fc _ (fact_cl (h _ (.head _)) (e8 (P 8).s))) (fun tk P => by exact Bool.casesOn b₁ (by kernel_rfl!) (by kernel_rfl!))
theorem ce_meets (vs : List Value) (hd : AllInt vs) (hl : vs.length ≤ 63) : Meets (mkV U b₁ b₂) (S_ce vs) := by
  cases vs with
  | nil =>
    exact meets_of G (cs := []) trivial 157 [.t, .t, .l 0, .l 0, .e none 0 [] ⟨#[95, 108, 97, 119, 95, 99, 101, 108, 108, 115, 46, 60, 108, 111, 99, 97, 108, 115, 62, 46]⟩, .l 1, .l 1, .l 1, .l 3, .l 3, .l 3, .i, .l 3, .l 0, .l 0, .l 0, .l 0, .l 0, .l 3, .l 3, .l 3, .t, .t, .t, .t, .l 3, .i, .l 0, .i, .l 0, .l 0, .i, .i, .l 0, .l 0, .i, .l 0, .l 0, .l 0, .l 0, .i, .l 0, .l 0, .l 0, .l 0, .l 0, .i, .l 0, .i, .l 0, .l 0, .l 0, .l 0, .l 0, .l 7] (fun tk P => ⟨fun i => match i with | 0 => (Nat.succ (Nat.succ tk)) | 1 => (Nat.succ (Nat.succ (Nat.succ tk))) | 2 => (Nat.succ (Nat.succ (Nat.succ (Nat.succ tk)))) | 3 => (Nat.succ (Nat.succ (Nat.succ (Nat.succ (Nat.succ tk))))) | 4 => (Nat.succ (Nat.succ (Nat.succ (Nat.succ (Nat.succ (Nat.succ tk)))))) | 5 => (Nat.succ (Nat.succ (Nat.succ (Nat.succ (Nat.succ (Nat.succ (Nat.succ tk))))))) | 6 => (Nat.succ (Nat.succ (Nat.succ (Nat.succ (Nat.succ (Nat.succ (Nat.succ (Nat.succ tk)))))))) | 7 => (Nat.succ (Nat.succ (Nat.succ (Nat.succ (Nat.succ (Nat.succ (Nat.succ (Nat.succ (Nat.succ tk))))))))) | 20 => ((P 1).s.n 0) | _ => 0, fun i => match i with | 0 => Int.ofNat 0 | 1 => Int.ofNat 3 | 2 => Int.ofNat 9 | 3 => Int.ofNat 1 | 4 => Int.ofNat 6 | 5 => Int.ofNat 4660 | 6 => Int.ofNat 33 | 7 => Int.ofNat 3 | _ => 0, fun _ => ⟨#[]⟩, fun _ => []⟩) (fun tk P => []) [8, 6] (fun tk P _ => fact_cl (z := z0c) (fun i hi => by have := z0c_b i hi; omega) (fun i hi => by
      match i, hi with
      | 0, _ => rfl
      | 1, _ => rfl
      | 2, _ => rfl
      | 3, _ => rfl
      | 4, _ => rfl
      | 5, _ => rfl
      | 6, _ => rfl
      | 7, _ => rfl
      | i + 8, h => exact absurd h (by omega))) (fun tk P => by exact Bool.casesOn b₁ (by kernel_rfl!) (by kernel_rfl!))
  | cons v0 vs0 =>
    generalize hvs : (v0 :: vs0 : List Value) = vs at hd hl
    have h0 : 0 < vs.length := by rw [← hvs]; simp
    obtain ⟨n, hn⟩ : ∃ n, (vs.take 16).length = n + 1 := ⟨(vs.take 16).length - 1, by rw [List.length_take]; omega⟩
    have hn16 : n + 1 ≤ 16 := by rw [← hn, List.length_take]; omega
    have hd' : AllInt (vs.take 16) := fun i hi => by
      rw [List.length_take] at hi
      obtain ⟨z, u, h⟩ := hd i (by omega)
      exact ⟨z, u, by rw [List.getElem?_take, if_pos (by omega)]; exact h⟩
    have C : CsOk (mkV U b₁ b₂) [C_slu 16, C_len (n + 1), C_rit (n + 1), C_cl (mkV U b₁ b₂) true (vs.take 16) 0 (n + 1) 4661] :=
      ⟨C_slu_ok, C_len_ok, C_rit_ok (by omega), C_cl_ok fun x z tt k0 t0 => (cl_meets G (vs.take 16) hd' (by omega) (n + 1) 0 (by omega) 4661 x z tt k0 t0).2 (by omega), trivial⟩
    have i8 : ∀ (t : Nat → Nat), cBound 4661 (zOf (cells8 z0c t)) := fun t i hi => by
      rw [zOf_eq (cells8_get _ _ hi)]
      exact z0c_b i hi
    have h63 : vs.length ≤ 1000 := by omega
    have hn' : (vs.take 16).length = n + 1 ∧ n + 1 ≤ 1000 := ⟨hn, by omega⟩
    have fc : ∀ (z' : Nat → Int), cBound (4661 + 1000000 * ((n + 1 : Nat) : Int)) z' → cBound 16777216 z' := fun z' h i hi => by
      have := h i hi
      omega
    have e8 : ∀ (s : Sup), ∀ i, i < 8 → (match i with | 0 => s.z 0 | 1 => s.z 1 | 2 => s.z 2 | 3 => s.z 3 | 4 => s.z 4 | 5 => s.z 5 | 6 => s.z 6 | 7 => s.z 7 | _ => 0) = s.z i := fun s i hi => by
      match i, hi with
      | 0, _ => rfl
      | 1, _ => rfl
      | 2, _ => rfl
      | 3, _ => rfl
      | 4, _ => rfl
      | 5, _ => rfl
      | 6, _ => rfl
      | 7, _ => rfl
      | i + 8, h => exact absurd h (by omega)
    exact meets_hp G C 113 [.t, .t, .l 0, .l 0, .e none 0 [] ⟨#[95, 108, 97, 119, 95, 99, 101, 108, 108, 115, 46, 60, 108, 111, 99, 97, 108, 115, 62, 46]⟩, .l 1, .l 1, .l 1, .l 3, .l 3, .l 3, .ch 0 [3, 0] 0, .l 4, .l 4, .t, .t, .t, .t, .l 4, .ch 1 [0] 1, .i, .i, .l 0, .l 0, .i, .l 0, .l 0, .l 0, .l 0, .c 2 [0], .l 0, .ch 3 [6, 0, 4, 1] 2, .l 0] (fun tk P => ⟨fun i => match i with | 0 => ((P 7).s.n 0) | 1 => ((P 7).s.n 1) | 2 => ((P 7).s.n 2) | 3 => ((P 7).s.n 3) | 4 => ((P 7).s.n 4) | 5 => ((P 7).s.n 5) | 6 => ((P 7).s.n 6) | 7 => ((P 7).s.n 7) | 20 => ((P 1).s.n 0) | _ => 0, fun i => match i with | 0 => (P 7).1.2 0 | 1 => (P 7).1.2 1 | 2 => (P 7).1.2 2 | 3 => (P 7).1.2 3 | 4 => (P 7).1.2 4 | 5 => (P 7).1.2 5 | 6 => (P 7).1.2 6 | 7 => (P 7).1.2 7 | _ => 0, fun _ => ⟨#[]⟩, fun _ => []⟩) (fun tk P => [∀ (i : Nat), i < 8 → 0 ≤ (P 7).s.z i ∧ (P 7).s.z i < 4661 + 1000000 * ↑(n + 1)]) [3, 1] (fun tk P m' => match m' with | 0 => ⟨_, h63⟩ | 1 => ⟨_, hn'⟩ | _ => ⟨_, i8 (fun i => match i with | 0 => tk + 2 | 1 => tk + 3 | 2 => tk + 4 | 3 => tk + 5 | 4 => tk + 6 | 5 => tk + 7 | 6 => tk + 8 | _ => tk + 9)⟩)
        (fun tk P h => fc _ (fact_cl (h _ (.head _)) (e8 (P 7).s))) (fun tk P => by exact Bool.casesOn b₁ (by kernel_rfl!) (by kernel_rfl!))
end
end Mine
end
section
set_option maxRecDepth 100000
namespace Mine
open PySem PySem.W PySem.W.X PyProof.Rows
noncomputable def fnD (s : Stmt) : List Stmt := match s with
  | .FunctionDef _ _ b _ _ _ _ _ _ _ => b
  | _ => []
noncomputable def fnA (s : Stmt) : Arguments := match s with
  | .FunctionDef _ a _ _ _ _ _ _ _ _ => a
  | _ => default
noncomputable def fnS (s : Stmt) : Scope := match s with
  | .FunctionDef _ _ _ _ _ _ s _ _ _ => s
  | _ => default
/-- what inner of _int2digits stands on -/
structure Ix where
  fi : Addr
  ci : Addr
  ce : Addr
  ca : Addr
  cn : Addr
  la : Addr
  nm : Str
  qual : Str
  doc : Value
  pm : Value
  an : Option Addr
  ct : Value
  c0 : Value
  t1 : Nat
  cf : List Value
  un : Nat
/-- '_int2digits.<locals>.inner' -/
noncomputable def qInner : Str := ⟨#[95, 105, 110, 116, 50, 100, 105, 103, 105, 116, 115, 46, 60, 108, 111, 99, 97, 108, 115, 62, 46, 105, 110, 110, 101, 114]⟩
noncomputable def innDef (V : VV) : Stmt := nthS (fnBody V 52) 1
noncomputable def sInner : Str := ⟨#[105, 110, 110, 101, 114]⟩
noncomputable def sDigits : Str := ⟨#[97, 95, 100, 105, 103, 105, 116, 115]⟩
noncomputable def sN : Str := ⟨#[110]⟩
noncomputable def innO (V : VV) (x : Ix) : Obj := { cls := .type "function", data := .func ⟨x.nm, x.qual, fnA (innDef V), .stmts (fnD (innDef V)), fnS (innDef V), 3, [(sN, x.cn), (sInner, x.ce), (sDigits, x.ca)], .none, .none, x.doc, x.pm, x.an, .ref x.ci, x.ct, 0⟩ }
noncomputable def codeO (cf : List Value) : Obj := { cls := .type "code", data := .fields ⟨cf⟩ }
noncomputable def cellO (v : Value) : Obj := { cls := .type "cell", data := .cell (some v) }
noncomputable def inL (V : VV) (x : Ix) (n : Int) (vs : List Value) : Ldg := [(x.fi, innO V x), (x.ci, codeO (x.c0 :: .str qInner x.t1 :: x.cf)), (x.ce, cellO (.ref x.fi)), (x.ca, cellO (.ref x.la)), (x.cn, cellO (.int n x.un)), (x.la, listO ⟨vs⟩ 0)]
/-- inner(x, L, R), where it ends: ints stay ints -/
noncomputable def S_in (V : VV) (x : Ix) (b : Nat) (vs : List Value) (xv : Int) (tx : Nat) (L R : Nat) (tl tr : Nat) : Spec where
  need := true
  d := b
  code := .call (.ref x.fi) ⟨[.int xv tx, .int (Int.ofNat L) tl, .int (Int.ofNat R) tr], []⟩
  pre := inL V x 4 vs
  hasFact := true
  fact := fun σ => (σ.v 0).length = vs.length ∧ (AllInt vs → AllInt (σ.v 0))
  res := fun _ => .ok (.ret .none)
  post := fun σ => inL V x 4 (σ.v 0)
  hasHyp := true
  hyp := R ≤ vs.length ∧ vs.length ≤ 60
noncomputable def C_in (V : VV) (b : Nat) (xv : Int) (L R : Nat) : Code → Ldg → Spec := fun c l => oS c (match c with
  | .call (.ref _) ⟨[.int _ tx, .int _ tl, .int _ tr], []⟩ => match l with
    | [(fi, ⟨_, _, .func ⟨nm, qual, _, _, _, _, _, _, _, doc, pm, an, _, ct, _⟩, _⟩), (ci, ⟨_, _, .fields ⟨c0 :: .str _ t1 :: cf⟩, _⟩), (ce, _), (ca, _), (cn, ⟨_, _, .cell (some (.int _ un)), _⟩), (la, ⟨_, _, .seq ⟨vs⟩ _, _⟩)] => some (tx, tl, tr, fi, nm, qual, doc, pm, an, ct, ci, c0, t1, cf, ce, ca, cn, un, la, vs)
    | _ => none
  | _ => none) fun (tx, tl, tr, fi, nm, qual, doc, pm, an, ct, ci, c0, t1, cf, ce, ca, cn, un, la, vs) =>
    S_in V ⟨fi, ci, ce, ca, cn, la, nm, qual, doc, pm, an, ct, c0, t1, cf, un⟩ b vs xv tx L R tl tr
theorem C_in_ok {V : VV} {b : Nat} {xv : Int} {L R : Nat} (m : ∀ x vs tx tl tr, Meets V (S_in V x b vs xv tx L R tl tr)) (c : Code) (l : Ldg) : Meets V (C_in V b xv L R c l) := by
  exact oS_ok fun ⟨tx, tl, tr, fi, nm, qual, doc, pm, an, ct, ci, c0, t1, cf, ce, ca, cn, un, la, vs⟩ => m _ _ _ _ _
end Mine
end
section
set_option maxRecDepth 100000
set_option maxHeartbeats 0
namespace Mine
open PySem PySem.W PySem.W.X PyProof.Rows
noncomputable def PB (x : Int) : Prop := 0 ≤ x ∧ x < 2 ^ 128
theorem PB.xor {a b : Int} (ha : PB a) (hb : PB b) : PB (Builtin.bitXor a b) := by
  obtain ⟨a0, a1⟩ := ha
  obtain ⟨b0, b1⟩ := hb
  obtain ⟨m, rfl⟩ := Int.eq_ofNat_of_zero_le a0
  obtain ⟨n, rfl⟩ := Int.eq_ofNat_of_zero_le b0
  rw [bitXor_nat]
  have o := Nat.or_lt_two_pow (x := m) (y := n) (n := 128) (by omega) (by omega)
  have l : m &&& n ≤ m ||| n := Nat.le_trans Nat.and_le_left Nat.left_le_or
  constructor <;> omega
theorem PB.bits {a : Int} (h : PB a) : Builtin.Int.intBits a ≤ 128 := by
  obtain ⟨h0, h1⟩ := h
  unfold Builtin.Int.intBits
  by_cases z : a = 0
  · subst z; simp
  · have hz : (a == 0) = false := by simpa using z
    rw [hz]
    simp only [Bool.false_eq_true, if_false]
    have n0 : a.natAbs ≠ 0 := by omega
    have := (Nat.log2_lt n0 (k := 128)).mpr (by omega)
    omega
theorem PB.shr {a : Int} (h : PB a) (n : Nat) : PB (Int.fdiv a (2 ^ n)) ∧ PB (Int.fdiv a (2 ^ n) * 2 ^ n) := by
  have p : (0 : Int) < 2 ^ n := Int.pow_pos (by omega)
  rw [Int.fdiv_eq_ediv_of_nonneg _ (Int.le_of_lt p)]
  have q0 := Int.ediv_nonneg h.1 (Int.le_of_lt p)
  have q1 : a / 2 ^ n * 2 ^ n ≤ a := Int.ediv_mul_le a (by omega)
  have q2 : a / 2 ^ n ≤ a := by
    have : a / 2 ^ n * 1 ≤ a / 2 ^ n * 2 ^ n := Int.mul_le_mul_of_nonneg_left (by omega) q0
    omega
  have q3 := Int.mul_nonneg q0 (Int.le_of_lt p)
  have := h.2
  exact ⟨⟨q0, by omega⟩, ⟨q3, by omega⟩⟩
theorem allInt_set {vs : List Value} {i : Nat} {z : Int} {u : Nat} : (vs.set i (.int z u)).length = vs.length ∧ (AllInt vs → AllInt (vs.set i (.int z u))) := by
  refine ⟨List.length_set .., fun h j hj => ?_⟩
  rw [List.length_set] at hj
  rw [List.getElem?_set]
  split
  · split
    · exact ⟨z, u, rfl⟩
    · omega
  · exact h j hj
section
variable {U : Un} {b₁ b₂ : Bool} (G : Good (mkV U b₁ b₂))
include G
theorem in_leaf (x : Ix) (vs : List Value) (xv : Int) (tx L tl tr : Nat) (hL : L < vs.length) : Meets (mkV U b₁ b₂) (S_in (mkV U b₁ b₂) x 6 vs xv tx L (L + 1) tl tr) := by
  refine Meets.hyp fun hy => ?_
  have hy' : L + 1 ≤ vs.length ∧ vs.length ≤ 60 := hy
  have hb : ((Int.ofNat L + Int.ofNat 1 : Int) == Int.ofNat (L + 1)) = true := by simp
  have C : CsOk (mkV U b₁ b₂) [C_eqb (Int.ofNat L + Int.ofNat 1) (Int.ofNat (L + 1)) true, C_set] := ⟨C_eqb_ok hb, C_set_ok G.ok, trivial⟩
  have h0 : 0 ≤ Int.ofNat L ∧ Int.ofNat L < 1000 ∧ (Int.ofNat L).toNat < vs.length := ⟨Int.natCast_nonneg L, by show (L : Int) < 1000; omega, hL⟩
  exact meets_hp G C 60 [.l 0, .l 1, .l 0, .l 0, .l 0, .l 0, .l 0, .l 0, .e (some 1) 0 [] ⟨#[95, 105, 110, 116, 50, 100, 105, 103, 105, 116, 115, 46, 60, 108, 111, 99, 97, 108, 115, 62, 46, 105, 110, 110, 101, 114, 46, 60, 108, 111, 99, 97, 108, 115, 62, 46]⟩, .l 0, .i, .l 0, .c 0 [], .l 0, .l 4, .l 0, .l 6, .l 6, .ch 1 [6] 0] (fun tk P => ⟨fun _ => 0, fun _ => 0, fun _ => ⟨#[]⟩, fun _ => vs.set (Int.ofNat L).toNat (.int xv tx)⟩) (fun tk P => []) [2, 2, 2, 2, 2, 0] (fun _ _ _ => ⟨_, h0⟩)
    (fun tk P _ => allInt_set) (fun tk P => by exact Bool.casesOn b₁ (by kernel_rfl!) (by kernel_rfl!))
/-- the contracts of a node -/
noncomputable def cs_in (V : VV) (b : Nat) (xv lo up : Int) (L R mid s : Nat) : List (Code → Ldg → Spec) :=
  [C_eqb (Int.ofNat L + Int.ofNat 1) (Int.ofNat R) false, C_sr (Int.ofNat L + Int.ofNat R) (Int.ofNat 1) (Int.ofNat mid), C_im (Int.ofNat mid - Int.ofNat L) 4 (Int.ofNat s), C_sr xv (Int.ofNat s) up, C_sl up (Int.ofNat s) (up * 2 ^ s), C_xo xv (up * 2 ^ s) lo, C_in V b lo L mid, C_in V b up mid R]
omit G in
theorem cs_in_ok {V : VV} {b j : Nat} {xv : Int} {L R : Nat} (hx : PB xv) (h1 : L + 1 < R) (hR : R ≤ 60) (hj : R - L ≤ j + j)
    (ih : ∀ xv L R, PB xv → L < R → R ≤ 60 → R - L ≤ j → ∀ x vs tx tl tr, Meets V (S_in V x b vs xv tx L R tl tr)) :
    ∃ lo up mid s, mid ≤ R ∧ CsOk V (cs_in V b xv lo up L R mid s) := by
  have s := hx.shr ((L + R) / 2 * 4 - L * 4)
  have e1 : (Int.ofNat L + Int.ofNat 1 : Int) = ((L + 1 : Nat) : Int) := rfl
  refine ⟨Builtin.bitXor xv (Int.fdiv xv (2 ^ ((L + R) / 2 * 4 - L * 4)) * 2 ^ ((L + R) / 2 * 4 - L * 4)), Int.fdiv xv (2 ^ ((L + R) / 2 * 4 - L * 4)), (L + R) / 2, (L + R) / 2 * 4 - L * 4, by omega, ?_⟩
  refine ⟨C_eqb_ok ?_, C_sr_ok (by simp only [Int.ofNat_eq_natCast]; omega) (by decide) ?_, C_im_ok (IntMulOk.of_right (by decide)) ?_, C_sr_ok hx.1 (by simp) (by simp), C_sl_ok (Nat.le_trans s.1.bits (by decide)) (by simp) (by simp only [Int.ofNat_eq_natCast]; omega) (by simp), C_xo_ok rfl,
    C_in_ok (ih _ _ _ (hx.xor s.2) (by omega) (by omega) (by omega)), C_in_ok (ih _ _ _ s.1 (by omega) hR (by omega)), trivial⟩
  · rw [e1]
    simp only [Int.ofNat_eq_natCast]
    rw [beq_eq_false_iff_ne]
    omega
  · show Int.fdiv (((L + R : Nat) : Int)) (2 ^ 1) = _
    rw [Int.fdiv_eq_ediv_of_nonneg _ (by decide)]
    show _ = (((L + R) / 2 : Nat) : Int)
    omega
  · show ((((L + R) / 2 : Nat) : Int) - ((L : Nat) : Int)) * 4 = (((L + R) / 2 * 4 - L * 4 : Nat) : Int)
    omega
theorem in_lev0 (xv : Int) (L R : Nat) (_hx : PB xv) (h1 : L < R) (hR : R ≤ 60) (hj : R - L ≤ 1) (x : Ix) (vs : List Value) (tx tl tr : Nat) : Meets (mkV U b₁ b₂) (S_in (mkV U b₁ b₂) x 6 vs xv tx L R tl tr) := by
  have e : R = L + 1 := by omega
  subst e
  intro q hy
  have hy' : L + 1 ≤ vs.length ∧ vs.length ≤ 60 := hy
  exact in_leaf G x vs xv tx L tl tr (by omega) q hy
theorem in_lev1 (xv : Int) (L R : Nat) (hx : PB xv) (h1 : L < R) (hR : R ≤ 60) (hj : R - L ≤ 2) (x : Ix) (vs : List Value) (tx tl tr : Nat) : Meets (mkV U b₁ b₂) (S_in (mkV U b₁ b₂) x 9 vs xv tx L R tl tr) := by
  by_cases hs : R - L ≤ 1
  · exact (in_lev0 G xv L R hx h1 hR hs x vs tx tl tr).up (d := 9) (by show 6 ≤ 9; decide)
  · obtain ⟨lo, up, mid, s, hm, C⟩ := cs_in_ok (V := mkV U b₁ b₂) (b := 6) (j := 1) (L := L) (R := R) hx (by omega) hR (by omega) (fun xv L R hx h1 hR hj => in_lev0 G xv L R hx h1 hR hj)
    refine Meets.hyp fun hy => ?_
    have hy' : R ≤ vs.length ∧ vs.length ≤ 60 := hy
    have k0 : mid ≤ vs.length ∧ vs.length ≤ 60 := ⟨Nat.le_trans hm hy'.1, hy'.2⟩
    have k1 : ∀ l : List Value, (l.length = vs.length ∧ (AllInt vs → AllInt l)) → R ≤ l.length ∧ l.length ≤ 60 := fun l h => by rw [h.1]; exact hy'
    exact meets_hp G C 159 [.l 0, .l 1, .l 0, .l 0, .l 0, .l 0, .l 0, .l 0, .e (some 1) 0 [] ⟨#[95, 105, 110, 116, 50, 100, 105, 103, 105, 116, 115, 46, 60, 108, 111, 99, 97, 108, 115, 62, 46, 105, 110, 110, 101, 114, 46, 60, 108, 111, 99, 97, 108, 115, 62, 46]⟩, .l 0, .i, .l 0, .c 0 [], .l 0, .l 0, .i, .c 1 [], .l 0, .l 0, .l 0, .l 0, .i, .l 5, .c 2 [], .l 0, .l 0, .l 0, .l 0, .c 3 [], .l 0, .l 0, .l 0, .l 0, .l 0, .c 4 [], .c 5 [], .l 0, .l 0, .l 3, .l 0, .l 0, .l 0, .l 1, .ch 6 [1, 1, 1, 1, 1, 1] 0, .l 2, .l 6, .l 6, .l 6, .l 0, .ch 7 [0, 0, 0, 0, 0, 0] 1] (fun tk P => ⟨fun _ => 0, fun _ => 0, fun _ => ⟨#[]⟩, fun i => match i with | 0 => (P 8).s.v 0 | _ => []⟩)
      (fun tk P => [((P 8).s.v 0).length = ((P 7).s.v 0).length ∧ (AllInt ((P 7).s.v 0) → AllInt ((P 8).s.v 0)), ((P 7).s.v 0).length = vs.length ∧ (AllInt vs → AllInt ((P 7).s.v 0))]) [0, 0, 0, 0, 0, 0]
      (fun tk P m => match m with | 0 => ⟨_, k0⟩ | _ => ⟨_, k1 ((P 7).s.v 0)⟩) (fun tk P h => ⟨(h _ (.head _)).1.trans (h _ (.tail _ (.head _))).1, fun a => (h _ (.head _)).2 ((h _ (.tail _ (.head _))).2 a)⟩) (fun tk P => by exact Bool.casesOn b₁ (by kernel_rfl!) (by kernel_rfl!))
theorem in_lev2 (xv : Int) (L R : Nat) (hx : PB xv) (h1 : L < R) (hR : R ≤ 60) (hj : R - L ≤ 4) (x : Ix) (vs : List Value) (tx tl tr : Nat) : Meets (mkV U b₁ b₂) (S_in (mkV U b₁ b₂) x 12 vs xv tx L R tl tr) := by
  by_cases hs : R - L ≤ 2
  · exact (in_lev1 G xv L R hx h1 hR hs x vs tx tl tr).up (d := 12) (by show 9 ≤ 12; decide)
  · obtain ⟨lo, up, mid, s, hm, C⟩ := cs_in_ok (V := mkV U b₁ b₂) (b := 9) (j := 2) (L := L) (R := R) hx (by omega) hR (by omega) (fun xv L R hx h1 hR hj => in_lev1 G xv L R hx h1 hR hj)
    refine Meets.hyp fun hy => ?_
    have hy' : R ≤ vs.length ∧ vs.length ≤ 60 := hy
    have k0 : mid ≤ vs.length ∧ vs.length ≤ 60 := ⟨Nat.le_trans hm hy'.1, hy'.2⟩
    have k1 : ∀ l : List Value, (l.length = vs.length ∧ (AllInt vs → AllInt l)) → R ≤ l.length ∧ l.length ≤ 60 := fun l h => by rw [h.1]; exact hy'
    exact meets_hp G C 159 [.l 0, .l 1, .l 0, .l 0, .l 0, .l 0, .l 0, .l 0, .e (some 1) 0 [] ⟨#[95, 105, 110, 116, 50, 100, 105, 103, 105, 116, 115, 46, 60, 108, 111, 99, 97, 108, 115, 62, 46, 105, 110, 110, 101, 114, 46, 60, 108, 111, 99, 97, 108, 115, 62, 46]⟩, .l 0, .i, .l 0, .c 0 [], .l 0, .l 0, .i, .c 1 [], .l 0, .l 0, .l 0, .l 0, .i, .l 5, .c 2 [], .l 0, .l 0, .l 0, .l 0, .c 3 [], .l 0, .l 0, .l 0, .l 0, .l 0, .c 4 [], .c 5 [], .l 0, .l 0, .l 3, .l 0, .l 0, .l 0, .l 1, .ch 6 [1, 1, 1, 1, 1, 1] 0, .l 2, .l 6, .l 6, .l 6, .l 0, .ch 7 [0, 0, 0, 0, 0, 0] 1] (fun tk P => ⟨fun _ => 0, fun _ => 0, fun _ => ⟨#[]⟩, fun i => match i with | 0 => (P 8).s.v 0 | _ => []⟩)
      (fun tk P => [((P 8).s.v 0).length = ((P 7).s.v 0).length ∧ (AllInt ((P 7).s.v 0) → AllInt ((P 8).s.v 0)), ((P 7).s.v 0).length = vs.length ∧ (AllInt vs → AllInt ((P 7).s.v 0))]) [0, 0, 0, 0, 0, 0]
      (fun tk P m => match m with | 0 => ⟨_, k0⟩ | _ => ⟨_, k1 ((P 7).s.v 0)⟩) (fun tk P h => ⟨(h _ (.head _)).1.trans (h _ (.tail _ (.head _))).1, fun a => (h _ (.head _)).2 ((h _ (.tail _ (.head _))).2 a)⟩) (fun tk P => by exact Bool.casesOn b₁ (by kernel_rfl!) (by kernel_rfl!))
theorem in_lev3 (xv : Int) (L R : Nat) (hx : PB xv) (h1 : L < R) (hR : R ≤ 60) (hj : R - L ≤ 8) (x : Ix) (vs : List Value) (tx tl tr : Nat) : Meets (mkV U b₁ b₂) (S_in (mkV U b₁ b₂) x 15 vs xv tx L R tl tr) := by
  by_cases hs : R - L ≤ 4
  · exact (in_lev2 G xv L R hx h1 hR hs x vs tx tl tr).up (d := 15) (by show 12 ≤ 15; decide)
  · obtain ⟨lo, up, mid, s, hm, C⟩ := cs_in_ok (V := mkV U b₁ b₂) (b := 12) (j := 4) (L := L) (R := R) hx (by omega) hR (by omega) (fun xv L R hx h1 hR hj => in_lev2 G xv L R hx h1 hR hj)
    refine Meets.hyp fun hy => ?_
    have hy' : R ≤ vs.length ∧ vs.length ≤ 60 := hy
    have k0 : mid ≤ vs.length ∧ vs.length ≤ 60 := ⟨Nat.le_trans hm hy'.1, hy'.2⟩
    have k1 : ∀ l : List Value, (l.length = vs.length ∧ (AllInt vs → AllInt l)) → R ≤ l.length ∧ l.length ≤ 60 := fun l h => by rw [h.1]; exact hy'
    exact meets_hp G C 159 [.l 0, .l 1, .l 0, .l 0, .l 0, .l 0, .l 0, .l 0, .e (some 1) 0 [] ⟨#[95, 105, 110, 116, 50, 100, 105, 103, 105, 116, 115, 46, 60, 108, 111, 99, 97, 108, 115, 62, 46, 105, 110, 110, 101, 114, 46, 60, 108, 111, 99, 97, 108, 115, 62, 46]⟩, .l 0, .i, .l 0, .c 0 [], .l 0, .l 0, .i, .c 1 [], .l 0, .l 0, .l 0, .l 0, .i, .l 5, .c 2 [], .l 0, .l 0, .l 0, .l 0, .c 3 [], .l 0, .l 0, .l 0, .l 0, .l 0, .c 4 [], .c 5 [], .l 0, .l 0, .l 3, .l 0, .l 0, .l 0, .l 1, .ch 6 [1, 1, 1, 1, 1, 1] 0, .l 2, .l 6, .l 6, .l 6, .l 0, .ch 7 [0, 0, 0, 0, 0, 0] 1] (fun tk P => ⟨fun _ => 0, fun _ => 0, fun _ => ⟨#[]⟩, fun i => match i with | 0 => (P 8).s.v 0 | _ => []⟩)
      (fun tk P => [((P 8).s.v 0).length = ((P 7).s.v 0).length ∧ (AllInt ((P 7).s.v 0) → AllInt ((P 8).s.v 0)), ((P 7).s.v 0).length = vs.length ∧ (AllInt vs → AllInt ((P 7).s.v 0))]) [0, 0, 0, 0, 0, 0]
      (fun tk P m => match m with | 0 => ⟨_, k0⟩ | _ => ⟨_, k1 ((P 7).s.v 0)⟩) (fun tk P h => ⟨(h _ (.head _)).1.trans (h _ (.tail _ (.head _))).1, fun a => (h _ (.head _)).2 ((h _ (.tail _ (.head _))).2 a)⟩) (fun tk P => by exact Bool.casesOn b₁ (by kernel_rfl!) (by kernel_rfl!))
theorem in_lev4 (xv : Int) (L R : Nat) (hx : PB xv) (h1 : L < R) (hR : R ≤ 60) (hj : R - L ≤ 16) (x : Ix) (vs : List Value) (tx tl tr : Nat) : Meets (mkV U b₁ b₂) (S_in (mkV U b₁ b₂) x 18 vs xv tx L R tl tr) := by
  by_cases hs : R - L ≤ 8
  · exact (in_lev3 G xv L R hx h1 hR hs x vs tx tl tr).up (d := 18) (by show 15 ≤ 18; decide)
  · obtain ⟨lo, up, mid, s, hm, C⟩ := cs_in_ok (V := mkV U b₁ b₂) (b := 15) (j := 8) (L := L) (R := R) hx (by omega) hR (by omega) (fun xv L R hx h1 hR hj => in_lev3 G xv L R hx h1 hR hj)
    refine Meets.hyp fun hy => ?_
    have hy' : R ≤ vs.length ∧ vs.length ≤ 60 := hy
    have k0 : mid ≤ vs.length ∧ vs.length ≤ 60 := ⟨Nat.le_trans hm hy'.1, hy'.2⟩
    have k1 : ∀ l : List Value, (l.length = vs.length ∧ (AllInt vs → AllInt l)) → R ≤ l.length ∧ l.length ≤ 60 := fun l h => by rw [h.1]; exact hy'
    exact meets_hp G C 159 [.l 0, .l 1, .l 0, .l 0, .l 0, .l 0, .l 0, .l 0, .e (some 1) 0 [] ⟨#[95, 105, 110, 116, 50, 100, 105, 103, 105, 116, 115, 46, 60, 108, 111, 99, 97, 108, 115, 62, 46, 105, 110, 110, 101, 114, 46, 60, 108, 111, 99, 97, 108, 115, 62, 46]⟩, .l 0, .i, .l 0, .c 0 [], .l 0, .l 0, .i, .c 1 [], .l 0, .l 0, .l 0, .l 0, .i, .l 5, .c 2 [], .l 0, .l 0, .l 0, .l 0, .c 3 [], .l 0, .l 0, .l 0, .l 0, .l 0, .c 4 [], .c 5 [], .l 0, .l 0, .l 3, .l 0, .l 0, .l 0, .l 1, .ch 6 [1, 1, 1, 1, 1, 1] 0, .l 2, .l 6, .l 6, .l 6, .l 0, .ch 7 [0, 0, 0, 0, 0, 0] 1] (fun tk P => ⟨fun _ => 0, fun _ => 0, fun _ => ⟨#[]⟩, fun i => match i with | 0 => (P 8).s.v 0 | _ => []⟩)
      (fun tk P => [((P 8).s.v 0).length = ((P 7).s.v 0).length ∧ (AllInt ((P 7).s.v 0) → AllInt ((P 8).s.v 0)), ((P 7).s.v 0).length = vs.length ∧ (AllInt vs → AllInt ((P 7).s.v 0))]) [0, 0, 0, 0, 0, 0]
      (fun tk P m => match m with | 0 => ⟨_, k0⟩ | _ => ⟨_, k1 ((P 7).s.v 0)⟩) (fun tk P h => ⟨(h _ (.head _)).1.trans (h _ (.tail _ (.head _))).1, fun a => (h _ (.head _)).2 ((h _ (.tail _ (.head _))).2 a)⟩) (fun tk P => by exact Bool.casesOn b₁ (by kernel_rfl!) (by kernel_rfl!))
theorem in_lev5 (xv : Int) (L R : Nat) (hx : PB xv) (h1 : L < R) (hR : R ≤ 60) (hj : R - L ≤ 32) (x : Ix) (vs : List Value) (tx tl tr : Nat) : Meets (mkV U b₁ b₂) (S_in (mkV U b₁ b₂) x 21 vs xv tx L R tl tr) := by
  by_cases hs : R - L ≤ 16
  · exact (in_lev4 G xv L R hx h1 hR hs x vs tx tl tr).up (d := 21) (by show 18 ≤ 21; decide)
  · obtain ⟨lo, up, mid, s, hm, C⟩ := cs_in_ok (V := mkV U b₁ b₂) (b := 18) (j := 16) (L := L) (R := R) hx (by omega) hR (by omega) (fun xv L R hx h1 hR hj => in_lev4 G xv L R hx h1 hR hj)
    refine Meets.hyp fun hy => ?_
    have hy' : R ≤ vs.length ∧ vs.length ≤ 60 := hy
    have k0 : mid ≤ vs.length ∧ vs.length ≤ 60 := ⟨Nat.le_trans hm hy'.1, hy'.2⟩
    have k1 : ∀ l : List Value, (l.length = vs.length ∧ (AllInt vs → AllInt l)) → R ≤ l.length ∧ l.length ≤ 60 := fun l h => by rw [h.1]; exact hy'
    exact meets_hp G C 159 [.l 0, .l 1, .l 0, .l 0, .l 0, .l 0, .l 0, .l 0, .e (some 1) 0 [] ⟨#[95, 105, 110, 116, 50, 100, 105, 103, 105, 116, 115, 46, 60, 108, 111, 99, 97, 108, 115, 62, 46, 105, 110, 110, 101, 114, 46, 60, 108, 111, 99, 97, 108, 115, 62, 46]⟩, .l 0, .i, .l 0, .c 0 [], .l 0, .l 0, .i, .c 1 [], .l 0, .l 0, .l 0, .l 0, .i, .l 5, .c 2 [], .l 0, .l 0, .l 0, .l 0, .c 3 [], .l 0, .l 0, .l 0, .l 0, .l 0, .c 4 [], .c 5 [], .l 0, .l 0, .l 3, .l 0, .l 0, .l 0, .l 1, .ch 6 [1, 1, 1, 1, 1, 1] 0, .l 2, .l 6, .l 6, .l 6, .l 0, .ch 7 [0, 0, 0, 0, 0, 0] 1] (fun tk P => ⟨fun _ => 0, fun _ => 0, fun _ => ⟨#[]⟩, fun i => match i with | 0 => (P 8).s.v 0 | _ => []⟩)
      (fun tk P => [((P 8).s.v 0).length = ((P 7).s.v 0).length ∧ (AllInt ((P 7).s.v 0) → AllInt ((P 8).s.v 0)), ((P 7).s.v 0).length = vs.length ∧ (AllInt vs → AllInt ((P 7).s.v 0))]) [0, 0, 0, 0, 0, 0]
      (fun tk P m => match m with | 0 => ⟨_, k0⟩ | _ => ⟨_, k1 ((P 7).s.v 0)⟩) (fun tk P h => ⟨(h _ (.head _)).1.trans (h _ (.tail _ (.head _))).1, fun a => (h _ (.head _)).2 ((h _ (.tail _ (.head _))).2 a)⟩) (fun tk P => by exact Bool.casesOn b₁ (by kernel_rfl!) (by kernel_rfl!))
end
end Mine
end
section
set_option maxHeartbeats 0
set_option maxRecDepth 100000
namespace Mine
open PySem PySem.W PySem.W.X PyProof.Rows
/-- '_digits2int.<locals>.inner' -/
noncomputable def qInner2 : Str := ⟨#[95, 100, 105, 103, 105, 116, 115, 50, 105, 110, 116, 46, 60, 108, 111, 99, 97, 108, 115, 62, 46, 105, 110, 110, 101, 114]⟩
noncomputable def hdV (w : List Value) : Value := match w with
  | v :: _ => v
  | [] => .none
/-- a code object, as far as a call looks -/
noncomputable def codeX (q : Str) (t : Nat) (w : List Value) : Obj := codeO (hdV w :: .str q t :: w.tail)
/-- a table with one more entry: a def's place and its code -/
noncomputable def grown (V : VV) (a : Addr) (line col : Int) (c : Addr) : Obj := tableObj (topTab V a ++ #[.int line 0, .int col 0, .ref c])
noncomputable def S_dm (V : VV) (D : Int) (ta tb : Nat) (c1 c2 : Addr) (t1 t2 : Nat) (v1 v2 : List Value) (q : Int) : Spec where
  need := true
  d := 60
  code := .call (.ref 73) ⟨[.int D ta, .int (Int.ofNat 257) tb], []⟩
  pre := [(47, grown V 47 33 4 c1), (c1, codeX qInner t1 v1), (54, grown V 54 48 4 c2), (c2, codeX qInner2 t2 v2)]
  hasFact := false
  fact := fun _ => True
  res := fun σ => .ok (.ret (.ref (σ.n 0)))
  post := fun σ => [(σ.n 0, { cls := .type "tuple", data := .seq #[.int q (σ.n 1), .int (Int.ofNat 0) (σ.n 2)] 0 })]
/-- a << b on written ints -/
noncomputable def C_slL : Code → Ldg → Spec := fun c _ => match c with
  | .call (.builtin id) ⟨[.int a _, .int b _], []⟩ => bSpec c (S.eqLit 1954753560319954399567331122835306 id && (Nat.ble (Builtin.Int.intBits a) 200 && (Int.ble' 0 b && Int.ble' b 200))) (fun σ => .int (a * 2 ^ b.toNat) (σ.n 0))
  | _ => never c
noncomputable def C_imL : Code → Ldg → Spec := fun c _ => match c with
  | .call (.builtin id) ⟨[.int a _, .int b _], []⟩ => bSpec c (S.eqLit 116512245094328231196454762 id && Nat.ble (Builtin.Int.intBits b) 64) (fun σ => .int (a * b) (σ.n 0))
  | _ => never c
noncomputable def C_bitsL : Code → Ldg → Spec := fun c _ => match c with
  | .call (.builtin id) ⟨[.int a _], []⟩ => bSpec c (S.eqLit 2138955024513080746059204096520042 id) (fun σ => .int (Int.ofNat (Builtin.Int.intBits a)) (σ.n 0))
  | _ => never c
noncomputable def C_xoL : Code → Ldg → Spec := fun c _ => match c with
  | .call (.builtin id) ⟨[.int a _, .int b _], []⟩ => bSpec c (S.eqLit 116512355345543333970014058 id) (fun σ => .int (Builtin.bitXor a b) (σ.n 0))
  | _ => never c
noncomputable def C_dvL : Code → Ldg → Spec := fun c _ => match c with
  | .call (.builtin id) ⟨[.int a _, .int b _], []⟩ => { need := S.eqLit 1954748619459276632098664420306794 id && (nz b && (Builtin.divisionGoesByPylong a b == false)), d := 1, code := c, pre := [], hasFact := false, fact := (fun _ => True), res := fun σ => .ok (.ret (.ref (σ.n 0))), post := fun σ => [(σ.n 0, tupO #[.int (Int.fdiv a b) (σ.n 1), .int (Int.fmod a b) (σ.n 2)])] }
  | _ => never c
theorem C_slL_ok {V : VV} (c : Code) (l : Ldg) : Meets V (C_slL c l) := by
  unfold C_slL
  split
  · rename_i id a t b u
    intro q
    have h0 := q
    simp only [bSpec, Bool.and_eq_true] at q
    have m := C_sl_ok (V := V) (a := a) (b := b) (Nat.le_of_ble_eq_true q.2.1) (le_of_ble' q.2.2.1) (le_of_ble' q.2.2.2) rfl (.call (.builtin id) ⟨[.int a t, .int b u], []⟩) l
    exact m q.1
  · exact never_meets
theorem C_imL_ok {V : VV} (c : Code) (l : Ldg) : Meets V (C_imL c l) := by
  unfold C_imL
  split
  · rename_i id a t b u
    intro q
    have h0 := q
    simp only [bSpec, Bool.and_eq_true] at q
    exact C_im_ok (V := V) (IntMulOk.of_right (Nat.le_of_ble_eq_true q.2)) rfl (.call (.builtin id) ⟨[.int a t, .int b u], []⟩) l q.1
  · exact never_meets
theorem C_bitsL_ok {V : VV} (c : Code) (l : Ldg) : Meets V (C_bitsL c l) := by
  unfold C_bitsL
  split
  · rename_i id a t
    exact C_bits_ok (V := V) rfl (.call (.builtin id) ⟨[.int a t], []⟩) l
  · exact never_meets
theorem C_xoL_ok {V : VV} (c : Code) (l : Ldg) : Meets V (C_xoL c l) := by
  unfold C_xoL
  split
  · rename_i id a t b u
    exact C_xo_ok (V := V) rfl (.call (.builtin id) ⟨[.int a t, .int b u], []⟩) l
  · exact never_meets
theorem meets_divmod {a b : Int} {t u : Tok} (hb : (b == 0) = false) (hp : Builtin.divisionGoesByPylong a b = false) :
    PySem.Meets (Builtin.«int.__divmod__» ⟨[.int a t, .int b u], []⟩) (fun _ R s => R (.ok (.ret (.ref s.heap.objs.size))) { s with toks := s.toks + 1 + 1, heap := s.heap.push (tupO #[.int (a.fdiv b) s.toks, .int (a.fmod b) (s.toks + 1)]) }) :=
  .of_wp fun prog w A R s h => by
    show wpAny _ _ (do
      if b == 0 then rule "int.divmod.zero"; raiseError "ZeroDivisionError" "integer division or modulo by zero"
      Builtin.roomForPylong a b
      ret (← newTuple [← mkInt (a.fdiv b), ← mkInt (a.fmod b)])) _ _ s
    simp only [hb, Bool.false_eq_true, if_false, pure_bind]
    refine wpAny_bind (wpAny_roomForPylong (.inl hp) ?_)
    exact wpAny_bind (wpAny_mkInt (wpAny_bind (wpAny_mkInt (wpAny_bind (wpAny_newTuple (wpAny_pure ⟨_, rfl, h⟩))))))
theorem C_dvL_ok {V : VV} (c : Code) (l : Ldg) : Meets V (C_dvL c l) := by
  unfold C_dvL
  split
  · rename_i id a t b u
    intro q
    have h0 := q
    simp only [Bool.and_eq_true] at q
    have e0 := id_of q.1 (s := "int.__divmod__") (by decide +kernel)
    subst e0
    refine con_L F.slot_int_divmod F.entry_int_divmod (F.args_int_divmod_2 _ _) (meets_divmod (by have := nz_is q.2.1; simpa using this) (by simpa using q.2.2)) rfl (fun _ A h F₀ tk D => ?_) h0
    exact ⟨rfl, _, tk + 1 + 1, _, rfl, D.alloc (o := tupO #[.int (Int.fdiv a b) (tk + 1), .int (Int.fmod a b) (tk + 1 + 1)]) rfl, by omega, ⟨fun i => match i with | 0 => h.objs.size | 1 => tk + 1 | _ => tk + 1 + 1, fun _ => 0, fun _ => ⟨#[]⟩, fun _ => []⟩, trivial, trivial, rfl, rfl⟩
  · exact never_meets
noncomputable def csL : List (Code → Ldg → Spec) := [C_mod, C_fdiv, C_shr, C_pow, C_slL, C_imL, C_bitsL, C_xoL, C_dvL]
theorem csL_ok {V : VV} : CsOk V csL := ⟨C_mod_ok, C_fdiv_ok, C_shr_ok, C_pow_ok, C_slL_ok, C_imL_ok, C_bitsL_ok, C_xoL_ok, C_dvL_ok, trivial⟩
end Mine
end
section
set_option maxRecDepth 100000
set_option maxHeartbeats 0
namespace Mine
open PySem PySem.W PySem.W.X PyProof.Rows
noncomputable def rotQ (s : Nat) : Nat := match s with
  | 0 => 228
  | 1 => 57
  | 2 => 78
  | _ => 147
section
variable {U : Un} {b₁ b₂ : Bool} (G : Good (mkV U b₁ b₂))
include G
theorem dm_meets (s : Nat) (hs : s < 4) (ta tb c1 c2 t1 t2 : Nat) (v1 v2 : List Value) : Meets (mkV U b₁ b₂) (S_dm (mkV U b₁ b₂) (Int.ofNat (rotQ s * 257)) ta tb c1 c2 t1 t2 v1 v2 (Int.ofNat (rotQ s))) := by
  match s, hs with
  | 0, _ => exact meets_of G csL_ok 1287 [.t, .t, .l 0, .l 0, .l 0, .l 0, .e none 0 [] ⟨#[105, 110, 116, 95, 100, 105, 118, 109, 111, 100, 46, 60, 108, 111, 99, 97, 108, 115, 62, 46]⟩, .l 0, .i, .l 0, .i, .l 0, .i, .t, .l 0, .l 0, .t, .i, .t, .t, .l 0, .l 0, .l 0, .l 0, .e none 0 [] ⟨#[95, 100, 105, 118, 109, 111, 100, 95, 112, 111, 115, 46, 60, 108, 111, 99, 97, 108, 115, 62, 46]⟩, .l 0, .c 6 [], .l 0, .l 0, .t, .l 0, .l 0, .t, .i, .t, .t, .l 3, .l 3, .l 2, .l 2, .e none 3 [(⟨#[105, 110, 110, 101, 114]⟩, 0), (⟨#[97, 95, 100, 105, 103, 105, 116, 115]⟩, 1), (⟨#[110]⟩, 2)] ⟨#[95, 105, 110, 116, 50, 100, 105, 103, 105, 116, 115, 46, 60, 108, 111, 99, 97, 108, 115, 62, 46]⟩, .l 4, .c 6 [], .l 3, .i, .i, .l 3, .c 1 [], .l 0, .i, .l 0, .l 0, .i, .l 0, .l 0, .l 3, .l 3, .t, .l 9, .t, .t, .t, .l 4, .l 4, .l 7, .i, .l 4, .l 7, .t, .t, .l 5, .i, .l 2, .i, .l 2, .l 2, .l 0, .i, .l 0, .l 11, .l 0, .l 0, .l 0, .l 0, .l 0, .l 0, .e (some 1) 0 [] ⟨#[95, 105, 110, 116, 50, 100, 105, 103, 105, 116, 115, 46, 60, 108, 111, 99, 97, 108, 115, 62, 46, 105, 110, 110, 101, 114, 46, 60, 108, 111, 99, 97, 108, 115, 62, 46]⟩, .l 0, .i, .l 0, .i, .l 0, .l 0, .i, .c 2 [], .l 0, .l 0, .l 0, .l 0, .i, .l 7, .c 5 [], .l 0, .l 0, .l 0, .l 0, .c 2 [], .l 0, .l 0, .l 0, .l 0, .l 0, .c 4 [], .c 7 [], .l 0, .l 0, .l 5, .l 0, .l 0, .l 0, .l 1, .i, .l 1, .l 12, .l 0, .l 0, .l 0, .l 0, .l 0, .l 0, .e (some 2) 0 [] ⟨#[95, 105, 110, 116, 50, 100, 105, 103, 105, 116, 115, 46, 60, 108, 111, 99, 97, 108, 115, 62, 46, 105, 110, 110, 101, 114, 46, 60, 108, 111, 99, 97, 108, 115, 62, 46]⟩, .l 0, .i, .l 0, .i, .l 0, .l 7, .l 0, .l 4, .l 4, .i, .l 4, .l 4, .l 4, .l 4, .l 6, .l 1, .l 1, .l 1, .l 2, .i, .l 2, .l 13, .l 0, .l 0, .l 0, .l 0, .l 0, .l 0, .e (some 3) 0 [] ⟨#[95, 105, 110, 116, 50, 100, 105, 103, 105, 116, 115, 46, 60, 108, 111, 99, 97, 108, 115, 62, 46, 105, 110, 110, 101, 114, 46, 60, 108, 111, 99, 97, 108, 115, 62, 46]⟩, .l 0, .i, .l 0, .i, .l 0, .l 8, .l 0, .l 5, .l 5, .i, .l 5, .l 5, .l 5, .l 5, .l 8, .l 11, .l 11, .l 11, .l 11, .l 12, .l 12, .t, .t, .l 12, .i, .i, .l 6, .i, .l 6, .l 6, .l 0, .l 0, .l 0, .i, .l 0, .l 0, .i, .l 0, .i, .l 0, .l 0, .l 0, .l 7, .l 0, .l 0, .l 13, .l 13, .t, .l 13, .l 13, .c 4 [], .l 13, .i, .l 13, .l 13, .t, .i, .t, .t, .l 0, .l 0, .l 0, .l 0, .l 0, .l 0, .e none 0 [] ⟨#[95, 100, 105, 118, 50, 110, 49, 110, 46, 60, 108, 111, 99, 97, 108, 115, 62, 46]⟩, .l 0, .c 6 [], .l 0, .i, .t, .i, .t, .t, .l 0, .l 0, .i, .c 8 [], .l 0, .l 0, .l 0, .i, .l 0, .l 0, .l 0, .i, .l 0, .l 0, .l 0, .l 1, .l 0, .l 0, .l 0, .i, .l 0, .l 0, .l 0, .l 1, .l 0, .l 0, .l 0, .i, .l 0, .l 0, .l 0, .l 1, .l 0, .l 0, .l 0, .l 18, .l 18, .l 18, .l 18, .l 18, .l 6, .l 6, .l 6, .l 6, .l 18, .i, .l 6, .l 6, .l 6, .l 6, .l 5, .i, .l 5, .l 5, .l 5, .l 12, .l 5, .l 5, .l 18, .l 18, .t, .l 18, .l 18, .c 4 [], .l 18, .i, .l 18, .l 18, .t, .i, .t, .t, .l 0, .l 0, .l 0, .l 0, .l 0, .l 0, .e none 0 [] ⟨#[95, 100, 105, 118, 50, 110, 49, 110, 46, 60, 108, 111, 99, 97, 108, 115, 62, 46]⟩, .l 0, .c 6 [], .l 0, .i, .t, .i, .t, .t, .l 0, .l 0, .i, .c 8 [], .l 0, .l 0, .l 0, .i, .l 0, .l 0, .l 0, .i, .l 0, .l 0, .l 0, .l 1, .l 0, .l 0, .l 0, .i, .l 0, .l 0, .l 0, .l 1, .l 0, .l 0, .l 0, .i, .l 0, .l 0, .l 0, .l 1, .l 0, .l 0, .l 0, .l 23, .l 23, .l 23, .l 23, .l 23, .l 11, .l 11, .l 11, .l 11, .l 23, .i, .l 11, .l 11, .l 11, .l 11, .l 10, .i, .l 10, .l 10, .l 0, .l 25, .l 13, .l 13, .l 13, .l 13, .i, .l 13, .l 13, .l 13, .l 13, .t, .l 25, .l 25, .t, .i, .t, .t, .l 2, .l 2, .l 1, .l 1, .e none 3 [(⟨#[105, 110, 110, 101, 114]⟩, 0), (⟨#[110]⟩, 1), (⟨#[100, 105, 103, 105, 116, 115]⟩, 2)] ⟨#[95, 100, 105, 103, 105, 116, 115, 50, 105, 110, 116, 46, 60, 108, 111, 99, 97, 108, 115, 62, 46]⟩, .t, .l 34, .t, .t, .t, .l 2, .l 2, .l 4, .l 19, .l 19, .i, .l 19, .i, .l 19, .l 19, .l 2, .t, .t, .l 4, .i, .l 19, .i, .l 19, .l 19, .l 0, .i, .l 0, .l 36, .l 0, .l 0, .l 0, .l 0, .e (some 1) 0 [] ⟨#[95, 100, 105, 103, 105, 116, 115, 50, 105, 110, 116, 46, 60, 108, 111, 99, 97, 108, 115, 62, 46, 105, 110, 110, 101, 114, 46, 60, 108, 111, 99, 97, 108, 115, 62, 46]⟩, .l 0, .i, .l 0, .i, .l 0, .l 0, .i, .c 2 [], .l 0, .l 0, .l 0, .l 0, .i, .l 4, .c 5 [], .l 0, .l 0, .l 3, .l 0, .l 0, .l 1, .i, .l 1, .l 37, .l 0, .l 0, .l 0, .l 0, .e (some 2) 0 [] ⟨#[95, 100, 105, 103, 105, 116, 115, 50, 105, 110, 116, 46, 60, 108, 111, 99, 97, 108, 115, 62, 46, 105, 110, 110, 101, 114, 46, 60, 108, 111, 99, 97, 108, 115, 62, 46]⟩, .l 0, .i, .l 0, .i, .l 6, .l 0, .l 21, .l 21, .l 21, .i, .l 21, .l 21, .l 1, .c 4 [], .l 4, .l 1, .l 1, .l 2, .i, .l 2, .l 38, .l 0, .l 0, .l 0, .l 0, .e (some 3) 0 [] ⟨#[95, 100, 105, 103, 105, 116, 115, 50, 105, 110, 116, 46, 60, 108, 111, 99, 97, 108, 115, 62, 46, 105, 110, 110, 101, 114, 46, 60, 108, 111, 99, 97, 108, 115, 62, 46]⟩, .l 0, .i, .l 0, .i, .l 7, .l 0, .l 22, .l 22, .l 22, .i, .l 22, .l 22, .i, .l 34, .l 34, .l 34, .l 34] (fun tk P => ⟨fun i => match i with | 0 => ((P 51).s.n 0) | 1 => (Nat.succ (Nat.succ (Nat.succ (Nat.succ (Nat.succ ((P 49).tk)))))) | 2 => ((P 33).s.n 2) | _ => 0, fun _ => 0, fun _ => ⟨#[]⟩, fun _ => []⟩) (fun tk P => []) [0] (fun _ _ _ => trivial) (fun tk P => by exact Bool.casesOn b₁ (by kernel_rfl!) (by kernel_rfl!))
  | 1, _ => exact meets_of G csL_ok 1287 [.t, .t, .l 0, .l 0, .l 0, .l 0, .e none 0 [] ⟨#[105, 110, 116, 95, 100, 105, 118, 109, 111, 100, 46, 60, 108, 111, 99, 97, 108, 115, 62, 46]⟩, .l 0, .i, .l 0, .i, .l 0, .i, .t, .l 0, .l 0, .t, .i, .t, .t, .l 0, .l 0, .l 0, .l 0, .e none 0 [] ⟨#[95, 100, 105, 118, 109, 111, 100, 95, 112, 111, 115, 46, 60, 108, 111, 99, 97, 108, 115, 62, 46]⟩, .l 0, .c 6 [], .l 0, .l 0, .t, .l 0, .l 0, .t, .i, .t, .t, .l 3, .l 3, .l 2, .l 2, .e none 3 [(⟨#[105, 110, 110, 101, 114]⟩, 0), (⟨#[97, 95, 100, 105, 103, 105, 116, 115]⟩, 1), (⟨#[110]⟩, 2)] ⟨#[95, 105, 110, 116, 50, 100, 105, 103, 105, 116, 115, 46, 60, 108, 111, 99, 97, 108, 115, 62, 46]⟩, .l 4, .c 6 [], .l 3, .i, .i, .l 3, .c 1 [], .l 0, .i, .l 0, .l 0, .i, .l 0, .l 0, .l 3, .l 3, .t, .l 9, .t, .t, .t, .l 4, .l 4, .l 7, .i, .l 4, .l 7, .t, .t, .l 5, .i, .l 2, .i, .l 2, .l 2, .l 0, .i, .l 0, .l 11, .l 0, .l 0, .l 0, .l 0, .l 0, .l 0, .e (some 1) 0 [] ⟨#[95, 105, 110, 116, 50, 100, 105, 103, 105, 116, 115, 46, 60, 108, 111, 99, 97, 108, 115, 62, 46, 105, 110, 110, 101, 114, 46, 60, 108, 111, 99, 97, 108, 115, 62, 46]⟩, .l 0, .i, .l 0, .i, .l 0, .l 0, .i, .c 2 [], .l 0, .l 0, .l 0, .l 0, .i, .l 7, .c 5 [], .l 0, .l 0, .l 0, .l 0, .c 2 [], .l 0, .l 0, .l 0, .l 0, .l 0, .c 4 [], .c 7 [], .l 0, .l 0, .l 5, .l 0, .l 0, .l 0, .l 1, .i, .l 1, .l 12, .l 0, .l 0, .l 0, .l 0, .l 0, .l 0, .e (some 2) 0 [] ⟨#[95, 105, 110, 116, 50, 100, 105, 103, 105, 116, 115, 46, 60, 108, 111, 99, 97, 108, 115, 62, 46, 105, 110, 110, 101, 114, 46, 60, 108, 111, 99, 97, 108, 115, 62, 46]⟩, .l 0, .i, .l 0, .i, .l 0, .l 7, .l 0, .l 4, .l 4, .i, .l 4, .l 4, .l 4, .l 4, .l 6, .l 1, .l 1, .l 1, .l 2, .i, .l 2, .l 13, .l 0, .l 0, .l 0, .l 0, .l 0, .l 0, .e (some 3) 0 [] ⟨#[95, 105, 110, 116, 50, 100, 105, 103, 105, 116, 115, 46, 60, 108, 111, 99, 97, 108, 115, 62, 46, 105, 110, 110, 101, 114, 46, 60, 108, 111, 99, 97, 108, 115, 62, 46]⟩, .l 0, .i, .l 0, .i, .l 0, .l 8, .l 0, .l 5, .l 5, .i, .l 5, .l 5, .l 5, .l 5, .l 8, .l 11, .l 11, .l 11, .l 11, .l 12, .l 12, .t, .t, .l 12, .i, .i, .l 6, .i, .l 6, .l 6, .l 0, .l 0, .l 0, .i, .l 0, .l 0, .i, .l 0, .i, .l 0, .l 0, .l 0, .l 7, .l 0, .l 0, .l 13, .l 13, .t, .l 13, .l 13, .c 4 [], .l 13, .i, .l 13, .l 13, .t, .i, .t, .t, .l 0, .l 0, .l 0, .l 0, .l 0, .l 0, .e none 0 [] ⟨#[95, 100, 105, 118, 50, 110, 49, 110, 46, 60, 108, 111, 99, 97, 108, 115, 62, 46]⟩, .l 0, .c 6 [], .l 0, .i, .t, .i, .t, .t, .l 0, .l 0, .i, .c 8 [], .l 0, .l 0, .l 0, .i, .l 0, .l 0, .l 0, .i, .l 0, .l 0, .l 0, .l 1, .l 0, .l 0, .l 0, .i, .l 0, .l 0, .l 0, .l 1, .l 0, .l 0, .l 0, .i, .l 0, .l 0, .l 0, .l 1, .l 0, .l 0, .l 0, .l 18, .l 18, .l 18, .l 18, .l 18, .l 6, .l 6, .l 6, .l 6, .l 18, .i, .l 6, .l 6, .l 6, .l 6, .l 5, .i, .l 5, .l 5, .l 5, .l 12, .l 5, .l 5, .l 18, .l 18, .t, .l 18, .l 18, .c 4 [], .l 18, .i, .l 18, .l 18, .t, .i, .t, .t, .l 0, .l 0, .l 0, .l 0, .l 0, .l 0, .e none 0 [] ⟨#[95, 100, 105, 118, 50, 110, 49, 110, 46, 60, 108, 111, 99, 97, 108, 115, 62, 46]⟩, .l 0, .c 6 [], .l 0, .i, .t, .i, .t, .t, .l 0, .l 0, .i, .c 8 [], .l 0, .l 0, .l 0, .i, .l 0, .l 0, .l 0, .i, .l 0, .l 0, .l 0, .l 1, .l 0, .l 0, .l 0, .i, .l 0, .l 0, .l 0, .l 1, .l 0, .l 0, .l 0, .i, .l 0, .l 0, .l 0, .l 1, .l 0, .l 0, .l 0, .l 23, .l 23, .l 23, .l 23, .l 23, .l 11, .l 11, .l 11, .l 11, .l 23, .i, .l 11, .l 11, .l 11, .l 11, .l 10, .i, .l 10, .l 10, .l 0, .l 25, .l 13, .l 13, .l 13, .l 13, .i, .l 13, .l 13, .l 13, .l 13, .t, .l 25, .l 25, .t, .i, .t, .t, .l 2, .l 2, .l 1, .l 1, .e none 3 [(⟨#[105, 110, 110, 101, 114]⟩, 0), (⟨#[110]⟩, 1), (⟨#[100, 105, 103, 105, 116, 115]⟩, 2)] ⟨#[95, 100, 105, 103, 105, 116, 115, 50, 105, 110, 116, 46, 60, 108, 111, 99, 97, 108, 115, 62, 46]⟩, .t, .l 34, .t, .t, .t, .l 2, .l 2, .l 4, .l 19, .l 19, .i, .l 19, .i, .l 19, .l 19, .l 2, .t, .t, .l 4, .i, .l 19, .i, .l 19, .l 19, .l 0, .i, .l 0, .l 36, .l 0, .l 0, .l 0, .l 0, .e (some 1) 0 [] ⟨#[95, 100, 105, 103, 105, 116, 115, 50, 105, 110, 116, 46, 60, 108, 111, 99, 97, 108, 115, 62, 46, 105, 110, 110, 101, 114, 46, 60, 108, 111, 99, 97, 108, 115, 62, 46]⟩, .l 0, .i, .l 0, .i, .l 0, .l 0, .i, .c 2 [], .l 0, .l 0, .l 0, .l 0, .i, .l 4, .c 5 [], .l 0, .l 0, .l 3, .l 0, .l 0, .l 1, .i, .l 1, .l 37, .l 0, .l 0, .l 0, .l 0, .e (some 2) 0 [] ⟨#[95, 100, 105, 103, 105, 116, 115, 50, 105, 110, 116, 46, 60, 108, 111, 99, 97, 108, 115, 62, 46, 105, 110, 110, 101, 114, 46, 60, 108, 111, 99, 97, 108, 115, 62, 46]⟩, .l 0, .i, .l 0, .i, .l 6, .l 0, .l 21, .l 21, .l 21, .i, .l 21, .l 21, .l 1, .c 4 [], .l 4, .l 1, .l 1, .l 2, .i, .l 2, .l 38, .l 0, .l 0, .l 0, .l 0, .e (some 3) 0 [] ⟨#[95, 100, 105, 103, 105, 116, 115, 50, 105, 110, 116, 46, 60, 108, 111, 99, 97, 108, 115, 62, 46, 105, 110, 110, 101, 114, 46, 60, 108, 111, 99, 97, 108, 115, 62, 46]⟩, .l 0, .i, .l 0, .i, .l 7, .l 0, .l 22, .l 22, .l 22, .i, .l 22, .l 22, .i, .l 34, .l 34, .l 34, .l 34] (fun tk P => ⟨fun i => match i with | 0 => ((P 51).s.n 0) | 1 => (Nat.succ (Nat.succ (Nat.succ (Nat.succ (Nat.succ ((P 49).tk)))))) | 2 => ((P 33).s.n 2) | _ => 0, fun _ => 0, fun _ => ⟨#[]⟩, fun _ => []⟩) (fun tk P => []) [0] (fun _ _ _ => trivial) (fun tk P => by exact Bool.casesOn b₁ (by kernel_rfl!) (by kernel_rfl!))
  | 2, _ => exact meets_of G csL_ok 1287 [.t, .t, .l 0, .l 0, .l 0, .l 0, .e none 0 [] ⟨#[105, 110, 116, 95, 100, 105, 118, 109, 111, 100, 46, 60, 108, 111, 99, 97, 108, 115, 62, 46]⟩, .l 0, .i, .l 0, .i, .l 0, .i, .t, .l 0, .l 0, .t, .i, .t, .t, .l 0, .l 0, .l 0, .l 0, .e none 0 [] ⟨#[95, 100, 105, 118, 109, 111, 100, 95, 112, 111, 115, 46, 60, 108, 111, 99, 97, 108, 115, 62, 46]⟩, .l 0, .c 6 [], .l 0, .l 0, .t, .l 0, .l 0, .t, .i, .t, .t, .l 3, .l 3, .l 2, .l 2, .e none 3 [(⟨#[105, 110, 110, 101, 114]⟩, 0), (⟨#[97, 95, 100, 105, 103, 105, 116, 115]⟩, 1), (⟨#[110]⟩, 2)] ⟨#[95, 105, 110, 116, 50, 100, 105, 103, 105, 116, 115, 46, 60, 108, 111, 99, 97, 108, 115, 62, 46]⟩, .l 4, .c 6 [], .l 3, .i, .i, .l 3, .c 1 [], .l 0, .i, .l 0, .l 0, .i, .l 0, .l 0, .l 3, .l 3, .t, .l 9, .t, .t, .t, .l 4, .l 4, .l 7, .i, .l 4, .l 7, .t, .t, .l 5, .i, .l 2, .i, .l 2, .l 2, .l 0, .i, .l 0, .l 11, .l 0, .l 0, .l 0, .l 0, .l 0, .l 0, .e (some 1) 0 [] ⟨#[95, 105, 110, 116, 50, 100, 105, 103, 105, 116, 115, 46, 60, 108, 111, 99, 97, 108, 115, 62, 46, 105, 110, 110, 101, 114, 46, 60, 108, 111, 99, 97, 108, 115, 62, 46]⟩, .l 0, .i, .l 0, .i, .l 0, .l 0, .i, .c 2 [], .l 0, .l 0, .l 0, .l 0, .i, .l 7, .c 5 [], .l 0, .l 0, .l 0, .l 0, .c 2 [], .l 0, .l 0, .l 0, .l 0, .l 0, .c 4 [], .c 7 [], .l 0, .l 0, .l 5, .l 0, .l 0, .l 0, .l 1, .i, .l 1, .l 12, .l 0, .l 0, .l 0, .l 0, .l 0, .l 0, .e (some 2) 0 [] ⟨#[95, 105, 110, 116, 50, 100, 105, 103, 105, 116, 115, 46, 60, 108, 111, 99, 97, 108, 115, 62, 46, 105, 110, 110, 101, 114, 46, 60, 108, 111, 99, 97, 108, 115, 62, 46]⟩, .l 0, .i, .l 0, .i, .l 0, .l 7, .l 0, .l 4, .l 4, .i, .l 4, .l 4, .l 4, .l 4, .l 6, .l 1, .l 1, .l 1, .l 2, .i, .l 2, .l 13, .l 0, .l 0, .l 0, .l 0, .l 0, .l 0, .e (some 3) 0 [] ⟨#[95, 105, 110, 116, 50, 100, 105, 103, 105, 116, 115, 46, 60, 108, 111, 99, 97, 108, 115, 62, 46, 105, 110, 110, 101, 114, 46, 60, 108, 111, 99, 97, 108, 115, 62, 46]⟩, .l 0, .i, .l 0, .i, .l 0, .l 8, .l 0, .l 5, .l 5, .i, .l 5, .l 5, .l 5, .l 5, .l 8, .l 11, .l 11, .l 11, .l 11, .l 12, .l 12, .t, .t, .l 12, .i, .i, .l 6, .i, .l 6, .l 6, .l 0, .l 0, .l 0, .i, .l 0, .l 0, .i, .l 0, .i, .l 0, .l 0, .l 0, .l 7, .l 0, .l 0, .l 13, .l 13, .t, .l 13, .l 13, .c 4 [], .l 13, .i, .l 13, .l 13, .t, .i, .t, .t, .l 0, .l 0, .l 0, .l 0, .l 0, .l 0, .e none 0 [] ⟨#[95, 100, 105, 118, 50, 110, 49, 110, 46, 60, 108, 111, 99, 97, 108, 115, 62, 46]⟩, .l 0, .c 6 [], .l 0, .i, .t, .i, .t, .t, .l 0, .l 0, .i, .c 8 [], .l 0, .l 0, .l 0, .i, .l 0, .l 0, .l 0, .i, .l 0, .l 0, .l 0, .l 1, .l 0, .l 0, .l 0, .i, .l 0, .l 0, .l 0, .l 1, .l 0, .l 0, .l 0, .i, .l 0, .l 0, .l 0, .l 1, .l 0, .l 0, .l 0, .l 18, .l 18, .l 18, .l 18, .l 18, .l 6, .l 6, .l 6, .l 6, .l 18, .i, .l 6, .l 6, .l 6, .l 6, .l 5, .i, .l 5, .l 5, .l 5, .l 12, .l 5, .l 5, .l 18, .l 18, .t, .l 18, .l 18, .c 4 [], .l 18, .i, .l 18, .l 18, .t, .i, .t, .t, .l 0, .l 0, .l 0, .l 0, .l 0, .l 0, .e none 0 [] ⟨#[95, 100, 105, 118, 50, 110, 49, 110, 46, 60, 108, 111, 99, 97, 108, 115, 62, 46]⟩, .l 0, .c 6 [], .l 0, .i, .t, .i, .t, .t, .l 0, .l 0, .i, .c 8 [], .l 0, .l 0, .l 0, .i, .l 0, .l 0, .l 0, .i, .l 0, .l 0, .l 0, .l 1, .l 0, .l 0, .l 0, .i, .l 0, .l 0, .l 0, .l 1, .l 0, .l 0, .l 0, .i, .l 0, .l 0, .l 0, .l 1, .l 0, .l 0, .l 0, .l 23, .l 23, .l 23, .l 23, .l 23, .l 11, .l 11, .l 11, .l 11, .l 23, .i, .l 11, .l 11, .l 11, .l 11, .l 10, .i, .l 10, .l 10, .l 0, .l 25, .l 13, .l 13, .l 13, .l 13, .i, .l 13, .l 13, .l 13, .l 13, .t, .l 25, .l 25, .t, .i, .t, .t, .l 2, .l 2, .l 1, .l 1, .e none 3 [(⟨#[105, 110, 110, 101, 114]⟩, 0), (⟨#[110]⟩, 1), (⟨#[100, 105, 103, 105, 116, 115]⟩, 2)] ⟨#[95, 100, 105, 103, 105, 116, 115, 50, 105, 110, 116, 46, 60, 108, 111, 99, 97, 108, 115, 62, 46]⟩, .t, .l 34, .t, .t, .t, .l 2, .l 2, .l 4, .l 19, .l 19, .i, .l 19, .i, .l 19, .l 19, .l 2, .t, .t, .l 4, .i, .l 19, .i, .l 19, .l 19, .l 0, .i, .l 0, .l 36, .l 0, .l 0, .l 0, .l 0, .e (some 1) 0 [] ⟨#[95, 100, 105, 103, 105, 116, 115, 50, 105, 110, 116, 46, 60, 108, 111, 99, 97, 108, 115, 62, 46, 105, 110, 110, 101, 114, 46, 60, 108, 111, 99, 97, 108, 115, 62, 46]⟩, .l 0, .i, .l 0, .i, .l 0, .l 0, .i, .c 2 [], .l 0, .l 0, .l 0, .l 0, .i, .l 4, .c 5 [], .l 0, .l 0, .l 3, .l 0, .l 0, .l 1, .i, .l 1, .l 37, .l 0, .l 0, .l 0, .l 0, .e (some 2) 0 [] ⟨#[95, 100, 105, 103, 105, 116, 115, 50, 105, 110, 116, 46, 60, 108, 111, 99, 97, 108, 115, 62, 46, 105, 110, 110, 101, 114, 46, 60, 108, 111, 99, 97, 108, 115, 62, 46]⟩, .l 0, .i, .l 0, .i, .l 6, .l 0, .l 21, .l 21, .l 21, .i, .l 21, .l 21, .l 1, .c 4 [], .l 4, .l 1, .l 1, .l 2, .i, .l 2, .l 38, .l 0, .l 0, .l 0, .l 0, .e (some 3) 0 [] ⟨#[95, 100, 105, 103, 105, 116, 115, 50, 105, 110, 116, 46, 60, 108, 111, 99, 97, 108, 115, 62, 46, 105, 110, 110, 101, 114, 46, 60, 108, 111, 99, 97, 108, 115, 62, 46]⟩, .l 0, .i, .l 0, .i, .l 7, .l 0, .l 22, .l 22, .l 22, .i, .l 22, .l 22, .i, .l 34, .l 34, .l 34, .l 34] (fun tk P => ⟨fun i => match i with | 0 => ((P 51).s.n 0) | 1 => (Nat.succ (Nat.succ (Nat.succ (Nat.succ (Nat.succ ((P 49).tk)))))) | 2 => ((P 33).s.n 2) | _ => 0, fun _ => 0, fun _ => ⟨#[]⟩, fun _ => []⟩) (fun tk P => []) [0] (fun _ _ _ => trivial) (fun tk P => by exact Bool.casesOn b₁ (by kernel_rfl!) (by kernel_rfl!))
  | 3, _ => exact meets_of G csL_ok 1287 [.t, .t, .l 0, .l 0, .l 0, .l 0, .e none 0 [] ⟨#[105, 110, 116, 95, 100, 105, 118, 109, 111, 100, 46, 60, 108, 111, 99, 97, 108, 115, 62, 46]⟩, .l 0, .i, .l 0, .i, .l 0, .i, .t, .l 0, .l 0, .t, .i, .t, .t, .l 0, .l 0, .l 0, .l 0, .e none 0 [] ⟨#[95, 100, 105, 118, 109, 111, 100, 95, 112, 111, 115, 46, 60, 108, 111, 99, 97, 108, 115, 62, 46]⟩, .l 0, .c 6 [], .l 0, .l 0, .t, .l 0, .l 0, .t, .i, .t, .t, .l 3, .l 3, .l 2, .l 2, .e none 3 [(⟨#[105, 110, 110, 101, 114]⟩, 0), (⟨#[97, 95, 100, 105, 103, 105, 116, 115]⟩, 1), (⟨#[110]⟩, 2)] ⟨#[95, 105, 110, 116, 50, 100, 105, 103, 105, 116, 115, 46, 60, 108, 111, 99, 97, 108, 115, 62, 46]⟩, .l 4, .c 6 [], .l 3, .i, .i, .l 3, .c 1 [], .l 0, .i, .l 0, .l 0, .i, .l 0, .l 0, .l 3, .l 3, .t, .l 9, .t, .t, .t, .l 4, .l 4, .l 7, .i, .l 4, .l 7, .t, .t, .l 5, .i, .l 2, .i, .l 2, .l 2, .l 0, .i, .l 0, .l 11, .l 0, .l 0, .l 0, .l 0, .l 0, .l 0, .e (some 1) 0 [] ⟨#[95, 105, 110, 116, 50, 100, 105, 103, 105, 116, 115, 46, 60, 108, 111, 99, 97, 108, 115, 62, 46, 105, 110, 110, 101, 114, 46, 60, 108, 111, 99, 97, 108, 115, 62, 46]⟩, .l 0, .i, .l 0, .i, .l 0, .l 0, .i, .c 2 [], .l 0, .l 0, .l 0, .l 0, .i, .l 7, .c 5 [], .l 0, .l 0, .l 0, .l 0, .c 2 [], .l 0, .l 0, .l 0, .l 0, .l 0, .c 4 [], .c 7 [], .l 0, .l 0, .l 5, .l 0, .l 0, .l 0, .l 1, .i, .l 1, .l 12, .l 0, .l 0, .l 0, .l 0, .l 0, .l 0, .e (some 2) 0 [] ⟨#[95, 105, 110, 116, 50, 100, 105, 103, 105, 116, 115, 46, 60, 108, 111, 99, 97, 108, 115, 62, 46, 105, 110, 110, 101, 114, 46, 60, 108, 111, 99, 97, 108, 115, 62, 46]⟩, .l 0, .i, .l 0, .i, .l 0, .l 7, .l 0, .l 4, .l 4, .i, .l 4, .l 4, .l 4, .l 4, .l 6, .l 1, .l 1, .l 1, .l 2, .i, .l 2, .l 13, .l 0, .l 0, .l 0, .l 0, .l 0, .l 0, .e (some 3) 0 [] ⟨#[95, 105, 110, 116, 50, 100, 105, 103, 105, 116, 115, 46, 60, 108, 111, 99, 97, 108, 115, 62, 46, 105, 110, 110, 101, 114, 46, 60, 108, 111, 99, 97, 108, 115, 62, 46]⟩, .l 0, .i, .l 0, .i, .l 0, .l 8, .l 0, .l 5, .l 5, .i, .l 5, .l 5, .l 5, .l 5, .l 8, .l 11, .l 11, .l 11, .l 11, .l 12, .l 12, .t, .t, .l 12, .i, .i, .l 6, .i, .l 6, .l 6, .l 0, .l 0, .l 0, .i, .l 0, .l 0, .i, .l 0, .i, .l 0, .l 0, .l 0, .l 7, .l 0, .l 0, .l 13, .l 13, .t, .l 13, .l 13, .c 4 [], .l 13, .i, .l 13, .l 13, .t, .i, .t, .t, .l 0, .l 0, .l 0, .l 0, .l 0, .l 0, .e none 0 [] ⟨#[95, 100, 105, 118, 50, 110, 49, 110, 46, 60, 108, 111, 99, 97, 108, 115, 62, 46]⟩, .l 0, .c 6 [], .l 0, .i, .t, .i, .t, .t, .l 0, .l 0, .i, .c 8 [], .l 0, .l 0, .l 0, .i, .l 0, .l 0, .l 0, .i, .l 0, .l 0, .l 0, .l 1, .l 0, .l 0, .l 0, .i, .l 0, .l 0, .l 0, .l 1, .l 0, .l 0, .l 0, .i, .l 0, .l 0, .l 0, .l 1, .l 0, .l 0, .l 0, .l 18, .l 18, .l 18, .l 18, .l 18, .l 6, .l 6, .l 6, .l 6, .l 18, .i, .l 6, .l 6, .l 6, .l 6, .l 5, .i, .l 5, .l 5, .l 5, .l 12, .l 5, .l 5, .l 18, .l 18, .t, .l 18, .l 18, .c 4 [], .l 18, .i, .l 18, .l 18, .t, .i, .t, .t, .l 0, .l 0, .l 0, .l 0, .l 0, .l 0, .e none 0 [] ⟨#[95, 100, 105, 118, 50, 110, 49, 110, 46, 60, 108, 111, 99, 97, 108, 115, 62, 46]⟩, .l 0, .c 6 [], .l 0, .i, .t, .i, .t, .t, .l 0, .l 0, .i, .c 8 [], .l 0, .l 0, .l 0, .i, .l 0, .l 0, .l 0, .i, .l 0, .l 0, .l 0, .l 1, .l 0, .l 0, .l 0, .i, .l 0, .l 0, .l 0, .l 1, .l 0, .l 0, .l 0, .i, .l 0, .l 0, .l 0, .l 1, .l 0, .l 0, .l 0, .l 23, .l 23, .l 23, .l 23, .l 23, .l 11, .l 11, .l 11, .l 11, .l 23, .i, .l 11, .l 11, .l 11, .l 11, .l 10, .i, .l 10, .l 10, .l 0, .l 25, .l 13, .l 13, .l 13, .l 13, .i, .l 13, .l 13, .l 13, .l 13, .t, .l 25, .l 25, .t, .i, .t, .t, .l 2, .l 2, .l 1, .l 1, .e none 3 [(⟨#[105, 110, 110, 101, 114]⟩, 0), (⟨#[110]⟩, 1), (⟨#[100, 105, 103, 105, 116, 115]⟩, 2)] ⟨#[95, 100, 105, 103, 105, 116, 115, 50, 105, 110, 116, 46, 60, 108, 111, 99, 97, 108, 115, 62, 46]⟩, .t, .l 34, .t, .t, .t, .l 2, .l 2, .l 4, .l 19, .l 19, .i, .l 19, .i, .l 19, .l 19, .l 2, .t, .t, .l 4, .i, .l 19, .i, .l 19, .l 19, .l 0, .i, .l 0, .l 36, .l 0, .l 0, .l 0, .l 0, .e (some 1) 0 [] ⟨#[95, 100, 105, 103, 105, 116, 115, 50, 105, 110, 116, 46, 60, 108, 111, 99, 97, 108, 115, 62, 46, 105, 110, 110, 101, 114, 46, 60, 108, 111, 99, 97, 108, 115, 62, 46]⟩, .l 0, .i, .l 0, .i, .l 0, .l 0, .i, .c 2 [], .l 0, .l 0, .l 0, .l 0, .i, .l 4, .c 5 [], .l 0, .l 0, .l 3, .l 0, .l 0, .l 1, .i, .l 1, .l 37, .l 0, .l 0, .l 0, .l 0, .e (some 2) 0 [] ⟨#[95, 100, 105, 103, 105, 116, 115, 50, 105, 110, 116, 46, 60, 108, 111, 99, 97, 108, 115, 62, 46, 105, 110, 110, 101, 114, 46, 60, 108, 111, 99, 97, 108, 115, 62, 46]⟩, .l 0, .i, .l 0, .i, .l 6, .l 0, .l 21, .l 21, .l 21, .i, .l 21, .l 21, .l 1, .c 4 [], .l 4, .l 1, .l 1, .l 2, .i, .l 2, .l 38, .l 0, .l 0, .l 0, .l 0, .e (some 3) 0 [] ⟨#[95, 100, 105, 103, 105, 116, 115, 50, 105, 110, 116, 46, 60, 108, 111, 99, 97, 108, 115, 62, 46, 105, 110, 110, 101, 114, 46, 60, 108, 111, 99, 97, 108, 115, 62, 46]⟩, .l 0, .i, .l 0, .i, .l 7, .l 0, .l 22, .l 22, .l 22, .i, .l 22, .l 22, .i, .l 34, .l 34, .l 34, .l 34] (fun tk P => ⟨fun i => match i with | 0 => ((P 51).s.n 0) | 1 => (Nat.succ (Nat.succ (Nat.succ (Nat.succ (Nat.succ ((P 49).tk)))))) | 2 => ((P 33).s.n 2) | _ => 0, fun _ => 0, fun _ => ⟨#[]⟩, fun _ => []⟩) (fun tk P => []) [0] (fun _ _ _ => trivial) (fun tk P => by exact Bool.casesOn b₁ (by kernel_rfl!) (by kernel_rfl!))
  | s + 4, h => exact absurd h (by omega)
end
end Mine
end
section
set_option maxRecDepth 100000
namespace Mine
open PySem PySem.W PySem.W.X PyProof.Rows
noncomputable def innDef2 (V : VV) : Stmt := nthS (fnBody V 59) 0
noncomputable def sDig : Str := ⟨#[100, 105, 103, 105, 116, 115]⟩
/-- what inner of _digits2int stands on: Ix, ca the cell of digits -/
noncomputable def innO2 (V : VV) (x : Ix) : Obj := { cls := .type "function", data := .func ⟨x.nm, x.qual, fnA (innDef2 V), .stmts (fnD (innDef2 V)), fnS (innDef2 V), 3, [(sN, x.cn), (sInner, x.ce), (sDig, x.ca)], .none, .none, x.doc, x.pm, x.an, .ref x.ci, x.ct, 0⟩ }
noncomputable def inL2 (V : VV) (x : Ix) (n : Int) (vs : List Value) : Ldg := [(x.fi, innO2 V x), (x.ci, codeO (x.c0 :: .str qInner2 x.t1 :: x.cf)), (x.ce, cellO (.ref x.fi)), (x.ca, cellO (.ref x.la)), (x.cn, cellO (.int n x.un)), (x.la, listO ⟨vs⟩ 0)]
/-- inner(L, R), its value known -/
noncomputable def S_in2 (V : VV) (x : Ix) (b : Nat) (vs : List Value) (L R : Nat) (v : Int) (tl tr : Nat) : Spec where
  need := true
  d := b
  code := .call (.ref x.fi) ⟨[.int (Int.ofNat L) tl, .int (Int.ofNat R) tr], []⟩
  pre := inL2 V x 2 vs
  hasFact := false
  fact := fun _ => True
  res := fun σ => .ok (.ret (.int v (σ.n 0)))
  post := fun _ => inL2 V x 2 vs
noncomputable def C_in2 (V : VV) (b : Nat) (vs : List Value) (L R : Nat) (v : Int) : Code → Ldg → Spec := fun c l => oS c (match c with
  | .call (.ref _) ⟨[.int _ tl, .int _ tr], []⟩ => match l with
    | [(fi, ⟨_, _, .func ⟨nm, qual, _, _, _, _, _, _, _, doc, pm, an, _, ct, _⟩, _⟩), (ci, ⟨_, _, .fields ⟨c0 :: .str _ t1 :: cf⟩, _⟩), (ce, _), (ca, _), (cn, ⟨_, _, .cell (some (.int _ un)), _⟩), (la, _)] => some (tl, tr, fi, nm, qual, doc, pm, an, ct, ci, c0, t1, cf, ce, ca, cn, un, la)
    | _ => none
  | _ => none) fun (tl, tr, fi, nm, qual, doc, pm, an, ct, ci, c0, t1, cf, ce, ca, cn, un, la) =>
    S_in2 V ⟨fi, ci, ce, ca, cn, la, nm, qual, doc, pm, an, ct, c0, t1, cf, un⟩ b vs L R v tl tr
theorem C_in2_ok {V : VV} {b : Nat} {vs : List Value} {L R : Nat} {v : Int} (m : ∀ x tl tr, Meets V (S_in2 V x b vs L R v tl tr)) (c : Code) (l : Ldg) : Meets V (C_in2 V b vs L R v c l) := by
  exact oS_ok fun ⟨tl, tr, fi, nm, qual, doc, pm, an, ct, ci, c0, t1, cf, ce, ca, cn, un, la⟩ => m _ _ _
end Mine
end
section
set_option maxRecDepth 100000
set_option maxHeartbeats 0
namespace Mine
open PySem PySem.W PySem.W.X PyProof.Rows
/-- the digits' value, two bits each -/
noncomputable def D2v (zs : Nat → Int) : Nat → Nat → Int
  | _, 0 => 0
  | L, m + 1 => zs L + 4 * D2v zs (L + 1) m
theorem D2v_split (zs : Nat → Int) (m2 : Nat) : ∀ m1 L, D2v zs L (m1 + m2) = D2v zs L m1 + 4 ^ m1 * D2v zs (L + m1) m2
  | 0, L => by simp [D2v]
  | m1 + 1, L => by
    rw [show m1 + 1 + m2 = (m1 + m2) + 1 by omega]
    show zs L + 4 * D2v zs (L + 1) (m1 + m2) = zs L + 4 * D2v zs (L + 1) m1 + 4 ^ (m1 + 1) * D2v zs (L + (m1 + 1)) m2
    rw [D2v_split zs m2 m1 (L + 1), Int.mul_add, Int.pow_succ, show L + 1 + m1 = L + (m1 + 1) by omega, ← Int.mul_assoc, Int.mul_comm 4 (4 ^ m1)]
    omega
theorem D2v_bound (zs : Nat → Int) : ∀ m L, (∀ i, L ≤ i → i < L + m → 0 ≤ zs i ∧ zs i < 4) → 0 ≤ D2v zs L m ∧ D2v zs L m < 4 ^ m
  | 0, L, _ => by simp [D2v]
  | m + 1, L, h => by
    have h0 := h L (Nat.le_refl _) (by omega)
    have h1 := D2v_bound zs m (L + 1) fun i hi hj => h i (by omega) (by omega)
    show 0 ≤ zs L + 4 * D2v zs (L + 1) m ∧ zs L + 4 * D2v zs (L + 1) m < 4 ^ (m + 1)
    rw [Int.pow_succ]
    omega
theorem pow4 (m : Nat) : (2 : Int) ^ (2 * m) = 4 ^ m := by
  rw [Int.pow_mul]; rfl
section
variable {U : Un} {b₁ b₂ : Bool} (G : Good (mkV U b₁ b₂))
include G
theorem in2_lev0 (vs : List Value) (hv : AllInt vs) (hl : vs.length ≤ 60) (L R : Nat) (h1 : L < R) (hR : R ≤ vs.length) (hj : R - L ≤ 1) (x : Ix) (tl tr : Nat) : Meets (mkV U b₁ b₂) (S_in2 (mkV U b₁ b₂) x 6 vs L R (D2v (zOf vs) L (R - L)) tl tr) := by
  have e : R = L + 1 := by omega
  subst e
  have ev : D2v (zOf vs) L (L + 1 - L) = zOf vs (Int.ofNat L).toNat := by
    rw [show L + 1 - L = 1 by omega]
    show zOf vs L + 4 * 0 = zOf vs L
    omega
  rw [ev]
  have hb : ((Int.ofNat L + Int.ofNat 1 : Int) == Int.ofNat (L + 1)) = true := by simp
  have C : CsOk (mkV U b₁ b₂) [C_eqb (Int.ofNat L + Int.ofNat 1) (Int.ofNat (L + 1)) true, C_getz] := ⟨C_eqb_ok hb, C_getz_ok, trivial⟩
  have h0 : 0 ≤ Int.ofNat L ∧ Int.ofNat L < 1000 ∧ ∃ z u, vs[(Int.ofNat L).toNat]? = some (.int z u) := ⟨Int.natCast_nonneg L, by show (L : Int) < 1000; omega, hv L (by omega)⟩
  exact meets_hp G C 60 [.l 0, .l 1, .l 0, .l 0, .l 0, .l 0, .e (some 1) 0 [] ⟨#[95, 100, 105, 103, 105, 116, 115, 50, 105, 110, 116, 46, 60, 108, 111, 99, 97, 108, 115, 62, 46, 105, 110, 110, 101, 114, 46, 60, 108, 111, 99, 97, 108, 115, 62, 46]⟩, .l 0, .i, .l 0, .c 0 [], .l 4, .l 0, .l 6, .l 6, .l 6, .ch 1 [6] 0] (fun tk P => ⟨fun _ => tOf vs (Int.ofNat L).toNat, fun _ => 0, fun _ => ⟨#[]⟩, fun _ => []⟩) (fun tk P => []) [2, 2, 2, 2, 2, 0] (fun _ _ _ => ⟨_, h0⟩)
    (fun tk P _ => trivial) (fun tk P => by exact Bool.casesOn b₁ (by kernel_rfl!) (by kernel_rfl!))
/-- the contracts of a node -/
noncomputable def cs_in2 (V : VV) (b : Nat) (vs : List Value) (v1 v2 : Int) (L R mid s : Nat) : List (Code → Ldg → Spec) :=
  [C_eqb (Int.ofNat L + Int.ofNat 1) (Int.ofNat R) false, C_sr (Int.ofNat L + Int.ofNat R) (Int.ofNat 1) (Int.ofNat mid), C_im (Int.ofNat mid - Int.ofNat L) 2 (Int.ofNat s), C_in2 V b vs mid R v1, C_sl v1 (Int.ofNat s) (v1 * 2 ^ s), C_in2 V b vs L mid v2]
omit G in
theorem cs_in2_ok {V : VV} {b j : Nat} {vs : List Value} {L R : Nat} (hz : ∀ i, i < vs.length → 0 ≤ zOf vs i ∧ zOf vs i < 4) (h1 : L + 1 < R) (hR : R ≤ vs.length) (hl : vs.length ≤ 60) (hj : R - L ≤ j + j) (hJ : j ≤ 16)
    (ih : ∀ L R, L < R → R ≤ vs.length → R - L ≤ j → ∀ x tl tr, Meets V (S_in2 V x b vs L R (D2v (zOf vs) L (R - L)) tl tr)) :
    ∃ v1 v2 mid s, v1 * 2 ^ s + v2 = D2v (zOf vs) L (R - L) ∧ CsOk V (cs_in2 V b vs v1 v2 L R mid s) := by
  have e1 : (Int.ofNat L + Int.ofNat 1 : Int) = ((L + 1 : Nat) : Int) := rfl
  have bd := D2v_bound (zOf vs) (R - (L + R) / 2) ((L + R) / 2) (fun i hi hk => hz i (by omega))
  have pb : PB (D2v (zOf vs) ((L + R) / 2) (R - (L + R) / 2)) := by
    refine ⟨bd.1, Int.lt_of_lt_of_le bd.2 ?_⟩
    have e : (2 : Int) ^ 128 = 4 ^ 64 := by decide
    rw [e]
    have := Nat.pow_le_pow_right (n := 4) (by decide) (show R - (L + R) / 2 ≤ 64 by omega)
    exact_mod_cast this
  refine ⟨D2v (zOf vs) ((L + R) / 2) (R - (L + R) / 2), D2v (zOf vs) L ((L + R) / 2 - L), (L + R) / 2, 2 * ((L + R) / 2 - L), ?_, ?_⟩
  · rw [pow4, show R - L = ((L + R) / 2 - L) + (R - (L + R) / 2) by omega, D2v_split, show L + ((L + R) / 2 - L) = (L + R) / 2 by omega, Int.mul_comm]
    omega
  · refine ⟨C_eqb_ok ?_, C_sr_ok (by simp only [Int.ofNat_eq_natCast]; omega) (by decide) ?_, C_im_ok (IntMulOk.of_right (by decide)) ?_, C_in2_ok (ih _ _ (by omega) hR (by omega)),
      C_sl_ok (Nat.le_trans pb.bits (by decide)) (Int.natCast_nonneg _) (by simp only [Int.ofNat_eq_natCast]; omega) rfl, C_in2_ok (ih _ _ (by omega) (by omega) (by omega)), trivial⟩
    · rw [e1]
      simp only [Int.ofNat_eq_natCast]
      rw [beq_eq_false_iff_ne]
      omega
    · show Int.fdiv (((L + R : Nat) : Int)) (2 ^ 1) = _
      rw [Int.fdiv_eq_ediv_of_nonneg _ (by decide)]
      show _ = (((L + R) / 2 : Nat) : Int)
      omega
    · show ((((L + R) / 2 : Nat) : Int) - ((L : Nat) : Int)) * 2 = ((2 * ((L + R) / 2 - L) : Nat) : Int)
      omega
theorem in2_lev1 (vs : List Value) (hv : AllInt vs) (hz : ∀ i, i < vs.length → 0 ≤ zOf vs i ∧ zOf vs i < 4) (hl : vs.length ≤ 60) (L R : Nat) (h1 : L < R) (hR : R ≤ vs.length) (hj : R - L ≤ 2) (x : Ix) (tl tr : Nat) : Meets (mkV U b₁ b₂) (S_in2 (mkV U b₁ b₂) x 9 vs L R (D2v (zOf vs) L (R - L)) tl tr) := by
  by_cases hs : R - L ≤ 1
  · exact (in2_lev0 G vs hv hl L R h1 hR hs x tl tr).up (d := 9) (by show 6 ≤ 9; decide)
  · obtain ⟨v1, v2, mid, s, he, C⟩ := cs_in2_ok (V := mkV U b₁ b₂) (b := 6) (j := 1) (L := L) (R := R) hz (by omega) hR hl (by omega) (by decide) (fun L R h1 hR hj => in2_lev0 G vs hv hl L R h1 hR hj)
    rw [← he]
    exact meets_of G C 159 [.l 0, .l 1, .l 0, .l 0, .l 0, .l 0, .e (some 1) 0 [] ⟨#[95, 100, 105, 103, 105, 116, 115, 50, 105, 110, 116, 46, 60, 108, 111, 99, 97, 108, 115, 62, 46, 105, 110, 110, 101, 114, 46, 60, 108, 111, 99, 97, 108, 115, 62, 46]⟩, .l 0, .i, .l 0, .c 0 [], .l 0, .l 0, .i, .c 1 [], .l 0, .l 0, .l 0, .l 0, .i, .l 5, .c 2 [], .l 0, .l 0, .l 3, .l 0, .l 0, .l 1, .c 3 [1, 1, 1, 1, 1, 1], .l 6, .c 4 [], .l 2, .l 6, .l 6, .l 0, .c 5 [0, 0, 0, 0, 0, 0], .i] (fun tk P => ⟨fun _ => Nat.succ (P 6).tk, fun _ => 0, fun _ => ⟨#[]⟩, fun _ => []⟩) (fun tk P => []) [0, 0, 0, 0, 0, 0] (fun tk P _ => trivial) (fun tk P => by exact Bool.casesOn b₁ (by kernel_rfl!) (by kernel_rfl!))
theorem in2_lev2 (vs : List Value) (hv : AllInt vs) (hz : ∀ i, i < vs.length → 0 ≤ zOf vs i ∧ zOf vs i < 4) (hl : vs.length ≤ 60) (L R : Nat) (h1 : L < R) (hR : R ≤ vs.length) (hj : R - L ≤ 4) (x : Ix) (tl tr : Nat) : Meets (mkV U b₁ b₂) (S_in2 (mkV U b₁ b₂) x 12 vs L R (D2v (zOf vs) L (R - L)) tl tr) := by
  by_cases hs : R - L ≤ 2
  · exact (in2_lev1 G vs hv hz hl L R h1 hR hs x tl tr).up (d := 12) (by show 9 ≤ 12; decide)
  · obtain ⟨v1, v2, mid, s, he, C⟩ := cs_in2_ok (V := mkV U b₁ b₂) (b := 9) (j := 2) (L := L) (R := R) hz (by omega) hR hl (by omega) (by decide) (fun L R h1 hR hj => in2_lev1 G vs hv hz hl L R h1 hR hj)
    rw [← he]
    exact meets_of G C 159 [.l 0, .l 1, .l 0, .l 0, .l 0, .l 0, .e (some 1) 0 [] ⟨#[95, 100, 105, 103, 105, 116, 115, 50, 105, 110, 116, 46, 60, 108, 111, 99, 97, 108, 115, 62, 46, 105, 110, 110, 101, 114, 46, 60, 108, 111, 99, 97, 108, 115, 62, 46]⟩, .l 0, .i, .l 0, .c 0 [], .l 0, .l 0, .i, .c 1 [], .l 0, .l 0, .l 0, .l 0, .i, .l 5, .c 2 [], .l 0, .l 0, .l 3, .l 0, .l 0, .l 1, .c 3 [1, 1, 1, 1, 1, 1], .l 6, .c 4 [], .l 2, .l 6, .l 6, .l 0, .c 5 [0, 0, 0, 0, 0, 0], .i] (fun tk P => ⟨fun _ => Nat.succ (P 6).tk, fun _ => 0, fun _ => ⟨#[]⟩, fun _ => []⟩) (fun tk P => []) [0, 0, 0, 0, 0, 0] (fun tk P _ => trivial) (fun tk P => by exact Bool.casesOn b₁ (by kernel_rfl!) (by kernel_rfl!))
theorem in2_lev3 (vs : List Value) (hv : AllInt vs) (hz : ∀ i, i < vs.length → 0 ≤ zOf vs i ∧ zOf vs i < 4) (hl : vs.length ≤ 60) (L R : Nat) (h1 : L < R) (hR : R ≤ vs.length) (hj : R - L ≤ 8) (x : Ix) (tl tr : Nat) : Meets (mkV U b₁ b₂) (S_in2 (mkV U b₁ b₂) x 15 vs L R (D2v (zOf vs) L (R - L)) tl tr) := by
  by_cases hs : R - L ≤ 4
  · exact (in2_lev2 G vs hv hz hl L R h1 hR hs x tl tr).up (d := 15) (by show 12 ≤ 15; decide)
  · obtain ⟨v1, v2, mid, s, he, C⟩ := cs_in2_ok (V := mkV U b₁ b₂) (b := 12) (j := 4) (L := L) (R := R) hz (by omega) hR hl (by omega) (by decide) (fun L R h1 hR hj => in2_lev2 G vs hv hz hl L R h1 hR hj)
    rw [← he]
    exact meets_of G C 159 [.l 0, .l 1, .l 0, .l 0, .l 0, .l 0, .e (some 1) 0 [] ⟨#[95, 100, 105, 103, 105, 116, 115, 50, 105, 110, 116, 46, 60, 108, 111, 99, 97, 108, 115, 62, 46, 105, 110, 110, 101, 114, 46, 60, 108, 111, 99, 97, 108, 115, 62, 46]⟩, .l 0, .i, .l 0, .c 0 [], .l 0, .l 0, .i, .c 1 [], .l 0, .l 0, .l 0, .l 0, .i, .l 5, .c 2 [], .l 0, .l 0, .l 3, .l 0, .l 0, .l 1, .c 3 [1, 1, 1, 1, 1, 1], .l 6, .c 4 [], .l 2, .l 6, .l 6, .l 0, .c 5 [0, 0, 0, 0, 0, 0], .i] (fun tk P => ⟨fun _ => Nat.succ (P 6).tk, fun _ => 0, fun _ => ⟨#[]⟩, fun _ => []⟩) (fun tk P => []) [0, 0, 0, 0, 0, 0] (fun tk P _ => trivial) (fun tk P => by exact Bool.casesOn b₁ (by kernel_rfl!) (by kernel_rfl!))
end
end Mine
end
section
set_option maxRecDepth 100000
namespace Mine
open PySem PySem.W PySem.W.X PyProof.Rows
/-- _digits2int of eight digits, the first time -/
noncomputable def S_d2i (V : VV) (z : Nat → Int) (tt : Nat → Nat) (a : Addr) (u : Nat) (v : Int) : Spec where
  need := true
  d := 30
  code := .call (.ref 59) ⟨[.ref a, .int (Int.ofNat 2) u], []⟩
  pre := [(54, tableObj (topTab V 54)), (a, cellsO z tt)]
  hasFact := false
  fact := fun _ => True
  res := fun σ => .ok (.ret (.int v (σ.n 0)))
  post := fun σ => [(54, grown V 54 48 4 (σ.n 1)), (σ.n 1, codeX qInner2 (σ.n 2) (σ.v 0)), (a, cellsO z tt)]
/-- _int2digits, the first time: ints come back -/
noncomputable def S_i2 (V : VV) (av : Int) (k : Nat) (t u : Nat) : Spec where
  need := true
  d := 40
  code := .call (.ref 52) ⟨[.int av t, .int (Int.ofNat 4) u], []⟩
  pre := [(47, tableObj (topTab V 47))]
  hasFact := true
  fact := fun σ => AllInt (σ.v 1) ∧ (σ.v 1).length ≤ 60
  res := fun σ => .ok (.ret (.ref (σ.n 0)))
  post := fun σ => [(47, grown V 47 33 4 (σ.n 1)), (σ.n 1, codeX qInner (σ.n 2) (σ.v 0)), (σ.n 0, listO ⟨σ.v 1⟩ 0)]
/-- [0] * k -/
noncomputable def C_lmul (k : Nat) : Code → Ldg → Spec := fun c l => oS c (match c with
  | .call (.builtin id) ⟨[.ref _, .int _ u], []⟩ => match l with
    | [(a, ⟨_, _, .seq ⟨[v]⟩ e, _⟩)] => some (id, u, a, v, e)
    | _ => none
  | _ => none) fun (id, u, a, v, e) =>
    { need := S.eqLit 29827134744148027186292746861 id, d := 1, code := .call (.builtin id) ⟨[.ref a, .int (Int.ofNat k) u], []⟩, pre := [(a, listO ⟨[v]⟩ e)], hasFact := false, fact := fun _ => True, res := fun σ => .ok (.ret (.ref (σ.n 0))), post := fun σ => [(σ.n 0, listO ⟨List.replicate k v⟩ 0), (a, listO ⟨[v]⟩ e)] }
/-- truth of an int -/
noncomputable def C_ibool (a : Int) (v : Bool) : Code → Ldg → Spec := fun c _ => oS c (match c with
  | .call (.builtin id) ⟨[.int _ t], []⟩ => some (id, t)
  | _ => none) fun (id, t) =>
    bSpec (.call (.builtin id) ⟨[.int a t], []⟩) (S.eqLit 29827134633612522566320484202 id) (fun _ => .bool v)
end Mine
end
section
set_option maxRecDepth 100000
set_option maxHeartbeats 0
namespace Mine
open PySem PySem.W PySem.W.X PyProof.Rows
theorem foldl_one (v : Value) : ∀ (k : Nat) (acc : Array Value), List.foldl (fun x1 x2 => x1 ++ x2) acc (List.replicate k (#[v] : Array Value)) = ⟨acc.toList ++ List.replicate k v⟩
  | 0, acc => by simp
  | k + 1, acc => by
    rw [List.replicate_succ, List.foldl_cons, foldl_one v k, List.replicate_succ]
    simp
theorem C_lmul_ok {V : VV} {k : Nat} (hk : k ≤ 1000) (c : Code) (l : Ldg) : Meets V (C_lmul k c l) := by
  refine oS_ok fun ⟨id, u, a, v, e⟩ => ?_
  show Meets _ ({ need := S.eqLit 29827134744148027186292746861 id, d := 1, code := .call (.builtin id) ⟨[.ref a, .int (Int.ofNat k) u], []⟩, pre := [(a, listO ⟨[v]⟩ e)], hasFact := false, fact := fun _ => True, res := fun σ => .ok (.ret (.ref (σ.n 0))), post := fun σ => [(σ.n 0, listO ⟨List.replicate k v⟩ 0), (a, listO ⟨[v]⟩ e)] })
  intro q
  have h0 := q
  have e0 := id_of q (s := "list.__mul__") (by decide +kernel)
  subst e0
  have fits : Builtin.List.listFitsIndex (Int.ofNat k) = true := fitsIndex_of (Int.natCast_nonneg k) (by show (k : Int) < 2 ^ 63; omega)
  have sz : sizeLine = 16777216 := rfl
  obtain ⟨items, hit⟩ : ∃ items : Array Value, items = ⟨[v]⟩ := ⟨_, rfl⟩
  obtain ⟨x, hx⟩ : ∃ x : Int, x = Int.ofNat k := ⟨_, rfl⟩
  have hk1 : items.size * x.toNat = k := by rw [hit, hx]; show 1 * k = k; omega
  have t1 : ¬ k > (2 ^ 63 - 1) / 8 := by
    rw [show ((2 : Nat) ^ 63 - 1) / 8 = 1152921504606846975 by decide +kernel]
    omega
  have t2 : Builtin.List.listTooLong k = false := decide_eq_false (by rw [sz]; omega)
  have c0 : (!Builtin.List.listFitsIndex x) = false := hx ▸ congrArg not fits
  have m := AutoListH.list___mul___list_int_3 a items e x u (fun h => Bool.false_ne_true (c0.symm.trans h)) (by rw [hk1]; exact t1) (by rw [hk1, t2]; decide)
  subst hit
  refine con_L (B := Builtin.«list.__mul__») (self := .ref a) (rest := [.int x u]) F.slot_list_mul F.entry_list_mul (F.args_list_mul_2 _ _) m (by rw [hx]) (fun _ A h F₀ tk D => ?_) h0
  have ho := led_at D
  have ev : List.foldl (fun x1 x2 => x1 ++ x2) #[] (List.replicate (if (⟨[v]⟩ : Array Value).isEmpty = true then 0 else x.toNat) (⟨[v]⟩ : Array Value)) = ⟨List.replicate k v⟩ := by rw [hx]; exact foldl_one v k #[]
  refine ⟨⟨_, ho, rfl⟩, ho, ?_⟩
  rw [ev]
  exact ⟨h.push (listO ⟨List.replicate k v⟩ 0), tk, _, rfl, D.alloc (o := listO ⟨List.replicate k v⟩ 0) rfl, by omega, ⟨fun _ => h.objs.size, fun _ => 0, fun _ => ⟨#[]⟩, fun _ => []⟩, trivial, trivial, rfl, rfl⟩
theorem gives_ibool (a : Int) (t : Tok) : Gives (Builtin.«int.__bool__» ⟨[.int a t], []⟩) (.val (.bool (a != 0))) :=
  .of_wp fun M A E s Q h => by obtain ⟨hp, g, d, tk, os⟩ := s; wp_walk; exact ⟨_, rfl, h⟩
theorem C_ibool_ok {V : VV} {a : Int} {v : Bool} (h : (a != 0) = v) (c : Code) (l : Ldg) : Meets V (C_ibool a v c l) := by
  refine oS_ok fun ⟨id, t⟩ => ?_
  show Meets _ (bSpec (.call (.builtin id) ⟨[.int a t], []⟩) (S.eqLit 29827134633612522566320484202 id) (fun _ => .bool v))
  intro q
  have h0 := q
  simp only [bSpec] at q
  have e := id_of q (s := "int.__bool__") (by decide +kernel)
  subst e
  exact con_gives F.slot_int_bool (fun s => rfl) F.entry_int_bool (F.args_int_bool_1 _) (gives_ibool a t) trivial (fun σ => by rw [← h]; rfl) h0
/-- what the run itself leaves -/
noncomputable def lastOf (V : VV) (cs : List (Code → Ldg → Spec)) (T : Spec) (fis : List Nat) (Pf : Nat → HP) (n : Nat) (hs : List Hint) (tk : Nat) (P : Nat → Ev) : Ldg :=
  lastL (runF V cs (fun _ => 0) false (endF T (fun _ => sup0) (fun _ => []) fis P) Pf P n hs T.d T.code [] (dn T.code) 0 T.pre [] tk) []
noncomputable def codeRest (o : Obj) : List Value := match o.data with
  | .fields ⟨vs⟩ => vs.eraseIdx 1
  | _ => []
section
variable {U : Un} {b₁ b₂ : Bool} (G : Good (mkV U b₁ b₂))
include G
noncomputable def d2iH : List Hint := [.t, .t, .l 2, .l 2, .l 1, .l 1, .e none 3 [(⟨#[105, 110, 110, 101, 114]⟩, 0), (⟨#[110]⟩, 1), (⟨#[100, 105, 103, 105, 116, 115]⟩, 2)] ⟨#[95, 100, 105, 103, 105, 116, 115, 50, 105, 110, 116, 46, 60, 108, 111, 99, 97, 108, 115, 62, 46]⟩, .t, .l 5, .l 11, .g 11, .l 11, .t, .t, .t, .l 8, .l 8, .l 10, .l 13, .l 13, .i, .l 13, .i, .l 13, .l 13, .l 8, .t, .t, .l 10, .i, .l 13, .i, .l 13, .l 13, .l 0, .c 0 [0, 0, 6, 7, 6, 8]]
theorem d2i_meets (z : Nat → Int) (tt : Nat → Nat) (a u : Nat) (hz : ∀ i, i < 8 → 0 ≤ z i ∧ z i < 4) : Meets (mkV U b₁ b₂) (S_d2i (mkV U b₁ b₂) z tt a u (D2v (zOf (cells8 z tt)) 0 8)) := by
  have hv : AllInt (cells8 z tt) := fun i hi => ⟨_, _, cells8_get z tt (i := i) hi⟩
  have hz' : ∀ i, i < (cells8 z tt).length → 0 ≤ zOf (cells8 z tt) i ∧ zOf (cells8 z tt) i < 4 := fun i hi => by rw [zOf_eq (cells8_get z tt (i := i) hi)]; exact hz i hi
  have C : ∀ v, v = D2v (zOf (cells8 z tt)) 0 8 → CsOk (mkV U b₁ b₂) [C_in2 (mkV U b₁ b₂) 15 (cells8 z tt) 0 8 v] := fun v e => by
    subst e
    exact ⟨C_in2_ok fun x tl tr => in2_lev3 G (cells8 z tt) hv hz' (by show 8 ≤ 60; decide) 0 8 (by decide) (by show 8 ≤ 8; decide) (by decide) x tl tr, trivial⟩
  generalize hvv : D2v (zOf (cells8 z tt)) 0 8 = v at C
  cases b₁
  · exact meets_of G (C v rfl) 126 d2iH (fun tk P => ⟨fun i => match i with | 0 => ((P 12).s.n 0) | 1 => ((P 10).s.n 0) | 2 => (Nat.succ (Nat.succ tk)) | _ => 0, fun _ => 0, fun _ => ⟨#[]⟩, fun _ => codeRest (objAt 1 (lastOf (mkV U false b₂) [C_in2 (mkV U false b₂) 15 (cells8 z tt) 0 8 v] (S_d2i (mkV U false b₂) z tt a u v) [13, 1, 4] (fun _ => hp0) 126 d2iH tk P))⟩) (fun tk P => []) [13, 1, 4] (fun _ _ _ => trivial) (fun tk P => by kernel_rfl!)
  · exact meets_of G (C v rfl) 126 d2iH (fun tk P => ⟨fun i => match i with | 0 => ((P 12).s.n 0) | 1 => ((P 10).s.n 0) | 2 => (Nat.succ (Nat.succ tk)) | _ => 0, fun _ => 0, fun _ => ⟨#[]⟩, fun _ => codeRest (objAt 1 (lastOf (mkV U true b₂) [C_in2 (mkV U true b₂) 15 (cells8 z tt) 0 8 v] (S_d2i (mkV U true b₂) z tt a u v) [13, 1, 4] (fun _ => hp0) 126 d2iH tk P))⟩) (fun tk P => []) [13, 1, 4] (fun _ _ _ => trivial) (fun tk P => by kernel_rfl!)
noncomputable def i2zH : List Hint := [.t, .t, .l 3, .l 3, .l 2, .l 2, .e none 3 [(⟨#[105, 110, 110, 101, 114]⟩, 0), (⟨#[97, 95, 100, 105, 103, 105, 116, 115]⟩, 1), (⟨#[110]⟩, 2)] ⟨#[95, 105, 110, 116, 50, 100, 105, 103, 105, 116, 115, 46, 60, 108, 111, 99, 97, 108, 115, 62, 46]⟩, .l 4, .c 6 [], .l 3, .i, .i, .l 3, .c 1 [], .l 0, .i, .l 0, .l 0, .i, .l 0, .l 0, .l 3, .l 3, .t, .l 7, .l 13, .g 13, .l 13, .t, .t, .t, .l 10, .l 10, .l 13, .i, .l 11]
noncomputable def i2pH : List Hint := [.t, .t, .l 3, .l 3, .l 2, .l 2, .e none 3 [(⟨#[105, 110, 110, 101, 114]⟩, 0), (⟨#[97, 95, 100, 105, 103, 105, 116, 115]⟩, 1), (⟨#[110]⟩, 2)] ⟨#[95, 105, 110, 116, 50, 100, 105, 103, 105, 116, 115, 46, 60, 108, 111, 99, 97, 108, 115, 62, 46]⟩, .l 4, .c 0 [], .l 3, .i, .i, .l 3, .c 1 [], .l 0, .i, .l 0, .l 0, .c 2 [0], .l 3, .l 3, .t, .l 7, .l 13, .g 13, .l 13, .t, .t, .t, .l 10, .l 10, .l 13, .c 3 [], .l 10, .l 13, .t, .t, .l 11, .ch 4 [8] 0, .l 1, .ch 5 [1, 1, 8, 8, 8, 0] 1, .l 3]
theorem i2z_meets (t u : Nat) : Meets (mkV U b₁ b₂) (S_i2 (mkV U b₁ b₂) (Int.ofNat 0) 0 t u) := by
  cases b₁
  · exact meets_of G csL_ok 152 i2zH (fun tk P => ⟨fun i => match i with | 0 => ((P 7).s.n 0) | 1 => ((P 14).s.n 0) | 2 => (Nat.succ (Nat.succ ((P 6).tk))) | _ => 0, fun _ => 0, fun _ => ⟨#[]⟩, fun i => match i with | 0 => codeRest (objAt 1 (lastOf (mkV U false b₂) csL (S_i2 (mkV U false b₂) (Int.ofNat 0) 0 t u) [14, 1, 7] (fun _ => hp0) 152 i2zH tk P)) | _ => []⟩) (fun tk P => []) [14, 1, 7] (fun _ _ _ => ⟨fun i hi => absurd hi (Nat.not_lt_zero _), Nat.zero_le _⟩) (fun tk P => by kernel_rfl!)
  · exact meets_of G csL_ok 152 i2zH (fun tk P => ⟨fun i => match i with | 0 => ((P 7).s.n 0) | 1 => ((P 14).s.n 0) | 2 => (Nat.succ (Nat.succ ((P 6).tk))) | _ => 0, fun _ => 0, fun _ => ⟨#[]⟩, fun i => match i with | 0 => codeRest (objAt 1 (lastOf (mkV U true b₂) csL (S_i2 (mkV U true b₂) (Int.ofNat 0) 0 t u) [14, 1, 7] (fun _ => hp0) 152 i2zH tk P)) | _ => []⟩) (fun tk P => []) [14, 1, 7] (fun _ _ _ => ⟨fun i hi => absurd hi (Nat.not_lt_zero _), Nat.zero_le _⟩) (fun tk P => by kernel_rfl!)
omit G in
theorem allInt_rep (k t : Nat) : AllInt (List.replicate k (.int 0 t)) := fun i hi => by
  rw [List.length_replicate] at hi
  exact ⟨0, t, by rw [List.getElem?_replicate, if_pos hi]⟩
theorem i2p_meets (t u k bt : Nat) (av : Int) (ha : PB av) (h0 : 0 < av) (hb : Builtin.Int.intBits av = bt) (hk : k = (bt + 3) / 4) : Meets (mkV U b₁ b₂) (S_i2 (mkV U b₁ b₂) av k t u) := by
  have hbt := ha.bits
  have hb1 : 1 ≤ bt := by
    rw [← hb]
    unfold Builtin.Int.intBits
    have hz : (av == 0) = false := by simpa using (show av ≠ 0 by omega)
    rw [hz]
    simp
  have C : CsOk (mkV U b₁ b₂) [C_bits av bt, C_fd (Int.ofNat bt + Int.ofNat 4 - Int.ofNat 1) (Int.ofNat 4) k, C_lmul k, C_ibool av true, C_len k, C_in (mkV U b₁ b₂) 21 av 0 k] := by
    refine ⟨C_bits_ok hb, C_fd_ok (by decide) ?_ ?_, C_lmul_ok (by omega), C_ibool_ok (by simpa using (show av ≠ 0 by omega)), C_len_ok, C_in_ok fun x vs tx tl tr => in_lev5 G av 0 k ha (by omega) (by omega) (by omega) x vs tx tl tr, trivial⟩
    · exact PyProof.noPylong_small (by decide)
    · show Int.fdiv ((bt : Int) + 4 - 1) 4 = (k : Int)
      rw [Int.fdiv_eq_ediv_of_nonneg _ (by decide)]
      omega
  have k0 : (List.replicate k (Value.int 0 0)).length = k ∧ k ≤ 1000 := ⟨List.length_replicate .., by omega⟩
  have p0 : ∀ v : Value, (List.replicate k v).length = k ∧ k ≤ 1000 := fun v => ⟨List.length_replicate .., by omega⟩
  have p1 : ∀ v : Value, k ≤ (List.replicate k v).length ∧ (List.replicate k v).length ≤ 60 := fun v => by rw [List.length_replicate]; omega
  have pf : ∀ (l : List Value) (q : Nat), (l.length = (List.replicate k (Value.int 0 q)).length ∧ (AllInt (List.replicate k (Value.int 0 q)) → AllInt l)) → AllInt l ∧ l.length ≤ 60 := fun l q h => ⟨h.2 (allInt_rep k q), by rw [h.1, List.length_replicate]; omega⟩
  cases b₁
  · exact meets_hp G C 169 i2pH (fun tk P => ⟨fun i => match i with | 0 => ((P 7).s.n 0) | 1 => ((P 14).s.n 0) | 2 => (Nat.succ (Nat.succ ((P 7).tk))) | _ => 0, fun _ => 0, fun _ => ⟨#[]⟩, fun i => match i with | 0 => codeRest (objAt 1 (lastOf (mkV U false b₂) [C_bits av bt, C_fd (Int.ofNat bt + Int.ofNat 4 - Int.ofNat 1) (Int.ofNat 4) k, C_lmul k, C_ibool av true, C_len k, C_in (mkV U false b₂) 21 av 0 k] (S_i2 (mkV U false b₂) av k t u) [14, 1, 4] (fun m => match m with | 0 => ⟨_, p0 (Value.int 0 (Nat.succ (Nat.succ tk)))⟩ | _ => ⟨_, p1 (Value.int 0 (Nat.succ (Nat.succ tk)))⟩) 169 i2pH tk P)) | _ => (P 18).s.v 0⟩)
      (fun tk P => [((P 18).s.v 0).length = (List.replicate k (Value.int 0 (Nat.succ (Nat.succ tk)))).length ∧ (AllInt (List.replicate k (Value.int 0 (Nat.succ (Nat.succ tk)))) → AllInt ((P 18).s.v 0))]) [14, 1, 4] (fun tk P m => match m with | 0 => ⟨_, p0 (Value.int 0 (Nat.succ (Nat.succ tk)))⟩ | _ => ⟨_, p1 (Value.int 0 (Nat.succ (Nat.succ tk)))⟩)
      (fun tk P h => pf _ _ (h _ (.head _))) (fun tk P => by kernel_rfl!)
  · exact meets_hp G C 169 i2pH (fun tk P => ⟨fun i => match i with | 0 => ((P 7).s.n 0) | 1 => ((P 14).s.n 0) | 2 => (Nat.succ (Nat.succ ((P 7).tk))) | _ => 0, fun _ => 0, fun _ => ⟨#[]⟩, fun i => match i with | 0 => codeRest (objAt 1 (lastOf (mkV U true b₂) [C_bits av bt, C_fd (Int.ofNat bt + Int.ofNat 4 - Int.ofNat 1) (Int.ofNat 4) k, C_lmul k, C_ibool av true, C_len k, C_in (mkV U true b₂) 21 av 0 k] (S_i2 (mkV U true b₂) av k t u) [14, 1, 4] (fun m => match m with | 0 => ⟨_, p0 (Value.int 0 (Nat.succ (Nat.succ tk)))⟩ | _ => ⟨_, p1 (Value.int 0 (Nat.succ (Nat.succ tk)))⟩) 169 i2pH tk P)) | _ => (P 18).s.v 0⟩)
      (fun tk P => [((P 18).s.v 0).length = (List.replicate k (Value.int 0 (Nat.succ (Nat.succ tk)))).length ∧ (AllInt (List.replicate k (Value.int 0 (Nat.succ (Nat.succ tk)))) → AllInt ((P 18).s.v 0))]) [14, 1, 4] (fun tk P m => match m with | 0 => ⟨_, p0 (Value.int 0 (Nat.succ (Nat.succ tk)))⟩ | _ => ⟨_, p1 (Value.int 0 (Nat.succ (Nat.succ tk)))⟩)
      (fun tk P h => pf _ _ (h _ (.head _))) (fun tk P => by kernel_rfl!)
theorem i2_meets (t u : Nat) (av : Int) (ha : PB av) : ∃ k, Meets (mkV U b₁ b₂) (S_i2 (mkV U b₁ b₂) av k t u) := by
  by_cases h : av = 0
  · subst h; exact ⟨0, i2z_meets G t u⟩
  · exact ⟨_, i2p_meets G t u _ _ av ha (by have := ha.1; omega) rfl rfl⟩
end
end Mine
end
section
set_option maxRecDepth 100000
set_option maxHeartbeats 0
namespace Mine
open PySem PySem.W PySem.W.X PyProof.Rows
noncomputable def retE : Stmt → Expr
  | .Return (some e) _ => e
  | _ => dflE
noncomputable def lcElt : Expr → Expr
  | .ListComp e _ _ _ => e
  | _ => dflE
noncomputable def arg0 : Expr → Expr
  | .Call _ (e :: _) _ _ => e
  | _ => dflE
/-- a list's iterator -/
noncomputable def liO (l : Addr) (j : Nat) : Obj := { cls := .type "list_iterator", data := .fields ⟨[.ref l, .int (Int.ofNat j) 0]⟩ }
theorem meets_lnext {it l : Addr} {vs : Array Value} {n j : Nat} {x : Value} (hx : vs[j]? = some x) :
    PySem.Meets (Builtin.«list_iterator.__next__» ⟨[.ref it], []⟩) (fun _ R s => s.heap.get? it = some (liO l j) ∧ s.heap.get? l = some (listO vs n) ∧
      R (.ok (.ret x)) { s with heap := s.heap.update it (Obj.mapFields (·.setIfInBounds 1 (rawInt (Int.ofNat j + 1)))) }) :=
  .of_wp fun prog w A R s h => by
    obtain ⟨ho, hl, h⟩ := h
    show wpAny _ _ (field (.ref it) 0 >>= _) _ _ s
    refine wpAny_bind (wpAny_field ho rfl (x := .ref l) rfl ?_)
    show wpAny _ _ (if (Value.ref l == Value.none) = true then _ else _) _ _ s
    rw [if_neg (show ¬ ((Value.ref l == Value.none) = true) from Bool.false_ne_true)]
    show wpAny _ _ (field (.ref it) 1 >>= _) _ _ s
    refine wpAny_bind (wpAny_field ho rfl (x := .int (Int.ofNat j) 0) rfl ?_)
    show wpAny _ _ (seqItems? (.ref l) >>= _) _ _ s
    refine wpAny_bind (wpAny_seqItems hl rfl ?_)
    have e1 : (Int.ofNat j).toNat = j := rfl
    simp only [e1, hx]
    exact wpAny_bind (wpAny_setField ho rfl (show 1 < 2 from by decide) (wpAny_pure ⟨_, rfl, h⟩))
/-- the next int of a list's iterator, where one is left -/
noncomputable def C_lnx (j : Nat) : Code → Ldg → Spec := fun c l => oS c (match c with
  | .call (.builtin id) ⟨[.ref a], []⟩ => match l with
    | [_, (b, ⟨_, _, .seq ⟨vs⟩ e, _⟩)] => some (id, a, b, vs, e)
    | _ => none
  | _ => none) fun (id, a, b, vs, e) =>
    { need := S.eqLit 36058839055461744822429329989390181918337346850548333 id, d := 1, code := .call (.builtin id) ⟨[.ref a], []⟩, pre := [(a, liO b j), (b, listO ⟨vs⟩ e)], hasFact := false, fact := fun _ => True, res := fun _ => .ok (.ret (.int (zOf vs j) (tOf vs j))), post := fun _ => [(a, liO b (j + 1)), (b, listO ⟨vs⟩ e)], hasHyp := true, hyp := ∃ z u, vs[j]? = some (.int z u) }
theorem C_lnx_ok {V : VV} (O : V.Ok) {j : Nat} (c : Code) (l : Ldg) : Meets V (C_lnx j c l) := by
  refine oS_ok fun ⟨id, a, b, vs, e⟩ => ?_
  show Meets _ ({ need := S.eqLit 36058839055461744822429329989390181918337346850548333 id, d := 1, code := .call (.builtin id) ⟨[.ref a], []⟩, pre := [(a, liO b j), (b, listO ⟨vs⟩ e)], hasFact := false, fact := fun _ => True, res := fun _ => .ok (.ret (.int (zOf vs j) (tOf vs j))), post := fun _ => [(a, liO b (j + 1)), (b, listO ⟨vs⟩ e)], hasHyp := true, hyp := ∃ z u, vs[j]? = some (.int z u) })
  intro q
  have h0 := q
  have e0 := id_of q (s := "list_iterator.__next__") (by decide +kernel)
  subst e0
  intro hy
  have hy' : ∃ z u, vs[j]? = some (.int z u) := hy
  obtain ⟨z, u, hu⟩ := hy'
  refine con_L slot_listiter_next entry_listiter_next (args_listiter_next _) (meets_lnext (it := a) (l := b) (vs := ⟨vs⟩) (n := e) (j := j) (x := .int z u) (by simpa using hu)) rfl (fun _ A h F₀ tk D => ?_) h0 hy
  have ho := led_at D
  have hl : h.get? b = some (listO ⟨vs⟩ e) := D.led (b, _) (.tail _ (.head _))
  refine ⟨⟨_, ho, rfl⟩, ho, hl, _, tk, _, rfl, D.set O (i := 0) (f := Obj.mapFields (·.setIfInBounds 1 (rawInt (Int.ofNat j + 1)))) rfl rfl rfl, by omega, sup0, trivial, trivial, ?_, rfl⟩
  show Except.ok (Flow.ret (Value.int z u)) = Except.ok (Flow.ret (Value.int (zOf vs j) (tOf vs j)))
  rw [tOf_eq hu, zOf_eq hu]
/-- len of a list, whatever it is -/
noncomputable def C_lend : Code → Ldg → Spec := fun c l => oS c (match c with
  | .call (.builtin id) ⟨[.ref _], []⟩ => match l with
    | [(a, ⟨_, _, .seq ⟨vs⟩ e, _⟩)] => some (id, a, vs, e)
    | _ => none
  | _ => none) fun (id, a, vs, e) =>
    { need := S.eqLit 7300717 id, d := 3, code := .call (.builtin id) ⟨[.ref a], []⟩, pre := [(a, listO ⟨vs⟩ e)], hasFact := false, fact := fun _ => True, res := fun σ => .ok (.ret (.int (Int.ofNat vs.length) (σ.n 0))), post := fun _ => [(a, listO ⟨vs⟩ e)], hasHyp := true, hyp := vs.length ≤ 1000 }
theorem C_lend_ok {V : VV} (c : Code) (l : Ldg) : Meets V (C_lend c l) := by
  refine oS_ok fun ⟨id, a, vs, e⟩ => ?_
  show Meets _ ({ need := S.eqLit 7300717 id, d := 3, code := .call (.builtin id) ⟨[.ref a], []⟩, pre := [(a, listO ⟨vs⟩ e)], hasFact := false, fact := fun _ => True, res := fun σ => .ok (.ret (.int (Int.ofNat vs.length) (σ.n 0))), post := fun _ => [(a, listO ⟨vs⟩ e)], hasHyp := true, hyp := vs.length ≤ 1000 })
  intro q hy
  exact C_len_ok (V := V) (n := vs.length) (.call (.builtin id) ⟨[.ref a], []⟩) [(a, listO ⟨vs⟩ e)] q ⟨rfl, hy⟩
noncomputable def timesLc (V : VV) : Expr := retE (nthS (fnBody V 182) 0)
noncomputable def timesIn (V : VV) : Expr := arg0 (lcElt (timesLc V))
noncomputable def sDot0 : Str := ⟨#[46, 48]⟩
noncomputable def sMover : Str := ⟨#[109, 111, 118, 101, 114]⟩
/-- '_law_times.<locals>.' -/
noncomputable def qTimes : Str := ⟨#[95, 108, 97, 119, 95, 116, 105, 109, 101, 115, 46, 60, 108, 111, 99, 97, 108, 115, 62, 46]⟩
noncomputable def dictO (es : List DictEntry) (e : Nat) : Obj := { cls := .type "dict", data := .dict ⟨es⟩ e }
/-- [mover for mover in movers if mover == k]: what it stands on -/
structure Tx where
  ia : Addr
  la : Addr
  da : Addr
  kc : Addr
  ma : Addr
  fa : Addr
  em : Nat
  k : Int
  kt : Nat
noncomputable def tmEnv (x : Tx) : Env := ⟨⟨.function, [(sDot0, .local), (sMover, .local), (sK, .cell)], false, false, []⟩, x.da, 3, [(sK, x.kc)], qTimes, none, .ref 181, some x.fa, 0⟩
/-- how many of the m from j on are k -/
noncomputable def cntZ (z : Nat → Int) (k : Int) : Nat → Nat → Nat
  | _, 0 => 0
  | j, m + 1 => (if z j = k then 1 else 0) + cntZ z k (j + 1) m
noncomputable def S_cm (V : VV) (x : Tx) (first : Bool) (vs acc : List Value) (ea j m : Nat) (h0 : Int) (k0 : Nat) (z0 : Int) (t0 e0 : Nat) : Spec where
  need := true
  d := 6
  code := .compLoop (timesIn V) 0 (.ref x.ia) (.ref x.la) (tmEnv x)
  pre := [(x.ia, liO x.ma j), (x.la, listO ⟨acc⟩ ea), (x.da, match first with | true => dictO [] e0 | false => dictO [⟨h0, .str sMover k0, .int z0 t0⟩] e0), (x.kc, cellO (.int x.k x.kt)), (x.ma, listO ⟨vs⟩ x.em)]
  hasFact := true
  fact := fun σ => (σ.v 0).length = acc.length + cntZ (zOf vs) x.k j m
  res := fun _ => .ok .next
  post := fun σ => [(x.la, listO ⟨σ.v 0⟩ (σ.n 0)), (x.da, dictO [⟨σ.z 0, .str sMover (σ.n 1), .int (σ.z 1) (σ.n 2)⟩] (σ.n 3)), (x.kc, cellO (.int x.k x.kt)), (x.ma, listO ⟨vs⟩ x.em)]
  hasHyp := true
  hyp := acc.length + m ≤ 100
noncomputable def C_cm (V : VV) (vs : List Value) (j m : Nat) : Code → Ldg → Spec := fun c l => oS c (match c with
  | .compLoop _ _ (.ref ia) (.ref la) env => match l with
    | [_, (_, ⟨_, _, .seq ⟨acc⟩ ea, _⟩), (da, ⟨_, _, .dict ⟨es⟩ e0, _⟩), (kc, ⟨_, _, .cell (some (.int k kt)), _⟩), (ma, ⟨_, _, .seq _ em, _⟩)] => match env.frame with
      | some fa => match es with
        | [⟨h0, .str _ k0, .int z0 t0⟩] => some (ia, la, acc, ea, da, e0, kc, k, kt, ma, em, fa, h0, k0, z0, t0)
        | _ => none
      | none => none
    | _ => none
  | _ => none) fun (ia, la, acc, ea, da, e0, kc, k, kt, ma, em, fa, h0, k0, z0, t0) =>
    S_cm V ⟨ia, la, da, kc, ma, fa, em, k, kt⟩ false vs acc ea j m h0 k0 z0 t0 e0
theorem C_cm_ok {V : VV} {vs : List Value} {j m : Nat} (mm : ∀ x acc ea h0 k0 z0 t0 e0, Meets V (S_cm V x false vs acc ea j m h0 k0 z0 t0 e0)) (c : Code) (l : Ldg) : Meets V (C_cm V vs j m c l) := by
  exact oS_ok fun ⟨ia, la, acc, ea, da, e0, kc, k, kt, ma, em, fa, h0, k0, z0, t0⟩ => mm _ _ _ _ _ _ _ _
noncomputable def C_cm1 (V : VV) (vs : List Value) (m : Nat) : Code → Ldg → Spec := fun c l => oS c (match c with
  | .compLoop _ _ (.ref ia) (.ref la) env => match l with
    | [_, (_, ⟨_, _, .seq ⟨acc⟩ ea, _⟩), (da, ⟨_, _, .dict ⟨es⟩ e0, _⟩), (kc, ⟨_, _, .cell (some (.int k kt)), _⟩), (ma, ⟨_, _, .seq _ em, _⟩)] => match env.frame with
      | some fa => some (ia, la, acc, ea, da, e0, kc, k, kt, ma, em, fa)
      | none => none
    | _ => none
  | _ => none) fun (ia, la, acc, ea, da, e0, kc, k, kt, ma, em, fa) =>
    S_cm V ⟨ia, la, da, kc, ma, fa, em, k, kt⟩ true vs acc ea 0 m 0 0 0 0 e0
theorem C_cm1_ok {V : VV} {vs : List Value} {m : Nat} (mm : ∀ x acc ea e0, Meets V (S_cm V x true vs acc ea 0 m 0 0 0 0 e0)) (c : Code) (l : Ldg) : Meets V (C_cm1 V vs m c l) := by
  exact oS_ok fun ⟨ia, la, acc, ea, da, e0, kc, k, kt, ma, em, fa⟩ => mm _ _ _ _
/-- _law_times of 27 ints -/
noncomputable def S_times (a : Addr) (vs : List Value) (e : Nat) : Spec where
  need := true
  d := 20
  code := .call (.ref 182) ⟨[.ref a], []⟩
  pre := [(a, listO ⟨vs⟩ e)]
  hasFact := true
  fact := fun σ => ∀ k, k < 4 → σ.z k = Int.ofNat (cntZ (zOf vs) (Int.ofNat k) 0 27)
  res := fun σ => .ok (.ret (.ref (σ.n 9)))
  post := fun σ => [(σ.n 9, listO #[.int (σ.z 0) (σ.n 0), .int (σ.z 1) (σ.n 1), .int (σ.z 2) (σ.n 2), .int (σ.z 3) (σ.n 3)] 4), (a, listO ⟨vs⟩ e)]
end Mine
end
section
set_option maxRecDepth 100000
set_option maxHeartbeats 0
namespace Mine
open PySem PySem.W PySem.W.X PyProof.Rows
theorem as_map (vs : List Value) : vs = (List.range vs.length).map (fun i => vs.getD i .none) := by
  apply List.ext_getElem?
  intro i
  rw [List.getElem?_map]
  by_cases h : i < vs.length
  · rw [List.getElem?_range h, List.getElem?_eq_getElem h]
    simp [List.getD, List.getElem?_eq_getElem h]
  · rw [List.getElem?_eq_none (by omega), List.getElem?_eq_none (by simp; omega)]
    rfl
theorem list27 {vs : List Value} (hl : vs.length = 27) : ∃ a0 a1 a2 a3 a4 a5 a6 a7 a8 a9 a10 a11 a12 a13 a14 a15 a16 a17 a18 a19 a20 a21 a22 a23 a24 a25 a26, vs = [a0, a1, a2, a3, a4, a5, a6, a7, a8, a9, a10, a11, a12, a13, a14, a15, a16, a17, a18, a19, a20, a21, a22, a23, a24, a25, a26] := by
  have e := as_map vs
  rw [hl] at e
  generalize (fun i => vs.getD i .none) = f at e
  exact ⟨f 0, f 1, f 2, f 3, f 4, f 5, f 6, f 7, f 8, f 9, f 10, f 11, f 12, f 13, f 14, f 15, f 16, f 17, f 18, f 19, f 20, f 21, f 22, f 23, f 24, f 25, f 26, e⟩
theorem cntZ_le (z : Nat → Int) (k : Int) : ∀ m j, cntZ z k j m ≤ m
  | 0, _ => Nat.le_refl _
  | m + 1, j => by
    have := cntZ_le z k m (j + 1)
    show (if z j = k then 1 else 0) + cntZ z k (j + 1) m ≤ m + 1
    split <;> omega
theorem cnt_ne {z : Nat → Int} {k : Int} {j m : Nat} (h : z j ≠ k) : cntZ z k j (m + 1) = cntZ z k (j + 1) m := by
  show (if z j = k then 1 else 0) + _ = _
  rw [if_neg h, Nat.zero_add]
theorem cnt_eq {z : Nat → Int} {k : Int} {j m : Nat} (h : z j = k) : cntZ z k j (m + 1) = 1 + cntZ z k (j + 1) m := by
  show (if z j = k then 1 else 0) + _ = _
  rw [if_pos h]
section
variable {U : Un} {b₁ b₂ : Bool} (G : Good (mkV U b₁ b₂))
include G
theorem cm_end (vs : List Value) (hl : vs.length = 27) (x : Tx) (acc : List Value) (ea : Nat) (h0 : Int) (k0 : Nat) (z0 : Int) (t0 e0 : Nat) : Meets (mkV U b₁ b₂) (S_cm (mkV U b₁ b₂) x false vs acc ea 27 0 h0 k0 z0 t0 e0) := by
  obtain ⟨a0, a1, a2, a3, a4, a5, a6, a7, a8, a9, a10, a11, a12, a13, a14, a15, a16, a17, a18, a19, a20, a21, a22, a23, a24, a25, a26, rfl⟩ := list27 hl
  exact meets_of G (cs := []) trivial 31 [.l 0, .i, .l 0, .l 0, .l 0, .l 4, .l 0, .l 0, .l 0] (fun tk P => ⟨fun i => match i with | 0 => ea | 1 => k0 | 2 => t0 | 3 => e0 | _ => 0, fun i => match i with | 0 => h0 | 1 => z0 | _ => 0, fun _ => ⟨#[]⟩, fun i => match i with | 0 => acc | _ => []⟩) (fun tk P => []) [3, 3, 3, 3] (fun _ _ _ => by show acc.length = acc.length + 0; omega) (fun tk P => by kernel_rfl!)
theorem cm_meets (vs : List Value) (hd : AllInt vs) (hl : vs.length = 27) : ∀ (m j : Nat), j + m = 27 → ∀ (x : Tx) (acc : List Value) (ea : Nat) (h0 : Int) (k0 : Nat) (z0 : Int) (t0 e0 : Nat),
    Meets (mkV U b₁ b₂) (S_cm (mkV U b₁ b₂) x false vs acc ea j m h0 k0 z0 t0 e0) ∧ (0 < m → Meets (mkV U b₁ b₂) (S_cm (mkV U b₁ b₂) x true vs acc ea j m h0 k0 z0 t0 e0))
  | 0, j, hj, x, acc, ea, h0, k0, z0, t0, e0 => by
    have e : j = 27 := by omega
    subst e
    exact ⟨cm_end G vs hl x acc ea h0 k0 z0 t0 e0, fun h => absurd h (by omega)⟩
  | m + 1, j, hj, x, acc, ea, h0, k0, z0, t0, e0 => by
    have IH := C_cm_ok fun x acc ea h0 k0 z0 t0 e0 => (cm_meets vs hd hl m (j + 1) (by omega) x acc ea h0 k0 z0 t0 e0).1
    have hx := hd j (by omega)
    by_cases hq : zOf vs j = x.k
    · have C : CsOk (mkV U b₁ b₂) [C_lnx j, C_eqb (zOf vs j) x.k true, C_app, C_cm (mkV U b₁ b₂) vs (j + 1) m] := ⟨C_lnx_ok G.ok, C_eqb_ok (by simpa using hq), C_app_ok G.ok, IH, trivial⟩
      have fc : ∀ (l : List Value) (v : Value), l.length = (acc ++ [v]).length + cntZ (zOf vs) x.k (j + 1) m → l.length = acc.length + cntZ (zOf vs) x.k j (m + 1) := fun l v h => by
        rw [cnt_eq hq, h, List.length_append]
        show acc.length + 1 + _ = _
        omega
      refine ⟨Meets.hyp fun hy => ?_, fun _ => Meets.hyp fun hy => ?_⟩
      · have h1 : acc.length + (m + 1) ≤ 100 := hy
        have p1 : acc.length ≤ 1000 := by omega
        have p2 : ∀ v : Value, (acc ++ [v]).length + m ≤ 100 := fun v => by rw [List.length_append]; show acc.length + 1 + m ≤ 100; omega
        exact meets_hp G C 39 [.l 0, .ch 0 [0, 3] 0, .l 3, .l 3, .l 3, .l 4, .c 1 [], .l 3, .ch 2 [2] 1, .ah 3 [1, 0, 1, 1, 0] 2] (fun tk P => ⟨fun i => match i with | 0 => (P 3).s.n 0 | 1 => (P 3).s.n 1 | 2 => (P 3).s.n 2 | _ => (P 3).s.n 3, fun i => match i with | 0 => (P 3).s.z 0 | _ => (P 3).s.z 1, fun _ => ⟨#[]⟩, fun _ => (P 3).s.v 0⟩)
          (fun tk P => [((P 3).s.v 0).length = (acc ++ [Value.int (zOf vs j) (tOf vs j)]).length + cntZ (zOf vs) x.k (j + 1) m]) [0, 0, 0, 0] (fun tk P m' => match m' with | 0 => ⟨_, hx⟩ | 1 => ⟨_, p1⟩ | _ => ⟨_, p2 (Value.int (zOf vs j) (tOf vs j))⟩)
          (fun tk P h => fc _ _ (h _ (.head _))) (fun tk P => by exact Bool.casesOn b₁ (by kernel_rfl!) (by kernel_rfl!))
      · have h1 : acc.length + (m + 1) ≤ 100 := hy
        have p1 : acc.length ≤ 1000 := by omega
        have p2 : ∀ v : Value, (acc ++ [v]).length + m ≤ 100 := fun v => by rw [List.length_append]; show acc.length + 1 + m ≤ 100; omega
        exact meets_hp G C 39 [.l 0, .ch 0 [0, 3] 0, .l 3, .l 3, .l 3, .l 4, .c 1 [], .l 3, .ch 2 [2] 1, .ah 3 [1, 0, 1, 1, 0] 2] (fun tk P => ⟨fun i => match i with | 0 => (P 3).s.n 0 | 1 => (P 3).s.n 1 | 2 => (P 3).s.n 2 | _ => (P 3).s.n 3, fun i => match i with | 0 => (P 3).s.z 0 | _ => (P 3).s.z 1, fun _ => ⟨#[]⟩, fun _ => (P 3).s.v 0⟩)
          (fun tk P => [((P 3).s.v 0).length = (acc ++ [Value.int (zOf vs j) (tOf vs j)]).length + cntZ (zOf vs) x.k (j + 1) m]) [0, 0, 0, 0] (fun tk P m' => match m' with | 0 => ⟨_, hx⟩ | 1 => ⟨_, p1⟩ | _ => ⟨_, p2 (Value.int (zOf vs j) (tOf vs j))⟩)
          (fun tk P h => fc _ _ (h _ (.head _))) (fun tk P => by exact Bool.casesOn b₁ (by kernel_rfl!) (by kernel_rfl!))
    · have C : CsOk (mkV U b₁ b₂) [C_lnx j, C_eqb (zOf vs j) x.k false, C_app, C_cm (mkV U b₁ b₂) vs (j + 1) m] := ⟨C_lnx_ok G.ok, C_eqb_ok (by simpa using hq), C_app_ok G.ok, IH, trivial⟩
      have fc : ∀ (l : List Value), l.length = acc.length + cntZ (zOf vs) x.k (j + 1) m → l.length = acc.length + cntZ (zOf vs) x.k j (m + 1) := fun l h => by
        rw [cnt_ne hq, h]
      refine ⟨Meets.hyp fun hy => ?_, fun _ => Meets.hyp fun hy => ?_⟩
      · have h1 : acc.length + (m + 1) ≤ 100 := hy
        have p2 : acc.length + m ≤ 100 := by omega
        exact meets_hp G C 34 [.l 0, .ch 0 [0, 3] 0, .l 3, .l 3, .l 3, .l 4, .c 1 [], .ah 3 [0, 1, 1, 1, 0] 1] (fun tk P => ⟨fun i => match i with | 0 => (P 2).s.n 0 | 1 => (P 2).s.n 1 | 2 => (P 2).s.n 2 | _ => (P 2).s.n 3, fun i => match i with | 0 => (P 2).s.z 0 | _ => (P 2).s.z 1, fun _ => ⟨#[]⟩, fun _ => (P 2).s.v 0⟩)
          (fun tk P => [((P 2).s.v 0).length = acc.length + cntZ (zOf vs) x.k (j + 1) m]) [0, 0, 0, 0] (fun tk P m' => match m' with | 0 => ⟨_, hx⟩ | _ => ⟨_, p2⟩)
          (fun tk P h => fc _ (h _ (.head _))) (fun tk P => by exact Bool.casesOn b₁ (by kernel_rfl!) (by kernel_rfl!))
      · have h1 : acc.length + (m + 1) ≤ 100 := hy
        have p2 : acc.length + m ≤ 100 := by omega
        exact meets_hp G C 34 [.l 0, .ch 0 [0, 3] 0, .l 3, .l 3, .l 3, .l 4, .c 1 [], .ah 3 [0, 1, 1, 1, 0] 1] (fun tk P => ⟨fun i => match i with | 0 => (P 2).s.n 0 | 1 => (P 2).s.n 1 | 2 => (P 2).s.n 2 | _ => (P 2).s.n 3, fun i => match i with | 0 => (P 2).s.z 0 | _ => (P 2).s.z 1, fun _ => ⟨#[]⟩, fun _ => (P 2).s.v 0⟩)
          (fun tk P => [((P 2).s.v 0).length = acc.length + cntZ (zOf vs) x.k (j + 1) m]) [0, 0, 0, 0] (fun tk P m' => match m' with | 0 => ⟨_, hx⟩ | _ => ⟨_, p2⟩)
          (fun tk P h => fc _ (h _ (.head _))) (fun tk P => by exact Bool.casesOn b₁ (by kernel_rfl!) (by kernel_rfl!))
/-- the length of the list that the comprehension of k left -/
noncomputable abbrev tmF (vs : List Value) (k : Nat) (l : List Value) : Prop := l.length = ([] : List Value).length + cntZ (zOf vs) (Int.ofNat k) 0 27
omit G in
theorem tmF_le {vs : List Value} {k : Nat} {l : List Value} (h : tmF vs k l) : l.length ≤ 1000 := by
  have := cntZ_le (zOf vs) (Int.ofNat k) 27 0
  have h' : l.length = 0 + cntZ (zOf vs) (Int.ofNat k) 0 27 := h
  omega
omit G in
theorem tmF_z {vs : List Value} {k : Nat} {l : List Value} (h : tmF vs k l) : Int.ofNat l.length = Int.ofNat (cntZ (zOf vs) (Int.ofNat k) 0 27) := by
  have h' : l.length = 0 + cntZ (zOf vs) (Int.ofNat k) 0 27 := h
  rw [h', Nat.zero_add]
theorem times_meets (a e : Nat) (vs : List Value) (hd : AllInt vs) (hl : vs.length = 27) : Meets (mkV U b₁ b₂) (S_times a vs e) := by
  have C : CsOk (mkV U b₁ b₂) [C_cm1 (mkV U b₁ b₂) vs 27, C_lend] := ⟨C_cm1_ok fun x acc ea e0 => (cm_meets G vs hd hl 27 0 (by decide) x acc ea 0 0 0 0 e0).2 (by decide), C_lend_ok, trivial⟩
  have p0 : ([] : List Value).length + 27 ≤ 100 := by decide
  have l0 : ∀ {k l}, tmF vs k l → l.length ≤ 1000 := tmF_le
  have fz : ∀ (l0 l1 l2 l3 : List Value), tmF vs 3 l3 → tmF vs 2 l2 → tmF vs 1 l1 → tmF vs 0 l0 → ∀ k, k < 4 → (match k with | 0 => Int.ofNat l0.length | 1 => Int.ofNat l1.length | 2 => Int.ofNat l2.length | 3 => Int.ofNat l3.length | _ => 0) = Int.ofNat (cntZ (zOf vs) (Int.ofNat k) 0 27) := fun l0 l1 l2 l3 f3 f2 f1 f0 k hk => by
    match k, hk with
    | 0, _ => exact tmF_z f0
    | 1, _ => exact tmF_z f1
    | 2, _ => exact tmF_z f2
    | 3, _ => exact tmF_z f3
    | k + 4, h => exact absurd h (by omega)
  cases b₂
  · exact meets_hp G C 406 [.t, .t, .l 0, .l 0, .e none 1 [(⟨#[109, 111, 118, 101, 114, 115]⟩, 0)] ⟨#[95, 108, 97, 119, 95, 116, 105, 109, 101, 115, 46, 60, 108, 111, 99, 97, 108, 115, 62, 46]⟩, .t, .t, .i, .i, .l 0, .l 0, .i, .l 0, .l 0, .l 0, .l 0, .i, .l 0, .l 0, .l 0, .l 0, .l 0, .i, .l 3, .l 3, .i, .l 3, .l 3, .l 3, .i, .l 3, .l 3, .l 3, .l 3, .l 3, .l 3, .l 3, .l 3, .l 0, .l 0, .t, .t, .l 5, .l 7, .l 7, .i, .l 7, .l 0, .i, .l 2, .l 2, .i, .l 2, .l 2, .ah 0 [2, 1, 0, 0, 6] 0, .l 1, .l 1, .l 1, .ch 1 [0] 1, .i, .l 5, .l 5, .l 5, .l 5, .l 6, .i, .l 6, .l 6, .l 6, .l 6, .l 6, .l 6, .l 6, .l 6, .l 2, .l 2, .t, .t, .l 8, .l 3, .l 3, .i, .l 3, .l 0, .i, .l 2, .l 2, .i, .l 2, .l 2, .ah 0 [2, 1, 0, 2, 2] 2, .l 1, .l 1, .l 1, .ch 1 [0] 3, .i, .l 7, .l 7, .l 7, .l 7, .l 8, .i, .l 8, .l 8, .l 8, .l 8, .l 8, .l 8, .l 8, .l 8, .l 2, .l 2, .t, .t, .l 10, .l 3, .l 3, .i, .l 3, .l 0, .i, .l 2, .l 2, .i, .l 2, .l 2, .ah 0 [2, 1, 0, 2, 2] 4, .l 1, .l 1, .l 1, .ch 1 [0] 5, .i, .l 9, .l 9, .l 9, .l 9, .l 10, .i, .l 10, .l 10, .l 10, .l 10, .l 10, .l 10, .l 10, .l 10, .l 2, .l 2, .t, .t, .l 12, .l 3, .l 3, .i, .l 3, .l 0, .i, .l 2, .l 2, .i, .l 2, .l 2, .ah 0 [2, 1, 0, 2, 2] 6, .l 1, .l 1, .l 1, .ch 1 [0] 7, .i, .l 11, .l 11, .l 11, .l 11, .l 12, .i, .l 12, .l 12, .l 12, .l 12, .l 0] (fun tk P => ⟨fun i => match i with | 0 => (P 11).s.n 0 | 1 => (P 16).s.n 0 | 2 => (P 21).s.n 0 | 3 => (P 26).s.n 0 | _ => (P 4).s.n 0, fun k => match k with | 0 => Int.ofNat ((P 10).s.v 0).length | 1 => Int.ofNat ((P 15).s.v 0).length | 2 => Int.ofNat ((P 20).s.v 0).length | 3 => Int.ofNat ((P 25).s.v 0).length | _ => 0, fun _ => ⟨#[]⟩, fun _ => []⟩) (fun tk P => [tmF vs 3 ((P 25).s.v 0), tmF vs 2 ((P 20).s.v 0), tmF vs 1 ((P 15).s.v 0), tmF vs 0 ((P 10).s.v 0)]) [13, 5] (fun tk P m => match m with | 0 => ⟨_, p0⟩ | 1 => ⟨_, fun (h : tmF vs 0 ((P 10).s.v 0)) => l0 h⟩ | 2 => ⟨_, fun (_ : tmF vs 0 ((P 10).s.v 0)) => p0⟩ | 3 => ⟨_, fun (h : tmF vs 1 ((P 15).s.v 0)) (_ : tmF vs 0 ((P 10).s.v 0)) => l0 h⟩ | 4 => ⟨_, fun (_ : tmF vs 1 ((P 15).s.v 0)) (_ : tmF vs 0 ((P 10).s.v 0)) => p0⟩ | 5 => ⟨_, fun (h : tmF vs 2 ((P 20).s.v 0)) (_ : tmF vs 1 ((P 15).s.v 0)) (_ : tmF vs 0 ((P 10).s.v 0)) => l0 h⟩ | 6 => ⟨_, fun (_ : tmF vs 2 ((P 20).s.v 0)) (_ : tmF vs 1 ((P 15).s.v 0)) (_ : tmF vs 0 ((P 10).s.v 0)) => p0⟩ | _ => ⟨_, fun (h : tmF vs 3 ((P 25).s.v 0)) (_ : tmF vs 2 ((P 20).s.v 0)) (_ : tmF vs 1 ((P 15).s.v 0)) (_ : tmF vs 0 ((P 10).s.v 0)) => l0 h⟩)
      (fun tk P h => fz _ _ _ _ (h _ (.head _)) (h _ (.tail _ (.head _))) (h _ (.tail _ (.tail _ (.head _)))) (h _ (.tail _ (.tail _ (.tail _ (.head _)))))) (fun tk P => by exact Bool.casesOn b₁ (by kernel_rfl!) (by kernel_rfl!))
  · exact meets_hp G C 356 [.t, .t, .l 0, .l 0, .e none 1 [(⟨#[109, 111, 118, 101, 114, 115]⟩, 0)] ⟨#[95, 108, 97, 119, 95, 116, 105, 109, 101, 115, 46, 60, 108, 111, 99, 97, 108, 115, 62, 46]⟩, .t, .t, .i, .i, .l 0, .l 0, .i, .l 0, .l 0, .l 0, .l 0, .i, .l 0, .l 0, .l 0, .l 0, .l 0, .i, .l 3, .i, .l 3, .l 3, .l 3, .l 3, .l 3, .l 3, .l 3, .l 3, .l 0, .l 0, .t, .t, .l 5, .l 7, .l 7, .i, .l 7, .l 0, .i, .ah 0 [2, 1, 0, 0, 6] 0, .l 1, .l 1, .l 1, .ch 1 [0] 1, .i, .l 5, .l 5, .l 5, .l 5, .l 6, .i, .l 6, .l 6, .l 6, .l 6, .l 6, .l 6, .l 6, .l 6, .l 2, .l 2, .t, .t, .l 8, .l 3, .l 3, .i, .l 3, .l 0, .i, .ah 0 [2, 1, 0, 2, 2] 2, .l 1, .l 1, .l 1, .ch 1 [0] 3, .i, .l 7, .l 7, .l 7, .l 7, .l 8, .i, .l 8, .l 8, .l 8, .l 8, .l 8, .l 8, .l 8, .l 8, .l 2, .l 2, .t, .t, .l 10, .l 3, .l 3, .i, .l 3, .l 0, .i, .ah 0 [2, 1, 0, 2, 2] 4, .l 1, .l 1, .l 1, .ch 1 [0] 5, .i, .l 9, .l 9, .l 9, .l 9, .l 10, .i, .l 10, .l 10, .l 10, .l 10, .l 10, .l 10, .l 10, .l 10, .l 2, .l 2, .t, .t, .l 12, .l 3, .l 3, .i, .l 3, .l 0, .i, .ah 0 [2, 1, 0, 2, 2] 6, .l 1, .l 1, .l 1, .ch 1 [0] 7, .i, .l 11, .l 11, .l 11, .l 11, .l 12, .i, .l 12, .l 12, .l 12, .l 12, .l 0] (fun tk P => ⟨fun i => match i with | 0 => (P 11).s.n 0 | 1 => (P 16).s.n 0 | 2 => (P 21).s.n 0 | 3 => (P 26).s.n 0 | _ => (P 4).s.n 0, fun k => match k with | 0 => Int.ofNat ((P 10).s.v 0).length | 1 => Int.ofNat ((P 15).s.v 0).length | 2 => Int.ofNat ((P 20).s.v 0).length | 3 => Int.ofNat ((P 25).s.v 0).length | _ => 0, fun _ => ⟨#[]⟩, fun _ => []⟩) (fun tk P => [tmF vs 3 ((P 25).s.v 0), tmF vs 2 ((P 20).s.v 0), tmF vs 1 ((P 15).s.v 0), tmF vs 0 ((P 10).s.v 0)]) [13, 5] (fun tk P m => match m with | 0 => ⟨_, p0⟩ | 1 => ⟨_, fun (h : tmF vs 0 ((P 10).s.v 0)) => l0 h⟩ | 2 => ⟨_, fun (_ : tmF vs 0 ((P 10).s.v 0)) => p0⟩ | 3 => ⟨_, fun (h : tmF vs 1 ((P 15).s.v 0)) (_ : tmF vs 0 ((P 10).s.v 0)) => l0 h⟩ | 4 => ⟨_, fun (_ : tmF vs 1 ((P 15).s.v 0)) (_ : tmF vs 0 ((P 10).s.v 0)) => p0⟩ | 5 => ⟨_, fun (h : tmF vs 2 ((P 20).s.v 0)) (_ : tmF vs 1 ((P 15).s.v 0)) (_ : tmF vs 0 ((P 10).s.v 0)) => l0 h⟩ | 6 => ⟨_, fun (_ : tmF vs 2 ((P 20).s.v 0)) (_ : tmF vs 1 ((P 15).s.v 0)) (_ : tmF vs 0 ((P 10).s.v 0)) => p0⟩ | _ => ⟨_, fun (h : tmF vs 3 ((P 25).s.v 0)) (_ : tmF vs 2 ((P 20).s.v 0)) (_ : tmF vs 1 ((P 15).s.v 0)) (_ : tmF vs 0 ((P 10).s.v 0)) => l0 h⟩)
      (fun tk P h => fz _ _ _ _ (h _ (.head _)) (h _ (.tail _ (.head _))) (h _ (.tail _ (.tail _ (.head _)))) (h _ (.tail _ (.tail _ (.tail _ (.head _)))))) (fun tk P => by exact Bool.casesOn b₁ (by kernel_rfl!) (by kernel_rfl!))
end
end Mine
end
section
set_option maxRecDepth 100000
set_option maxHeartbeats 0
namespace Mine
open PySem PySem.W PySem.W.X PyProof.Rows
/-- the same int or the same text -/
noncomputable def EqV (a b : Value) : Prop := (∃ z t u, a = .int z t ∧ b = .int z u) ∨ (∃ s t u, a = .str s t ∧ b = .str s u)
theorem EqV.gives {a b : Value} (h : EqV a b) (A : Around) (s : Shared) : SeqAt.EqAt A s a b true := by
  rcases h with ⟨z, t, u, rfl, rfl⟩ | ⟨x, t, u, rfl, rfl⟩
  · have := MeetsSeq.EqGives.int z z t u
    rw [beq_self_eq_true] at this
    exact this.at A s
  · have := SeqRoads2.EqGives.str x x t u
    rw [beq_self_eq_true] at this
    exact this.at A s
noncomputable def EqVs (vs ws : List Value) : Prop := vs.length = ws.length ∧ ∀ i (h1 : i < vs.length) (h2 : i < ws.length), EqV vs[i] ws[i]
theorem isList_of {V : VV} {h : Heap} {F L : Ldg} {a : Addr} {vs : List Value} {e tk : Nat} (D : Led V h (L ++ F)) (hm : (a, listO ⟨vs⟩ e) ∈ L) : (sh V h tk).heap.IsList a ⟨vs⟩ :=
  ⟨_, D.led (a, listO ⟨vs⟩ e) (List.mem_append_left _ hm), rfl, e, rfl⟩
theorem all_true (n : Nat) : (List.range n).all (fun _ => true) = true := by
  rw [List.all_eq_true]; intros; rfl
noncomputable def opEq : CmpOp → Bool
  | .Eq => true
  | _ => false
noncomputable def opNe : CmpOp → Bool
  | .NotEq => true
  | _ => false
noncomputable def noC : CSp := { need := false, pre := [], v := false }
/-- == of two lists: alike -/
noncomputable def D_eqT : CmpTy := fun op x y l => match x, y, l with
  | .ref a, .ref b, [(_, ⟨_, _, .seq ⟨vs⟩ e, _⟩), (_, ⟨_, _, .seq ⟨ws⟩ f, _⟩)] => { need := opEq op, pre := [(a, listO ⟨vs⟩ e), (b, listO ⟨ws⟩ f)], v := true, hasHyp := true, hyp := EqVs vs ws }
  | _, _, _ => noC
/-- == of two lists of other lengths -/
noncomputable def D_eqF : CmpTy := fun op x y l => match x, y, l with
  | .ref a, .ref b, [(_, ⟨_, _, .seq ⟨vs⟩ e, _⟩), (_, ⟨_, _, .seq ⟨ws⟩ f, _⟩)] => { need := opEq op, pre := [(a, listO ⟨vs⟩ e), (b, listO ⟨ws⟩ f)], v := false, hasHyp := true, hyp := vs.length ≠ ws.length }
  | _, _, _ => noC
/-- != of two lists: alike -/
noncomputable def D_neF : CmpTy := fun op x y l => match x, y, l with
  | .ref a, .ref b, [(_, ⟨_, _, .seq ⟨vs⟩ e, _⟩), (_, ⟨_, _, .seq ⟨ws⟩ f, _⟩)] => { need := opNe op, pre := [(a, listO ⟨vs⟩ e), (b, listO ⟨ws⟩ f)], v := false, hasHyp := true, hyp := EqVs vs ws }
  | _, _, _ => noC
theorem opEq_is {op : CmpOp} (h : opEq op = true) : op = .Eq := by cases op <;> first | rfl | cases h
theorem opNe_is {op : CmpOp} (h : opNe op = true) : op = .NotEq := by cases op <;> first | rfl | cases h
theorem noC_ok {V : VV} {op : CmpOp} {x y : Value} : CMeets V op x y noC := fun h => nomatch h
theorem D_eqT_ok {V : VV} (op : CmpOp) (x y : Value) (l : Ldg) : CMeets V op x y (D_eqT op x y l) := by
  unfold D_eqT
  split
  · rename_i a b _ _ _ vs e _ _ _ _ ws f _
    intro q hy A h F tk Q E hu D hq
    have e0 := opEq_is q
    subst e0
    have hy' : EqVs vs ws := hy
    have h1 : (sh V h tk).heap.IsList a ⟨vs⟩ := isList_of D (.head _)
    have h2 : (sh V h tk).heap.IsList b ⟨ws⟩ := isList_of D (.tail _ (.head _))
    exact SeqAt.eq_listAt (e := fun _ => true) h1 h2 hy'.1 (by omega) (fun j g1 g2 => (hy'.2 j g1 g2).gives _ _) (by rw [all_true]; exact hq)
  · exact noC_ok
theorem D_eqF_ok {V : VV} (op : CmpOp) (x y : Value) (l : Ldg) : CMeets V op x y (D_eqF op x y l) := by
  unfold D_eqF
  split
  · rename_i a b _ _ _ vs e _ _ _ _ ws f _
    intro q hy A h F tk Q E hu D hq
    have e0 := opEq_is q
    subst e0
    have hy' : vs.length ≠ ws.length := hy
    have h1 : (sh V h tk).heap.IsList a ⟨vs⟩ := isList_of D (.head _)
    have h2 : (sh V h tk).heap.IsList b ⟨ws⟩ := isList_of D (.tail _ (.head _))
    exact SeqAt.eq_list_lengthsAt h1 h2 (by simpa using hy') (by omega) hq
  · exact noC_ok
theorem D_neF_ok {V : VV} (op : CmpOp) (x y : Value) (l : Ldg) : CMeets V op x y (D_neF op x y l) := by
  unfold D_neF
  split
  · rename_i a b _ _ _ vs e _ _ _ _ ws f _
    intro q hy A h F tk Q E hu D hq
    have e0 := opNe_is q
    subst e0
    have hy' : EqVs vs ws := hy
    have h1 : (sh V h tk).heap.IsList a ⟨vs⟩ := isList_of D (.head _)
    have h2 : (sh V h tk).heap.IsList b ⟨ws⟩ := isList_of D (.tail _ (.head _))
    exact SeqAt.RcNeAt.lists (e := fun _ => true) h1 h2 hy'.1 (by omega) (fun j g1 g2 => (hy'.2 j g1 g2).gives _ _) V.prog V.w E Q (by rw [all_true]; exact hq)
  · exact noC_ok
/-! tuples of floats -/
theorem eqAt_float {A : Around} {s : Shared} {x y : UInt64} {t u : Tok} {b : Bool} (hn : NoneBooked s.heap) (h0 : (t == 0 || u == 0) = false) (hx : t = u → x = y) (hq : x = y → b = true) (hc : (Float64.cmp x y == some Ordering.eq) = b) :
    SeqAt.EqAt A s (.float x t) (.float y u) b := fun prog w E Q hQ => by
  have cmp : wpAny (model prog w) A (truthOfDropped =<< richCompare .Eq (.float x t) (.float y u)) Q E s := by
    refine wpAny_bind ?_
    have z := AutoFloatOps.eq_0 (prog := prog) (w := w) (A := A) (E := E) (s := s) (a := x) (b := y) (t := t) (u := u) (Q := fun v s' => wpAny (model prog w) A (truthOfDropped v) Q E s') (by rw [hc]; exact wpAny_truthy_bool hQ)
    exact z
  unfold eqBool
  refine wpAny_holding ?_
  refine wpAny_ite_split (fun hab => ?_) (fun hab => ?_)
  · have e : x = y := by have := eq_of_beq hab; injection this
    have hb := hq e
    subst hb
    exact wpAny_bind (wpAny_rule (wpAny_pure hQ))
  · show wpAny _ _ (isSame.created (x == y && !Float64.isNaN x) t u >>= _) _ _ _
    refine wpAny_bind ?_
    unfold isSame.created
    refine wpAny_ite ?_
    split
    · rename_i h; rw [h0] at h; exact absurd h Bool.false_ne_true
    refine wpAny_ite ?_
    split
    · rename_i h
      have hb := hq (hx (by simpa using h))
      subst hb
      exact wpAny_pure (wpAny_pure hQ)
    refine wpAny_ite ?_
    split
    · exact wpAny_pure cmp
    rename_i h
    have e : x = y := by
      have : (x == y && !Float64.isNaN x) = true := by simpa using h
      have := (Bool.and_eq_true_iff.mp this).1
      exact eq_of_beq this
    refine wpAny_bind (wpAny_sharingNotTold_none hn ?_)
    first | rw [if_neg Bool.false_ne_true] | simp only [Bool.false_eq_true, if_false]
    refine wpAny_bind (wpAny_sharingNotTold_none hn ?_)
    first | rw [if_neg Bool.false_ne_true] | simp only [Bool.false_eq_true, if_false]
    refine wpAny_bind (wpAny_rule (wpAny_bind (wpAny_askSetting (wpAny_pure ?_))))
    refine wpAny_ite ?_
    split
    · have hb := hq e
      subst hb
      exact wpAny_pure hQ
    · exact cmp
end Mine
end
section
set_option maxRecDepth 100000
set_option maxHeartbeats 0
namespace Mine
open PySem PySem.W PySem.W.X PyProof.Rows
noncomputable def feq (x y : UInt64) : Bool := Float64.cmp x y == some Ordering.eq
noncomputable def triEq (p q : Tri) : Bool := feq p.a q.a && (feq p.b q.b && feq p.c q.c)
/-- a light's tuple, its tokens t i + 1 -/
noncomputable def triO (p : Tri) (t : Nat → Nat) : Obj := tupO #[.float p.a (Nat.succ (t 0)), .float p.b (Nat.succ (t 1)), .float p.c (Nat.succ (t 2))]
/-- == of two lights -/
noncomputable def D_tup (p q : Tri) (tp tq : Nat → Nat) (v : Bool) : CmpTy := fun op x y _ => match x, y with
  | .ref a, .ref b => { need := opEq op, pre := [(a, triO p tp), (b, triO q tq)], v }
  | _, _ => noC
theorem nb_of {U : Un} {b₁ b₂ : Bool} (G : Good (mkV U b₁ b₂)) {h : Heap} {L : Ldg} (D : Led (mkV U b₁ b₂) h L) : NoneBooked h := by
  obtain ⟨mc, ⟨o, es, ep, ho, hdt, hk, hf⟩, _⟩ := G.limit D
  have z := D.top G.ok (a := 2) (o := match (hd.ktop_399 (ft b₁ b₂ U.P)).get 2 with | some o => o | none => { cls := .none }) (by kernel_rfl!) (by kernel_rfl!)
  have e0 := Option.some.inj (ho.symm.trans z)
  refine ⟨mc, ⟨o, es, ep, ho, hdt, hk, hf⟩, ?_⟩
  rw [← hf]
  have e1 : es = (match (match (hd.ktop_399 (ft b₁ b₂ U.P)).get 2 with | some o => o | none => ({ cls := .none } : Obj)).data with | .dict es _ => es | _ => #[]) := by
    rw [← e0, hdt]
  rw [e1]
  kernel_rfl!
theorem D_tup_ok {U : Un} {b₁ b₂ : Bool} (G : Good (mkV U b₁ b₂)) {p q : Tri} {tp tq : Nat → Nat} {v : Bool} (hv : triEq p q = v) (ht : ∀ i, i < 3 → tp i ≠ tq i)
    (ha : p.a = q.a → feq p.a q.a = true) (hb : p.b = q.b → feq p.b q.b = true) (hc : p.c = q.c → feq p.c q.c = true) (op : CmpOp) (x y : Value) (l : Ldg) : CMeets (mkV U b₁ b₂) op x y (D_tup p q tp tq v op x y l) := by
  unfold D_tup
  split
  · rename_i a b
    intro qn _ A h F tk Q E hu D hq
    have e0 := opEq_is qn
    subst e0
    have nb : NoneBooked (sh (mkV U b₁ b₂) h tk).heap := nb_of G D
    have h1 : (sh (mkV U b₁ b₂) h tk).heap.IsTuple a #[.float p.a (Nat.succ (tp 0)), .float p.b (Nat.succ (tp 1)), .float p.c (Nat.succ (tp 2))] := ⟨_, D.led (a, triO p tp) (.head _), rfl, 0, rfl⟩
    have h2 : (sh (mkV U b₁ b₂) h tk).heap.IsTuple b #[.float q.a (Nat.succ (tq 0)), .float q.b (Nat.succ (tq 1)), .float q.c (Nat.succ (tq 2))] := ⟨_, D.led (b, triO q tq) (.tail _ (.head _)), rfl, 0, rfl⟩
    have z0 : ∀ m n : Nat, ((Nat.succ m) == 0 || (Nat.succ n) == 0) = false := fun m n => by simp
    refine SeqAt.eq_tupleAt (e := fun j => match j with | 0 => feq p.a q.a | 1 => feq p.b q.b | _ => feq p.c q.c) h1 h2 (by omega) (fun j g1 g2 => ?_) ?_
    · match j, g1 with
      | 0, _ => exact eqAt_float nb (z0 _ _) (fun e => absurd (Nat.succ.inj e) (ht 0 (by decide))) ha rfl
      | 1, _ => exact eqAt_float nb (z0 _ _) (fun e => absurd (Nat.succ.inj e) (ht 1 (by decide))) hb rfl
      | 2, _ => exact eqAt_float nb (z0 _ _) (fun e => absurd (Nat.succ.inj e) (ht 2 (by decide))) hc rfl
      | j + 3, g => exact absurd g (by show ¬ j + 3 < 3; omega)
    · have : ((List.range (min 3 3)).all (fun j => match j with | 0 => feq p.a q.a | 1 => feq p.b q.b | _ => feq p.c q.c) && (3 == 3)) = v := by
        rw [← hv]
        show (feq p.a q.a && (feq p.b q.b && (feq p.c q.c && true)) && true) = triEq p q
        unfold triEq
        cases feq p.a q.a <;> cases feq p.b q.b <;> cases feq p.c q.c <;> rfl
      show Q (.bool ((List.range (min 3 3)).all (fun j => match j with | 0 => feq p.a q.a | 1 => feq p.b q.b | _ => feq p.c q.c) && (3 == 3))) _
      rw [this]
      exact hq
  · exact noC_ok
end Mine
end
section
set_option maxRecDepth 100000
set_option maxHeartbeats 0
namespace Mine
open PySem PySem.W PySem.W.X PyProof.Rows
/-! accessors of the text's own trees -/
noncomputable def asgE : Stmt → Expr
  | .Assign _ e _ => e
  | _ => dflE
noncomputable def lcTgt : Expr → Expr
  | .ListComp _ [⟨t, _, _, _⟩] _ _ => t
  | _ => dflE
noncomputable def lcIt : Expr → Expr
  | .ListComp _ [⟨_, i, _, _⟩] _ _ => i
  | _ => dflE
noncomputable def lcIf : Expr → Expr
  | .ListComp _ [⟨_, _, [c], _⟩] _ _ => c
  | _ => dflE
noncomputable def lcSc : Expr → Scope
  | .ListComp _ _ s _ => s
  | _ => default
noncomputable def exPos : Expr → Pos
  | .ListComp _ _ _ p => p
  | .Compare _ _ _ p => p
  | _ => default
noncomputable def cmL : Expr → Expr
  | .Compare l _ _ _ => l
  | _ => dflE
noncomputable def cmR : Expr → Expr
  | .Compare _ _ [r] _ => r
  | _ => dflE
noncomputable def runFor (V : VV) : Stmt := nthS (fnBody V 172) 6
noncomputable def frLc (V : VV) : Expr := asgE (nthS (forB (runFor V)) 1)
/-- the free places' comprehension, its parts named -/
noncomputable def frE (V : VV) : Expr := .ListComp (lcElt (frLc V)) [⟨lcTgt (frLc V), lcIt (frLc V), [.Compare (.Compare (cmL (cmL (lcIf (frLc V)))) [.Eq] [cmR (cmL (lcIf (frLc V)))] (exPos (cmL (lcIf (frLc V))))) [.Eq] [cmR (lcIf (frLc V))] (exPos (lcIf (frLc V)))], 0⟩] (lcSc (frLc V)) (exPos (frLc V))
noncomputable def sLights : Str := ⟨#[108, 105, 103, 104, 116, 115]⟩
/-- '_law_run.<locals>.' -/
noncomputable def qRun : Str := ⟨#[95, 108, 97, 119, 95, 114, 117, 110, 46, 60, 108, 111, 99, 97, 108, 115, 62, 46]⟩
/-- the numbers of a list of ints -/
noncomputable def IsI (vs : List Value) (ns : List Nat) : Prop := vs.length = ns.length ∧ ∀ (i n : Nat), ns[i]? = some n → ∃ t, vs[i]? = some (Value.int (Int.ofNat n) t)
theorem IsI.nil : IsI [] [] := ⟨rfl, fun i n h => by simp at h⟩
theorem IsI.one (n t : Nat) : IsI [Value.int (Int.ofNat n) t] [n] := ⟨rfl, fun i m h => by
  match i with
  | 0 => cases h; exact ⟨t, rfl⟩
  | i + 1 => simp at h⟩
theorem IsI.app {vs ws : List Value} {ns ms : List Nat} (h : IsI vs ns) (g : IsI ws ms) : IsI (vs ++ ws) (ns ++ ms) := by
  refine ⟨by rw [List.length_append, List.length_append, h.1, g.1], fun i n q => ?_⟩
  by_cases hi : i < ns.length
  · rw [List.getElem?_append_left hi] at q
    rw [List.getElem?_append_left (by rw [h.1]; exact hi)]
    exact h.2 i n q
  · rw [List.getElem?_append_right (by omega)] at q
    rw [List.getElem?_append_right (by rw [h.1]; omega), h.1]
    exact g.2 _ n q
/-- those of the m places from k on that are free -/
noncomputable def frL (fz : Nat → Bool) : Nat → Nat → List Nat
  | _, 0 => []
  | k, m + 1 => (match fz k with | true => [k] | false => []) ++ frL fz (k + 1) m
/-- what the comprehension of the free places stands on; its lights and their tokens -/
structure Gx where
  ia : Addr
  la : Addr
  da : Addr
  lc : Addr
  ll : Addr
  fa : Addr
  l : Nat → Addr
  el : Nat
noncomputable def frEnv (x : Gx) : Env := ⟨⟨.function, [(sDot0, .local), (sK, .local), (sLights, .cell)], false, false, []⟩, x.da, 3, [(sLights, x.lc)], qRun, none, .ref 171, some x.fa, 0⟩
noncomputable def litL (x : Gx) (Lt : Nat → Tri) (lt : Nat → Nat → Nat) : Ldg := [(x.lc, cellO (.ref x.ll)), (x.ll, listO #[.ref (x.l 0), .ref (x.l 1), .ref (x.l 2), .ref (x.l 3)] x.el), (x.l 0, triO (Lt 0) (lt 0)), (x.l 1, triO (Lt 1) (lt 1)), (x.l 2, triO (Lt 2) (lt 2)), (x.l 3, triO (Lt 3) (lt 3))]
noncomputable def S_fr (V : VV) (x : Gx) (Lt : Nat → Tri) (lt : Nat → Nat → Nat) (fz : Nat → Bool) (k : Nat) (acc : List Value) (ea : Nat) (h0 : Int) (k0 : Nat) (z0 : Int) (t0 e0 : Nat) : Spec where
  need := true
  d := 10
  code := .compLoop (frE V) 0 (.ref x.ia) (.ref x.la) (frEnv x)
  pre := (x.ia, rgO k (4 - k)) :: (x.la, listO ⟨acc⟩ ea) :: (x.da, match k with | 0 => dictO [] e0 | _ => dictO [⟨h0, .str sK k0, .int z0 t0⟩] e0) :: litL x Lt lt
  hasFact := true
  fact := fun σ => ∃ more, σ.v 0 = acc ++ more ∧ IsI more (frL fz k (4 - k))
  res := fun _ => .ok .next
  post := fun σ => (x.la, listO ⟨σ.v 0⟩ (σ.n 0)) :: (x.da, dictO [⟨σ.z 0, .str sK (σ.n 1), .int (σ.z 1) (σ.n 2)⟩] (σ.n 3)) :: litL x Lt lt
  hasHyp := true
  hyp := acc.length ≤ k
noncomputable def C_fr (V : VV) (Lt : Nat → Tri) (lt : Nat → Nat → Nat) (fz : Nat → Bool) (k : Nat) : Code → Ldg → Spec := fun c l => oS c (match c with
  | .compLoop _ _ (.ref ia) (.ref la) env => match l with
    | [_, (_, ⟨_, _, .seq ⟨acc⟩ ea, _⟩), (da, ⟨_, _, .dict ⟨es⟩ e0, _⟩), (lc, _), (ll, ⟨_, _, .seq _ el, _⟩), (l0, _), (l1, _), (l2, _), (l3, _)] => match env.frame with
      | some fa => match k with
        | 0 => some (ia, la, da, lc, ll, fa, l0, l1, l2, l3, el, acc, ea, (0 : Int), (0 : Nat), (0 : Int), (0 : Nat), e0)
        | _ => match es with
          | [⟨h0, .str _ k0, .int z0 t0⟩] => some (ia, la, da, lc, ll, fa, l0, l1, l2, l3, el, acc, ea, h0, k0, z0, t0, e0)
          | _ => none
      | none => none
    | _ => none
  | _ => none) fun (ia, la, da, lc, ll, fa, l0, l1, l2, l3, el, acc, ea, h0, k0, z0, t0, e0) =>
    S_fr V ⟨ia, la, da, lc, ll, fa, fun i => match i with | 0 => l0 | 1 => l1 | 2 => l2 | _ => l3, el⟩ Lt lt fz k acc ea h0 k0 z0 t0 e0
theorem C_fr_ok {V : VV} {Lt : Nat → Tri} {lt : Nat → Nat → Nat} {fz : Nat → Bool} {k : Nat} (mm : ∀ x acc ea h0 k0 z0 t0 e0, Meets V (S_fr V x Lt lt fz k acc ea h0 k0 z0 t0 e0)) (c : Code) (l : Ldg) : Meets V (C_fr V Lt lt fz k c l) := by
  exact oS_ok fun ⟨_, _, _, _, _, _, _, _, _, _, _, _, _, _, _, _, _, _⟩ => mm _ _ _ _ _ _ _ _
/-- int.__eq__ of two bools -/
noncomputable def C_bb (p q v : Bool) : Code → Ldg → Spec := fun c _ => oS c (match c with
  | .call (.builtin id) ⟨[.bool _, .bool _], []⟩ => some id
  | _ => none) fun id =>
    bSpec (.call (.builtin id) ⟨[.bool p, .bool q], []⟩) (S.eqLit 455126313168696235093866 id) (fun _ => .bool v)
theorem C_bb_ok {V : VV} {p q v : Bool} (h : (p == q) = v) (c : Code) (l : Ldg) : Meets V (C_bb p q v c l) := by
  refine oS_ok fun id => ?_
  show Meets _ (bSpec (.call (.builtin id) ⟨[.bool p, .bool q], []⟩) (S.eqLit 455126313168696235093866 id) (fun _ => .bool v))
  intro qn
  have h0 := qn
  simp only [bSpec] at qn
  have e := id_of qn (s := "int.__eq__") (by decide +kernel)
  subst e
  exact con_gives F.slot_bool_eq (fun s => rfl) F.entry_int_eq (F.args_int_eq_2 _ _) (PySem.SeqAt.int___eq___bool_bool_0 p q) trivial (fun σ => by subst h; cases p <;> cases q <;> rfl) h0
noncomputable def sgFr (V : VV) (x : Gx) : Sg := sgComp (lcTgt (frLc V)) (.ref x.ia) (.ref x.la) (lcElt (frLc V)) (cmL (cmL (lcIf (frLc V)))) (cmR (cmL (lcIf (frLc V)))) (cmR (lcIf (frLc V))) (frEnv x) (.compLoop (frE V) 0 (.ref x.ia) (.ref x.la) (frEnv x))
end Mine
end
section
set_option maxRecDepth 100000
set_option maxHeartbeats 0
namespace Mine
open PySem PySem.W PySem.W.X PyProof.Rows
/-- what is to be known of the four lights: neighbours' tokens differ, no nan -/
structure LtOk (Lt : Nat → Tri) (lt : Nat → Nat → Nat) : Prop where
  ne : ∀ k m, k < 4 → m < 4 → k ≠ m → ∀ i, i < 3 → lt k i ≠ lt m i
  nan : ∀ k m, k < 4 → m < 4 → ((Lt k).a = (Lt m).a → feq (Lt k).a (Lt m).a = true) ∧ ((Lt k).b = (Lt m).b → feq (Lt k).b (Lt m).b = true) ∧ ((Lt k).c = (Lt m).c → feq (Lt k).c (Lt m).c = true)
/-- place k is free -/
noncomputable def fzOf (Lt : Nat → Tri) (k : Nat) : Bool := match k with
  | 0 => triEq (Lt 0) (Lt 3)
  | k + 1 => !triEq (Lt (k + 1)) (Lt k)
theorem frF_no {fz : Nat → Bool} {k m : Nat} {acc l : List Value} (h : fz k = false) (f : ∃ more, l = acc ++ more ∧ IsI more (frL fz (k + 1) m)) : ∃ more, l = acc ++ more ∧ IsI more (frL fz k (m + 1)) := by
  obtain ⟨more, e, g⟩ := f
  refine ⟨more, e, ?_⟩
  show IsI more ((match fz k with | true => [k] | false => []) ++ frL fz (k + 1) m)
  rw [h]
  exact g
theorem frF_yes {fz : Nat → Bool} {k m t : Nat} {acc l : List Value} (h : fz k = true) (f : ∃ more, l = (acc ++ [Value.int (Int.ofNat k) t]) ++ more ∧ IsI more (frL fz (k + 1) m)) : ∃ more, l = acc ++ more ∧ IsI more (frL fz k (m + 1)) := by
  obtain ⟨more, e, g⟩ := f
  refine ⟨[Value.int (Int.ofNat k) t] ++ more, by rw [e, List.append_assoc], ?_⟩
  show IsI _ ((match fz k with | true => [k] | false => []) ++ frL fz (k + 1) m)
  rw [h]
  exact (IsI.one k t).app g
section
variable {U : Un} {b₁ b₂ : Bool} (G : Good (mkV U b₁ b₂)) {Lt : Nat → Tri} {lt : Nat → Nat → Nat} (H : LtOk Lt lt)
include G
theorem fr4_meets (x : Gx) (acc : List Value) (ea : Nat) (h0 : Int) (k0 : Nat) (z0 : Int) (t0 e0 : Nat) : Meets (mkV U b₁ b₂) (S_fr (mkV U b₁ b₂) x Lt lt (fzOf Lt) 4 acc ea h0 k0 z0 t0 e0) :=
  meets_of G (cs := []) trivial 29 [.l 0, .i, .l 0, .l 0, .l 0, .l 0, .l 0] (fun tk P => ⟨fun i => match i with | 0 => ea | 1 => k0 | 2 => t0 | 3 => e0 | _ => 0, fun i => match i with | 0 => h0 | 1 => z0 | _ => 0, fun _ => ⟨#[]⟩, fun i => match i with | 0 => acc | _ => []⟩) (fun tk P => []) [3, 3, 3, 3, 3, 3, 3, 3] (fun _ _ _ => ⟨[], (List.append_nil _).symm, IsI.nil⟩) (fun tk P => by kernel_rfl!)
include H
theorem fr3_meets (x : Gx) (acc : List Value) (ea : Nat) (h0 : Int) (k0 : Nat) (z0 : Int) (t0 e0 : Nat) : Meets (mkV U b₁ b₂) (S_fr (mkV U b₁ b₂) x Lt lt (fzOf Lt) 3 acc ea h0 k0 z0 t0 e0) := by
  refine Meets.hyp fun hy => ?_
  have h1 : acc.length ≤ 3 := hy
  have p0 : acc.length ≤ 1000 := by omega
  have p1 : acc.length ≤ 4 := by omega
  have p2 : ∀ v : Value, (acc ++ [v]).length ≤ 4 := fun v => by rw [List.length_append]; show acc.length + 1 ≤ 4; omega
  have nn := H.nan 3 2 (by decide) (by decide)
  have ne := H.ne 3 2 (by decide) (by decide) (by decide)
  cases hv : triEq (Lt 3) (Lt 2)
  · have D : DsOk (mkV U b₁ b₂) [D_tup (Lt 3) (Lt 2) (lt 3) (lt 2) false] := ⟨D_tup_ok G hv ne nn.1 nn.2.1 nn.2.2, trivial⟩
    have C : CsOk (mkV U b₁ b₂) [C_app, C_bb false false true, C_fr (mkV U b₁ b₂) Lt lt (fzOf Lt) 4] := ⟨C_app_ok G.ok, C_bb_ok rfl, C_fr_ok fun x acc ea h0 k0 z0 t0 e0 => fr4_meets G x acc ea h0 k0 z0 t0 e0, trivial⟩
    have fz : fzOf Lt 3 = true := by show (!triEq (Lt 3) (Lt 2)) = _; rw [hv]; rfl
    exact meets_sg G C D (sgFr (mkV U _ b₂) x) (fun A R L tk q => comp_conv rfl rfl rfl q) 91 [.l 0, .i, .l 0, .l 0, .l 0, .l 0, .l 0, .l 0, .l 0, .l 0, .l 2, .l 2, .l 3, .l 2, .l 4, .l 4, .l 4, .i, .l 4, .l 4, .l 3, .l 2, .i, .l 4, .l 4, .l 4, .i, .l 4, .l 4, .q 0 [8, 7], .l 2, .i, .c 1 [], .l 2, .ch 0 [1] 0, .ah 2 [1, 0, 0, 0, 0, 0, 0, 0, 0] 1] (fun tk P => ⟨fun i => match i with | 0 => ((P 2).s.n 0) | 1 => ((P 2).s.n 1) | 2 => ((P 2).s.n 2) | 3 => ((P 2).s.n 3) | _ => 0, fun i => match i with | 0 => (P 2).1.2 0 | 1 => (P 2).1.2 1 | _ => 0, fun _ => ⟨#[]⟩, fun i => match i with | 0 => (P 2).s.4 0 | _ => []⟩) (fun tk P => [∃ more, (P 2).s.v 0 = (acc ++ [Value.int (Int.ofNat 3) tk.succ]) ++ more ∧ IsI more (frL (fzOf Lt) 4 0)]) [0, 0, 0, 0, 0, 0, 0, 0] (fun tk P m => match m with | 0 => ⟨_, p0⟩ | _ => ⟨_, p2 (Value.int (Int.ofNat 3) tk.succ)⟩) (fun tk P h => frF_yes fz (h _ (.head _))) (fun tk P => by exact Bool.casesOn b₁ (by kernel_rfl!) (by kernel_rfl!))
  · have D : DsOk (mkV U b₁ b₂) [D_tup (Lt 3) (Lt 2) (lt 3) (lt 2) true] := ⟨D_tup_ok G hv ne nn.1 nn.2.1 nn.2.2, trivial⟩
    have C : CsOk (mkV U b₁ b₂) [C_app, C_bb true false false, C_fr (mkV U b₁ b₂) Lt lt (fzOf Lt) 4] := ⟨C_app_ok G.ok, C_bb_ok rfl, C_fr_ok fun x acc ea h0 k0 z0 t0 e0 => fr4_meets G x acc ea h0 k0 z0 t0 e0, trivial⟩
    have fz : fzOf Lt 3 = false := by show (!triEq (Lt 3) (Lt 2)) = _; rw [hv]; rfl
    exact meets_sg G C D (sgFr (mkV U _ b₂) x) (fun A R L tk q => comp_conv rfl rfl rfl q) 84 [.l 0, .i, .l 0, .l 0, .l 0, .l 0, .l 0, .l 0, .l 0, .l 0, .l 2, .l 2, .l 3, .l 2, .l 4, .l 4, .l 4, .i, .l 4, .l 4, .l 3, .l 2, .i, .l 4, .l 4, .l 4, .i, .l 4, .l 4, .q 0 [8, 7], .l 2, .i, .c 1 [], .ah 2 [0, 0, 0, 0, 0, 0, 0, 0, 0] 0] (fun tk P => ⟨fun i => match i with | 0 => ((P 1).s.n 0) | 1 => ((P 1).s.n 1) | 2 => ((P 1).s.n 2) | 3 => ((P 1).s.n 3) | _ => 0, fun i => match i with | 0 => (P 1).1.2 0 | 1 => (P 1).1.2 1 | _ => 0, fun _ => ⟨#[]⟩, fun i => match i with | 0 => (P 1).s.4 0 | _ => []⟩) (fun tk P => [∃ more, (P 1).s.v 0 = acc ++ more ∧ IsI more (frL (fzOf Lt) 4 0)]) [0, 0, 0, 0, 0, 0, 0, 0] (fun tk P m => match m with | _ => ⟨_, p1⟩) (fun tk P h => frF_no fz (h _ (.head _))) (fun tk P => by exact Bool.casesOn b₁ (by kernel_rfl!) (by kernel_rfl!))
theorem fr2_meets (x : Gx) (acc : List Value) (ea : Nat) (h0 : Int) (k0 : Nat) (z0 : Int) (t0 e0 : Nat) : Meets (mkV U b₁ b₂) (S_fr (mkV U b₁ b₂) x Lt lt (fzOf Lt) 2 acc ea h0 k0 z0 t0 e0) := by
  refine Meets.hyp fun hy => ?_
  have h1 : acc.length ≤ 2 := hy
  have p0 : acc.length ≤ 1000 := by omega
  have p1 : acc.length ≤ 3 := by omega
  have p2 : ∀ v : Value, (acc ++ [v]).length ≤ 3 := fun v => by rw [List.length_append]; show acc.length + 1 ≤ 3; omega
  have nn := H.nan 2 1 (by decide) (by decide)
  have ne := H.ne 2 1 (by decide) (by decide) (by decide)
  cases hv : triEq (Lt 2) (Lt 1)
  · have D : DsOk (mkV U b₁ b₂) [D_tup (Lt 2) (Lt 1) (lt 2) (lt 1) false] := ⟨D_tup_ok G hv ne nn.1 nn.2.1 nn.2.2, trivial⟩
    have C : CsOk (mkV U b₁ b₂) [C_app, C_bb false false true, C_fr (mkV U b₁ b₂) Lt lt (fzOf Lt) 3] := ⟨C_app_ok G.ok, C_bb_ok rfl, C_fr_ok fun x acc ea h0 k0 z0 t0 e0 => fr3_meets G H x acc ea h0 k0 z0 t0 e0, trivial⟩
    have fz : fzOf Lt 2 = true := by show (!triEq (Lt 2) (Lt 1)) = _; rw [hv]; rfl
    exact meets_sg G C D (sgFr (mkV U _ b₂) x) (fun A R L tk q => comp_conv rfl rfl rfl q) 91 [.l 0, .i, .l 0, .l 0, .l 0, .l 0, .l 0, .l 0, .l 0, .l 0, .l 2, .l 2, .l 3, .l 2, .l 4, .l 4, .l 4, .i, .l 4, .l 4, .l 3, .l 2, .i, .l 4, .l 4, .l 4, .i, .l 4, .l 4, .q 0 [7, 6], .l 2, .i, .c 1 [], .l 2, .ch 0 [1] 0, .ah 2 [1, 0, 0, 0, 0, 0, 0, 0, 0] 1] (fun tk P => ⟨fun i => match i with | 0 => ((P 2).s.n 0) | 1 => ((P 2).s.n 1) | 2 => ((P 2).s.n 2) | 3 => ((P 2).s.n 3) | _ => 0, fun i => match i with | 0 => (P 2).1.2 0 | 1 => (P 2).1.2 1 | _ => 0, fun _ => ⟨#[]⟩, fun i => match i with | 0 => (P 2).s.4 0 | _ => []⟩) (fun tk P => [∃ more, (P 2).s.v 0 = (acc ++ [Value.int (Int.ofNat 2) tk.succ]) ++ more ∧ IsI more (frL (fzOf Lt) 3 1)]) [0, 0, 0, 0, 0, 0, 0, 0] (fun tk P m => match m with | 0 => ⟨_, p0⟩ | _ => ⟨_, p2 (Value.int (Int.ofNat 2) tk.succ)⟩) (fun tk P h => frF_yes fz (h _ (.head _))) (fun tk P => by exact Bool.casesOn b₁ (by kernel_rfl!) (by kernel_rfl!))
  · have D : DsOk (mkV U b₁ b₂) [D_tup (Lt 2) (Lt 1) (lt 2) (lt 1) true] := ⟨D_tup_ok G hv ne nn.1 nn.2.1 nn.2.2, trivial⟩
    have C : CsOk (mkV U b₁ b₂) [C_app, C_bb true false false, C_fr (mkV U b₁ b₂) Lt lt (fzOf Lt) 3] := ⟨C_app_ok G.ok, C_bb_ok rfl, C_fr_ok fun x acc ea h0 k0 z0 t0 e0 => fr3_meets G H x acc ea h0 k0 z0 t0 e0, trivial⟩
    have fz : fzOf Lt 2 = false := by show (!triEq (Lt 2) (Lt 1)) = _; rw [hv]; rfl
    exact meets_sg G C D (sgFr (mkV U _ b₂) x) (fun A R L tk q => comp_conv rfl rfl rfl q) 84 [.l 0, .i, .l 0, .l 0, .l 0, .l 0, .l 0, .l 0, .l 0, .l 0, .l 2, .l 2, .l 3, .l 2, .l 4, .l 4, .l 4, .i, .l 4, .l 4, .l 3, .l 2, .i, .l 4, .l 4, .l 4, .i, .l 4, .l 4, .q 0 [7, 6], .l 2, .i, .c 1 [], .ah 2 [0, 0, 0, 0, 0, 0, 0, 0, 0] 0] (fun tk P => ⟨fun i => match i with | 0 => ((P 1).s.n 0) | 1 => ((P 1).s.n 1) | 2 => ((P 1).s.n 2) | 3 => ((P 1).s.n 3) | _ => 0, fun i => match i with | 0 => (P 1).1.2 0 | 1 => (P 1).1.2 1 | _ => 0, fun _ => ⟨#[]⟩, fun i => match i with | 0 => (P 1).s.4 0 | _ => []⟩) (fun tk P => [∃ more, (P 1).s.v 0 = acc ++ more ∧ IsI more (frL (fzOf Lt) 3 1)]) [0, 0, 0, 0, 0, 0, 0, 0] (fun tk P m => match m with | _ => ⟨_, p1⟩) (fun tk P h => frF_no fz (h _ (.head _))) (fun tk P => by exact Bool.casesOn b₁ (by kernel_rfl!) (by kernel_rfl!))
theorem fr1_meets (x : Gx) (acc : List Value) (ea : Nat) (h0 : Int) (k0 : Nat) (z0 : Int) (t0 e0 : Nat) : Meets (mkV U b₁ b₂) (S_fr (mkV U b₁ b₂) x Lt lt (fzOf Lt) 1 acc ea h0 k0 z0 t0 e0) := by
  refine Meets.hyp fun hy => ?_
  have h1 : acc.length ≤ 1 := hy
  have p0 : acc.length ≤ 1000 := by omega
  have p1 : acc.length ≤ 2 := by omega
  have p2 : ∀ v : Value, (acc ++ [v]).length ≤ 2 := fun v => by rw [List.length_append]; show acc.length + 1 ≤ 2; omega
  have nn := H.nan 1 0 (by decide) (by decide)
  have ne := H.ne 1 0 (by decide) (by decide) (by decide)
  cases hv : triEq (Lt 1) (Lt 0)
  · have D : DsOk (mkV U b₁ b₂) [D_tup (Lt 1) (Lt 0) (lt 1) (lt 0) false] := ⟨D_tup_ok G hv ne nn.1 nn.2.1 nn.2.2, trivial⟩
    have C : CsOk (mkV U b₁ b₂) [C_app, C_bb false false true, C_fr (mkV U b₁ b₂) Lt lt (fzOf Lt) 2] := ⟨C_app_ok G.ok, C_bb_ok rfl, C_fr_ok fun x acc ea h0 k0 z0 t0 e0 => fr2_meets G H x acc ea h0 k0 z0 t0 e0, trivial⟩
    have fz : fzOf Lt 1 = true := by show (!triEq (Lt 1) (Lt 0)) = _; rw [hv]; rfl
    exact meets_sg G C D (sgFr (mkV U _ b₂) x) (fun A R L tk q => comp_conv rfl rfl rfl q) 91 [.l 0, .i, .l 0, .l 0, .l 0, .l 0, .l 0, .l 0, .l 0, .l 0, .l 2, .l 2, .l 3, .l 2, .l 4, .l 4, .l 4, .i, .l 4, .l 4, .l 3, .l 2, .i, .l 4, .l 4, .l 4, .i, .l 4, .l 4, .q 0 [6, 5], .l 2, .i, .c 1 [], .l 2, .ch 0 [1] 0, .ah 2 [1, 0, 0, 0, 0, 0, 0, 0, 0] 1] (fun tk P => ⟨fun i => match i with | 0 => ((P 2).s.n 0) | 1 => ((P 2).s.n 1) | 2 => ((P 2).s.n 2) | 3 => ((P 2).s.n 3) | _ => 0, fun i => match i with | 0 => (P 2).1.2 0 | 1 => (P 2).1.2 1 | _ => 0, fun _ => ⟨#[]⟩, fun i => match i with | 0 => (P 2).s.4 0 | _ => []⟩) (fun tk P => [∃ more, (P 2).s.v 0 = (acc ++ [Value.int (Int.ofNat 1) tk.succ]) ++ more ∧ IsI more (frL (fzOf Lt) 2 2)]) [0, 0, 0, 0, 0, 0, 0, 0] (fun tk P m => match m with | 0 => ⟨_, p0⟩ | _ => ⟨_, p2 (Value.int (Int.ofNat 1) tk.succ)⟩) (fun tk P h => frF_yes fz (h _ (.head _))) (fun tk P => by exact Bool.casesOn b₁ (by kernel_rfl!) (by kernel_rfl!))
  · have D : DsOk (mkV U b₁ b₂) [D_tup (Lt 1) (Lt 0) (lt 1) (lt 0) true] := ⟨D_tup_ok G hv ne nn.1 nn.2.1 nn.2.2, trivial⟩
    have C : CsOk (mkV U b₁ b₂) [C_app, C_bb true false false, C_fr (mkV U b₁ b₂) Lt lt (fzOf Lt) 2] := ⟨C_app_ok G.ok, C_bb_ok rfl, C_fr_ok fun x acc ea h0 k0 z0 t0 e0 => fr2_meets G H x acc ea h0 k0 z0 t0 e0, trivial⟩
    have fz : fzOf Lt 1 = false := by show (!triEq (Lt 1) (Lt 0)) = _; rw [hv]; rfl
    exact meets_sg G C D (sgFr (mkV U _ b₂) x) (fun A R L tk q => comp_conv rfl rfl rfl q) 84 [.l 0, .i, .l 0, .l 0, .l 0, .l 0, .l 0, .l 0, .l 0, .l 0, .l 2, .l 2, .l 3, .l 2, .l 4, .l 4, .l 4, .i, .l 4, .l 4, .l 3, .l 2, .i, .l 4, .l 4, .l 4, .i, .l 4, .l 4, .q 0 [6, 5], .l 2, .i, .c 1 [], .ah 2 [0, 0, 0, 0, 0, 0, 0, 0, 0] 0] (fun tk P => ⟨fun i => match i with | 0 => ((P 1).s.n 0) | 1 => ((P 1).s.n 1) | 2 => ((P 1).s.n 2) | 3 => ((P 1).s.n 3) | _ => 0, fun i => match i with | 0 => (P 1).1.2 0 | 1 => (P 1).1.2 1 | _ => 0, fun _ => ⟨#[]⟩, fun i => match i with | 0 => (P 1).s.4 0 | _ => []⟩) (fun tk P => [∃ more, (P 1).s.v 0 = acc ++ more ∧ IsI more (frL (fzOf Lt) 2 2)]) [0, 0, 0, 0, 0, 0, 0, 0] (fun tk P m => match m with | _ => ⟨_, p1⟩) (fun tk P h => frF_no fz (h _ (.head _))) (fun tk P => by exact Bool.casesOn b₁ (by kernel_rfl!) (by kernel_rfl!))
theorem fr0_meets (x : Gx) (acc : List Value) (ea : Nat) (h0 : Int) (k0 : Nat) (z0 : Int) (t0 e0 : Nat) : Meets (mkV U b₁ b₂) (S_fr (mkV U b₁ b₂) x Lt lt (fzOf Lt) 0 acc ea h0 k0 z0 t0 e0) := by
  refine Meets.hyp fun hy => ?_
  have h1 : acc.length ≤ 0 := hy
  have p0 : acc.length ≤ 1000 := by omega
  have p1 : acc.length ≤ 1 := by omega
  have p2 : ∀ v : Value, (acc ++ [v]).length ≤ 1 := fun v => by rw [List.length_append]; show acc.length + 1 ≤ 1; omega
  have nn := H.nan 0 3 (by decide) (by decide)
  have ne := H.ne 0 3 (by decide) (by decide) (by decide)
  cases hv : triEq (Lt 0) (Lt 3)
  · have D : DsOk (mkV U b₁ b₂) [D_tup (Lt 0) (Lt 3) (lt 0) (lt 3) false] := ⟨D_tup_ok G hv ne nn.1 nn.2.1 nn.2.2, trivial⟩
    have C : CsOk (mkV U b₁ b₂) [C_app, C_bb false true false, C_fr (mkV U b₁ b₂) Lt lt (fzOf Lt) 1] := ⟨C_app_ok G.ok, C_bb_ok rfl, C_fr_ok fun x acc ea h0 k0 z0 t0 e0 => fr1_meets G H x acc ea h0 k0 z0 t0 e0, trivial⟩
    have fz : fzOf Lt 0 = false := by show triEq (Lt 0) (Lt 3) = _; rw [hv]
    exact meets_sg G C D (sgFr (mkV U _ b₂) x) (fun A R L tk q => comp_conv rfl rfl rfl q) 84 [.l 0, .i, .l 0, .l 0, .l 0, .l 0, .l 0, .l 0, .l 0, .l 0, .l 2, .l 2, .l 3, .l 2, .l 4, .l 4, .l 4, .i, .l 4, .l 4, .l 3, .l 2, .i, .l 4, .l 4, .l 4, .i, .l 4, .l 4, .q 0 [5, 7], .l 2, .i, .c 1 [], .ah 2 [0, 0, 0, 0, 0, 0, 0, 0, 0] 0] (fun tk P => ⟨fun i => match i with | 0 => ((P 1).s.n 0) | 1 => ((P 1).s.n 1) | 2 => ((P 1).s.n 2) | 3 => ((P 1).s.n 3) | _ => 0, fun i => match i with | 0 => (P 1).1.2 0 | 1 => (P 1).1.2 1 | _ => 0, fun _ => ⟨#[]⟩, fun i => match i with | 0 => (P 1).s.4 0 | _ => []⟩) (fun tk P => [∃ more, (P 1).s.v 0 = acc ++ more ∧ IsI more (frL (fzOf Lt) 1 3)]) [0, 0, 0, 0, 0, 0, 0, 0] (fun tk P m => match m with | _ => ⟨_, p1⟩) (fun tk P h => frF_no fz (h _ (.head _))) (fun tk P => by exact Bool.casesOn b₁ (by kernel_rfl!) (by kernel_rfl!))
  · have D : DsOk (mkV U b₁ b₂) [D_tup (Lt 0) (Lt 3) (lt 0) (lt 3) true] := ⟨D_tup_ok G hv ne nn.1 nn.2.1 nn.2.2, trivial⟩
    have C : CsOk (mkV U b₁ b₂) [C_app, C_bb true true true, C_fr (mkV U b₁ b₂) Lt lt (fzOf Lt) 1] := ⟨C_app_ok G.ok, C_bb_ok rfl, C_fr_ok fun x acc ea h0 k0 z0 t0 e0 => fr1_meets G H x acc ea h0 k0 z0 t0 e0, trivial⟩
    have fz : fzOf Lt 0 = true := by show triEq (Lt 0) (Lt 3) = _; rw [hv]
    exact meets_sg G C D (sgFr (mkV U _ b₂) x) (fun A R L tk q => comp_conv rfl rfl rfl q) 91 [.l 0, .i, .l 0, .l 0, .l 0, .l 0, .l 0, .l 0, .l 0, .l 0, .l 2, .l 2, .l 3, .l 2, .l 4, .l 4, .l 4, .i, .l 4, .l 4, .l 3, .l 2, .i, .l 4, .l 4, .l 4, .i, .l 4, .l 4, .q 0 [5, 7], .l 2, .i, .c 1 [], .l 2, .ch 0 [1] 0, .ah 2 [1, 0, 0, 0, 0, 0, 0, 0, 0] 1] (fun tk P => ⟨fun i => match i with | 0 => ((P 2).s.n 0) | 1 => ((P 2).s.n 1) | 2 => ((P 2).s.n 2) | 3 => ((P 2).s.n 3) | _ => 0, fun i => match i with | 0 => (P 2).1.2 0 | 1 => (P 2).1.2 1 | _ => 0, fun _ => ⟨#[]⟩, fun i => match i with | 0 => (P 2).s.4 0 | _ => []⟩) (fun tk P => [∃ more, (P 2).s.v 0 = (acc ++ [Value.int (Int.ofNat 0) tk.succ]) ++ more ∧ IsI more (frL (fzOf Lt) 1 3)]) [0, 0, 0, 0, 0, 0, 0, 0] (fun tk P m => match m with | 0 => ⟨_, p0⟩ | _ => ⟨_, p2 (Value.int (Int.ofNat 0) tk.succ)⟩) (fun tk P h => frF_yes fz (h _ (.head _))) (fun tk P => by exact Bool.casesOn b₁ (by kernel_rfl!) (by kernel_rfl!))
end
end Mine
end
section
set_option maxRecDepth 100000
set_option maxHeartbeats 0
namespace Mine
open PySem PySem.W PySem.W.X PyProof.Rows
noncomputable def retT : Stmt → Expr
  | .Return (some (.Tuple es _ _)) _ => (match es[2]? with | some e => e | none => dflE)
  | _ => dflE
noncomputable def sPicks : Str := ⟨#[112, 105, 99, 107, 115]⟩
noncomputable def sWords : Str := ⟨#[119, 111, 114, 100, 115]⟩
noncomputable def sCrowds : Str := ⟨#[99, 114, 111, 119, 100, 115]⟩
noncomputable def sMovers : Str := ⟨#[109, 111, 118, 101, 114, 115]⟩
noncomputable def sMove : Str := ⟨#[109, 111, 118, 101]⟩
noncomputable def sFree : Str := ⟨#[102, 114, 101, 101]⟩
noncomputable def sPick : Str := ⟨#[112, 105, 99, 107]⟩
noncomputable def sMachine : Str := ⟨#[109, 97, 99, 104, 105, 110, 101]⟩
noncomputable def sHues : Str := ⟨#[104, 117, 101, 115]⟩
/-- the three comprehensions of get_token -/
noncomputable def wlE (V : VV) : Nat → Expr
  | 0 => asgE (nthS (fnBody V 172) 1)
  | 1 => asgE (nthS (forB (runFor V)) 0)
  | _ => retT (nthS (fnBody V 172) 7)
structure Wx where
  ia : Addr
  la : Addr
  da : Addr
  mc : Addr
  fa : Addr
noncomputable def wlEnv (x : Wx) : Env := ⟨⟨.function, [(sDot0, .local), (sK, .local), (sMachine, .cell)], false, false, []⟩, x.da, 3, [(sMachine, x.mc)], qRun, none, .ref 171, some x.fa, 0⟩
noncomputable def wordsL (w : Nat → Str) (tw : Nat → Nat) : List Value := [.str (w 0) (tw 0), .str (w 1) (tw 1), .str (w 2) (tw 2), .str (w 3) (tw 3)]
/-- four tokens that were pushed back, read again -/
noncomputable def S_wl (V : VV) (n : Nat) (x : Wx) (text : Str) (t : Nat) (σ : Sup) (w : Nat → Str) (tw : Nat → Nat) (ea e0 e : Nat) : Spec where
  need := true
  d := 12
  code := .compLoop (wlE V n) 0 (.ref x.ia) (.ref x.la) (wlEnv x)
  pre := (x.ia, rgO 0 4) :: (x.la, listO #[] ea) :: (x.da, dictO [] e0) :: (x.mc, cellO (.ref (σ.n 21))) :: pushL V text t σ (wordsL w tw) e
  hasFact := false
  fact := fun _ => True
  res := fun _ => .ok .next
  post := fun τ => (x.la, listO ⟨wordsL w tw⟩ (ea + 4)) :: (x.da, dictO [⟨τ.z 0, .str sK (τ.n 1), .int (τ.z 1) (τ.n 2)⟩] (τ.n 3)) :: (x.mc, cellO (.ref (σ.n 21))) :: pushL V text t σ [] (e + 4)
noncomputable def C_wl (V : VV) (n : Nat) (text : Str) (t : Nat) (σ : Sup) : Code → Ldg → Spec := fun c l => oS c (match c with
  | .compLoop _ _ (.ref ia) (.ref la) env => match l with
    | [_, (_, ⟨_, _, .seq _ ea, _⟩), (da, ⟨_, _, .dict _ e0, _⟩), (mc, _), _, _, (_, ⟨_, _, .seq ⟨[.str w0 t0, .str w1 t1, .str w2 t2, .str w3 t3]⟩ e, _⟩)] => match env.frame with
      | some fa => some (ia, la, ea, da, e0, mc, w0, t0, w1, t1, w2, t2, w3, t3, e, fa)
      | none => none
    | _ => none
  | _ => none) fun (ia, la, ea, da, e0, mc, w0, t0, w1, t1, w2, t2, w3, t3, e, fa) =>
    S_wl V n ⟨ia, la, da, mc, fa⟩ text t σ (fun i => match i with | 0 => w0 | 1 => w1 | 2 => w2 | _ => w3) (fun i => match i with | 0 => t0 | 1 => t1 | 2 => t2 | _ => t3) ea e0 e
theorem C_wl_ok {V : VV} {n : Nat} {text : Str} {t : Nat} {σ : Sup} (mm : ∀ x w tw ea e0 e, Meets V (S_wl V n x text t σ w tw ea e0 e)) (c : Code) (l : Ldg) : Meets V (C_wl V n text t σ c l) := by
  exact oS_ok fun ⟨ia, la, ea, da, e0, mc, w0, t0, w1, t1, w2, t2, w3, t3, e, fa⟩ => mm _ _ _ _ _ _
/-- get_token with at most four tokens pushed back -/
noncomputable def C_popB (V : VV) (text : Str) (t : Nat) (σ : Sup) : Code → Ldg → Spec := fun c l => oS c (match c with
  | .call (.ref _) ⟨[.ref _], []⟩ => match l with
    | [_, _, (_, ⟨_, _, .seq ⟨.str w tw :: rest⟩ e, _⟩)] => some (w, tw, rest, e)
    | _ => none
  | _ => none) fun (w, tw, rest, e) => match Nat.ble rest.length 3 with
    | true => S_pop V text t σ w tw rest e
    | false => never c
noncomputable def C_pushB (V : VV) (text : Str) (t : Nat) (σ : Sup) : Code → Ldg → Spec := fun c l => oS c (match c with
  | .call (.ref _) ⟨[.ref _, .str w tw], []⟩ => match l with
    | [_, _, (_, ⟨_, _, .seq ⟨vs⟩ e, _⟩)] => some (w, tw, vs, e)
    | _ => none
  | _ => none) fun (w, tw, vs, e) => match Nat.ble vs.length 3 with
    | true => S_push V text t σ w tw vs e
    | false => never c
/-- what stays in the main loop: addresses, hashes and tokens of the frame's names -/
structure Mx where
  fa : Addr
  da : Addr
  pa : Addr
  ca : Addr
  ma : Addr
  lc : Addr
  mc : Addr
  hc : Addr
  ss : Int
  ts : Nat
  h : Nat → Int
  k : Nat → Nat
/-- what a turn leaves in the frame -/
structure Ux where
  wa : Addr
  wd : Str
  wt : Nat
  mv : Nat
  mt : Nat
  fr : Addr
  pk : Int
  pt : Nat
  mo : Int
  mot : Nat
noncomputable def mFr (x : Mx) (u : Ux) : Obj := frO [⟨x.h 0, .str sDots (x.k 0), .ref x.da⟩, ⟨x.h 1, .str sSpelled (x.k 1), .int x.ss x.ts⟩, ⟨x.h 2, .str sPicks (x.k 2), .ref x.pa⟩, ⟨x.h 3, .str sWords (x.k 3), .ref u.wa⟩, ⟨x.h 4, .str sWord (x.k 4), .str u.wd u.wt⟩, ⟨x.h 5, .str sCrowds (x.k 5), .ref x.ca⟩, ⟨x.h 6, .str sMovers (x.k 6), .ref x.ma⟩,
  ⟨x.h 7, .str sMove (x.k 7), .int (Int.ofNat u.mv) u.mt⟩, ⟨x.h 8, .str sFree (x.k 8), .ref u.fr⟩, ⟨x.h 9, .str sPick (x.k 9), .int u.pk u.pt⟩, ⟨x.h 10, .str sMover (x.k 10), .int u.mo u.mot⟩] 11
/-- the frame ahead of the first turn -/
noncomputable def mFr0 (x : Mx) (u : Ux) : Obj := frO [⟨x.h 0, .str sDots (x.k 0), .ref x.da⟩, ⟨x.h 1, .str sSpelled (x.k 1), .int x.ss x.ts⟩, ⟨x.h 2, .str sPicks (x.k 2), .ref x.pa⟩, ⟨x.h 3, .str sWords (x.k 3), .ref u.wa⟩, ⟨x.h 4, .str sWord (x.k 4), .str u.wd u.wt⟩, ⟨x.h 5, .str sCrowds (x.k 5), .ref x.ca⟩, ⟨x.h 6, .str sMovers (x.k 6), .ref x.ma⟩] 7
noncomputable def mEnv (V : VV) (x : Mx) : Env := envAt V 172 x.fa [(sLights, x.lc), (sMachine, x.mc), (sHues, x.hc)] qRun
noncomputable def plFor (V : VV) : Stmt := nthS (forB (runFor V)) 9
/-- the four words, pushed back -/
noncomputable def S_pl (V : VV) (x : Mx) (u : Ux) (ia : Addr) (text : Str) (t : Nat) (σ : Sup) (w : Nat → Str) (tw : Nat → Nat) (ew e : Nat) : Spec where
  need := true
  d := 12
  code := .forLoop (forT (plFor V)) (.ref ia) (forB (plFor V)) [] (mEnv V x)
  pre := (x.fa, mFr x u) :: (ia, liO u.wa 0) :: (u.wa, listO ⟨wordsL w tw⟩ ew) :: (x.mc, cellO (.ref (σ.n 21))) :: pushL V text t σ [] e
  hasFact := false
  fact := fun _ => True
  res := fun _ => .ok .next
  post := fun _ => (x.fa, mFr x { u with wd := w 3, wt := tw 3 }) :: (x.mc, cellO (.ref (σ.n 21))) :: pushL V text t σ (wordsL w tw) (e + 4)
noncomputable def ob (l : Ldg) (i : Nat) : Obj := match l[i]? with
  | some p => p.2
  | none => { cls := .none }
noncomputable def ad (l : Ldg) (i : Nat) : Addr := match l[i]? with
  | some p => p.1
  | none => 0
noncomputable def natZ : Int → Nat
  | .ofNat n => n
  | _ => 0
noncomputable def frameOf : Obj → Option Ux
  | ⟨_, _, .dict ⟨es⟩ _, _⟩ => match es.drop 3 with
    | ⟨_, _, .ref wa⟩ :: ⟨_, _, .str wd wt⟩ :: _ :: _ :: ⟨_, _, .int mv mt⟩ :: r => match r with
      | [⟨_, _, .ref fr⟩, ⟨_, _, .int pk pt⟩, ⟨_, _, .int mo mot⟩] => some ⟨wa, wd, wt, natZ mv, mt, fr, pk, pt, mo, mot⟩
      | _ => none
    | _ => none
  | _ => none
noncomputable def keyTok : Value → Nat
  | .str _ k => k
  | _ => 0
/-- the frame's hashes and the tokens of its names -/
noncomputable def xk (x : Mx) : Obj → Mx
  | ⟨_, _, .dict ⟨es⟩ _, _⟩ => { x with
      h := fun i => (match es[i]? with | some e => e.hash | none => 0)
      k := fun i => (match es[i]? with | some e => keyTok e.key | none => 0) }
  | _ => x
noncomputable def tokW : Obj → Option ((Nat → Str) × (Nat → Nat) × Nat)
  | ⟨_, _, .seq ⟨vs⟩ e, _⟩ => match vs with
    | [.str w0 t0, .str w1 t1, .str w2 t2, .str w3 t3] => some (fun i => match i with | 0 => w0 | 1 => w1 | 2 => w2 | _ => w3, fun i => match i with | 0 => t0 | 1 => t1 | 2 => t2 | _ => t3, e)
    | _ => none
  | _ => none
noncomputable def seqOf : Obj → List Value × Nat
  | ⟨_, _, .seq ⟨vs⟩ e, _⟩ => (vs, e)
  | _ => ([], 0)
noncomputable def C_pl (V : VV) (x : Mx) (text : Str) (t : Nat) (σ : Sup) : Code → Ldg → Spec := fun c l => oS c (match c with
  | .forLoop _ (.ref ia) _ _ _ => match frameOf (ob l 0) with
    | some u => match tokW (ob l 2) with
      | some w => some (ia, u, w)
      | none => none
    | none => none
  | _ => none) fun (ia, u, w) =>
    S_pl V (xk x (ob l 0)) u ia text t σ w.1 w.2.1 w.2.2 (seqOf (ob l 6)).2
theorem C_pl_ok {V : VV} {x : Mx} {text : Str} {t : Nat} {σ : Sup} (mm : ∀ x u ia w tw ew e, Meets V (S_pl V x u ia text t σ w tw ew e)) (c : Code) (l : Ldg) : Meets V (C_pl V x text t σ c l) := by
  exact oS_ok fun ⟨ia, u, w⟩ => mm _ _ _ _ _ _ _
end Mine
end
section
set_option maxRecDepth 100000
set_option maxHeartbeats 0
namespace Mine
open PySem PySem.W PySem.W.X PyProof.Rows
section
variable {U : Un} {b₁ b₂ : Bool} (G : Good (mkV U b₁ b₂))
include G
theorem C_popB_ok {text : Str} {t : Nat} {σ : Sup} (c : Code) (l : Ldg) : Meets (mkV U b₁ b₂) (C_popB (mkV U b₁ b₂) text t σ c l) := by
  refine oS_ok fun ⟨w, tw, rest, e⟩ => ?_
  dsimp only
  split
  · rename_i h
    exact pop_meets G _ _ _ _ _ _ _ (Nat.le_of_ble_eq_true h)
  · exact never_meets
theorem C_pushB_ok {text : Str} {t : Nat} {σ : Sup} (c : Code) (l : Ldg) : Meets (mkV U b₁ b₂) (C_pushB (mkV U b₁ b₂) text t σ c l) := by
  refine oS_ok fun ⟨w, tw, vs, e⟩ => ?_
  dsimp only
  split
  · rename_i h
    exact push_meets G _ _ _ _ _ _ _ (Nat.le_of_ble_eq_true h)
  · exact never_meets
theorem wl_meets (n : Nat) (hn : n < 3) (x : Wx) (text : Str) (t : Nat) (σ : Sup) (w : Nat → Str) (tw : Nat → Nat) (ea e0 e : Nat) : Meets (mkV U b₁ b₂) (S_wl (mkV U b₁ b₂) n x text t σ w tw ea e0 e) := by
  have C : CsOk (mkV U b₁ b₂) [C_popB (mkV U b₁ b₂) text t σ] := ⟨C_popB_ok G, trivial⟩
  match n, hn with
  | 0, _ => exact meets_of G C 245 [.l 0, .i, .l 0, .l 0, .l 0, .l 0, .l 0, .l 0, .l 0, .l 0, .l 2, .l 2, .l 3, .l 4, .t, .t, .t, .l 4, .t, .t, .t, .l 4, .t, .t, .t, .t, .l 4, .l 5, .t, .c 0 [4, 4, 4], .i, .l 4, .l 4, .l 4, .l 4, .l 3, .i, .l 3, .l 3, .l 3, .l 3, .l 3, .l 3, .l 3, .l 3, .l 5, .l 5, .l 6, .l 0, .t, .t, .t, .l 0, .t, .t, .t, .l 0, .t, .t, .t, .t, .l 0, .l 1, .t, .c 0 [0, 0, 0], .i, .l 4, .l 4, .l 4, .l 4, .l 3, .i, .l 3, .l 3, .l 3, .l 3, .l 3, .l 3, .l 3, .l 3, .l 5, .l 5, .l 6, .l 0, .t, .t, .t, .l 0, .t, .t, .t, .l 0, .t, .t, .t, .t, .l 0, .l 1, .t, .c 0 [0, 0, 0], .i, .l 4, .l 4, .l 4, .l 4, .l 3, .i, .l 3, .l 3, .l 3, .l 3, .l 3, .l 3, .l 3, .l 3, .l 5, .l 5, .l 6, .l 0, .t, .t, .t, .l 0, .t, .t, .t, .l 0, .t, .t, .t, .t, .l 0, .l 1, .t, .c 0 [0, 0, 0], .i, .l 4, .l 4, .l 4, .l 4, .l 3, .i, .l 3, .l 3, .l 3, .l 3, .l 0] (fun tk P => ⟨fun i => match i with | 1 => (Nat.succ (Nat.succ tk)) | 2 => (Nat.succ ((P 2).tk)) | 3 => (Nat.succ e0) | _ => 0, fun i => match i with | 0 => nmH (mkV U true true) sK | _ => 3, fun _ => ⟨#[]⟩, fun _ => []⟩) (fun tk P => []) [6, 6, 6, 2, 2, 2] (fun _ _ _ => trivial) (fun tk P => by exact Bool.casesOn b₁ (by kernel_rfl!) (by kernel_rfl!))
  | 1, _ => exact meets_of G C 245 [.l 0, .i, .l 0, .l 0, .l 0, .l 0, .l 0, .l 0, .l 0, .l 0, .l 2, .l 2, .l 3, .l 4, .t, .t, .t, .l 4, .t, .t, .t, .l 4, .t, .t, .t, .t, .l 4, .l 5, .t, .c 0 [4, 4, 4], .i, .l 4, .l 4, .l 4, .l 4, .l 3, .i, .l 3, .l 3, .l 3, .l 3, .l 3, .l 3, .l 3, .l 3, .l 5, .l 5, .l 6, .l 0, .t, .t, .t, .l 0, .t, .t, .t, .l 0, .t, .t, .t, .t, .l 0, .l 1, .t, .c 0 [0, 0, 0], .i, .l 4, .l 4, .l 4, .l 4, .l 3, .i, .l 3, .l 3, .l 3, .l 3, .l 3, .l 3, .l 3, .l 3, .l 5, .l 5, .l 6, .l 0, .t, .t, .t, .l 0, .t, .t, .t, .l 0, .t, .t, .t, .t, .l 0, .l 1, .t, .c 0 [0, 0, 0], .i, .l 4, .l 4, .l 4, .l 4, .l 3, .i, .l 3, .l 3, .l 3, .l 3, .l 3, .l 3, .l 3, .l 3, .l 5, .l 5, .l 6, .l 0, .t, .t, .t, .l 0, .t, .t, .t, .l 0, .t, .t, .t, .t, .l 0, .l 1, .t, .c 0 [0, 0, 0], .i, .l 4, .l 4, .l 4, .l 4, .l 3, .i, .l 3, .l 3, .l 3, .l 3, .l 0] (fun tk P => ⟨fun i => match i with | 1 => (Nat.succ (Nat.succ tk)) | 2 => (Nat.succ ((P 2).tk)) | 3 => (Nat.succ e0) | _ => 0, fun i => match i with | 0 => nmH (mkV U true true) sK | _ => 3, fun _ => ⟨#[]⟩, fun _ => []⟩) (fun tk P => []) [6, 6, 6, 2, 2, 2] (fun _ _ _ => trivial) (fun tk P => by exact Bool.casesOn b₁ (by kernel_rfl!) (by kernel_rfl!))
  | 2, _ => exact meets_of G C 245 [.l 0, .i, .l 0, .l 0, .l 0, .l 0, .l 0, .l 0, .l 0, .l 0, .l 2, .l 2, .l 3, .l 4, .t, .t, .t, .l 4, .t, .t, .t, .l 4, .t, .t, .t, .t, .l 4, .l 5, .t, .c 0 [4, 4, 4], .i, .l 4, .l 4, .l 4, .l 4, .l 3, .i, .l 3, .l 3, .l 3, .l 3, .l 3, .l 3, .l 3, .l 3, .l 5, .l 5, .l 6, .l 0, .t, .t, .t, .l 0, .t, .t, .t, .l 0, .t, .t, .t, .t, .l 0, .l 1, .t, .c 0 [0, 0, 0], .i, .l 4, .l 4, .l 4, .l 4, .l 3, .i, .l 3, .l 3, .l 3, .l 3, .l 3, .l 3, .l 3, .l 3, .l 5, .l 5, .l 6, .l 0, .t, .t, .t, .l 0, .t, .t, .t, .l 0, .t, .t, .t, .t, .l 0, .l 1, .t, .c 0 [0, 0, 0], .i, .l 4, .l 4, .l 4, .l 4, .l 3, .i, .l 3, .l 3, .l 3, .l 3, .l 3, .l 3, .l 3, .l 3, .l 5, .l 5, .l 6, .l 0, .t, .t, .t, .l 0, .t, .t, .t, .l 0, .t, .t, .t, .t, .l 0, .l 1, .t, .c 0 [0, 0, 0], .i, .l 4, .l 4, .l 4, .l 4, .l 3, .i, .l 3, .l 3, .l 3, .l 3, .l 0] (fun tk P => ⟨fun i => match i with | 1 => (Nat.succ (Nat.succ tk)) | 2 => (Nat.succ ((P 2).tk)) | 3 => (Nat.succ e0) | _ => 0, fun i => match i with | 0 => nmH (mkV U true true) sK | _ => 3, fun _ => ⟨#[]⟩, fun _ => []⟩) (fun tk P => []) [6, 6, 6, 2, 2, 2] (fun _ _ _ => trivial) (fun tk P => by exact Bool.casesOn b₁ (by kernel_rfl!) (by kernel_rfl!))
  | n + 3, h => exact absurd h (by omega)
theorem pl_meets (x : Mx) (u : Ux) (ia : Addr) (text : Str) (t : Nat) (σ : Sup) (w : Nat → Str) (tw : Nat → Nat) (ew e : Nat) : Meets (mkV U b₁ b₂) (S_pl (mkV U b₁ b₂) x u ia text t σ w tw ew e) := by
  have C : CsOk (mkV U b₁ b₂) [C_pushB (mkV U b₁ b₂) text t σ] := ⟨C_pushB_ok G, trivial⟩
  exact meets_of G C 220 [.l 1, .i, .l 1, .l 1, .l 1, .l 2, .l 1, .l 1, .l 0, .l 0, .l 3, .l 4, .t, .t, .t, .l 4, .t, .t, .t, .l 4, .t, .t, .t, .t, .l 4, .l 5, .l 0, .t, .c 0 [4, 4, 4], .l 4, .i, .l 4, .l 4, .l 4, .l 5, .l 4, .l 4, .l 3, .l 3, .l 6, .l 0, .t, .t, .t, .l 0, .t, .t, .t, .l 0, .t, .t, .t, .t, .l 0, .l 1, .l 3, .t, .c 0 [0, 0, 0], .l 4, .i, .l 4, .l 4, .l 4, .l 5, .l 4, .l 4, .l 3, .l 3, .l 6, .l 0, .t, .t, .t, .l 0, .t, .t, .t, .l 0, .t, .t, .t, .t, .l 0, .l 1, .l 3, .t, .c 0 [0, 0, 0], .l 4, .i, .l 4, .l 4, .l 4, .l 5, .l 4, .l 4, .l 3, .l 3, .l 6, .l 0, .t, .t, .t, .l 0, .t, .t, .t, .l 0, .t, .t, .t, .t, .l 0, .l 1, .l 3, .t, .c 0 [0, 0, 0], .l 4, .i, .l 4, .l 4, .l 4, .l 5, .l 4, .l 4, .l 0] (fun tk P => ⟨fun _ => 0, fun _ => 0, fun _ => ⟨#[]⟩, fun _ => []⟩) (fun tk P => []) [5, 7, 2, 2, 2] (fun _ _ _ => trivial) (fun tk P => by exact Bool.casesOn b₁ (by kernel_rfl!) (by kernel_rfl!))
end
end Mine
end
section
set_option maxRecDepth 100000
set_option maxHeartbeats 0
namespace Mine
open PySem PySem.W PySem.W.X PyProof.Rows
/-- the sextant of a hue -/
noncomputable def rr (l h : Nat) : Nat := (Int.fmod (ti l h) 6).toNat
/-- the lights of words of so many dots -/
noncomputable def LT (h : Nat) (len : Nat → Nat) (k : Nat) : Tri := light (len k) h (rr (len k) h)
/-- the places that are free -/
noncomputable def frees (h : Nat) (len : Nat → Nat) : List Nat := frL (fzOf (LT h len)) 0 4
/-- the dots of the words after a move at m -/
noncomputable def nx (len : Nat → Nat) (m : Nat) (k : Nat) : Nat := match m with
  | 0 => (match k with | 0 => Nat.succ (len 0) | k => len k)
  | 1 => (match k with | 1 => len 0 | k => len k)
  | 2 => (match k with | 2 => len 1 | k => len k)
  | _ => (match k with | 3 => len 2 | k => len k)
/-- the pick of move j -/
noncomputable def pkZ (pv : List Value) (j : Nat) : Int := match decide (Int.ofNat j < Int.ofNat pv.length) with
  | true => zOf pv j
  | false => 0
/-- the place that moves -/
noncomputable def mvOf (h : Nat) (len : Nat → Nat) (p : Int) : Nat := ((frees h len)[(Int.fmod p (Int.ofNat (frees h len).length)).toNat]?).getD 0
noncomputable def crR (h : Nat) (pv : List Value) : Nat → Nat → (Nat → Nat) → List Nat
  | _, 0, _ => []
  | j, n + 1, len => (frees h len).length :: crR h pv (j + 1) n (nx len (mvOf h len (pkZ pv j)))
noncomputable def mvR (h : Nat) (pv : List Value) : Nat → Nat → (Nat → Nat) → List Nat
  | _, 0, _ => []
  | j, n + 1, len => mvOf h len (pkZ pv j) :: mvR h pv (j + 1) n (nx len (mvOf h len (pkZ pv j)))
noncomputable def fnR (h : Nat) (pv : List Value) : Nat → Nat → (Nat → Nat) → Nat → Nat
  | _, 0, len => len
  | j, n + 1, len => fnR h pv (j + 1) n (nx len (mvOf h len (pkZ pv j)))
/-- the light of a word of l dots -/
noncomputable def C_light (l h r : Nat) : Code → Ldg → Spec := fun c _ => oS c (match c with
  | .call _ ⟨[.str _ t, .int _ u], []⟩ => some (t, u)
  | _ => none) fun (t, u) =>
    S_light l h r t u
theorem C_light_ok {U : Un} {b₁ b₂ : Bool} (G : Good (mkV U b₁ b₂)) {l h r : Nat} (hl : l < 40) (hh : h ∈ [4, 6, 8]) (hr : Int.fmod (ti l h) 6 = Int.ofNat r) (h6 : r < 6) (c : Code) (L : Ldg) : Meets (mkV U b₁ b₂) (C_light l h r c L) := by
  exact oS_ok fun ⟨t, u⟩ => light_meets G _ _ _ _ _ hl hh hr h6
/-- a % b, where b is known not to be 0 -/
noncomputable def C_modh : Code → Ldg → Spec := fun c _ => oS c (match c with
  | .call (.builtin id) ⟨[.int a t, .int b u], []⟩ => some (id, a, t, b, u)
  | _ => none) fun (id, a, t, b, u) =>
    { bSpec (.call (.builtin id) ⟨[.int a t, .int b u], []⟩) (S.eqLit 116512097088030077292474218 id) (fun σ => .int (Int.fmod a b) (σ.n 0)) with hasHyp := true, hyp := b ≠ 0 }
theorem C_modh_ok {V : VV} (c : Code) (l : Ldg) : Meets V (C_modh c l) := by
  refine oS_ok fun ⟨id, a, t, b, u⟩ => ?_
  show Meets _ ({ bSpec (.call (.builtin id) ⟨[.int a t, .int b u], []⟩) (S.eqLit 116512097088030077292474218 id) (fun σ => .int (Int.fmod a b) (σ.n 0)) with hasHyp := true, hyp := b ≠ 0 })
  intro h hy
  have h0 := h
  have hy' : b ≠ 0 := hy
  simp only [bSpec] at h
  have e := id_of h (s := "int.__mod__") (by decide +kernel)
  subst e
  exact con_gives (V := V) F.slot_int_mod (fun s => rfl) F.entry_int_mod (F.args_int_mod_2 _ _) (AutoIntG6.int___mod___int_int_1 a t b u (by simpa using hy')) trivial (fun _ => rfl) h0 trivial
/-- an int of the list at a -/
noncomputable def C_getA (a : Addr) : Code → Ldg → Spec := fun c l => oS c (match c with
  | .call (.builtin id) ⟨[.ref _, .int i t], []⟩ => match l with
    | [(_, o)] => some (id, i, t, o)
    | _ => none
  | _ => none) fun (id, i, t, o) =>
    C_getz (.call (.builtin id) ⟨[.ref a, .int i t], []⟩) [(a, o)]
theorem C_getA_ok {V : VV} {a : Addr} (c : Code) (l : Ldg) : Meets V (C_getA a c l) := by
  refine oS_ok fun ⟨id, i, t, o⟩ => ?_
  show Meets _ (C_getz (.call (.builtin id) ⟨[.ref a, .int i t], []⟩) [(a, o)])
  exact C_getz_ok _ _
/-- the int x of the list at a -/
noncomputable def C_getF (a : Addr) (x : Int) : Code → Ldg → Spec := fun c l => oS c (match c with
  | .call (.builtin id) ⟨[.ref _, .int i t], []⟩ => match l with
    | [(_, o)] => some (id, i, t, o)
    | _ => none
  | _ => none) fun (id, i, t, o) =>
    C_get x (.call (.builtin id) ⟨[.ref a, .int i t], []⟩) [(a, o)]
theorem C_getF_ok {V : VV} {a : Addr} {x : Int} (c : Code) (l : Ldg) : Meets V (C_getF a x c l) := by
  refine oS_ok fun ⟨id, i, t, o⟩ => ?_
  show Meets _ (C_get x (.call (.builtin id) ⟨[.ref a, .int i t], []⟩) [(a, o)])
  exact C_get_ok _ _
/-- the four lights' tokens: no two alike -/
noncomputable def ltD (lt : Nat → Nat → Nat) : Prop := ∀ k m, k < 4 → m < 4 → k ≠ m → ∀ i, i < 3 → lt k i ≠ lt m i
/-- all before t -/
noncomputable def ltT (lt : Nat → Nat → Nat) (t : Nat) : Prop := ∀ k, k < 4 → ∀ i, i < 3 → Nat.succ (lt k i) ≤ t
noncomputable def tk3 (a b c : Nat) : Nat → Nat
  | 0 => a
  | 1 => b
  | _ => c
noncomputable def lt4 (a b c d : Nat → Nat) : Nat → Nat → Nat
  | 0 => a
  | 1 => b
  | 2 => c
  | _ => d
/-- the main loop from its j-th turn on, n turns ahead -/
noncomputable def S_mn (V : VV) (first : Bool) (j n : Nat) (x : Mx) (u : Ux) (ia ll : Addr) (el : Nat) (li : Nat → Addr) (lt : Nat → Nat → Nat) (h ht : Nat) (pv : List Value) (pe : Nat) (cs : List Value) (ec : Nat) (ms : List Value) (em : Nat) (text : Str) (t : Nat) (σ : Sup) (len tw : Nat → Nat) (e : Nat) : Spec where
  need := true
  d := 40
  code := .forLoop (forT (runFor V)) (.ref ia) (forB (runFor V)) [] (mEnv V x)
  pre := (x.fa, match first with | true => mFr0 x u | false => mFr x u) :: (ia, rgO j n) :: (x.pa, listO ⟨pv⟩ pe) :: (x.ca, listO ⟨cs⟩ ec) :: (x.ma, listO ⟨ms⟩ em) :: (x.mc, cellO (.ref (σ.n 21))) :: (x.hc, cellO (.int (Int.ofNat h) ht)) ::
    (x.lc, cellO (.ref ll)) :: (ll, listO #[.ref (li 0), .ref (li 1), .ref (li 2), .ref (li 3)] el) :: (li 0, triO (LT h len 0) (lt 0)) :: (li 1, triO (LT h len 1) (lt 1)) :: (li 2, triO (LT h len 2) (lt 2)) :: (li 3, triO (LT h len 3) (lt 3)) ::
    pushL V text t σ (wordsL (fun k => dotS (len k)) tw) e
  hasFact := true
  fact := fun τ => ∃ a b, τ.v 0 = cs ++ a ∧ τ.v 1 = ms ++ b ∧ IsI a (crR h pv j n len) ∧ IsI b (mvR h pv j n len) ∧ ∀ k, k < 4 → τ.n (20 + k) = fnR h pv j n len k
  res := fun _ => .ok .next
  post := fun τ => (x.fa, mFr { x with h := fun i => τ.z (10 + i), k := fun i => τ.n (60 + i) } ⟨τ.n 0, τ.s 0, τ.n 1, τ.n 2, τ.n 3, τ.n 4, τ.z 0, τ.n 5, τ.z 1, τ.n 6⟩) :: (x.ca, listO ⟨τ.v 0⟩ (τ.n 7)) :: (x.ma, listO ⟨τ.v 1⟩ (τ.n 8)) :: (x.mc, cellO (.ref (σ.n 21))) :: pushL V text t σ (wordsL (fun k => dotS (τ.n (20 + k))) (fun k => τ.n (30 + k))) (τ.n 9)
  hasHyp := true
  hyp := (cs.length ≤ j ∧ ms.length ≤ j) ∧ ltD lt
  hasT := true
  hypT := ltT lt
/-- a list's refs, floats, texts: read off -/
noncomputable def refsOf : Obj → Option ((Nat → Addr) × Nat)
  | ⟨_, _, .seq ⟨vs⟩ e, _⟩ => match vs with
    | [.ref a, .ref b, .ref c, .ref d] => some (fun i => match i with | 0 => a | 1 => b | 2 => c | _ => d, e)
    | _ => none
  | _ => none
noncomputable def tokF : Obj → Nat → Nat
  | ⟨_, _, .seq ⟨vs⟩ _, _⟩ => match vs with
    | [.float _ a, .float _ b, .float _ c] => tk3 (Nat.pred a) (Nat.pred b) (Nat.pred c)
    | _ => fun _ => 0
  | _ => fun _ => 0
noncomputable def tokS : Obj → (Nat → Nat) × Nat
  | ⟨_, _, .seq ⟨vs⟩ e, _⟩ => match vs with
    | [.str _ a, .str _ b, .str _ c, .str _ d] => (fun i => match i with | 0 => a | 1 => b | 2 => c | _ => d, e)
    | _ => (fun _ => 0, 0)
  | _ => (fun _ => 0, 0)
noncomputable def C_mn (V : VV) (j n : Nat) (x : Mx) (h ht : Nat) (pv : List Value) (pe : Nat) (text : Str) (t : Nat) (σ : Sup) (len : Nat → Nat) : Code → Ldg → Spec := fun c l => oS c (match c with
  | .forLoop _ (.ref ia) _ _ _ => match frameOf (ob l 0) with
    | some u => match refsOf (ob l 8) with
      | some li => some (ia, u, li)
      | none => none
    | none => none
  | _ => none) fun (ia, u, li) =>
    S_mn V false j n (xk x (ob l 0)) u ia (ad l 8) li.2 li.1 (lt4 (tokF (ob l 9)) (tokF (ob l 10)) (tokF (ob l 11)) (tokF (ob l 12))) h ht pv pe (seqOf (ob l 3)).1 (seqOf (ob l 3)).2 (seqOf (ob l 4)).1 (seqOf (ob l 4)).2 text t σ len (tokS (ob l 15)).1 (tokS (ob l 15)).2
theorem C_mn_ok {V : VV} {j n : Nat} {x : Mx} {h ht : Nat} {pv : List Value} {pe : Nat} {text : Str} {t : Nat} {σ : Sup} {len : Nat → Nat} (mm : ∀ x u ia ll el li lt cs ec ms em tw e, Meets V (S_mn V false j n x u ia ll el li lt h ht pv pe cs ec ms em text t σ len tw e)) (c : Code) (l : Ldg) : Meets V (C_mn V j n x h ht pv pe text t σ len c l) := by
  exact oS_ok fun ⟨ia, u, li⟩ => mm _ _ _ _ _ _ _ _ _ _ _ _ _
noncomputable def mnIf (V : VV) : Expr := match nthS (forB (runFor V)) 3 with
  | .If e _ _ _ => e
  | _ => dflE
/-- a turn, its comparison with [] apart -/
noncomputable def sgMn (V : VV) (x : Mx) (ia : Addr) : Sg := sgFor (forT (runFor V)) (.ref ia) ((forB (runFor V)).take 3) (cmL (mnIf V)) (cmR (mnIf V)) .Eq ((forB (runFor V)).drop 4) (mEnv V x) (.forLoop (forT (runFor V)) (.ref ia) (forB (runFor V)) [] (mEnv V x))
end Mine
end
section
set_option maxRecDepth 100000
set_option maxHeartbeats 0
namespace Mine
open PySem PySem.W PySem.W.X PyProof.Rows
theorem for_conv' {V : VV} {A : Around} {R : RPost} {L : Ldg} {tk : Nat} {env : Env} {target : Expr} {it : Value} {body xs : List Stmt} {l r : Expr} {op : CmpOp} {p q : Pos} {tb rest : List Stmt} (e : body = xs ++ .If (.Compare l [op] [r] p) tb [] q :: rest) (hm : behindInMarks op r = false)
    (hq : (Code.forLoop target it body [] env).quiet = true) (x : SgGo V A (.forLoop target it body [] env) R (sgFor target it xs l r op rest env (.forLoop target it body [] env)) L tk) : CodeG V A (.forLoop target it body [] env) R L tk := by
  subst e
  exact for_conv hm hq x
noncomputable def ifT : Stmt → List Stmt
  | .If _ b _ _ => b
  | _ => []
noncomputable def ifPos : Stmt → Pos
  | .If _ _ _ p => p
  | _ => default
theorem mn_conv {U : Un} {b₁ b₂ : Bool} {A : Around} {R : RPost} {L : Ldg} {tk : Nat} {x : Mx} {ia : Addr} (q : SgGo (mkV U b₁ b₂) A (.forLoop (forT (runFor (mkV U b₁ b₂))) (.ref ia) (forB (runFor (mkV U b₁ b₂))) [] (mEnv (mkV U b₁ b₂) x)) R (sgMn (mkV U b₁ b₂) x ia) L tk) : CodeG (mkV U b₁ b₂) A (.forLoop (forT (runFor (mkV U b₁ b₂))) (.ref ia) (forB (runFor (mkV U b₁ b₂))) [] (mEnv (mkV U b₁ b₂) x)) R L tk := by
  cases b₁ <;> cases b₂ <;> exact for_conv' (p := exPos (mnIf (mkV U true true))) (q := ifPos (nthS (forB (runFor (mkV U true true))) 3)) (tb := ifT (nthS (forB (runFor (mkV U true true))) 3)) (by kernel_rfl!) (by kernel_rfl!) rfl q
theorem lt_fin : ∀ h ∈ [4, 6, 8], ∀ l ∈ List.range 40, Int.fmod (ti l h) 6 = Int.ofNat (rr l h) ∧ rr l h < 6 ∧ feq (light l h (rr l h)).a (light l h (rr l h)).a = true ∧ feq (light l h (rr l h)).b (light l h (rr l h)).b = true ∧ feq (light l h (rr l h)).c (light l h (rr l h)).c = true := by decide +kernel
theorem LT_ok {h : Nat} {len : Nat → Nat} {lt : Nat → Nat → Nat} (hh : h ∈ [4, 6, 8]) (hl : ∀ k, k < 4 → len k < 40) (hd : ltD lt) : LtOk (LT h len) lt :=
  ⟨hd, fun k m hk hm => by
    obtain ⟨_, _, a, b, c⟩ := lt_fin h hh (len k) (List.mem_range.mpr (hl k hk))
    exact ⟨fun e => e ▸ a, fun e => e ▸ b, fun e => e ▸ c⟩⟩
noncomputable abbrev frFact (h : Nat) (len : Nat → Nat) (l : List Value) : Prop := ∃ more, l = ([] : List Value) ++ more ∧ IsI more (frL (fzOf (LT h len)) 0 (4 - 0))
theorem frL_le (fz : Nat → Bool) : ∀ m k, (frL fz k m).length ≤ m
  | 0, _ => Nat.le_refl _
  | m + 1, k => by
    have := frL_le fz m (k + 1)
    show ((match fz k with | true => [k] | false => []) ++ frL fz (k + 1) m).length ≤ m + 1
    rw [List.length_append]
    cases fz k
    · show 0 + _ ≤ _; omega
    · show 1 + _ ≤ _; omega
theorem fr_len {h : Nat} {len : Nat → Nat} {l : List Value} (f : frFact h len l) : l.length = (frees h len).length := by
  obtain ⟨more, e, g⟩ := f
  rw [e]
  exact g.1
theorem fr_le {h : Nat} {len : Nat → Nat} {l : List Value} (f : frFact h len l) : l.length ≤ 1000 := by
  have := frL_le (fzOf (LT h len)) 4 0
  rw [fr_len f]
  show (frL (fzOf (LT h len)) 0 4).length ≤ 1000
  omega
theorem fr_ne {h : Nat} {len : Nat → Nat} {l : List Value} (hf : 0 < (frees h len).length) (f : frFact h len l) : l.length ≠ ([] : List Value).length := by
  rw [fr_len f]
  show _ ≠ 0
  omega
theorem fr_nz {h : Nat} {len : Nat → Nat} {l : List Value} (hf : 0 < (frees h len).length) (f : frFact h len l) : Int.ofNat l.length ≠ 0 := by
  rw [fr_len f]
  intro e
  have : (frees h len).length = 0 := Int.ofNat.inj e
  omega
theorem fmod_lt (p : Int) (c : Nat) (hc : 0 < c) : ∃ i, i < c ∧ Int.fmod p (Int.ofNat c) = Int.ofNat i := by
  have h1 : 0 ≤ Int.fmod p (Int.ofNat c) := Int.fmod_nonneg_of_pos p (Int.ofNat_lt.mpr hc)
  have h2 : Int.fmod p (Int.ofNat c) < Int.ofNat c := Int.fmod_lt_of_pos p (Int.ofNat_lt.mpr hc)
  obtain ⟨i, e⟩ := Int.eq_ofNat_of_zero_le h1
  exact ⟨i, by rw [e] at h2; exact Int.ofNat_lt.mp h2, e⟩
theorem fr_get {h m : Nat} {len : Nat → Nat} {l : List Value} {p : Int} (hf : 0 < (frees h len).length) (hm : mvOf h len p = m) (f : frFact h len l) :
    0 ≤ Int.fmod p (Int.ofNat l.length) ∧ Int.fmod p (Int.ofNat l.length) < 1000 ∧ ∃ u, l[(Int.fmod p (Int.ofNat l.length)).toNat]? = some (.int (Int.ofNat m) u) := by
  have hl := fr_len f
  obtain ⟨i, hi, e⟩ := fmod_lt p _ hf
  have h4 := frL_le (fzOf (LT h len)) 4 0
  have h4' : (frees h len).length ≤ 4 := h4
  rw [hl, e]
  refine ⟨Int.natCast_nonneg i, Int.ofNat_lt.mpr (show i < 1000 by omega), ?_⟩
  unfold mvOf at hm
  rw [e] at hm
  show ∃ u, l[i]? = _
  have hm' : ((frees h len)[i]?).getD 0 = m := hm
  rw [List.getElem?_eq_getElem hi] at hm'
  obtain ⟨more, e1, g⟩ := f
  rw [e1]
  exact g.2 i m (by rw [← hm']; exact List.getElem?_eq_getElem hi)
theorem pv_get {pv : List Value} {j : Nat} (hp : AllInt pv) (hl : decide (Int.ofNat j < Int.ofNat pv.length) = true) (hj : j < 27) : 0 ≤ Int.ofNat j ∧ Int.ofNat j < 1000 ∧ ∃ z u, pv[(Int.ofNat j).toNat]? = some (.int z u) := by
  have h1 : j < pv.length := Int.ofNat_lt.mp (of_decide_eq_true hl)
  exact ⟨Int.natCast_nonneg j, Int.ofNat_lt.mpr (show j < 1000 by omega), hp j h1⟩
theorem pk_yes {pv : List Value} {j : Nat} (hl : decide (Int.ofNat j < Int.ofNat pv.length) = true) : pkZ pv j = zOf pv (Int.ofNat j).toNat := by
  unfold pkZ
  rw [hl]
  rfl
theorem pk_no {pv : List Value} {j : Nat} (hl : decide (Int.ofNat j < Int.ofNat pv.length) = false) : pkZ pv j = 0 := by
  unfold pkZ
  rw [hl]
theorem app_le {cs : List Value} {j : Nat} {v : Value} (h : cs.length ≤ j) : (cs ++ [v]).length ≤ Nat.succ j := by
  rw [List.length_append]
  exact Nat.succ_le_succ h
theorem ltT_next {lt lt' : Nat → Nat → Nat} {m T0 T1 : Nat} (hd : ltD lt) (h : ltT lt T0) (hT : T0 ≤ T1) (h1 : ∀ k, k < 4 → k ≠ m → ∀ i, i < 3 → lt' k i = lt k i) (h2 : ∀ i, i < 3 → T0 < Nat.succ (lt' m i) ∧ Nat.succ (lt' m i) ≤ T1) : ltD lt' ∧ ltT lt' T1 := by
  refine ⟨fun k q hk hq hn i hi => ?_, fun k hk i hi => ?_⟩
  · by_cases e1 : k = m
    · subst e1
      rw [h1 q hq (fun e => hn e.symm) i hi]
      have := h q hq i hi
      have := (h2 i hi).1
      omega
    · rw [h1 k hk e1 i hi]
      by_cases e2 : q = m
      · subst e2
        have := h k hk i hi
        have := (h2 i hi).1
        omega
      · rw [h1 q hq e2 i hi]
        exact hd k q hk hq hn i hi
  · by_cases e1 : k = m
    · subst e1
      exact (h2 i hi).2
    · rw [h1 k hk e1 i hi]
      have := h k hk i hi
      omega
noncomputable abbrev mnFact (h : Nat) (pv : List Value) (j n : Nat) (len : Nat → Nat) (cs ms : List Value) (τ : Sup) : Prop := ∃ a b, τ.v 0 = cs ++ a ∧ τ.v 1 = ms ++ b ∧ IsI a (crR h pv j n len) ∧ IsI b (mvR h pv j n len) ∧ ∀ k, k < 4 → τ.n (20 + k) = fnR h pv j n len k
theorem mn_fact {h j n m t1 t2 : Nat} {pv cs ms l : List Value} {len : Nat → Nat} {τ : Sup} (hm : mvOf h len (pkZ pv j) = m) (f : frFact h len l) (g : mnFact h pv (Nat.succ j) n (nx len m) (cs ++ [Value.int (Int.ofNat l.length) t1]) (ms ++ [Value.int (Int.ofNat m) t2]) τ) : mnFact h pv j (Nat.succ n) len cs ms τ := by
  obtain ⟨a, b, e1, e2, g1, g2, g3⟩ := g
  subst hm
  refine ⟨[Value.int (Int.ofNat l.length) t1] ++ a, [Value.int (Int.ofNat _) t2] ++ b, by rw [e1, List.append_assoc], by rw [e2, List.append_assoc], ?_, ?_, g3⟩
  · have := (IsI.one l.length t1).app g1
    rw [fr_len f] at this ⊢
    exact this
  · exact (IsI.one _ t2).app g2
end Mine
end
section
set_option maxRecDepth 100000
set_option maxHeartbeats 0
namespace Mine
open PySem PySem.W PySem.W.X PyProof.Rows
theorem impI {p : Prop} : ∀ {fs : List Prop}, ((∀ f ∈ fs, f) → p) → impL fs p
  | [], h => h (fun _ g => nomatch g)
  | a :: fs, h => fun x => impI (fs := fs) fun g => h fun f hf => by
      cases hf with
      | head => exact x
      | tail _ hf => exact g f hf
theorem tk3_ok {a b c t T : Nat} (h1 : t < Nat.succ a ∧ Nat.succ a ≤ T) (h2 : t < Nat.succ b ∧ Nat.succ b ≤ T) (h3 : t < Nat.succ c ∧ Nat.succ c ≤ T) (i : Nat) (hi : i < 3) : t < Nat.succ (tk3 a b c i) ∧ Nat.succ (tk3 a b c i) ≤ T := by
  rcases i with _ | _ | _ | i
  · exact h1
  · exact h2
  · exact h3
  · exact absurd hi (by omega)
/-- what a turn leans on -/
noncomputable def mnC (V : VV) (j n m : Nat) (L : Bool) (h ht : Nat) (pv : List Value) (pe : Nat) (x : Mx) (text : Str) (t : Nat) (σ : Sup) (lt : Nat → Nat → Nat) (len : Nat → Nat) (P : Nat → Ev) : List (Code → Ldg → Spec) := [C_rnx j n, C_wl V 1 text t σ, C_fr V (LT h len) lt (fzOf (LT h len)) 0, C_lend, C_app, C_cmpb nLt (Int.ofNat j) (Int.ofNat pv.length) L, C_getA x.pa, C_modh, C_getF ((P 8).s.n 0) (Int.ofNat m), C_quote (len 0), C_light (nx len m m) h (rr (nx len m m) h), C_pl V x text t σ, C_mn V (Nat.succ j) n x h ht pv pe text t σ (nx len m)]
noncomputable def depC : Nat → Nat
  | 8 => 9
  | _ => 0
theorem mnC_dep {V : VV} {j n m : Nat} {L : Bool} {h ht : Nat} {pv : List Value} {pe : Nat} {x : Mx} {text : Str} {t : Nat} {σ : Sup} {lt : Nat → Nat → Nat} {len : Nat → Nat} (k : Nat) (P Q : Nat → Ev) (a : Agree (depC k) P Q) : (mnC V j n m L h ht pv pe x text t σ lt len P)[k]? = (mnC V j n m L h ht pv pe x text t σ lt len Q)[k]? := by
  unfold mnC
  rcases k with _ | _ | _ | _ | _ | _ | _ | _ | _ | k
  all_goals first | rfl | (have := a 8 (by decide); simp only [List.getElem?_cons_succ, List.getElem?_cons_zero, this])
theorem mnC_ok {U : Un} {b₁ b₂ : Bool} (G : Good (mkV U b₁ b₂)) {j n m : Nat} {L : Bool} {h ht : Nat} {pv : List Value} {pe : Nat} {x : Mx} {text : Str} {t : Nat} {σ : Sup} {lt : Nat → Nat → Nat} {len : Nat → Nat} (hh : h ∈ [4, 6, 8]) (hl : ∀ k, k < 4 → 1 ≤ len k ∧ len k < 39) (hD : ltD lt) (hlt : decide (Int.ofNat j < Int.ofNat pv.length) = L) (ll' : nx len m m < 40) (hr : Int.fmod (ti (nx len m m) h) 6 = Int.ofNat (rr (nx len m m) h)) (h6 : rr (nx len m m) h < 6)
    (IH : ∀ x u ia ll el li lt cs ec ms em tw e, Meets (mkV U b₁ b₂) (S_mn (mkV U b₁ b₂) false (Nat.succ j) n x u ia ll el li lt h ht pv pe cs ec ms em text t σ (nx len m) tw e)) (P : Nat → Ev) : CsOk (mkV U b₁ b₂) (mnC (mkV U b₁ b₂) j n m L h ht pv pe x text t σ lt len P) :=
  ⟨C_rnx_ok G.ok, C_wl_ok (wl_meets G 1 (by decide) · text t σ), C_fr_ok (fun x acc ea h0 k0 z0 t0 e0 => fr0_meets G (LT_ok hh (fun k hk => Nat.lt_succ_of_lt (hl k hk).2) hD) x acc ea h0 k0 z0 t0 e0), C_lend_ok, C_app_ok G.ok, C_lt_ok hlt, C_getA_ok, C_modh_ok, C_getF_ok, C_quote_ok G (hl 0 (by decide)).1 (by have := (hl 0 (by decide)).2; omega), C_light_ok G ll' hh hr h6, C_pl_ok fun x u ia w tw ew e => pl_meets G x u ia text t σ w tw ew e, C_mn_ok IH, trivial⟩
section
variable {U : Un}
noncomputable def mnH110 : Bool → List Hint
  | true => [.l 1, .c 0 [1], .l 1, .l 1, .t, .t, .i, .i, .l 0, .l 0, .i, .l 0, .l 0, .l 0, .l 0, .i, .l 0, .l 0, .l 0, .l 0, .l 0, .i, .a 1 [2, 1, 0, 6, 13, 13, 13], .l 8, .l 8, .l 1, .l 1, .l 1, .t, .t, .i, .i, .l 0, .l 0, .i, .l 0, .l 0, .l 0, .l 0, .i, .l 0, .l 0, .l 0, .l 0, .l 0, .i, .ah 2 [2, 1, 0, 14, 14, 14, 14, 14, 14] 0, .l 17, .l 17, .l 1, .l 1, .l 1, .l 17, .l 19, .l 19, .l 19, .l 19, .t, .t, .l 17, .ch 3 [0] 1, .ch 4 [19] 2, .l 18, .qh 0 [2, 0] 3, .l 19, .t, .t, .l 19, .ch 3 [20] 4, .c 5 [], .l 20, .l 20, .l 0, .l 0, .l 0, .ch 6 [0] 5, .l 20, .l 20, .l 20, .l 20, .t, .t, .l 20, .ch 3 [3] 6, .ch 7 [] 7, .l 0, .l 0, .l 0, .ch 8 [0] 8, .l 20, .l 20, .l 20, .i, .t, .l 20, .l 12, .l 12, .l 12, .i, .l 12, .l 12, .t, .c 9 [], .l 20, .l 20, .l 12, .l 12, .i, .l 12, .l 12, .l 12, .l 12, .t, .l 20, .l 20, .l 12, .l 12, .l 12, .i, .l 12, .l 12, .l 22, .t, .c 10 [], .l 6, .l 21, .l 7, .l 7, .i, .l 7, .l 7, .l 7, .l 7, .l 21, .l 22, .l 22, .l 22, .l 22, .l 21, .ch 4 [22] 9, .l 22, .l 14, .l 14, .i, .l 14, .l 0, .c 11 [23, 0, 14, 15, 15, 15, 15], .ah 12 [0, 20, 7, 8, 4, 0, 16, 7, 7, 3, 7, 7, 7, 0, 0, 0] 10]
  | false => [.l 1, .c 0 [1], .l 1, .l 1, .t, .t, .i, .i, .l 0, .l 0, .i, .l 0, .l 0, .l 0, .l 0, .i, .l 0, .l 0, .l 0, .l 0, .l 0, .i, .l 2, .l 2, .i, .l 2, .l 2, .a 1 [2, 1, 0, 6, 13, 13, 13], .l 8, .l 8, .l 1, .l 1, .l 1, .t, .t, .i, .i, .l 0, .l 0, .i, .l 0, .l 0, .l 0, .l 0, .i, .l 0, .l 0, .l 0, .l 0, .l 0, .i, .l 2, .l 2, .i, .l 2, .l 2, .ah 2 [2, 1, 0, 14, 14, 14, 14, 14, 14] 0, .l 17, .l 17, .l 1, .l 1, .l 1, .l 17, .l 19, .l 19, .l 19, .l 19, .t, .t, .l 17, .ch 3 [0] 1, .ch 4 [19] 2, .l 18, .qh 0 [2, 0] 3, .l 19, .t, .t, .l 19, .ch 3 [20] 4, .c 5 [], .l 20, .l 20, .l 0, .l 0, .l 0, .ch 6 [0] 5, .l 20, .l 20, .l 20, .l 20, .t, .t, .l 20, .ch 3 [3] 6, .ch 7 [] 7, .l 0, .l 0, .l 0, .ch 8 [0] 8, .l 20, .l 20, .l 20, .i, .t, .l 20, .l 12, .l 12, .l 12, .i, .l 12, .l 12, .t, .c 9 [], .l 20, .l 20, .l 12, .l 12, .i, .l 12, .l 12, .l 12, .l 12, .t, .l 20, .l 20, .l 12, .l 12, .l 12, .i, .l 12, .l 12, .l 22, .t, .c 10 [], .l 6, .l 21, .l 7, .l 7, .i, .l 7, .l 7, .l 7, .l 7, .l 21, .l 22, .l 22, .l 22, .l 22, .l 21, .ch 4 [22] 9, .l 22, .l 14, .l 14, .i, .l 14, .l 0, .c 11 [23, 0, 14, 15, 15, 15, 15], .ah 12 [0, 20, 7, 8, 4, 0, 16, 7, 7, 3, 7, 7, 7, 0, 0, 0] 10]
noncomputable def mnL110 (h n j : Nat) (pv cs ms : List Value) (len : Nat → Nat) (tk : Nat) (P : Nat → Ev) : List Prop := [(((P 24).tk) ≤ ((P 25).tk)), True, mnFact h pv (Nat.succ 0) n (nx len 0) (cs ++ [Value.int (Int.ofNat ((P 10).s.v 0).length) ((P 11).s.n 0)]) (ms ++ [Value.int (Int.ofNat 0) (tOf ((P 10).s.v 0) (Int.fmod (zOf pv (Int.ofNat 0).toNat) (Int.ofNat ((P 10).s.v 0).length)).toNat)]) (P 25).s, (((P 22).tk) ≤ ((P 24).tk)), (((P 21).tk) ≤ ((P 22).tk)), (((P 20).tk) ≤ ((P 21).tk)), (((((P 20).tk) < (Nat.succ ((P 21).s.n 1))) ∧ ((Nat.succ ((P 21).s.n 1)) ≤ ((P 21).tk))) ∧ (((((P 20).tk) < (Nat.succ ((P 21).s.n 2))) ∧ ((Nat.succ ((P 21).s.n 2)) ≤ ((P 21).tk))) ∧ ((((P 20).tk) < (Nat.succ ((P 21).s.n 3))) ∧ ((Nat.succ ((P 21).s.n 3)) ≤ ((P 21).tk))))), ((Nat.succ (Nat.succ (Nat.succ ((P 19).tk)))) ≤ ((P 20).tk)), (((P 18).tk) ≤ ((P 19).tk)), (((P 17).tk) ≤ ((P 18).tk)), ((Nat.succ ((P 16).tk)) ≤ ((P 17).tk)), (((P 15).tk) ≤ ((P 16).tk)), (((P 14).tk) ≤ ((P 15).tk)), (((P 12).tk) ≤ ((P 14).tk)), (((P 11).tk) ≤ ((P 12).tk)), ((Nat.succ ((P 10).tk)) ≤ ((P 11).tk)), ((Nat.succ (Nat.succ (Nat.succ (Nat.succ ((P 5).tk))))) ≤ ((P 10).tk)), frFact h len ((P 10).s.v 0), ((Nat.succ (Nat.succ (Nat.succ (Nat.succ ((P 0).tk))))) ≤ ((P 5).tk)), (tk ≤ ((P 0).tk))]
theorem mn110 {b₁ b₂ : Bool} (G : Good (mkV U b₁ b₂)) {h ht n j : Nat} {pv : List Value} {pe : Nat} {x : Mx} {text : Str} {t : Nat} {σ : Sup} (len : Nat → Nat) (hh : h ∈ [4, 6, 8]) (hl : ∀ k, k < 4 → 1 ≤ len k ∧ len k < 39) (hpv : AllInt pv) (hpl : pv.length ≤ 1000) (hf : 0 < (frees h len).length) (hlt : decide (Int.ofNat 0 < Int.ofNat pv.length) = true) (hm : mvOf h len (pkZ pv 0) = 0)
    (IH : ∀ x u ia ll el li lt cs ec ms em tw e, Meets (mkV U b₁ b₂) (S_mn (mkV U b₁ b₂) false (Nat.succ 0) n x u ia ll el li lt h ht pv pe cs ec ms em text t σ (nx len 0) tw e))
    (u : Ux) (ia ll : Addr) (el : Nat) (li : Nat → Addr) (lt : Nat → Nat → Nat) (cs : List Value) (ec : Nat) (ms : List Value) (em : Nat) (tw : Nat → Nat) (e : Nat) : Meets (mkV U b₁ b₂) (S_mn (mkV U b₁ b₂) true 0 (Nat.succ n) x u ia ll el li lt h ht pv pe cs ec ms em text t σ len tw e) := by
  refine Meets.hyp fun hy => ?_
  have hc : cs.length ≤ 0 ∧ ms.length ≤ 0 := hy.1
  have hD : ltD lt := hy.2
  have hj' : 0 < 27 := by decide
  have hj := hj'
  have c1 : cs.length ≤ 1000 := by have := hc.1; omega
  have m1 : ms.length ≤ 1000 := by have := hc.2; omega
  have hm' : mvOf h len (zOf pv (Int.ofNat 0).toNat) = 0 := by rw [← pk_yes hlt]; exact hm
  have ll' : nx len 0 0 < 40 := by have := (hl 0 (by decide)).2; show Nat.succ (len 0) < 40; omega
  obtain ⟨hr, h6, _⟩ := lt_fin h hh _ (List.mem_range.mpr ll')
  have C : ∀ P : Nat → Ev, CsOk (mkV U b₁ b₂) (mnC (mkV U b₁ b₂) 0 n 0 true h ht pv pe x text t σ lt len P) :=
    mnC_ok G hh hl hD hlt ll' hr h6 IH
  have D : DsOk (mkV U b₁ b₂) [D_eqF] := ⟨D_eqF_ok, trivial⟩
  refine meets_dep (dep := depC) G C mnC_dep D (sgMn (mkV U b₁ b₂) x ia) (fun A R L tk q => mn_conv q) 398 (mnH110 b₂) (fun tk P => (P 25).s) (fun tk P => (mnL110 h n j pv cs ms len tk P)) [0, 0, 0, 0, 0, 0, 0] (fun tk P => (P 25).tk)
      (fun tk ht P q => match q with
      | 0 => ⟨impL ((mnL110 h n j pv cs ms len tk P).drop 18) (([] : List Value).length ≤ 0), impI (fun _ => Nat.le_refl 0)⟩
      | 1 => ⟨impL ((mnL110 h n j pv cs ms len tk P).drop 16) (((P 10).s.v 0).length ≤ 1000), impI (fun g => fr_le (g (frFact h len ((P 10).s.v 0)) (.tail _ (.head _))))⟩
      | 2 => ⟨impL ((mnL110 h n j pv cs ms len tk P).drop 15) (cs.length ≤ 1000), impI (fun _ => c1)⟩
      | 3 => ⟨impL ((mnL110 h n j pv cs ms len tk P).drop 14) (((P 10).s.v 0).length ≠ ([] : List Value).length), impI (fun g => fr_ne hf (g (frFact h len ((P 10).s.v 0)) (.tail _ (.tail _ (.tail _ (.head _))))))⟩
      | 4 => ⟨impL ((mnL110 h n j pv cs ms len tk P).drop 14) (pv.length ≤ 1000), impI (fun _ => hpl)⟩
      | 5 => ⟨impL ((mnL110 h n j pv cs ms len tk P).drop 12) (0 ≤ Int.ofNat 0 ∧ Int.ofNat 0 < 1000 ∧ ∃ z u, pv[(Int.ofNat 0).toNat]? = some (Value.int z u)), impI (fun _ => pv_get hpv hlt hj)⟩
      | 6 => ⟨impL ((mnL110 h n j pv cs ms len tk P).drop 11) (((P 10).s.v 0).length ≤ 1000), impI (fun g => fr_le (g (frFact h len ((P 10).s.v 0)) (.tail _ (.tail _ (.tail _ (.tail _ (.tail _ (.tail _ (.head _)))))))))⟩
      | 7 => ⟨impL ((mnL110 h n j pv cs ms len tk P).drop 10) (Int.ofNat ((P 10).s.v 0).length ≠ 0), impI (fun g => fr_nz hf (g (frFact h len ((P 10).s.v 0)) (.tail _ (.tail _ (.tail _ (.tail _ (.tail _ (.tail _ (.tail _ (.head _))))))))))⟩
      | 8 => ⟨impL ((mnL110 h n j pv cs ms len tk P).drop 9) (0 ≤ Int.fmod (zOf pv (Int.ofNat 0).toNat) (Int.ofNat ((P 10).s.v 0).length) ∧ Int.fmod (zOf pv (Int.ofNat 0).toNat) (Int.ofNat ((P 10).s.v 0).length) < 1000 ∧ ∃ u, ((P 10).s.v 0)[(Int.fmod (zOf pv (Int.ofNat 0).toNat) (Int.ofNat ((P 10).s.v 0).length)).toNat]? = some (Value.int (Int.ofNat 0) u)), impI (fun g => fr_get hf hm' (g (frFact h len ((P 10).s.v 0)) (.tail _ (.tail _ (.tail _ (.tail _ (.tail _ (.tail _ (.tail _ (.tail _ (.head _)))))))))))⟩
      | 9 => ⟨impL ((mnL110 h n j pv cs ms len tk P).drop 5) (ms.length ≤ 1000), impI (fun _ => m1)⟩
      | _ => ⟨impL ((mnL110 h n j pv cs ms len tk P).drop 3) ((((cs ++ [Value.int (Int.ofNat ((P 10).s.v 0).length) ((P 11).s.n 0)]).length ≤ Nat.succ 0 ∧ (ms ++ [Value.int (Int.ofNat 0) (tOf ((P 10).s.v 0) (Int.fmod (zOf pv (Int.ofNat 0).toNat) (Int.ofNat ((P 10).s.v 0).length)).toNat)]).length ≤ Nat.succ 0) ∧ ltD (lt4 (tk3 ((P 21).s.n 1) ((P 21).s.n 2) ((P 21).s.n 3)) (tk3 (lt 1 0) (lt 1 1) (lt 1 2)) (tk3 (lt 2 0) (lt 2 1) (lt 2 2)) (tk3 (lt 3 0) (lt 3 1) (lt 3 2)))) ∧ ltT (lt4 (tk3 ((P 21).s.n 1) ((P 21).s.n 2) ((P 21).s.n 3)) (tk3 (lt 1 0) (lt 1 1) (lt 1 2)) (tk3 (lt 2 0) (lt 2 1) (lt 2 2)) (tk3 (lt 3 0) (lt 3 1) (lt 3 2))) (((P 24).tk))), impI (fun g => by
        simp only [mnL110, List.drop_succ_cons, List.drop_zero, List.forall_mem_cons] at g
        have z := ltT_next (lt' := (lt4 (tk3 ((P 21).s.n 1) ((P 21).s.n 2) ((P 21).s.n 3)) (tk3 (lt 1 0) (lt 1 1) (lt 1 2)) (tk3 (lt 2 0) (lt 2 1) (lt 2 2)) (tk3 (lt 3 0) (lt 3 1) (lt 3 2)))) (m := 0) (T0 := tk) (T1 := ((P 24).tk)) hD ht (by omega) (fun k hk hn i hi => by
          rcases k with _ | _ | _ | _ | k <;> rcases i with _ | _ | _ | i <;> first | rfl | exact absurd rfl hn | exact absurd hi (by omega) | exact absurd hk (by omega)) (tk3_ok (by omega) (by omega) (by omega))
        exact ⟨⟨⟨app_le hc.1, app_le hc.2⟩, z.1⟩, z.2⟩)⟩)
      (fun tk _ P g => ⟨mn_fact hm (g (frFact h len ((P 10).s.v 0)) (.tail _ (.tail _ (.tail _ (.tail _ (.tail _ (.tail _ (.tail _ (.tail _ (.tail _ (.tail _ (.tail _ (.tail _ (.tail _ (.tail _ (.tail _ (.tail _ (.tail _ (.head _))))))))))))))))))) (g (mnFact h pv (Nat.succ 0) n (nx len 0) (cs ++ [Value.int (Int.ofNat ((P 10).s.v 0).length) ((P 11).s.n 0)]) (ms ++ [Value.int (Int.ofNat 0) (tOf ((P 10).s.v 0) (Int.fmod (zOf pv (Int.ofNat 0).toNat) (Int.ofNat ((P 10).s.v 0).length)).toNat)]) (P 25).s) (.tail _ (.tail _ (.head _)))), trivial⟩) (fun tk ht P => ?_)
  exact Bool.casesOn b₁ (Bool.casesOn b₂ (by kernel_rfl!) (by kernel_rfl!)) (Bool.casesOn b₂ (by kernel_rfl!) (by kernel_rfl!))
noncomputable def mnH111 : Bool → List Hint
  | true => [.l 1, .c 0 [1], .l 1, .l 1, .t, .t, .i, .i, .l 0, .l 0, .i, .l 0, .l 0, .l 0, .l 0, .i, .l 0, .l 0, .l 0, .l 0, .l 0, .i, .a 1 [2, 1, 0, 6, 13, 13, 13], .l 8, .l 8, .l 1, .l 1, .l 1, .t, .t, .i, .i, .l 0, .l 0, .i, .l 0, .l 0, .l 0, .l 0, .i, .l 0, .l 0, .l 0, .l 0, .l 0, .i, .ah 2 [2, 1, 0, 14, 14, 14, 14, 14, 14] 0, .l 17, .l 17, .l 1, .l 1, .l 1, .l 17, .l 19, .l 19, .l 19, .l 19, .t, .t, .l 17, .ch 3 [0] 1, .ch 4 [19] 2, .l 18, .qh 0 [2, 0] 3, .l 19, .t, .t, .l 19, .ch 3 [20] 4, .c 5 [], .l 20, .l 20, .l 0, .l 0, .l 0, .ch 6 [0] 5, .l 20, .l 20, .l 20, .l 20, .t, .t, .l 20, .ch 3 [3] 6, .ch 7 [] 7, .l 0, .l 0, .l 0, .ch 8 [0] 8, .l 20, .l 20, .l 20, .i, .l 20, .l 20, .i, .l 12, .l 12, .l 12, .i, .l 12, .l 12, .l 20, .l 20, .l 12, .l 12, .i, .l 12, .l 12, .l 12, .l 12, .t, .l 20, .l 20, .l 12, .l 12, .l 12, .i, .l 12, .l 12, .l 22, .t, .c 10 [], .l 6, .l 21, .l 7, .l 7, .i, .l 7, .l 7, .l 7, .l 7, .l 21, .l 22, .l 22, .l 22, .l 22, .l 21, .ch 4 [22] 9, .l 22, .l 14, .l 14, .i, .l 14, .l 0, .c 11 [23, 0, 14, 15, 15, 15, 15], .ah 12 [0, 20, 7, 8, 4, 0, 16, 7, 7, 7, 3, 7, 7, 0, 0, 0] 10]
  | false => [.l 1, .c 0 [1], .l 1, .l 1, .t, .t, .i, .i, .l 0, .l 0, .i, .l 0, .l 0, .l 0, .l 0, .i, .l 0, .l 0, .l 0, .l 0, .l 0, .i, .l 2, .l 2, .i, .l 2, .l 2, .a 1 [2, 1, 0, 6, 13, 13, 13], .l 8, .l 8, .l 1, .l 1, .l 1, .t, .t, .i, .i, .l 0, .l 0, .i, .l 0, .l 0, .l 0, .l 0, .i, .l 0, .l 0, .l 0, .l 0, .l 0, .i, .l 2, .l 2, .i, .l 2, .l 2, .ah 2 [2, 1, 0, 14, 14, 14, 14, 14, 14] 0, .l 17, .l 17, .l 1, .l 1, .l 1, .l 17, .l 19, .l 19, .l 19, .l 19, .t, .t, .l 17, .ch 3 [0] 1, .ch 4 [19] 2, .l 18, .qh 0 [2, 0] 3, .l 19, .t, .t, .l 19, .ch 3 [20] 4, .c 5 [], .l 20, .l 20, .l 0, .l 0, .l 0, .ch 6 [0] 5, .l 20, .l 20, .l 20, .l 20, .t, .t, .l 20, .ch 3 [3] 6, .ch 7 [] 7, .l 0, .l 0, .l 0, .ch 8 [0] 8, .l 20, .l 20, .l 20, .i, .l 20, .l 20, .i, .l 12, .l 12, .l 12, .i, .l 12, .l 12, .l 20, .l 20, .l 12, .l 12, .i, .l 12, .l 12, .l 12, .l 12, .t, .l 20, .l 20, .l 12, .l 12, .l 12, .i, .l 12, .l 12, .l 22, .t, .c 10 [], .l 6, .l 21, .l 7, .l 7, .i, .l 7, .l 7, .l 7, .l 7, .l 21, .l 22, .l 22, .l 22, .l 22, .l 21, .ch 4 [22] 9, .l 22, .l 14, .l 14, .i, .l 14, .l 0, .c 11 [23, 0, 14, 15, 15, 15, 15], .ah 12 [0, 20, 7, 8, 4, 0, 16, 7, 7, 7, 3, 7, 7, 0, 0, 0] 10]
noncomputable def mnL111 (h n j : Nat) (pv cs ms : List Value) (len : Nat → Nat) (tk : Nat) (P : Nat → Ev) : List Prop := [(((P 23).tk) ≤ ((P 24).tk)), True, mnFact h pv (Nat.succ 0) n (nx len 1) (cs ++ [Value.int (Int.ofNat ((P 10).s.v 0).length) ((P 11).s.n 0)]) (ms ++ [Value.int (Int.ofNat 1) (tOf ((P 10).s.v 0) (Int.fmod (zOf pv (Int.ofNat 0).toNat) (Int.ofNat ((P 10).s.v 0).length)).toNat)]) (P 24).s, (((P 21).tk) ≤ ((P 23).tk)), (((P 20).tk) ≤ ((P 21).tk)), ((Nat.succ (Nat.succ (Nat.succ (Nat.succ ((P 19).tk))))) ≤ ((P 20).tk)), ((((Nat.succ (Nat.succ (Nat.succ (Nat.succ ((P 19).tk))))) < (Nat.succ ((P 20).s.n 1))) ∧ ((Nat.succ ((P 20).s.n 1)) ≤ ((P 20).tk))) ∧ ((((Nat.succ (Nat.succ (Nat.succ (Nat.succ ((P 19).tk))))) < (Nat.succ ((P 20).s.n 2))) ∧ ((Nat.succ ((P 20).s.n 2)) ≤ ((P 20).tk))) ∧ (((Nat.succ (Nat.succ (Nat.succ (Nat.succ ((P 19).tk))))) < (Nat.succ ((P 20).s.n 3))) ∧ ((Nat.succ ((P 20).s.n 3)) ≤ ((P 20).tk))))), (((P 18).tk) ≤ ((P 19).tk)), (((P 17).tk) ≤ ((P 18).tk)), ((Nat.succ ((P 16).tk)) ≤ ((P 17).tk)), (((P 15).tk) ≤ ((P 16).tk)), (((P 14).tk) ≤ ((P 15).tk)), (((P 12).tk) ≤ ((P 14).tk)), (((P 11).tk) ≤ ((P 12).tk)), ((Nat.succ ((P 10).tk)) ≤ ((P 11).tk)), ((Nat.succ (Nat.succ (Nat.succ (Nat.succ ((P 5).tk))))) ≤ ((P 10).tk)), frFact h len ((P 10).s.v 0), ((Nat.succ (Nat.succ (Nat.succ (Nat.succ ((P 0).tk))))) ≤ ((P 5).tk)), (tk ≤ ((P 0).tk))]
theorem mn111 {b₁ b₂ : Bool} (G : Good (mkV U b₁ b₂)) {h ht n j : Nat} {pv : List Value} {pe : Nat} {x : Mx} {text : Str} {t : Nat} {σ : Sup} (len : Nat → Nat) (hh : h ∈ [4, 6, 8]) (hl : ∀ k, k < 4 → 1 ≤ len k ∧ len k < 39) (hpv : AllInt pv) (hpl : pv.length ≤ 1000) (hf : 0 < (frees h len).length) (hlt : decide (Int.ofNat 0 < Int.ofNat pv.length) = true) (hm : mvOf h len (pkZ pv 0) = 1)
    (IH : ∀ x u ia ll el li lt cs ec ms em tw e, Meets (mkV U b₁ b₂) (S_mn (mkV U b₁ b₂) false (Nat.succ 0) n x u ia ll el li lt h ht pv pe cs ec ms em text t σ (nx len 1) tw e))
    (u : Ux) (ia ll : Addr) (el : Nat) (li : Nat → Addr) (lt : Nat → Nat → Nat) (cs : List Value) (ec : Nat) (ms : List Value) (em : Nat) (tw : Nat → Nat) (e : Nat) : Meets (mkV U b₁ b₂) (S_mn (mkV U b₁ b₂) true 0 (Nat.succ n) x u ia ll el li lt h ht pv pe cs ec ms em text t σ len tw e) := by
  refine Meets.hyp fun hy => ?_
  have hc : cs.length ≤ 0 ∧ ms.length ≤ 0 := hy.1
  have hD : ltD lt := hy.2
  have hj' : 0 < 27 := by decide
  have hj := hj'
  have c1 : cs.length ≤ 1000 := by have := hc.1; omega
  have m1 : ms.length ≤ 1000 := by have := hc.2; omega
  have hm' : mvOf h len (zOf pv (Int.ofNat 0).toNat) = 1 := by rw [← pk_yes hlt]; exact hm
  have ll' : nx len 1 1 < 40 := by have := (hl 0 (by decide)).2; show len 0 < 40; omega
  obtain ⟨hr, h6, _⟩ := lt_fin h hh _ (List.mem_range.mpr ll')
  have C : ∀ P : Nat → Ev, CsOk (mkV U b₁ b₂) (mnC (mkV U b₁ b₂) 0 n 1 true h ht pv pe x text t σ lt len P) :=
    mnC_ok G hh hl hD hlt ll' hr h6 IH
  have D : DsOk (mkV U b₁ b₂) [D_eqF] := ⟨D_eqF_ok, trivial⟩
  refine meets_dep (dep := depC) G C mnC_dep D (sgMn (mkV U b₁ b₂) x ia) (fun A R L tk q => mn_conv q) 397 (mnH111 b₂) (fun tk P => (P 24).s) (fun tk P => (mnL111 h n j pv cs ms len tk P)) [0, 0, 0, 0, 0, 0, 0] (fun tk P => (P 24).tk)
      (fun tk ht P q => match q with
      | 0 => ⟨impL ((mnL111 h n j pv cs ms len tk P).drop 17) (([] : List Value).length ≤ 0), impI (fun _ => Nat.le_refl 0)⟩
      | 1 => ⟨impL ((mnL111 h n j pv cs ms len tk P).drop 15) (((P 10).s.v 0).length ≤ 1000), impI (fun g => fr_le (g (frFact h len ((P 10).s.v 0)) (.tail _ (.head _))))⟩
      | 2 => ⟨impL ((mnL111 h n j pv cs ms len tk P).drop 14) (cs.length ≤ 1000), impI (fun _ => c1)⟩
      | 3 => ⟨impL ((mnL111 h n j pv cs ms len tk P).drop 13) (((P 10).s.v 0).length ≠ ([] : List Value).length), impI (fun g => fr_ne hf (g (frFact h len ((P 10).s.v 0)) (.tail _ (.tail _ (.tail _ (.head _))))))⟩
      | 4 => ⟨impL ((mnL111 h n j pv cs ms len tk P).drop 13) (pv.length ≤ 1000), impI (fun _ => hpl)⟩
      | 5 => ⟨impL ((mnL111 h n j pv cs ms len tk P).drop 11) (0 ≤ Int.ofNat 0 ∧ Int.ofNat 0 < 1000 ∧ ∃ z u, pv[(Int.ofNat 0).toNat]? = some (Value.int z u)), impI (fun _ => pv_get hpv hlt hj)⟩
      | 6 => ⟨impL ((mnL111 h n j pv cs ms len tk P).drop 10) (((P 10).s.v 0).length ≤ 1000), impI (fun g => fr_le (g (frFact h len ((P 10).s.v 0)) (.tail _ (.tail _ (.tail _ (.tail _ (.tail _ (.tail _ (.head _)))))))))⟩
      | 7 => ⟨impL ((mnL111 h n j pv cs ms len tk P).drop 9) (Int.ofNat ((P 10).s.v 0).length ≠ 0), impI (fun g => fr_nz hf (g (frFact h len ((P 10).s.v 0)) (.tail _ (.tail _ (.tail _ (.tail _ (.tail _ (.tail _ (.tail _ (.head _))))))))))⟩
      | 8 => ⟨impL ((mnL111 h n j pv cs ms len tk P).drop 8) (0 ≤ Int.fmod (zOf pv (Int.ofNat 0).toNat) (Int.ofNat ((P 10).s.v 0).length) ∧ Int.fmod (zOf pv (Int.ofNat 0).toNat) (Int.ofNat ((P 10).s.v 0).length) < 1000 ∧ ∃ u, ((P 10).s.v 0)[(Int.fmod (zOf pv (Int.ofNat 0).toNat) (Int.ofNat ((P 10).s.v 0).length)).toNat]? = some (Value.int (Int.ofNat 1) u)), impI (fun g => fr_get hf hm' (g (frFact h len ((P 10).s.v 0)) (.tail _ (.tail _ (.tail _ (.tail _ (.tail _ (.tail _ (.tail _ (.tail _ (.head _)))))))))))⟩
      | 9 => ⟨impL ((mnL111 h n j pv cs ms len tk P).drop 5) (ms.length ≤ 1000), impI (fun _ => m1)⟩
      | _ => ⟨impL ((mnL111 h n j pv cs ms len tk P).drop 3) ((((cs ++ [Value.int (Int.ofNat ((P 10).s.v 0).length) ((P 11).s.n 0)]).length ≤ Nat.succ 0 ∧ (ms ++ [Value.int (Int.ofNat 1) (tOf ((P 10).s.v 0) (Int.fmod (zOf pv (Int.ofNat 0).toNat) (Int.ofNat ((P 10).s.v 0).length)).toNat)]).length ≤ Nat.succ 0) ∧ ltD (lt4 (tk3 (lt 0 0) (lt 0 1) (lt 0 2)) (tk3 ((P 20).s.n 1) ((P 20).s.n 2) ((P 20).s.n 3)) (tk3 (lt 2 0) (lt 2 1) (lt 2 2)) (tk3 (lt 3 0) (lt 3 1) (lt 3 2)))) ∧ ltT (lt4 (tk3 (lt 0 0) (lt 0 1) (lt 0 2)) (tk3 ((P 20).s.n 1) ((P 20).s.n 2) ((P 20).s.n 3)) (tk3 (lt 2 0) (lt 2 1) (lt 2 2)) (tk3 (lt 3 0) (lt 3 1) (lt 3 2))) (((P 23).tk))), impI (fun g => by
        simp only [mnL111, List.drop_succ_cons, List.drop_zero, List.forall_mem_cons] at g
        have z := ltT_next (lt' := (lt4 (tk3 (lt 0 0) (lt 0 1) (lt 0 2)) (tk3 ((P 20).s.n 1) ((P 20).s.n 2) ((P 20).s.n 3)) (tk3 (lt 2 0) (lt 2 1) (lt 2 2)) (tk3 (lt 3 0) (lt 3 1) (lt 3 2)))) (m := 1) (T0 := tk) (T1 := ((P 23).tk)) hD ht (by omega) (fun k hk hn i hi => by
          rcases k with _ | _ | _ | _ | k <;> rcases i with _ | _ | _ | i <;> first | rfl | exact absurd rfl hn | exact absurd hi (by omega) | exact absurd hk (by omega)) (tk3_ok (by omega) (by omega) (by omega))
        exact ⟨⟨⟨app_le hc.1, app_le hc.2⟩, z.1⟩, z.2⟩)⟩)
      (fun tk _ P g => ⟨mn_fact hm (g (frFact h len ((P 10).s.v 0)) (.tail _ (.tail _ (.tail _ (.tail _ (.tail _ (.tail _ (.tail _ (.tail _ (.tail _ (.tail _ (.tail _ (.tail _ (.tail _ (.tail _ (.tail _ (.tail _ (.head _)))))))))))))))))) (g (mnFact h pv (Nat.succ 0) n (nx len 1) (cs ++ [Value.int (Int.ofNat ((P 10).s.v 0).length) ((P 11).s.n 0)]) (ms ++ [Value.int (Int.ofNat 1) (tOf ((P 10).s.v 0) (Int.fmod (zOf pv (Int.ofNat 0).toNat) (Int.ofNat ((P 10).s.v 0).length)).toNat)]) (P 24).s) (.tail _ (.tail _ (.head _)))), trivial⟩) (fun tk ht P => ?_)
  exact Bool.casesOn b₁ (Bool.casesOn b₂ (by kernel_rfl!) (by kernel_rfl!)) (Bool.casesOn b₂ (by kernel_rfl!) (by kernel_rfl!))
noncomputable def mnH112 : Bool → List Hint
  | true => [.l 1, .c 0 [1], .l 1, .l 1, .t, .t, .i, .i, .l 0, .l 0, .i, .l 0, .l 0, .l 0, .l 0, .i, .l 0, .l 0, .l 0, .l 0, .l 0, .i, .a 1 [2, 1, 0, 6, 13, 13, 13], .l 8, .l 8, .l 1, .l 1, .l 1, .t, .t, .i, .i, .l 0, .l 0, .i, .l 0, .l 0, .l 0, .l 0, .i, .l 0, .l 0, .l 0, .l 0, .l 0, .i, .ah 2 [2, 1, 0, 14, 14, 14, 14, 14, 14] 0, .l 17, .l 17, .l 1, .l 1, .l 1, .l 17, .l 19, .l 19, .l 19, .l 19, .t, .t, .l 17, .ch 3 [0] 1, .ch 4 [19] 2, .l 18, .qh 0 [2, 0] 3, .l 19, .t, .t, .l 19, .ch 3 [20] 4, .c 5 [], .l 20, .l 20, .l 0, .l 0, .l 0, .ch 6 [0] 5, .l 20, .l 20, .l 20, .l 20, .t, .t, .l 20, .ch 3 [3] 6, .ch 7 [] 7, .l 0, .l 0, .l 0, .ch 8 [0] 8, .l 20, .l 20, .l 20, .i, .l 20, .l 20, .i, .l 12, .l 12, .l 12, .i, .l 12, .l 12, .l 20, .l 20, .l 12, .l 12, .i, .l 12, .l 12, .l 12, .l 12, .t, .l 20, .l 20, .l 12, .l 12, .l 12, .i, .l 12, .l 12, .l 22, .t, .c 10 [], .l 6, .l 21, .l 7, .l 7, .i, .l 7, .l 7, .l 7, .l 7, .l 21, .l 22, .l 22, .l 22, .l 22, .l 21, .ch 4 [22] 9, .l 22, .l 14, .l 14, .i, .l 14, .l 0, .c 11 [23, 0, 14, 15, 15, 15, 15], .ah 12 [0, 20, 7, 8, 4, 0, 16, 7, 7, 7, 7, 3, 7, 0, 0, 0] 10]
  | false => [.l 1, .c 0 [1], .l 1, .l 1, .t, .t, .i, .i, .l 0, .l 0, .i, .l 0, .l 0, .l 0, .l 0, .i, .l 0, .l 0, .l 0, .l 0, .l 0, .i, .l 2, .l 2, .i, .l 2, .l 2, .a 1 [2, 1, 0, 6, 13, 13, 13], .l 8, .l 8, .l 1, .l 1, .l 1, .t, .t, .i, .i, .l 0, .l 0, .i, .l 0, .l 0, .l 0, .l 0, .i, .l 0, .l 0, .l 0, .l 0, .l 0, .i, .l 2, .l 2, .i, .l 2, .l 2, .ah 2 [2, 1, 0, 14, 14, 14, 14, 14, 14] 0, .l 17, .l 17, .l 1, .l 1, .l 1, .l 17, .l 19, .l 19, .l 19, .l 19, .t, .t, .l 17, .ch 3 [0] 1, .ch 4 [19] 2, .l 18, .qh 0 [2, 0] 3, .l 19, .t, .t, .l 19, .ch 3 [20] 4, .c 5 [], .l 20, .l 20, .l 0, .l 0, .l 0, .ch 6 [0] 5, .l 20, .l 20, .l 20, .l 20, .t, .t, .l 20, .ch 3 [3] 6, .ch 7 [] 7, .l 0, .l 0, .l 0, .ch 8 [0] 8, .l 20, .l 20, .l 20, .i, .l 20, .l 20, .i, .l 12, .l 12, .l 12, .i, .l 12, .l 12, .l 20, .l 20, .l 12, .l 12, .i, .l 12, .l 12, .l 12, .l 12, .t, .l 20, .l 20, .l 12, .l 12, .l 12, .i, .l 12, .l 12, .l 22, .t, .c 10 [], .l 6, .l 21, .l 7, .l 7, .i, .l 7, .l 7, .l 7, .l 7, .l 21, .l 22, .l 22, .l 22, .l 22, .l 21, .ch 4 [22] 9, .l 22, .l 14, .l 14, .i, .l 14, .l 0, .c 11 [23, 0, 14, 15, 15, 15, 15], .ah 12 [0, 20, 7, 8, 4, 0, 16, 7, 7, 7, 7, 3, 7, 0, 0, 0] 10]
noncomputable def mnL112 (h n j : Nat) (pv cs ms : List Value) (len : Nat → Nat) (tk : Nat) (P : Nat → Ev) : List Prop := [(((P 23).tk) ≤ ((P 24).tk)), True, mnFact h pv (Nat.succ 0) n (nx len 2) (cs ++ [Value.int (Int.ofNat ((P 10).s.v 0).length) ((P 11).s.n 0)]) (ms ++ [Value.int (Int.ofNat 2) (tOf ((P 10).s.v 0) (Int.fmod (zOf pv (Int.ofNat 0).toNat) (Int.ofNat ((P 10).s.v 0).length)).toNat)]) (P 24).s, (((P 21).tk) ≤ ((P 23).tk)), (((P 20).tk) ≤ ((P 21).tk)), ((Nat.succ (Nat.succ (Nat.succ (Nat.succ ((P 19).tk))))) ≤ ((P 20).tk)), ((((Nat.succ (Nat.succ (Nat.succ (Nat.succ ((P 19).tk))))) < (Nat.succ ((P 20).s.n 1))) ∧ ((Nat.succ ((P 20).s.n 1)) ≤ ((P 20).tk))) ∧ ((((Nat.succ (Nat.succ (Nat.succ (Nat.succ ((P 19).tk))))) < (Nat.succ ((P 20).s.n 2))) ∧ ((Nat.succ ((P 20).s.n 2)) ≤ ((P 20).tk))) ∧ (((Nat.succ (Nat.succ (Nat.succ (Nat.succ ((P 19).tk))))) < (Nat.succ ((P 20).s.n 3))) ∧ ((Nat.succ ((P 20).s.n 3)) ≤ ((P 20).tk))))), (((P 18).tk) ≤ ((P 19).tk)), (((P 17).tk) ≤ ((P 18).tk)), ((Nat.succ ((P 16).tk)) ≤ ((P 17).tk)), (((P 15).tk) ≤ ((P 16).tk)), (((P 14).tk) ≤ ((P 15).tk)), (((P 12).tk) ≤ ((P 14).tk)), (((P 11).tk) ≤ ((P 12).tk)), ((Nat.succ ((P 10).tk)) ≤ ((P 11).tk)), ((Nat.succ (Nat.succ (Nat.succ (Nat.succ ((P 5).tk))))) ≤ ((P 10).tk)), frFact h len ((P 10).s.v 0), ((Nat.succ (Nat.succ (Nat.succ (Nat.succ ((P 0).tk))))) ≤ ((P 5).tk)), (tk ≤ ((P 0).tk))]
theorem mn112 {b₁ b₂ : Bool} (G : Good (mkV U b₁ b₂)) {h ht n j : Nat} {pv : List Value} {pe : Nat} {x : Mx} {text : Str} {t : Nat} {σ : Sup} (len : Nat → Nat) (hh : h ∈ [4, 6, 8]) (hl : ∀ k, k < 4 → 1 ≤ len k ∧ len k < 39) (hpv : AllInt pv) (hpl : pv.length ≤ 1000) (hf : 0 < (frees h len).length) (hlt : decide (Int.ofNat 0 < Int.ofNat pv.length) = true) (hm : mvOf h len (pkZ pv 0) = 2)
    (IH : ∀ x u ia ll el li lt cs ec ms em tw e, Meets (mkV U b₁ b₂) (S_mn (mkV U b₁ b₂) false (Nat.succ 0) n x u ia ll el li lt h ht pv pe cs ec ms em text t σ (nx len 2) tw e))
    (u : Ux) (ia ll : Addr) (el : Nat) (li : Nat → Addr) (lt : Nat → Nat → Nat) (cs : List Value) (ec : Nat) (ms : List Value) (em : Nat) (tw : Nat → Nat) (e : Nat) : Meets (mkV U b₁ b₂) (S_mn (mkV U b₁ b₂) true 0 (Nat.succ n) x u ia ll el li lt h ht pv pe cs ec ms em text t σ len tw e) := by
  refine Meets.hyp fun hy => ?_
  have hc : cs.length ≤ 0 ∧ ms.length ≤ 0 := hy.1
  have hD : ltD lt := hy.2
  have hj' : 0 < 27 := by decide
  have hj := hj'
  have c1 : cs.length ≤ 1000 := by have := hc.1; omega
  have m1 : ms.length ≤ 1000 := by have := hc.2; omega
  have hm' : mvOf h len (zOf pv (Int.ofNat 0).toNat) = 2 := by rw [← pk_yes hlt]; exact hm
  have ll' : nx len 2 2 < 40 := by have := (hl 1 (by decide)).2; show len 1 < 40; omega
  obtain ⟨hr, h6, _⟩ := lt_fin h hh _ (List.mem_range.mpr ll')
  have C : ∀ P : Nat → Ev, CsOk (mkV U b₁ b₂) (mnC (mkV U b₁ b₂) 0 n 2 true h ht pv pe x text t σ lt len P) :=
    mnC_ok G hh hl hD hlt ll' hr h6 IH
  have D : DsOk (mkV U b₁ b₂) [D_eqF] := ⟨D_eqF_ok, trivial⟩
  refine meets_dep (dep := depC) G C mnC_dep D (sgMn (mkV U b₁ b₂) x ia) (fun A R L tk q => mn_conv q) 397 (mnH112 b₂) (fun tk P => (P 24).s) (fun tk P => (mnL112 h n j pv cs ms len tk P)) [0, 0, 0, 0, 0, 0, 0] (fun tk P => (P 24).tk)
      (fun tk ht P q => match q with
      | 0 => ⟨impL ((mnL112 h n j pv cs ms len tk P).drop 17) (([] : List Value).length ≤ 0), impI (fun _ => Nat.le_refl 0)⟩
      | 1 => ⟨impL ((mnL112 h n j pv cs ms len tk P).drop 15) (((P 10).s.v 0).length ≤ 1000), impI (fun g => fr_le (g (frFact h len ((P 10).s.v 0)) (.tail _ (.head _))))⟩
      | 2 => ⟨impL ((mnL112 h n j pv cs ms len tk P).drop 14) (cs.length ≤ 1000), impI (fun _ => c1)⟩
      | 3 => ⟨impL ((mnL112 h n j pv cs ms len tk P).drop 13) (((P 10).s.v 0).length ≠ ([] : List Value).length), impI (fun g => fr_ne hf (g (frFact h len ((P 10).s.v 0)) (.tail _ (.tail _ (.tail _ (.head _))))))⟩
      | 4 => ⟨impL ((mnL112 h n j pv cs ms len tk P).drop 13) (pv.length ≤ 1000), impI (fun _ => hpl)⟩
      | 5 => ⟨impL ((mnL112 h n j pv cs ms len tk P).drop 11) (0 ≤ Int.ofNat 0 ∧ Int.ofNat 0 < 1000 ∧ ∃ z u, pv[(Int.ofNat 0).toNat]? = some (Value.int z u)), impI (fun _ => pv_get hpv hlt hj)⟩
      | 6 => ⟨impL ((mnL112 h n j pv cs ms len tk P).drop 10) (((P 10).s.v 0).length ≤ 1000), impI (fun g => fr_le (g (frFact h len ((P 10).s.v 0)) (.tail _ (.tail _ (.tail _ (.tail _ (.tail _ (.tail _ (.head _)))))))))⟩
      | 7 => ⟨impL ((mnL112 h n j pv cs ms len tk P).drop 9) (Int.ofNat ((P 10).s.v 0).length ≠ 0), impI (fun g => fr_nz hf (g (frFact h len ((P 10).s.v 0)) (.tail _ (.tail _ (.tail _ (.tail _ (.tail _ (.tail _ (.tail _ (.head _))))))))))⟩
      | 8 => ⟨impL ((mnL112 h n j pv cs ms len tk P).drop 8) (0 ≤ Int.fmod (zOf pv (Int.ofNat 0).toNat) (Int.ofNat ((P 10).s.v 0).length) ∧ Int.fmod (zOf pv (Int.ofNat 0).toNat) (Int.ofNat ((P 10).s.v 0).length) < 1000 ∧ ∃ u, ((P 10).s.v 0)[(Int.fmod (zOf pv (Int.ofNat 0).toNat) (Int.ofNat ((P 10).s.v 0).length)).toNat]? = some (Value.int (Int.ofNat 2) u)), impI (fun g => fr_get hf hm' (g (frFact h len ((P 10).s.v 0)) (.tail _ (.tail _ (.tail _ (.tail _ (.tail _ (.tail _ (.tail _ (.tail _ (.head _)))))))))))⟩
      | 9 => ⟨impL ((mnL112 h n j pv cs ms len tk P).drop 5) (ms.length ≤ 1000), impI (fun _ => m1)⟩
      | _ => ⟨impL ((mnL112 h n j pv cs ms len tk P).drop 3) ((((cs ++ [Value.int (Int.ofNat ((P 10).s.v 0).length) ((P 11).s.n 0)]).length ≤ Nat.succ 0 ∧ (ms ++ [Value.int (Int.ofNat 2) (tOf ((P 10).s.v 0) (Int.fmod (zOf pv (Int.ofNat 0).toNat) (Int.ofNat ((P 10).s.v 0).length)).toNat)]).length ≤ Nat.succ 0) ∧ ltD (lt4 (tk3 (lt 0 0) (lt 0 1) (lt 0 2)) (tk3 (lt 1 0) (lt 1 1) (lt 1 2)) (tk3 ((P 20).s.n 1) ((P 20).s.n 2) ((P 20).s.n 3)) (tk3 (lt 3 0) (lt 3 1) (lt 3 2)))) ∧ ltT (lt4 (tk3 (lt 0 0) (lt 0 1) (lt 0 2)) (tk3 (lt 1 0) (lt 1 1) (lt 1 2)) (tk3 ((P 20).s.n 1) ((P 20).s.n 2) ((P 20).s.n 3)) (tk3 (lt 3 0) (lt 3 1) (lt 3 2))) (((P 23).tk))), impI (fun g => by
        simp only [mnL112, List.drop_succ_cons, List.drop_zero, List.forall_mem_cons] at g
        have z := ltT_next (lt' := (lt4 (tk3 (lt 0 0) (lt 0 1) (lt 0 2)) (tk3 (lt 1 0) (lt 1 1) (lt 1 2)) (tk3 ((P 20).s.n 1) ((P 20).s.n 2) ((P 20).s.n 3)) (tk3 (lt 3 0) (lt 3 1) (lt 3 2)))) (m := 2) (T0 := tk) (T1 := ((P 23).tk)) hD ht (by omega) (fun k hk hn i hi => by
          rcases k with _ | _ | _ | _ | k <;> rcases i with _ | _ | _ | i <;> first | rfl | exact absurd rfl hn | exact absurd hi (by omega) | exact absurd hk (by omega)) (tk3_ok (by omega) (by omega) (by omega))
        exact ⟨⟨⟨app_le hc.1, app_le hc.2⟩, z.1⟩, z.2⟩)⟩)
      (fun tk _ P g => ⟨mn_fact hm (g (frFact h len ((P 10).s.v 0)) (.tail _ (.tail _ (.tail _ (.tail _ (.tail _ (.tail _ (.tail _ (.tail _ (.tail _ (.tail _ (.tail _ (.tail _ (.tail _ (.tail _ (.tail _ (.tail _ (.head _)))))))))))))))))) (g (mnFact h pv (Nat.succ 0) n (nx len 2) (cs ++ [Value.int (Int.ofNat ((P 10).s.v 0).length) ((P 11).s.n 0)]) (ms ++ [Value.int (Int.ofNat 2) (tOf ((P 10).s.v 0) (Int.fmod (zOf pv (Int.ofNat 0).toNat) (Int.ofNat ((P 10).s.v 0).length)).toNat)]) (P 24).s) (.tail _ (.tail _ (.head _)))), trivial⟩) (fun tk ht P => ?_)
  exact Bool.casesOn b₁ (Bool.casesOn b₂ (by kernel_rfl!) (by kernel_rfl!)) (Bool.casesOn b₂ (by kernel_rfl!) (by kernel_rfl!))
noncomputable def mnH113 : Bool → List Hint
  | true => [.l 1, .c 0 [1], .l 1, .l 1, .t, .t, .i, .i, .l 0, .l 0, .i, .l 0, .l 0, .l 0, .l 0, .i, .l 0, .l 0, .l 0, .l 0, .l 0, .i, .a 1 [2, 1, 0, 6, 13, 13, 13], .l 8, .l 8, .l 1, .l 1, .l 1, .t, .t, .i, .i, .l 0, .l 0, .i, .l 0, .l 0, .l 0, .l 0, .i, .l 0, .l 0, .l 0, .l 0, .l 0, .i, .ah 2 [2, 1, 0, 14, 14, 14, 14, 14, 14] 0, .l 17, .l 17, .l 1, .l 1, .l 1, .l 17, .l 19, .l 19, .l 19, .l 19, .t, .t, .l 17, .ch 3 [0] 1, .ch 4 [19] 2, .l 18, .qh 0 [2, 0] 3, .l 19, .t, .t, .l 19, .ch 3 [20] 4, .c 5 [], .l 20, .l 20, .l 0, .l 0, .l 0, .ch 6 [0] 5, .l 20, .l 20, .l 20, .l 20, .t, .t, .l 20, .ch 3 [3] 6, .ch 7 [] 7, .l 0, .l 0, .l 0, .ch 8 [0] 8, .l 20, .l 20, .l 20, .i, .l 20, .l 20, .i, .l 12, .l 12, .l 12, .i, .l 12, .l 12, .l 20, .l 20, .l 12, .l 12, .i, .l 12, .l 12, .l 12, .l 12, .t, .l 20, .l 20, .l 12, .l 12, .l 12, .i, .l 12, .l 12, .l 22, .t, .c 10 [], .l 6, .l 21, .l 7, .l 7, .i, .l 7, .l 7, .l 7, .l 7, .l 21, .l 22, .l 22, .l 22, .l 22, .l 21, .ch 4 [22] 9, .l 22, .l 14, .l 14, .i, .l 14, .l 0, .c 11 [23, 0, 14, 15, 15, 15, 15], .ah 12 [0, 20, 7, 8, 4, 0, 16, 7, 7, 7, 7, 7, 3, 0, 0, 0] 10]
  | false => [.l 1, .c 0 [1], .l 1, .l 1, .t, .t, .i, .i, .l 0, .l 0, .i, .l 0, .l 0, .l 0, .l 0, .i, .l 0, .l 0, .l 0, .l 0, .l 0, .i, .l 2, .l 2, .i, .l 2, .l 2, .a 1 [2, 1, 0, 6, 13, 13, 13], .l 8, .l 8, .l 1, .l 1, .l 1, .t, .t, .i, .i, .l 0, .l 0, .i, .l 0, .l 0, .l 0, .l 0, .i, .l 0, .l 0, .l 0, .l 0, .l 0, .i, .l 2, .l 2, .i, .l 2, .l 2, .ah 2 [2, 1, 0, 14, 14, 14, 14, 14, 14] 0, .l 17, .l 17, .l 1, .l 1, .l 1, .l 17, .l 19, .l 19, .l 19, .l 19, .t, .t, .l 17, .ch 3 [0] 1, .ch 4 [19] 2, .l 18, .qh 0 [2, 0] 3, .l 19, .t, .t, .l 19, .ch 3 [20] 4, .c 5 [], .l 20, .l 20, .l 0, .l 0, .l 0, .ch 6 [0] 5, .l 20, .l 20, .l 20, .l 20, .t, .t, .l 20, .ch 3 [3] 6, .ch 7 [] 7, .l 0, .l 0, .l 0, .ch 8 [0] 8, .l 20, .l 20, .l 20, .i, .l 20, .l 20, .i, .l 12, .l 12, .l 12, .i, .l 12, .l 12, .l 20, .l 20, .l 12, .l 12, .i, .l 12, .l 12, .l 12, .l 12, .t, .l 20, .l 20, .l 12, .l 12, .l 12, .i, .l 12, .l 12, .l 22, .t, .c 10 [], .l 6, .l 21, .l 7, .l 7, .i, .l 7, .l 7, .l 7, .l 7, .l 21, .l 22, .l 22, .l 22, .l 22, .l 21, .ch 4 [22] 9, .l 22, .l 14, .l 14, .i, .l 14, .l 0, .c 11 [23, 0, 14, 15, 15, 15, 15], .ah 12 [0, 20, 7, 8, 4, 0, 16, 7, 7, 7, 7, 7, 3, 0, 0, 0] 10]
noncomputable def mnL113 (h n j : Nat) (pv cs ms : List Value) (len : Nat → Nat) (tk : Nat) (P : Nat → Ev) : List Prop := [(((P 23).tk) ≤ ((P 24).tk)), True, mnFact h pv (Nat.succ 0) n (nx len 3) (cs ++ [Value.int (Int.ofNat ((P 10).s.v 0).length) ((P 11).s.n 0)]) (ms ++ [Value.int (Int.ofNat 3) (tOf ((P 10).s.v 0) (Int.fmod (zOf pv (Int.ofNat 0).toNat) (Int.ofNat ((P 10).s.v 0).length)).toNat)]) (P 24).s, (((P 21).tk) ≤ ((P 23).tk)), (((P 20).tk) ≤ ((P 21).tk)), ((Nat.succ (Nat.succ (Nat.succ (Nat.succ ((P 19).tk))))) ≤ ((P 20).tk)), ((((Nat.succ (Nat.succ (Nat.succ (Nat.succ ((P 19).tk))))) < (Nat.succ ((P 20).s.n 1))) ∧ ((Nat.succ ((P 20).s.n 1)) ≤ ((P 20).tk))) ∧ ((((Nat.succ (Nat.succ (Nat.succ (Nat.succ ((P 19).tk))))) < (Nat.succ ((P 20).s.n 2))) ∧ ((Nat.succ ((P 20).s.n 2)) ≤ ((P 20).tk))) ∧ (((Nat.succ (Nat.succ (Nat.succ (Nat.succ ((P 19).tk))))) < (Nat.succ ((P 20).s.n 3))) ∧ ((Nat.succ ((P 20).s.n 3)) ≤ ((P 20).tk))))), (((P 18).tk) ≤ ((P 19).tk)), (((P 17).tk) ≤ ((P 18).tk)), ((Nat.succ ((P 16).tk)) ≤ ((P 17).tk)), (((P 15).tk) ≤ ((P 16).tk)), (((P 14).tk) ≤ ((P 15).tk)), (((P 12).tk) ≤ ((P 14).tk)), (((P 11).tk) ≤ ((P 12).tk)), ((Nat.succ ((P 10).tk)) ≤ ((P 11).tk)), ((Nat.succ (Nat.succ (Nat.succ (Nat.succ ((P 5).tk))))) ≤ ((P 10).tk)), frFact h len ((P 10).s.v 0), ((Nat.succ (Nat.succ (Nat.succ (Nat.succ ((P 0).tk))))) ≤ ((P 5).tk)), (tk ≤ ((P 0).tk))]
theorem mn113 {b₁ b₂ : Bool} (G : Good (mkV U b₁ b₂)) {h ht n j : Nat} {pv : List Value} {pe : Nat} {x : Mx} {text : Str} {t : Nat} {σ : Sup} (len : Nat → Nat) (hh : h ∈ [4, 6, 8]) (hl : ∀ k, k < 4 → 1 ≤ len k ∧ len k < 39) (hpv : AllInt pv) (hpl : pv.length ≤ 1000) (hf : 0 < (frees h len).length) (hlt : decide (Int.ofNat 0 < Int.ofNat pv.length) = true) (hm : mvOf h len (pkZ pv 0) = 3)
    (IH : ∀ x u ia ll el li lt cs ec ms em tw e, Meets (mkV U b₁ b₂) (S_mn (mkV U b₁ b₂) false (Nat.succ 0) n x u ia ll el li lt h ht pv pe cs ec ms em text t σ (nx len 3) tw e))
    (u : Ux) (ia ll : Addr) (el : Nat) (li : Nat → Addr) (lt : Nat → Nat → Nat) (cs : List Value) (ec : Nat) (ms : List Value) (em : Nat) (tw : Nat → Nat) (e : Nat) : Meets (mkV U b₁ b₂) (S_mn (mkV U b₁ b₂) true 0 (Nat.succ n) x u ia ll el li lt h ht pv pe cs ec ms em text t σ len tw e) := by
  refine Meets.hyp fun hy => ?_
  have hc : cs.length ≤ 0 ∧ ms.length ≤ 0 := hy.1
  have hD : ltD lt := hy.2
  have hj' : 0 < 27 := by decide
  have hj := hj'
  have c1 : cs.length ≤ 1000 := by have := hc.1; omega
  have m1 : ms.length ≤ 1000 := by have := hc.2; omega
  have hm' : mvOf h len (zOf pv (Int.ofNat 0).toNat) = 3 := by rw [← pk_yes hlt]; exact hm
  have ll' : nx len 3 3 < 40 := by have := (hl 2 (by decide)).2; show len 2 < 40; omega
  obtain ⟨hr, h6, _⟩ := lt_fin h hh _ (List.mem_range.mpr ll')
  have C : ∀ P : Nat → Ev, CsOk (mkV U b₁ b₂) (mnC (mkV U b₁ b₂) 0 n 3 true h ht pv pe x text t σ lt len P) :=
    mnC_ok G hh hl hD hlt ll' hr h6 IH
  have D : DsOk (mkV U b₁ b₂) [D_eqF] := ⟨D_eqF_ok, trivial⟩
  refine meets_dep (dep := depC) G C mnC_dep D (sgMn (mkV U b₁ b₂) x ia) (fun A R L tk q => mn_conv q) 397 (mnH113 b₂) (fun tk P => (P 24).s) (fun tk P => (mnL113 h n j pv cs ms len tk P)) [0, 0, 0, 0, 0, 0, 0] (fun tk P => (P 24).tk)
      (fun tk ht P q => match q with
      | 0 => ⟨impL ((mnL113 h n j pv cs ms len tk P).drop 17) (([] : List Value).length ≤ 0), impI (fun _ => Nat.le_refl 0)⟩
      | 1 => ⟨impL ((mnL113 h n j pv cs ms len tk P).drop 15) (((P 10).s.v 0).length ≤ 1000), impI (fun g => fr_le (g (frFact h len ((P 10).s.v 0)) (.tail _ (.head _))))⟩
      | 2 => ⟨impL ((mnL113 h n j pv cs ms len tk P).drop 14) (cs.length ≤ 1000), impI (fun _ => c1)⟩
      | 3 => ⟨impL ((mnL113 h n j pv cs ms len tk P).drop 13) (((P 10).s.v 0).length ≠ ([] : List Value).length), impI (fun g => fr_ne hf (g (frFact h len ((P 10).s.v 0)) (.tail _ (.tail _ (.tail _ (.head _))))))⟩
      | 4 => ⟨impL ((mnL113 h n j pv cs ms len tk P).drop 13) (pv.length ≤ 1000), impI (fun _ => hpl)⟩
      | 5 => ⟨impL ((mnL113 h n j pv cs ms len tk P).drop 11) (0 ≤ Int.ofNat 0 ∧ Int.ofNat 0 < 1000 ∧ ∃ z u, pv[(Int.ofNat 0).toNat]? = some (Value.int z u)), impI (fun _ => pv_get hpv hlt hj)⟩
      | 6 => ⟨impL ((mnL113 h n j pv cs ms len tk P).drop 10) (((P 10).s.v 0).length ≤ 1000), impI (fun g => fr_le (g (frFact h len ((P 10).s.v 0)) (.tail _ (.tail _ (.tail _ (.tail _ (.tail _ (.tail _ (.head _)))))))))⟩
      | 7 => ⟨impL ((mnL113 h n j pv cs ms len tk P).drop 9) (Int.ofNat ((P 10).s.v 0).length ≠ 0), impI (fun g => fr_nz hf (g (frFact h len ((P 10).s.v 0)) (.tail _ (.tail _ (.tail _ (.tail _ (.tail _ (.tail _ (.tail _ (.head _))))))))))⟩
      | 8 => ⟨impL ((mnL113 h n j pv cs ms len tk P).drop 8) (0 ≤ Int.fmod (zOf pv (Int.ofNat 0).toNat) (Int.ofNat ((P 10).s.v 0).length) ∧ Int.fmod (zOf pv (Int.ofNat 0).toNat) (Int.ofNat ((P 10).s.v 0).length) < 1000 ∧ ∃ u, ((P 10).s.v 0)[(Int.fmod (zOf pv (Int.ofNat 0).toNat) (Int.ofNat ((P 10).s.v 0).length)).toNat]? = some (Value.int (Int.ofNat 3) u)), impI (fun g => fr_get hf hm' (g (frFact h len ((P 10).s.v 0)) (.tail _ (.tail _ (.tail _ (.tail _ (.tail _ (.tail _ (.tail _ (.tail _ (.head _)))))))))))⟩
      | 9 => ⟨impL ((mnL113 h n j pv cs ms len tk P).drop 5) (ms.length ≤ 1000), impI (fun _ => m1)⟩
      | _ => ⟨impL ((mnL113 h n j pv cs ms len tk P).drop 3) ((((cs ++ [Value.int (Int.ofNat ((P 10).s.v 0).length) ((P 11).s.n 0)]).length ≤ Nat.succ 0 ∧ (ms ++ [Value.int (Int.ofNat 3) (tOf ((P 10).s.v 0) (Int.fmod (zOf pv (Int.ofNat 0).toNat) (Int.ofNat ((P 10).s.v 0).length)).toNat)]).length ≤ Nat.succ 0) ∧ ltD (lt4 (tk3 (lt 0 0) (lt 0 1) (lt 0 2)) (tk3 (lt 1 0) (lt 1 1) (lt 1 2)) (tk3 (lt 2 0) (lt 2 1) (lt 2 2)) (tk3 ((P 20).s.n 1) ((P 20).s.n 2) ((P 20).s.n 3)))) ∧ ltT (lt4 (tk3 (lt 0 0) (lt 0 1) (lt 0 2)) (tk3 (lt 1 0) (lt 1 1) (lt 1 2)) (tk3 (lt 2 0) (lt 2 1) (lt 2 2)) (tk3 ((P 20).s.n 1) ((P 20).s.n 2) ((P 20).s.n 3))) (((P 23).tk))), impI (fun g => by
        simp only [mnL113, List.drop_succ_cons, List.drop_zero, List.forall_mem_cons] at g
        have z := ltT_next (lt' := (lt4 (tk3 (lt 0 0) (lt 0 1) (lt 0 2)) (tk3 (lt 1 0) (lt 1 1) (lt 1 2)) (tk3 (lt 2 0) (lt 2 1) (lt 2 2)) (tk3 ((P 20).s.n 1) ((P 20).s.n 2) ((P 20).s.n 3)))) (m := 3) (T0 := tk) (T1 := ((P 23).tk)) hD ht (by omega) (fun k hk hn i hi => by
          rcases k with _ | _ | _ | _ | k <;> rcases i with _ | _ | _ | i <;> first | rfl | exact absurd rfl hn | exact absurd hi (by omega) | exact absurd hk (by omega)) (tk3_ok (by omega) (by omega) (by omega))
        exact ⟨⟨⟨app_le hc.1, app_le hc.2⟩, z.1⟩, z.2⟩)⟩)
      (fun tk _ P g => ⟨mn_fact hm (g (frFact h len ((P 10).s.v 0)) (.tail _ (.tail _ (.tail _ (.tail _ (.tail _ (.tail _ (.tail _ (.tail _ (.tail _ (.tail _ (.tail _ (.tail _ (.tail _ (.tail _ (.tail _ (.tail _ (.head _)))))))))))))))))) (g (mnFact h pv (Nat.succ 0) n (nx len 3) (cs ++ [Value.int (Int.ofNat ((P 10).s.v 0).length) ((P 11).s.n 0)]) (ms ++ [Value.int (Int.ofNat 3) (tOf ((P 10).s.v 0) (Int.fmod (zOf pv (Int.ofNat 0).toNat) (Int.ofNat ((P 10).s.v 0).length)).toNat)]) (P 24).s) (.tail _ (.tail _ (.head _)))), trivial⟩) (fun tk ht P => ?_)
  exact Bool.casesOn b₁ (Bool.casesOn b₂ (by kernel_rfl!) (by kernel_rfl!)) (Bool.casesOn b₂ (by kernel_rfl!) (by kernel_rfl!))
noncomputable def mnH100 : Bool → List Hint
  | true => [.l 1, .c 0 [1], .l 1, .l 1, .t, .t, .i, .i, .l 0, .l 0, .i, .l 0, .l 0, .l 0, .l 0, .i, .l 0, .l 0, .l 0, .l 0, .l 0, .i, .a 1 [2, 1, 0, 6, 13, 13, 13], .l 8, .l 8, .l 1, .l 1, .l 1, .t, .t, .i, .i, .l 0, .l 0, .i, .l 0, .l 0, .l 0, .l 0, .i, .l 0, .l 0, .l 0, .l 0, .l 0, .i, .ah 2 [2, 1, 0, 14, 14, 14, 14, 14, 14] 0, .l 17, .l 17, .l 1, .l 1, .l 1, .l 17, .l 19, .l 19, .l 19, .l 19, .t, .t, .l 17, .ch 3 [0] 1, .ch 4 [19] 2, .l 18, .qh 0 [2, 0] 3, .l 19, .t, .t, .l 19, .ch 3 [20] 4, .c 5 [], .l 20, .l 20, .l 20, .l 20, .t, .t, .l 20, .ch 3 [3] 5, .ch 7 [] 6, .l 0, .l 0, .l 0, .ch 8 [0] 7, .l 20, .l 20, .l 20, .i, .t, .l 20, .l 12, .l 12, .l 12, .i, .l 12, .l 12, .t, .c 9 [], .l 20, .l 20, .l 12, .l 12, .i, .l 12, .l 12, .l 12, .l 12, .t, .l 20, .l 20, .l 12, .l 12, .l 12, .i, .l 12, .l 12, .l 22, .t, .c 10 [], .l 6, .l 21, .l 7, .l 7, .i, .l 7, .l 7, .l 7, .l 7, .l 21, .l 22, .l 22, .l 22, .l 22, .l 21, .ch 4 [22] 8, .l 22, .l 14, .l 14, .i, .l 14, .l 0, .c 11 [23, 0, 14, 15, 15, 15, 15], .ah 12 [0, 20, 7, 8, 4, 0, 16, 7, 7, 3, 7, 7, 7, 0, 0, 0] 9]
  | false => [.l 1, .c 0 [1], .l 1, .l 1, .t, .t, .i, .i, .l 0, .l 0, .i, .l 0, .l 0, .l 0, .l 0, .i, .l 0, .l 0, .l 0, .l 0, .l 0, .i, .l 2, .l 2, .i, .l 2, .l 2, .a 1 [2, 1, 0, 6, 13, 13, 13], .l 8, .l 8, .l 1, .l 1, .l 1, .t, .t, .i, .i, .l 0, .l 0, .i, .l 0, .l 0, .l 0, .l 0, .i, .l 0, .l 0, .l 0, .l 0, .l 0, .i, .l 2, .l 2, .i, .l 2, .l 2, .ah 2 [2, 1, 0, 14, 14, 14, 14, 14, 14] 0, .l 17, .l 17, .l 1, .l 1, .l 1, .l 17, .l 19, .l 19, .l 19, .l 19, .t, .t, .l 17, .ch 3 [0] 1, .ch 4 [19] 2, .l 18, .qh 0 [2, 0] 3, .l 19, .t, .t, .l 19, .ch 3 [20] 4, .c 5 [], .l 20, .l 20, .l 20, .l 20, .t, .t, .l 20, .ch 3 [3] 5, .ch 7 [] 6, .l 0, .l 0, .l 0, .ch 8 [0] 7, .l 20, .l 20, .l 20, .i, .t, .l 20, .l 12, .l 12, .l 12, .i, .l 12, .l 12, .t, .c 9 [], .l 20, .l 20, .l 12, .l 12, .i, .l 12, .l 12, .l 12, .l 12, .t, .l 20, .l 20, .l 12, .l 12, .l 12, .i, .l 12, .l 12, .l 22, .t, .c 10 [], .l 6, .l 21, .l 7, .l 7, .i, .l 7, .l 7, .l 7, .l 7, .l 21, .l 22, .l 22, .l 22, .l 22, .l 21, .ch 4 [22] 8, .l 22, .l 14, .l 14, .i, .l 14, .l 0, .c 11 [23, 0, 14, 15, 15, 15, 15], .ah 12 [0, 20, 7, 8, 4, 0, 16, 7, 7, 3, 7, 7, 7, 0, 0, 0] 9]
noncomputable def mnL100 (h n j : Nat) (pv cs ms : List Value) (len : Nat → Nat) (tk : Nat) (P : Nat → Ev) : List Prop := [(((P 23).tk) ≤ ((P 24).tk)), True, mnFact h pv (Nat.succ 0) n (nx len 0) (cs ++ [Value.int (Int.ofNat ((P 10).s.v 0).length) ((P 11).s.n 0)]) (ms ++ [Value.int (Int.ofNat 0) (tOf ((P 10).s.v 0) (Int.fmod (0 : Int) (Int.ofNat ((P 10).s.v 0).length)).toNat)]) (P 24).s, (((P 21).tk) ≤ ((P 23).tk)), (((P 20).tk) ≤ ((P 21).tk)), (((P 19).tk) ≤ ((P 20).tk)), (((((P 19).tk) < (Nat.succ ((P 20).s.n 1))) ∧ ((Nat.succ ((P 20).s.n 1)) ≤ ((P 20).tk))) ∧ (((((P 19).tk) < (Nat.succ ((P 20).s.n 2))) ∧ ((Nat.succ ((P 20).s.n 2)) ≤ ((P 20).tk))) ∧ ((((P 19).tk) < (Nat.succ ((P 20).s.n 3))) ∧ ((Nat.succ ((P 20).s.n 3)) ≤ ((P 20).tk))))), ((Nat.succ (Nat.succ (Nat.succ ((P 18).tk)))) ≤ ((P 19).tk)), (((P 17).tk) ≤ ((P 18).tk)), (((P 16).tk) ≤ ((P 17).tk)), ((Nat.succ (Nat.succ ((P 15).tk))) ≤ ((P 16).tk)), (((P 14).tk) ≤ ((P 15).tk)), (((P 12).tk) ≤ ((P 14).tk)), (((P 11).tk) ≤ ((P 12).tk)), ((Nat.succ ((P 10).tk)) ≤ ((P 11).tk)), ((Nat.succ (Nat.succ (Nat.succ (Nat.succ ((P 5).tk))))) ≤ ((P 10).tk)), frFact h len ((P 10).s.v 0), ((Nat.succ (Nat.succ (Nat.succ (Nat.succ ((P 0).tk))))) ≤ ((P 5).tk)), (tk ≤ ((P 0).tk))]
theorem mn100 {b₁ b₂ : Bool} (G : Good (mkV U b₁ b₂)) {h ht n j : Nat} {pv : List Value} {pe : Nat} {x : Mx} {text : Str} {t : Nat} {σ : Sup} (len : Nat → Nat) (hh : h ∈ [4, 6, 8]) (hl : ∀ k, k < 4 → 1 ≤ len k ∧ len k < 39) (hpv : AllInt pv) (hpl : pv.length ≤ 1000) (hf : 0 < (frees h len).length) (hlt : decide (Int.ofNat 0 < Int.ofNat pv.length) = false) (hm : mvOf h len (pkZ pv 0) = 0)
    (IH : ∀ x u ia ll el li lt cs ec ms em tw e, Meets (mkV U b₁ b₂) (S_mn (mkV U b₁ b₂) false (Nat.succ 0) n x u ia ll el li lt h ht pv pe cs ec ms em text t σ (nx len 0) tw e))
    (u : Ux) (ia ll : Addr) (el : Nat) (li : Nat → Addr) (lt : Nat → Nat → Nat) (cs : List Value) (ec : Nat) (ms : List Value) (em : Nat) (tw : Nat → Nat) (e : Nat) : Meets (mkV U b₁ b₂) (S_mn (mkV U b₁ b₂) true 0 (Nat.succ n) x u ia ll el li lt h ht pv pe cs ec ms em text t σ len tw e) := by
  refine Meets.hyp fun hy => ?_
  have hc : cs.length ≤ 0 ∧ ms.length ≤ 0 := hy.1
  have hD : ltD lt := hy.2
  have hj' : 0 < 27 := by decide
  have hj := hj'
  have c1 : cs.length ≤ 1000 := by have := hc.1; omega
  have m1 : ms.length ≤ 1000 := by have := hc.2; omega
  have hm' : mvOf h len (0 : Int) = 0 := by rw [← pk_no hlt]; exact hm
  have ll' : nx len 0 0 < 40 := by have := (hl 0 (by decide)).2; show Nat.succ (len 0) < 40; omega
  obtain ⟨hr, h6, _⟩ := lt_fin h hh _ (List.mem_range.mpr ll')
  have C : ∀ P : Nat → Ev, CsOk (mkV U b₁ b₂) (mnC (mkV U b₁ b₂) 0 n 0 false h ht pv pe x text t σ lt len P) :=
    mnC_ok G hh hl hD hlt ll' hr h6 IH
  have D : DsOk (mkV U b₁ b₂) [D_eqF] := ⟨D_eqF_ok, trivial⟩
  refine meets_dep (dep := depC) G C mnC_dep D (sgMn (mkV U b₁ b₂) x ia) (fun A R L tk q => mn_conv q) 388 (mnH100 b₂) (fun tk P => (P 24).s) (fun tk P => (mnL100 h n j pv cs ms len tk P)) [0, 0, 0, 0, 0, 0, 0] (fun tk P => (P 24).tk)
      (fun tk ht P q => match q with
      | 0 => ⟨impL ((mnL100 h n j pv cs ms len tk P).drop 17) (([] : List Value).length ≤ 0), impI (fun _ => Nat.le_refl 0)⟩
      | 1 => ⟨impL ((mnL100 h n j pv cs ms len tk P).drop 15) (((P 10).s.v 0).length ≤ 1000), impI (fun g => fr_le (g (frFact h len ((P 10).s.v 0)) (.tail _ (.head _))))⟩
      | 2 => ⟨impL ((mnL100 h n j pv cs ms len tk P).drop 14) (cs.length ≤ 1000), impI (fun _ => c1)⟩
      | 3 => ⟨impL ((mnL100 h n j pv cs ms len tk P).drop 13) (((P 10).s.v 0).length ≠ ([] : List Value).length), impI (fun g => fr_ne hf (g (frFact h len ((P 10).s.v 0)) (.tail _ (.tail _ (.tail _ (.head _))))))⟩
      | 4 => ⟨impL ((mnL100 h n j pv cs ms len tk P).drop 13) (pv.length ≤ 1000), impI (fun _ => hpl)⟩
      | 5 => ⟨impL ((mnL100 h n j pv cs ms len tk P).drop 11) (((P 10).s.v 0).length ≤ 1000), impI (fun g => fr_le (g (frFact h len ((P 10).s.v 0)) (.tail _ (.tail _ (.tail _ (.tail _ (.tail _ (.head _))))))))⟩
      | 6 => ⟨impL ((mnL100 h n j pv cs ms len tk P).drop 10) (Int.ofNat ((P 10).s.v 0).length ≠ 0), impI (fun g => fr_nz hf (g (frFact h len ((P 10).s.v 0)) (.tail _ (.tail _ (.tail _ (.tail _ (.tail _ (.tail _ (.head _)))))))))⟩
      | 7 => ⟨impL ((mnL100 h n j pv cs ms len tk P).drop 9) (0 ≤ Int.fmod (0 : Int) (Int.ofNat ((P 10).s.v 0).length) ∧ Int.fmod (0 : Int) (Int.ofNat ((P 10).s.v 0).length) < 1000 ∧ ∃ u, ((P 10).s.v 0)[(Int.fmod (0 : Int) (Int.ofNat ((P 10).s.v 0).length)).toNat]? = some (Value.int (Int.ofNat 0) u)), impI (fun g => fr_get hf hm' (g (frFact h len ((P 10).s.v 0)) (.tail _ (.tail _ (.tail _ (.tail _ (.tail _ (.tail _ (.tail _ (.head _))))))))))⟩
      | 8 => ⟨impL ((mnL100 h n j pv cs ms len tk P).drop 5) (ms.length ≤ 1000), impI (fun _ => m1)⟩
      | _ => ⟨impL ((mnL100 h n j pv cs ms len tk P).drop 3) ((((cs ++ [Value.int (Int.ofNat ((P 10).s.v 0).length) ((P 11).s.n 0)]).length ≤ Nat.succ 0 ∧ (ms ++ [Value.int (Int.ofNat 0) (tOf ((P 10).s.v 0) (Int.fmod (0 : Int) (Int.ofNat ((P 10).s.v 0).length)).toNat)]).length ≤ Nat.succ 0) ∧ ltD (lt4 (tk3 ((P 20).s.n 1) ((P 20).s.n 2) ((P 20).s.n 3)) (tk3 (lt 1 0) (lt 1 1) (lt 1 2)) (tk3 (lt 2 0) (lt 2 1) (lt 2 2)) (tk3 (lt 3 0) (lt 3 1) (lt 3 2)))) ∧ ltT (lt4 (tk3 ((P 20).s.n 1) ((P 20).s.n 2) ((P 20).s.n 3)) (tk3 (lt 1 0) (lt 1 1) (lt 1 2)) (tk3 (lt 2 0) (lt 2 1) (lt 2 2)) (tk3 (lt 3 0) (lt 3 1) (lt 3 2))) (((P 23).tk))), impI (fun g => by
        simp only [mnL100, List.drop_succ_cons, List.drop_zero, List.forall_mem_cons] at g
        have z := ltT_next (lt' := (lt4 (tk3 ((P 20).s.n 1) ((P 20).s.n 2) ((P 20).s.n 3)) (tk3 (lt 1 0) (lt 1 1) (lt 1 2)) (tk3 (lt 2 0) (lt 2 1) (lt 2 2)) (tk3 (lt 3 0) (lt 3 1) (lt 3 2)))) (m := 0) (T0 := tk) (T1 := ((P 23).tk)) hD ht (by omega) (fun k hk hn i hi => by
          rcases k with _ | _ | _ | _ | k <;> rcases i with _ | _ | _ | i <;> first | rfl | exact absurd rfl hn | exact absurd hi (by omega) | exact absurd hk (by omega)) (tk3_ok (by omega) (by omega) (by omega))
        exact ⟨⟨⟨app_le hc.1, app_le hc.2⟩, z.1⟩, z.2⟩)⟩)
      (fun tk _ P g => ⟨mn_fact hm (g (frFact h len ((P 10).s.v 0)) (.tail _ (.tail _ (.tail _ (.tail _ (.tail _ (.tail _ (.tail _ (.tail _ (.tail _ (.tail _ (.tail _ (.tail _ (.tail _ (.tail _ (.tail _ (.tail _ (.head _)))))))))))))))))) (g (mnFact h pv (Nat.succ 0) n (nx len 0) (cs ++ [Value.int (Int.ofNat ((P 10).s.v 0).length) ((P 11).s.n 0)]) (ms ++ [Value.int (Int.ofNat 0) (tOf ((P 10).s.v 0) (Int.fmod (0 : Int) (Int.ofNat ((P 10).s.v 0).length)).toNat)]) (P 24).s) (.tail _ (.tail _ (.head _)))), trivial⟩) (fun tk ht P => ?_)
  exact Bool.casesOn b₁ (Bool.casesOn b₂ (by kernel_rfl!) (by kernel_rfl!)) (Bool.casesOn b₂ (by kernel_rfl!) (by kernel_rfl!))
noncomputable def mnH101 : Bool → List Hint
  | true => [.l 1, .c 0 [1], .l 1, .l 1, .t, .t, .i, .i, .l 0, .l 0, .i, .l 0, .l 0, .l 0, .l 0, .i, .l 0, .l 0, .l 0, .l 0, .l 0, .i, .a 1 [2, 1, 0, 6, 13, 13, 13], .l 8, .l 8, .l 1, .l 1, .l 1, .t, .t, .i, .i, .l 0, .l 0, .i, .l 0, .l 0, .l 0, .l 0, .i, .l 0, .l 0, .l 0, .l 0, .l 0, .i, .ah 2 [2, 1, 0, 14, 14, 14, 14, 14, 14] 0, .l 17, .l 17, .l 1, .l 1, .l 1, .l 17, .l 19, .l 19, .l 19, .l 19, .t, .t, .l 17, .ch 3 [0] 1, .ch 4 [19] 2, .l 18, .qh 0 [2, 0] 3, .l 19, .t, .t, .l 19, .ch 3 [20] 4, .c 5 [], .l 20, .l 20, .l 20, .l 20, .t, .t, .l 20, .ch 3 [3] 5, .ch 7 [] 6, .l 0, .l 0, .l 0, .ch 8 [0] 7, .l 20, .l 20, .l 20, .i, .l 20, .l 20, .i, .l 12, .l 12, .l 12, .i, .l 12, .l 12, .l 20, .l 20, .l 12, .l 12, .i, .l 12, .l 12, .l 12, .l 12, .t, .l 20, .l 20, .l 12, .l 12, .l 12, .i, .l 12, .l 12, .l 22, .t, .c 10 [], .l 6, .l 21, .l 7, .l 7, .i, .l 7, .l 7, .l 7, .l 7, .l 21, .l 22, .l 22, .l 22, .l 22, .l 21, .ch 4 [22] 8, .l 22, .l 14, .l 14, .i, .l 14, .l 0, .c 11 [23, 0, 14, 15, 15, 15, 15], .ah 12 [0, 20, 7, 8, 4, 0, 16, 7, 7, 7, 3, 7, 7, 0, 0, 0] 9]
  | false => [.l 1, .c 0 [1], .l 1, .l 1, .t, .t, .i, .i, .l 0, .l 0, .i, .l 0, .l 0, .l 0, .l 0, .i, .l 0, .l 0, .l 0, .l 0, .l 0, .i, .l 2, .l 2, .i, .l 2, .l 2, .a 1 [2, 1, 0, 6, 13, 13, 13], .l 8, .l 8, .l 1, .l 1, .l 1, .t, .t, .i, .i, .l 0, .l 0, .i, .l 0, .l 0, .l 0, .l 0, .i, .l 0, .l 0, .l 0, .l 0, .l 0, .i, .l 2, .l 2, .i, .l 2, .l 2, .ah 2 [2, 1, 0, 14, 14, 14, 14, 14, 14] 0, .l 17, .l 17, .l 1, .l 1, .l 1, .l 17, .l 19, .l 19, .l 19, .l 19, .t, .t, .l 17, .ch 3 [0] 1, .ch 4 [19] 2, .l 18, .qh 0 [2, 0] 3, .l 19, .t, .t, .l 19, .ch 3 [20] 4, .c 5 [], .l 20, .l 20, .l 20, .l 20, .t, .t, .l 20, .ch 3 [3] 5, .ch 7 [] 6, .l 0, .l 0, .l 0, .ch 8 [0] 7, .l 20, .l 20, .l 20, .i, .l 20, .l 20, .i, .l 12, .l 12, .l 12, .i, .l 12, .l 12, .l 20, .l 20, .l 12, .l 12, .i, .l 12, .l 12, .l 12, .l 12, .t, .l 20, .l 20, .l 12, .l 12, .l 12, .i, .l 12, .l 12, .l 22, .t, .c 10 [], .l 6, .l 21, .l 7, .l 7, .i, .l 7, .l 7, .l 7, .l 7, .l 21, .l 22, .l 22, .l 22, .l 22, .l 21, .ch 4 [22] 8, .l 22, .l 14, .l 14, .i, .l 14, .l 0, .c 11 [23, 0, 14, 15, 15, 15, 15], .ah 12 [0, 20, 7, 8, 4, 0, 16, 7, 7, 7, 3, 7, 7, 0, 0, 0] 9]
noncomputable def mnL101 (h n j : Nat) (pv cs ms : List Value) (len : Nat → Nat) (tk : Nat) (P : Nat → Ev) : List Prop := [(((P 22).tk) ≤ ((P 23).tk)), True, mnFact h pv (Nat.succ 0) n (nx len 1) (cs ++ [Value.int (Int.ofNat ((P 10).s.v 0).length) ((P 11).s.n 0)]) (ms ++ [Value.int (Int.ofNat 1) (tOf ((P 10).s.v 0) (Int.fmod (0 : Int) (Int.ofNat ((P 10).s.v 0).length)).toNat)]) (P 23).s, (((P 20).tk) ≤ ((P 22).tk)), (((P 19).tk) ≤ ((P 20).tk)), ((Nat.succ (Nat.succ (Nat.succ (Nat.succ ((P 18).tk))))) ≤ ((P 19).tk)), ((((Nat.succ (Nat.succ (Nat.succ (Nat.succ ((P 18).tk))))) < (Nat.succ ((P 19).s.n 1))) ∧ ((Nat.succ ((P 19).s.n 1)) ≤ ((P 19).tk))) ∧ ((((Nat.succ (Nat.succ (Nat.succ (Nat.succ ((P 18).tk))))) < (Nat.succ ((P 19).s.n 2))) ∧ ((Nat.succ ((P 19).s.n 2)) ≤ ((P 19).tk))) ∧ (((Nat.succ (Nat.succ (Nat.succ (Nat.succ ((P 18).tk))))) < (Nat.succ ((P 19).s.n 3))) ∧ ((Nat.succ ((P 19).s.n 3)) ≤ ((P 19).tk))))), (((P 17).tk) ≤ ((P 18).tk)), (((P 16).tk) ≤ ((P 17).tk)), ((Nat.succ (Nat.succ ((P 15).tk))) ≤ ((P 16).tk)), (((P 14).tk) ≤ ((P 15).tk)), (((P 12).tk) ≤ ((P 14).tk)), (((P 11).tk) ≤ ((P 12).tk)), ((Nat.succ ((P 10).tk)) ≤ ((P 11).tk)), ((Nat.succ (Nat.succ (Nat.succ (Nat.succ ((P 5).tk))))) ≤ ((P 10).tk)), frFact h len ((P 10).s.v 0), ((Nat.succ (Nat.succ (Nat.succ (Nat.succ ((P 0).tk))))) ≤ ((P 5).tk)), (tk ≤ ((P 0).tk))]
theorem mn101 {b₁ b₂ : Bool} (G : Good (mkV U b₁ b₂)) {h ht n j : Nat} {pv : List Value} {pe : Nat} {x : Mx} {text : Str} {t : Nat} {σ : Sup} (len : Nat → Nat) (hh : h ∈ [4, 6, 8]) (hl : ∀ k, k < 4 → 1 ≤ len k ∧ len k < 39) (hpv : AllInt pv) (hpl : pv.length ≤ 1000) (hf : 0 < (frees h len).length) (hlt : decide (Int.ofNat 0 < Int.ofNat pv.length) = false) (hm : mvOf h len (pkZ pv 0) = 1)
    (IH : ∀ x u ia ll el li lt cs ec ms em tw e, Meets (mkV U b₁ b₂) (S_mn (mkV U b₁ b₂) false (Nat.succ 0) n x u ia ll el li lt h ht pv pe cs ec ms em text t σ (nx len 1) tw e))
    (u : Ux) (ia ll : Addr) (el : Nat) (li : Nat → Addr) (lt : Nat → Nat → Nat) (cs : List Value) (ec : Nat) (ms : List Value) (em : Nat) (tw : Nat → Nat) (e : Nat) : Meets (mkV U b₁ b₂) (S_mn (mkV U b₁ b₂) true 0 (Nat.succ n) x u ia ll el li lt h ht pv pe cs ec ms em text t σ len tw e) := by
  refine Meets.hyp fun hy => ?_
  have hc : cs.length ≤ 0 ∧ ms.length ≤ 0 := hy.1
  have hD : ltD lt := hy.2
  have hj' : 0 < 27 := by decide
  have hj := hj'
  have c1 : cs.length ≤ 1000 := by have := hc.1; omega
  have m1 : ms.length ≤ 1000 := by have := hc.2; omega
  have hm' : mvOf h len (0 : Int) = 1 := by rw [← pk_no hlt]; exact hm
  have ll' : nx len 1 1 < 40 := by have := (hl 0 (by decide)).2; show len 0 < 40; omega
  obtain ⟨hr, h6, _⟩ := lt_fin h hh _ (List.mem_range.mpr ll')
  have C : ∀ P : Nat → Ev, CsOk (mkV U b₁ b₂) (mnC (mkV U b₁ b₂) 0 n 1 false h ht pv pe x text t σ lt len P) :=
    mnC_ok G hh hl hD hlt ll' hr h6 IH
  have D : DsOk (mkV U b₁ b₂) [D_eqF] := ⟨D_eqF_ok, trivial⟩
  refine meets_dep (dep := depC) G C mnC_dep D (sgMn (mkV U b₁ b₂) x ia) (fun A R L tk q => mn_conv q) 387 (mnH101 b₂) (fun tk P => (P 23).s) (fun tk P => (mnL101 h n j pv cs ms len tk P)) [0, 0, 0, 0, 0, 0, 0] (fun tk P => (P 23).tk)
      (fun tk ht P q => match q with
      | 0 => ⟨impL ((mnL101 h n j pv cs ms len tk P).drop 16) (([] : List Value).length ≤ 0), impI (fun _ => Nat.le_refl 0)⟩
      | 1 => ⟨impL ((mnL101 h n j pv cs ms len tk P).drop 14) (((P 10).s.v 0).length ≤ 1000), impI (fun g => fr_le (g (frFact h len ((P 10).s.v 0)) (.tail _ (.head _))))⟩
      | 2 => ⟨impL ((mnL101 h n j pv cs ms len tk P).drop 13) (cs.length ≤ 1000), impI (fun _ => c1)⟩
      | 3 => ⟨impL ((mnL101 h n j pv cs ms len tk P).drop 12) (((P 10).s.v 0).length ≠ ([] : List Value).length), impI (fun g => fr_ne hf (g (frFact h len ((P 10).s.v 0)) (.tail _ (.tail _ (.tail _ (.head _))))))⟩
      | 4 => ⟨impL ((mnL101 h n j pv cs ms len tk P).drop 12) (pv.length ≤ 1000), impI (fun _ => hpl)⟩
      | 5 => ⟨impL ((mnL101 h n j pv cs ms len tk P).drop 10) (((P 10).s.v 0).length ≤ 1000), impI (fun g => fr_le (g (frFact h len ((P 10).s.v 0)) (.tail _ (.tail _ (.tail _ (.tail _ (.tail _ (.head _))))))))⟩
      | 6 => ⟨impL ((mnL101 h n j pv cs ms len tk P).drop 9) (Int.ofNat ((P 10).s.v 0).length ≠ 0), impI (fun g => fr_nz hf (g (frFact h len ((P 10).s.v 0)) (.tail _ (.tail _ (.tail _ (.tail _ (.tail _ (.tail _ (.head _)))))))))⟩
      | 7 => ⟨impL ((mnL101 h n j pv cs ms len tk P).drop 8) (0 ≤ Int.fmod (0 : Int) (Int.ofNat ((P 10).s.v 0).length) ∧ Int.fmod (0 : Int) (Int.ofNat ((P 10).s.v 0).length) < 1000 ∧ ∃ u, ((P 10).s.v 0)[(Int.fmod (0 : Int) (Int.ofNat ((P 10).s.v 0).length)).toNat]? = some (Value.int (Int.ofNat 1) u)), impI (fun g => fr_get hf hm' (g (frFact h len ((P 10).s.v 0)) (.tail _ (.tail _ (.tail _ (.tail _ (.tail _ (.tail _ (.tail _ (.head _))))))))))⟩
      | 8 => ⟨impL ((mnL101 h n j pv cs ms len tk P).drop 5) (ms.length ≤ 1000), impI (fun _ => m1)⟩
      | _ => ⟨impL ((mnL101 h n j pv cs ms len tk P).drop 3) ((((cs ++ [Value.int (Int.ofNat ((P 10).s.v 0).length) ((P 11).s.n 0)]).length ≤ Nat.succ 0 ∧ (ms ++ [Value.int (Int.ofNat 1) (tOf ((P 10).s.v 0) (Int.fmod (0 : Int) (Int.ofNat ((P 10).s.v 0).length)).toNat)]).length ≤ Nat.succ 0) ∧ ltD (lt4 (tk3 (lt 0 0) (lt 0 1) (lt 0 2)) (tk3 ((P 19).s.n 1) ((P 19).s.n 2) ((P 19).s.n 3)) (tk3 (lt 2 0) (lt 2 1) (lt 2 2)) (tk3 (lt 3 0) (lt 3 1) (lt 3 2)))) ∧ ltT (lt4 (tk3 (lt 0 0) (lt 0 1) (lt 0 2)) (tk3 ((P 19).s.n 1) ((P 19).s.n 2) ((P 19).s.n 3)) (tk3 (lt 2 0) (lt 2 1) (lt 2 2)) (tk3 (lt 3 0) (lt 3 1) (lt 3 2))) (((P 22).tk))), impI (fun g => by
        simp only [mnL101, List.drop_succ_cons, List.drop_zero, List.forall_mem_cons] at g
        have z := ltT_next (lt' := (lt4 (tk3 (lt 0 0) (lt 0 1) (lt 0 2)) (tk3 ((P 19).s.n 1) ((P 19).s.n 2) ((P 19).s.n 3)) (tk3 (lt 2 0) (lt 2 1) (lt 2 2)) (tk3 (lt 3 0) (lt 3 1) (lt 3 2)))) (m := 1) (T0 := tk) (T1 := ((P 22).tk)) hD ht (by omega) (fun k hk hn i hi => by
          rcases k with _ | _ | _ | _ | k <;> rcases i with _ | _ | _ | i <;> first | rfl | exact absurd rfl hn | exact absurd hi (by omega) | exact absurd hk (by omega)) (tk3_ok (by omega) (by omega) (by omega))
        exact ⟨⟨⟨app_le hc.1, app_le hc.2⟩, z.1⟩, z.2⟩)⟩)
      (fun tk _ P g => ⟨mn_fact hm (g (frFact h len ((P 10).s.v 0)) (.tail _ (.tail _ (.tail _ (.tail _ (.tail _ (.tail _ (.tail _ (.tail _ (.tail _ (.tail _ (.tail _ (.tail _ (.tail _ (.tail _ (.tail _ (.head _))))))))))))))))) (g (mnFact h pv (Nat.succ 0) n (nx len 1) (cs ++ [Value.int (Int.ofNat ((P 10).s.v 0).length) ((P 11).s.n 0)]) (ms ++ [Value.int (Int.ofNat 1) (tOf ((P 10).s.v 0) (Int.fmod (0 : Int) (Int.ofNat ((P 10).s.v 0).length)).toNat)]) (P 23).s) (.tail _ (.tail _ (.head _)))), trivial⟩) (fun tk ht P => ?_)
  exact Bool.casesOn b₁ (Bool.casesOn b₂ (by kernel_rfl!) (by kernel_rfl!)) (Bool.casesOn b₂ (by kernel_rfl!) (by kernel_rfl!))
noncomputable def mnH102 : Bool → List Hint
  | true => [.l 1, .c 0 [1], .l 1, .l 1, .t, .t, .i, .i, .l 0, .l 0, .i, .l 0, .l 0, .l 0, .l 0, .i, .l 0, .l 0, .l 0, .l 0, .l 0, .i, .a 1 [2, 1, 0, 6, 13, 13, 13], .l 8, .l 8, .l 1, .l 1, .l 1, .t, .t, .i, .i, .l 0, .l 0, .i, .l 0, .l 0, .l 0, .l 0, .i, .l 0, .l 0, .l 0, .l 0, .l 0, .i, .ah 2 [2, 1, 0, 14, 14, 14, 14, 14, 14] 0, .l 17, .l 17, .l 1, .l 1, .l 1, .l 17, .l 19, .l 19, .l 19, .l 19, .t, .t, .l 17, .ch 3 [0] 1, .ch 4 [19] 2, .l 18, .qh 0 [2, 0] 3, .l 19, .t, .t, .l 19, .ch 3 [20] 4, .c 5 [], .l 20, .l 20, .l 20, .l 20, .t, .t, .l 20, .ch 3 [3] 5, .ch 7 [] 6, .l 0, .l 0, .l 0, .ch 8 [0] 7, .l 20, .l 20, .l 20, .i, .l 20, .l 20, .i, .l 12, .l 12, .l 12, .i, .l 12, .l 12, .l 20, .l 20, .l 12, .l 12, .i, .l 12, .l 12, .l 12, .l 12, .t, .l 20, .l 20, .l 12, .l 12, .l 12, .i, .l 12, .l 12, .l 22, .t, .c 10 [], .l 6, .l 21, .l 7, .l 7, .i, .l 7, .l 7, .l 7, .l 7, .l 21, .l 22, .l 22, .l 22, .l 22, .l 21, .ch 4 [22] 8, .l 22, .l 14, .l 14, .i, .l 14, .l 0, .c 11 [23, 0, 14, 15, 15, 15, 15], .ah 12 [0, 20, 7, 8, 4, 0, 16, 7, 7, 7, 7, 3, 7, 0, 0, 0] 9]
  | false => [.l 1, .c 0 [1], .l 1, .l 1, .t, .t, .i, .i, .l 0, .l 0, .i, .l 0, .l 0, .l 0, .l 0, .i, .l 0, .l 0, .l 0, .l 0, .l 0, .i, .l 2, .l 2, .i, .l 2, .l 2, .a 1 [2, 1, 0, 6, 13, 13, 13], .l 8, .l 8, .l 1, .l 1, .l 1, .t, .t, .i, .i, .l 0, .l 0, .i, .l 0, .l 0, .l 0, .l 0, .i, .l 0, .l 0, .l 0, .l 0, .l 0, .i, .l 2, .l 2, .i, .l 2, .l 2, .ah 2 [2, 1, 0, 14, 14, 14, 14, 14, 14] 0, .l 17, .l 17, .l 1, .l 1, .l 1, .l 17, .l 19, .l 19, .l 19, .l 19, .t, .t, .l 17, .ch 3 [0] 1, .ch 4 [19] 2, .l 18, .qh 0 [2, 0] 3, .l 19, .t, .t, .l 19, .ch 3 [20] 4, .c 5 [], .l 20, .l 20, .l 20, .l 20, .t, .t, .l 20, .ch 3 [3] 5, .ch 7 [] 6, .l 0, .l 0, .l 0, .ch 8 [0] 7, .l 20, .l 20, .l 20, .i, .l 20, .l 20, .i, .l 12, .l 12, .l 12, .i, .l 12, .l 12, .l 20, .l 20, .l 12, .l 12, .i, .l 12, .l 12, .l 12, .l 12, .t, .l 20, .l 20, .l 12, .l 12, .l 12, .i, .l 12, .l 12, .l 22, .t, .c 10 [], .l 6, .l 21, .l 7, .l 7, .i, .l 7, .l 7, .l 7, .l 7, .l 21, .l 22, .l 22, .l 22, .l 22, .l 21, .ch 4 [22] 8, .l 22, .l 14, .l 14, .i, .l 14, .l 0, .c 11 [23, 0, 14, 15, 15, 15, 15], .ah 12 [0, 20, 7, 8, 4, 0, 16, 7, 7, 7, 7, 3, 7, 0, 0, 0] 9]
noncomputable def mnL102 (h n j : Nat) (pv cs ms : List Value) (len : Nat → Nat) (tk : Nat) (P : Nat → Ev) : List Prop := [(((P 22).tk) ≤ ((P 23).tk)), True, mnFact h pv (Nat.succ 0) n (nx len 2) (cs ++ [Value.int (Int.ofNat ((P 10).s.v 0).length) ((P 11).s.n 0)]) (ms ++ [Value.int (Int.ofNat 2) (tOf ((P 10).s.v 0) (Int.fmod (0 : Int) (Int.ofNat ((P 10).s.v 0).length)).toNat)]) (P 23).s, (((P 20).tk) ≤ ((P 22).tk)), (((P 19).tk) ≤ ((P 20).tk)), ((Nat.succ (Nat.succ (Nat.succ (Nat.succ ((P 18).tk))))) ≤ ((P 19).tk)), ((((Nat.succ (Nat.succ (Nat.succ (Nat.succ ((P 18).tk))))) < (Nat.succ ((P 19).s.n 1))) ∧ ((Nat.succ ((P 19).s.n 1)) ≤ ((P 19).tk))) ∧ ((((Nat.succ (Nat.succ (Nat.succ (Nat.succ ((P 18).tk))))) < (Nat.succ ((P 19).s.n 2))) ∧ ((Nat.succ ((P 19).s.n 2)) ≤ ((P 19).tk))) ∧ (((Nat.succ (Nat.succ (Nat.succ (Nat.succ ((P 18).tk))))) < (Nat.succ ((P 19).s.n 3))) ∧ ((Nat.succ ((P 19).s.n 3)) ≤ ((P 19).tk))))), (((P 17).tk) ≤ ((P 18).tk)), (((P 16).tk) ≤ ((P 17).tk)), ((Nat.succ (Nat.succ ((P 15).tk))) ≤ ((P 16).tk)), (((P 14).tk) ≤ ((P 15).tk)), (((P 12).tk) ≤ ((P 14).tk)), (((P 11).tk) ≤ ((P 12).tk)), ((Nat.succ ((P 10).tk)) ≤ ((P 11).tk)), ((Nat.succ (Nat.succ (Nat.succ (Nat.succ ((P 5).tk))))) ≤ ((P 10).tk)), frFact h len ((P 10).s.v 0), ((Nat.succ (Nat.succ (Nat.succ (Nat.succ ((P 0).tk))))) ≤ ((P 5).tk)), (tk ≤ ((P 0).tk))]
theorem mn102 {b₁ b₂ : Bool} (G : Good (mkV U b₁ b₂)) {h ht n j : Nat} {pv : List Value} {pe : Nat} {x : Mx} {text : Str} {t : Nat} {σ : Sup} (len : Nat → Nat) (hh : h ∈ [4, 6, 8]) (hl : ∀ k, k < 4 → 1 ≤ len k ∧ len k < 39) (hpv : AllInt pv) (hpl : pv.length ≤ 1000) (hf : 0 < (frees h len).length) (hlt : decide (Int.ofNat 0 < Int.ofNat pv.length) = false) (hm : mvOf h len (pkZ pv 0) = 2)
    (IH : ∀ x u ia ll el li lt cs ec ms em tw e, Meets (mkV U b₁ b₂) (S_mn (mkV U b₁ b₂) false (Nat.succ 0) n x u ia ll el li lt h ht pv pe cs ec ms em text t σ (nx len 2) tw e))
    (u : Ux) (ia ll : Addr) (el : Nat) (li : Nat → Addr) (lt : Nat → Nat → Nat) (cs : List Value) (ec : Nat) (ms : List Value) (em : Nat) (tw : Nat → Nat) (e : Nat) : Meets (mkV U b₁ b₂) (S_mn (mkV U b₁ b₂) true 0 (Nat.succ n) x u ia ll el li lt h ht pv pe cs ec ms em text t σ len tw e) := by
  refine Meets.hyp fun hy => ?_
  have hc : cs.length ≤ 0 ∧ ms.length ≤ 0 := hy.1
  have hD : ltD lt := hy.2
  have hj' : 0 < 27 := by decide
  have hj := hj'
  have c1 : cs.length ≤ 1000 := by have := hc.1; omega
  have m1 : ms.length ≤ 1000 := by have := hc.2; omega
  have hm' : mvOf h len (0 : Int) = 2 := by rw [← pk_no hlt]; exact hm
  have ll' : nx len 2 2 < 40 := by have := (hl 1 (by decide)).2; show len 1 < 40; omega
  obtain ⟨hr, h6, _⟩ := lt_fin h hh _ (List.mem_range.mpr ll')
  have C : ∀ P : Nat → Ev, CsOk (mkV U b₁ b₂) (mnC (mkV U b₁ b₂) 0 n 2 false h ht pv pe x text t σ lt len P) :=
    mnC_ok G hh hl hD hlt ll' hr h6 IH
  have D : DsOk (mkV U b₁ b₂) [D_eqF] := ⟨D_eqF_ok, trivial⟩
  refine meets_dep (dep := depC) G C mnC_dep D (sgMn (mkV U b₁ b₂) x ia) (fun A R L tk q => mn_conv q) 387 (mnH102 b₂) (fun tk P => (P 23).s) (fun tk P => (mnL102 h n j pv cs ms len tk P)) [0, 0, 0, 0, 0, 0, 0] (fun tk P => (P 23).tk)
      (fun tk ht P q => match q with
      | 0 => ⟨impL ((mnL102 h n j pv cs ms len tk P).drop 16) (([] : List Value).length ≤ 0), impI (fun _ => Nat.le_refl 0)⟩
      | 1 => ⟨impL ((mnL102 h n j pv cs ms len tk P).drop 14) (((P 10).s.v 0).length ≤ 1000), impI (fun g => fr_le (g (frFact h len ((P 10).s.v 0)) (.tail _ (.head _))))⟩
      | 2 => ⟨impL ((mnL102 h n j pv cs ms len tk P).drop 13) (cs.length ≤ 1000), impI (fun _ => c1)⟩
      | 3 => ⟨impL ((mnL102 h n j pv cs ms len tk P).drop 12) (((P 10).s.v 0).length ≠ ([] : List Value).length), impI (fun g => fr_ne hf (g (frFact h len ((P 10).s.v 0)) (.tail _ (.tail _ (.tail _ (.head _))))))⟩
      | 4 => ⟨impL ((mnL102 h n j pv cs ms len tk P).drop 12) (pv.length ≤ 1000), impI (fun _ => hpl)⟩
      | 5 => ⟨impL ((mnL102 h n j pv cs ms len tk P).drop 10) (((P 10).s.v 0).length ≤ 1000), impI (fun g => fr_le (g (frFact h len ((P 10).s.v 0)) (.tail _ (.tail _ (.tail _ (.tail _ (.tail _ (.head _))))))))⟩
      | 6 => ⟨impL ((mnL102 h n j pv cs ms len tk P).drop 9) (Int.ofNat ((P 10).s.v 0).length ≠ 0), impI (fun g => fr_nz hf (g (frFact h len ((P 10).s.v 0)) (.tail _ (.tail _ (.tail _ (.tail _ (.tail _ (.tail _ (.head _)))))))))⟩
      | 7 => ⟨impL ((mnL102 h n j pv cs ms len tk P).drop 8) (0 ≤ Int.fmod (0 : Int) (Int.ofNat ((P 10).s.v 0).length) ∧ Int.fmod (0 : Int) (Int.ofNat ((P 10).s.v 0).length) < 1000 ∧ ∃ u, ((P 10).s.v 0)[(Int.fmod (0 : Int) (Int.ofNat ((P 10).s.v 0).length)).toNat]? = some (Value.int (Int.ofNat 2) u)), impI (fun g => fr_get hf hm' (g (frFact h len ((P 10).s.v 0)) (.tail _ (.tail _ (.tail _ (.tail _ (.tail _ (.tail _ (.tail _ (.head _))))))))))⟩
      | 8 => ⟨impL ((mnL102 h n j pv cs ms len tk P).drop 5) (ms.length ≤ 1000), impI (fun _ => m1)⟩
      | _ => ⟨impL ((mnL102 h n j pv cs ms len tk P).drop 3) ((((cs ++ [Value.int (Int.ofNat ((P 10).s.v 0).length) ((P 11).s.n 0)]).length ≤ Nat.succ 0 ∧ (ms ++ [Value.int (Int.ofNat 2) (tOf ((P 10).s.v 0) (Int.fmod (0 : Int) (Int.ofNat ((P 10).s.v 0).length)).toNat)]).length ≤ Nat.succ 0) ∧ ltD (lt4 (tk3 (lt 0 0) (lt 0 1) (lt 0 2)) (tk3 (lt 1 0) (lt 1 1) (lt 1 2)) (tk3 ((P 19).s.n 1) ((P 19).s.n 2) ((P 19).s.n 3)) (tk3 (lt 3 0) (lt 3 1) (lt 3 2)))) ∧ ltT (lt4 (tk3 (lt 0 0) (lt 0 1) (lt 0 2)) (tk3 (lt 1 0) (lt 1 1) (lt 1 2)) (tk3 ((P 19).s.n 1) ((P 19).s.n 2) ((P 19).s.n 3)) (tk3 (lt 3 0) (lt 3 1) (lt 3 2))) (((P 22).tk))), impI (fun g => by
        simp only [mnL102, List.drop_succ_cons, List.drop_zero, List.forall_mem_cons] at g
        have z := ltT_next (lt' := (lt4 (tk3 (lt 0 0) (lt 0 1) (lt 0 2)) (tk3 (lt 1 0) (lt 1 1) (lt 1 2)) (tk3 ((P 19).s.n 1) ((P 19).s.n 2) ((P 19).s.n 3)) (tk3 (lt 3 0) (lt 3 1) (lt 3 2)))) (m := 2) (T0 := tk) (T1 := ((P 22).tk)) hD ht (by omega) (fun k hk hn i hi => by
          rcases k with _ | _ | _ | _ | k <;> rcases i with _ | _ | _ | i <;> first | rfl | exact absurd rfl hn | exact absurd hi (by omega) | exact absurd hk (by omega)) (tk3_ok (by omega) (by omega) (by omega))
        exact ⟨⟨⟨app_le hc.1, app_le hc.2⟩, z.1⟩, z.2⟩)⟩)
      (fun tk _ P g => ⟨mn_fact hm (g (frFact h len ((P 10).s.v 0)) (.tail _ (.tail _ (.tail _ (.tail _ (.tail _ (.tail _ (.tail _ (.tail _ (.tail _ (.tail _ (.tail _ (.tail _ (.tail _ (.tail _ (.tail _ (.head _))))))))))))))))) (g (mnFact h pv (Nat.succ 0) n (nx len 2) (cs ++ [Value.int (Int.ofNat ((P 10).s.v 0).length) ((P 11).s.n 0)]) (ms ++ [Value.int (Int.ofNat 2) (tOf ((P 10).s.v 0) (Int.fmod (0 : Int) (Int.ofNat ((P 10).s.v 0).length)).toNat)]) (P 23).s) (.tail _ (.tail _ (.head _)))), trivial⟩) (fun tk ht P => ?_)
  exact Bool.casesOn b₁ (Bool.casesOn b₂ (by kernel_rfl!) (by kernel_rfl!)) (Bool.casesOn b₂ (by kernel_rfl!) (by kernel_rfl!))
noncomputable def mnH103 : Bool → List Hint
  | true => [.l 1, .c 0 [1], .l 1, .l 1, .t, .t, .i, .i, .l 0, .l 0, .i, .l 0, .l 0, .l 0, .l 0, .i, .l 0, .l 0, .l 0, .l 0, .l 0, .i, .a 1 [2, 1, 0, 6, 13, 13, 13], .l 8, .l 8, .l 1, .l 1, .l 1, .t, .t, .i, .i, .l 0, .l 0, .i, .l 0, .l 0, .l 0, .l 0, .i, .l 0, .l 0, .l 0, .l 0, .l 0, .i, .ah 2 [2, 1, 0, 14, 14, 14, 14, 14, 14] 0, .l 17, .l 17, .l 1, .l 1, .l 1, .l 17, .l 19, .l 19, .l 19, .l 19, .t, .t, .l 17, .ch 3 [0] 1, .ch 4 [19] 2, .l 18, .qh 0 [2, 0] 3, .l 19, .t, .t, .l 19, .ch 3 [20] 4, .c 5 [], .l 20, .l 20, .l 20, .l 20, .t, .t, .l 20, .ch 3 [3] 5, .ch 7 [] 6, .l 0, .l 0, .l 0, .ch 8 [0] 7, .l 20, .l 20, .l 20, .i, .l 20, .l 20, .i, .l 12, .l 12, .l 12, .i, .l 12, .l 12, .l 20, .l 20, .l 12, .l 12, .i, .l 12, .l 12, .l 12, .l 12, .t, .l 20, .l 20, .l 12, .l 12, .l 12, .i, .l 12, .l 12, .l 22, .t, .c 10 [], .l 6, .l 21, .l 7, .l 7, .i, .l 7, .l 7, .l 7, .l 7, .l 21, .l 22, .l 22, .l 22, .l 22, .l 21, .ch 4 [22] 8, .l 22, .l 14, .l 14, .i, .l 14, .l 0, .c 11 [23, 0, 14, 15, 15, 15, 15], .ah 12 [0, 20, 7, 8, 4, 0, 16, 7, 7, 7, 7, 7, 3, 0, 0, 0] 9]
  | false => [.l 1, .c 0 [1], .l 1, .l 1, .t, .t, .i, .i, .l 0, .l 0, .i, .l 0, .l 0, .l 0, .l 0, .i, .l 0, .l 0, .l 0, .l 0, .l 0, .i, .l 2, .l 2, .i, .l 2, .l 2, .a 1 [2, 1, 0, 6, 13, 13, 13], .l 8, .l 8, .l 1, .l 1, .l 1, .t, .t, .i, .i, .l 0, .l 0, .i, .l 0, .l 0, .l 0, .l 0, .i, .l 0, .l 0, .l 0, .l 0, .l 0, .i, .l 2, .l 2, .i, .l 2, .l 2, .ah 2 [2, 1, 0, 14, 14, 14, 14, 14, 14] 0, .l 17, .l 17, .l 1, .l 1, .l 1, .l 17, .l 19, .l 19, .l 19, .l 19, .t, .t, .l 17, .ch 3 [0] 1, .ch 4 [19] 2, .l 18, .qh 0 [2, 0] 3, .l 19, .t, .t, .l 19, .ch 3 [20] 4, .c 5 [], .l 20, .l 20, .l 20, .l 20, .t, .t, .l 20, .ch 3 [3] 5, .ch 7 [] 6, .l 0, .l 0, .l 0, .ch 8 [0] 7, .l 20, .l 20, .l 20, .i, .l 20, .l 20, .i, .l 12, .l 12, .l 12, .i, .l 12, .l 12, .l 20, .l 20, .l 12, .l 12, .i, .l 12, .l 12, .l 12, .l 12, .t, .l 20, .l 20, .l 12, .l 12, .l 12, .i, .l 12, .l 12, .l 22, .t, .c 10 [], .l 6, .l 21, .l 7, .l 7, .i, .l 7, .l 7, .l 7, .l 7, .l 21, .l 22, .l 22, .l 22, .l 22, .l 21, .ch 4 [22] 8, .l 22, .l 14, .l 14, .i, .l 14, .l 0, .c 11 [23, 0, 14, 15, 15, 15, 15], .ah 12 [0, 20, 7, 8, 4, 0, 16, 7, 7, 7, 7, 7, 3, 0, 0, 0] 9]
noncomputable def mnL103 (h n j : Nat) (pv cs ms : List Value) (len : Nat → Nat) (tk : Nat) (P : Nat → Ev) : List Prop := [(((P 22).tk) ≤ ((P 23).tk)), True, mnFact h pv (Nat.succ 0) n (nx len 3) (cs ++ [Value.int (Int.ofNat ((P 10).s.v 0).length) ((P 11).s.n 0)]) (ms ++ [Value.int (Int.ofNat 3) (tOf ((P 10).s.v 0) (Int.fmod (0 : Int) (Int.ofNat ((P 10).s.v 0).length)).toNat)]) (P 23).s, (((P 20).tk) ≤ ((P 22).tk)), (((P 19).tk) ≤ ((P 20).tk)), ((Nat.succ (Nat.succ (Nat.succ (Nat.succ ((P 18).tk))))) ≤ ((P 19).tk)), ((((Nat.succ (Nat.succ (Nat.succ (Nat.succ ((P 18).tk))))) < (Nat.succ ((P 19).s.n 1))) ∧ ((Nat.succ ((P 19).s.n 1)) ≤ ((P 19).tk))) ∧ ((((Nat.succ (Nat.succ (Nat.succ (Nat.succ ((P 18).tk))))) < (Nat.succ ((P 19).s.n 2))) ∧ ((Nat.succ ((P 19).s.n 2)) ≤ ((P 19).tk))) ∧ (((Nat.succ (Nat.succ (Nat.succ (Nat.succ ((P 18).tk))))) < (Nat.succ ((P 19).s.n 3))) ∧ ((Nat.succ ((P 19).s.n 3)) ≤ ((P 19).tk))))), (((P 17).tk) ≤ ((P 18).tk)), (((P 16).tk) ≤ ((P 17).tk)), ((Nat.succ (Nat.succ ((P 15).tk))) ≤ ((P 16).tk)), (((P 14).tk) ≤ ((P 15).tk)), (((P 12).tk) ≤ ((P 14).tk)), (((P 11).tk) ≤ ((P 12).tk)), ((Nat.succ ((P 10).tk)) ≤ ((P 11).tk)), ((Nat.succ (Nat.succ (Nat.succ (Nat.succ ((P 5).tk))))) ≤ ((P 10).tk)), frFact h len ((P 10).s.v 0), ((Nat.succ (Nat.succ (Nat.succ (Nat.succ ((P 0).tk))))) ≤ ((P 5).tk)), (tk ≤ ((P 0).tk))]
theorem mn103 {b₁ b₂ : Bool} (G : Good (mkV U b₁ b₂)) {h ht n j : Nat} {pv : List Value} {pe : Nat} {x : Mx} {text : Str} {t : Nat} {σ : Sup} (len : Nat → Nat) (hh : h ∈ [4, 6, 8]) (hl : ∀ k, k < 4 → 1 ≤ len k ∧ len k < 39) (hpv : AllInt pv) (hpl : pv.length ≤ 1000) (hf : 0 < (frees h len).length) (hlt : decide (Int.ofNat 0 < Int.ofNat pv.length) = false) (hm : mvOf h len (pkZ pv 0) = 3)
    (IH : ∀ x u ia ll el li lt cs ec ms em tw e, Meets (mkV U b₁ b₂) (S_mn (mkV U b₁ b₂) false (Nat.succ 0) n x u ia ll el li lt h ht pv pe cs ec ms em text t σ (nx len 3) tw e))
    (u : Ux) (ia ll : Addr) (el : Nat) (li : Nat → Addr) (lt : Nat → Nat → Nat) (cs : List Value) (ec : Nat) (ms : List Value) (em : Nat) (tw : Nat → Nat) (e : Nat) : Meets (mkV U b₁ b₂) (S_mn (mkV U b₁ b₂) true 0 (Nat.succ n) x u ia ll el li lt h ht pv pe cs ec ms em text t σ len tw e) := by
  refine Meets.hyp fun hy => ?_
  have hc : cs.length ≤ 0 ∧ ms.length ≤ 0 := hy.1
  have hD : ltD lt := hy.2
  have hj' : 0 < 27 := by decide
  have hj := hj'
  have c1 : cs.length ≤ 1000 := by have := hc.1; omega
  have m1 : ms.length ≤ 1000 := by have := hc.2; omega
  have hm' : mvOf h len (0 : Int) = 3 := by rw [← pk_no hlt]; exact hm
  have ll' : nx len 3 3 < 40 := by have := (hl 2 (by decide)).2; show len 2 < 40; omega
  obtain ⟨hr, h6, _⟩ := lt_fin h hh _ (List.mem_range.mpr ll')
  have C : ∀ P : Nat → Ev, CsOk (mkV U b₁ b₂) (mnC (mkV U b₁ b₂) 0 n 3 false h ht pv pe x text t σ lt len P) :=
    mnC_ok G hh hl hD hlt ll' hr h6 IH
  have D : DsOk (mkV U b₁ b₂) [D_eqF] := ⟨D_eqF_ok, trivial⟩
  refine meets_dep (dep := depC) G C mnC_dep D (sgMn (mkV U b₁ b₂) x ia) (fun A R L tk q => mn_conv q) 387 (mnH103 b₂) (fun tk P => (P 23).s) (fun tk P => (mnL103 h n j pv cs ms len tk P)) [0, 0, 0, 0, 0, 0, 0] (fun tk P => (P 23).tk)
      (fun tk ht P q => match q with
      | 0 => ⟨impL ((mnL103 h n j pv cs ms len tk P).drop 16) (([] : List Value).length ≤ 0), impI (fun _ => Nat.le_refl 0)⟩
      | 1 => ⟨impL ((mnL103 h n j pv cs ms len tk P).drop 14) (((P 10).s.v 0).length ≤ 1000), impI (fun g => fr_le (g (frFact h len ((P 10).s.v 0)) (.tail _ (.head _))))⟩
      | 2 => ⟨impL ((mnL103 h n j pv cs ms len tk P).drop 13) (cs.length ≤ 1000), impI (fun _ => c1)⟩
      | 3 => ⟨impL ((mnL103 h n j pv cs ms len tk P).drop 12) (((P 10).s.v 0).length ≠ ([] : List Value).length), impI (fun g => fr_ne hf (g (frFact h len ((P 10).s.v 0)) (.tail _ (.tail _ (.tail _ (.head _))))))⟩
      | 4 => ⟨impL ((mnL103 h n j pv cs ms len tk P).drop 12) (pv.length ≤ 1000), impI (fun _ => hpl)⟩
      | 5 => ⟨impL ((mnL103 h n j pv cs ms len tk P).drop 10) (((P 10).s.v 0).length ≤ 1000), impI (fun g => fr_le (g (frFact h len ((P 10).s.v 0)) (.tail _ (.tail _ (.tail _ (.tail _ (.tail _ (.head _))))))))⟩
      | 6 => ⟨impL ((mnL103 h n j pv cs ms len tk P).drop 9) (Int.ofNat ((P 10).s.v 0).length ≠ 0), impI (fun g => fr_nz hf (g (frFact h len ((P 10).s.v 0)) (.tail _ (.tail _ (.tail _ (.tail _ (.tail _ (.tail _ (.head _)))))))))⟩
      | 7 => ⟨impL ((mnL103 h n j pv cs ms len tk P).drop 8) (0 ≤ Int.fmod (0 : Int) (Int.ofNat ((P 10).s.v 0).length) ∧ Int.fmod (0 : Int) (Int.ofNat ((P 10).s.v 0).length) < 1000 ∧ ∃ u, ((P 10).s.v 0)[(Int.fmod (0 : Int) (Int.ofNat ((P 10).s.v 0).length)).toNat]? = some (Value.int (Int.ofNat 3) u)), impI (fun g => fr_get hf hm' (g (frFact h len ((P 10).s.v 0)) (.tail _ (.tail _ (.tail _ (.tail _ (.tail _ (.tail _ (.tail _ (.head _))))))))))⟩
      | 8 => ⟨impL ((mnL103 h n j pv cs ms len tk P).drop 5) (ms.length ≤ 1000), impI (fun _ => m1)⟩
      | _ => ⟨impL ((mnL103 h n j pv cs ms len tk P).drop 3) ((((cs ++ [Value.int (Int.ofNat ((P 10).s.v 0).length) ((P 11).s.n 0)]).length ≤ Nat.succ 0 ∧ (ms ++ [Value.int (Int.ofNat 3) (tOf ((P 10).s.v 0) (Int.fmod (0 : Int) (Int.ofNat ((P 10).s.v 0).length)).toNat)]).length ≤ Nat.succ 0) ∧ ltD (lt4 (tk3 (lt 0 0) (lt 0 1) (lt 0 2)) (tk3 (lt 1 0) (lt 1 1) (lt 1 2)) (tk3 (lt 2 0) (lt 2 1) (lt 2 2)) (tk3 ((P 19).s.n 1) ((P 19).s.n 2) ((P 19).s.n 3)))) ∧ ltT (lt4 (tk3 (lt 0 0) (lt 0 1) (lt 0 2)) (tk3 (lt 1 0) (lt 1 1) (lt 1 2)) (tk3 (lt 2 0) (lt 2 1) (lt 2 2)) (tk3 ((P 19).s.n 1) ((P 19).s.n 2) ((P 19).s.n 3))) (((P 22).tk))), impI (fun g => by
        simp only [mnL103, List.drop_succ_cons, List.drop_zero, List.forall_mem_cons] at g
        have z := ltT_next (lt' := (lt4 (tk3 (lt 0 0) (lt 0 1) (lt 0 2)) (tk3 (lt 1 0) (lt 1 1) (lt 1 2)) (tk3 (lt 2 0) (lt 2 1) (lt 2 2)) (tk3 ((P 19).s.n 1) ((P 19).s.n 2) ((P 19).s.n 3)))) (m := 3) (T0 := tk) (T1 := ((P 22).tk)) hD ht (by omega) (fun k hk hn i hi => by
          rcases k with _ | _ | _ | _ | k <;> rcases i with _ | _ | _ | i <;> first | rfl | exact absurd rfl hn | exact absurd hi (by omega) | exact absurd hk (by omega)) (tk3_ok (by omega) (by omega) (by omega))
        exact ⟨⟨⟨app_le hc.1, app_le hc.2⟩, z.1⟩, z.2⟩)⟩)
      (fun tk _ P g => ⟨mn_fact hm (g (frFact h len ((P 10).s.v 0)) (.tail _ (.tail _ (.tail _ (.tail _ (.tail _ (.tail _ (.tail _ (.tail _ (.tail _ (.tail _ (.tail _ (.tail _ (.tail _ (.tail _ (.tail _ (.head _))))))))))))))))) (g (mnFact h pv (Nat.succ 0) n (nx len 3) (cs ++ [Value.int (Int.ofNat ((P 10).s.v 0).length) ((P 11).s.n 0)]) (ms ++ [Value.int (Int.ofNat 3) (tOf ((P 10).s.v 0) (Int.fmod (0 : Int) (Int.ofNat ((P 10).s.v 0).length)).toNat)]) (P 23).s) (.tail _ (.tail _ (.head _)))), trivial⟩) (fun tk ht P => ?_)
  exact Bool.casesOn b₁ (Bool.casesOn b₂ (by kernel_rfl!) (by kernel_rfl!)) (Bool.casesOn b₂ (by kernel_rfl!) (by kernel_rfl!))
noncomputable def mnH010 : Bool → List Hint
  | true => [.l 1, .c 0 [1], .l 1, .l 1, .t, .t, .i, .i, .l 0, .l 0, .i, .l 0, .l 0, .l 0, .l 0, .i, .l 0, .l 0, .l 0, .l 0, .l 0, .i, .a 1 [2, 1, 0, 6, 13, 13, 13], .l 8, .l 8, .l 1, .l 1, .l 1, .t, .t, .i, .i, .l 0, .l 0, .i, .l 0, .l 0, .l 0, .l 0, .i, .l 0, .l 0, .l 0, .l 0, .l 0, .i, .ah 2 [2, 1, 0, 14, 14, 14, 14, 14, 14] 0, .l 17, .l 17, .l 1, .l 1, .l 1, .l 17, .l 19, .l 19, .l 19, .l 19, .t, .t, .l 17, .ch 3 [0] 1, .ch 4 [19] 2, .l 18, .qh 0 [2, 0] 3, .l 19, .t, .t, .l 19, .ch 3 [20] 4, .c 5 [], .l 20, .l 20, .l 0, .l 0, .l 0, .ch 6 [0] 5, .l 20, .l 20, .l 20, .l 20, .t, .t, .l 20, .ch 3 [3] 6, .ch 7 [] 7, .l 0, .l 0, .l 0, .ch 8 [0] 8, .l 20, .l 20, .l 20, .i, .t, .l 20, .l 12, .l 12, .l 12, .i, .l 12, .l 12, .t, .c 9 [], .l 20, .l 20, .l 12, .l 12, .i, .l 12, .l 12, .l 12, .l 12, .t, .l 20, .l 20, .l 12, .l 12, .l 12, .i, .l 12, .l 12, .l 22, .t, .c 10 [], .l 6, .l 21, .l 7, .l 7, .i, .l 7, .l 7, .l 7, .l 7, .l 21, .l 22, .l 22, .l 22, .l 22, .l 21, .ch 4 [22] 9, .l 22, .l 14, .l 14, .i, .l 14, .l 0, .c 11 [23, 0, 14, 15, 15, 15, 15], .ah 12 [0, 20, 7, 8, 4, 0, 16, 7, 7, 3, 7, 7, 7, 0, 0, 0] 10]
  | false => [.l 1, .c 0 [1], .l 1, .l 1, .t, .t, .i, .i, .l 0, .l 0, .i, .l 0, .l 0, .l 0, .l 0, .i, .l 0, .l 0, .l 0, .l 0, .l 0, .i, .l 2, .l 2, .i, .l 2, .l 2, .a 1 [2, 1, 0, 6, 13, 13, 13], .l 8, .l 8, .l 1, .l 1, .l 1, .t, .t, .i, .i, .l 0, .l 0, .i, .l 0, .l 0, .l 0, .l 0, .i, .l 0, .l 0, .l 0, .l 0, .l 0, .i, .l 2, .l 2, .i, .l 2, .l 2, .ah 2 [2, 1, 0, 14, 14, 14, 14, 14, 14] 0, .l 17, .l 17, .l 1, .l 1, .l 1, .l 17, .l 19, .l 19, .l 19, .l 19, .t, .t, .l 17, .ch 3 [0] 1, .ch 4 [19] 2, .l 18, .qh 0 [2, 0] 3, .l 19, .t, .t, .l 19, .ch 3 [20] 4, .c 5 [], .l 20, .l 20, .l 0, .l 0, .l 0, .ch 6 [0] 5, .l 20, .l 20, .l 20, .l 20, .t, .t, .l 20, .ch 3 [3] 6, .ch 7 [] 7, .l 0, .l 0, .l 0, .ch 8 [0] 8, .l 20, .l 20, .l 20, .i, .t, .l 20, .l 12, .l 12, .l 12, .i, .l 12, .l 12, .t, .c 9 [], .l 20, .l 20, .l 12, .l 12, .i, .l 12, .l 12, .l 12, .l 12, .t, .l 20, .l 20, .l 12, .l 12, .l 12, .i, .l 12, .l 12, .l 22, .t, .c 10 [], .l 6, .l 21, .l 7, .l 7, .i, .l 7, .l 7, .l 7, .l 7, .l 21, .l 22, .l 22, .l 22, .l 22, .l 21, .ch 4 [22] 9, .l 22, .l 14, .l 14, .i, .l 14, .l 0, .c 11 [23, 0, 14, 15, 15, 15, 15], .ah 12 [0, 20, 7, 8, 4, 0, 16, 7, 7, 3, 7, 7, 7, 0, 0, 0] 10]
noncomputable def mnL010 (h n j : Nat) (pv cs ms : List Value) (len : Nat → Nat) (tk : Nat) (P : Nat → Ev) : List Prop := [(((P 24).tk) ≤ ((P 25).tk)), True, mnFact h pv (Nat.succ j) n (nx len 0) (cs ++ [Value.int (Int.ofNat ((P 10).s.v 0).length) ((P 11).s.n 0)]) (ms ++ [Value.int (Int.ofNat 0) (tOf ((P 10).s.v 0) (Int.fmod (zOf pv (Int.ofNat j).toNat) (Int.ofNat ((P 10).s.v 0).length)).toNat)]) (P 25).s, (((P 22).tk) ≤ ((P 24).tk)), (((P 21).tk) ≤ ((P 22).tk)), (((P 20).tk) ≤ ((P 21).tk)), (((((P 20).tk) < (Nat.succ ((P 21).s.n 1))) ∧ ((Nat.succ ((P 21).s.n 1)) ≤ ((P 21).tk))) ∧ (((((P 20).tk) < (Nat.succ ((P 21).s.n 2))) ∧ ((Nat.succ ((P 21).s.n 2)) ≤ ((P 21).tk))) ∧ ((((P 20).tk) < (Nat.succ ((P 21).s.n 3))) ∧ ((Nat.succ ((P 21).s.n 3)) ≤ ((P 21).tk))))), ((Nat.succ (Nat.succ (Nat.succ ((P 19).tk)))) ≤ ((P 20).tk)), (((P 18).tk) ≤ ((P 19).tk)), (((P 17).tk) ≤ ((P 18).tk)), ((Nat.succ ((P 16).tk)) ≤ ((P 17).tk)), (((P 15).tk) ≤ ((P 16).tk)), (((P 14).tk) ≤ ((P 15).tk)), (((P 12).tk) ≤ ((P 14).tk)), (((P 11).tk) ≤ ((P 12).tk)), ((Nat.succ ((P 10).tk)) ≤ ((P 11).tk)), ((Nat.succ (Nat.succ (Nat.succ (Nat.succ ((P 5).tk))))) ≤ ((P 10).tk)), frFact h len ((P 10).s.v 0), ((Nat.succ (Nat.succ (Nat.succ (Nat.succ ((P 0).tk))))) ≤ ((P 5).tk)), (tk ≤ ((P 0).tk))]
theorem mn010 {b₁ b₂ : Bool} (G : Good (mkV U b₁ b₂)) {h ht n j : Nat} {pv : List Value} {pe : Nat} {x : Mx} {text : Str} {t : Nat} {σ : Sup} (hj : j < 27) (len : Nat → Nat) (hh : h ∈ [4, 6, 8]) (hl : ∀ k, k < 4 → 1 ≤ len k ∧ len k < 39) (hpv : AllInt pv) (hpl : pv.length ≤ 1000) (hf : 0 < (frees h len).length) (hlt : decide (Int.ofNat j < Int.ofNat pv.length) = true) (hm : mvOf h len (pkZ pv j) = 0)
    (IH : ∀ x u ia ll el li lt cs ec ms em tw e, Meets (mkV U b₁ b₂) (S_mn (mkV U b₁ b₂) false (Nat.succ j) n x u ia ll el li lt h ht pv pe cs ec ms em text t σ (nx len 0) tw e))
    (u : Ux) (ia ll : Addr) (el : Nat) (li : Nat → Addr) (lt : Nat → Nat → Nat) (cs : List Value) (ec : Nat) (ms : List Value) (em : Nat) (tw : Nat → Nat) (e : Nat) : Meets (mkV U b₁ b₂) (S_mn (mkV U b₁ b₂) false j (Nat.succ n) x u ia ll el li lt h ht pv pe cs ec ms em text t σ len tw e) := by
  refine Meets.hyp fun hy => ?_
  have hc : cs.length ≤ j ∧ ms.length ≤ j := hy.1
  have hD : ltD lt := hy.2
  have hj' : j < 27 := hj
  skip
  have c1 : cs.length ≤ 1000 := by have := hc.1; omega
  have m1 : ms.length ≤ 1000 := by have := hc.2; omega
  have hm' : mvOf h len (zOf pv (Int.ofNat j).toNat) = 0 := by rw [← pk_yes hlt]; exact hm
  have ll' : nx len 0 0 < 40 := by have := (hl 0 (by decide)).2; show Nat.succ (len 0) < 40; omega
  obtain ⟨hr, h6, _⟩ := lt_fin h hh _ (List.mem_range.mpr ll')
  have C : ∀ P : Nat → Ev, CsOk (mkV U b₁ b₂) (mnC (mkV U b₁ b₂) j n 0 true h ht pv pe x text t σ lt len P) :=
    mnC_ok G hh hl hD hlt ll' hr h6 IH
  have D : DsOk (mkV U b₁ b₂) [D_eqF] := ⟨D_eqF_ok, trivial⟩
  refine meets_dep (dep := depC) G C mnC_dep D (sgMn (mkV U b₁ b₂) x ia) (fun A R L tk q => mn_conv q) 398 (mnH010 b₂) (fun tk P => (P 25).s) (fun tk P => (mnL010 h n j pv cs ms len tk P)) [0, 0, 0, 0, 0, 0, 0] (fun tk P => (P 25).tk)
      (fun tk ht P q => match q with
      | 0 => ⟨impL ((mnL010 h n j pv cs ms len tk P).drop 18) (([] : List Value).length ≤ 0), impI (fun _ => Nat.le_refl 0)⟩
      | 1 => ⟨impL ((mnL010 h n j pv cs ms len tk P).drop 16) (((P 10).s.v 0).length ≤ 1000), impI (fun g => fr_le (g (frFact h len ((P 10).s.v 0)) (.tail _ (.head _))))⟩
      | 2 => ⟨impL ((mnL010 h n j pv cs ms len tk P).drop 15) (cs.length ≤ 1000), impI (fun _ => c1)⟩
      | 3 => ⟨impL ((mnL010 h n j pv cs ms len tk P).drop 14) (((P 10).s.v 0).length ≠ ([] : List Value).length), impI (fun g => fr_ne hf (g (frFact h len ((P 10).s.v 0)) (.tail _ (.tail _ (.tail _ (.head _))))))⟩
      | 4 => ⟨impL ((mnL010 h n j pv cs ms len tk P).drop 14) (pv.length ≤ 1000), impI (fun _ => hpl)⟩
      | 5 => ⟨impL ((mnL010 h n j pv cs ms len tk P).drop 12) (0 ≤ Int.ofNat j ∧ Int.ofNat j < 1000 ∧ ∃ z u, pv[(Int.ofNat j).toNat]? = some (Value.int z u)), impI (fun _ => pv_get hpv hlt hj)⟩
      | 6 => ⟨impL ((mnL010 h n j pv cs ms len tk P).drop 11) (((P 10).s.v 0).length ≤ 1000), impI (fun g => fr_le (g (frFact h len ((P 10).s.v 0)) (.tail _ (.tail _ (.tail _ (.tail _ (.tail _ (.tail _ (.head _)))))))))⟩
      | 7 => ⟨impL ((mnL010 h n j pv cs ms len tk P).drop 10) (Int.ofNat ((P 10).s.v 0).length ≠ 0), impI (fun g => fr_nz hf (g (frFact h len ((P 10).s.v 0)) (.tail _ (.tail _ (.tail _ (.tail _ (.tail _ (.tail _ (.tail _ (.head _))))))))))⟩
      | 8 => ⟨impL ((mnL010 h n j pv cs ms len tk P).drop 9) (0 ≤ Int.fmod (zOf pv (Int.ofNat j).toNat) (Int.ofNat ((P 10).s.v 0).length) ∧ Int.fmod (zOf pv (Int.ofNat j).toNat) (Int.ofNat ((P 10).s.v 0).length) < 1000 ∧ ∃ u, ((P 10).s.v 0)[(Int.fmod (zOf pv (Int.ofNat j).toNat) (Int.ofNat ((P 10).s.v 0).length)).toNat]? = some (Value.int (Int.ofNat 0) u)), impI (fun g => fr_get hf hm' (g (frFact h len ((P 10).s.v 0)) (.tail _ (.tail _ (.tail _ (.tail _ (.tail _ (.tail _ (.tail _ (.tail _ (.head _)))))))))))⟩
      | 9 => ⟨impL ((mnL010 h n j pv cs ms len tk P).drop 5) (ms.length ≤ 1000), impI (fun _ => m1)⟩
      | _ => ⟨impL ((mnL010 h n j pv cs ms len tk P).drop 3) ((((cs ++ [Value.int (Int.ofNat ((P 10).s.v 0).length) ((P 11).s.n 0)]).length ≤ Nat.succ j ∧ (ms ++ [Value.int (Int.ofNat 0) (tOf ((P 10).s.v 0) (Int.fmod (zOf pv (Int.ofNat j).toNat) (Int.ofNat ((P 10).s.v 0).length)).toNat)]).length ≤ Nat.succ j) ∧ ltD (lt4 (tk3 ((P 21).s.n 1) ((P 21).s.n 2) ((P 21).s.n 3)) (tk3 (lt 1 0) (lt 1 1) (lt 1 2)) (tk3 (lt 2 0) (lt 2 1) (lt 2 2)) (tk3 (lt 3 0) (lt 3 1) (lt 3 2)))) ∧ ltT (lt4 (tk3 ((P 21).s.n 1) ((P 21).s.n 2) ((P 21).s.n 3)) (tk3 (lt 1 0) (lt 1 1) (lt 1 2)) (tk3 (lt 2 0) (lt 2 1) (lt 2 2)) (tk3 (lt 3 0) (lt 3 1) (lt 3 2))) (((P 24).tk))), impI (fun g => by
        simp only [mnL010, List.drop_succ_cons, List.drop_zero, List.forall_mem_cons] at g
        have z := ltT_next (lt' := (lt4 (tk3 ((P 21).s.n 1) ((P 21).s.n 2) ((P 21).s.n 3)) (tk3 (lt 1 0) (lt 1 1) (lt 1 2)) (tk3 (lt 2 0) (lt 2 1) (lt 2 2)) (tk3 (lt 3 0) (lt 3 1) (lt 3 2)))) (m := 0) (T0 := tk) (T1 := ((P 24).tk)) hD ht (by omega) (fun k hk hn i hi => by
          rcases k with _ | _ | _ | _ | k <;> rcases i with _ | _ | _ | i <;> first | rfl | exact absurd rfl hn | exact absurd hi (by omega) | exact absurd hk (by omega)) (tk3_ok (by omega) (by omega) (by omega))
        exact ⟨⟨⟨app_le hc.1, app_le hc.2⟩, z.1⟩, z.2⟩)⟩)
      (fun tk _ P g => ⟨mn_fact hm (g (frFact h len ((P 10).s.v 0)) (.tail _ (.tail _ (.tail _ (.tail _ (.tail _ (.tail _ (.tail _ (.tail _ (.tail _ (.tail _ (.tail _ (.tail _ (.tail _ (.tail _ (.tail _ (.tail _ (.tail _ (.head _))))))))))))))))))) (g (mnFact h pv (Nat.succ j) n (nx len 0) (cs ++ [Value.int (Int.ofNat ((P 10).s.v 0).length) ((P 11).s.n 0)]) (ms ++ [Value.int (Int.ofNat 0) (tOf ((P 10).s.v 0) (Int.fmod (zOf pv (Int.ofNat j).toNat) (Int.ofNat ((P 10).s.v 0).length)).toNat)]) (P 25).s) (.tail _ (.tail _ (.head _)))), trivial⟩) (fun tk ht P => ?_)
  exact Bool.casesOn b₁ (Bool.casesOn b₂ (by kernel_rfl!) (by kernel_rfl!)) (Bool.casesOn b₂ (by kernel_rfl!) (by kernel_rfl!))
noncomputable def mnH011 : Bool → List Hint
  | true => [.l 1, .c 0 [1], .l 1, .l 1, .t, .t, .i, .i, .l 0, .l 0, .i, .l 0, .l 0, .l 0, .l 0, .i, .l 0, .l 0, .l 0, .l 0, .l 0, .i, .a 1 [2, 1, 0, 6, 13, 13, 13], .l 8, .l 8, .l 1, .l 1, .l 1, .t, .t, .i, .i, .l 0, .l 0, .i, .l 0, .l 0, .l 0, .l 0, .i, .l 0, .l 0, .l 0, .l 0, .l 0, .i, .ah 2 [2, 1, 0, 14, 14, 14, 14, 14, 14] 0, .l 17, .l 17, .l 1, .l 1, .l 1, .l 17, .l 19, .l 19, .l 19, .l 19, .t, .t, .l 17, .ch 3 [0] 1, .ch 4 [19] 2, .l 18, .qh 0 [2, 0] 3, .l 19, .t, .t, .l 19, .ch 3 [20] 4, .c 5 [], .l 20, .l 20, .l 0, .l 0, .l 0, .ch 6 [0] 5, .l 20, .l 20, .l 20, .l 20, .t, .t, .l 20, .ch 3 [3] 6, .ch 7 [] 7, .l 0, .l 0, .l 0, .ch 8 [0] 8, .l 20, .l 20, .l 20, .i, .l 20, .l 20, .i, .l 12, .l 12, .l 12, .i, .l 12, .l 12, .l 20, .l 20, .l 12, .l 12, .i, .l 12, .l 12, .l 12, .l 12, .t, .l 20, .l 20, .l 12, .l 12, .l 12, .i, .l 12, .l 12, .l 22, .t, .c 10 [], .l 6, .l 21, .l 7, .l 7, .i, .l 7, .l 7, .l 7, .l 7, .l 21, .l 22, .l 22, .l 22, .l 22, .l 21, .ch 4 [22] 9, .l 22, .l 14, .l 14, .i, .l 14, .l 0, .c 11 [23, 0, 14, 15, 15, 15, 15], .ah 12 [0, 20, 7, 8, 4, 0, 16, 7, 7, 7, 3, 7, 7, 0, 0, 0] 10]
  | false => [.l 1, .c 0 [1], .l 1, .l 1, .t, .t, .i, .i, .l 0, .l 0, .i, .l 0, .l 0, .l 0, .l 0, .i, .l 0, .l 0, .l 0, .l 0, .l 0, .i, .l 2, .l 2, .i, .l 2, .l 2, .a 1 [2, 1, 0, 6, 13, 13, 13], .l 8, .l 8, .l 1, .l 1, .l 1, .t, .t, .i, .i, .l 0, .l 0, .i, .l 0, .l 0, .l 0, .l 0, .i, .l 0, .l 0, .l 0, .l 0, .l 0, .i, .l 2, .l 2, .i, .l 2, .l 2, .ah 2 [2, 1, 0, 14, 14, 14, 14, 14, 14] 0, .l 17, .l 17, .l 1, .l 1, .l 1, .l 17, .l 19, .l 19, .l 19, .l 19, .t, .t, .l 17, .ch 3 [0] 1, .ch 4 [19] 2, .l 18, .qh 0 [2, 0] 3, .l 19, .t, .t, .l 19, .ch 3 [20] 4, .c 5 [], .l 20, .l 20, .l 0, .l 0, .l 0, .ch 6 [0] 5, .l 20, .l 20, .l 20, .l 20, .t, .t, .l 20, .ch 3 [3] 6, .ch 7 [] 7, .l 0, .l 0, .l 0, .ch 8 [0] 8, .l 20, .l 20, .l 20, .i, .l 20, .l 20, .i, .l 12, .l 12, .l 12, .i, .l 12, .l 12, .l 20, .l 20, .l 12, .l 12, .i, .l 12, .l 12, .l 12, .l 12, .t, .l 20, .l 20, .l 12, .l 12, .l 12, .i, .l 12, .l 12, .l 22, .t, .c 10 [], .l 6, .l 21, .l 7, .l 7, .i, .l 7, .l 7, .l 7, .l 7, .l 21, .l 22, .l 22, .l 22, .l 22, .l 21, .ch 4 [22] 9, .l 22, .l 14, .l 14, .i, .l 14, .l 0, .c 11 [23, 0, 14, 15, 15, 15, 15], .ah 12 [0, 20, 7, 8, 4, 0, 16, 7, 7, 7, 3, 7, 7, 0, 0, 0] 10]
noncomputable def mnL011 (h n j : Nat) (pv cs ms : List Value) (len : Nat → Nat) (tk : Nat) (P : Nat → Ev) : List Prop := [(((P 23).tk) ≤ ((P 24).tk)), True, mnFact h pv (Nat.succ j) n (nx len 1) (cs ++ [Value.int (Int.ofNat ((P 10).s.v 0).length) ((P 11).s.n 0)]) (ms ++ [Value.int (Int.ofNat 1) (tOf ((P 10).s.v 0) (Int.fmod (zOf pv (Int.ofNat j).toNat) (Int.ofNat ((P 10).s.v 0).length)).toNat)]) (P 24).s, (((P 21).tk) ≤ ((P 23).tk)), (((P 20).tk) ≤ ((P 21).tk)), ((Nat.succ (Nat.succ (Nat.succ (Nat.succ ((P 19).tk))))) ≤ ((P 20).tk)), ((((Nat.succ (Nat.succ (Nat.succ (Nat.succ ((P 19).tk))))) < (Nat.succ ((P 20).s.n 1))) ∧ ((Nat.succ ((P 20).s.n 1)) ≤ ((P 20).tk))) ∧ ((((Nat.succ (Nat.succ (Nat.succ (Nat.succ ((P 19).tk))))) < (Nat.succ ((P 20).s.n 2))) ∧ ((Nat.succ ((P 20).s.n 2)) ≤ ((P 20).tk))) ∧ (((Nat.succ (Nat.succ (Nat.succ (Nat.succ ((P 19).tk))))) < (Nat.succ ((P 20).s.n 3))) ∧ ((Nat.succ ((P 20).s.n 3)) ≤ ((P 20).tk))))), (((P 18).tk) ≤ ((P 19).tk)), (((P 17).tk) ≤ ((P 18).tk)), ((Nat.succ ((P 16).tk)) ≤ ((P 17).tk)), (((P 15).tk) ≤ ((P 16).tk)), (((P 14).tk) ≤ ((P 15).tk)), (((P 12).tk) ≤ ((P 14).tk)), (((P 11).tk) ≤ ((P 12).tk)), ((Nat.succ ((P 10).tk)) ≤ ((P 11).tk)), ((Nat.succ (Nat.succ (Nat.succ (Nat.succ ((P 5).tk))))) ≤ ((P 10).tk)), frFact h len ((P 10).s.v 0), ((Nat.succ (Nat.succ (Nat.succ (Nat.succ ((P 0).tk))))) ≤ ((P 5).tk)), (tk ≤ ((P 0).tk))]
theorem mn011 {b₁ b₂ : Bool} (G : Good (mkV U b₁ b₂)) {h ht n j : Nat} {pv : List Value} {pe : Nat} {x : Mx} {text : Str} {t : Nat} {σ : Sup} (hj : j < 27) (len : Nat → Nat) (hh : h ∈ [4, 6, 8]) (hl : ∀ k, k < 4 → 1 ≤ len k ∧ len k < 39) (hpv : AllInt pv) (hpl : pv.length ≤ 1000) (hf : 0 < (frees h len).length) (hlt : decide (Int.ofNat j < Int.ofNat pv.length) = true) (hm : mvOf h len (pkZ pv j) = 1)
    (IH : ∀ x u ia ll el li lt cs ec ms em tw e, Meets (mkV U b₁ b₂) (S_mn (mkV U b₁ b₂) false (Nat.succ j) n x u ia ll el li lt h ht pv pe cs ec ms em text t σ (nx len 1) tw e))
    (u : Ux) (ia ll : Addr) (el : Nat) (li : Nat → Addr) (lt : Nat → Nat → Nat) (cs : List Value) (ec : Nat) (ms : List Value) (em : Nat) (tw : Nat → Nat) (e : Nat) : Meets (mkV U b₁ b₂) (S_mn (mkV U b₁ b₂) false j (Nat.succ n) x u ia ll el li lt h ht pv pe cs ec ms em text t σ len tw e) := by
  refine Meets.hyp fun hy => ?_
  have hc : cs.length ≤ j ∧ ms.length ≤ j := hy.1
  have hD : ltD lt := hy.2
  have hj' : j < 27 := hj
  skip
  have c1 : cs.length ≤ 1000 := by have := hc.1; omega
  have m1 : ms.length ≤ 1000 := by have := hc.2; omega
  have hm' : mvOf h len (zOf pv (Int.ofNat j).toNat) = 1 := by rw [← pk_yes hlt]; exact hm
  have ll' : nx len 1 1 < 40 := by have := (hl 0 (by decide)).2; show len 0 < 40; omega
  obtain ⟨hr, h6, _⟩ := lt_fin h hh _ (List.mem_range.mpr ll')
  have C : ∀ P : Nat → Ev, CsOk (mkV U b₁ b₂) (mnC (mkV U b₁ b₂) j n 1 true h ht pv pe x text t σ lt len P) :=
    mnC_ok G hh hl hD hlt ll' hr h6 IH
  have D : DsOk (mkV U b₁ b₂) [D_eqF] := ⟨D_eqF_ok, trivial⟩
  refine meets_dep (dep := depC) G C mnC_dep D (sgMn (mkV U b₁ b₂) x ia) (fun A R L tk q => mn_conv q) 397 (mnH011 b₂) (fun tk P => (P 24).s) (fun tk P => (mnL011 h n j pv cs ms len tk P)) [0, 0, 0, 0, 0, 0, 0] (fun tk P => (P 24).tk)
      (fun tk ht P q => match q with
      | 0 => ⟨impL ((mnL011 h n j pv cs ms len tk P).drop 17) (([] : List Value).length ≤ 0), impI (fun _ => Nat.le_refl 0)⟩
      | 1 => ⟨impL ((mnL011 h n j pv cs ms len tk P).drop 15) (((P 10).s.v 0).length ≤ 1000), impI (fun g => fr_le (g (frFact h len ((P 10).s.v 0)) (.tail _ (.head _))))⟩
      | 2 => ⟨impL ((mnL011 h n j pv cs ms len tk P).drop 14) (cs.length ≤ 1000), impI (fun _ => c1)⟩
      | 3 => ⟨impL ((mnL011 h n j pv cs ms len tk P).drop 13) (((P 10).s.v 0).length ≠ ([] : List Value).length), impI (fun g => fr_ne hf (g (frFact h len ((P 10).s.v 0)) (.tail _ (.tail _ (.tail _ (.head _))))))⟩
      | 4 => ⟨impL ((mnL011 h n j pv cs ms len tk P).drop 13) (pv.length ≤ 1000), impI (fun _ => hpl)⟩
      | 5 => ⟨impL ((mnL011 h n j pv cs ms len tk P).drop 11) (0 ≤ Int.ofNat j ∧ Int.ofNat j < 1000 ∧ ∃ z u, pv[(Int.ofNat j).toNat]? = some (Value.int z u)), impI (fun _ => pv_get hpv hlt hj)⟩
      | 6 => ⟨impL ((mnL011 h n j pv cs ms len tk P).drop 10) (((P 10).s.v 0).length ≤ 1000), impI (fun g => fr_le (g (frFact h len ((P 10).s.v 0)) (.tail _ (.tail _ (.tail _ (.tail _ (.tail _ (.tail _ (.head _)))))))))⟩
      | 7 => ⟨impL ((mnL011 h n j pv cs ms len tk P).drop 9) (Int.ofNat ((P 10).s.v 0).length ≠ 0), impI (fun g => fr_nz hf (g (frFact h len ((P 10).s.v 0)) (.tail _ (.tail _ (.tail _ (.tail _ (.tail _ (.tail _ (.tail _ (.head _))))))))))⟩
      | 8 => ⟨impL ((mnL011 h n j pv cs ms len tk P).drop 8) (0 ≤ Int.fmod (zOf pv (Int.ofNat j).toNat) (Int.ofNat ((P 10).s.v 0).length) ∧ Int.fmod (zOf pv (Int.ofNat j).toNat) (Int.ofNat ((P 10).s.v 0).length) < 1000 ∧ ∃ u, ((P 10).s.v 0)[(Int.fmod (zOf pv (Int.ofNat j).toNat) (Int.ofNat ((P 10).s.v 0).length)).toNat]? = some (Value.int (Int.ofNat 1) u)), impI (fun g => fr_get hf hm' (g (frFact h len ((P 10).s.v 0)) (.tail _ (.tail _ (.tail _ (.tail _ (.tail _ (.tail _ (.tail _ (.tail _ (.head _)))))))))))⟩
      | 9 => ⟨impL ((mnL011 h n j pv cs ms len tk P).drop 5) (ms.length ≤ 1000), impI (fun _ => m1)⟩
      | _ => ⟨impL ((mnL011 h n j pv cs ms len tk P).drop 3) ((((cs ++ [Value.int (Int.ofNat ((P 10).s.v 0).length) ((P 11).s.n 0)]).length ≤ Nat.succ j ∧ (ms ++ [Value.int (Int.ofNat 1) (tOf ((P 10).s.v 0) (Int.fmod (zOf pv (Int.ofNat j).toNat) (Int.ofNat ((P 10).s.v 0).length)).toNat)]).length ≤ Nat.succ j) ∧ ltD (lt4 (tk3 (lt 0 0) (lt 0 1) (lt 0 2)) (tk3 ((P 20).s.n 1) ((P 20).s.n 2) ((P 20).s.n 3)) (tk3 (lt 2 0) (lt 2 1) (lt 2 2)) (tk3 (lt 3 0) (lt 3 1) (lt 3 2)))) ∧ ltT (lt4 (tk3 (lt 0 0) (lt 0 1) (lt 0 2)) (tk3 ((P 20).s.n 1) ((P 20).s.n 2) ((P 20).s.n 3)) (tk3 (lt 2 0) (lt 2 1) (lt 2 2)) (tk3 (lt 3 0) (lt 3 1) (lt 3 2))) (((P 23).tk))), impI (fun g => by
        simp only [mnL011, List.drop_succ_cons, List.drop_zero, List.forall_mem_cons] at g
        have z := ltT_next (lt' := (lt4 (tk3 (lt 0 0) (lt 0 1) (lt 0 2)) (tk3 ((P 20).s.n 1) ((P 20).s.n 2) ((P 20).s.n 3)) (tk3 (lt 2 0) (lt 2 1) (lt 2 2)) (tk3 (lt 3 0) (lt 3 1) (lt 3 2)))) (m := 1) (T0 := tk) (T1 := ((P 23).tk)) hD ht (by omega) (fun k hk hn i hi => by
          rcases k with _ | _ | _ | _ | k <;> rcases i with _ | _ | _ | i <;> first | rfl | exact absurd rfl hn | exact absurd hi (by omega) | exact absurd hk (by omega)) (tk3_ok (by omega) (by omega) (by omega))
        exact ⟨⟨⟨app_le hc.1, app_le hc.2⟩, z.1⟩, z.2⟩)⟩)
      (fun tk _ P g => ⟨mn_fact hm (g (frFact h len ((P 10).s.v 0)) (.tail _ (.tail _ (.tail _ (.tail _ (.tail _ (.tail _ (.tail _ (.tail _ (.tail _ (.tail _ (.tail _ (.tail _ (.tail _ (.tail _ (.tail _ (.tail _ (.head _)))))))))))))))))) (g (mnFact h pv (Nat.succ j) n (nx len 1) (cs ++ [Value.int (Int.ofNat ((P 10).s.v 0).length) ((P 11).s.n 0)]) (ms ++ [Value.int (Int.ofNat 1) (tOf ((P 10).s.v 0) (Int.fmod (zOf pv (Int.ofNat j).toNat) (Int.ofNat ((P 10).s.v 0).length)).toNat)]) (P 24).s) (.tail _ (.tail _ (.head _)))), trivial⟩) (fun tk ht P => ?_)
  exact Bool.casesOn b₁ (Bool.casesOn b₂ (by kernel_rfl!) (by kernel_rfl!)) (Bool.casesOn b₂ (by kernel_rfl!) (by kernel_rfl!))
noncomputable def mnH012 : Bool → List Hint
  | true => [.l 1, .c 0 [1], .l 1, .l 1, .t, .t, .i, .i, .l 0, .l 0, .i, .l 0, .l 0, .l 0, .l 0, .i, .l 0, .l 0, .l 0, .l 0, .l 0, .i, .a 1 [2, 1, 0, 6, 13, 13, 13], .l 8, .l 8, .l 1, .l 1, .l 1, .t, .t, .i, .i, .l 0, .l 0, .i, .l 0, .l 0, .l 0, .l 0, .i, .l 0, .l 0, .l 0, .l 0, .l 0, .i, .ah 2 [2, 1, 0, 14, 14, 14, 14, 14, 14] 0, .l 17, .l 17, .l 1, .l 1, .l 1, .l 17, .l 19, .l 19, .l 19, .l 19, .t, .t, .l 17, .ch 3 [0] 1, .ch 4 [19] 2, .l 18, .qh 0 [2, 0] 3, .l 19, .t, .t, .l 19, .ch 3 [20] 4, .c 5 [], .l 20, .l 20, .l 0, .l 0, .l 0, .ch 6 [0] 5, .l 20, .l 20, .l 20, .l 20, .t, .t, .l 20, .ch 3 [3] 6, .ch 7 [] 7, .l 0, .l 0, .l 0, .ch 8 [0] 8, .l 20, .l 20, .l 20, .i, .l 20, .l 20, .i, .l 12, .l 12, .l 12, .i, .l 12, .l 12, .l 20, .l 20, .l 12, .l 12, .i, .l 12, .l 12, .l 12, .l 12, .t, .l 20, .l 20, .l 12, .l 12, .l 12, .i, .l 12, .l 12, .l 22, .t, .c 10 [], .l 6, .l 21, .l 7, .l 7, .i, .l 7, .l 7, .l 7, .l 7, .l 21, .l 22, .l 22, .l 22, .l 22, .l 21, .ch 4 [22] 9, .l 22, .l 14, .l 14, .i, .l 14, .l 0, .c 11 [23, 0, 14, 15, 15, 15, 15], .ah 12 [0, 20, 7, 8, 4, 0, 16, 7, 7, 7, 7, 3, 7, 0, 0, 0] 10]
  | false => [.l 1, .c 0 [1], .l 1, .l 1, .t, .t, .i, .i, .l 0, .l 0, .i, .l 0, .l 0, .l 0, .l 0, .i, .l 0, .l 0, .l 0, .l 0, .l 0, .i, .l 2, .l 2, .i, .l 2, .l 2, .a 1 [2, 1, 0, 6, 13, 13, 13], .l 8, .l 8, .l 1, .l 1, .l 1, .t, .t, .i, .i, .l 0, .l 0, .i, .l 0, .l 0, .l 0, .l 0, .i, .l 0, .l 0, .l 0, .l 0, .l 0, .i, .l 2, .l 2, .i, .l 2, .l 2, .ah 2 [2, 1, 0, 14, 14, 14, 14, 14, 14] 0, .l 17, .l 17, .l 1, .l 1, .l 1, .l 17, .l 19, .l 19, .l 19, .l 19, .t, .t, .l 17, .ch 3 [0] 1, .ch 4 [19] 2, .l 18, .qh 0 [2, 0] 3, .l 19, .t, .t, .l 19, .ch 3 [20] 4, .c 5 [], .l 20, .l 20, .l 0, .l 0, .l 0, .ch 6 [0] 5, .l 20, .l 20, .l 20, .l 20, .t, .t, .l 20, .ch 3 [3] 6, .ch 7 [] 7, .l 0, .l 0, .l 0, .ch 8 [0] 8, .l 20, .l 20, .l 20, .i, .l 20, .l 20, .i, .l 12, .l 12, .l 12, .i, .l 12, .l 12, .l 20, .l 20, .l 12, .l 12, .i, .l 12, .l 12, .l 12, .l 12, .t, .l 20, .l 20, .l 12, .l 12, .l 12, .i, .l 12, .l 12, .l 22, .t, .c 10 [], .l 6, .l 21, .l 7, .l 7, .i, .l 7, .l 7, .l 7, .l 7, .l 21, .l 22, .l 22, .l 22, .l 22, .l 21, .ch 4 [22] 9, .l 22, .l 14, .l 14, .i, .l 14, .l 0, .c 11 [23, 0, 14, 15, 15, 15, 15], .ah 12 [0, 20, 7, 8, 4, 0, 16, 7, 7, 7, 7, 3, 7, 0, 0, 0] 10]
noncomputable def mnL012 (h n j : Nat) (pv cs ms : List Value) (len : Nat → Nat) (tk : Nat) (P : Nat → Ev) : List Prop := [(((P 23).tk) ≤ ((P 24).tk)), True, mnFact h pv (Nat.succ j) n (nx len 2) (cs ++ [Value.int (Int.ofNat ((P 10).s.v 0).length) ((P 11).s.n 0)]) (ms ++ [Value.int (Int.ofNat 2) (tOf ((P 10).s.v 0) (Int.fmod (zOf pv (Int.ofNat j).toNat) (Int.ofNat ((P 10).s.v 0).length)).toNat)]) (P 24).s, (((P 21).tk) ≤ ((P 23).tk)), (((P 20).tk) ≤ ((P 21).tk)), ((Nat.succ (Nat.succ (Nat.succ (Nat.succ ((P 19).tk))))) ≤ ((P 20).tk)), ((((Nat.succ (Nat.succ (Nat.succ (Nat.succ ((P 19).tk))))) < (Nat.succ ((P 20).s.n 1))) ∧ ((Nat.succ ((P 20).s.n 1)) ≤ ((P 20).tk))) ∧ ((((Nat.succ (Nat.succ (Nat.succ (Nat.succ ((P 19).tk))))) < (Nat.succ ((P 20).s.n 2))) ∧ ((Nat.succ ((P 20).s.n 2)) ≤ ((P 20).tk))) ∧ (((Nat.succ (Nat.succ (Nat.succ (Nat.succ ((P 19).tk))))) < (Nat.succ ((P 20).s.n 3))) ∧ ((Nat.succ ((P 20).s.n 3)) ≤ ((P 20).tk))))), (((P 18).tk) ≤ ((P 19).tk)), (((P 17).tk) ≤ ((P 18).tk)), ((Nat.succ ((P 16).tk)) ≤ ((P 17).tk)), (((P 15).tk) ≤ ((P 16).tk)), (((P 14).tk) ≤ ((P 15).tk)), (((P 12).tk) ≤ ((P 14).tk)), (((P 11).tk) ≤ ((P 12).tk)), ((Nat.succ ((P 10).tk)) ≤ ((P 11).tk)), ((Nat.succ (Nat.succ (Nat.succ (Nat.succ ((P 5).tk))))) ≤ ((P 10).tk)), frFact h len ((P 10).s.v 0), ((Nat.succ (Nat.succ (Nat.succ (Nat.succ ((P 0).tk))))) ≤ ((P 5).tk)), (tk ≤ ((P 0).tk))]
theorem mn012 {b₁ b₂ : Bool} (G : Good (mkV U b₁ b₂)) {h ht n j : Nat} {pv : List Value} {pe : Nat} {x : Mx} {text : Str} {t : Nat} {σ : Sup} (hj : j < 27) (len : Nat → Nat) (hh : h ∈ [4, 6, 8]) (hl : ∀ k, k < 4 → 1 ≤ len k ∧ len k < 39) (hpv : AllInt pv) (hpl : pv.length ≤ 1000) (hf : 0 < (frees h len).length) (hlt : decide (Int.ofNat j < Int.ofNat pv.length) = true) (hm : mvOf h len (pkZ pv j) = 2)
    (IH : ∀ x u ia ll el li lt cs ec ms em tw e, Meets (mkV U b₁ b₂) (S_mn (mkV U b₁ b₂) false (Nat.succ j) n x u ia ll el li lt h ht pv pe cs ec ms em text t σ (nx len 2) tw e))
    (u : Ux) (ia ll : Addr) (el : Nat) (li : Nat → Addr) (lt : Nat → Nat → Nat) (cs : List Value) (ec : Nat) (ms : List Value) (em : Nat) (tw : Nat → Nat) (e : Nat) : Meets (mkV U b₁ b₂) (S_mn (mkV U b₁ b₂) false j (Nat.succ n) x u ia ll el li lt h ht pv pe cs ec ms em text t σ len tw e) := by
  refine Meets.hyp fun hy => ?_
  have hc : cs.length ≤ j ∧ ms.length ≤ j := hy.1
  have hD : ltD lt := hy.2
  have hj' : j < 27 := hj
  skip
  have c1 : cs.length ≤ 1000 := by have := hc.1; omega
  have m1 : ms.length ≤ 1000 := by have := hc.2; omega
  have hm' : mvOf h len (zOf pv (Int.ofNat j).toNat) = 2 := by rw [← pk_yes hlt]; exact hm
  have ll' : nx len 2 2 < 40 := by have := (hl 1 (by decide)).2; show len 1 < 40; omega
  obtain ⟨hr, h6, _⟩ := lt_fin h hh _ (List.mem_range.mpr ll')
  have C : ∀ P : Nat → Ev, CsOk (mkV U b₁ b₂) (mnC (mkV U b₁ b₂) j n 2 true h ht pv pe x text t σ lt len P) :=
    mnC_ok G hh hl hD hlt ll' hr h6 IH
  have D : DsOk (mkV U b₁ b₂) [D_eqF] := ⟨D_eqF_ok, trivial⟩
  refine meets_dep (dep := depC) G C mnC_dep D (sgMn (mkV U b₁ b₂) x ia) (fun A R L tk q => mn_conv q) 397 (mnH012 b₂) (fun tk P => (P 24).s) (fun tk P => (mnL012 h n j pv cs ms len tk P)) [0, 0, 0, 0, 0, 0, 0] (fun tk P => (P 24).tk)
      (fun tk ht P q => match q with
      | 0 => ⟨impL ((mnL012 h n j pv cs ms len tk P).drop 17) (([] : List Value).length ≤ 0), impI (fun _ => Nat.le_refl 0)⟩
      | 1 => ⟨impL ((mnL012 h n j pv cs ms len tk P).drop 15) (((P 10).s.v 0).length ≤ 1000), impI (fun g => fr_le (g (frFact h len ((P 10).s.v 0)) (.tail _ (.head _))))⟩
      | 2 => ⟨impL ((mnL012 h n j pv cs ms len tk P).drop 14) (cs.length ≤ 1000), impI (fun _ => c1)⟩
      | 3 => ⟨impL ((mnL012 h n j pv cs ms len tk P).drop 13) (((P 10).s.v 0).length ≠ ([] : List Value).length), impI (fun g => fr_ne hf (g (frFact h len ((P 10).s.v 0)) (.tail _ (.tail _ (.tail _ (.head _))))))⟩
      | 4 => ⟨impL ((mnL012 h n j pv cs ms len tk P).drop 13) (pv.length ≤ 1000), impI (fun _ => hpl)⟩
      | 5 => ⟨impL ((mnL012 h n j pv cs ms len tk P).drop 11) (0 ≤ Int.ofNat j ∧ Int.ofNat j < 1000 ∧ ∃ z u, pv[(Int.ofNat j).toNat]? = some (Value.int z u)), impI (fun _ => pv_get hpv hlt hj)⟩
      | 6 => ⟨impL ((mnL012 h n j pv cs ms len tk P).drop 10) (((P 10).s.v 0).length ≤ 1000), impI (fun g => fr_le (g (frFact h len ((P 10).s.v 0)) (.tail _ (.tail _ (.tail _ (.tail _ (.tail _ (.tail _ (.head _)))))))))⟩
      | 7 => ⟨impL ((mnL012 h n j pv cs ms len tk P).drop 9) (Int.ofNat ((P 10).s.v 0).length ≠ 0), impI (fun g => fr_nz hf (g (frFact h len ((P 10).s.v 0)) (.tail _ (.tail _ (.tail _ (.tail _ (.tail _ (.tail _ (.tail _ (.head _))))))))))⟩
      | 8 => ⟨impL ((mnL012 h n j pv cs ms len tk P).drop 8) (0 ≤ Int.fmod (zOf pv (Int.ofNat j).toNat) (Int.ofNat ((P 10).s.v 0).length) ∧ Int.fmod (zOf pv (Int.ofNat j).toNat) (Int.ofNat ((P 10).s.v 0).length) < 1000 ∧ ∃ u, ((P 10).s.v 0)[(Int.fmod (zOf pv (Int.ofNat j).toNat) (Int.ofNat ((P 10).s.v 0).length)).toNat]? = some (Value.int (Int.ofNat 2) u)), impI (fun g => fr_get hf hm' (g (frFact h len ((P 10).s.v 0)) (.tail _ (.tail _ (.tail _ (.tail _ (.tail _ (.tail _ (.tail _ (.tail _ (.head _)))))))))))⟩
      | 9 => ⟨impL ((mnL012 h n j pv cs ms len tk P).drop 5) (ms.length ≤ 1000), impI (fun _ => m1)⟩
      | _ => ⟨impL ((mnL012 h n j pv cs ms len tk P).drop 3) ((((cs ++ [Value.int (Int.ofNat ((P 10).s.v 0).length) ((P 11).s.n 0)]).length ≤ Nat.succ j ∧ (ms ++ [Value.int (Int.ofNat 2) (tOf ((P 10).s.v 0) (Int.fmod (zOf pv (Int.ofNat j).toNat) (Int.ofNat ((P 10).s.v 0).length)).toNat)]).length ≤ Nat.succ j) ∧ ltD (lt4 (tk3 (lt 0 0) (lt 0 1) (lt 0 2)) (tk3 (lt 1 0) (lt 1 1) (lt 1 2)) (tk3 ((P 20).s.n 1) ((P 20).s.n 2) ((P 20).s.n 3)) (tk3 (lt 3 0) (lt 3 1) (lt 3 2)))) ∧ ltT (lt4 (tk3 (lt 0 0) (lt 0 1) (lt 0 2)) (tk3 (lt 1 0) (lt 1 1) (lt 1 2)) (tk3 ((P 20).s.n 1) ((P 20).s.n 2) ((P 20).s.n 3)) (tk3 (lt 3 0) (lt 3 1) (lt 3 2))) (((P 23).tk))), impI (fun g => by
        simp only [mnL012, List.drop_succ_cons, List.drop_zero, List.forall_mem_cons] at g
        have z := ltT_next (lt' := (lt4 (tk3 (lt 0 0) (lt 0 1) (lt 0 2)) (tk3 (lt 1 0) (lt 1 1) (lt 1 2)) (tk3 ((P 20).s.n 1) ((P 20).s.n 2) ((P 20).s.n 3)) (tk3 (lt 3 0) (lt 3 1) (lt 3 2)))) (m := 2) (T0 := tk) (T1 := ((P 23).tk)) hD ht (by omega) (fun k hk hn i hi => by
          rcases k with _ | _ | _ | _ | k <;> rcases i with _ | _ | _ | i <;> first | rfl | exact absurd rfl hn | exact absurd hi (by omega) | exact absurd hk (by omega)) (tk3_ok (by omega) (by omega) (by omega))
        exact ⟨⟨⟨app_le hc.1, app_le hc.2⟩, z.1⟩, z.2⟩)⟩)
      (fun tk _ P g => ⟨mn_fact hm (g (frFact h len ((P 10).s.v 0)) (.tail _ (.tail _ (.tail _ (.tail _ (.tail _ (.tail _ (.tail _ (.tail _ (.tail _ (.tail _ (.tail _ (.tail _ (.tail _ (.tail _ (.tail _ (.tail _ (.head _)))))))))))))))))) (g (mnFact h pv (Nat.succ j) n (nx len 2) (cs ++ [Value.int (Int.ofNat ((P 10).s.v 0).length) ((P 11).s.n 0)]) (ms ++ [Value.int (Int.ofNat 2) (tOf ((P 10).s.v 0) (Int.fmod (zOf pv (Int.ofNat j).toNat) (Int.ofNat ((P 10).s.v 0).length)).toNat)]) (P 24).s) (.tail _ (.tail _ (.head _)))), trivial⟩) (fun tk ht P => ?_)
  exact Bool.casesOn b₁ (Bool.casesOn b₂ (by kernel_rfl!) (by kernel_rfl!)) (Bool.casesOn b₂ (by kernel_rfl!) (by kernel_rfl!))
noncomputable def mnH013 : Bool → List Hint
  | true => [.l 1, .c 0 [1], .l 1, .l 1, .t, .t, .i, .i, .l 0, .l 0, .i, .l 0, .l 0, .l 0, .l 0, .i, .l 0, .l 0, .l 0, .l 0, .l 0, .i, .a 1 [2, 1, 0, 6, 13, 13, 13], .l 8, .l 8, .l 1, .l 1, .l 1, .t, .t, .i, .i, .l 0, .l 0, .i, .l 0, .l 0, .l 0, .l 0, .i, .l 0, .l 0, .l 0, .l 0, .l 0, .i, .ah 2 [2, 1, 0, 14, 14, 14, 14, 14, 14] 0, .l 17, .l 17, .l 1, .l 1, .l 1, .l 17, .l 19, .l 19, .l 19, .l 19, .t, .t, .l 17, .ch 3 [0] 1, .ch 4 [19] 2, .l 18, .qh 0 [2, 0] 3, .l 19, .t, .t, .l 19, .ch 3 [20] 4, .c 5 [], .l 20, .l 20, .l 0, .l 0, .l 0, .ch 6 [0] 5, .l 20, .l 20, .l 20, .l 20, .t, .t, .l 20, .ch 3 [3] 6, .ch 7 [] 7, .l 0, .l 0, .l 0, .ch 8 [0] 8, .l 20, .l 20, .l 20, .i, .l 20, .l 20, .i, .l 12, .l 12, .l 12, .i, .l 12, .l 12, .l 20, .l 20, .l 12, .l 12, .i, .l 12, .l 12, .l 12, .l 12, .t, .l 20, .l 20, .l 12, .l 12, .l 12, .i, .l 12, .l 12, .l 22, .t, .c 10 [], .l 6, .l 21, .l 7, .l 7, .i, .l 7, .l 7, .l 7, .l 7, .l 21, .l 22, .l 22, .l 22, .l 22, .l 21, .ch 4 [22] 9, .l 22, .l 14, .l 14, .i, .l 14, .l 0, .c 11 [23, 0, 14, 15, 15, 15, 15], .ah 12 [0, 20, 7, 8, 4, 0, 16, 7, 7, 7, 7, 7, 3, 0, 0, 0] 10]
  | false => [.l 1, .c 0 [1], .l 1, .l 1, .t, .t, .i, .i, .l 0, .l 0, .i, .l 0, .l 0, .l 0, .l 0, .i, .l 0, .l 0, .l 0, .l 0, .l 0, .i, .l 2, .l 2, .i, .l 2, .l 2, .a 1 [2, 1, 0, 6, 13, 13, 13], .l 8, .l 8, .l 1, .l 1, .l 1, .t, .t, .i, .i, .l 0, .l 0, .i, .l 0, .l 0, .l 0, .l 0, .i, .l 0, .l 0, .l 0, .l 0, .l 0, .i, .l 2, .l 2, .i, .l 2, .l 2, .ah 2 [2, 1, 0, 14, 14, 14, 14, 14, 14] 0, .l 17, .l 17, .l 1, .l 1, .l 1, .l 17, .l 19, .l 19, .l 19, .l 19, .t, .t, .l 17, .ch 3 [0] 1, .ch 4 [19] 2, .l 18, .qh 0 [2, 0] 3, .l 19, .t, .t, .l 19, .ch 3 [20] 4, .c 5 [], .l 20, .l 20, .l 0, .l 0, .l 0, .ch 6 [0] 5, .l 20, .l 20, .l 20, .l 20, .t, .t, .l 20, .ch 3 [3] 6, .ch 7 [] 7, .l 0, .l 0, .l 0, .ch 8 [0] 8, .l 20, .l 20, .l 20, .i, .l 20, .l 20, .i, .l 12, .l 12, .l 12, .i, .l 12, .l 12, .l 20, .l 20, .l 12, .l 12, .i, .l 12, .l 12, .l 12, .l 12, .t, .l 20, .l 20, .l 12, .l 12, .l 12, .i, .l 12, .l 12, .l 22, .t, .c 10 [], .l 6, .l 21, .l 7, .l 7, .i, .l 7, .l 7, .l 7, .l 7, .l 21, .l 22, .l 22, .l 22, .l 22, .l 21, .ch 4 [22] 9, .l 22, .l 14, .l 14, .i, .l 14, .l 0, .c 11 [23, 0, 14, 15, 15, 15, 15], .ah 12 [0, 20, 7, 8, 4, 0, 16, 7, 7, 7, 7, 7, 3, 0, 0, 0] 10]
noncomputable def mnL013 (h n j : Nat) (pv cs ms : List Value) (len : Nat → Nat) (tk : Nat) (P : Nat → Ev) : List Prop := [(((P 23).tk) ≤ ((P 24).tk)), True, mnFact h pv (Nat.succ j) n (nx len 3) (cs ++ [Value.int (Int.ofNat ((P 10).s.v 0).length) ((P 11).s.n 0)]) (ms ++ [Value.int (Int.ofNat 3) (tOf ((P 10).s.v 0) (Int.fmod (zOf pv (Int.ofNat j).toNat) (Int.ofNat ((P 10).s.v 0).length)).toNat)]) (P 24).s, (((P 21).tk) ≤ ((P 23).tk)), (((P 20).tk) ≤ ((P 21).tk)), ((Nat.succ (Nat.succ (Nat.succ (Nat.succ ((P 19).tk))))) ≤ ((P 20).tk)), ((((Nat.succ (Nat.succ (Nat.succ (Nat.succ ((P 19).tk))))) < (Nat.succ ((P 20).s.n 1))) ∧ ((Nat.succ ((P 20).s.n 1)) ≤ ((P 20).tk))) ∧ ((((Nat.succ (Nat.succ (Nat.succ (Nat.succ ((P 19).tk))))) < (Nat.succ ((P 20).s.n 2))) ∧ ((Nat.succ ((P 20).s.n 2)) ≤ ((P 20).tk))) ∧ (((Nat.succ (Nat.succ (Nat.succ (Nat.succ ((P 19).tk))))) < (Nat.succ ((P 20).s.n 3))) ∧ ((Nat.succ ((P 20).s.n 3)) ≤ ((P 20).tk))))), (((P 18).tk) ≤ ((P 19).tk)), (((P 17).tk) ≤ ((P 18).tk)), ((Nat.succ ((P 16).tk)) ≤ ((P 17).tk)), (((P 15).tk) ≤ ((P 16).tk)), (((P 14).tk) ≤ ((P 15).tk)), (((P 12).tk) ≤ ((P 14).tk)), (((P 11).tk) ≤ ((P 12).tk)), ((Nat.succ ((P 10).tk)) ≤ ((P 11).tk)), ((Nat.succ (Nat.succ (Nat.succ (Nat.succ ((P 5).tk))))) ≤ ((P 10).tk)), frFact h len ((P 10).s.v 0), ((Nat.succ (Nat.succ (Nat.succ (Nat.succ ((P 0).tk))))) ≤ ((P 5).tk)), (tk ≤ ((P 0).tk))]
theorem mn013 {b₁ b₂ : Bool} (G : Good (mkV U b₁ b₂)) {h ht n j : Nat} {pv : List Value} {pe : Nat} {x : Mx} {text : Str} {t : Nat} {σ : Sup} (hj : j < 27) (len : Nat → Nat) (hh : h ∈ [4, 6, 8]) (hl : ∀ k, k < 4 → 1 ≤ len k ∧ len k < 39) (hpv : AllInt pv) (hpl : pv.length ≤ 1000) (hf : 0 < (frees h len).length) (hlt : decide (Int.ofNat j < Int.ofNat pv.length) = true) (hm : mvOf h len (pkZ pv j) = 3)
    (IH : ∀ x u ia ll el li lt cs ec ms em tw e, Meets (mkV U b₁ b₂) (S_mn (mkV U b₁ b₂) false (Nat.succ j) n x u ia ll el li lt h ht pv pe cs ec ms em text t σ (nx len 3) tw e))
    (u : Ux) (ia ll : Addr) (el : Nat) (li : Nat → Addr) (lt : Nat → Nat → Nat) (cs : List Value) (ec : Nat) (ms : List Value) (em : Nat) (tw : Nat → Nat) (e : Nat) : Meets (mkV U b₁ b₂) (S_mn (mkV U b₁ b₂) false j (Nat.succ n) x u ia ll el li lt h ht pv pe cs ec ms em text t σ len tw e) := by
  refine Meets.hyp fun hy => ?_
  have hc : cs.length ≤ j ∧ ms.length ≤ j := hy.1
  have hD : ltD lt := hy.2
  have hj' : j < 27 := hj
  skip
  have c1 : cs.length ≤ 1000 := by have := hc.1; omega
  have m1 : ms.length ≤ 1000 := by have := hc.2; omega
  have hm' : mvOf h len (zOf pv (Int.ofNat j).toNat) = 3 := by rw [← pk_yes hlt]; exact hm
  have ll' : nx len 3 3 < 40 := by have := (hl 2 (by decide)).2; show len 2 < 40; omega
  obtain ⟨hr, h6, _⟩ := lt_fin h hh _ (List.mem_range.mpr ll')
  have C : ∀ P : Nat → Ev, CsOk (mkV U b₁ b₂) (mnC (mkV U b₁ b₂) j n 3 true h ht pv pe x text t σ lt len P) :=
    mnC_ok G hh hl hD hlt ll' hr h6 IH
  have D : DsOk (mkV U b₁ b₂) [D_eqF] := ⟨D_eqF_ok, trivial⟩
  refine meets_dep (dep := depC) G C mnC_dep D (sgMn (mkV U b₁ b₂) x ia) (fun A R L tk q => mn_conv q) 397 (mnH013 b₂) (fun tk P => (P 24).s) (fun tk P => (mnL013 h n j pv cs ms len tk P)) [0, 0, 0, 0, 0, 0, 0] (fun tk P => (P 24).tk)
      (fun tk ht P q => match q with
      | 0 => ⟨impL ((mnL013 h n j pv cs ms len tk P).drop 17) (([] : List Value).length ≤ 0), impI (fun _ => Nat.le_refl 0)⟩
      | 1 => ⟨impL ((mnL013 h n j pv cs ms len tk P).drop 15) (((P 10).s.v 0).length ≤ 1000), impI (fun g => fr_le (g (frFact h len ((P 10).s.v 0)) (.tail _ (.head _))))⟩
      | 2 => ⟨impL ((mnL013 h n j pv cs ms len tk P).drop 14) (cs.length ≤ 1000), impI (fun _ => c1)⟩
      | 3 => ⟨impL ((mnL013 h n j pv cs ms len tk P).drop 13) (((P 10).s.v 0).length ≠ ([] : List Value).length), impI (fun g => fr_ne hf (g (frFact h len ((P 10).s.v 0)) (.tail _ (.tail _ (.tail _ (.head _))))))⟩
      | 4 => ⟨impL ((mnL013 h n j pv cs ms len tk P).drop 13) (pv.length ≤ 1000), impI (fun _ => hpl)⟩
      | 5 => ⟨impL ((mnL013 h n j pv cs ms len tk P).drop 11) (0 ≤ Int.ofNat j ∧ Int.ofNat j < 1000 ∧ ∃ z u, pv[(Int.ofNat j).toNat]? = some (Value.int z u)), impI (fun _ => pv_get hpv hlt hj)⟩
      | 6 => ⟨impL ((mnL013 h n j pv cs ms len tk P).drop 10) (((P 10).s.v 0).length ≤ 1000), impI (fun g => fr_le (g (frFact h len ((P 10).s.v 0)) (.tail _ (.tail _ (.tail _ (.tail _ (.tail _ (.tail _ (.head _)))))))))⟩
      | 7 => ⟨impL ((mnL013 h n j pv cs ms len tk P).drop 9) (Int.ofNat ((P 10).s.v 0).length ≠ 0), impI (fun g => fr_nz hf (g (frFact h len ((P 10).s.v 0)) (.tail _ (.tail _ (.tail _ (.tail _ (.tail _ (.tail _ (.tail _ (.head _))))))))))⟩
      | 8 => ⟨impL ((mnL013 h n j pv cs ms len tk P).drop 8) (0 ≤ Int.fmod (zOf pv (Int.ofNat j).toNat) (Int.ofNat ((P 10).s.v 0).length) ∧ Int.fmod (zOf pv (Int.ofNat j).toNat) (Int.ofNat ((P 10).s.v 0).length) < 1000 ∧ ∃ u, ((P 10).s.v 0)[(Int.fmod (zOf pv (Int.ofNat j).toNat) (Int.ofNat ((P 10).s.v 0).length)).toNat]? = some (Value.int (Int.ofNat 3) u)), impI (fun g => fr_get hf hm' (g (frFact h len ((P 10).s.v 0)) (.tail _ (.tail _ (.tail _ (.tail _ (.tail _ (.tail _ (.tail _ (.tail _ (.head _)))))))))))⟩
      | 9 => ⟨impL ((mnL013 h n j pv cs ms len tk P).drop 5) (ms.length ≤ 1000), impI (fun _ => m1)⟩
      | _ => ⟨impL ((mnL013 h n j pv cs ms len tk P).drop 3) ((((cs ++ [Value.int (Int.ofNat ((P 10).s.v 0).length) ((P 11).s.n 0)]).length ≤ Nat.succ j ∧ (ms ++ [Value.int (Int.ofNat 3) (tOf ((P 10).s.v 0) (Int.fmod (zOf pv (Int.ofNat j).toNat) (Int.ofNat ((P 10).s.v 0).length)).toNat)]).length ≤ Nat.succ j) ∧ ltD (lt4 (tk3 (lt 0 0) (lt 0 1) (lt 0 2)) (tk3 (lt 1 0) (lt 1 1) (lt 1 2)) (tk3 (lt 2 0) (lt 2 1) (lt 2 2)) (tk3 ((P 20).s.n 1) ((P 20).s.n 2) ((P 20).s.n 3)))) ∧ ltT (lt4 (tk3 (lt 0 0) (lt 0 1) (lt 0 2)) (tk3 (lt 1 0) (lt 1 1) (lt 1 2)) (tk3 (lt 2 0) (lt 2 1) (lt 2 2)) (tk3 ((P 20).s.n 1) ((P 20).s.n 2) ((P 20).s.n 3))) (((P 23).tk))), impI (fun g => by
        simp only [mnL013, List.drop_succ_cons, List.drop_zero, List.forall_mem_cons] at g
        have z := ltT_next (lt' := (lt4 (tk3 (lt 0 0) (lt 0 1) (lt 0 2)) (tk3 (lt 1 0) (lt 1 1) (lt 1 2)) (tk3 (lt 2 0) (lt 2 1) (lt 2 2)) (tk3 ((P 20).s.n 1) ((P 20).s.n 2) ((P 20).s.n 3)))) (m := 3) (T0 := tk) (T1 := ((P 23).tk)) hD ht (by omega) (fun k hk hn i hi => by
          rcases k with _ | _ | _ | _ | k <;> rcases i with _ | _ | _ | i <;> first | rfl | exact absurd rfl hn | exact absurd hi (by omega) | exact absurd hk (by omega)) (tk3_ok (by omega) (by omega) (by omega))
        exact ⟨⟨⟨app_le hc.1, app_le hc.2⟩, z.1⟩, z.2⟩)⟩)
      (fun tk _ P g => ⟨mn_fact hm (g (frFact h len ((P 10).s.v 0)) (.tail _ (.tail _ (.tail _ (.tail _ (.tail _ (.tail _ (.tail _ (.tail _ (.tail _ (.tail _ (.tail _ (.tail _ (.tail _ (.tail _ (.tail _ (.tail _ (.head _)))))))))))))))))) (g (mnFact h pv (Nat.succ j) n (nx len 3) (cs ++ [Value.int (Int.ofNat ((P 10).s.v 0).length) ((P 11).s.n 0)]) (ms ++ [Value.int (Int.ofNat 3) (tOf ((P 10).s.v 0) (Int.fmod (zOf pv (Int.ofNat j).toNat) (Int.ofNat ((P 10).s.v 0).length)).toNat)]) (P 24).s) (.tail _ (.tail _ (.head _)))), trivial⟩) (fun tk ht P => ?_)
  exact Bool.casesOn b₁ (Bool.casesOn b₂ (by kernel_rfl!) (by kernel_rfl!)) (Bool.casesOn b₂ (by kernel_rfl!) (by kernel_rfl!))
noncomputable def mnH000 : Bool → List Hint
  | true => [.l 1, .c 0 [1], .l 1, .l 1, .t, .t, .i, .i, .l 0, .l 0, .i, .l 0, .l 0, .l 0, .l 0, .i, .l 0, .l 0, .l 0, .l 0, .l 0, .i, .a 1 [2, 1, 0, 6, 13, 13, 13], .l 8, .l 8, .l 1, .l 1, .l 1, .t, .t, .i, .i, .l 0, .l 0, .i, .l 0, .l 0, .l 0, .l 0, .i, .l 0, .l 0, .l 0, .l 0, .l 0, .i, .ah 2 [2, 1, 0, 14, 14, 14, 14, 14, 14] 0, .l 17, .l 17, .l 1, .l 1, .l 1, .l 17, .l 19, .l 19, .l 19, .l 19, .t, .t, .l 17, .ch 3 [0] 1, .ch 4 [19] 2, .l 18, .qh 0 [2, 0] 3, .l 19, .t, .t, .l 19, .ch 3 [20] 4, .c 5 [], .l 20, .l 20, .l 20, .l 20, .t, .t, .l 20, .ch 3 [3] 5, .ch 7 [] 6, .l 0, .l 0, .l 0, .ch 8 [0] 7, .l 20, .l 20, .l 20, .i, .t, .l 20, .l 12, .l 12, .l 12, .i, .l 12, .l 12, .t, .c 9 [], .l 20, .l 20, .l 12, .l 12, .i, .l 12, .l 12, .l 12, .l 12, .t, .l 20, .l 20, .l 12, .l 12, .l 12, .i, .l 12, .l 12, .l 22, .t, .c 10 [], .l 6, .l 21, .l 7, .l 7, .i, .l 7, .l 7, .l 7, .l 7, .l 21, .l 22, .l 22, .l 22, .l 22, .l 21, .ch 4 [22] 8, .l 22, .l 14, .l 14, .i, .l 14, .l 0, .c 11 [23, 0, 14, 15, 15, 15, 15], .ah 12 [0, 20, 7, 8, 4, 0, 16, 7, 7, 3, 7, 7, 7, 0, 0, 0] 9]
  | false => [.l 1, .c 0 [1], .l 1, .l 1, .t, .t, .i, .i, .l 0, .l 0, .i, .l 0, .l 0, .l 0, .l 0, .i, .l 0, .l 0, .l 0, .l 0, .l 0, .i, .l 2, .l 2, .i, .l 2, .l 2, .a 1 [2, 1, 0, 6, 13, 13, 13], .l 8, .l 8, .l 1, .l 1, .l 1, .t, .t, .i, .i, .l 0, .l 0, .i, .l 0, .l 0, .l 0, .l 0, .i, .l 0, .l 0, .l 0, .l 0, .l 0, .i, .l 2, .l 2, .i, .l 2, .l 2, .ah 2 [2, 1, 0, 14, 14, 14, 14, 14, 14] 0, .l 17, .l 17, .l 1, .l 1, .l 1, .l 17, .l 19, .l 19, .l 19, .l 19, .t, .t, .l 17, .ch 3 [0] 1, .ch 4 [19] 2, .l 18, .qh 0 [2, 0] 3, .l 19, .t, .t, .l 19, .ch 3 [20] 4, .c 5 [], .l 20, .l 20, .l 20, .l 20, .t, .t, .l 20, .ch 3 [3] 5, .ch 7 [] 6, .l 0, .l 0, .l 0, .ch 8 [0] 7, .l 20, .l 20, .l 20, .i, .t, .l 20, .l 12, .l 12, .l 12, .i, .l 12, .l 12, .t, .c 9 [], .l 20, .l 20, .l 12, .l 12, .i, .l 12, .l 12, .l 12, .l 12, .t, .l 20, .l 20, .l 12, .l 12, .l 12, .i, .l 12, .l 12, .l 22, .t, .c 10 [], .l 6, .l 21, .l 7, .l 7, .i, .l 7, .l 7, .l 7, .l 7, .l 21, .l 22, .l 22, .l 22, .l 22, .l 21, .ch 4 [22] 8, .l 22, .l 14, .l 14, .i, .l 14, .l 0, .c 11 [23, 0, 14, 15, 15, 15, 15], .ah 12 [0, 20, 7, 8, 4, 0, 16, 7, 7, 3, 7, 7, 7, 0, 0, 0] 9]
noncomputable def mnL000 (h n j : Nat) (pv cs ms : List Value) (len : Nat → Nat) (tk : Nat) (P : Nat → Ev) : List Prop := [(((P 23).tk) ≤ ((P 24).tk)), True, mnFact h pv (Nat.succ j) n (nx len 0) (cs ++ [Value.int (Int.ofNat ((P 10).s.v 0).length) ((P 11).s.n 0)]) (ms ++ [Value.int (Int.ofNat 0) (tOf ((P 10).s.v 0) (Int.fmod (0 : Int) (Int.ofNat ((P 10).s.v 0).length)).toNat)]) (P 24).s, (((P 21).tk) ≤ ((P 23).tk)), (((P 20).tk) ≤ ((P 21).tk)), (((P 19).tk) ≤ ((P 20).tk)), (((((P 19).tk) < (Nat.succ ((P 20).s.n 1))) ∧ ((Nat.succ ((P 20).s.n 1)) ≤ ((P 20).tk))) ∧ (((((P 19).tk) < (Nat.succ ((P 20).s.n 2))) ∧ ((Nat.succ ((P 20).s.n 2)) ≤ ((P 20).tk))) ∧ ((((P 19).tk) < (Nat.succ ((P 20).s.n 3))) ∧ ((Nat.succ ((P 20).s.n 3)) ≤ ((P 20).tk))))), ((Nat.succ (Nat.succ (Nat.succ ((P 18).tk)))) ≤ ((P 19).tk)), (((P 17).tk) ≤ ((P 18).tk)), (((P 16).tk) ≤ ((P 17).tk)), ((Nat.succ (Nat.succ ((P 15).tk))) ≤ ((P 16).tk)), (((P 14).tk) ≤ ((P 15).tk)), (((P 12).tk) ≤ ((P 14).tk)), (((P 11).tk) ≤ ((P 12).tk)), ((Nat.succ ((P 10).tk)) ≤ ((P 11).tk)), ((Nat.succ (Nat.succ (Nat.succ (Nat.succ ((P 5).tk))))) ≤ ((P 10).tk)), frFact h len ((P 10).s.v 0), ((Nat.succ (Nat.succ (Nat.succ (Nat.succ ((P 0).tk))))) ≤ ((P 5).tk)), (tk ≤ ((P 0).tk))]
theorem mn000 {b₁ b₂ : Bool} (G : Good (mkV U b₁ b₂)) {h ht n j : Nat} {pv : List Value} {pe : Nat} {x : Mx} {text : Str} {t : Nat} {σ : Sup} (hj : j < 27) (len : Nat → Nat) (hh : h ∈ [4, 6, 8]) (hl : ∀ k, k < 4 → 1 ≤ len k ∧ len k < 39) (hpv : AllInt pv) (hpl : pv.length ≤ 1000) (hf : 0 < (frees h len).length) (hlt : decide (Int.ofNat j < Int.ofNat pv.length) = false) (hm : mvOf h len (pkZ pv j) = 0)
    (IH : ∀ x u ia ll el li lt cs ec ms em tw e, Meets (mkV U b₁ b₂) (S_mn (mkV U b₁ b₂) false (Nat.succ j) n x u ia ll el li lt h ht pv pe cs ec ms em text t σ (nx len 0) tw e))
    (u : Ux) (ia ll : Addr) (el : Nat) (li : Nat → Addr) (lt : Nat → Nat → Nat) (cs : List Value) (ec : Nat) (ms : List Value) (em : Nat) (tw : Nat → Nat) (e : Nat) : Meets (mkV U b₁ b₂) (S_mn (mkV U b₁ b₂) false j (Nat.succ n) x u ia ll el li lt h ht pv pe cs ec ms em text t σ len tw e) := by
  refine Meets.hyp fun hy => ?_
  have hc : cs.length ≤ j ∧ ms.length ≤ j := hy.1
  have hD : ltD lt := hy.2
  have hj' : j < 27 := hj
  skip
  have c1 : cs.length ≤ 1000 := by have := hc.1; omega
  have m1 : ms.length ≤ 1000 := by have := hc.2; omega
  have hm' : mvOf h len (0 : Int) = 0 := by rw [← pk_no hlt]; exact hm
  have ll' : nx len 0 0 < 40 := by have := (hl 0 (by decide)).2; show Nat.succ (len 0) < 40; omega
  obtain ⟨hr, h6, _⟩ := lt_fin h hh _ (List.mem_range.mpr ll')
  have C : ∀ P : Nat → Ev, CsOk (mkV U b₁ b₂) (mnC (mkV U b₁ b₂) j n 0 false h ht pv pe x text t σ lt len P) :=
    mnC_ok G hh hl hD hlt ll' hr h6 IH
  have D : DsOk (mkV U b₁ b₂) [D_eqF] := ⟨D_eqF_ok, trivial⟩
  refine meets_dep (dep := depC) G C mnC_dep D (sgMn (mkV U b₁ b₂) x ia) (fun A R L tk q => mn_conv q) 388 (mnH000 b₂) (fun tk P => (P 24).s) (fun tk P => (mnL000 h n j pv cs ms len tk P)) [0, 0, 0, 0, 0, 0, 0] (fun tk P => (P 24).tk)
      (fun tk ht P q => match q with
      | 0 => ⟨impL ((mnL000 h n j pv cs ms len tk P).drop 17) (([] : List Value).length ≤ 0), impI (fun _ => Nat.le_refl 0)⟩
      | 1 => ⟨impL ((mnL000 h n j pv cs ms len tk P).drop 15) (((P 10).s.v 0).length ≤ 1000), impI (fun g => fr_le (g (frFact h len ((P 10).s.v 0)) (.tail _ (.head _))))⟩
      | 2 => ⟨impL ((mnL000 h n j pv cs ms len tk P).drop 14) (cs.length ≤ 1000), impI (fun _ => c1)⟩
      | 3 => ⟨impL ((mnL000 h n j pv cs ms len tk P).drop 13) (((P 10).s.v 0).length ≠ ([] : List Value).length), impI (fun g => fr_ne hf (g (frFact h len ((P 10).s.v 0)) (.tail _ (.tail _ (.tail _ (.head _))))))⟩
      | 4 => ⟨impL ((mnL000 h n j pv cs ms len tk P).drop 13) (pv.length ≤ 1000), impI (fun _ => hpl)⟩
      | 5 => ⟨impL ((mnL000 h n j pv cs ms len tk P).drop 11) (((P 10).s.v 0).length ≤ 1000), impI (fun g => fr_le (g (frFact h len ((P 10).s.v 0)) (.tail _ (.tail _ (.tail _ (.tail _ (.tail _ (.head _))))))))⟩
      | 6 => ⟨impL ((mnL000 h n j pv cs ms len tk P).drop 10) (Int.ofNat ((P 10).s.v 0).length ≠ 0), impI (fun g => fr_nz hf (g (frFact h len ((P 10).s.v 0)) (.tail _ (.tail _ (.tail _ (.tail _ (.tail _ (.tail _ (.head _)))))))))⟩
      | 7 => ⟨impL ((mnL000 h n j pv cs ms len tk P).drop 9) (0 ≤ Int.fmod (0 : Int) (Int.ofNat ((P 10).s.v 0).length) ∧ Int.fmod (0 : Int) (Int.ofNat ((P 10).s.v 0).length) < 1000 ∧ ∃ u, ((P 10).s.v 0)[(Int.fmod (0 : Int) (Int.ofNat ((P 10).s.v 0).length)).toNat]? = some (Value.int (Int.ofNat 0) u)), impI (fun g => fr_get hf hm' (g (frFact h len ((P 10).s.v 0)) (.tail _ (.tail _ (.tail _ (.tail _ (.tail _ (.tail _ (.tail _ (.head _))))))))))⟩
      | 8 => ⟨impL ((mnL000 h n j pv cs ms len tk P).drop 5) (ms.length ≤ 1000), impI (fun _ => m1)⟩
      | _ => ⟨impL ((mnL000 h n j pv cs ms len tk P).drop 3) ((((cs ++ [Value.int (Int.ofNat ((P 10).s.v 0).length) ((P 11).s.n 0)]).length ≤ Nat.succ j ∧ (ms ++ [Value.int (Int.ofNat 0) (tOf ((P 10).s.v 0) (Int.fmod (0 : Int) (Int.ofNat ((P 10).s.v 0).length)).toNat)]).length ≤ Nat.succ j) ∧ ltD (lt4 (tk3 ((P 20).s.n 1) ((P 20).s.n 2) ((P 20).s.n 3)) (tk3 (lt 1 0) (lt 1 1) (lt 1 2)) (tk3 (lt 2 0) (lt 2 1) (lt 2 2)) (tk3 (lt 3 0) (lt 3 1) (lt 3 2)))) ∧ ltT (lt4 (tk3 ((P 20).s.n 1) ((P 20).s.n 2) ((P 20).s.n 3)) (tk3 (lt 1 0) (lt 1 1) (lt 1 2)) (tk3 (lt 2 0) (lt 2 1) (lt 2 2)) (tk3 (lt 3 0) (lt 3 1) (lt 3 2))) (((P 23).tk))), impI (fun g => by
        simp only [mnL000, List.drop_succ_cons, List.drop_zero, List.forall_mem_cons] at g
        have z := ltT_next (lt' := (lt4 (tk3 ((P 20).s.n 1) ((P 20).s.n 2) ((P 20).s.n 3)) (tk3 (lt 1 0) (lt 1 1) (lt 1 2)) (tk3 (lt 2 0) (lt 2 1) (lt 2 2)) (tk3 (lt 3 0) (lt 3 1) (lt 3 2)))) (m := 0) (T0 := tk) (T1 := ((P 23).tk)) hD ht (by omega) (fun k hk hn i hi => by
          rcases k with _ | _ | _ | _ | k <;> rcases i with _ | _ | _ | i <;> first | rfl | exact absurd rfl hn | exact absurd hi (by omega) | exact absurd hk (by omega)) (tk3_ok (by omega) (by omega) (by omega))
        exact ⟨⟨⟨app_le hc.1, app_le hc.2⟩, z.1⟩, z.2⟩)⟩)
      (fun tk _ P g => ⟨mn_fact hm (g (frFact h len ((P 10).s.v 0)) (.tail _ (.tail _ (.tail _ (.tail _ (.tail _ (.tail _ (.tail _ (.tail _ (.tail _ (.tail _ (.tail _ (.tail _ (.tail _ (.tail _ (.tail _ (.tail _ (.head _)))))))))))))))))) (g (mnFact h pv (Nat.succ j) n (nx len 0) (cs ++ [Value.int (Int.ofNat ((P 10).s.v 0).length) ((P 11).s.n 0)]) (ms ++ [Value.int (Int.ofNat 0) (tOf ((P 10).s.v 0) (Int.fmod (0 : Int) (Int.ofNat ((P 10).s.v 0).length)).toNat)]) (P 24).s) (.tail _ (.tail _ (.head _)))), trivial⟩) (fun tk ht P => ?_)
  exact Bool.casesOn b₁ (Bool.casesOn b₂ (by kernel_rfl!) (by kernel_rfl!)) (Bool.casesOn b₂ (by kernel_rfl!) (by kernel_rfl!))
noncomputable def mnH001 : Bool → List Hint
  | true => [.l 1, .c 0 [1], .l 1, .l 1, .t, .t, .i, .i, .l 0, .l 0, .i, .l 0, .l 0, .l 0, .l 0, .i, .l 0, .l 0, .l 0, .l 0, .l 0, .i, .a 1 [2, 1, 0, 6, 13, 13, 13], .l 8, .l 8, .l 1, .l 1, .l 1, .t, .t, .i, .i, .l 0, .l 0, .i, .l 0, .l 0, .l 0, .l 0, .i, .l 0, .l 0, .l 0, .l 0, .l 0, .i, .ah 2 [2, 1, 0, 14, 14, 14, 14, 14, 14] 0, .l 17, .l 17, .l 1, .l 1, .l 1, .l 17, .l 19, .l 19, .l 19, .l 19, .t, .t, .l 17, .ch 3 [0] 1, .ch 4 [19] 2, .l 18, .qh 0 [2, 0] 3, .l 19, .t, .t, .l 19, .ch 3 [20] 4, .c 5 [], .l 20, .l 20, .l 20, .l 20, .t, .t, .l 20, .ch 3 [3] 5, .ch 7 [] 6, .l 0, .l 0, .l 0, .ch 8 [0] 7, .l 20, .l 20, .l 20, .i, .l 20, .l 20, .i, .l 12, .l 12, .l 12, .i, .l 12, .l 12, .l 20, .l 20, .l 12, .l 12, .i, .l 12, .l 12, .l 12, .l 12, .t, .l 20, .l 20, .l 12, .l 12, .l 12, .i, .l 12, .l 12, .l 22, .t, .c 10 [], .l 6, .l 21, .l 7, .l 7, .i, .l 7, .l 7, .l 7, .l 7, .l 21, .l 22, .l 22, .l 22, .l 22, .l 21, .ch 4 [22] 8, .l 22, .l 14, .l 14, .i, .l 14, .l 0, .c 11 [23, 0, 14, 15, 15, 15, 15], .ah 12 [0, 20, 7, 8, 4, 0, 16, 7, 7, 7, 3, 7, 7, 0, 0, 0] 9]
  | false => [.l 1, .c 0 [1], .l 1, .l 1, .t, .t, .i, .i, .l 0, .l 0, .i, .l 0, .l 0, .l 0, .l 0, .i, .l 0, .l 0, .l 0, .l 0, .l 0, .i, .l 2, .l 2, .i, .l 2, .l 2, .a 1 [2, 1, 0, 6, 13, 13, 13], .l 8, .l 8, .l 1, .l 1, .l 1, .t, .t, .i, .i, .l 0, .l 0, .i, .l 0, .l 0, .l 0, .l 0, .i, .l 0, .l 0, .l 0, .l 0, .l 0, .i, .l 2, .l 2, .i, .l 2, .l 2, .ah 2 [2, 1, 0, 14, 14, 14, 14, 14, 14] 0, .l 17, .l 17, .l 1, .l 1, .l 1, .l 17, .l 19, .l 19, .l 19, .l 19, .t, .t, .l 17, .ch 3 [0] 1, .ch 4 [19] 2, .l 18, .qh 0 [2, 0] 3, .l 19, .t, .t, .l 19, .ch 3 [20] 4, .c 5 [], .l 20, .l 20, .l 20, .l 20, .t, .t, .l 20, .ch 3 [3] 5, .ch 7 [] 6, .l 0, .l 0, .l 0, .ch 8 [0] 7, .l 20, .l 20, .l 20, .i, .l 20, .l 20, .i, .l 12, .l 12, .l 12, .i, .l 12, .l 12, .l 20, .l 20, .l 12, .l 12, .i, .l 12, .l 12, .l 12, .l 12, .t, .l 20, .l 20, .l 12, .l 12, .l 12, .i, .l 12, .l 12, .l 22, .t, .c 10 [], .l 6, .l 21, .l 7, .l 7, .i, .l 7, .l 7, .l 7, .l 7, .l 21, .l 22, .l 22, .l 22, .l 22, .l 21, .ch 4 [22] 8, .l 22, .l 14, .l 14, .i, .l 14, .l 0, .c 11 [23, 0, 14, 15, 15, 15, 15], .ah 12 [0, 20, 7, 8, 4, 0, 16, 7, 7, 7, 3, 7, 7, 0, 0, 0] 9]
noncomputable def mnL001 (h n j : Nat) (pv cs ms : List Value) (len : Nat → Nat) (tk : Nat) (P : Nat → Ev) : List Prop := [(((P 22).tk) ≤ ((P 23).tk)), True, mnFact h pv (Nat.succ j) n (nx len 1) (cs ++ [Value.int (Int.ofNat ((P 10).s.v 0).length) ((P 11).s.n 0)]) (ms ++ [Value.int (Int.ofNat 1) (tOf ((P 10).s.v 0) (Int.fmod (0 : Int) (Int.ofNat ((P 10).s.v 0).length)).toNat)]) (P 23).s, (((P 20).tk) ≤ ((P 22).tk)), (((P 19).tk) ≤ ((P 20).tk)), ((Nat.succ (Nat.succ (Nat.succ (Nat.succ ((P 18).tk))))) ≤ ((P 19).tk)), ((((Nat.succ (Nat.succ (Nat.succ (Nat.succ ((P 18).tk))))) < (Nat.succ ((P 19).s.n 1))) ∧ ((Nat.succ ((P 19).s.n 1)) ≤ ((P 19).tk))) ∧ ((((Nat.succ (Nat.succ (Nat.succ (Nat.succ ((P 18).tk))))) < (Nat.succ ((P 19).s.n 2))) ∧ ((Nat.succ ((P 19).s.n 2)) ≤ ((P 19).tk))) ∧ (((Nat.succ (Nat.succ (Nat.succ (Nat.succ ((P 18).tk))))) < (Nat.succ ((P 19).s.n 3))) ∧ ((Nat.succ ((P 19).s.n 3)) ≤ ((P 19).tk))))), (((P 17).tk) ≤ ((P 18).tk)), (((P 16).tk) ≤ ((P 17).tk)), ((Nat.succ (Nat.succ ((P 15).tk))) ≤ ((P 16).tk)), (((P 14).tk) ≤ ((P 15).tk)), (((P 12).tk) ≤ ((P 14).tk)), (((P 11).tk) ≤ ((P 12).tk)), ((Nat.succ ((P 10).tk)) ≤ ((P 11).tk)), ((Nat.succ (Nat.succ (Nat.succ (Nat.succ ((P 5).tk))))) ≤ ((P 10).tk)), frFact h len ((P 10).s.v 0), ((Nat.succ (Nat.succ (Nat.succ (Nat.succ ((P 0).tk))))) ≤ ((P 5).tk)), (tk ≤ ((P 0).tk))]
theorem mn001 {b₁ b₂ : Bool} (G : Good (mkV U b₁ b₂)) {h ht n j : Nat} {pv : List Value} {pe : Nat} {x : Mx} {text : Str} {t : Nat} {σ : Sup} (hj : j < 27) (len : Nat → Nat) (hh : h ∈ [4, 6, 8]) (hl : ∀ k, k < 4 → 1 ≤ len k ∧ len k < 39) (hpv : AllInt pv) (hpl : pv.length ≤ 1000) (hf : 0 < (frees h len).length) (hlt : decide (Int.ofNat j < Int.ofNat pv.length) = false) (hm : mvOf h len (pkZ pv j) = 1)
    (IH : ∀ x u ia ll el li lt cs ec ms em tw e, Meets (mkV U b₁ b₂) (S_mn (mkV U b₁ b₂) false (Nat.succ j) n x u ia ll el li lt h ht pv pe cs ec ms em text t σ (nx len 1) tw e))
    (u : Ux) (ia ll : Addr) (el : Nat) (li : Nat → Addr) (lt : Nat → Nat → Nat) (cs : List Value) (ec : Nat) (ms : List Value) (em : Nat) (tw : Nat → Nat) (e : Nat) : Meets (mkV U b₁ b₂) (S_mn (mkV U b₁ b₂) false j (Nat.succ n) x u ia ll el li lt h ht pv pe cs ec ms em text t σ len tw e) := by
  refine Meets.hyp fun hy => ?_
  have hc : cs.length ≤ j ∧ ms.length ≤ j := hy.1
  have hD : ltD lt := hy.2
  have hj' : j < 27 := hj
  skip
  have c1 : cs.length ≤ 1000 := by have := hc.1; omega
  have m1 : ms.length ≤ 1000 := by have := hc.2; omega
  have hm' : mvOf h len (0 : Int) = 1 := by rw [← pk_no hlt]; exact hm
  have ll' : nx len 1 1 < 40 := by have := (hl 0 (by decide)).2; show len 0 < 40; omega
  obtain ⟨hr, h6, _⟩ := lt_fin h hh _ (List.mem_range.mpr ll')
  have C : ∀ P : Nat → Ev, CsOk (mkV U b₁ b₂) (mnC (mkV U b₁ b₂) j n 1 false h ht pv pe x text t σ lt len P) :=
    mnC_ok G hh hl hD hlt ll' hr h6 IH
  have D : DsOk (mkV U b₁ b₂) [D_eqF] := ⟨D_eqF_ok, trivial⟩
  refine meets_dep (dep := depC) G C mnC_dep D (sgMn (mkV U b₁ b₂) x ia) (fun A R L tk q => mn_conv q) 387 (mnH001 b₂) (fun tk P => (P 23).s) (fun tk P => (mnL001 h n j pv cs ms len tk P)) [0, 0, 0, 0, 0, 0, 0] (fun tk P => (P 23).tk)
      (fun tk ht P q => match q with
      | 0 => ⟨impL ((mnL001 h n j pv cs ms len tk P).drop 16) (([] : List Value).length ≤ 0), impI (fun _ => Nat.le_refl 0)⟩
      | 1 => ⟨impL ((mnL001 h n j pv cs ms len tk P).drop 14) (((P 10).s.v 0).length ≤ 1000), impI (fun g => fr_le (g (frFact h len ((P 10).s.v 0)) (.tail _ (.head _))))⟩
      | 2 => ⟨impL ((mnL001 h n j pv cs ms len tk P).drop 13) (cs.length ≤ 1000), impI (fun _ => c1)⟩
      | 3 => ⟨impL ((mnL001 h n j pv cs ms len tk P).drop 12) (((P 10).s.v 0).length ≠ ([] : List Value).length), impI (fun g => fr_ne hf (g (frFact h len ((P 10).s.v 0)) (.tail _ (.tail _ (.tail _ (.head _))))))⟩
      | 4 => ⟨impL ((mnL001 h n j pv cs ms len tk P).drop 12) (pv.length ≤ 1000), impI (fun _ => hpl)⟩
      | 5 => ⟨impL ((mnL001 h n j pv cs ms len tk P).drop 10) (((P 10).s.v 0).length ≤ 1000), impI (fun g => fr_le (g (frFact h len ((P 10).s.v 0)) (.tail _ (.tail _ (.tail _ (.tail _ (.tail _ (.head _))))))))⟩
      | 6 => ⟨impL ((mnL001 h n j pv cs ms len tk P).drop 9) (Int.ofNat ((P 10).s.v 0).length ≠ 0), impI (fun g => fr_nz hf (g (frFact h len ((P 10).s.v 0)) (.tail _ (.tail _ (.tail _ (.tail _ (.tail _ (.tail _ (.head _)))))))))⟩
      | 7 => ⟨impL ((mnL001 h n j pv cs ms len tk P).drop 8) (0 ≤ Int.fmod (0 : Int) (Int.ofNat ((P 10).s.v 0).length) ∧ Int.fmod (0 : Int) (Int.ofNat ((P 10).s.v 0).length) < 1000 ∧ ∃ u, ((P 10).s.v 0)[(Int.fmod (0 : Int) (Int.ofNat ((P 10).s.v 0).length)).toNat]? = some (Value.int (Int.ofNat 1) u)), impI (fun g => fr_get hf hm' (g (frFact h len ((P 10).s.v 0)) (.tail _ (.tail _ (.tail _ (.tail _ (.tail _ (.tail _ (.tail _ (.head _))))))))))⟩
      | 8 => ⟨impL ((mnL001 h n j pv cs ms len tk P).drop 5) (ms.length ≤ 1000), impI (fun _ => m1)⟩
      | _ => ⟨impL ((mnL001 h n j pv cs ms len tk P).drop 3) ((((cs ++ [Value.int (Int.ofNat ((P 10).s.v 0).length) ((P 11).s.n 0)]).length ≤ Nat.succ j ∧ (ms ++ [Value.int (Int.ofNat 1) (tOf ((P 10).s.v 0) (Int.fmod (0 : Int) (Int.ofNat ((P 10).s.v 0).length)).toNat)]).length ≤ Nat.succ j) ∧ ltD (lt4 (tk3 (lt 0 0) (lt 0 1) (lt 0 2)) (tk3 ((P 19).s.n 1) ((P 19).s.n 2) ((P 19).s.n 3)) (tk3 (lt 2 0) (lt 2 1) (lt 2 2)) (tk3 (lt 3 0) (lt 3 1) (lt 3 2)))) ∧ ltT (lt4 (tk3 (lt 0 0) (lt 0 1) (lt 0 2)) (tk3 ((P 19).s.n 1) ((P 19).s.n 2) ((P 19).s.n 3)) (tk3 (lt 2 0) (lt 2 1) (lt 2 2)) (tk3 (lt 3 0) (lt 3 1) (lt 3 2))) (((P 22).tk))), impI (fun g => by
        simp only [mnL001, List.drop_succ_cons, List.drop_zero, List.forall_mem_cons] at g
        have z := ltT_next (lt' := (lt4 (tk3 (lt 0 0) (lt 0 1) (lt 0 2)) (tk3 ((P 19).s.n 1) ((P 19).s.n 2) ((P 19).s.n 3)) (tk3 (lt 2 0) (lt 2 1) (lt 2 2)) (tk3 (lt 3 0) (lt 3 1) (lt 3 2)))) (m := 1) (T0 := tk) (T1 := ((P 22).tk)) hD ht (by omega) (fun k hk hn i hi => by
          rcases k with _ | _ | _ | _ | k <;> rcases i with _ | _ | _ | i <;> first | rfl | exact absurd rfl hn | exact absurd hi (by omega) | exact absurd hk (by omega)) (tk3_ok (by omega) (by omega) (by omega))
        exact ⟨⟨⟨app_le hc.1, app_le hc.2⟩, z.1⟩, z.2⟩)⟩)
      (fun tk _ P g => ⟨mn_fact hm (g (frFact h len ((P 10).s.v 0)) (.tail _ (.tail _ (.tail _ (.tail _ (.tail _ (.tail _ (.tail _ (.tail _ (.tail _ (.tail _ (.tail _ (.tail _ (.tail _ (.tail _ (.tail _ (.head _))))))))))))))))) (g (mnFact h pv (Nat.succ j) n (nx len 1) (cs ++ [Value.int (Int.ofNat ((P 10).s.v 0).length) ((P 11).s.n 0)]) (ms ++ [Value.int (Int.ofNat 1) (tOf ((P 10).s.v 0) (Int.fmod (0 : Int) (Int.ofNat ((P 10).s.v 0).length)).toNat)]) (P 23).s) (.tail _ (.tail _ (.head _)))), trivial⟩) (fun tk ht P => ?_)
  exact Bool.casesOn b₁ (Bool.casesOn b₂ (by kernel_rfl!) (by kernel_rfl!)) (Bool.casesOn b₂ (by kernel_rfl!) (by kernel_rfl!))
noncomputable def mnH002 : Bool → List Hint
  | true => [.l 1, .c 0 [1], .l 1, .l 1, .t, .t, .i, .i, .l 0, .l 0, .i, .l 0, .l 0, .l 0, .l 0, .i, .l 0, .l 0, .l 0, .l 0, .l 0, .i, .a 1 [2, 1, 0, 6, 13, 13, 13], .l 8, .l 8, .l 1, .l 1, .l 1, .t, .t, .i, .i, .l 0, .l 0, .i, .l 0, .l 0, .l 0, .l 0, .i, .l 0, .l 0, .l 0, .l 0, .l 0, .i, .ah 2 [2, 1, 0, 14, 14, 14, 14, 14, 14] 0, .l 17, .l 17, .l 1, .l 1, .l 1, .l 17, .l 19, .l 19, .l 19, .l 19, .t, .t, .l 17, .ch 3 [0] 1, .ch 4 [19] 2, .l 18, .qh 0 [2, 0] 3, .l 19, .t, .t, .l 19, .ch 3 [20] 4, .c 5 [], .l 20, .l 20, .l 20, .l 20, .t, .t, .l 20, .ch 3 [3] 5, .ch 7 [] 6, .l 0, .l 0, .l 0, .ch 8 [0] 7, .l 20, .l 20, .l 20, .i, .l 20, .l 20, .i, .l 12, .l 12, .l 12, .i, .l 12, .l 12, .l 20, .l 20, .l 12, .l 12, .i, .l 12, .l 12, .l 12, .l 12, .t, .l 20, .l 20, .l 12, .l 12, .l 12, .i, .l 12, .l 12, .l 22, .t, .c 10 [], .l 6, .l 21, .l 7, .l 7, .i, .l 7, .l 7, .l 7, .l 7, .l 21, .l 22, .l 22, .l 22, .l 22, .l 21, .ch 4 [22] 8, .l 22, .l 14, .l 14, .i, .l 14, .l 0, .c 11 [23, 0, 14, 15, 15, 15, 15], .ah 12 [0, 20, 7, 8, 4, 0, 16, 7, 7, 7, 7, 3, 7, 0, 0, 0] 9]
  | false => [.l 1, .c 0 [1], .l 1, .l 1, .t, .t, .i, .i, .l 0, .l 0, .i, .l 0, .l 0, .l 0, .l 0, .i, .l 0, .l 0, .l 0, .l 0, .l 0, .i, .l 2, .l 2, .i, .l 2, .l 2, .a 1 [2, 1, 0, 6, 13, 13, 13], .l 8, .l 8, .l 1, .l 1, .l 1, .t, .t, .i, .i, .l 0, .l 0, .i, .l 0, .l 0, .l 0, .l 0, .i, .l 0, .l 0, .l 0, .l 0, .l 0, .i, .l 2, .l 2, .i, .l 2, .l 2, .ah 2 [2, 1, 0, 14, 14, 14, 14, 14, 14] 0, .l 17, .l 17, .l 1, .l 1, .l 1, .l 17, .l 19, .l 19, .l 19, .l 19, .t, .t, .l 17, .ch 3 [0] 1, .ch 4 [19] 2, .l 18, .qh 0 [2, 0] 3, .l 19, .t, .t, .l 19, .ch 3 [20] 4, .c 5 [], .l 20, .l 20, .l 20, .l 20, .t, .t, .l 20, .ch 3 [3] 5, .ch 7 [] 6, .l 0, .l 0, .l 0, .ch 8 [0] 7, .l 20, .l 20, .l 20, .i, .l 20, .l 20, .i, .l 12, .l 12, .l 12, .i, .l 12, .l 12, .l 20, .l 20, .l 12, .l 12, .i, .l 12, .l 12, .l 12, .l 12, .t, .l 20, .l 20, .l 12, .l 12, .l 12, .i, .l 12, .l 12, .l 22, .t, .c 10 [], .l 6, .l 21, .l 7, .l 7, .i, .l 7, .l 7, .l 7, .l 7, .l 21, .l 22, .l 22, .l 22, .l 22, .l 21, .ch 4 [22] 8, .l 22, .l 14, .l 14, .i, .l 14, .l 0, .c 11 [23, 0, 14, 15, 15, 15, 15], .ah 12 [0, 20, 7, 8, 4, 0, 16, 7, 7, 7, 7, 3, 7, 0, 0, 0] 9]
noncomputable def mnL002 (h n j : Nat) (pv cs ms : List Value) (len : Nat → Nat) (tk : Nat) (P : Nat → Ev) : List Prop := [(((P 22).tk) ≤ ((P 23).tk)), True, mnFact h pv (Nat.succ j) n (nx len 2) (cs ++ [Value.int (Int.ofNat ((P 10).s.v 0).length) ((P 11).s.n 0)]) (ms ++ [Value.int (Int.ofNat 2) (tOf ((P 10).s.v 0) (Int.fmod (0 : Int) (Int.ofNat ((P 10).s.v 0).length)).toNat)]) (P 23).s, (((P 20).tk) ≤ ((P 22).tk)), (((P 19).tk) ≤ ((P 20).tk)), ((Nat.succ (Nat.succ (Nat.succ (Nat.succ ((P 18).tk))))) ≤ ((P 19).tk)), ((((Nat.succ (Nat.succ (Nat.succ (Nat.succ ((P 18).tk))))) < (Nat.succ ((P 19).s.n 1))) ∧ ((Nat.succ ((P 19).s.n 1)) ≤ ((P 19).tk))) ∧ ((((Nat.succ (Nat.succ (Nat.succ (Nat.succ ((P 18).tk))))) < (Nat.succ ((P 19).s.n 2))) ∧ ((Nat.succ ((P 19).s.n 2)) ≤ ((P 19).tk))) ∧ (((Nat.succ (Nat.succ (Nat.succ (Nat.succ ((P 18).tk))))) < (Nat.succ ((P 19).s.n 3))) ∧ ((Nat.succ ((P 19).s.n 3)) ≤ ((P 19).tk))))), (((P 17).tk) ≤ ((P 18).tk)), (((P 16).tk) ≤ ((P 17).tk)), ((Nat.succ (Nat.succ ((P 15).tk))) ≤ ((P 16).tk)), (((P 14).tk) ≤ ((P 15).tk)), (((P 12).tk) ≤ ((P 14).tk)), (((P 11).tk) ≤ ((P 12).tk)), ((Nat.succ ((P 10).tk)) ≤ ((P 11).tk)), ((Nat.succ (Nat.succ (Nat.succ (Nat.succ ((P 5).tk))))) ≤ ((P 10).tk)), frFact h len ((P 10).s.v 0), ((Nat.succ (Nat.succ (Nat.succ (Nat.succ ((P 0).tk))))) ≤ ((P 5).tk)), (tk ≤ ((P 0).tk))]
theorem mn002 {b₁ b₂ : Bool} (G : Good (mkV U b₁ b₂)) {h ht n j : Nat} {pv : List Value} {pe : Nat} {x : Mx} {text : Str} {t : Nat} {σ : Sup} (hj : j < 27) (len : Nat → Nat) (hh : h ∈ [4, 6, 8]) (hl : ∀ k, k < 4 → 1 ≤ len k ∧ len k < 39) (hpv : AllInt pv) (hpl : pv.length ≤ 1000) (hf : 0 < (frees h len).length) (hlt : decide (Int.ofNat j < Int.ofNat pv.length) = false) (hm : mvOf h len (pkZ pv j) = 2)
    (IH : ∀ x u ia ll el li lt cs ec ms em tw e, Meets (mkV U b₁ b₂) (S_mn (mkV U b₁ b₂) false (Nat.succ j) n x u ia ll el li lt h ht pv pe cs ec ms em text t σ (nx len 2) tw e))
    (u : Ux) (ia ll : Addr) (el : Nat) (li : Nat → Addr) (lt : Nat → Nat → Nat) (cs : List Value) (ec : Nat) (ms : List Value) (em : Nat) (tw : Nat → Nat) (e : Nat) : Meets (mkV U b₁ b₂) (S_mn (mkV U b₁ b₂) false j (Nat.succ n) x u ia ll el li lt h ht pv pe cs ec ms em text t σ len tw e) := by
  refine Meets.hyp fun hy => ?_
  have hc : cs.length ≤ j ∧ ms.length ≤ j := hy.1
  have hD : ltD lt := hy.2
  have hj' : j < 27 := hj
  skip
  have c1 : cs.length ≤ 1000 := by have := hc.1; omega
  have m1 : ms.length ≤ 1000 := by have := hc.2; omega
  have hm' : mvOf h len (0 : Int) = 2 := by rw [← pk_no hlt]; exact hm
  have ll' : nx len 2 2 < 40 := by have := (hl 1 (by decide)).2; show len 1 < 40; omega
  obtain ⟨hr, h6, _⟩ := lt_fin h hh _ (List.mem_range.mpr ll')
  have C : ∀ P : Nat → Ev, CsOk (mkV U b₁ b₂) (mnC (mkV U b₁ b₂) j n 2 false h ht pv pe x text t σ lt len P) :=
    mnC_ok G hh hl hD hlt ll' hr h6 IH
  have D : DsOk (mkV U b₁ b₂) [D_eqF] := ⟨D_eqF_ok, trivial⟩
  refine meets_dep (dep := depC) G C mnC_dep D (sgMn (mkV U b₁ b₂) x ia) (fun A R L tk q => mn_conv q) 387 (mnH002 b₂) (fun tk P => (P 23).s) (fun tk P => (mnL002 h n j pv cs ms len tk P)) [0, 0, 0, 0, 0, 0, 0] (fun tk P => (P 23).tk)
      (fun tk ht P q => match q with
      | 0 => ⟨impL ((mnL002 h n j pv cs ms len tk P).drop 16) (([] : List Value).length ≤ 0), impI (fun _ => Nat.le_refl 0)⟩
      | 1 => ⟨impL ((mnL002 h n j pv cs ms len tk P).drop 14) (((P 10).s.v 0).length ≤ 1000), impI (fun g => fr_le (g (frFact h len ((P 10).s.v 0)) (.tail _ (.head _))))⟩
      | 2 => ⟨impL ((mnL002 h n j pv cs ms len tk P).drop 13) (cs.length ≤ 1000), impI (fun _ => c1)⟩
      | 3 => ⟨impL ((mnL002 h n j pv cs ms len tk P).drop 12) (((P 10).s.v 0).length ≠ ([] : List Value).length), impI (fun g => fr_ne hf (g (frFact h len ((P 10).s.v 0)) (.tail _ (.tail _ (.tail _ (.head _))))))⟩
      | 4 => ⟨impL ((mnL002 h n j pv cs ms len tk P).drop 12) (pv.length ≤ 1000), impI (fun _ => hpl)⟩
      | 5 => ⟨impL ((mnL002 h n j pv cs ms len tk P).drop 10) (((P 10).s.v 0).length ≤ 1000), impI (fun g => fr_le (g (frFact h len ((P 10).s.v 0)) (.tail _ (.tail _ (.tail _ (.tail _ (.tail _ (.head _))))))))⟩
      | 6 => ⟨impL ((mnL002 h n j pv cs ms len tk P).drop 9) (Int.ofNat ((P 10).s.v 0).length ≠ 0), impI (fun g => fr_nz hf (g (frFact h len ((P 10).s.v 0)) (.tail _ (.tail _ (.tail _ (.tail _ (.tail _ (.tail _ (.head _)))))))))⟩
      | 7 => ⟨impL ((mnL002 h n j pv cs ms len tk P).drop 8) (0 ≤ Int.fmod (0 : Int) (Int.ofNat ((P 10).s.v 0).length) ∧ Int.fmod (0 : Int) (Int.ofNat ((P 10).s.v 0).length) < 1000 ∧ ∃ u, ((P 10).s.v 0)[(Int.fmod (0 : Int) (Int.ofNat ((P 10).s.v 0).length)).toNat]? = some (Value.int (Int.ofNat 2) u)), impI (fun g => fr_get hf hm' (g (frFact h len ((P 10).s.v 0)) (.tail _ (.tail _ (.tail _ (.tail _ (.tail _ (.tail _ (.tail _ (.head _))))))))))⟩
      | 8 => ⟨impL ((mnL002 h n j pv cs ms len tk P).drop 5) (ms.length ≤ 1000), impI (fun _ => m1)⟩
      | _ => ⟨impL ((mnL002 h n j pv cs ms len tk P).drop 3) ((((cs ++ [Value.int (Int.ofNat ((P 10).s.v 0).length) ((P 11).s.n 0)]).length ≤ Nat.succ j ∧ (ms ++ [Value.int (Int.ofNat 2) (tOf ((P 10).s.v 0) (Int.fmod (0 : Int) (Int.ofNat ((P 10).s.v 0).length)).toNat)]).length ≤ Nat.succ j) ∧ ltD (lt4 (tk3 (lt 0 0) (lt 0 1) (lt 0 2)) (tk3 (lt 1 0) (lt 1 1) (lt 1 2)) (tk3 ((P 19).s.n 1) ((P 19).s.n 2) ((P 19).s.n 3)) (tk3 (lt 3 0) (lt 3 1) (lt 3 2)))) ∧ ltT (lt4 (tk3 (lt 0 0) (lt 0 1) (lt 0 2)) (tk3 (lt 1 0) (lt 1 1) (lt 1 2)) (tk3 ((P 19).s.n 1) ((P 19).s.n 2) ((P 19).s.n 3)) (tk3 (lt 3 0) (lt 3 1) (lt 3 2))) (((P 22).tk))), impI (fun g => by
        simp only [mnL002, List.drop_succ_cons, List.drop_zero, List.forall_mem_cons] at g
        have z := ltT_next (lt' := (lt4 (tk3 (lt 0 0) (lt 0 1) (lt 0 2)) (tk3 (lt 1 0) (lt 1 1) (lt 1 2)) (tk3 ((P 19).s.n 1) ((P 19).s.n 2) ((P 19).s.n 3)) (tk3 (lt 3 0) (lt 3 1) (lt 3 2)))) (m := 2) (T0 := tk) (T1 := ((P 22).tk)) hD ht (by omega) (fun k hk hn i hi => by
          rcases k with _ | _ | _ | _ | k <;> rcases i with _ | _ | _ | i <;> first | rfl | exact absurd rfl hn | exact absurd hi (by omega) | exact absurd hk (by omega)) (tk3_ok (by omega) (by omega) (by omega))
        exact ⟨⟨⟨app_le hc.1, app_le hc.2⟩, z.1⟩, z.2⟩)⟩)
      (fun tk _ P g => ⟨mn_fact hm (g (frFact h len ((P 10).s.v 0)) (.tail _ (.tail _ (.tail _ (.tail _ (.tail _ (.tail _ (.tail _ (.tail _ (.tail _ (.tail _ (.tail _ (.tail _ (.tail _ (.tail _ (.tail _ (.head _))))))))))))))))) (g (mnFact h pv (Nat.succ j) n (nx len 2) (cs ++ [Value.int (Int.ofNat ((P 10).s.v 0).length) ((P 11).s.n 0)]) (ms ++ [Value.int (Int.ofNat 2) (tOf ((P 10).s.v 0) (Int.fmod (0 : Int) (Int.ofNat ((P 10).s.v 0).length)).toNat)]) (P 23).s) (.tail _ (.tail _ (.head _)))), trivial⟩) (fun tk ht P => ?_)
  exact Bool.casesOn b₁ (Bool.casesOn b₂ (by kernel_rfl!) (by kernel_rfl!)) (Bool.casesOn b₂ (by kernel_rfl!) (by kernel_rfl!))
noncomputable def mnH003 : Bool → List Hint
  | true => [.l 1, .c 0 [1], .l 1, .l 1, .t, .t, .i, .i, .l 0, .l 0, .i, .l 0, .l 0, .l 0, .l 0, .i, .l 0, .l 0, .l 0, .l 0, .l 0, .i, .a 1 [2, 1, 0, 6, 13, 13, 13], .l 8, .l 8, .l 1, .l 1, .l 1, .t, .t, .i, .i, .l 0, .l 0, .i, .l 0, .l 0, .l 0, .l 0, .i, .l 0, .l 0, .l 0, .l 0, .l 0, .i, .ah 2 [2, 1, 0, 14, 14, 14, 14, 14, 14] 0, .l 17, .l 17, .l 1, .l 1, .l 1, .l 17, .l 19, .l 19, .l 19, .l 19, .t, .t, .l 17, .ch 3 [0] 1, .ch 4 [19] 2, .l 18, .qh 0 [2, 0] 3, .l 19, .t, .t, .l 19, .ch 3 [20] 4, .c 5 [], .l 20, .l 20, .l 20, .l 20, .t, .t, .l 20, .ch 3 [3] 5, .ch 7 [] 6, .l 0, .l 0, .l 0, .ch 8 [0] 7, .l 20, .l 20, .l 20, .i, .l 20, .l 20, .i, .l 12, .l 12, .l 12, .i, .l 12, .l 12, .l 20, .l 20, .l 12, .l 12, .i, .l 12, .l 12, .l 12, .l 12, .t, .l 20, .l 20, .l 12, .l 12, .l 12, .i, .l 12, .l 12, .l 22, .t, .c 10 [], .l 6, .l 21, .l 7, .l 7, .i, .l 7, .l 7, .l 7, .l 7, .l 21, .l 22, .l 22, .l 22, .l 22, .l 21, .ch 4 [22] 8, .l 22, .l 14, .l 14, .i, .l 14, .l 0, .c 11 [23, 0, 14, 15, 15, 15, 15], .ah 12 [0, 20, 7, 8, 4, 0, 16, 7, 7, 7, 7, 7, 3, 0, 0, 0] 9]
  | false => [.l 1, .c 0 [1], .l 1, .l 1, .t, .t, .i, .i, .l 0, .l 0, .i, .l 0, .l 0, .l 0, .l 0, .i, .l 0, .l 0, .l 0, .l 0, .l 0, .i, .l 2, .l 2, .i, .l 2, .l 2, .a 1 [2, 1, 0, 6, 13, 13, 13], .l 8, .l 8, .l 1, .l 1, .l 1, .t, .t, .i, .i, .l 0, .l 0, .i, .l 0, .l 0, .l 0, .l 0, .i, .l 0, .l 0, .l 0, .l 0, .l 0, .i, .l 2, .l 2, .i, .l 2, .l 2, .ah 2 [2, 1, 0, 14, 14, 14, 14, 14, 14] 0, .l 17, .l 17, .l 1, .l 1, .l 1, .l 17, .l 19, .l 19, .l 19, .l 19, .t, .t, .l 17, .ch 3 [0] 1, .ch 4 [19] 2, .l 18, .qh 0 [2, 0] 3, .l 19, .t, .t, .l 19, .ch 3 [20] 4, .c 5 [], .l 20, .l 20, .l 20, .l 20, .t, .t, .l 20, .ch 3 [3] 5, .ch 7 [] 6, .l 0, .l 0, .l 0, .ch 8 [0] 7, .l 20, .l 20, .l 20, .i, .l 20, .l 20, .i, .l 12, .l 12, .l 12, .i, .l 12, .l 12, .l 20, .l 20, .l 12, .l 12, .i, .l 12, .l 12, .l 12, .l 12, .t, .l 20, .l 20, .l 12, .l 12, .l 12, .i, .l 12, .l 12, .l 22, .t, .c 10 [], .l 6, .l 21, .l 7, .l 7, .i, .l 7, .l 7, .l 7, .l 7, .l 21, .l 22, .l 22, .l 22, .l 22, .l 21, .ch 4 [22] 8, .l 22, .l 14, .l 14, .i, .l 14, .l 0, .c 11 [23, 0, 14, 15, 15, 15, 15], .ah 12 [0, 20, 7, 8, 4, 0, 16, 7, 7, 7, 7, 7, 3, 0, 0, 0] 9]
noncomputable def mnL003 (h n j : Nat) (pv cs ms : List Value) (len : Nat → Nat) (tk : Nat) (P : Nat → Ev) : List Prop := [(((P 22).tk) ≤ ((P 23).tk)), True, mnFact h pv (Nat.succ j) n (nx len 3) (cs ++ [Value.int (Int.ofNat ((P 10).s.v 0).length) ((P 11).s.n 0)]) (ms ++ [Value.int (Int.ofNat 3) (tOf ((P 10).s.v 0) (Int.fmod (0 : Int) (Int.ofNat ((P 10).s.v 0).length)).toNat)]) (P 23).s, (((P 20).tk) ≤ ((P 22).tk)), (((P 19).tk) ≤ ((P 20).tk)), ((Nat.succ (Nat.succ (Nat.succ (Nat.succ ((P 18).tk))))) ≤ ((P 19).tk)), ((((Nat.succ (Nat.succ (Nat.succ (Nat.succ ((P 18).tk))))) < (Nat.succ ((P 19).s.n 1))) ∧ ((Nat.succ ((P 19).s.n 1)) ≤ ((P 19).tk))) ∧ ((((Nat.succ (Nat.succ (Nat.succ (Nat.succ ((P 18).tk))))) < (Nat.succ ((P 19).s.n 2))) ∧ ((Nat.succ ((P 19).s.n 2)) ≤ ((P 19).tk))) ∧ (((Nat.succ (Nat.succ (Nat.succ (Nat.succ ((P 18).tk))))) < (Nat.succ ((P 19).s.n 3))) ∧ ((Nat.succ ((P 19).s.n 3)) ≤ ((P 19).tk))))), (((P 17).tk) ≤ ((P 18).tk)), (((P 16).tk) ≤ ((P 17).tk)), ((Nat.succ (Nat.succ ((P 15).tk))) ≤ ((P 16).tk)), (((P 14).tk) ≤ ((P 15).tk)), (((P 12).tk) ≤ ((P 14).tk)), (((P 11).tk) ≤ ((P 12).tk)), ((Nat.succ ((P 10).tk)) ≤ ((P 11).tk)), ((Nat.succ (Nat.succ (Nat.succ (Nat.succ ((P 5).tk))))) ≤ ((P 10).tk)), frFact h len ((P 10).s.v 0), ((Nat.succ (Nat.succ (Nat.succ (Nat.succ ((P 0).tk))))) ≤ ((P 5).tk)), (tk ≤ ((P 0).tk))]
theorem mn003 {b₁ b₂ : Bool} (G : Good (mkV U b₁ b₂)) {h ht n j : Nat} {pv : List Value} {pe : Nat} {x : Mx} {text : Str} {t : Nat} {σ : Sup} (hj : j < 27) (len : Nat → Nat) (hh : h ∈ [4, 6, 8]) (hl : ∀ k, k < 4 → 1 ≤ len k ∧ len k < 39) (hpv : AllInt pv) (hpl : pv.length ≤ 1000) (hf : 0 < (frees h len).length) (hlt : decide (Int.ofNat j < Int.ofNat pv.length) = false) (hm : mvOf h len (pkZ pv j) = 3)
    (IH : ∀ x u ia ll el li lt cs ec ms em tw e, Meets (mkV U b₁ b₂) (S_mn (mkV U b₁ b₂) false (Nat.succ j) n x u ia ll el li lt h ht pv pe cs ec ms em text t σ (nx len 3) tw e))
    (u : Ux) (ia ll : Addr) (el : Nat) (li : Nat → Addr) (lt : Nat → Nat → Nat) (cs : List Value) (ec : Nat) (ms : List Value) (em : Nat) (tw : Nat → Nat) (e : Nat) : Meets (mkV U b₁ b₂) (S_mn (mkV U b₁ b₂) false j (Nat.succ n) x u ia ll el li lt h ht pv pe cs ec ms em text t σ len tw e) := by
  refine Meets.hyp fun hy => ?_
  have hc : cs.length ≤ j ∧ ms.length ≤ j := hy.1
  have hD : ltD lt := hy.2
  have hj' : j < 27 := hj
  skip
  have c1 : cs.length ≤ 1000 := by have := hc.1; omega
  have m1 : ms.length ≤ 1000 := by have := hc.2; omega
  have hm' : mvOf h len (0 : Int) = 3 := by rw [← pk_no hlt]; exact hm
  have ll' : nx len 3 3 < 40 := by have := (hl 2 (by decide)).2; show len 2 < 40; omega
  obtain ⟨hr, h6, _⟩ := lt_fin h hh _ (List.mem_range.mpr ll')
  have C : ∀ P : Nat → Ev, CsOk (mkV U b₁ b₂) (mnC (mkV U b₁ b₂) j n 3 false h ht pv pe x text t σ lt len P) :=
    mnC_ok G hh hl hD hlt ll' hr h6 IH
  have D : DsOk (mkV U b₁ b₂) [D_eqF] := ⟨D_eqF_ok, trivial⟩
  refine meets_dep (dep := depC) G C mnC_dep D (sgMn (mkV U b₁ b₂) x ia) (fun A R L tk q => mn_conv q) 387 (mnH003 b₂) (fun tk P => (P 23).s) (fun tk P => (mnL003 h n j pv cs ms len tk P)) [0, 0, 0, 0, 0, 0, 0] (fun tk P => (P 23).tk)
      (fun tk ht P q => match q with
      | 0 => ⟨impL ((mnL003 h n j pv cs ms len tk P).drop 16) (([] : List Value).length ≤ 0), impI (fun _ => Nat.le_refl 0)⟩
      | 1 => ⟨impL ((mnL003 h n j pv cs ms len tk P).drop 14) (((P 10).s.v 0).length ≤ 1000), impI (fun g => fr_le (g (frFact h len ((P 10).s.v 0)) (.tail _ (.head _))))⟩
      | 2 => ⟨impL ((mnL003 h n j pv cs ms len tk P).drop 13) (cs.length ≤ 1000), impI (fun _ => c1)⟩
      | 3 => ⟨impL ((mnL003 h n j pv cs ms len tk P).drop 12) (((P 10).s.v 0).length ≠ ([] : List Value).length), impI (fun g => fr_ne hf (g (frFact h len ((P 10).s.v 0)) (.tail _ (.tail _ (.tail _ (.head _))))))⟩
      | 4 => ⟨impL ((mnL003 h n j pv cs ms len tk P).drop 12) (pv.length ≤ 1000), impI (fun _ => hpl)⟩
      | 5 => ⟨impL ((mnL003 h n j pv cs ms len tk P).drop 10) (((P 10).s.v 0).length ≤ 1000), impI (fun g => fr_le (g (frFact h len ((P 10).s.v 0)) (.tail _ (.tail _ (.tail _ (.tail _ (.tail _ (.head _))))))))⟩
      | 6 => ⟨impL ((mnL003 h n j pv cs ms len tk P).drop 9) (Int.ofNat ((P 10).s.v 0).length ≠ 0), impI (fun g => fr_nz hf (g (frFact h len ((P 10).s.v 0)) (.tail _ (.tail _ (.tail _ (.tail _ (.tail _ (.tail _ (.head _)))))))))⟩
      | 7 => ⟨impL ((mnL003 h n j pv cs ms len tk P).drop 8) (0 ≤ Int.fmod (0 : Int) (Int.ofNat ((P 10).s.v 0).length) ∧ Int.fmod (0 : Int) (Int.ofNat ((P 10).s.v 0).length) < 1000 ∧ ∃ u, ((P 10).s.v 0)[(Int.fmod (0 : Int) (Int.ofNat ((P 10).s.v 0).length)).toNat]? = some (Value.int (Int.ofNat 3) u)), impI (fun g => fr_get hf hm' (g (frFact h len ((P 10).s.v 0)) (.tail _ (.tail _ (.tail _ (.tail _ (.tail _ (.tail _ (.tail _ (.head _))))))))))⟩
      | 8 => ⟨impL ((mnL003 h n j pv cs ms len tk P).drop 5) (ms.length ≤ 1000), impI (fun _ => m1)⟩
      | _ => ⟨impL ((mnL003 h n j pv cs ms len tk P).drop 3) ((((cs ++ [Value.int (Int.ofNat ((P 10).s.v 0).length) ((P 11).s.n 0)]).length ≤ Nat.succ j ∧ (ms ++ [Value.int (Int.ofNat 3) (tOf ((P 10).s.v 0) (Int.fmod (0 : Int) (Int.ofNat ((P 10).s.v 0).length)).toNat)]).length ≤ Nat.succ j) ∧ ltD (lt4 (tk3 (lt 0 0) (lt 0 1) (lt 0 2)) (tk3 (lt 1 0) (lt 1 1) (lt 1 2)) (tk3 (lt 2 0) (lt 2 1) (lt 2 2)) (tk3 ((P 19).s.n 1) ((P 19).s.n 2) ((P 19).s.n 3)))) ∧ ltT (lt4 (tk3 (lt 0 0) (lt 0 1) (lt 0 2)) (tk3 (lt 1 0) (lt 1 1) (lt 1 2)) (tk3 (lt 2 0) (lt 2 1) (lt 2 2)) (tk3 ((P 19).s.n 1) ((P 19).s.n 2) ((P 19).s.n 3))) (((P 22).tk))), impI (fun g => by
        simp only [mnL003, List.drop_succ_cons, List.drop_zero, List.forall_mem_cons] at g
        have z := ltT_next (lt' := (lt4 (tk3 (lt 0 0) (lt 0 1) (lt 0 2)) (tk3 (lt 1 0) (lt 1 1) (lt 1 2)) (tk3 (lt 2 0) (lt 2 1) (lt 2 2)) (tk3 ((P 19).s.n 1) ((P 19).s.n 2) ((P 19).s.n 3)))) (m := 3) (T0 := tk) (T1 := ((P 22).tk)) hD ht (by omega) (fun k hk hn i hi => by
          rcases k with _ | _ | _ | _ | k <;> rcases i with _ | _ | _ | i <;> first | rfl | exact absurd rfl hn | exact absurd hi (by omega) | exact absurd hk (by omega)) (tk3_ok (by omega) (by omega) (by omega))
        exact ⟨⟨⟨app_le hc.1, app_le hc.2⟩, z.1⟩, z.2⟩)⟩)
      (fun tk _ P g => ⟨mn_fact hm (g (frFact h len ((P 10).s.v 0)) (.tail _ (.tail _ (.tail _ (.tail _ (.tail _ (.tail _ (.tail _ (.tail _ (.tail _ (.tail _ (.tail _ (.tail _ (.tail _ (.tail _ (.tail _ (.head _))))))))))))))))) (g (mnFact h pv (Nat.succ j) n (nx len 3) (cs ++ [Value.int (Int.ofNat ((P 10).s.v 0).length) ((P 11).s.n 0)]) (ms ++ [Value.int (Int.ofNat 3) (tOf ((P 10).s.v 0) (Int.fmod (0 : Int) (Int.ofNat ((P 10).s.v 0).length)).toNat)]) (P 23).s) (.tail _ (.tail _ (.head _)))), trivial⟩) (fun tk ht P => ?_)
  exact Bool.casesOn b₁ (Bool.casesOn b₂ (by kernel_rfl!) (by kernel_rfl!)) (Bool.casesOn b₂ (by kernel_rfl!) (by kernel_rfl!))
end
end Mine
end
section
set_option maxRecDepth 100000
set_option maxHeartbeats 4000000
namespace Mine
open PySem PySem.W PySem.W.X PyProof.Rows
/-! the plain law of the ring -/
/-- place k is free, by the rests of the dots -/
noncomputable def fzR (h : Nat) (len : Nat → Nat) (k : Nat) : Bool := match k with
  | 0 => decide (len 0 % h = len 3 % h)
  | k + 1 => !decide (len (k + 1) % h = len k % h)
theorem li_tab : ∀ h ∈ [4, 6, 8], ∀ l ∈ List.range 40, (light l h (rr l h)).a = (light (l % h) h (rr (l % h) h)).a ∧ (light l h (rr l h)).b = (light (l % h) h (rr (l % h) h)).b ∧ (light l h (rr l h)).c = (light (l % h) h (rr (l % h) h)).c := by decide +kernel
theorem li_dst : ∀ h ∈ [4, 6, 8], ∀ i ∈ List.range h, ∀ j ∈ List.range h, triEq (light i h (rr i h)) (light j h (rr j h)) = decide (i = j) := by decide +kernel
theorem hpos {h : Nat} (hh : h ∈ [4, 6, 8]) : 2 ≤ h := by
  have : h = 4 ∨ h = 6 ∨ h = 8 := by simpa using hh
  omega
theorem li_eq {h i j : Nat} (hh : h ∈ [4, 6, 8]) (hi : i < 40) (hj : j < 40) : triEq (light i h (rr i h)) (light j h (rr j h)) = decide (i % h = j % h) := by
  have e : ∀ l, l < 40 → light l h (rr l h) = light (l % h) h (rr (l % h) h) := fun l hl => by
    obtain ⟨a, b, c⟩ := li_tab h hh l (List.mem_range.mpr hl)
    generalize light l h (rr l h) = p at a b c
    generalize light (l % h) h (rr (l % h) h) = q at a b c
    cases p; cases q
    simp only at a b c
    subst a b c
    rfl
  have hp := hpos hh
  rw [e i hi, e j hj]
  exact li_dst h hh _ (List.mem_range.mpr (Nat.mod_lt _ (by omega))) _ (List.mem_range.mpr (Nat.mod_lt _ (by omega)))
theorem fz_eq {h : Nat} {len : Nat → Nat} (hh : h ∈ [4, 6, 8]) (hl : ∀ k, k < 4 → len k < 40) {k : Nat} (hk : k < 4) : fzOf (LT h len) k = fzR h len k := by
  cases k with
  | zero => exact li_eq hh (hl 0 (by omega)) (hl 3 (by omega))
  | succ k =>
    show (!triEq (light _ _ _) (light _ _ _)) = !decide _
    rw [li_eq hh (hl (k + 1) hk) (hl k (by omega))]
theorem frL_congr {f g : Nat → Bool} : ∀ {m k : Nat}, (∀ i, k ≤ i → i < k + m → f i = g i) → frL f k m = frL g k m
  | 0, _, _ => rfl
  | m + 1, k, e => by
    show (match f k with | true => [k] | false => []) ++ frL f (k + 1) m = (match g k with | true => [k] | false => []) ++ frL g (k + 1) m
    rw [e k (Nat.le_refl _) (by omega), frL_congr fun i h1 h2 => e i (by omega) (by omega)]
theorem frees_eq {h : Nat} {len : Nat → Nat} (hh : h ∈ [4, 6, 8]) (hl : ∀ k, k < 4 → len k < 40) : frees h len = frL (fzR h len) 0 4 :=
  frL_congr fun _ _ hi => fz_eq hh hl (by omega)
/-- how many of the four are free -/
noncomputable def b2n (b : Bool) : Nat := match b with | true => 1 | false => 0
noncomputable def nf (f : Nat → Bool) : Nat := b2n (f 0) + b2n (f 1) + b2n (f 2) + b2n (f 3)
theorem frL_nf (f : Nat → Bool) : (frL f 0 4).length = nf f := by
  unfold nf frL frL frL frL frL
  cases f 0 <;> cases f 1 <;> cases f 2 <;> cases f 3 <;> rfl
theorem frL_memG (f : Nat → Bool) (m : Nat) : ∀ n k, m ∈ frL f k n → k ≤ m ∧ m < k + n ∧ f m = true
  | 0, _, h => nomatch h
  | n + 1, k, h => by
    have h' : m ∈ (match f k with | true => [k] | false => []) ++ frL f (k + 1) n := h
    rcases List.mem_append.mp h' with g | g
    · cases e : f k with
      | true =>
        rw [e] at g
        have : m = k := by simpa using g
        subst this
        exact ⟨Nat.le_refl _, by omega, e⟩
      | false => rw [e] at g; exact nomatch g
    · have z := frL_memG f m n (k + 1) g
      exact ⟨by omega, by omega, z.2.2⟩
theorem frL_mem (f : Nat → Bool) (m : Nat) (h : m ∈ frL f 0 4) : m < 4 ∧ f m = true := by
  have z := frL_memG f m 4 0 h
  exact ⟨by omega, z.2.2⟩
theorem four {m : Nat} (h : m < 4) : m = 0 ∨ m = 1 ∨ m = 2 ∨ m = 3 := by omega
theorem nf_pos (h : Nat) (len : Nat → Nat) : 0 < nf (fzR h len) := by
  unfold nf
  by_cases e1 : len 1 % h = len 0 % h
  · by_cases e2 : len 2 % h = len 1 % h
    · by_cases e3 : len 3 % h = len 2 % h
      · have : fzR h len 0 = true := decide_eq_true (by rw [e3, e2, e1])
        rw [this]; show 0 < 1 + _ + _ + _; omega
      · have : fzR h len 3 = true := by show (!decide (len 3 % h = len 2 % h)) = true; rw [decide_eq_false e3]; rfl
        rw [this]; show 0 < _ + _ + _ + 1; omega
    · have : fzR h len 2 = true := by show (!decide (len 2 % h = len 1 % h)) = true; rw [decide_eq_false e2]; rfl
      rw [this]; show 0 < _ + _ + 1 + _; omega
  · have : fzR h len 1 = true := by show (!decide (len 1 % h = len 0 % h)) = true; rw [decide_eq_false e1]; rfl
    rw [this]; show 0 < _ + 1 + _ + _; omega
noncomputable abbrev LenOk (B : Nat) (len : Nat → Nat) : Prop := ∀ k, k < 4 → 1 ≤ len k ∧ len k ≤ B
theorem LenOk.lt {B : Nat} {len : Nat → Nat} (h : LenOk B len) (hB : B < 40) : ∀ k, k < 4 → len k < 40 := fun k hk => by have := h k hk; omega
theorem frees_pos {h : Nat} {len : Nat → Nat} (hh : h ∈ [4, 6, 8]) (hl : ∀ k, k < 4 → len k < 40) : 0 < (frees h len).length := by
  rw [frees_eq hh hl, frL_nf]
  exact nf_pos h len
theorem mvOf_mem {h : Nat} {len : Nat → Nat} {p : Int} (hf : 0 < (frees h len).length) : mvOf h len p ∈ frees h len := by
  unfold mvOf
  have h1 : 0 ≤ Int.fmod p (Int.ofNat (frees h len).length) := Int.fmod_nonneg_of_pos p (Int.ofNat_lt.mpr hf)
  have h2 : Int.fmod p (Int.ofNat (frees h len).length) < Int.ofNat (frees h len).length := Int.fmod_lt_of_pos p (Int.ofNat_lt.mpr hf)
  have h3 : (Int.fmod p (Int.ofNat (frees h len).length)).toNat < (frees h len).length := by
    have : (Int.ofNat (frees h len).length) = ((frees h len).length : Int) := rfl
    omega
  rw [List.getElem?_eq_getElem h3]
  exact List.getElem_mem h3
theorem mvOf_ok {h : Nat} {len : Nat → Nat} (hh : h ∈ [4, 6, 8]) (hl : ∀ k, k < 4 → len k < 40) (p : Int) : mvOf h len p < 4 ∧ fzR h len (mvOf h len p) = true := by
  have := mvOf_mem (p := p) (frees_pos hh hl)
  rw [frees_eq hh hl] at this
  exact frL_mem _ _ this
theorem nx_ok {B m : Nat} {len : Nat → Nat} (h : LenOk B len) : LenOk (B + 1) (nx len m) := by
  have h0 := h 0 (by omega)
  have h1 := h 1 (by omega)
  have h2 := h 2 (by omega)
  have h3 := h 3 (by omega)
  intro k hk
  rcases m with _ | _ | _ | m <;> rcases k with _ | _ | _ | _ | k <;> first | (exact absurd hk (by omega)) | (show 1 ≤ Nat.succ (len 0) ∧ Nat.succ (len 0) ≤ B + 1; omega) | (show 1 ≤ len 0 ∧ len 0 ≤ B + 1; omega) | (show 1 ≤ len 1 ∧ len 1 ≤ B + 1; omega) | (show 1 ≤ len 2 ∧ len 2 ≤ B + 1; omega) | (show 1 ≤ len 3 ∧ len 3 ≤ B + 1; omega)
/-- what a move does to who is free -/
theorem fz_move {h m : Nat} {len : Nat → Nat} (hh : h ∈ [4, 6, 8]) (hm : m < 4) (f : fzR h len m = true) :
    fzR h (nx len m) m = false ∧ ∀ k, k < 4 → k ≠ m → k ≠ (m + 1) % 4 → fzR h (nx len m) k = fzR h len k := by
  have hp := hpos hh
  rcases m with _ | _ | _ | _ | m
  · have e : len 0 % h = len 3 % h := of_decide_eq_true f
    refine ⟨decide_eq_false ?_, fun k hk h1 h2 => ?_⟩
    · show ¬ Nat.succ (len 0) % h = len 3 % h
      rw [← e]
      have : h = 4 ∨ h = 6 ∨ h = 8 := by simpa using hh
      rcases this with rfl | rfl | rfl <;> omega
    · rcases k with _ | _ | _ | _ | k
      · exact absurd rfl h1
      · exact absurd rfl h2
      · rfl
      · rfl
      · omega
  · refine ⟨?_, fun k hk h1 h2 => ?_⟩
    · show (!decide (len 0 % h = len 0 % h)) = false
      simp
    · rcases k with _ | _ | _ | _ | k
      · rfl
      · exact absurd rfl h1
      · exact absurd rfl h2
      · rfl
      · omega
  · refine ⟨?_, fun k hk h1 h2 => ?_⟩
    · show (!decide (len 1 % h = len 1 % h)) = false
      simp
    · rcases k with _ | _ | _ | _ | k
      · rfl
      · rfl
      · exact absurd rfl h1
      · exact absurd rfl h2
      · omega
  · refine ⟨?_, fun k hk h1 h2 => ?_⟩
    · show (!decide (len 2 % h = len 2 % h)) = false
      simp
    · rcases k with _ | _ | _ | _ | k
      · exact absurd rfl h2
      · rfl
      · rfl
      · exact absurd rfl h1
      · omega
  · omega
theorem b2n_le (b : Bool) : b2n b ≤ 1 := by cases b <;> decide
theorem nf_move {h m : Nat} {len : Nat → Nat} (hh : h ∈ [4, 6, 8]) (hm : m < 4) (f : fzR h len m = true) : nf (fzR h (nx len m)) ≤ nf (fzR h len) := by
  obtain ⟨h1, h2⟩ := fz_move hh hm f
  unfold nf
  rcases four hm with rfl | rfl | rfl | rfl
  · rw [h1, h2 2 (by omega) (by omega) (by omega), h2 3 (by omega) (by omega) (by omega), f]
    have := b2n_le (fzR h (nx len 0) 1)
    show 0 + _ + _ + _ ≤ 1 + _ + _ + _
    omega
  · rw [h1, h2 0 (by omega) (by omega) (by omega), h2 3 (by omega) (by omega) (by omega), f]
    have := b2n_le (fzR h (nx len 1) 2)
    show _ + 0 + _ + _ ≤ _ + 1 + _ + _
    omega
  · rw [h1, h2 0 (by omega) (by omega) (by omega), h2 1 (by omega) (by omega) (by omega), f]
    have := b2n_le (fzR h (nx len 2) 3)
    show _ + _ + 0 + _ ≤ _ + _ + 1 + _
    omega
  · rw [h1, h2 1 (by omega) (by omega) (by omega), h2 2 (by omega) (by omega) (by omega), f]
    have := b2n_le (fzR h (nx len 3) 0)
    show _ + _ + _ + 0 ≤ _ + _ + _ + 1
    omega
/-! how many moves until one is free: a table by the differences -/
noncomputable def dif (h : Nat) (len : Nat → Nat) (k : Nat) : Nat := (len k + h - len 0 % h) % h
noncomputable def fzD (d1 d2 d3 : Nat) (m : Nat) : Bool := match m with
  | 0 => decide (d3 = 0)
  | 1 => !decide (d1 = 0)
  | 2 => !decide (d2 = d1)
  | _ => !decide (d3 = d2)
noncomputable def rkT (h : Nat) : Nat := match h with
  | 4 => 0x2264347443a888734472026443d8887344b434b220acccb0115101511090000
  | 6 => 0x2222643444744344744434744443a88888734444720222644344744434744443a88888734444743444722022644434744443a88888734444743444744344722202644443d88888734444b43444b44344b44434b22220acccccb011115101115110115111015111109000000
  | _ => 0x222222643444447443444474443444744443447444443474444443a888888873444444720222226443444474443444744443447444443474444443a888888873444444743444447220222264443444744443447444443474444443a888888873444444743444447443444472220222644443447444443474444443a888888873444444743444447443444474443444722220226444443474444443a888888873444444743444447443444474443444744443447222220264444443d888888873444444b4344444b4434444b4443444b4444344b4444434b2222220acccccccb0111111510111115110111151110111511110115111110151111110900000000
noncomputable def rkD (h d1 d2 d3 : Nat) : Nat := (rkT h >>> (4 * ((d1 * h + d2) * h + d3))) % 16
noncomputable def ndD (h d1 d2 d3 m k : Nat) : Nat := match m with
  | 0 => (match k with | 1 => (d1 + h - 1) % h | 2 => (d2 + h - 1) % h | _ => (d3 + h - 1) % h)
  | 1 => (match k with | 1 => 0 | 2 => d2 | _ => d3)
  | 2 => (match k with | 1 => d1 | 2 => d1 | _ => d3)
  | _ => (match k with | 1 => d1 | 2 => d2 | _ => d2)
noncomputable def rkOk (h d1 d2 d3 : Nat) : Bool :=
  Nat.ble (rkD h d1 d2 d3) 13 && (match rkD h d1 d2 d3 with | 0 => Nat.beq (nf (fzD d1 d2 d3)) 1 | _ => true) &&
  [0, 1, 2, 3].all fun m => match fzD d1 d2 d3 m with
    | true => Nat.ble (rkD h (ndD h d1 d2 d3 m 1) (ndD h d1 d2 d3 m 2) (ndD h d1 d2 d3 m 3)) (rkD h d1 d2 d3 - 1)
    | false => true
theorem rk_ok4 : (List.range 4).all (fun d1 => (List.range 4).all fun d2 => (List.range 4).all fun d3 => rkOk 4 d1 d2 d3) = true := by decide +kernel
theorem rk_ok6 : (List.range 6).all (fun d1 => (List.range 6).all fun d2 => (List.range 6).all fun d3 => rkOk 6 d1 d2 d3) = true := by decide +kernel
theorem rk_ok8 : (List.range 8).all (fun d1 => (List.range 8).all fun d2 => (List.range 8).all fun d3 => rkOk 8 d1 d2 d3) = true := by decide +kernel
theorem rk_all {h d1 d2 d3 : Nat} (hh : h ∈ [4, 6, 8]) (h1 : d1 < h) (h2 : d2 < h) (h3 : d3 < h) : rkOk h d1 d2 d3 = true := by
  have : h = 4 ∨ h = 6 ∨ h = 8 := by simpa using hh
  rcases this with rfl | rfl | rfl
  · exact List.all_eq_true.mp (List.all_eq_true.mp (List.all_eq_true.mp rk_ok4 d1 (List.mem_range.mpr h1)) d2 (List.mem_range.mpr h2)) d3 (List.mem_range.mpr h3)
  · exact List.all_eq_true.mp (List.all_eq_true.mp (List.all_eq_true.mp rk_ok6 d1 (List.mem_range.mpr h1)) d2 (List.mem_range.mpr h2)) d3 (List.mem_range.mpr h3)
  · exact List.all_eq_true.mp (List.all_eq_true.mp (List.all_eq_true.mp rk_ok8 d1 (List.mem_range.mpr h1)) d2 (List.mem_range.mpr h2)) d3 (List.mem_range.mpr h3)
noncomputable def rk (h : Nat) (len : Nat → Nat) : Nat := rkD h (dif h len 1) (dif h len 2) (dif h len 3)
theorem dif_lt {h : Nat} {len : Nat → Nat} (hh : h ∈ [4, 6, 8]) (k : Nat) : dif h len k < h := Nat.mod_lt _ (by have := hpos hh; omega)
theorem dr_eq {h a b : Nat} (h0 : 0 < h) : (b + h - a % h) % h = if b % h < a % h then b % h + h - a % h else b % h - a % h := by
  have ha := Nat.mod_lt a h0
  have hb := Nat.mod_lt b h0
  have e : b + h - a % h = b + (h - a % h) := by omega
  rw [e, ← Nat.mod_add_mod]
  by_cases c : b % h < a % h
  · rw [if_pos c, Nat.mod_eq_of_lt (by omega)]; omega
  · rw [if_neg c, Nat.mod_eq_sub_mod (by omega), Nat.mod_eq_of_lt (by omega)]; omega
theorem sc_eq {h a : Nat} (h0 : 0 < h) : Nat.succ a % h = if a % h + 1 = h then 0 else a % h + 1 := by
  have ha := Nat.mod_lt a h0
  show (a + 1) % h = _
  rw [← Nat.mod_add_mod]
  by_cases c : a % h + 1 = h
  · rw [if_pos c, c, Nat.mod_self]
  · rw [if_neg c, Nat.mod_eq_of_lt (by omega)]
theorem pr_eq {h d : Nat} (hd : d < h) : (d + h - 1) % h = if d = 0 then h - 1 else d - 1 := by
  by_cases c : d = 0
  · rw [if_pos c, Nat.mod_eq_of_lt (by omega)]; omega
  · rw [if_neg c, Nat.mod_eq_sub_mod (by omega), Nat.mod_eq_of_lt (by omega)]; omega
/-- differences to r alike iff alike -/
theorem dr_inj {h r s t : Nat} (hr : r < h) (hs : s < h) (ht : t < h) : ((if s < r then s + h - r else s - r) = if t < r then t + h - r else t - r) ↔ s = t := by
  split <;> split <;> omega
theorem dr_zero {h r s : Nat} (hr : r < h) (_ : s < h) : (if s < r then s + h - r else s - r) = 0 ↔ s = r := by
  split <;> omega
theorem dr_step {h a b : Nat} (h0 : 0 < h) : (b + h - Nat.succ a % h) % h = ((b + h - a % h) % h + h - 1) % h := by
  have ha := Nat.mod_lt a h0
  have hb := Nat.mod_lt b h0
  rw [pr_eq (Nat.mod_lt _ h0), dr_eq h0, dr_eq h0, sc_eq h0]
  generalize a % h = r at *
  generalize b % h = s at *
  by_cases c : r + 1 = h
  · rw [if_pos c, if_neg (by omega : ¬ s < 0)]
    split <;> split <;> omega
  · rw [if_neg c]
    split <;> split <;> split <;> omega
theorem fzD_eq {h m : Nat} {len : Nat → Nat} (hh : h ∈ [4, 6, 8]) (hm : m < 4) : fzD (dif h len 1) (dif h len 2) (dif h len 3) m = fzR h len m := by
  have h0 : 0 < h := by have := hpos hh; omega
  have l : ∀ k, len k % h < h := fun k => Nat.mod_lt _ h0
  unfold dif
  rcases four hm with rfl | rfl | rfl | rfl
  · show decide _ = decide _
    rw [decide_eq_decide, dr_eq h0]
    exact (dr_zero (l 0) (l 3)).trans ⟨fun e => e.symm, fun e => e.symm⟩
  · show (!decide _) = !decide (len 1 % h = len 0 % h)
    congr 1
    rw [decide_eq_decide, dr_eq h0]
    exact dr_zero (l 0) (l 1)
  · show (!decide _) = !decide (len 2 % h = len 1 % h)
    congr 1
    rw [decide_eq_decide, dr_eq h0, dr_eq h0]
    exact dr_inj (l 0) (l 2) (l 1)
  · show (!decide _) = !decide (len 3 % h = len 2 % h)
    congr 1
    rw [decide_eq_decide, dr_eq h0, dr_eq h0]
    exact dr_inj (l 0) (l 3) (l 2)
theorem dif_nx {h m k : Nat} {len : Nat → Nat} (hh : h ∈ [4, 6, 8]) (hm : m < 4) (hk : k = 1 ∨ k = 2 ∨ k = 3) : dif h (nx len m) k = ndD h (dif h len 1) (dif h len 2) (dif h len 3) m k := by
  have h0 : 0 < h := by have := hpos hh; omega
  unfold dif
  rcases four hm with rfl | rfl | rfl | rfl
  · rcases hk with rfl | rfl | rfl
    · exact dr_step h0
    · exact dr_step h0
    · exact dr_step h0
  · rcases hk with rfl | rfl | rfl
    · show (len 0 + h - len 0 % h) % h = 0
      rw [dr_eq h0, if_neg (Nat.lt_irrefl _), Nat.sub_self]
    · rfl
    · rfl
  · rcases hk with rfl | rfl | rfl <;> rfl
  · rcases hk with rfl | rfl | rfl <;> rfl
theorem rk_le {h : Nat} {len : Nat → Nat} (hh : h ∈ [4, 6, 8]) : rk h len ≤ 13 := by
  have z := rk_all hh (dif_lt (len := len) hh 1) (dif_lt (len := len) hh 2) (dif_lt (len := len) hh 3)
  unfold rkOk at z
  simp only [Bool.and_eq_true] at z
  exact Nat.le_of_ble_eq_true z.1.1
theorem nf_congr {f g : Nat → Bool} (e : ∀ m, m < 4 → f m = g m) : nf f = nf g := by
  unfold nf
  rw [e 0 (by omega), e 1 (by omega), e 2 (by omega), e 3 (by omega)]
theorem rk_zero {h : Nat} {len : Nat → Nat} (hh : h ∈ [4, 6, 8]) (e : rk h len = 0) : nf (fzR h len) = 1 := by
  have z := rk_all hh (dif_lt (len := len) hh 1) (dif_lt (len := len) hh 2) (dif_lt (len := len) hh 3)
  unfold rkOk at z
  simp only [Bool.and_eq_true] at z
  have z1 := z.1.2
  have e' : rkD h (dif h len 1) (dif h len 2) (dif h len 3) = 0 := e
  rw [e'] at z1
  have := Nat.eq_of_beq_eq_true z1
  rw [← this]
  exact (nf_congr fun m hm => fzD_eq hh hm).symm
theorem rk_next {h m : Nat} {len : Nat → Nat} (hh : h ∈ [4, 6, 8]) (hm : m < 4) (f : fzR h len m = true) : rk h (nx len m) ≤ rk h len - 1 := by
  have z := rk_all hh (dif_lt (len := len) hh 1) (dif_lt (len := len) hh 2) (dif_lt (len := len) hh 3)
  unfold rkOk at z
  simp only [Bool.and_eq_true] at z
  have z2 := List.all_eq_true.mp z.2 m (by
    have : m = 0 ∨ m = 1 ∨ m = 2 ∨ m = 3 := by omega
    rcases this with rfl | rfl | rfl | rfl <;> decide)
  rw [fzD_eq hh hm, f] at z2
  have := Nat.le_of_ble_eq_true z2
  unfold rk
  rw [dif_nx hh hm (.inl rfl), dif_nx hh hm (.inr (.inl rfl)), dif_nx hh hm (.inr (.inr rfl))]
  exact this
end Mine
end
section
set_option maxRecDepth 100000
set_option maxHeartbeats 4000000
namespace Mine
open PySem PySem.W PySem.W.X PyProof.Rows
section
variable {h : Nat} {pv : List Value}
theorem cr_cons {j n : Nat} {len : Nat → Nat} : crR h pv j (n + 1) len = (frees h len).length :: crR h pv (j + 1) n (nx len (mvOf h len (pkZ pv j))) := rfl
theorem mv_cons {j n : Nat} {len : Nat → Nat} : mvR h pv j (n + 1) len = mvOf h len (pkZ pv j) :: mvR h pv (j + 1) n (nx len (mvOf h len (pkZ pv j))) := rfl
theorem fn_cons {j n : Nat} {len : Nat → Nat} : fnR h pv j (n + 1) len = fnR h pv (j + 1) n (nx len (mvOf h len (pkZ pv j))) := rfl
theorem cr_len : ∀ (n j : Nat) (len : Nat → Nat), (crR h pv j n len).length = n
  | 0, _, _ => rfl
  | n + 1, j, len => by rw [cr_cons, List.length_cons, cr_len n]
theorem mv_len : ∀ (n j : Nat) (len : Nat → Nat), (mvR h pv j n len).length = n
  | 0, _, _ => rfl
  | n + 1, j, len => by rw [mv_cons, List.length_cons, mv_len n]
theorem mv_add : ∀ (i n j : Nat) (len : Nat → Nat), mvR h pv j (i + n) len = mvR h pv j i len ++ mvR h pv (j + i) n (fnR h pv j i len)
  | 0, n, j, len => by rw [Nat.zero_add]; rfl
  | i + 1, n, j, len => by
    rw [show i + 1 + n = (i + n) + 1 by omega, mv_cons, mv_cons, fn_cons, mv_add i n (j + 1), show j + (i + 1) = j + 1 + i by omega]
    rfl
theorem fn_add : ∀ (i n j : Nat) (len : Nat → Nat), fnR h pv j (i + n) len = fnR h pv (j + i) n (fnR h pv j i len)
  | 0, n, j, len => by rw [Nat.zero_add]; rfl
  | i + 1, n, j, len => by
    rw [show i + 1 + n = (i + n) + 1 by omega, fn_cons, fn_cons, fn_add i n (j + 1), show j + (i + 1) = j + 1 + i by omega]
variable (hh : h ∈ [4, 6, 8])
include hh
theorem fn_ok : ∀ (n j B : Nat) (len : Nat → Nat), LenOk B len → LenOk (B + n) (fnR h pv j n len)
  | 0, _, _, _, hl => hl
  | n + 1, j, B, len, hl => by
    rw [fn_cons, show B + (n + 1) = B + 1 + n by omega]
    exact fn_ok n (j + 1) (B + 1) _ (nx_ok hl)
theorem cr_mono : ∀ (n j B : Nat) (len : Nat → Nat), LenOk B len → B + n < 41 → ∀ i, ((crR h pv j n len)[i + 1]?).getD 0 ≤ ((crR h pv j n len)[i]?).getD 0
  | 0, _, _, _, _, _, i => by show (([] : List Nat)[i + 1]?).getD 0 ≤ _; simp
  | n + 1, j, B, len, hl, hB, i => by
    rw [cr_cons]
    cases i with
    | succ i => simpa using cr_mono n (j + 1) (B + 1) _ (nx_ok hl) (by omega) i
    | zero =>
      cases n with
      | zero => show (([] : List Nat)[0]?).getD 0 ≤ _; simp
      | succ n =>
        rw [cr_cons]
        show (frees h _).length ≤ (frees h len).length
        have a1 := hl.lt (by omega)
        have a2 := (nx_ok (m := mvOf h len (pkZ pv j)) hl).lt (by omega)
        obtain ⟨m1, m2⟩ := mvOf_ok hh a1 (pkZ pv j)
        rw [frees_eq hh a1, frees_eq hh a2, frL_nf, frL_nf]
        exact nf_move hh m1 m2
theorem rk_fn : ∀ (n j B : Nat) (len : Nat → Nat), LenOk B len → B + n < 41 → rk h (fnR h pv j n len) ≤ rk h len - n
  | 0, _, _, _, _, _ => Nat.le_refl _
  | n + 1, j, B, len, hl, hB => by
    obtain ⟨m1, m2⟩ := mvOf_ok hh (hl.lt (by omega)) (pkZ pv j)
    have a := rk_fn n (j + 1) (B + 1) (nx len (mvOf h len (pkZ pv j))) (nx_ok hl) (by omega)
    have b := rk_next hh m1 m2
    rw [fn_cons]
    omega
theorem cr_one : ∀ (n j B : Nat) (len : Nat → Nat), LenOk B len → B + n < 41 → ∀ i, rk h len ≤ i → i < n → (crR h pv j n len)[i]? = some 1
  | 0, _, _, _, _, _, i, _, hi => by omega
  | n + 1, j, B, len, hl, hB, i, hr, hi => by
    have a1 := hl.lt (by omega)
    obtain ⟨m1, m2⟩ := mvOf_ok hh a1 (pkZ pv j)
    have b := rk_next hh m1 m2
    rw [cr_cons]
    cases i with
    | zero =>
      have z := rk_zero hh (Nat.le_zero.mp hr)
      show some (frees h len).length = some 1
      rw [frees_eq hh a1, frL_nf, z]
    | succ i =>
      have := cr_one n (j + 1) (B + 1) (nx len (mvOf h len (pkZ pv j))) (nx_ok hl) (by omega) i (by omega) (by omega)
      simpa using this
end
noncomputable def rotL : Nat → Nat → List Nat
  | _, 0 => []
  | m, n + 1 => m :: rotL ((m + 1) % 4) n
noncomputable def rotF : Nat → Nat → (Nat → Nat) → Nat → Nat
  | _, 0, len => len
  | m, n + 1, len => rotF ((m + 1) % 4) n (nx len m)
theorem frL_one {f : Nat → Bool} {m : Nat} (hm : m < 4) (h1 : nf f = 1) (h2 : f m = true) : frL f 0 4 = [m] := by
  unfold nf at h1
  unfold frL frL frL frL frL
  have : m = 0 ∨ m = 1 ∨ m = 2 ∨ m = 3 := by omega
  rcases this with rfl | rfl | rfl | rfl <;> cases e0 : f 0 <;> cases e1 : f 1 <;> cases e2 : f 2 <;> cases e3 : f 3 <;> rw [e0, e1, e2, e3] at h1 <;> simp_all [b2n]
theorem nf_one {f : Nat → Bool} {m : Nat} (hm : m < 4) (h1 : nf f = 1) (h2 : ∀ k, k < 4 → k ≠ (m + 1) % 4 → f k = false) : f ((m + 1) % 4) = true := by
  unfold nf at h1
  have : m = 0 ∨ m = 1 ∨ m = 2 ∨ m = 3 := by omega
  rcases this with rfl | rfl | rfl | rfl
  · rw [h2 0 (by omega) (by omega), h2 2 (by omega) (by omega), h2 3 (by omega) (by omega)] at h1
    cases e : f 1
    · rw [e] at h1; exact absurd h1 (by decide)
    · rfl
  · rw [h2 0 (by omega) (by omega), h2 1 (by omega) (by omega), h2 3 (by omega) (by omega)] at h1
    cases e : f 2
    · rw [e] at h1; exact absurd h1 (by decide)
    · rfl
  · rw [h2 0 (by omega) (by omega), h2 1 (by omega) (by omega), h2 2 (by omega) (by omega)] at h1
    cases e : f 3
    · rw [e] at h1; exact absurd h1 (by decide)
    · rfl
  · rw [h2 1 (by omega) (by omega), h2 2 (by omega) (by omega), h2 3 (by omega) (by omega)] at h1
    cases e : f 0
    · rw [e] at h1; exact absurd h1 (by decide)
    · rfl
theorem nf_one_no {f : Nat → Bool} {m : Nat} (hm : m < 4) (h1 : nf f = 1) (h2 : f m = true) : ∀ k, k < 4 → k ≠ m → f k = false := by
  unfold nf at h1
  intro k hk hn
  have a : m = 0 ∨ m = 1 ∨ m = 2 ∨ m = 3 := by omega
  have b : k = 0 ∨ k = 1 ∨ k = 2 ∨ k = 3 := by omega
  rcases a with rfl | rfl | rfl | rfl <;> rcases b with rfl | rfl | rfl | rfl <;> first | exact absurd rfl hn | (cases e0 : f 0 <;> cases e1 : f 1 <;> cases e2 : f 2 <;> cases e3 : f 3 <;> rw [e0, e1, e2, e3] at h1 <;> simp_all [b2n])
theorem fmod_one (p : Int) : (Int.fmod p (Int.ofNat 1)).toNat = 0 := by
  have h1 : 0 ≤ Int.fmod p (Int.ofNat 1) := Int.fmod_nonneg_of_pos p (by decide)
  have h2 : Int.fmod p (Int.ofNat 1) < Int.ofNat 1 := Int.fmod_lt_of_pos p (by decide)
  have : Int.ofNat 1 = 1 := rfl
  omega
section
variable {h : Nat} {pv : List Value} (hh : h ∈ [4, 6, 8])
include hh
theorem mv_one {m : Nat} {len : Nat → Nat} (hl : ∀ k, k < 4 → len k < 40) (hm : m < 4) (h1 : nf (fzR h len) = 1) (h2 : fzR h len m = true) (p : Int) : mvOf h len p = m := by
  unfold mvOf
  rw [frees_eq hh hl, frL_one hm h1 h2]
  show (([m] : List Nat)[(Int.fmod p (Int.ofNat 1)).toNat]?).getD 0 = m
  rw [fmod_one]
  rfl
theorem mv_rot : ∀ (n j B m : Nat) (len : Nat → Nat), LenOk B len → B + n < 41 → m < 4 → rk h len = 0 → fzR h len m = true → mvR h pv j n len = rotL m n ∧ fnR h pv j n len = rotF m n len
  | 0, _, _, _, _, _, _, _, _, _ => ⟨rfl, rfl⟩
  | n + 1, j, B, m, len, hl, hB, hm, hr, hf => by
    have h1 := rk_zero hh hr
    have e := mv_one hh (hl.lt (by omega)) hm h1 hf (pkZ pv j)
    have r' : rk h (nx len m) = 0 := by
      have := rk_next hh hm hf
      omega
    obtain ⟨g1, g2⟩ := fz_move hh hm hf
    have no := nf_one_no hm h1 hf
    have f' : fzR h (nx len m) ((m + 1) % 4) = true := nf_one hm (rk_zero hh r') fun k hk hn => by
      by_cases e : k = m
      · rw [e]; exact g1
      · rw [g2 k hk e hn]; exact no k hk e
    have z := mv_rot n (j + 1) (B + 1) ((m + 1) % 4) (nx len m) (nx_ok hl) (by omega) (Nat.mod_lt _ (by omega)) r' f'
    rw [mv_cons, fn_cons, e, z.1, z.2]
    exact ⟨rfl, rfl⟩
/-- from move 19 on: the turns go round -/
theorem mv_last {len : Nat → Nat} (hl : LenOk 12 len) : ∃ m len', m < 4 ∧ mvR h pv 0 27 len = mvR h pv 0 19 len ++ rotL m 8 ∧ fnR h pv 0 27 len = rotF m 8 len' ∧ len' = fnR h pv 0 19 len := by
  have a := rk_fn (pv := pv) hh 19 0 12 len hl (by omega)
  have b := rk_le (len := len) hh
  have c := fn_ok (pv := pv) hh 19 0 12 len hl
  have r : rk h (fnR h pv 0 19 len) = 0 := by omega
  obtain ⟨m, hm, hf⟩ : ∃ m, m < 4 ∧ fzR h (fnR h pv 0 19 len) m = true := by
    have m' := mvOf_ok hh (c.lt (by omega)) 0
    exact ⟨_, m'.1, m'.2⟩
  have z := mv_rot (pv := pv) hh 8 (0 + 19) 31 m _ c (by omega) hm r hf
  refine ⟨m, _, hm, ?_, ?_, rfl⟩
  · rw [show (27 : Nat) = 19 + 8 from rfl, mv_add, z.1]
  · rw [show (27 : Nat) = 19 + 8 from rfl, fn_add, z.2]
end
noncomputable def cntL (k : Nat) : List Nat → Nat
  | [] => 0
  | x :: l => (if x = k then 1 else 0) + cntL k l
theorem cntL_app (k : Nat) : ∀ (a b : List Nat), cntL k (a ++ b) = cntL k a + cntL k b
  | [], b => (Nat.zero_add _).symm
  | x :: a, b => by
    show (if x = k then 1 else 0) + cntL k (a ++ b) = (if x = k then 1 else 0) + cntL k a + _
    rw [cntL_app k a b]; omega
section
variable {h : Nat} {pv : List Value} (hh : h ∈ [4, 6, 8])
include hh
theorem fn_zero : ∀ (n j B : Nat) (len : Nat → Nat), LenOk B len → B + n < 41 → fnR h pv j n len 0 = len 0 + cntL 0 (mvR h pv j n len)
  | 0, _, _, _, _, _ => rfl
  | n + 1, j, B, len, hl, hB => by
    obtain ⟨m1, _⟩ := mvOf_ok hh (hl.lt (by omega)) (pkZ pv j)
    have z := fn_zero n (j + 1) (B + 1) (nx len (mvOf h len (pkZ pv j))) (nx_ok hl) (by omega)
    rw [fn_cons, mv_cons, z]
    generalize mvOf h len (pkZ pv j) = m at *
    show nx len m 0 + _ = len 0 + ((if m = 0 then 1 else 0) + _)
    have : m = 0 ∨ m = 1 ∨ m = 2 ∨ m = 3 := by omega
    rcases this with rfl | rfl | rfl | rfl
    · show len 0 + 1 + _ = _
      simp; omega
    · show len 0 + _ = _
      simp
    · show len 0 + _ = _
      simp
    · show len 0 + _ = _
      simp
/-- no place moves more than once more than the one ahead -/
noncomputable abbrev TmInv (h : Nat) (T : Nat → Nat) (len : Nat → Nat) : Prop := ∀ k, k < 4 → T k + b2n (fzR h len k) ≤ T ((k + 3) % 4) + 1
theorem tm_inv : ∀ (n j B : Nat) (len T : Nat → Nat), LenOk B len → B + n < 41 → TmInv h T len → TmInv h (fun k => T k + cntL k (mvR h pv j n len)) (fnR h pv j n len)
  | 0, _, _, _, T, _, _, i => i
  | n + 1, j, B, len, T, hl, hB, i => by
    obtain ⟨hm, hf⟩ := mvOf_ok hh (hl.lt (by omega)) (pkZ pv j)
    rw [fn_cons, mv_cons]
    have hl' := nx_ok (m := mvOf h len (pkZ pv j)) hl
    generalize mvOf h len (pkZ pv j) = m at *
    have i' : TmInv h (fun k => T k + (if m = k then 1 else 0)) (nx len m) := by
      obtain ⟨g1, g2⟩ := fz_move hh hm hf
      intro k hk
      have ik := i k hk
      by_cases e : k = m
      · subst e
        rw [g1]
        rw [hf] at ik
        have n1 : ¬ k = (k + 3) % 4 := by omega
        have : b2n true = 1 := rfl
        have : b2n false = 0 := rfl
        simp only [if_true, if_neg n1]
        omega
      · by_cases e' : k = (m + 1) % 4
        · have e2 : m = (k + 3) % 4 := by omega
          have b1 := b2n_le (fzR h (nx len m) k)
          have n1 : ¬ m = k := fun q => e q.symm
          simp only [if_neg n1]
          rw [if_pos e2]
          omega
        · rw [g2 k hk e e']
          have n1 : ¬ m = k := fun q => e q.symm
          have n2 : ¬ m = (k + 3) % 4 := by omega
          simp only [if_neg n1, if_neg n2]
          omega
    have z := tm_inv n (j + 1) (B + 1) (nx len m) _ hl' (by omega) i'
    intro k hk
    have zk := z k hk
    show T k + ((if m = k then 1 else 0) + _) + _ ≤ T ((k + 3) % 4) + ((if m = (k + 3) % 4 then 1 else 0) + _) + 1
    simp only at zk
    omega
theorem tm_all {len : Nat → Nat} (hl : LenOk 12 len) {k : Nat} (hk : k < 4) : cntL k (mvR h pv 0 27 len) ≤ cntL ((k + 3) % 4) (mvR h pv 0 27 len) + 1 := by
  have i : TmInv h (fun _ => 0) len := fun k _ => by
    have := b2n_le (fzR h len k)
    show 0 + _ ≤ 0 + 1
    omega
  have z := tm_inv (pv := pv) hh 27 0 12 len _ hl (by omega) i k hk
  simp only [Nat.zero_add] at z
  omega
end
/-- the last eight places, by whose turn it is -/
theorem rot_val : ∀ m ∈ [0, 1, 2, 3], ∃ q ∈ [228, 57, 78, 147], List.foldr (fun x a => x + 4 * a) 0 (rotL m 8) = q * 257 := by decide
theorem rot_due (len : Nat → Nat) : ∀ m, m < 4 → ∀ k, k < 4 → rotF m 8 len k = len 0 + cntL 0 (rotL m 8) - (if k ≤ (m + 3) % 4 then 0 else 1) := by
  intro m hm k hk
  have a : m = 0 ∨ m = 1 ∨ m = 2 ∨ m = 3 := by omega
  have b : k = 0 ∨ k = 1 ∨ k = 2 ∨ k = 3 := by omega
  rcases a with rfl | rfl | rfl | rfl <;> rcases b with rfl | rfl | rfl | rfl <;> rfl
theorem rot_lastI : ∀ m, m < 4 → (rotL m 8)[7]? = some ((m + 3) % 4) := by
  intro m hm
  have a : m = 0 ∨ m = 1 ∨ m = 2 ∨ m = 3 := by omega
  rcases a with rfl | rfl | rfl | rfl <;> rfl
/-- the words at the end -/
theorem fn_due {h : Nat} {pv : List Value} (hh : h ∈ [4, 6, 8]) {len : Nat → Nat} (hl : LenOk 12 len) : ∃ q, q < 4 ∧ (mvR h pv 0 27 len)[26]? = some q ∧ ∀ k, k < 4 → fnR h pv 0 27 len k = len 0 + cntL 0 (mvR h pv 0 27 len) - (if k ≤ q then 0 else 1) := by
  obtain ⟨m, len', hm, e1, e2, e3⟩ := mv_last (pv := pv) hh hl
  refine ⟨(m + 3) % 4, Nat.mod_lt _ (by omega), ?_, fun k hk => ?_⟩
  · rw [e1, List.getElem?_append_right (by rw [mv_len]; omega), mv_len]
    exact rot_lastI m hm
  · have z := fn_zero (pv := pv) hh 19 0 12 len hl (by omega)
    rw [e2, rot_due len' m hm k hk, e3, z, e1, cntL_app]
    split <;> omega
end Mine
end
section
set_option maxRecDepth 100000
set_option maxHeartbeats 0
namespace Mine
open PySem PySem.W PySem.W.X PyProof.Rows
noncomputable def mnOut (x : Mx) (u : Ux) (len tw : Nat → Nat) (cs ms : List Value) (ec em e : Nat) : Sup := ⟨fun i => match i with | 0 => u.wa | 1 => u.wt | 2 => u.mv | 3 => u.mt | 4 => u.fr | 5 => u.pt | 6 => u.mot | 7 => ec | 8 => em | 9 => e | 20 => len 0 | 21 => len 1 | 22 => len 2 | 23 => len 3 | 30 => tw 0 | 31 => tw 1 | 32 => tw 2 | 33 => tw 3 | 60 => x.k 0 | 61 => x.k 1 | 62 => x.k 2 | 63 => x.k 3 | 64 => x.k 4 | 65 => x.k 5 | 66 => x.k 6 | 67 => x.k 7 | 68 => x.k 8 | 69 => x.k 9 | 70 => x.k 10 | _ => 0, fun i => match i with | 0 => u.pk | 1 => u.mo | 10 => x.h 0 | 11 => x.h 1 | 12 => x.h 2 | 13 => x.h 3 | 14 => x.h 4 | 15 => x.h 5 | 16 => x.h 6 | 17 => x.h 7 | 18 => x.h 8 | 19 => x.h 9 | 20 => x.h 10 | _ => 0, fun _ => u.wd, fun i => match i with | 0 => cs | _ => ms⟩
section
variable {U : Un} {b₁ b₂ : Bool} (G : Good (mkV U b₁ b₂))
include G
/-- no turn left -/
theorem mn_end {h ht : Nat} {pv : List Value} {pe : Nat} {x : Mx} {text : Str} {t : Nat} {σ : Sup} (len : Nat → Nat) (u : Ux) (ia ll : Addr) (el : Nat) (li : Nat → Addr) (lt : Nat → Nat → Nat) (cs : List Value) (ec : Nat) (ms : List Value) (em : Nat) (tw : Nat → Nat) (e : Nat) :
    Meets (mkV U b₁ b₂) (S_mn (mkV U b₁ b₂) false 27 0 x u ia ll el li lt h ht pv pe cs ec ms em text t σ len tw e) := by
  have FF : mnFact h pv 27 0 len cs ms (mnOut x u len tw cs ms ec em e) := by
    refine ⟨[], [], (List.append_nil _).symm, (List.append_nil _).symm, IsI.nil, IsI.nil, fun k hk => ?_⟩
    rcases k with _ | _ | _ | _ | k
    · rfl
    · rfl
    · rfl
    · rfl
    · exact absurd hk (by omega)
  refine Meets.hyp fun _ => ?_
  exact meets_of G (cs := []) trivial 30 [.l 1, .i, .l 1, .l 1, .l 1, .l 1, .l 0] (fun tk P => mnOut x u len tw cs ms ec em e) (fun tk P => []) [2, 4, 4, 4, 11, 11, 11] (fun _ _ _ => FF) (fun tk P => by exact Bool.casesOn b₁ (by kernel_rfl!) (by kernel_rfl!))
theorem mn_step0 {h ht : Nat} {pv : List Value} {pe : Nat} {text : Str} {t : Nat} {σ : Sup} (hh : h ∈ [4, 6, 8]) (hpv : AllInt pv) (hpl : pv.length ≤ 1000) {n j : Nat} {len : Nat → Nat} (hj : j < 27) (hl' : ∀ k, k < 4 → 1 ≤ len k ∧ len k < 39)
    (IH : ∀ m, ∀ x u ia ll el li lt cs ec ms em tw e, Meets (mkV U b₁ b₂) (S_mn (mkV U b₁ b₂) false (Nat.succ j) n x u ia ll el li lt h ht pv pe cs ec ms em text t σ (nx len m) tw e))
    (x : Mx) (u : Ux) (ia ll : Addr) (el : Nat) (li : Nat → Addr) (lt : Nat → Nat → Nat) (cs : List Value) (ec : Nat) (ms : List Value) (em : Nat) (tw : Nat → Nat) (e : Nat) :
    Meets (mkV U b₁ b₂) (S_mn (mkV U b₁ b₂) false j (Nat.succ n) x u ia ll el li lt h ht pv pe cs ec ms em text t σ len tw e) := by
  have a1 : ∀ k, k < 4 → len k < 40 := fun k hk => Nat.lt_succ_of_lt (hl' k hk).2
  have hf := frees_pos hh a1
  obtain ⟨hm4, _⟩ := mvOf_ok hh a1 (pkZ pv j)
  cases hlt : decide (Int.ofNat j < Int.ofNat pv.length)
  · generalize hm : mvOf h len (pkZ pv j) = m at hm4
    rcases four hm4 with rfl | rfl | rfl | rfl
    · exact mn000 G hj len hh hl' hpv hpl hf hlt hm (IH 0) u ia ll el li lt cs ec ms em tw e
    · exact mn001 G hj len hh hl' hpv hpl hf hlt hm (IH 1) u ia ll el li lt cs ec ms em tw e
    · exact mn002 G hj len hh hl' hpv hpl hf hlt hm (IH 2) u ia ll el li lt cs ec ms em tw e
    · exact mn003 G hj len hh hl' hpv hpl hf hlt hm (IH 3) u ia ll el li lt cs ec ms em tw e
  · generalize hm : mvOf h len (pkZ pv j) = m at hm4
    rcases four hm4 with rfl | rfl | rfl | rfl
    · exact mn010 G hj len hh hl' hpv hpl hf hlt hm (IH 0) u ia ll el li lt cs ec ms em tw e
    · exact mn011 G hj len hh hl' hpv hpl hf hlt hm (IH 1) u ia ll el li lt cs ec ms em tw e
    · exact mn012 G hj len hh hl' hpv hpl hf hlt hm (IH 2) u ia ll el li lt cs ec ms em tw e
    · exact mn013 G hj len hh hl' hpv hpl hf hlt hm (IH 3) u ia ll el li lt cs ec ms em tw e
theorem mn_step1 {h ht : Nat} {pv : List Value} {pe : Nat} {text : Str} {t : Nat} {σ : Sup} (hh : h ∈ [4, 6, 8]) (hpv : AllInt pv) (hpl : pv.length ≤ 1000) {n j : Nat} {len : Nat → Nat} (hj : j < 27) (hl' : ∀ k, k < 4 → 1 ≤ len k ∧ len k < 39)
    (IH : ∀ m, ∀ x u ia ll el li lt cs ec ms em tw e, Meets (mkV U b₁ b₂) (S_mn (mkV U b₁ b₂) false (Nat.succ 0) n x u ia ll el li lt h ht pv pe cs ec ms em text t σ (nx len m) tw e))
    (x : Mx) (u : Ux) (ia ll : Addr) (el : Nat) (li : Nat → Addr) (lt : Nat → Nat → Nat) (cs : List Value) (ec : Nat) (ms : List Value) (em : Nat) (tw : Nat → Nat) (e : Nat) :
    Meets (mkV U b₁ b₂) (S_mn (mkV U b₁ b₂) true 0 (Nat.succ n) x u ia ll el li lt h ht pv pe cs ec ms em text t σ len tw e) := by
  have a1 : ∀ k, k < 4 → len k < 40 := fun k hk => Nat.lt_succ_of_lt (hl' k hk).2
  have hf := frees_pos hh a1
  obtain ⟨hm4, _⟩ := mvOf_ok hh a1 (pkZ pv 0)
  cases hlt : decide (Int.ofNat 0 < Int.ofNat pv.length)
  · generalize hm : mvOf h len (pkZ pv 0) = m at hm4
    rcases four hm4 with rfl | rfl | rfl | rfl
    · exact mn100 (j := 0) G len hh hl' hpv hpl hf hlt hm (IH 0) u ia ll el li lt cs ec ms em tw e
    · exact mn101 (j := 0) G len hh hl' hpv hpl hf hlt hm (IH 1) u ia ll el li lt cs ec ms em tw e
    · exact mn102 (j := 0) G len hh hl' hpv hpl hf hlt hm (IH 2) u ia ll el li lt cs ec ms em tw e
    · exact mn103 (j := 0) G len hh hl' hpv hpl hf hlt hm (IH 3) u ia ll el li lt cs ec ms em tw e
  · generalize hm : mvOf h len (pkZ pv 0) = m at hm4
    rcases four hm4 with rfl | rfl | rfl | rfl
    · exact mn110 (j := 0) G len hh hl' hpv hpl hf hlt hm (IH 0) u ia ll el li lt cs ec ms em tw e
    · exact mn111 (j := 0) G len hh hl' hpv hpl hf hlt hm (IH 1) u ia ll el li lt cs ec ms em tw e
    · exact mn112 (j := 0) G len hh hl' hpv hpl hf hlt hm (IH 2) u ia ll el li lt cs ec ms em tw e
    · exact mn113 (j := 0) G len hh hl' hpv hpl hf hlt hm (IH 3) u ia ll el li lt cs ec ms em tw e
/-- all that is said of the loop from turn j on -/
noncomputable def MnAll (U : Un) (b₁ b₂ : Bool) (h ht : Nat) (pv : List Value) (pe : Nat) (text : Str) (t : Nat) (σ : Sup) (j n : Nat) (len : Nat → Nat) : Prop := ∀ x u ia ll el li lt cs ec ms em tw e, Meets (mkV U b₁ b₂) (S_mn (mkV U b₁ b₂) false j n x u ia ll el li lt h ht pv pe cs ec ms em text t σ len tw e)
theorem mn_all {h ht : Nat} {pv : List Value} {pe : Nat} {text : Str} {t : Nat} {σ : Sup} (hh : h ∈ [4, 6, 8]) (hpv : AllInt pv) (hpl : pv.length ≤ 1000) (n : Nat) : ∀ (j B : Nat) (len : Nat → Nat), j + n = 27 → LenOk B len → B + n ≤ 39 → MnAll U b₁ b₂ h ht pv pe text t σ j n len := by
  induction n with
  | zero =>
    intro j B len hj hl hB
    have : j = 27 := hj
    subst this
    intro x u ia ll el li lt cs ec ms em tw e
    exact mn_end G len u ia ll el li lt cs ec ms em tw e
  | succ n ih =>
    intro j B len hj hl hB
    have IH : ∀ m, MnAll U b₁ b₂ h ht pv pe text t σ (Nat.succ j) n (nx len m) := fun m => ih (Nat.succ j) (B + 1) (nx len m) (by omega) (nx_ok hl) (by omega)
    have hl' : ∀ k, k < 4 → 1 ≤ len k ∧ len k < 39 := fun k hk => by have := hl k hk; omega
    have hj' : j < 27 := by omega
    intro x u ia ll el li lt cs ec ms em tw e
    exact mn_step0 G hh hpv hpl hj' hl' IH x u ia ll el li lt cs ec ms em tw e
/-- the main loop, whole -/
theorem mn_meets {h ht : Nat} {pv : List Value} {pe : Nat} {text : Str} {t : Nat} {σ : Sup} (hh : h ∈ [4, 6, 8]) (hpv : AllInt pv) (hpl : pv.length ≤ 1000) {len : Nat → Nat} (hl : LenOk 12 len) (x : Mx) (u : Ux) (ia ll : Addr) (el : Nat) (li : Nat → Addr) (lt : Nat → Nat → Nat) (cs : List Value) (ec : Nat) (ms : List Value) (em : Nat) (tw : Nat → Nat) (e : Nat) :
    Meets (mkV U b₁ b₂) (S_mn (mkV U b₁ b₂) true 0 (Nat.succ 26) x u ia ll el li lt h ht pv pe cs ec ms em text t σ len tw e) := by
  have IH : ∀ m, MnAll U b₁ b₂ h ht pv pe text t σ (Nat.succ 0) 26 (nx len m) := fun m => mn_all G hh hpv hpl 26 (Nat.succ 0) 13 (nx len m) (by omega) (nx_ok hl) (by omega)
  have hl' : ∀ k, k < 4 → 1 ≤ len k ∧ len k < 39 := fun k hk => by have := hl k hk; omega
  exact mn_step1 (j := 0) G hh hpv hpl (by omega) hl' IH x u ia ll el li lt cs ec ms em tw e
end
end Mine
end
section
set_option maxRecDepth 100000
set_option maxHeartbeats 0
namespace Mine
open PySem PySem.W PySem.W.X PyProof.Rows
/-! _law_run -/
/-- the place in the file where word k starts; where the lexer stands ahead of it -/
noncomputable def stA (r d : Nat → Nat) : Nat → Nat
  | 0 => 0
  | k + 1 => stA r d k + (wordS (r k) (d k)).length + 1
noncomputable def qOf (r p l : Nat) (fin : Bool) : Nat := match r with
  | 1 => p + l
  | _ => match fin with
    | true => p + l + 1
    | false => p + l
noncomputable def posA (r d : Nat → Nat) : Nat → Nat
  | 0 => 0
  | 4 => qOf (r 3) (stA r d 3) (wordS (r 3) (d 3)).length false
  | k + 1 => qOf (r k) (stA r d k) (wordS (r k) (d k)).length true
noncomputable def txt (r d : Nat → Nat) : Str := fileT fun k => wordS (r k) (d k)
noncomputable def S_run (V : VV) (d tt r : Nat → Nat) (a pa : Addr) (pe : Nat) (ss : Int) (ts h th : Nat) (pv : List Value) : Spec where
  need := true
  d := 70
  code := .call (.ref 172) ⟨[.ref a, .int ss ts, .int (Int.ofNat h) th, .ref pa], []⟩
  pre := [(a, dotsO d tt), (pa, listO ⟨pv⟩ pe), (148, tableObj (topTab V 148))]
  hasFact := true
  fact := fun τ => IsI (τ.v 0) (crR h pv 0 27 d) ∧ IsI (τ.v 1) (mvR h pv 0 27 d) ∧ ∀ k, k < 4 → τ.n (20 + k) = fnR h pv 0 27 d k
  res := fun τ => .ok (.ret (.ref (τ.n 0)))
  post := fun τ => [(τ.n 0, tupO #[.ref (τ.n 1), .ref (τ.n 2), .ref (τ.n 3)]), (τ.n 1, listO ⟨τ.v 0⟩ (τ.n 4)), (τ.n 2, listO ⟨τ.v 1⟩ (τ.n 5)), (τ.n 3, listO ⟨wordsL (fun k => dotS (τ.n (20 + k))) (fun k => τ.n (30 + k))⟩ (τ.n 6)), (a, dotsO d tt)]
noncomputable def C_mach (V : VV) : Code → Ldg → Spec := fun c _ => oS c (match c with
  | .call (.ref _) ⟨[.str text t], []⟩ => some (text, t)
  | _ => none) fun (text, t) =>
    S_machine V text t
noncomputable def C_is (S : Spec) : Code → Ldg → Spec := fun _ _ => S
theorem C_is_ok {V : VV} {S : Spec} (m : Meets V S) (c : Code) (l : Ldg) : Meets V (C_is S c l) := m
/-- a token's number in a list of one int -/
noncomputable def tok1 : Obj → Nat
  | ⟨_, _, .seq ⟨vs⟩ _, _⟩ => match vs with
    | [.int _ t] => t
    | _ => 0
  | _ => 0
noncomputable def C_tok (V : VV) (text : Str) (t : Nat) (σ : Sup) (J p q : Nat) : Code → Ldg → Spec := fun _ l => S_tok V text t σ J p q (tok1 (ob l 8)) (seqOf (ob l 9)).2
theorem C_tok_ok {V : VV} {text : Str} {t : Nat} {σ : Sup} {J p q : Nat} (m : ∀ tp e, Meets V (S_tok V text t σ J p q tp e)) (c : Code) (l : Ldg) : Meets V (C_tok V text t σ J p q c l) := m _ _
/-- the frame ahead of the first turn -/
noncomputable def frameOf0 : Obj → Option Ux
  | ⟨_, _, .dict ⟨es⟩ _, _⟩ => match es.drop 3 with
    | ⟨_, _, .ref wa⟩ :: ⟨_, _, .str wd wt⟩ :: _ => some ⟨wa, wd, wt, 0, 0, 0, 0, 0, 0, 0⟩
    | _ => none
  | _ => none
/-- the main loop, from its start -/
noncomputable def C_mn1 (V : VV) (n : Nat) (da : Addr) (ss : Int) (ts : Nat) (h ht : Nat) (pv : List Value) (pe : Nat) (text : Str) (t : Nat) (σ : Sup) (len : Nat → Nat) : Code → Ldg → Spec := fun c l => oS c (match c with
  | .forLoop _ (.ref ia) _ _ _ => match frameOf0 (ob l 0) with
    | some u => match refsOf (ob l 8) with
      | some li => some (ia, u, li)
      | none => none
    | none => none
  | _ => none) fun (ia, u, li) =>
    S_mn V true 0 n (xk ⟨ad l 0, da, ad l 2, ad l 3, ad l 4, ad l 7, ad l 5, ad l 6, ss, ts, fun _ => 0, fun _ => 0⟩ (ob l 0)) u ia (ad l 8) li.2 li.1 (lt4 (tokF (ob l 9)) (tokF (ob l 10)) (tokF (ob l 11)) (tokF (ob l 12))) h ht pv pe (seqOf (ob l 3)).1 (seqOf (ob l 3)).2 (seqOf (ob l 4)).1 (seqOf (ob l 4)).2 text t σ len (tokS (ob l 15)).1 (tokS (ob l 15)).2
theorem C_mn1_ok {V : VV} {n : Nat} {da : Addr} {ss : Int} {ts : Nat} {h ht : Nat} {pv : List Value} {pe : Nat} {text : Str} {t : Nat} {σ : Sup} {len : Nat → Nat} (mm : ∀ x u ia ll el li lt cs ec ms em tw e, Meets V (S_mn V true 0 n x u ia ll el li lt h ht pv pe cs ec ms em text t σ len tw e)) (c : Code) (l : Ldg) : Meets V (C_mn1 V n da ss ts h ht pv pe text t σ len c l) := by
  exact oS_ok fun ⟨ia, u, li⟩ => mm _ _ _ _ _ _ _ _ _ _ _ _ _
end Mine
end
section
set_option maxRecDepth 100000
set_option maxHeartbeats 400000
namespace Mine
open PySem PySem.W PySem.W.X PyProof.Rows
/-! where the words stand in the file -/
theorem cps_app (a b : Str) : (a ++ b).cps = a.cps ++ b.cps := rfl
theorem app_left {a b : Str} {i c : Nat} (h : a.cps[i]? = some c) : (a ++ b).cps[i]? = some c := by
  rw [cps_app]
  obtain ⟨x, y⟩ := Array.getElem?_eq_some_iff.mp h
  rw [Array.getElem?_append_left x]
  exact h
theorem app_right {a b : Str} {i c p : Nat} (hp : p = a.length + i) (h : b.cps[i]? = some c) : (a ++ b).cps[p]? = some c := by
  subst hp
  rw [cps_app]
  have : a.length = a.cps.size := rfl
  rw [Array.getElem?_append_right (by omega)]
  rw [show a.length + i - a.cps.size = i by omega]
  exact h
theorem dot_at {d i : Nat} (h : i < d) : (dotS d).cps[i]? = some 46 := by
  show ((List.replicate d 46).toArray)[i]? = some 46
  simp [h]
theorem len_app (a b : Str) : (a ++ b).length = a.length + b.length := Str.length_append a b
theorem len1 (c : Nat) : (⟨#[c]⟩ : Str).length = 1 := rfl
/-- the text from a place on -/
noncomputable def At (text : Str) (p : Nat) (w : Str) : Prop := ∀ i c, w.cps[i]? = some c → text.cps[p + i]? = some c
theorem At.app1 {text : Str} {p : Nat} {a b : Str} (h : At text p (a ++ b)) : At text p a := fun i c e => h i c (app_left e)
theorem At.app2 {text : Str} {p : Nat} {a b : Str} (h : At text p (a ++ b)) : At text (p + a.length) b := fun i c e => by
  rw [Nat.add_assoc]
  exact h _ c (app_right rfl e)
theorem At.refl (text : Str) : At text 0 text := fun i c e => by rw [Nat.zero_add]; exact e
theorem At.one {text : Str} {p c : Nat} (h : At text p ⟨#[c]⟩) : text.cps[p]? = some c := h 0 c rfl
theorem At.dots {text : Str} {p d : Nat} (h : At text p (dotS d)) (i : Nat) (hi : i < d) : text.cps[p + i]? = some 46 := h i 46 (dot_at hi)
theorem At.word {text : Str} {p r d : Nat} {fin : Bool} (h : At text p (wordS r d)) (he : EndsAt text (p + (wordS r d).length) fin) :
    Word text p d (qOf r p (wordS r d).length fin) r fin := by
  have dl := dotS_len d
  match r, h, he with
  | 0, h, he =>
    have e : (wordS 0 d).length = d := dl
    rw [e] at he ⊢
    exact ⟨fun i hi => At.dots h i hi, he, by cases fin <;> rfl⟩
  | 1, h, he =>
    have e : (wordS 1 d).length = 1 + d + 1 := by
      show (((⟨#[34]⟩ : Str) ++ dotS d) ++ (⟨#[34]⟩ : Str)).length = _
      rw [len_app, len_app, len1, dl]
    have h' : At text p (((⟨#[34]⟩ : Str) ++ dotS d) ++ (⟨#[34]⟩ : Str)) := h
    have h2 := h'.app2
    rw [len_app, len1, dl] at h2
    refine ⟨h'.app1.app1.one, fun i hi => ?_, ?_, ?_⟩
    · have z := h'.app1.app2
      rw [len1] at z
      exact z.dots i hi
    · rw [Nat.add_assoc]
      exact h2.one
    · show p + (wordS 1 d).length = _
      rw [e]; omega
  | k + 2, h, he =>
    have e : (wordS (k + 2) d).length = 1 + d := by
      show ((⟨#[92]⟩ : Str) ++ dotS d).length = _
      rw [len_app, len1, dl]
    have h' : At text p ((⟨#[92]⟩ : Str) ++ dotS d) := h
    rw [e] at he ⊢
    refine ⟨h'.app1.one, fun i hi => ?_, by rw [Nat.add_assoc]; exact he, ?_⟩
    · have z := h'.app2
      rw [len1] at z
      exact z.dots i hi
    · cases fin
      · show p + (1 + d) = p + 1 + d
        omega
      · show p + (1 + d) + 1 = p + 1 + d + 1
        omega
section
variable {r d : Nat → Nat}
theorem txt_at : At (txt r d) (stA r d 0) (wordS (r 0) (d 0)) ∧ At (txt r d) (stA r d 0 + (wordS (r 0) (d 0)).length) ⟨#[32]⟩ ∧ At (txt r d) (stA r d 1) (wordS (r 1) (d 1)) ∧ At (txt r d) (stA r d 1 + (wordS (r 1) (d 1)).length) ⟨#[32]⟩ ∧ At (txt r d) (stA r d 2) (wordS (r 2) (d 2)) ∧ At (txt r d) (stA r d 2 + (wordS (r 2) (d 2)).length) ⟨#[32]⟩ ∧ At (txt r d) (stA r d 3) (wordS (r 3) (d 3)) ∧ (txt r d).length = stA r d 3 + (wordS (r 3) (d 3)).length := by
  have h : At (txt r d) 0 (((((((wordS (r 0) (d 0)) ++ (⟨#[32]⟩ : Str)) ++ (wordS (r 1) (d 1))) ++ (⟨#[32]⟩ : Str)) ++ (wordS (r 2) (d 2))) ++ (⟨#[32]⟩ : Str)) ++ (wordS (r 3) (d 3))) := At.refl _
  have e : (txt r d).length = ((((((wordS (r 0) (d 0)) ++ (⟨#[32]⟩ : Str)) ++ (wordS (r 1) (d 1))) ++ (⟨#[32]⟩ : Str)) ++ (wordS (r 2) (d 2))) ++ (⟨#[32]⟩ : Str)).length + (wordS (r 3) (d 3)).length := len_app _ _
  have z3 := h.app2
  have z2 := h.app1.app1.app2
  have z2s := h.app1.app2
  have z1 := h.app1.app1.app1.app1.app2
  have z1s := h.app1.app1.app1.app2
  have z0 := h.app1.app1.app1.app1.app1.app1
  have z0s := h.app1.app1.app1.app1.app1.app2
  simp only [len_app, len1] at z3 z2 z2s z1 z1s z0s e
  have s1 : stA r d 1 = 0 + (wordS (r 0) (d 0)).length + 1 := rfl
  have s2 : stA r d 2 = stA r d 1 + (wordS (r 1) (d 1)).length + 1 := rfl
  have s3 : stA r d 3 = stA r d 2 + (wordS (r 2) (d 2)).length + 1 := rfl
  refine ⟨z0, z0s, ?_, ?_, ?_, ?_, ?_, ?_⟩
  · rw [s1]; rw [show 0 + (wordS (r 0) (d 0)).length + 1 = 0 + ((wordS (r 0) (d 0)).length + 1) by omega]; exact z1
  · rw [s1]; rw [show 0 + (wordS (r 0) (d 0)).length + 1 + (wordS (r 1) (d 1)).length = 0 + ((wordS (r 0) (d 0)).length + 1 + (wordS (r 1) (d 1)).length) by omega]; exact z1s
  · rw [s2, s1]; rw [show 0 + (wordS (r 0) (d 0)).length + 1 + (wordS (r 1) (d 1)).length + 1 = 0 + ((wordS (r 0) (d 0)).length + 1 + (wordS (r 1) (d 1)).length + 1) by omega]; exact z2
  · rw [s2, s1]; rw [show 0 + (wordS (r 0) (d 0)).length + 1 + (wordS (r 1) (d 1)).length + 1 + (wordS (r 2) (d 2)).length = 0 + ((wordS (r 0) (d 0)).length + 1 + (wordS (r 1) (d 1)).length + 1 + (wordS (r 2) (d 2)).length) by omega]; exact z2s
  · rw [s3, s2, s1]; rw [show 0 + (wordS (r 0) (d 0)).length + 1 + (wordS (r 1) (d 1)).length + 1 + (wordS (r 2) (d 2)).length + 1 = 0 + ((wordS (r 0) (d 0)).length + 1 + (wordS (r 1) (d 1)).length + 1 + (wordS (r 2) (d 2)).length + 1) by omega]; exact z3
  · rw [s3, s2, s1, e]; omega
/-- the words' places: ahead of word k + 1 the lexer stands at its start or at the blank before it -/
theorem tok_any {U : Un} {b₁ b₂ : Bool} (G : Good (mkV U b₁ b₂)) (text : Str) (t : Nat) (σ : Sup) {p0 p dd q k : Nat} {fin : Bool} (h2 : 2 ≤ text.length) (h1 : 1 ≤ dd) (hd : dd < 1000) (W : Word text p dd q k fin) (hp : p0 = p ∨ (p = p0 + 1 ∧ text.cps[p0]? = some 32)) (tp e : Nat) : Meets (mkV U b₁ b₂) (S_tok (mkV U b₁ b₂) text t σ dd p0 q tp e) := by
  rcases hp with rfl | ⟨rfl, hs⟩
  · exact tok_meets G (nextE G) text t σ k dd p0 q tp e fin h2 h1 hd W
  · exact tok_meets_lead G (nextE G) text t σ k dd p0 q tp e fin h2 h1 hd hs W
theorem pos_eq {k : Nat} (hk : k + 1 < 4) : posA r d (k + 1) = qOf (r k) (stA r d k) (wordS (r k) (d k)).length true := by
  rcases k with _ | _ | _ | k
  · rfl
  · rfl
  · rfl
  · omega
theorem q_eq (r p l : Nat) : qOf r p l true = p + l + 1 ∨ qOf r p l true = p + l := by
  unfold qOf
  split
  · exact .inr rfl
  · exact .inl rfl
theorem pos_next {k : Nat} (hk : k + 1 < 4) (hs : At (txt r d) (stA r d k + (wordS (r k) (d k)).length) ⟨#[32]⟩) : posA r d (k + 1) = stA r d (k + 1) ∨ (stA r d (k + 1) = posA r d (k + 1) + 1 ∧ (txt r d).cps[posA r d (k + 1)]? = some 32) := by
  have s : stA r d (k + 1) = stA r d k + (wordS (r k) (d k)).length + 1 := rfl
  rw [pos_eq hk, s]
  rcases q_eq (r k) (stA r d k) (wordS (r k) (d k)).length with e | e
  · exact .inl e
  · rw [e]
    exact .inr ⟨rfl, hs.one⟩
theorem toks {U : Un} {b₁ b₂ : Bool} (G : Good (mkV U b₁ b₂)) (hd : ∀ k, 1 ≤ d k ∧ d k < 40) (t : Nat) (σ : Sup) : (∀ tp e, Meets (mkV U b₁ b₂) (S_tok (mkV U b₁ b₂) (txt r d) t σ (d 0) (posA r d 0) (posA r d 1) tp e)) ∧ (∀ tp e, Meets (mkV U b₁ b₂) (S_tok (mkV U b₁ b₂) (txt r d) t σ (d 1) (posA r d 1) (posA r d 2) tp e)) ∧ (∀ tp e, Meets (mkV U b₁ b₂) (S_tok (mkV U b₁ b₂) (txt r d) t σ (d 2) (posA r d 2) (posA r d 3) tp e)) ∧ (∀ tp e, Meets (mkV U b₁ b₂) (S_tok (mkV U b₁ b₂) (txt r d) t σ (d 3) (posA r d 3) (posA r d 4) tp e)) := by
  obtain ⟨w0, s0, w1, s1, w2, s2, w3, el⟩ := txt_at (r := r) (d := d)
  have h2 : 2 ≤ (txt r d).length := by
    have : stA r d 3 = stA r d 2 + (wordS (r 2) (d 2)).length + 1 := rfl
    have := (wordS_len (r 3) (d 3) (hd 3).1).1
    omega
  have lt : ∀ k, d k < 1000 := fun k => by have := (hd k).2; omega
  have W0 := At.word (fin := true) w0 s0.one
  have W1 := At.word (fin := true) w1 s1.one
  have W2 := At.word (fin := true) w2 s2.one
  have W3 := At.word (fin := false) w3 (Nat.le_of_eq el)
  exact ⟨tok_any G _ t σ h2 (hd 0).1 (lt 0) W0 (.inl rfl), tok_any G _ t σ h2 (hd 1).1 (lt 1) W1 (pos_next (by omega) s0), tok_any G _ t σ h2 (hd 2).1 (lt 2) W2 (pos_next (by omega) s1), tok_any G _ t σ h2 (hd 3).1 (lt 3) W3 (pos_next (by omega) s2)⟩
end
end Mine
end
section
set_option maxRecDepth 100000
set_option maxHeartbeats 0
namespace Mine
open PySem PySem.W PySem.W.X PyProof.Rows
theorem lt4_ok {a b c e : Nat → Nat} {A0 B0 A1 B1 A2 B2 A3 B3 T : Nat} (h0 : ∀ i, i < 3 → A0 < Nat.succ (a i) ∧ Nat.succ (a i) ≤ B0) (h1 : ∀ i, i < 3 → A1 < Nat.succ (b i) ∧ Nat.succ (b i) ≤ B1) (h2 : ∀ i, i < 3 → A2 < Nat.succ (c i) ∧ Nat.succ (c i) ≤ B2) (h3 : ∀ i, i < 3 → A3 < Nat.succ (e i) ∧ Nat.succ (e i) ≤ B3)
    (l01 : B0 ≤ A1) (l12 : B1 ≤ A2) (l23 : B2 ≤ A3) (lT : B3 ≤ T) : ltD (lt4 a b c e) ∧ ltT (lt4 a b c e) T := by
  refine ⟨fun k m hk hm hn i hi => ?_, fun k hk i hi => ?_⟩
  · have z0 := h0 i hi
    have z1 := h1 i hi
    have z2 := h2 i hi
    have z3 := h3 i hi
    rcases four hk with rfl | rfl | rfl | rfl <;> rcases four hm with rfl | rfl | rfl | rfl <;> first | exact absurd rfl hn | (show a i ≠ b i; omega) | (show a i ≠ c i; omega) | (show a i ≠ e i; omega) | (show b i ≠ a i; omega) | (show b i ≠ c i; omega) | (show b i ≠ e i; omega) | (show c i ≠ a i; omega) | (show c i ≠ b i; omega) | (show c i ≠ e i; omega) | (show e i ≠ a i; omega) | (show e i ≠ b i; omega) | (show e i ≠ c i; omega)
  · have z0 := h0 i hi
    have z1 := h1 i hi
    have z2 := h2 i hi
    have z3 := h3 i hi
    rcases four hk with rfl | rfl | rfl | rfl
    · show Nat.succ (a i) ≤ T; omega
    · show Nat.succ (b i) ≤ T; omega
    · show Nat.succ (c i) ≤ T; omega
    · show Nat.succ (e i) ≤ T; omega
noncomputable def rnC (V : VV) (d tt r : Nat → Nat) (a pa : Addr) (pe : Nat) (ss : Int) (ts h th : Nat) (pv : List Value) (P : Nat → Ev) : List (Code → Ldg → Spec) := [C_is (S_file d tt r a ss ts), C_mach V, C_tok V (txt r d) ((P 4).s.n 0) (P 5).s (d 0) (posA r d 0) (posA r d 1), C_tok V (txt r d) ((P 4).s.n 0) (P 5).s (d 1) (posA r d 1) (posA r d 2), C_tok V (txt r d) ((P 4).s.n 0) (P 5).s (d 2) (posA r d 2) (posA r d 3), C_tok V (txt r d) ((P 4).s.n 0) (P 5).s (d 3) (posA r d 3) (posA r d 4), C_light (d 0) h (rr (d 0) h), C_light (d 1) h (rr (d 1) h), C_light (d 2) h (rr (d 2) h), C_light (d 3) h (rr (d 3) h), C_pushB V (txt r d) ((P 4).s.n 0) (P 5).s, C_mn1 V (Nat.succ 26) a ss ts h th pv pe (txt r d) ((P 4).s.n 0) (P 5).s d, C_wl V 2 (txt r d) ((P 4).s.n 0) (P 5).s]
noncomputable def rnDep : Nat → Nat
  | 0 => 0
  | 1 => 0
  | _ => 6
theorem rnC_dep {V : VV} {d tt r : Nat → Nat} {a pa : Addr} {pe : Nat} {ss : Int} {ts h th : Nat} {pv : List Value} (k : Nat) (P Q : Nat → Ev) (g : Agree (rnDep k) P Q) : (rnC V d tt r a pa pe ss ts h th pv P)[k]? = (rnC V d tt r a pa pe ss ts h th pv Q)[k]? := by
  unfold rnC
  rcases k with _ | _ | k
  · rfl
  · rfl
  · have e4 : P 4 = Q 4 := g 4 (by show 4 < 6; decide)
    have e5 : P 5 = Q 5 := g 5 (by show 5 < 6; decide)
    rw [e4, e5]
theorem C_mach_ok {U : Un} {b₁ b₂ : Bool} (G : Good (mkV U b₁ b₂)) (c : Code) (l : Ldg) : Meets (mkV U b₁ b₂) (C_mach (mkV U b₁ b₂) c l) := by
  exact oS_ok fun ⟨text, t⟩ => machine_meets G _ _
noncomputable def rnL (tk : Nat) (P : Nat → Ev) : List Prop := [(Nat.succ ((P 28).tk) ≤ (P 29).tk), (Nat.succ ((P 27).tk) ≤ (P 28).tk), (Nat.succ ((P 26).tk) ≤ (P 27).tk), (Nat.succ ((P 22).tk) ≤ (P 26).tk), (Nat.succ ((P 21).tk) ≤ (P 22).tk), (((Nat.succ ((P 21).tk) < Nat.succ ((P 22).s.n 1)) ∧ (Nat.succ ((P 22).s.n 1) ≤ (P 22).tk)) ∧ (((Nat.succ ((P 21).tk) < Nat.succ ((P 22).s.n 2)) ∧ (Nat.succ ((P 22).s.n 2) ≤ (P 22).tk)) ∧ ((Nat.succ ((P 21).tk) < Nat.succ ((P 22).s.n 3)) ∧ (Nat.succ ((P 22).s.n 3) ≤ (P 22).tk)))), (Nat.succ ((P 20).tk) ≤ (P 21).tk), (((Nat.succ ((P 20).tk) < Nat.succ ((P 21).s.n 1)) ∧ (Nat.succ ((P 21).s.n 1) ≤ (P 21).tk)) ∧ (((Nat.succ ((P 20).tk) < Nat.succ ((P 21).s.n 2)) ∧ (Nat.succ ((P 21).s.n 2) ≤ (P 21).tk)) ∧ ((Nat.succ ((P 20).tk) < Nat.succ ((P 21).s.n 3)) ∧ (Nat.succ ((P 21).s.n 3) ≤ (P 21).tk)))), (Nat.succ ((P 19).tk) ≤ (P 20).tk), (((Nat.succ ((P 19).tk) < Nat.succ ((P 20).s.n 1)) ∧ (Nat.succ ((P 20).s.n 1) ≤ (P 20).tk)) ∧ (((Nat.succ ((P 19).tk) < Nat.succ ((P 20).s.n 2)) ∧ (Nat.succ ((P 20).s.n 2) ≤ (P 20).tk)) ∧ ((Nat.succ ((P 19).tk) < Nat.succ ((P 20).s.n 3)) ∧ (Nat.succ ((P 20).s.n 3) ≤ (P 20).tk)))), (Nat.succ (Nat.succ ((P 13).tk)) ≤ (P 19).tk), (((Nat.succ (Nat.succ ((P 13).tk)) < Nat.succ ((P 19).s.n 1)) ∧ (Nat.succ ((P 19).s.n 1) ≤ (P 19).tk)) ∧ (((Nat.succ (Nat.succ ((P 13).tk)) < Nat.succ ((P 19).s.n 2)) ∧ (Nat.succ ((P 19).s.n 2) ≤ (P 19).tk)) ∧ ((Nat.succ (Nat.succ ((P 13).tk)) < Nat.succ ((P 19).s.n 3)) ∧ (Nat.succ ((P 19).s.n 3) ≤ (P 19).tk)))), (Nat.succ (Nat.succ ((P 12).tk)) ≤ (P 13).tk), (Nat.succ (Nat.succ ((P 11).tk)) ≤ (P 12).tk), (Nat.succ (Nat.succ ((P 10).tk)) ≤ (P 11).tk), (Nat.succ (Nat.succ (Nat.succ (Nat.succ (Nat.succ ((P 5).tk))))) ≤ (P 10).tk), ((P 4).tk ≤ (P 5).tk), (Nat.succ (Nat.succ (Nat.succ (tk))) ≤ (P 4).tk)]
noncomputable def rnOut (P : Nat → Ev) : Sup := ⟨fun i => match i with | 0 => (P 42).s.n 0 | 1 => (P 32).s.n 0 | 2 => (P 33).s.n 0 | 3 => (P 39).s.n 0 | 4 => (P 36).s.n 7 | 5 => (P 36).s.n 8 | 6 => 4 | 20 => (P 36).s.n 20 | 21 => (P 36).s.n 21 | 22 => (P 36).s.n 22 | 23 => (P 36).s.n 23 | 30 => (P 36).s.n 30 | 31 => (P 36).s.n 31 | 32 => (P 36).s.n 32 | 33 => (P 36).s.n 33 | _ => 0, fun _ => 0, fun _ => ⟨#[]⟩, fun i => match i with | 0 => (P 36).s.v 0 | _ => (P 36).s.v 1⟩
noncomputable def rnEx (h : Nat) (pv : List Value) (d : Nat → Nat) (tk : Nat) (P : Nat → Ev) : List Prop := (Nat.succ (Nat.succ (Nat.succ ((P 36).tk))) ≤ (P 41).tk) :: (Nat.succ (Nat.succ (Nat.succ (Nat.succ (Nat.succ ((P 29).tk))))) ≤ (P 36).tk) :: True :: mnFact h pv 0 (Nat.succ 26) d [] [] (P 36).s :: rnL tk P
noncomputable def rnH : Bool → List Hint
  | true => [.t, .t, .l 3, .l 3, .l 3, .l 3, .l 2, .l 2, .l 3, .l 3, .e none 3 [(⟨#[108, 105, 103, 104, 116, 115]⟩, 0), (⟨#[109, 97, 99, 104, 105, 110, 101]⟩, 1), (⟨#[104, 117, 101, 115]⟩, 2)] ⟨#[95, 108, 97, 119, 95, 114, 117, 110, 46, 60, 108, 111, 99, 97, 108, 115, 62, 46]⟩, .t, .t, .l 3, .l 3, .t, .c 0 [4], .t, .c 1 [6], .l 13, .l 13, .t, .t, .i, .i, .l 0, .l 0, .i, .l 0, .l 0, .l 0, .l 0, .i, .l 0, .l 0, .l 0, .l 0, .l 0, .i, .l 2, .i, .l 2, .l 2, .l 2, .l 2, .l 2, .l 2, .l 2, .l 2, .l 0, .l 0, .l 17, .l 4, .t, .t, .t, .l 4, .t, .t, .t, .l 4, .t, .t, .t, .t, .l 4, .l 5, .t, .c 2 [4, 4, 4, 4, 4, 4, 4, 4, 4, 4], .i, .l 11, .l 11, .l 11, .l 11, .l 12, .i, .l 12, .l 12, .l 12, .l 12, .l 12, .l 12, .l 12, .l 12, .l 10, .l 10, .l 17, .l 0, .t, .t, .t, .l 0, .t, .t, .t, .l 0, .t, .t, .t, .t, .l 0, .l 1, .t, .c 3 [0, 0, 0, 0, 0, 0, 0, 0, 0, 0], .i, .l 11, .l 11, .l 11, .l 11, .l 12, .i, .l 12, .l 12, .l 12, .l 12, .l 12, .l 12, .l 12, .l 12, .l 10, .l 10, .l 17, .l 0, .t, .t, .t, .l 0, .t, .t, .t, .l 0, .t, .t, .t, .t, .l 0, .l 1, .t, .c 4 [0, 0, 0, 0, 0, 0, 0, 0, 0, 0], .i, .l 11, .l 11, .l 11, .l 11, .l 12, .i, .l 12, .l 12, .l 12, .l 12, .l 12, .l 12, .l 12, .l 12, .l 10, .l 10, .l 17, .l 0, .t, .t, .t, .l 0, .t, .t, .t, .l 0, .t, .t, .t, .t, .l 0, .l 1, .t, .c 5 [0, 0, 0, 0, 0, 0, 0, 0, 0, 0], .i, .l 11, .l 11, .l 11, .l 11, .l 12, .i, .l 12, .l 12, .l 12, .l 12, .l 0, .l 21, .l 21, .l 12, .l 12, .l 12, .l 21, .l 13, .l 13, .i, .l 13, .l 0, .i, .l 2, .i, .l 2, .l 2, .l 2, .l 16, .l 2, .l 2, .l 0, .l 0, .t, .l 0, .l 23, .t, .c 6 [], .i, .l 2, .l 2, .l 2, .l 2, .l 3, .i, .l 3, .l 3, .l 3, .l 17, .l 3, .l 3, .l 1, .l 1, .t, .l 1, .l 24, .t, .c 7 [], .i, .l 3, .l 3, .l 3, .l 3, .l 4, .i, .l 4, .l 4, .l 4, .l 18, .l 4, .l 4, .l 2, .l 2, .t, .l 2, .l 25, .t, .c 8 [], .i, .l 4, .l 4, .l 4, .l 4, .l 5, .i, .l 5, .l 5, .l 5, .l 19, .l 5, .l 5, .l 3, .l 3, .t, .l 3, .l 26, .t, .c 9 [], .i, .l 5, .l 5, .l 5, .l 5, .l 6, .i, .l 6, .l 6, .l 6, .l 20, .l 6, .l 6, .l 0, .l 6, .l 6, .l 6, .l 27, .l 27, .l 30, .l 22, .l 22, .i, .l 22, .l 0, .i, .l 0, .i, .l 0, .l 0, .l 0, .l 23, .l 0, .l 0, .l 31, .l 31, .l 29, .l 12, .t, .t, .t, .l 12, .t, .t, .t, .l 12, .t, .t, .t, .t, .l 12, .l 13, .l 31, .t, .c 10 [12, 12, 19], .l 3, .i, .l 3, .l 3, .l 3, .l 23, .l 3, .l 3, .l 31, .l 31, .l 29, .l 0, .t, .t, .t, .l 0, .t, .t, .t, .l 0, .t, .t, .t, .t, .l 0, .l 1, .l 31, .t, .c 10 [0, 0, 0], .l 3, .i, .l 3, .l 3, .l 3, .l 23, .l 3, .l 3, .l 31, .l 31, .l 29, .l 0, .t, .t, .t, .l 0, .t, .t, .t, .l 0, .t, .t, .t, .t, .l 0, .l 1, .l 31, .t, .c 10 [0, 0, 0], .l 3, .i, .l 3, .l 3, .l 3, .l 23, .l 3, .l 3, .l 31, .l 31, .l 29, .l 0, .t, .t, .t, .l 0, .t, .t, .t, .l 0, .t, .t, .t, .t, .l 0, .l 1, .l 31, .t, .c 10 [0, 0, 0], .l 3, .i, .l 3, .l 3, .l 3, .l 23, .l 3, .l 3, .l 0, .l 34, .l 34, .l 35, .l 35, .t, .t, .i, .i, .l 0, .l 0, .i, .l 0, .l 0, .l 0, .l 0, .i, .l 0, .l 0, .l 0, .l 0, .l 0, .ch 11 [37, 0, 36, 2, 1, 32, 32, 31, 14, 12, 11, 10, 9, 3, 3, 3] 0, .l 0, .l 0, .t, .t, .i, .i, .l 0, .l 0, .i, .l 0, .l 0, .l 0, .l 0, .i, .l 0, .l 0, .l 0, .l 0, .l 0, .i, .a 12 [2, 1, 0, 4, 4, 4, 4], .l 1, .l 1, .l 1]
  | false => [.t, .t, .l 3, .l 3, .l 3, .l 3, .l 2, .l 2, .l 3, .l 3, .e none 3 [(⟨#[108, 105, 103, 104, 116, 115]⟩, 0), (⟨#[109, 97, 99, 104, 105, 110, 101]⟩, 1), (⟨#[104, 117, 101, 115]⟩, 2)] ⟨#[95, 108, 97, 119, 95, 114, 117, 110, 46, 60, 108, 111, 99, 97, 108, 115, 62, 46]⟩, .t, .t, .l 3, .l 3, .t, .c 0 [4], .t, .c 1 [6], .l 13, .l 13, .t, .t, .i, .i, .l 0, .l 0, .i, .l 0, .l 0, .l 0, .l 0, .i, .l 0, .l 0, .l 0, .l 0, .l 0, .i, .l 2, .l 2, .i, .l 2, .l 2, .l 2, .i, .l 2, .l 2, .l 2, .l 2, .l 2, .l 2, .l 2, .l 2, .l 0, .l 0, .l 17, .l 4, .t, .t, .t, .l 4, .t, .t, .t, .l 4, .t, .t, .t, .t, .l 4, .l 5, .t, .c 2 [4, 4, 4, 4, 4, 4, 4, 4, 4, 4], .i, .l 11, .l 11, .l 11, .l 11, .l 12, .i, .l 12, .l 12, .l 12, .l 12, .l 12, .l 12, .l 12, .l 12, .l 10, .l 10, .l 17, .l 0, .t, .t, .t, .l 0, .t, .t, .t, .l 0, .t, .t, .t, .t, .l 0, .l 1, .t, .c 3 [0, 0, 0, 0, 0, 0, 0, 0, 0, 0], .i, .l 11, .l 11, .l 11, .l 11, .l 12, .i, .l 12, .l 12, .l 12, .l 12, .l 12, .l 12, .l 12, .l 12, .l 10, .l 10, .l 17, .l 0, .t, .t, .t, .l 0, .t, .t, .t, .l 0, .t, .t, .t, .t, .l 0, .l 1, .t, .c 4 [0, 0, 0, 0, 0, 0, 0, 0, 0, 0], .i, .l 11, .l 11, .l 11, .l 11, .l 12, .i, .l 12, .l 12, .l 12, .l 12, .l 12, .l 12, .l 12, .l 12, .l 10, .l 10, .l 17, .l 0, .t, .t, .t, .l 0, .t, .t, .t, .l 0, .t, .t, .t, .t, .l 0, .l 1, .t, .c 5 [0, 0, 0, 0, 0, 0, 0, 0, 0, 0], .i, .l 11, .l 11, .l 11, .l 11, .l 12, .i, .l 12, .l 12, .l 12, .l 12, .l 0, .l 21, .l 21, .l 12, .l 12, .l 12, .l 21, .l 13, .l 13, .i, .l 13, .l 0, .i, .l 2, .l 2, .i, .l 2, .l 2, .l 2, .i, .l 2, .l 2, .l 2, .l 16, .l 2, .l 2, .l 0, .l 0, .t, .l 0, .l 23, .t, .c 6 [], .i, .l 2, .l 2, .l 2, .l 2, .l 3, .i, .l 3, .l 3, .l 3, .l 17, .l 3, .l 3, .l 1, .l 1, .t, .l 1, .l 24, .t, .c 7 [], .i, .l 3, .l 3, .l 3, .l 3, .l 4, .i, .l 4, .l 4, .l 4, .l 18, .l 4, .l 4, .l 2, .l 2, .t, .l 2, .l 25, .t, .c 8 [], .i, .l 4, .l 4, .l 4, .l 4, .l 5, .i, .l 5, .l 5, .l 5, .l 19, .l 5, .l 5, .l 3, .l 3, .t, .l 3, .l 26, .t, .c 9 [], .i, .l 5, .l 5, .l 5, .l 5, .l 6, .i, .l 6, .l 6, .l 6, .l 20, .l 6, .l 6, .l 0, .l 6, .l 6, .l 6, .l 27, .l 27, .l 30, .l 22, .l 22, .i, .l 22, .l 0, .i, .l 0, .i, .l 0, .l 0, .l 0, .l 23, .l 0, .l 0, .l 31, .l 31, .l 29, .l 12, .t, .t, .t, .l 12, .t, .t, .t, .l 12, .t, .t, .t, .t, .l 12, .l 13, .l 31, .t, .c 10 [12, 12, 19], .l 3, .i, .l 3, .l 3, .l 3, .l 23, .l 3, .l 3, .l 31, .l 31, .l 29, .l 0, .t, .t, .t, .l 0, .t, .t, .t, .l 0, .t, .t, .t, .t, .l 0, .l 1, .l 31, .t, .c 10 [0, 0, 0], .l 3, .i, .l 3, .l 3, .l 3, .l 23, .l 3, .l 3, .l 31, .l 31, .l 29, .l 0, .t, .t, .t, .l 0, .t, .t, .t, .l 0, .t, .t, .t, .t, .l 0, .l 1, .l 31, .t, .c 10 [0, 0, 0], .l 3, .i, .l 3, .l 3, .l 3, .l 23, .l 3, .l 3, .l 31, .l 31, .l 29, .l 0, .t, .t, .t, .l 0, .t, .t, .t, .l 0, .t, .t, .t, .t, .l 0, .l 1, .l 31, .t, .c 10 [0, 0, 0], .l 3, .i, .l 3, .l 3, .l 3, .l 23, .l 3, .l 3, .l 0, .l 34, .l 34, .l 35, .l 35, .t, .t, .i, .i, .l 0, .l 0, .i, .l 0, .l 0, .l 0, .l 0, .i, .l 0, .l 0, .l 0, .l 0, .l 0, .ch 11 [37, 0, 36, 2, 1, 32, 32, 31, 14, 12, 11, 10, 9, 3, 3, 3] 0, .l 0, .l 0, .t, .t, .i, .i, .l 0, .l 0, .i, .l 0, .l 0, .l 0, .l 0, .i, .l 0, .l 0, .l 0, .l 0, .l 0, .i, .l 2, .l 2, .i, .l 2, .l 2, .a 12 [2, 1, 0, 4, 4, 4, 4], .l 1, .l 1, .l 1]
section
variable {U : Un} {b₁ b₂ : Bool} (G : Good (mkV U b₁ b₂))
include G
theorem rnC_ok {d tt r : Nat → Nat} {a pa : Addr} {pe : Nat} {ss : Int} {ts h th : Nat} {pv : List Value} (hh : h ∈ [4, 6, 8]) (hpv : AllInt pv) (hpl : pv.length ≤ 1000) (hd : ∀ k, 1 ≤ d k ∧ d k ≤ 12) (hz : ∀ k, k < 4 → kindZ ss k = Int.ofNat (r k)) (hr : ∀ k, r k < 3) (P : Nat → Ev) : CsOk (mkV U b₁ b₂) (rnC (mkV U b₁ b₂) d tt r a pa pe ss ts h th pv P) := by
  have hd' : ∀ k, 1 ≤ d k ∧ d k < 40 := fun k => ⟨(hd k).1, by have := (hd k).2; omega⟩
  have T := toks (r := r) G hd' ((P 4).s.n 0) (P 5).s
  have li : ∀ k, Int.fmod (ti (d k) h) 6 = Int.ofNat (rr (d k) h) ∧ rr (d k) h < 6 := fun k => by
    have z := lt_fin h hh _ (List.mem_range.mpr (hd' k).2)
    exact ⟨z.1, z.2.1⟩
  exact ⟨C_is_ok (file_meets G d tt r a ss ts hz hr hd'), C_mach_ok G, C_tok_ok T.1, C_tok_ok T.2.1, C_tok_ok T.2.2.1, C_tok_ok T.2.2.2, C_light_ok G (hd' 0).2 hh (li 0).1 (li 0).2, C_light_ok G (hd' 1).2 hh (li 1).1 (li 1).2, C_light_ok G (hd' 2).2 hh (li 2).1 (li 2).2, C_light_ok G (hd' 3).2 hh (li 3).1 (li 3).2, C_pushB_ok G, C_mn1_ok fun x u ia ll el li lt cs ec ms em tw e => mn_meets G hh hpv hpl (fun k _ => hd k) x u ia ll el li lt cs ec ms em tw e, C_wl_ok (wl_meets G 2 (by decide) · (txt r d) ((P 4).s.n 0) (P 5).s), trivial⟩
theorem run_meets {d tt r : Nat → Nat} {a pa : Addr} {pe : Nat} {ss : Int} {ts h th : Nat} {pv : List Value} (hh : h ∈ [4, 6, 8]) (hpv : AllInt pv) (hpl : pv.length ≤ 1000) (hd : ∀ k, 1 ≤ d k ∧ d k ≤ 12) (hz : ∀ k, k < 4 → kindZ ss k = Int.ofNat (r k)) (hr : ∀ k, r k < 3) : Meets (mkV U b₁ b₂) (S_run (mkV U b₁ b₂) d tt r a pa pe ss ts h th pv) := by
  have FF : ∀ P : Nat → Ev, mnFact h pv 0 (Nat.succ 26) d [] [] (P 36).s → (S_run (mkV U b₁ b₂) d tt r a pa pe ss ts h th pv).fact (rnOut P) := fun P f => by
    obtain ⟨x, y, e1, e2, g1, g2, g3⟩ := f
    refine ⟨?_, ?_, fun k hk => ?_⟩
    · show IsI ((P 36).s.v 0) _
      rw [e1]
      exact g1
    · show IsI ((P 36).s.v 1) _
      rw [e2]
      exact g2
    · rcases four hk with rfl | rfl | rfl | rfl
      · exact g3 0 (by omega)
      · exact g3 1 (by omega)
      · exact g3 2 (by omega)
      · exact g3 3 (by omega)
  refine meets_dep (cs := rnC (mkV U b₁ b₂) d tt r a pa pe ss ts h th pv) (dep := rnDep) (ds := []) G (rnC_ok G hh hpv hpl hd hz hr) rnC_dep trivial (.run (dn (S_run (mkV U b₁ b₂) d tt r a pa pe ss ts h th pv).code)) (fun A R L tk q => sg_run q) 962 (rnH b₂) (fun tk P => rnOut P) (fun tk P => rnEx h pv d tk P) [0, 8, 8, 0, 29] (fun tk P => (P 41).tk)
    (fun tk ht P q => ⟨impL (rnL tk P) ((((([] : List Value).length ≤ 0 ∧ ([] : List Value).length ≤ 0) ∧ ltD (lt4 (tk3 ((P 19).s.n 1) ((P 19).s.n 2) ((P 19).s.n 3)) (tk3 ((P 20).s.n 1) ((P 20).s.n 2) ((P 20).s.n 3)) (tk3 ((P 21).s.n 1) ((P 21).s.n 2) ((P 21).s.n 3)) (tk3 ((P 22).s.n 1) ((P 22).s.n 2) ((P 22).s.n 3)))) ∧ ltT (lt4 (tk3 ((P 19).s.n 1) ((P 19).s.n 2) ((P 19).s.n 3)) (tk3 ((P 20).s.n 1) ((P 20).s.n 2) ((P 20).s.n 3)) (tk3 ((P 21).s.n 1) ((P 21).s.n 2) ((P 21).s.n 3)) (tk3 ((P 22).s.n 1) ((P 22).s.n 2) ((P 22).s.n 3))) (Nat.succ (Nat.succ (Nat.succ (Nat.succ (Nat.succ ((P 29).tk)))))))), impI (fun g => by
      simp only [rnL, List.forall_mem_cons] at g
      have z := lt4_ok (a := tk3 ((P 19).s.n 1) ((P 19).s.n 2) ((P 19).s.n 3)) (b := tk3 ((P 20).s.n 1) ((P 20).s.n 2) ((P 20).s.n 3)) (c := tk3 ((P 21).s.n 1) ((P 21).s.n 2) ((P 21).s.n 3)) (e := tk3 ((P 22).s.n 1) ((P 22).s.n 2) ((P 22).s.n 3)) (T := Nat.succ (Nat.succ (Nat.succ (Nat.succ (Nat.succ ((P 29).tk))))))
        (tk3_ok (t := Nat.succ (Nat.succ ((P 13).tk))) (T := (P 19).tk) (by omega) (by omega) (by omega)) (tk3_ok (t := Nat.succ ((P 19).tk)) (T := (P 20).tk) (by omega) (by omega) (by omega)) (tk3_ok (t := Nat.succ ((P 20).tk)) (T := (P 21).tk) (by omega) (by omega) (by omega)) (tk3_ok (t := Nat.succ ((P 21).tk)) (T := (P 22).tk) (by omega) (by omega) (by omega)) (by omega) (by omega) (by omega) (by omega)
      exact ⟨⟨⟨Nat.le_refl _, Nat.le_refl _⟩, z.1⟩, z.2⟩)⟩)
    (fun tk ht P hp => ⟨FF P (hp _ (.tail _ (.tail _ (.tail _ (.head _))))), trivial⟩) (fun tk ht P => ?_)
  exact Bool.casesOn b₁ (Bool.casesOn b₂ (by kernel_rfl!) (by kernel_rfl!)) (Bool.casesOn b₂ (by kernel_rfl!) (by kernel_rfl!))
end
end Mine
end
section
set_option maxRecDepth 100000
set_option maxHeartbeats 0
namespace Mine
open PySem PySem.W PySem.W.X PyProof.Rows
/-! _law_calm -/
noncomputable def ifTest : Stmt → Expr
  | .If e _ _ _ => e
  | _ => dflE
noncomputable def boE (i : Nat) : Expr → Expr
  | .BoolOp _ es _ => match es[i]? with
    | some e => e
    | none => dflE
  | _ => dflE
/-- '_law_calm.<locals>.' -/
noncomputable def qCalm : Str := ⟨#[95, 108, 97, 119, 95, 99, 97, 108, 109, 46, 60, 108, 111, 99, 97, 108, 115, 62, 46]⟩
noncomputable def calmCmp (V : VV) : Expr := boE 1 (ifTest (nthS (fnBody V 177) 0))
noncomputable def calmLc (V : VV) : Expr := cmL (calmCmp V)
structure Kx where
  ia : Addr
  la : Addr
  da : Addr
  cc : Addr
  ma : Addr
  fa : Addr
  em : Nat
  ea : Nat
noncomputable def ckEnv (x : Kx) : Env := ⟨⟨.function, [(sDot0, .local), (sK, .local), (sCrowds, .cell)], false, false, []⟩, x.da, 3, [(sCrowds, x.cc)], qCalm, none, .ref 176, some x.fa, 0⟩
/-- the places from k on, m of them, where more may move than before: none -/
noncomputable def S_ck (V : VV) (x : Kx) (first : Bool) (vs : List Value) (k m : Nat) (h0 : Int) (k0 : Nat) (z0 : Int) (t0 e0 : Nat) : Spec where
  need := true
  d := 6
  code := .compLoop (calmLc V) 0 (.ref x.ia) (.ref x.la) (ckEnv x)
  pre := [(x.ia, rgO k m), (x.la, listO #[] x.ea), (x.da, match first with | true => dictO [] e0 | false => dictO [⟨h0, .str sK k0, .int z0 t0⟩] e0), (x.cc, cellO (.ref x.ma)), (x.ma, listO ⟨vs⟩ x.em)]
  hasFact := false
  fact := fun _ => True
  res := fun _ => .ok .next
  post := fun σ => [(x.la, listO #[] x.ea), (x.da, dictO [⟨σ.z 0, .str sK (σ.n 1), .int (σ.z 1) (σ.n 2)⟩] (σ.n 3)), (x.cc, cellO (.ref x.ma)), (x.ma, listO ⟨vs⟩ x.em)]
noncomputable def kTok : Obj → Int × Nat × Int × Nat × Nat
  | ⟨_, _, .dict ⟨es⟩ e0, _⟩ => match es with
    | [⟨h0, .str _ k0, .int z0 t0⟩] => (h0, k0, z0, t0, e0)
    | _ => (0, 0, 0, 0, e0)
  | _ => (0, 0, 0, 0, 0)
noncomputable def C_ck (V : VV) (first : Bool) (vs : List Value) (k m : Nat) : Code → Ldg → Spec := fun c l => oS c (match c with
  | .compLoop _ _ (.ref ia) (.ref la) env => match env.frame with
    | some fa => some (ia, la, fa)
    | none => none
  | _ => none) fun (ia, la, fa) =>
    S_ck V ⟨ia, la, ad l 2, ad l 3, ad l 4, fa, (seqOf (ob l 4)).2, (seqOf (ob l 1)).2⟩ first vs k m (kTok (ob l 2)).1 (kTok (ob l 2)).2.1 (kTok (ob l 2)).2.2.1 (kTok (ob l 2)).2.2.2.1 (kTok (ob l 2)).2.2.2.2
theorem C_ck_ok {V : VV} {first : Bool} {vs : List Value} {k m : Nat} (mm : ∀ x h0 k0 z0 t0 e0, Meets V (S_ck V x first vs k m h0 k0 z0 t0 e0)) (c : Code) (l : Ldg) : Meets V (C_ck V first vs k m c l) := by
  exact oS_ok fun ⟨ia, la, fa⟩ => mm _ _ _ _ _ _
noncomputable def CalmOk (vs : List Value) : Prop := AllInt vs ∧ vs.length = 27 ∧ (∀ i, i < 26 → zOf vs (i + 1) ≤ zOf vs i) ∧ ∀ i, 19 ≤ i → i < 27 → zOf vs i = 1
noncomputable def S_calm (a : Addr) (vs : List Value) (e : Nat) : Spec where
  need := true
  d := 30
  code := .call (.ref 177) ⟨[.ref a], []⟩
  pre := [(a, listO ⟨vs⟩ e)]
  hasFact := false
  fact := fun _ => True
  res := fun _ => .ok (.ret (.bool true))
  post := fun _ => [(a, listO ⟨vs⟩ e)]
  hasHyp := true
  hyp := CalmOk vs
noncomputable def calmEnv (V : VV) (fa cc : Addr) : Env := envAt V 177 fa [(sCrowds, cc)] qCalm
/-- its body -/
noncomputable def S_calmF (V : VV) (fa cc a : Addr) (vs : List Value) (e : Nat) : Spec where
  need := true
  d := 25
  code := .func (fnBody V 177) (calmEnv V fa cc)
  pre := [(fa, frO [] 0), (cc, cellO (.ref a)), (a, listO ⟨vs⟩ e)]
  hasFact := false
  fact := fun _ => True
  res := fun _ => .ok (.ret (.bool true))
  post := fun _ => [(a, listO ⟨vs⟩ e)]
  hasHyp := true
  hyp := CalmOk vs
noncomputable def sgCl (V : VV) (fa cc : Addr) : Sg := sgCalm (boE 0 (ifTest (nthS (fnBody V 177) 0))) (cmL (calmCmp V)) (cmR (calmCmp V)) (cmL (retE (nthS (fnBody V 177) 1))) (cmR (retE (nthS (fnBody V 177) 1))) (calmEnv V fa cc)
noncomputable def C_calmF (V : VV) : Code → Ldg → Spec := fun c l => oS c (match c with
  | .func _ _ => some ()
  | _ => none) fun _ =>
    S_calmF V (ad l 0) (ad l 1) (ad l 2) (seqOf (ob l 2)).1 (seqOf (ob l 2)).2
theorem C_calmF_ok {V : VV} (mm : ∀ fa cc a vs e, Meets V (S_calmF V fa cc a vs e)) (c : Code) (l : Ldg) : Meets V (C_calmF V c l) := by
  exact oS_ok fun _ => mm _ _ _ _ _
end Mine
end
section
set_option maxRecDepth 100000
set_option maxHeartbeats 0
namespace Mine
open PySem PySem.W PySem.W.X PyProof.Rows
noncomputable def boPos : Expr → Pos
  | .BoolOp _ _ p => p
  | _ => default
noncomputable def retPos : Stmt → Pos
  | .Return _ p => p
  | _ => default
theorem eqVs_nil : EqVs [] [] := ⟨rfl, fun i h => absurd h (Nat.not_lt_zero _)⟩
theorem zOf_is {vs : List Value} {i : Nat} (hd : AllInt vs) (hi : i < vs.length) : ∃ u, vs[i]? = some (.int (zOf vs i) u) := by
  obtain ⟨z, u, e⟩ := hd i hi
  exact ⟨u, by rw [zOf_eq e]; exact e⟩
theorem eqVs_ones {vs : List Value} {t : Nat} (h : CalmOk vs) : EqVs (vs.drop 19) [.int (Int.ofNat 1) t, .int (Int.ofNat 1) t, .int (Int.ofNat 1) t, .int (Int.ofNat 1) t, .int (Int.ofNat 1) t, .int (Int.ofNat 1) t, .int (Int.ofNat 1) t, .int (Int.ofNat 1) t] := by
  obtain ⟨hd, hl, _, h1⟩ := h
  refine ⟨by rw [List.length_drop, hl]; rfl, fun i g1 g2 => .inl ⟨Int.ofNat 1, ?_⟩⟩
  rw [List.length_drop, hl] at g1
  obtain ⟨u, e⟩ := zOf_is hd (i := 19 + i) (by omega)
  refine ⟨u, t, ?_, ?_⟩
  · have e1 : (vs.drop 19)[i]? = some (.int (zOf vs (19 + i)) u) := by rw [List.getElem?_drop]; exact e
    rw [h1 (19 + i) (by omega) (by omega)] at e1
    exact (List.getElem?_eq_some_iff.mp e1).2
  · have : i = 0 ∨ i = 1 ∨ i = 2 ∨ i = 3 ∨ i = 4 ∨ i = 5 ∨ i = 6 ∨ i = 7 := by omega
    rcases this with rfl | rfl | rfl | rfl | rfl | rfl | rfl | rfl <;> rfl
section
variable {U : Un} {b₁ b₂ : Bool} (G : Good (mkV U b₁ b₂))
include G
theorem ck_meets {vs : List Value} (hc : CalmOk vs) : ∀ (m k : Nat), Nat.succ k + m = 27 → ∀ (x : Kx) (first : Bool) (h0 : Int) (k0 : Nat) (z0 : Int) (t0 e0 : Nat), (first = true → 0 < m) → Meets (mkV U b₁ b₂) (S_ck (mkV U b₁ b₂) x first vs (Nat.succ k) m h0 k0 z0 t0 e0) := by
  intro m
  induction m with
  | zero =>
    intro k hk x first h0 k0 z0 t0 e0 hf
    have e : k = 26 := by omega
    subst e
    cases first with
    | true => exact absurd (hf rfl) (by omega)
    | false => exact meets_of G (cs := []) trivial 29 [.l 0, .i, .l 0, .l 0, .l 0, .l 0, .l 0] (fun tk P => ⟨fun i => match i with | 1 => k0 | 2 => t0 | _ => e0, fun i => match i with | 0 => h0 | _ => z0, fun _ => ⟨#[]⟩, fun _ => []⟩) (fun tk P => []) [3, 3, 3, 3] (fun _ _ _ => trivial) (fun tk P => by kernel_rfl!)
  | succ m ih =>
    intro k hk x first h0 k0 z0 t0 e0 hf
    have IH := C_ck_ok (V := mkV U b₁ b₂) (first := false) fun x h0 k0 z0 t0 e0 => ih (Nat.succ k) (by omega) x false h0 k0 z0 t0 e0 (fun h => nomatch h)
    obtain ⟨hd, hl, hm, _⟩ := hc
    have lt : Int.ofNat (Nat.succ k) < 1000 := Int.ofNat_lt.mpr (show Nat.succ k < 1000 by omega)
    have e1 : (Int.ofNat (Nat.succ k)).toNat = Nat.succ k := rfl
    have e2 : Int.ofNat (Nat.succ k) - Int.ofNat 1 = Int.ofNat k := by show ((Nat.succ k : Nat) : Int) - 1 = (k : Int); omega
    have p1 : 0 ≤ Int.ofNat (Nat.succ k) ∧ Int.ofNat (Nat.succ k) < 1000 ∧ ∃ z u, vs[(Int.ofNat (Nat.succ k)).toNat]? = some (.int z u) := ⟨Int.natCast_nonneg _, lt, hd _ (by show Nat.succ k < vs.length; omega)⟩
    have p2 : 0 ≤ Int.ofNat (Nat.succ k) - Int.ofNat 1 ∧ Int.ofNat (Nat.succ k) - Int.ofNat 1 < 1000 ∧ ∃ z u, vs[(Int.ofNat (Nat.succ k) - Int.ofNat 1).toNat]? = some (.int z u) := by
      rw [e2]
      exact ⟨Int.natCast_nonneg _, Int.ofNat_lt.mpr (show k < 1000 by omega), hd _ (by show k < vs.length; omega)⟩
    have p3 : decide (zOf vs (Int.ofNat (Nat.succ k)).toNat > zOf vs (Int.ofNat (Nat.succ k) - Int.ofNat 1).toNat) = false := by
      rw [e2]
      have := hm k (by omega)
      exact decide_eq_false (by show ¬ zOf vs (k + 1) > zOf vs k; omega)
    have C : CsOk (mkV U b₁ b₂) [C_rnx (Nat.succ k) m, C_getz, C_cmpb nGt (zOf vs (Int.ofNat (Nat.succ k)).toNat) (zOf vs (Int.ofNat (Nat.succ k) - Int.ofNat 1).toNat) false, C_ck (mkV U b₁ b₂) false vs (Nat.succ (Nat.succ k)) m] := ⟨C_rnx_ok G.ok, C_getz_ok, C_gt_ok p3, IH, trivial⟩
    cases first <;> exact meets_hp G C 58 [.l 0, .c 0 [0], .l 2, .l 2, .l 3, .l 2, .l 4, .l 4, .l 4, .ch 1 [4] 0, .l 4, .l 3, .i, .l 0, .l 0, .l 0, .ch 1 [0] 1, .c 2 [], .a 3 [1, 1, 1, 1, 0]] (fun tk P => (P 4).s) (fun tk P => []) [0, 0, 0, 0] (fun tk P m' => match m' with | 0 => ⟨_, p1⟩ | _ => ⟨_, p2⟩) (fun _ _ _ => trivial) (fun tk P => by exact Bool.casesOn b₁ (by kernel_rfl!) (by kernel_rfl!))
theorem clf_conv {A : Around} {R : RPost} {L : Ldg} {tk : Nat} {fa cc : Addr} (q : SgGo (mkV U b₁ b₂) A (.func (fnBody (mkV U b₁ b₂) 177) (calmEnv (mkV U b₁ b₂) fa cc)) R (sgCl (mkV U b₁ b₂) fa cc) L tk) : CodeG (mkV U b₁ b₂) A (.func (fnBody (mkV U b₁ b₂) 177) (calmEnv (mkV U b₁ b₂) fa cc)) R L tk := by
  cases b₁ <;> cases b₂ <;> exact calm_conv (p1 := boPos (ifTest (nthS (fnBody (mkV U true true) 177) 0))) (p2 := exPos (calmCmp (mkV U true true))) (p3 := exPos (retE (nthS (fnBody (mkV U true true) 177) 1))) (q1 := ifPos (nthS (fnBody (mkV U true true) 177) 0)) (q2 := retPos (nthS (fnBody (mkV U true true) 177) 1)) (tb := ifT (nthS (fnBody (mkV U true true) 177) 0)) (by kernel_rfl!) (by kernel_rfl!) (by kernel_rfl!) q
noncomputable def clfH : Bool → List Hint
  | true => [.t, .t, .l 1, .ch 0 [2] 0, .i, .t, .t, .i, .i, .l 0, .l 0, .i, .l 0, .l 0, .l 0, .l 0, .i, .l 0, .l 0, .l 0, .l 0, .l 0, .i, .a 1 [2, 1, 0, 3, 1], .l 1, .l 1, .l 1, .qh 0 [1, 0] 1, .l 3, .l 5, .l 5, .l 5, .ch 2 [5, 0] 2, .l 0, .i, .l 0, .l 0, .c 3 [0], .qh 1 [2, 0] 3]
  | false => [.t, .t, .l 1, .ch 0 [2] 0, .i, .t, .t, .i, .i, .l 0, .l 0, .i, .l 0, .l 0, .l 0, .l 0, .i, .l 0, .l 0, .l 0, .l 0, .l 0, .i, .l 2, .l 2, .i, .l 2, .l 2, .a 1 [2, 1, 0, 3, 1], .l 1, .l 1, .l 1, .qh 0 [1, 0] 1, .l 3, .l 5, .l 5, .l 5, .ch 2 [5, 0] 2, .l 0, .i, .l 0, .l 0, .c 3 [0], .qh 1 [2, 0] 3]
theorem clf_meets (fa cc a : Addr) (vs : List Value) (e : Nat) : Meets (mkV U b₁ b₂) (S_calmF (mkV U b₁ b₂) fa cc a vs e) := by
  refine Meets.hyp fun hy => ?_
  have hc : CalmOk vs := hy
  have C : CsOk (mkV U b₁ b₂) [C_len 27, C_ck (mkV U b₁ b₂) true vs (Nat.succ 0) (Nat.succ 25), C_slf 19, C_lmul 8] := ⟨C_len_ok, C_ck_ok fun x h0 k0 z0 t0 e0 => ck_meets G hc 26 0 rfl x true h0 k0 z0 t0 e0 (fun _ => by omega), C_slf_ok, C_lmul_ok (by decide), trivial⟩
  have D : DsOk (mkV U b₁ b₂) [D_neF, D_eqT] := ⟨D_neF_ok, D_eqT_ok, trivial⟩
  have l1 : vs.length = 27 ∧ 27 ≤ 1000 := ⟨hc.2.1, by decide⟩
  have l2 : vs.length ≤ 1000 := by have := hc.2.1; omega
  refine meets_sg G C D (sgCl (mkV U b₁ b₂) fa cc) (fun A R L tk q => clf_conv G q) 133 (clfH b₂) (fun tk P => sup0) (fun tk P => []) [3] (fun tk P m' => match m' with | 0 => ⟨_, l1⟩ | 1 => ⟨_, eqVs_nil⟩ | 2 => ⟨_, l2⟩ | _ => ⟨_, eqVs_ones (t := Nat.succ (P 8).tk) hc⟩) (fun _ _ _ => trivial) (fun tk P => ?_)
  exact Bool.casesOn b₁ (Bool.casesOn b₂ (by kernel_rfl!) (by kernel_rfl!)) (Bool.casesOn b₂ (by kernel_rfl!) (by kernel_rfl!))
theorem calm_meets (a : Addr) (vs : List Value) (e : Nat) : Meets (mkV U b₁ b₂) (S_calm a vs e) := by
  refine Meets.hyp fun hy => ?_
  have hc : CalmOk vs := hy
  have C : CsOk (mkV U b₁ b₂) [C_calmF (mkV U b₁ b₂)] := ⟨C_calmF_ok fun fa cc a vs e => clf_meets G fa cc a vs e, trivial⟩
  exact meets_hp G C 24 [.t, .t, .l 0, .l 0, .e none 1 [(⟨#[99, 114, 111, 119, 100, 115]⟩, 0)] ⟨#[95, 108, 97, 119, 95, 99, 97, 108, 109, 46, 60, 108, 111, 99, 97, 108, 115, 62, 46]⟩, .ah 0 [1, 0, 0] 0] (fun tk P => sup0) (fun tk P => []) [0] (fun tk P m' => ⟨_, hc⟩) (fun _ _ _ => trivial) (fun tk P => by exact Bool.casesOn b₁ (by kernel_rfl!) (by kernel_rfl!))
end
end Mine
end
section
set_option maxRecDepth 100000
set_option maxHeartbeats 400000
namespace Mine
open PySem PySem.W PySem.W.X PyProof.Rows
/-- a > b, known to be false -/
noncomputable def C_gtF : Code → Ldg → Spec := fun c _ => oS c (match c with
  | .call (.builtin id) ⟨[.int a t, .int b u], []⟩ => some (id, a, t, b, u)
  | _ => none) fun (id, a, t, b, u) =>
    { bSpec (.call (.builtin id) ⟨[.int a t, .int b u], []⟩) (S.eqLit nGt id) (fun _ => .bool false) with hasHyp := true, hyp := ¬ a > b }
theorem C_gtF_ok {V : VV} (c : Code) (l : Ldg) : Meets V (C_gtF c l) := by
  refine oS_ok fun ⟨id, a, t, b, u⟩ => ?_
  show Meets _ ({ bSpec (.call (.builtin id) ⟨[.int a t, .int b u], []⟩) (S.eqLit nGt id) (fun _ => .bool false) with hasHyp := true, hyp := ¬ a > b })
  intro q hy
  have h0 := q
  have hy' : ¬ a > b := hy
  have e := id_of q (s := "int.__gt__") (by decide +kernel)
  subst e
  exact con_gives (V := V) F.slot_int_gt (fun s => rfl) F.entry_int_gt (F.args_int_gt_2 _ _) (AutoIntG4.int___gt___int_int_0 a t b u) trivial (fun σ => by show Value.bool false = Value.bool (decide (a > b)); rw [decide_eq_false hy']) h0 trivial
noncomputable def nLe : Nat := 455125450447892616933226
theorem C_le_ok {V : VV} {a b : Int} {v : Bool} (h : decide (a ≤ b) = v) (c : Code) (l : Ldg) : Meets V (C_cmpb nLe a b v c l) := by
  refine oS_ok fun ⟨id, t, u⟩ => ?_
  show Meets _ (bSpec (.call (.builtin id) ⟨[.int a t, .int b u], []⟩) (S.eqLit _ id) (fun _ => .bool v))
  intro q
  have h0 := q
  have e := id_of q (s := "int.__le__") (by decide +kernel)
  subst e
  exact con_gives F.slot_int_le (fun s => rfl) F.entry_int_le (F.args_int_le_2 _ _) (AutoIntG1.int___le___int_int_0 a t b u) trivial (fun σ => by rw [← h]; rfl) h0
/-- '.' * z, where z is d -/
noncomputable def C_mulz (z : Int) (d : Nat) : Code → Ldg → Spec := fun c _ => oS c (match c with
  | .call (.builtin id) ⟨[.str _ a, .int _ b], []⟩ => some (id, a, b)
  | _ => none) fun (id, a, b) =>
    bSpec (.call (.builtin id) ⟨[.str ⟨#[46]⟩ a, .int z b], []⟩) (S.eqLit 116512245094328231196325236 id) (fun σ => .str (dotS d) (σ.n 0))
theorem C_mulz_ok {V : VV} {z : Int} {d : Nat} (h : z = Int.ofNat d) (m : ∀ a b, Meets V (S_mul d a b)) (c : Code) (L : Ldg) : Meets V (C_mulz z d c L) := by
  subst h
  exact C_mul_ok m c L
/-- a % b, b above 0: a number from 0 on -/
noncomputable def C_modN : Code → Ldg → Spec := fun c _ => oS c (match c with
  | .call (.builtin id) ⟨[.int a t, .int b u], []⟩ => some (id, a, t, b, u)
  | _ => none) fun (id, a, t, b, u) =>
    bSpec (.call (.builtin id) ⟨[.int a t, .int b u], []⟩) (S.eqLit 116512097088030077292474218 id && Int.ble' 1 b) (fun σ => .int (Int.ofNat (Int.fmod a b).toNat) (σ.n 0))
theorem C_modN_ok {V : VV} (c : Code) (l : Ldg) : Meets V (C_modN c l) := by
  refine oS_ok fun ⟨id, a, t, b, u⟩ => ?_
  show Meets _ (bSpec (.call (.builtin id) ⟨[.int a t, .int b u], []⟩) (S.eqLit 116512097088030077292474218 id && Int.ble' 1 b) (fun σ => .int (Int.ofNat (Int.fmod a b).toNat) (σ.n 0)))
  intro q
  have h0 := q
  simp only [bSpec, Bool.and_eq_true] at q
  have e := id_of q.1 (s := "int.__mod__") (by decide +kernel)
  subst e
  have hb : 1 ≤ b := le_of_ble' q.2
  have hn : 0 ≤ Int.fmod a b := Int.fmod_nonneg_of_pos a (by omega)
  exact con_gives (V := V) F.slot_int_mod (fun s => rfl) F.entry_int_mod (F.args_int_mod_2 _ _) (AutoIntG6.int___mod___int_int_1 a t b u (by simp; omega)) trivial (fun σ => by
    show Value.int (Int.ofNat (Int.fmod a b).toNat) _ = Value.int (Int.fmod a b) _
    rw [show Int.ofNat (Int.fmod a b).toNat = Int.fmod a b from Int.toNat_of_nonneg hn]) h0
/-- a // b of a small number -/
noncomputable def C_fdN : Code → Ldg → Spec := fun c _ => oS c (match c with
  | .call (.builtin id) ⟨[.int a t, .int b u], []⟩ => some (id, a, t, b, u)
  | _ => none) fun (id, a, t, b, u) =>
    { bSpec (.call (.builtin id) ⟨[.int a t, .int b u], []⟩) (S.eqLit 128106770130096871752080967664072486762 id) (fun σ => .int (Int.fdiv a b) (σ.n 0)) with hasHyp := true, hyp := b ≠ 0 ∧ Builtin.divisionGoesByPylong a b = false }
theorem C_fdN_ok {V : VV} (c : Code) (l : Ldg) : Meets V (C_fdN c l) := by
  refine oS_ok fun ⟨id, a, t, b, u⟩ => ?_
  show Meets _ ({ bSpec (.call (.builtin id) ⟨[.int a t, .int b u], []⟩) (S.eqLit 128106770130096871752080967664072486762 id) (fun σ => .int (Int.fdiv a b) (σ.n 0)) with hasHyp := true, hyp := b ≠ 0 ∧ Builtin.divisionGoesByPylong a b = false })
  intro q hy
  have h0 := q
  have hy' : b ≠ 0 ∧ Builtin.divisionGoesByPylong a b = false := hy
  have e := id_of q (s := "int.__floordiv__") (by decide +kernel)
  subst e
  exact con_gives (V := V) F.slot_int_floordiv (fun s => rfl) F.entry_int_floordiv (F.args_int_floordiv_2 _ _) (AutoIntG4.int___floordiv___int_int_1 a t b u (by simpa using hy'.1) (by simpa using hy'.2)) trivial (fun σ => rfl) h0 trivial
/-- an item of (4, 6, 8) -/
noncomputable def hsel (i : Nat) : Nat := match i with
  | 0 => 4
  | 1 => 6
  | _ => 8
noncomputable def C_tup3 : Code → Ldg → Spec := fun c l => oS c (match c with
  | .call (.builtin id) ⟨[.ref _, .int i t], []⟩ => match l with
    | [(a, ⟨_, _, .seq ⟨vs⟩ _, _⟩)] => some (id, i, t, a, vs)
    | _ => none
  | _ => none) fun (id, i, t, a, vs) =>
    { need := S.eqLit 32795286342768305172929921614907396159093 id, d := 1, code := .call (.builtin id) ⟨[.ref a, .int i t], []⟩, pre := [(a, tupO ⟨vs⟩)], hasFact := false, fact := fun _ => True, res := fun _ => .ok (.ret (.int (Int.ofNat (hsel i.toNat)) (tOf vs i.toNat))), post := fun _ => [(a, tupO ⟨vs⟩)], hasHyp := true, hyp := 0 ≤ i ∧ i < 1000 ∧ ∃ u, vs[i.toNat]? = some (.int (Int.ofNat (hsel i.toNat)) u) }
theorem C_tup3_ok {V : VV} (c : Code) (l : Ldg) : Meets V (C_tup3 c l) := by
  refine oS_ok fun ⟨id, i, t, a, vs⟩ => ?_
  show Meets _ ({ need := S.eqLit 32795286342768305172929921614907396159093 id, d := 1, code := .call (.builtin id) ⟨[.ref a, .int i t], []⟩, pre := [(a, tupO ⟨vs⟩)], hasFact := false, fact := fun _ => True, res := fun _ => .ok (.ret (.int (Int.ofNat (hsel i.toNat)) (tOf vs i.toNat))), post := fun _ => [(a, tupO ⟨vs⟩)], hasHyp := true, hyp := 0 ≤ i ∧ i < 1000 ∧ ∃ u, vs[i.toNat]? = some (.int (Int.ofNat (hsel i.toNat)) u) })
  intro q
  have h0 := q
  have e0 := id_of q (s := "tuple.__getitem__") (by decide +kernel)
  subst e0
  intro hy
  have hy' : 0 ≤ i ∧ i < 1000 ∧ ∃ u, vs[i.toNat]? = some (.int (Int.ofNat (hsel i.toNat)) u) := hy
  obtain ⟨i0, i1, u, hu⟩ := hy'
  have hlt : i.toNat < vs.length := (List.getElem?_eq_some_iff.mp hu).1
  refine con_L F.slot_tuple_getitem F.entry_tuple_getitem (F.args_tuple_getitem_2 _ _) (MeetsSeq.tuple_getitem_at a ⟨vs⟩ 0 i t i.toNat (.int (Int.ofNat (hsel i.toNat)) u) (by omega) (by omega) (by
    unfold seqIndex?
    have hz : (⟨vs⟩ : Array Value).size = vs.length := rfl
    rw [hz, if_neg (show ¬ i < 0 by omega)]
    have g : (decide (0 ≤ i) && decide (i < (vs.length : Int))) = true := by
      rw [decide_eq_true i0, decide_eq_true (by omega)]; rfl
    rw [if_pos g]) (by simpa using hu)) rfl (fun _ A h F tk D => ?_) h0 hy
  have ho := led_at D
  refine ⟨⟨_, ho, rfl⟩, ho, h, tk, _, rfl, D, by omega, sup0, trivial, trivial, ?_, rfl⟩
  show Except.ok (Flow.ret (Value.int _ u)) = Except.ok (Flow.ret (Value.int _ (tOf vs i.toNat)))
  rw [tOf_eq hu]
noncomputable def isZ (x : Int) : Value → Bool
  | .int n _ => n == x
  | _ => false
/-- x in a tuple of ints: it is -/
noncomputable def C_cont : Code → Ldg → Spec := fun c l => oS c (match c with
  | .call (.builtin id) ⟨[.ref _, .int x u], []⟩ => match l with
    | [(a, ⟨_, _, .seq ⟨vs⟩ _, _⟩)] => some (id, x, u, a, vs)
    | _ => none
  | _ => none) fun (id, x, u, a, vs) =>
    { need := S.eqLit 8395601325623592240556648632771639105386101 id, d := 1, code := .call (.builtin id) ⟨[.ref a, .int x u], []⟩, pre := [(a, tupO ⟨vs⟩)], hasFact := false, fact := fun _ => True, res := fun _ => .ok (.ret (.bool true)), post := fun _ => [(a, tupO ⟨vs⟩)], hasHyp := true, hyp := (∀ y ∈ vs, ∃ n t, y = .int n t) ∧ vs.any (isZ x) = true }
theorem C_cont_ok {V : VV} (c : Code) (l : Ldg) : Meets V (C_cont c l) := by
  refine oS_ok fun ⟨id, x, u, a, vs⟩ => ?_
  show Meets _ ({ need := S.eqLit 8395601325623592240556648632771639105386101 id, d := 1, code := .call (.builtin id) ⟨[.ref a, .int x u], []⟩, pre := [(a, tupO ⟨vs⟩)], hasFact := false, fact := fun _ => True, res := fun _ => .ok (.ret (.bool true)), post := fun _ => [(a, tupO ⟨vs⟩)], hasHyp := true, hyp := (∀ y ∈ vs, ∃ n t, y = .int n t) ∧ vs.any (isZ x) = true })
  intro q
  have h0 := q
  have e0 := id_of q (s := "tuple.__contains__") (by decide +kernel)
  subst e0
  intro hy
  have hy' : (∀ y ∈ vs, ∃ n t, y = .int n t) ∧ vs.any (isZ x) = true := hy
  obtain ⟨y1, y2⟩ := hy'
  refine con_L F.slot_tuple_contains F.entry_tuple_contains (F.args_tuple_contains_2 _ _) (SeqAt.tuple_containsAt a ⟨vs⟩ 0 none #[] (.int x u) (isZ x)) rfl (fun _ A h F tk D => ?_) h0 hy
  have ho := led_at D
  refine ⟨⟨_, ho, rfl⟩, ho, fun y hm => ?_, h, tk, _, rfl, D, by omega, sup0, trivial, trivial, ?_, rfl⟩
  · obtain ⟨n, t, rfl⟩ := y1 y (by simpa using hm)
    exact (MeetsSeq.EqGives.int n x t u).at _ _
  · show Except.ok (Flow.ret (Value.bool _)) = Except.ok (Flow.ret (Value.bool true))
    have g : (⟨vs⟩ : Array Value).any (isZ x) = vs.any (isZ x) := (Array.any_toList (as := ⟨vs⟩) (p := isZ x)).symm
    rw [g, y2]
end Mine
end
section
set_option maxRecDepth 100000
set_option maxHeartbeats 0
namespace Mine
open PySem PySem.W PySem.W.X PyProof.Rows
/-! _law_in_turn -/
/-- '_law_in_turn.<locals>.' -/
noncomputable def qTurn : Str := ⟨#[95, 108, 97, 119, 95, 105, 110, 95, 116, 117, 114, 110, 46, 60, 108, 111, 99, 97, 108, 115, 62, 46]⟩
noncomputable def sTimes : Str := ⟨#[116, 105, 109, 101, 115]⟩
noncomputable def cellN : Obj := { cls := .type "cell", data := .cell none }
noncomputable def turnEnv (V : VV) (fa tc : Addr) : Env := envAt V 187 fa [(sTimes, tc)] qTurn
/-- no place more than once more than the one ahead; the last eight places go round from s on -/
noncomputable def TurnOk (vs : List Value) (s : Nat) : Prop := AllInt vs ∧ vs.length = 27 ∧ (∀ k, k < 4 → cntZ (zOf vs) (Int.ofNat k) 0 27 ≤ cntZ (zOf vs) (Int.ofNat ((k + 3) % 4)) 0 27 + 1) ∧ s < 4 ∧ ∀ i, i < 8 → zOf vs (19 + i) = Int.ofNat ((s + i) % 4)
noncomputable def tz (s i : Nat) : Int := Int.ofNat ((s + i) % 4)
noncomputable def S_turnF (V : VV) (s : Nat) (fa tc a : Addr) (h0 : Int) (k0 : Nat) (vs : List Value) (e : Nat) (c1 t1 : Nat) (v1 : List Value) : Spec where
  need := true
  d := 80
  code := .func (fnBody V 187) (turnEnv V fa tc)
  pre := [(fa, frO [⟨h0, .str sMovers k0, .ref a⟩] 1), (tc, cellN), (a, listO ⟨vs⟩ e), (47, grown V 47 33 4 c1), (c1, codeX qInner t1 v1), (54, tableObj (topTab V 54))]
  hasFact := false
  fact := fun _ => True
  res := fun _ => .ok (.ret (.bool true))
  post := fun _ => [(a, listO ⟨vs⟩ e)]
  hasHyp := true
  hyp := TurnOk vs s
noncomputable def S_turn (V : VV) (s : Nat) (a : Addr) (vs : List Value) (e : Nat) (c1 t1 : Nat) (v1 : List Value) : Spec where
  need := true
  d := 90
  code := .call (.ref 187) ⟨[.ref a], []⟩
  pre := [(a, listO ⟨vs⟩ e), (47, grown V 47 33 4 c1), (c1, codeX qInner t1 v1), (54, tableObj (topTab V 54))]
  hasFact := false
  fact := fun _ => True
  res := fun _ => .ok (.ret (.bool true))
  post := fun _ => [(a, listO ⟨vs⟩ e)]
  hasHyp := true
  hyp := TurnOk vs s
noncomputable def turnIf (V : VV) : Expr := ifTest (nthS (fnBody V 187) 1)
noncomputable def sgTn (V : VV) (fa tc : Addr) : Sg := sgTurn ((fnBody V 187).take 1) (cmL (turnIf V)) (cmR (turnIf V)) ((fnBody V 187).drop 2) (turnEnv V fa tc)
/-- l[19:] of 27 ints, eight that are known -/
noncomputable def C_sl8 (z : Nat → Int) (tt : Nat → Nat) : Code → Ldg → Spec := fun c l => oS c (match c with
  | .call (.builtin id) ⟨[.ref _, .ref _], []⟩ => match l with
    | [(a, ⟨_, _, .seq ⟨vs⟩ e, _⟩), (s, ⟨_, _, .fields ⟨[.int _ u, .none, .none]⟩, _⟩)] => some (id, a, vs, e, s, u)
    | _ => none
  | _ => none) fun (id, a, vs, e, s, u) =>
    { need := S.eqLit 128106587276438692081757506308484131437 id, d := 1, code := .call (.builtin id) ⟨[.ref a, .ref s], []⟩, pre := [(a, listO ⟨vs⟩ e), (s, slO (.int (Int.ofNat 19) u) .none .none)], hasFact := false, fact := fun _ => True, res := fun σ => .ok (.ret (.ref (σ.n 0))), post := fun σ => [(σ.n 0, cellsO z tt), (a, listO ⟨vs⟩ e), (s, slO (.int (Int.ofNat 19) u) .none .none)], hasHyp := true, hyp := vs.length ≤ 1000 ∧ vs.drop 19 = cells8 z tt }
theorem C_sl8_ok {V : VV} {z : Nat → Int} {tt : Nat → Nat} (c : Code) (l : Ldg) : Meets V (C_sl8 z tt c l) := by
  refine oS_ok fun ⟨id, a, vs, e, s, u⟩ => ?_
  show Meets _ ({ need := S.eqLit 128106587276438692081757506308484131437 id, d := 1, code := .call (.builtin id) ⟨[.ref a, .ref s], []⟩, pre := [(a, listO ⟨vs⟩ e), (s, slO (.int (Int.ofNat 19) u) .none .none)], hasFact := false, fact := fun _ => True, res := fun σ => .ok (.ret (.ref (σ.n 0))), post := fun σ => [(σ.n 0, cellsO z tt), (a, listO ⟨vs⟩ e), (s, slO (.int (Int.ofNat 19) u) .none .none)], hasHyp := true, hyp := vs.length ≤ 1000 ∧ vs.drop 19 = cells8 z tt })
  intro q hy
  have hy' : vs.length ≤ 1000 ∧ vs.drop 19 = cells8 z tt := hy
  have m := C_slf_ok (V := V) (b := 19) (.call (.builtin id) ⟨[.ref a, .ref s], []⟩) [(a, listO ⟨vs⟩ e), (s, slO (.int (Int.ofNat 19) u) .none .none)] q hy'.1
  intro A F tk _ hR
  have m2 := m A F tk trivial hR
  refine CodeG.mono m2 fun r L t h => ?_
  obtain ⟨h1, σ, h2, h3, h4, h5⟩ := h
  refine ⟨h1, σ, h2, h3, h4, ?_⟩
  rw [h5]
  show ((σ.n 0, listO ⟨vs.drop 19⟩ 0) :: _) = ((σ.n 0, cellsO z tt) :: _)
  rw [hy'.2]
  rfl
noncomputable def C_times (vs : List Value) : Code → Ldg → Spec := fun c l => oS c (match c with
  | .call (.ref f) ⟨[.ref a], []⟩ => match Nat.beq f 182 with
    | true => some a
    | false => none
  | _ => none) fun a =>
    S_times a vs (seqOf (ob l 0)).2
theorem C_times_ok {V : VV} {vs : List Value} (m : ∀ a e, Meets V (S_times a vs e)) (c : Code) (l : Ldg) : Meets V (C_times vs c l) := by
  exact oS_ok fun a => m _ _
noncomputable def C_d2i (V : VV) (z : Nat → Int) (tt : Nat → Nat) (v : Int) : Code → Ldg → Spec := fun c _ => oS c (match c with
  | .call (.ref f) ⟨[.ref a, .int _ u], []⟩ => match Nat.beq f 59 with
    | true => some (a, u)
    | false => none
  | _ => none) fun (a, u) =>
    S_d2i V z tt a u v
theorem C_d2i_ok {V : VV} {z : Nat → Int} {tt : Nat → Nat} {v : Int} (m : ∀ a u, Meets V (S_d2i V z tt a u v)) (c : Code) (l : Ldg) : Meets V (C_d2i V z tt v c l) := by
  exact oS_ok fun ⟨a, u⟩ => m _ _
noncomputable def C_dm (V : VV) (D q : Int) (c1 t1 : Nat) (v1 : List Value) (c2 t2 : Nat) (v2 : List Value) : Code → Ldg → Spec := fun c _ => oS c (match c with
  | .call (.ref f) ⟨[.int _ ta, .int _ tb], []⟩ => match Nat.beq f 73 with
    | true => some (ta, tb)
    | false => none
  | _ => none) fun (ta, tb) =>
    S_dm V D ta tb c1 c2 t1 t2 v1 v2 q
theorem C_dm_ok {V : VV} {D q : Int} {c1 t1 : Nat} {v1 : List Value} {c2 t2 : Nat} {v2 : List Value} (m : ∀ ta tb, Meets V (S_dm V D ta tb c1 c2 t1 t2 v1 v2 q)) (c : Code) (l : Ldg) : Meets V (C_dm V D q c1 t1 v1 c2 t2 v2 c l) := by
  exact oS_ok fun ⟨ta, tb⟩ => m _ _
noncomputable def C_turnF (V : VV) (s c1 t1 : Nat) (v1 : List Value) : Code → Ldg → Spec := fun c l => oS c (match c with
  | .func _ _ => match ob l 0 with
    | ⟨_, _, .dict ⟨[⟨h0, .str _ k0, .ref a⟩]⟩ _, _⟩ => some (h0, k0, a)
    | _ => none
  | _ => none) fun (h0, k0, a) =>
    S_turnF V s (ad l 0) (ad l 1) a h0 k0 (seqOf (ob l 2)).1 (seqOf (ob l 2)).2 c1 t1 v1
theorem C_turnF_ok {V : VV} {s c1 t1 : Nat} {v1 : List Value} (mm : ∀ fa tc a h0 k0 vs e, Meets V (S_turnF V s fa tc a h0 k0 vs e c1 t1 v1)) (c : Code) (l : Ldg) : Meets V (C_turnF V s c1 t1 v1 c l) := by
  exact oS_ok fun ⟨h0, k0, a⟩ => mm _ _ _ _ _ _ _
end Mine
end
section
set_option maxRecDepth 100000
set_option maxHeartbeats 0
namespace Mine
open PySem PySem.W PySem.W.X PyProof.Rows
noncomputable abbrev tmAll (vs : List Value) (σ : Sup) : Prop := ∀ k, k < 4 → σ.z k = Int.ofNat (cntZ (zOf vs) (Int.ofNat k) 0 27)
theorem tm_gt {vs : List Value} {σ : Sup} {s j k : Nat} (h : TurnOk vs s) (f : tmAll vs σ) (hk : k < 4) (hj : j = (k + 3) % 4) : ¬ σ.z k > σ.z j + Int.ofNat 1 := by
  have z := h.2.2.1 k hk
  rw [← hj] at z
  rw [f k hk, f j (by omega)]
  show ¬ ((_ : Nat) : Int) > ((_ : Nat) : Int) + 1
  omega
theorem tn_drop {vs : List Value} {s : Nat} (h : TurnOk vs s) : vs.drop 19 = cells8 (tz s) (fun i => tOf vs (19 + i)) := by
  obtain ⟨hd, hl, _, _, h1⟩ := h
  refine List.ext_getElem? fun i => ?_
  rw [List.getElem?_drop]
  by_cases hi : i < 8
  · obtain ⟨u, e⟩ := zOf_is hd (i := 19 + i) (by omega)
    rw [cells8_get _ _ hi, e, h1 i hi, tOf_eq e]
    rfl
  · rw [List.getElem?_eq_none (by omega), List.getElem?_eq_none (by show 8 ≤ i; omega)]
theorem tn_val (tt : Nat → Nat) : ∀ s, s < 4 → D2v (zOf (cells8 (tz s) tt)) 0 8 = Int.ofNat (rotQ s * 257) := by
  intro s hs
  rcases four hs with rfl | rfl | rfl | rfl <;> rfl
noncomputable abbrev tnL (x : Nat) : List Value := [.int 228 x, .int 57 (Nat.succ x), .int 78 (Nat.succ (Nat.succ x)), .int 147 (Nat.succ (Nat.succ (Nat.succ x)))]
theorem tn_in (x : Nat) : ∀ s, s < 4 → (∀ y ∈ tnL x, ∃ n t, y = Value.int n t) ∧ (tnL x).any (isZ (Int.ofNat (rotQ s))) = true := by
  intro s hs
  refine ⟨fun y hy => ?_, ?_⟩
  · simp only [tnL, List.mem_cons, List.not_mem_nil, or_false] at hy
    rcases hy with rfl | rfl | rfl | rfl <;> exact ⟨_, _, rfl⟩
  · rcases four hs with rfl | rfl | rfl | rfl <;> rfl
noncomputable def tnC (V : VV) (vs : List Value) (z : Nat → Int) (tt : Nat → Nat) (v q : Int) (c1 t1 : Nat) (v1 : List Value) (P : Nat → Ev) : List (Code → Ldg → Spec) := [C_times vs, C_gtF, C_sl8 z tt, C_d2i V z tt v, C_dm V v q c1 t1 v1 ((P 14).s.n 1) ((P 14).s.n 2) ((P 14).s.v 0), C_cont]
noncomputable def tnDep : Nat → Nat
  | 4 => 15
  | _ => 0
theorem tnC_dep {V : VV} {vs : List Value} {z : Nat → Int} {tt : Nat → Nat} {v q : Int} {c1 t1 : Nat} {v1 : List Value} (k : Nat) (P Q : Nat → Ev) (g : Agree (tnDep k) P Q) : (tnC V vs z tt v q c1 t1 v1 P)[k]? = (tnC V vs z tt v q c1 t1 v1 Q)[k]? := by
  unfold tnC
  rcases k with _ | _ | _ | _ | _ | k
  · rfl
  · rfl
  · rfl
  · rfl
  · have e : P 14 = Q 14 := g 14 (by show 14 < 15; decide)
    rw [e]
  · rfl
noncomputable def tnEx (vs : List Value) (tk : Nat) (P : Nat → Ev) : List Prop := [((Nat.succ (Nat.succ (Nat.succ (Nat.succ (Nat.succ (Nat.succ (Nat.succ ((P 15).tk)))))))) ≤ ((P 20).tk)), ((Nat.succ ((P 14).tk)) ≤ ((P 15).tk)), ((Nat.succ ((P 13).tk)) ≤ ((P 14).tk)), ((Nat.succ ((P 8).tk)) ≤ ((P 13).tk)), ((Nat.succ (Nat.succ (Nat.succ (Nat.succ (Nat.succ (Nat.succ ((P 7).tk))))))) ≤ ((P 8).tk)), ((Nat.succ (Nat.succ (Nat.succ (Nat.succ (Nat.succ (Nat.succ ((P 6).tk))))))) ≤ ((P 7).tk)), ((Nat.succ (Nat.succ (Nat.succ (Nat.succ (Nat.succ (Nat.succ ((P 5).tk))))))) ≤ ((P 6).tk)), ((Nat.succ (Nat.succ (Nat.succ (Nat.succ (Nat.succ (Nat.succ (Nat.succ (Nat.succ (Nat.succ ((P 0).tk)))))))))) ≤ ((P 5).tk)), (tk ≤ ((P 0).tk)), ∀ (k : Nat), k < 4 → (P 0).s.z k = Int.ofNat (cntZ (zOf vs) (Int.ofNat k) 0 27)]
noncomputable def tnH : Bool → List Hint
  | true => [.t, .l 0, .t, .c 0 [2], .l 3, .l 3, .t, .t, .i, .i, .l 0, .l 0, .i, .l 0, .l 0, .l 0, .l 0, .i, .l 0, .l 0, .l 0, .l 0, .l 0, .i, .l 2, .i, .l 2, .l 2, .l 2, .l 2, .l 2, .l 2, .l 2, .l 2, .l 0, .l 0, .l 7, .l 0, .l 4, .l 4, .l 4, .i, .l 4, .l 4, .l 7, .l 0, .i, .l 4, .l 4, .l 4, .i, .l 4, .l 4, .i, .ch 1 [] 0, .l 2, .i, .l 2, .l 2, .l 2, .l 2, .l 2, .l 2, .l 2, .l 2, .l 0, .l 0, .l 7, .l 0, .l 4, .l 4, .l 4, .i, .l 4, .l 4, .l 7, .l 0, .i, .l 4, .l 4, .l 4, .i, .l 4, .l 4, .i, .ch 1 [] 1, .l 2, .i, .l 2, .l 2, .l 2, .l 2, .l 2, .l 2, .l 2, .l 2, .l 0, .l 0, .l 7, .l 0, .l 4, .l 4, .l 4, .i, .l 4, .l 4, .l 7, .l 0, .i, .l 4, .l 4, .l 4, .i, .l 4, .l 4, .i, .ch 1 [] 2, .l 2, .i, .l 2, .l 2, .l 2, .l 2, .l 2, .l 2, .l 2, .l 2, .l 0, .l 0, .l 7, .l 0, .l 4, .l 4, .l 4, .i, .l 4, .l 4, .l 7, .l 0, .i, .l 4, .l 4, .l 4, .i, .l 4, .l 4, .i, .ch 1 [] 3, .l 2, .i, .l 2, .l 2, .l 2, .l 2, .l 0, .l 2, .l 2, .l 2, .qh 0 [4, 0] 4, .t, .t, .l 9, .l 9, .l 9, .l 9, .ch 2 [9, 0] 5, .t, .c 3 [15, 0], .t, .c 4 [15, 15, 0, 0], .l 0, .l 0, .l 0, .i, .l 0, .l 0, .l 0, .i, .l 0, .l 0, .l 0, .l 1, .l 0, .l 0, .l 0, .i, .l 0, .l 0, .l 0, .l 1, .l 0, .l 0, .l 0, .i, .l 0, .l 0, .l 0, .l 1, .l 0, .l 0, .l 0, .l 15, .l 15, .l 15, .l 15, .l 15, .i, .l 15, .l 0, .l 0, .ch 5 [0] 6]
  | false => [.t, .l 0, .t, .c 0 [2], .l 3, .l 3, .t, .t, .i, .i, .l 0, .l 0, .i, .l 0, .l 0, .l 0, .l 0, .i, .l 0, .l 0, .l 0, .l 0, .l 0, .i, .l 2, .l 2, .i, .l 2, .l 2, .l 2, .i, .l 2, .l 2, .l 2, .l 2, .l 2, .l 2, .l 2, .l 2, .l 0, .l 0, .l 7, .l 0, .l 4, .l 4, .l 4, .i, .l 4, .l 4, .l 7, .l 0, .i, .l 4, .l 4, .l 4, .i, .l 4, .l 4, .i, .ch 1 [] 0, .l 2, .i, .l 2, .l 2, .l 2, .l 2, .l 2, .l 2, .l 2, .l 2, .l 0, .l 0, .l 7, .l 0, .l 4, .l 4, .l 4, .i, .l 4, .l 4, .l 7, .l 0, .i, .l 4, .l 4, .l 4, .i, .l 4, .l 4, .i, .ch 1 [] 1, .l 2, .i, .l 2, .l 2, .l 2, .l 2, .l 2, .l 2, .l 2, .l 2, .l 0, .l 0, .l 7, .l 0, .l 4, .l 4, .l 4, .i, .l 4, .l 4, .l 7, .l 0, .i, .l 4, .l 4, .l 4, .i, .l 4, .l 4, .i, .ch 1 [] 2, .l 2, .i, .l 2, .l 2, .l 2, .l 2, .l 2, .l 2, .l 2, .l 2, .l 0, .l 0, .l 7, .l 0, .l 4, .l 4, .l 4, .i, .l 4, .l 4, .l 7, .l 0, .i, .l 4, .l 4, .l 4, .i, .l 4, .l 4, .i, .ch 1 [] 3, .l 2, .i, .l 2, .l 2, .l 2, .l 2, .l 0, .l 2, .l 2, .l 2, .qh 0 [4, 0] 4, .t, .t, .l 9, .l 9, .l 9, .l 9, .ch 2 [9, 0] 5, .t, .c 3 [15, 0], .t, .c 4 [15, 15, 0, 0], .l 0, .l 0, .l 0, .i, .l 0, .l 0, .l 0, .i, .l 0, .l 0, .l 0, .l 1, .l 0, .l 0, .l 0, .i, .l 0, .l 0, .l 0, .l 1, .l 0, .l 0, .l 0, .i, .l 0, .l 0, .l 0, .l 1, .l 0, .l 0, .l 0, .l 15, .l 15, .l 15, .l 15, .l 15, .i, .l 15, .l 0, .l 0, .ch 5 [0] 6]
section
variable {U : Un} {b₁ b₂ : Bool} (G : Good (mkV U b₁ b₂))
theorem tnf_conv {A : Around} {R : RPost} {L : Ldg} {tk : Nat} {fa tc : Addr} (q : SgGo (mkV U b₁ b₂) A (.func (fnBody (mkV U b₁ b₂) 187) (turnEnv (mkV U b₁ b₂) fa tc)) R (sgTn (mkV U b₁ b₂) fa tc) L tk) : CodeG (mkV U b₁ b₂) A (.func (fnBody (mkV U b₁ b₂) 187) (turnEnv (mkV U b₁ b₂) fa tc)) R L tk := by
  cases b₁ <;> cases b₂ <;> exact turn_conv (p := exPos (turnIf (mkV U true true))) (q := ifPos (nthS (fnBody (mkV U true true) 187) 1)) (tb := ifT (nthS (fnBody (mkV U true true) 187) 1)) (by kernel_rfl!) (by kernel_rfl!) q
include G
theorem tnf_meets (s : Nat) (fa tc a : Addr) (h0 : Int) (k0 : Nat) (vs : List Value) (e : Nat) (c1 t1 : Nat) (v1 : List Value) : Meets (mkV U b₁ b₂) (S_turnF (mkV U b₁ b₂) s fa tc a h0 k0 vs e c1 t1 v1) := by
  refine Meets.hyp fun hy => ?_
  have ht : TurnOk vs s := hy
  have hs : s < 4 := ht.2.2.2.1
  have l5 : vs.length ≤ 1000 ∧ vs.drop 19 = cells8 (tz s) (fun i => tOf vs (19 + i)) := ⟨by have := ht.2.1; omega, tn_drop ht⟩
  have hz : ∀ i, i < 8 → 0 ≤ tz s i ∧ tz s i < 4 := fun i _ => ⟨Int.natCast_nonneg _, Int.ofNat_lt.mpr (Nat.mod_lt _ (by decide))⟩
  have l6 := fun x => tn_in x s hs
  have md := fun a u => d2i_meets G (tz s) (fun i => tOf vs (19 + i)) a u hz
  rw [tn_val _ s hs] at md
  have mm := fun ta tb c1 c2 t1 t2 v1 v2 => dm_meets G s hs ta tb c1 c2 t1 t2 v1 v2
  have mt : ∀ a e, Meets (mkV U b₁ b₂) (S_times a vs e) := fun a e => times_meets G a e vs ht.1 ht.2.1
  have lt : ∀ {σ : Sup} {j k : Nat}, tmAll vs σ → k < 4 → j = (k + 3) % 4 → ¬ σ.z k > σ.z j + Int.ofNat 1 := fun f hk hj => tm_gt ht f hk hj
  generalize tz s = z at l5 md
  generalize (fun i => tOf vs (19 + i)) = tt at l5 md
  generalize Int.ofNat (rotQ s) = q at l6 mm
  generalize Int.ofNat (rotQ s * 257) = v at md mm
  have C : ∀ P, CsOk (mkV U b₁ b₂) (tnC (mkV U b₁ b₂) vs z tt v q c1 t1 v1 P) := fun P => ⟨C_times_ok mt, C_gtF_ok, C_sl8_ok, C_d2i_ok md, C_dm_ok fun ta tb => mm ta tb c1 ((P 14).s.n 1) t1 ((P 14).s.n 2) v1 ((P 14).s.v 0), C_cont_ok, trivial⟩
  have D : DsOk (mkV U b₁ b₂) [D_neF] := ⟨D_neF_ok, trivial⟩
  refine meets_dep (cs := tnC (mkV U b₁ b₂) vs z tt v q c1 t1 v1) (dep := tnDep) G C tnC_dep D (sgTn (mkV U b₁ b₂) fa tc) (fun A R L tk q => tnf_conv q) 503 (tnH b₂) (fun tk P => sup0) (fun tk P => tnEx vs tk P) [6] (fun tk P => (P 20).tk)
    (fun tk ht P m => match m with
      | 0 => ⟨impL ((tnEx vs tk P).drop 8) (¬ (P 0).s.z 0 > (P 0).s.z 3 + Int.ofNat 1), impI (fun g => lt (g (tmAll vs (P 0).s) (.tail _ (.head _))) (by decide) rfl)⟩
      | 1 => ⟨impL ((tnEx vs tk P).drop 7) (¬ (P 0).s.z 1 > (P 0).s.z 0 + Int.ofNat 1), impI (fun g => lt (g (tmAll vs (P 0).s) (.tail _ (.tail _ (.head _)))) (by decide) rfl)⟩
      | 2 => ⟨impL ((tnEx vs tk P).drop 6) (¬ (P 0).s.z 2 > (P 0).s.z 1 + Int.ofNat 1), impI (fun g => lt (g (tmAll vs (P 0).s) (.tail _ (.tail _ (.tail _ (.head _))))) (by decide) rfl)⟩
      | 3 => ⟨impL ((tnEx vs tk P).drop 5) (¬ (P 0).s.z 3 > (P 0).s.z 2 + Int.ofNat 1), impI (fun g => lt (g (tmAll vs (P 0).s) (.tail _ (.tail _ (.tail _ (.tail _ (.head _)))))) (by decide) rfl)⟩
      | 4 => ⟨impL ((tnEx vs tk P).drop 4) (EqVs [] []), impI (fun _ => eqVs_nil)⟩
      | 5 => ⟨impL ((tnEx vs tk P).drop 4) (vs.length ≤ 1000 ∧ vs.drop 19 = cells8 z tt), impI (fun _ => l5)⟩
      | _ => ⟨impL ((tnEx vs tk P).drop 1) ((∀ y ∈ tnL (Nat.succ (Nat.succ (Nat.succ (Nat.succ ((P 15).tk))))), ∃ n t, y = Value.int n t) ∧ (tnL (Nat.succ (Nat.succ (Nat.succ (Nat.succ ((P 15).tk)))))).any (isZ q) = true), impI (fun _ => l6 _)⟩)
    (fun tk ht P hp => ⟨trivial, trivial⟩) (fun tk ht P => ?_)
  exact Bool.casesOn b₁ (Bool.casesOn b₂ (by kernel_rfl!) (by kernel_rfl!)) (Bool.casesOn b₂ (by kernel_rfl!) (by kernel_rfl!))
theorem turn_meets (s : Nat) (a : Addr) (vs : List Value) (e : Nat) (c1 t1 : Nat) (v1 : List Value) : Meets (mkV U b₁ b₂) (S_turn (mkV U b₁ b₂) s a vs e c1 t1 v1) := by
  refine Meets.hyp fun hy => ?_
  have hc : TurnOk vs s := hy
  have C : CsOk (mkV U b₁ b₂) [C_turnF (mkV U b₁ b₂) s c1 t1 v1] := ⟨C_turnF_ok fun fa tc a h0 k0 vs e => tnf_meets G s fa tc a h0 k0 vs e c1 t1 v1, trivial⟩
  exact meets_hp G C 26 [.t, .t, .l 1, .l 1, .e none 1 [(⟨#[116, 105, 109, 101, 115]⟩, 0)] ⟨#[95, 108, 97, 119, 95, 105, 110, 95, 116, 117, 114, 110, 46, 60, 108, 111, 99, 97, 108, 115, 62, 46]⟩, .ah 0 [1, 0, 0, 0, 0, 0] 0] (fun tk P => sup0) (fun tk P => []) [0] (fun tk P m' => ⟨_, hc⟩) (fun _ _ _ => trivial) (fun tk P => by exact Bool.casesOn b₁ (by kernel_rfl!) (by kernel_rfl!))
end
end Mine
end
section
set_option maxRecDepth 100000
set_option maxHeartbeats 0
namespace Mine
open PySem PySem.W PySem.W.X PyProof.Rows
/-! _law_due -/
/-- '_law_due.<locals>.' -/
noncomputable def qDue : Str := ⟨#[95, 108, 97, 119, 95, 100, 117, 101, 46, 60, 108, 111, 99, 97, 108, 115, 62, 46]⟩
noncomputable def dueLc (V : VV) : Expr := retE (nthS (fnBody V 192) 1)
structure Yx where
  ia : Addr
  la : Addr
  da : Addr
  dc : Addr
  mc : Addr
  ma : Addr
  fa : Addr
  em : Nat
  zd : Int
  td : Nat
noncomputable def dkEnv (x : Yx) : Env := ⟨⟨.function, [(sDot0, .local), (sK, .local), (sDots, .cell), (sMovers, .cell)], false, false, []⟩, x.da, 3, [(sMovers, x.mc), (sDots, x.dc)], qDue, none, .ref 191, some x.fa, 0⟩
/-- words of so many dots -/
noncomputable def IsW (w : Nat → Nat) (l : List Value) (n : Nat) : Prop := l.length = n ∧ ∀ i, i < n → ∃ t, l[i]? = some (.str (dotS (w i)) t)
noncomputable def wD (D q i : Nat) : Nat := D - (if i ≤ q then 0 else 1)
noncomputable def S_dk (V : VV) (x : Yx) (first : Bool) (vs : List Value) (D q k m : Nat) (acc : List Value) (ea : Nat) (h0 : Int) (k0 : Nat) (z0 : Int) (t0 e0 : Nat) : Spec where
  need := true
  d := 8
  code := .compLoop (dueLc V) 0 (.ref x.ia) (.ref x.la) (dkEnv x)
  pre := [(x.ia, rgO k m), (x.la, listO ⟨acc⟩ ea), (x.da, match first with | true => dictO [] e0 | false => dictO [⟨h0, .str sK k0, .int z0 t0⟩] e0), (x.dc, cellO (.int x.zd x.td)), (x.mc, cellO (.ref x.ma)), (x.ma, listO ⟨vs⟩ x.em)]
  hasFact := true
  fact := fun σ => IsW (wD D q) (σ.v 0) 4
  res := fun _ => .ok .next
  post := fun σ => [(x.la, listO ⟨σ.v 0⟩ (σ.n 0)), (x.da, dictO [⟨σ.z 0, .str sK (σ.n 1), .int (σ.z 1) (σ.n 2)⟩] (σ.n 3)), (x.ma, listO ⟨vs⟩ x.em)]
  hasHyp := true
  hyp := IsW (wD D q) acc k ∧ x.zd = Int.ofNat D
noncomputable def cellZ : Obj → Int × Nat
  | ⟨_, _, .cell (some (.int z t)), _⟩ => (z, t)
  | _ => (0, 0)
noncomputable def C_dk (V : VV) (first : Bool) (vs : List Value) (D q k m : Nat) : Code → Ldg → Spec := fun c l => oS c (match c with
  | .compLoop _ _ (.ref ia) (.ref la) env => match env.frame with
    | some fa => some (ia, la, fa)
    | none => none
  | _ => none) fun (ia, la, fa) =>
    S_dk V ⟨ia, la, ad l 2, ad l 3, ad l 4, ad l 5, fa, (seqOf (ob l 5)).2, (cellZ (ob l 3)).1, (cellZ (ob l 3)).2⟩ first vs D q k m (seqOf (ob l 1)).1 (seqOf (ob l 1)).2 (kTok (ob l 2)).1 (kTok (ob l 2)).2.1 (kTok (ob l 2)).2.2.1 (kTok (ob l 2)).2.2.2.1 (kTok (ob l 2)).2.2.2.2
theorem C_dk_ok {V : VV} {first : Bool} {vs : List Value} {D q k m : Nat} (mm : ∀ x acc ea h0 k0 z0 t0 e0, Meets V (S_dk V x first vs D q k m acc ea h0 k0 z0 t0 e0)) (c : Code) (l : Ldg) : Meets V (C_dk V first vs D q k m c l) := by
  exact oS_ok fun ⟨ia, la, fa⟩ => mm _ _ _ _ _ _ _ _
noncomputable def DueOk (vs : List Value) (D0 D q : Nat) : Prop := AllInt vs ∧ vs.length = 27 ∧ zOf vs 26 = Int.ofNat q ∧ D = D0 + cntZ (zOf vs) (Int.ofNat 0) 0 27 ∧ 1 ≤ D ∧ D < 40
noncomputable def S_due (D q : Nat) (a : Addr) (vs : List Value) (e D0 t0 : Nat) : Spec where
  need := true
  d := 50
  code := .call (.ref 192) ⟨[.int (Int.ofNat D0) t0, .ref a], []⟩
  pre := [(a, listO ⟨vs⟩ e)]
  hasFact := true
  fact := fun σ => IsW (wD D q) (σ.v 0) 4
  res := fun σ => .ok (.ret (.ref (σ.n 0)))
  post := fun σ => [(σ.n 0, listO ⟨σ.v 0⟩ (σ.n 1))]
  hasHyp := true
  hyp := DueOk vs D0 D q
end Mine
end
section
set_option maxRecDepth 100000
set_option maxHeartbeats 0
namespace Mine
open PySem PySem.W PySem.W.X PyProof.Rows
theorem isW_nil (w : Nat → Nat) : IsW w [] 0 := ⟨rfl, fun i h => absurd h (Nat.not_lt_zero _)⟩
theorem isW_app {w : Nat → Nat} {acc : List Value} {k t : Nat} (h : IsW w acc k) : IsW w (acc ++ [.str (dotS (w k)) t]) (Nat.succ k) := by
  refine ⟨by rw [List.length_append, h.1]; rfl, fun i hi => ?_⟩
  by_cases e : i < k
  · obtain ⟨u, z⟩ := h.2 i e
    exact ⟨u, by rw [List.getElem?_append_left (by rw [h.1]; exact e)]; exact z⟩
  · have : i = k := by omega
    subst this
    exact ⟨t, by rw [List.getElem?_append_right (by rw [h.1]; omega), h.1, Nat.sub_self]; rfl⟩
theorem due_z {vs : List Value} {D0 D q : Nat} {σ : Sup} (h : DueOk vs D0 D q) (f : tmAll vs σ) : IsW (wD D q) [] 0 ∧ Int.ofNat D0 + σ.z 0 = Int.ofNat D := by
  refine ⟨isW_nil _, ?_⟩
  rw [f 0 (by decide), h.2.2.2.1]
  rfl
section
variable {U : Un} {b₁ b₂ : Bool} (G : Good (mkV U b₁ b₂))
include G
theorem dk_meets (a0 a1 a2 a3 a4 a5 a6 a7 a8 a9 a10 a11 a12 a13 a14 a15 a16 a17 a18 a19 a20 a21 a22 a23 a24 a25 : Value) (q tq D : Nat) (h1 : 1 ≤ D) (h40 : D < 40) : ∀ (m k : Nat), k + m = 4 → ∀ (x : Yx) (first : Bool) (acc : List Value) (ea : Nat) (h0 : Int) (k0 : Nat) (z0 : Int) (t0 e0 : Nat), (first = true → 0 < m) →
    Meets (mkV U b₁ b₂) (S_dk (mkV U b₁ b₂) x first [a0, a1, a2, a3, a4, a5, a6, a7, a8, a9, a10, a11, a12, a13, a14, a15, a16, a17, a18, a19, a20, a21, a22, a23, a24, a25, .int (Int.ofNat q) tq] D q k m acc ea h0 k0 z0 t0 e0) := by
  intro m
  induction m with
  | zero =>
    intro k hk x first acc ea h0 k0 z0 t0 e0 hf
    have e : k = 4 := by omega
    subst e
    refine Meets.hyp fun hy => ?_
    have hy' : IsW (wD D q) acc 4 := hy.1
    cases first with
    | true => exact absurd (hf rfl) (by omega)
    | false => exact meets_of G (cs := []) trivial 29 [.l 0, .i, .l 0, .l 0, .l 0, .l 0, .l 0] (fun tk P => ⟨fun i => match i with | 0 => ea | 1 => k0 | 2 => t0 | _ => e0, fun i => match i with | 0 => h0 | _ => z0, fun _ => ⟨#[]⟩, fun _ => acc⟩) (fun tk P => []) [3, 3, 5] (fun _ _ _ => hy') (fun tk P => by kernel_rfl!)
  | succ m ih =>
    intro k hk x first acc ea h0 k0 z0 t0 e0 hf
    refine Meets.hyp fun hy => ?_
    have hw : IsW (wD D q) acc k := hy.1
    have hz : x.zd = Int.ofNat D := hy.2
    have IH := C_dk_ok (V := mkV U b₁ b₂) (first := false) fun x acc ea h0 k0 z0 t0 e0 => ih (Nat.succ k) (by omega) x false acc ea h0 k0 z0 t0 e0 (fun h => nomatch h)
    have p0 : acc.length ≤ 1000 := by rw [hw.1]; omega
    have p1 : ∀ t, IsW (wD D q) (acc ++ [.str (dotS (wD D q k)) t]) (Nat.succ k) ∧ x.zd = Int.ofNat D := fun t => ⟨isW_app hw, hz⟩
    by_cases hq : k ≤ q
    · have e1 : wD D q k = D := by unfold wD; rw [if_pos hq]; rfl
      have C : CsOk (mkV U b₁ b₂) [C_rnx k m, C_cmpb nLe (Int.ofNat k) (Int.ofNat q) true, C_mulz x.zd (wD D q k), C_app, C_dk (mkV U b₁ b₂) false [a0, a1, a2, a3, a4, a5, a6, a7, a8, a9, a10, a11, a12, a13, a14, a15, a16, a17, a18, a19, a20, a21, a22, a23, a24, a25, .int (Int.ofNat q) tq] D q (Nat.succ k) m] := ⟨C_rnx_ok G.ok, C_le_ok (decide_eq_true (Int.ofNat_le.mpr hq)), C_mulz_ok (d := wD D q k) (hz.trans (congrArg Int.ofNat e1.symm)) (fun a b => mul_small G (wD D q k) a b (by rw [e1]; exact h40)), C_app_ok G.ok, IH, trivial⟩
      cases first <;> exact meets_hp G C 64 [.l 0, .c 0 [0], .l 2, .l 2, .l 2, .l 4, .i, .l 5, .l 5, .l 5, .i, .l 5, .l 5, .c 1 [], .l 3, .i, .c 2 [], .ch 3 [1] 0, .ah 4 [1, 0, 0, 0, 0, 0] 1] (fun tk P => (P 4).s) (fun tk P => [IsW (wD D q) ((P 4).s.v 0) 4]) [0, 0, 0] (fun tk P m' => match m' with | 0 => ⟨_, p0⟩ | _ => ⟨_, p1 ((P 2).s.n 0)⟩) (fun tk P g => g _ (.head _)) (fun tk P => by exact Bool.casesOn b₁ (by kernel_rfl!) (by kernel_rfl!))
    · have e1 : wD D q k = D - 1 := by unfold wD; rw [if_neg hq]
      have e2 : x.zd - Int.ofNat 1 = Int.ofNat (wD D q k) := by
        rw [hz, e1]
        show ((D : Nat) : Int) - 1 = ((D - 1 : Nat) : Int)
        omega
      have C : CsOk (mkV U b₁ b₂) [C_rnx k m, C_cmpb nLe (Int.ofNat k) (Int.ofNat q) false, C_mulz (x.zd - Int.ofNat 1) (wD D q k), C_app, C_dk (mkV U b₁ b₂) false [a0, a1, a2, a3, a4, a5, a6, a7, a8, a9, a10, a11, a12, a13, a14, a15, a16, a17, a18, a19, a20, a21, a22, a23, a24, a25, .int (Int.ofNat q) tq] D q (Nat.succ k) m] := ⟨C_rnx_ok G.ok, C_le_ok (decide_eq_false (fun g => hq (Int.ofNat_le.mp g))), C_mulz_ok (d := wD D q k) e2 (fun a b => mul_small G (wD D q k) a b (by rw [e1]; omega)), C_app_ok G.ok, IH, trivial⟩
      cases first <;> exact meets_hp G C 70 [.l 0, .c 0 [0], .l 2, .l 2, .l 2, .l 4, .i, .l 5, .l 5, .l 5, .i, .l 5, .l 5, .c 1 [], .l 3, .i, .i, .c 2 [], .ch 3 [1] 0, .ah 4 [1, 0, 0, 0, 0, 0] 1] (fun tk P => (P 4).s) (fun tk P => [IsW (wD D q) ((P 4).s.v 0) 4]) [0, 0, 0] (fun tk P m' => match m' with | 0 => ⟨_, p0⟩ | _ => ⟨_, p1 ((P 2).s.n 0)⟩) (fun tk P g => g _ (.head _)) (fun tk P => by exact Bool.casesOn b₁ (by kernel_rfl!) (by kernel_rfl!))
omit G in
theorem last27 (a0 a1 a2 a3 a4 a5 a6 a7 a8 a9 a10 a11 a12 a13 a14 a15 a16 a17 a18 a19 a20 a21 a22 a23 a24 a25 a26 : Value) : ([a0, a1, a2, a3, a4, a5, a6, a7, a8, a9, a10, a11, a12, a13, a14, a15, a16, a17, a18, a19, a20, a21, a22, a23, a24, a25, a26] : List Value)[26]? = some a26 := by kernel_rfl!
theorem dk_first {vs : List Value} {D0 D q : Nat} (h : DueOk vs D0 D q) (x : Yx) (acc : List Value) (ea : Nat) (h0 : Int) (k0 : Nat) (z0 : Int) (t0 e0 : Nat) : Meets (mkV U b₁ b₂) (S_dk (mkV U b₁ b₂) x true vs D q 0 (Nat.succ 3) acc ea h0 k0 z0 t0 e0) := by
  obtain ⟨hd, hl, hq, _, h1, h40⟩ := h
  obtain ⟨u, e⟩ := zOf_is hd (i := 26) (by omega)
  rw [hq] at e
  obtain ⟨a0, a1, a2, a3, a4, a5, a6, a7, a8, a9, a10, a11, a12, a13, a14, a15, a16, a17, a18, a19, a20, a21, a22, a23, a24, a25, a26, ev⟩ := list27 hl
  rw [ev, last27] at e
  have e' : a26 = .int (Int.ofNat q) u := Option.some.inj e
  subst e'
  rw [ev]
  exact dk_meets G a0 a1 a2 a3 a4 a5 a6 a7 a8 a9 a10 a11 a12 a13 a14 a15 a16 a17 a18 a19 a20 a21 a22 a23 a24 a25 q u D h1 h40 4 0 rfl x true acc ea h0 k0 z0 t0 e0 (fun _ => by decide)
noncomputable def dueH : Bool → List Hint
  | true => [.t, .t, .l 2, .l 2, .l 1, .l 1, .e none 2 [(⟨#[100, 111, 116, 115]⟩, 0), (⟨#[109, 111, 118, 101, 114, 115]⟩, 1)] ⟨#[95, 108, 97, 119, 95, 100, 117, 101, 46, 60, 108, 111, 99, 97, 108, 115, 62, 46]⟩, .l 2, .t, .l 1, .t, .c 0 [3], .l 0, .l 0, .l 0, .i, .l 0, .l 0, .i, .i, .l 2, .l 2, .t, .t, .i, .i, .l 0, .l 0, .i, .l 0, .l 0, .l 0, .l 0, .i, .l 0, .l 0, .l 0, .l 0, .l 0, .i, .ah 1 [2, 1, 0, 3, 3, 2] 0, .l 1, .l 1, .l 1]
  | false => [.t, .t, .l 2, .l 2, .l 1, .l 1, .e none 2 [(⟨#[100, 111, 116, 115]⟩, 0), (⟨#[109, 111, 118, 101, 114, 115]⟩, 1)] ⟨#[95, 108, 97, 119, 95, 100, 117, 101, 46, 60, 108, 111, 99, 97, 108, 115, 62, 46]⟩, .l 2, .t, .l 1, .t, .c 0 [3], .l 0, .l 0, .l 0, .i, .l 0, .l 0, .i, .i, .l 2, .l 2, .t, .t, .i, .i, .l 0, .l 0, .i, .l 0, .l 0, .l 0, .l 0, .i, .l 0, .l 0, .l 0, .l 0, .l 0, .i, .l 2, .l 2, .i, .l 2, .l 2, .ah 1 [2, 1, 0, 3, 3, 2] 0, .l 1, .l 1, .l 1]
theorem due_meets (D q : Nat) (a : Addr) (vs : List Value) (e D0 t0 : Nat) : Meets (mkV U b₁ b₂) (S_due D q a vs e D0 t0) := by
  refine Meets.hyp fun hy => ?_
  have hc : DueOk vs D0 D q := hy
  have mt : ∀ a e, Meets (mkV U b₁ b₂) (S_times a vs e) := fun a e => times_meets G a e vs hc.1 hc.2.1
  have C : CsOk (mkV U b₁ b₂) [C_times vs, C_dk (mkV U b₁ b₂) true vs D q 0 (Nat.succ 3)] := ⟨C_times_ok mt, C_dk_ok fun x acc ea h0 k0 z0 t0 e0 => dk_first G hc x acc ea h0 k0 z0 t0 e0, trivial⟩
  refine meets_hp G C 133 (dueH b₂) (fun tk P => ⟨fun i => match i with | 0 => (P 6).s.n 0 | _ => (P 8).s.n 0, fun _ => 0, fun _ => ⟨#[]⟩, fun _ => (P 8).s.v 0⟩) (fun tk P => [IsW (wD D q) ((P 8).s.v 0) 4, tmAll vs (P 3).s]) [0] (fun tk P m' => ⟨impL [tmAll vs (P 3).s] (IsW (wD D q) [] 0 ∧ Int.ofNat D0 + (P 3).s.z 0 = Int.ofNat D), fun f => due_z hc f⟩) (fun tk P g => g _ (.head _)) (fun tk P => ?_)
  exact Bool.casesOn b₁ (Bool.casesOn b₂ (by kernel_rfl!) (by kernel_rfl!)) (Bool.casesOn b₂ (by kernel_rfl!) (by kernel_rfl!))
end
end Mine
end
section
set_option maxRecDepth 100000
set_option maxHeartbeats 0
namespace Mine
open PySem PySem.W PySem.W.X PyProof.Rows PySem.Spec PySem.Calls
noncomputable def S_law (V : VV) (vs : List Value) : Spec where
  need := true
  d := 100
  code := .call (.ref 197) ⟨[.ref 198], []⟩
  pre := [(198, listO ⟨vs⟩ 0), (47, tableObj (topTab V 47)), (54, tableObj (topTab V 54)), (148, tableObj (topTab V 148))]
  hasFact := false
  fact := fun _ => True
  res := fun _ => .ok (.ret (.bool true))
  post := fun _ => [(198, listO ⟨vs⟩ 0)]
noncomputable def LawMeets : Prop := ∀ U b₁ b₂, Good (mkV U b₁ b₂) → ∀ (vs : List Value) (ns : List Int), IntsAre vs ns → ns.length ≤ 63 → Meets (mkV U b₁ b₂) (S_law (mkV U b₁ b₂) vs)
theorem ft_self (P : Params) : ft (P.followText "special-get-raises") (P.followText "comprehension-iter-twice") P = P := by
  have e1 : PySem.code "special-get-raises" = 10139888712337904147300001983332972444938612 := by decide +kernel
  have e2 : PySem.code "comprehension-iter-twice" = 2510650655181157320538776789020469319833841985448949215332 := by decide +kernel
  have : (fun s => cond (S.eqLit 10139888712337904147300001983332972444938612 s) (P.followText "special-get-raises") (cond (S.eqLit 2510650655181157320538776789020469319833841985448949215332 s) (P.followText "comprehension-iter-twice") (P.followText s))) = P.followText := by
    funext s
    cases h1 : S.eqLit 10139888712337904147300001983332972444938612 s with
    | true => rw [id_of h1 e1]; rfl
    | false =>
      cases h2 : S.eqLit 2510650655181157320538776789020469319833841985448949215332 s with
      | true => rw [id_of h2 e2]; rfl
      | false => rfl
  unfold ft
  rw [this]
noncomputable def objD (o : Option Obj) : Obj := match o with
  | some o => o
  | none => dflO
noncomputable def fldD (o : Option Obj) : Array Value := match (objD o).data with
  | .fields vs => vs
  | _ => #[]
theorem ktop_eq : ∀ P, KT.of (hd.heap_205 P) = hd.ktop_399 P := fun P => by kernel_rfl!
/-- the script's list is the one object that the laying adds -/
theorem laid_one {R : WRecords} {w : World} {s₀ s₁ : Shared} {ns : List Int} {a : Addr} {as : List Addr} (L : Laid R w s₀ s₁ [ofPy (PyData.list (ns.map PyData.int))] [.ref a] as) : ∃ o : Obj, s₁.heap = s₀.heap.push o := by
  obtain ⟨ord, _, e⟩ := L.laid
  simp only [ofPy, layAllW, layW] at e
  cases q : layAllW R (classAt s₀.heap) w.params ord (ofPys (List.map PyData.int ns)) s₀ with
  | none => rw [q] at e; exact nomatch e
  | some r =>
    rw [q] at e
    have hh := lay_ints ns s₀ r q
    simp only [Option.some.injEq, Prod.mk.injEq] at e
    exact ⟨_, by rw [← e.2, ← hh]⟩
theorem push_below {h : Heap} {o o' : Obj} {b : Addr} (hb : b < h.objs.size) (e : (h.push o).get? b = some o') : h.get? b = some o' := by
  have : (h.push o).objs[b]? = h.objs[b]? := by
    show (h.objs.push o)[b]? = _
    rw [Array.getElem?_push]
    rw [if_neg (Nat.ne_of_lt hb)]
  unfold Heap.get? at e ⊢
  rw [this] at e
  exact e
theorem z_all {K : Params → Frag} {T : Params → KT} {as : List Addr} (e : ∀ P, as = (K P).map (·.1)) (et : ∀ P, KT.of (K P) = T P) {n t : Nat} {w : World} {s : Shared} (y : obsZ as s = valZ K n t w) : KT.Holds s.heap 1 0 (T w.params) ∧ InK K w s.heap ∧ s.heap.objs.size = n ∧ s.toks = t := by
  have f := z_facts e y
  exact ⟨et w.params ▸ holds_of f.1, f.2.1, f.2.2⟩
theorem good_of {U : Un} {b₁ b₂ : Bool} (hs : U.h₀.objs.size = 198) (H : KT.Holds U.h₀ 1 0 (hd.ktop_399 (ft b₁ b₂ U.P))) (hl : U.h₀.NoLimit) : Good (mkV U b₁ b₂) := by
  have ct : ∀ P ∈ (mkV U b₁ b₂).tabs, ∃ c ps, (mkV U b₁ b₂).h₀.TableAt c P ps := by
    intro P hP
    have h3 : P = 47 ∨ P = 54 ∨ P = 148 := by
      have : P ∈ [47, 54, 148] := hP
      simpa using this
    rcases h3 with rfl | rfl | rfl
    · obtain ⟨c, h⟩ := table_kt H (c := 51) (P := 47) (o := objD ((hd.ktop_399 (ft b₁ b₂ U.P)).get 51)) (vs := fldD ((hd.ktop_399 (ft b₁ b₂ U.P)).get 51)) (ps := topTab (mkV U b₁ b₂) 47) (by kernel_rfl!) (by kernel_rfl!) (by kernel_rfl!) (by kernel_rfl!)
      exact ⟨c, _, h⟩
    · obtain ⟨c, h⟩ := table_kt H (c := 58) (P := 54) (o := objD ((hd.ktop_399 (ft b₁ b₂ U.P)).get 58)) (vs := fldD ((hd.ktop_399 (ft b₁ b₂ U.P)).get 58)) (ps := topTab (mkV U b₁ b₂) 54) (by kernel_rfl!) (by kernel_rfl!) (by kernel_rfl!) (by kernel_rfl!)
      exact ⟨c, _, h⟩
    · obtain ⟨c, h⟩ := table_kt H (c := 152) (P := 148) (o := objD ((hd.ktop_399 (ft b₁ b₂ U.P)).get 152)) (vs := fldD ((hd.ktop_399 (ft b₁ b₂ U.P)).get 152)) (ps := topTab (mkV U b₁ b₂) 148) (by kernel_rfl!) (by kernel_rfl!) (by kernel_rfl!) (by kernel_rfl!)
      exact ⟨c, _, h⟩
  have H' : (mkV U b₁ b₂).kt.Holds (mkV U b₁ b₂).h₀ 1 0 := by
    unfold mkV
    exact H
  have hs' : (mkV U b₁ b₂).h₀.objs.size = (mkV U b₁ b₂).n₁ := by
    unfold mkV
    exact hs
  have hl' : (mkV U b₁ b₂).h₀.NoLimit := by
    unfold mkV
    exact hl
  refine ⟨⟨hs', H', ct⟩, hl', by kernel_rfl!, ?_⟩
  have z := KT.Holds.get H (j := 2) (o := objD ((hd.ktop_399 (ft b₁ b₂ U.P)).get 2)) (by kernel_rfl!)
  rw [Nat.one_mul, Nat.add_zero] at z
  show (U.h₀.get? 2).isSome = true
  rw [z]; rfl
end Mine
end
section
set_option maxRecDepth 100000
set_option maxHeartbeats 0
namespace Mine
open PySem PySem.W PySem.W.X PyProof.Rows PySem.Spec PySem.Calls
theorem tab_at {U : Un} {b₁ b₂ : Bool} (H : KT.Holds U.h₀ 1 0 (hd.ktop_399 (ft b₁ b₂ U.P))) : ∀ P ∈ [47, 54, 148], U.h₀.get? P = some (tableObj (topTab (mkV U b₁ b₂) P)) := by
  have k : ∀ {P}, (hd.ktop_399 (ft b₁ b₂ U.P)).get P = some (tableObj (topTab (mkV U b₁ b₂) P)) → U.h₀.get? P = some (tableObj (topTab (mkV U b₁ b₂) P)) := by
    intro P e
    have z := KT.Holds.get H e
    rwa [Nat.one_mul, Nat.add_zero] at z
  refine List.forall_mem_cons.mpr ⟨k (by kernel_rfl!), List.forall_mem_cons.mpr ⟨k (by kernel_rfl!), List.forall_mem_cons.mpr ⟨k (by kernel_rfl!), List.forall_mem_nil _⟩⟩⟩
theorem get_push_ne {h : Heap} {o o' : Obj} {b : Addr} (e : (h.push o).get? b = some o') : b < h.objs.size ∨ b = h.objs.size := by
  have := Heap.lt_size e
  rw [Heap.size_push] at this
  exact Nat.lt_or_eq_of_le (Nat.le_of_lt_succ this)
theorem oldK_of {V : VV} {h₁ h : Heap} {o : Obj} {L : Ldg} (O : V.Ok) (hp : h₁ = V.h₀.push o) (D : Led V h L) (hm : ∀ o', h₁.get? V.n₁ = some o' → h.get? V.n₁ = some o') : OldK h₁ h := by
  have low : ∀ b o', h₁.get? b = some o' → b ≠ V.n₁ → V.h₀.get? b = some o' := fun b o' e ne => by
    rw [hp] at e
    rcases get_push_ne e with q | q
    · exact push_below q e
    · rw [O.size] at q; exact absurd q ne
  refine ⟨fun b o' e => ?_, fun b o' e => ?_⟩
  · by_cases hb : b = V.n₁
    · subst hb; exact .inl (hm _ e)
    · have e0 := low b o' e hb
      by_cases ht : b ∈ V.tabs
      · obtain ⟨c, ps, more, h1, h2⟩ := D.tab b ht
        have : o' = tableObj ps := Option.some.inj (e0.symm.trans h1.2)
        subst this
        have k : ∀ x y, V.h₀.get? x = some y → h₁.get? x = some y := fun x y q => by rw [hp]; exact Heap.get?_push_of_some _ q
        have h1' : h₁.TableAt c b ps := by
          obtain ⟨⟨o, vs, g1, g2⟩, g3⟩ := h1
          exact ⟨⟨o, vs, k _ _ g1, g2⟩, k _ _ g3⟩
        exact .inr (.inl ⟨h1'.isCodeTable, rfl, ps, more, rfl, h2⟩)
      · exact .inl (D.keep b o' e0 ht)
  · by_cases hb : b = V.n₁
    · subst hb; exact ⟨_, hm _ e⟩
    · have e0 := low b o' e hb
      by_cases ht : b ∈ V.tabs
      · obtain ⟨c, ps, more, h1, h2⟩ := D.tab b ht
        exact ⟨_, h2⟩
      · exact ⟨_, D.keep b o' e0 ht⟩
theorem join_end (LM : LawMeets) {prog : Program} {R : WRecords} {w : World} {s₀ s₁ : Shared} {ns : List Int} {vs : List Value} {as : List Addr} (L : Laid R w s₀ s₁ [ofPy (PyData.list (ns.map PyData.int))] [.ref 198] as)
    (hI : IntsAre vs ns) (hlen : ns.length ≤ 63) (hLs : s₁.heap.IsList 198 vs.toArray) (hsz : s₀.heap.objs.size = 198) (H0 : KT.Holds s₀.heap 1 0 (hd.ktop_399 w.params)) (hl : s₁.heap.NoLimit) (hg : s₁.gens = #[]) (hpos : 1 ≤ s₁.toks)
    {c : ClaimW} {cl : Str → Option Addr} {mean : ExcName → Option Value} {args : List WData} (hr : ∀ cls, c.raises args cls = false) (hp : c.post args (.bool true) args = true) :
    wpAny (model prog w) callerA (PySem.call (.ref 197) [.ref 198]) (fun v s' => GoodWG c cl mean args s₁ (.ok (.ret v)) s') (fun e s' => GoodWG c cl mean args s₁ (.error e) s') s₁ := by
  have hobj := script_obj L hLs
  obtain ⟨o1, hp1⟩ := laid_one L
  let U : Un := ⟨prog, w.draws, w.params, s₀.heap, s₁.gens, s₁.drawn, s₁.os⟩
  let b₁ := w.params.followText "special-get-raises"
  let b₂ := w.params.followText "comprehension-iter-twice"
  have hw : (mkV U b₁ b₂).w = w := by
    show (⟨w.draws, ft b₁ b₂ w.params⟩ : World) = w
    rw [ft_self]
  have H1 : KT.Holds U.h₀ 1 0 (hd.ktop_399 (ft b₁ b₂ U.P)) := by
    show KT.Holds s₀.heap 1 0 (hd.ktop_399 (ft b₁ b₂ w.params))
    rw [ft_self]
    exact H0
  have low : ∀ b o, s₁.heap.get? b = some o → b < 198 → s₀.heap.get? b = some o := fun b o e hb => by
    rw [hp1] at e
    exact push_below (by rw [hsz]; exact hb) e
  have hl0 : U.h₀.NoLimit := hl.at fun o e => low 2 o e (by decide)
  have G : Good (mkV U b₁ b₂) := good_of hsz H1 hl0
  have m := LM U b₁ b₂ G vs ns hI hlen rfl trivial
  have D : Mine.Led (mkV U b₁ b₂) s₁.heap ((S_law (mkV U b₁ b₂) vs).pre ++ []) := by
    have tabs := tab_at H1
    refine ⟨?_, fun b o e _ => L.keeps b o e, fun P hP => ?_, fun p hp => ?_, ?_, fun p hp => ?_⟩
    · show 198 ≤ s₁.heap.objs.size
      rw [hp1, Heap.size_push, hsz]
      exact Nat.le_succ _
    · obtain ⟨c, ps, h⟩ := G.ok.tabs P hP
      exact ⟨c, ps, #[], h, by rw [Array.append_empty]; exact L.keeps _ _ h.2⟩
    · have hp' : p = (198, listO ⟨vs⟩ 0) ∨ p = (47, tableObj (topTab (mkV U b₁ b₂) 47)) ∨ p = (54, tableObj (topTab (mkV U b₁ b₂) 54)) ∨ p = (148, tableObj (topTab (mkV U b₁ b₂) 148)) := by
        simpa [S_law] using hp
      rcases hp' with rfl | rfl | rfl | rfl
      · exact hobj
      · exact L.keeps _ _ (tabs 47 (by decide))
      · exact L.keeps _ _ (tabs 54 (by decide))
      · exact L.keeps _ _ (tabs 148 (by decide))
    · show ([198, 47, 54, 148] : List Nat).Nodup
      decide
    · have hp' : p.1 ∈ ([198, 47, 54, 148] : List Nat) := List.mem_map_of_mem (f := (·.1)) hp
      show 198 ≤ p.1 ∨ p.1 ∈ [47, 54, 148]
      rcases List.mem_cons.mp hp' with h | h
      · exact .inl (Nat.le_of_eq h.symm)
      · exact .inr h
  have em : model prog w = model (mkV U b₁ b₂).prog (mkV U b₁ b₂).w := by rw [hw]; rfl
  rw [em]
  have htk : s₁ = sh (mkV U b₁ b₂) s₁.heap (s₁.toks - 1) := by
    show s₁ = ⟨s₁.heap, s₁.gens, s₁.drawn, s₁.toks - 1 + 1, s₁.os⟩
    rw [Nat.sub_add_cancel hpos]
  have key := m (callerA.mark none) [] (s₁.toks - 1) trivial (by
    refine ⟨?_, ?_, rfl⟩
    · show (callerA.mark none).depth + 5 * 100 + 5 < recursionLimit
      decide
    · show (callerA.mark none).units + 10 * 100 + 10 < cLine
      decide) s₁.heap D
  refine y_start (hd := none) _ _ _ _ _ _ _ _ _ _ _ (fun e => nomatch e) (codeAny_mono (by rw [htk]; exact key) fun r s' hr' => ?_)
  obtain ⟨h', tk', L', rfl, D', _, σ, _, _, hr', hL⟩ := hr'
  subst hr'
  refine y_endOk _ _ _ _ _ _ _ _ _ _ rfl ?_
  refine ⟨.inl ⟨_, _, [], rfl, hr, ReadsW.bool true, hp, fun _ => ⟨List.nodup_nil, fun _ hm => (nomatch hm)⟩⟩, ?_, rfl, ?_⟩
  · refine oldK_of (V := mkV U b₁ b₂) G.ok hp1 D' fun o' e => ?_
    have : o' = listO ⟨vs⟩ 0 := Option.some.inj (e.symm.trans hobj)
    subst this
    refine D'.led (198, listO ⟨vs⟩ 0) ?_
    rw [hL]
    exact .head _
  · show AllBare s₁.gens
    rw [hg]
    exact AllBare.empty
end Mine
end
section
set_option maxRecDepth 100000
set_option maxHeartbeats 0
namespace Mine
open PySem PySem.W PySem.W.X PyProof.Rows PySem.Spec PySem.Calls
set_option pp.maxSteps 3000 in
theorem join (LM : LawMeets) : PySem.Challenge.rw_sl0016_01.Holds := hd (by
  intro w s₀ s₁ mg mb G y fa o pm cd doc dV kV ho hd' hcd hD hmg hg args vals as L hpre hlay hrd hwl hlo
  have f := z_all (K := hd.heap_205) (T := hd.ktop_399) (fun P => by kernel_rfl!) ktop_eq y
  have H0 := And.left f
  have KX : (hd.heap_205 w.params).In s₁.heap := InK.keeps w s₀.heap s₁.heap (And.left (And.right f)) L.keeps
  have ZN : s₀.heap.objs.size = 198 := And.left (And.right (And.right f))
  have ZT : s₀.toks = 588 := And.right (And.right (And.right f))
  refine Ground.open G ?_
  intro T B D TE TW
  wrow_args hpre hlay hrd hwl hlo
  obtain ⟨hat, hsz⟩ := script_at L
  have htk := script_toks L ZT
  rw [ZN] at hat hsz
  subst hat
  x_fa T KX hmg
  exact join_end LM L (by assumption) (by omega) (by assumption) ZN H0 T.nolimit hg (by omega) (fun _ => by kernel_rfl!) (by kernel_rfl!))
end Mine
end
section
set_option maxRecDepth 100000
set_option maxHeartbeats 0
namespace Mine
open PySem PySem.W PySem.W.X PyProof.Rows
/-! law -/
/-- 'law.<locals>.' -/
noncomputable def qLaw : Str := ⟨#[108, 97, 119, 46, 60, 108, 111, 99, 97, 108, 115, 62, 46]⟩
noncomputable def lawEnv (V : VV) (fa : Addr) : Env := envAt V 197 fa [] qLaw
noncomputable def lawRet (V : VV) (i : Nat) : Expr := boE i (retE (nthS (fnBody V 197) 4))
noncomputable def sgLw (V : VV) (fa : Addr) : Sg := sgLaw ((fnBody V 197).take 4) (lawRet V 0) (lawRet V 1) (cmL (lawRet V 2)) (cmR (lawRet V 2)) (lawEnv V fa)
noncomputable def S_lawF (V : VV) (fa : Addr) (h0 : Int) (k0 : Nat) (vs : List Value) : Spec where
  need := true
  d := 98
  code := .func (fnBody V 197) (lawEnv V fa)
  pre := [(fa, frO [⟨h0, .str sScript k0, .ref 198⟩] 1), (198, listO ⟨vs⟩ 0), (47, tableObj (topTab V 47)), (54, tableObj (topTab V 54)), (148, tableObj (topTab V 148))]
  hasFact := false
  fact := fun _ => True
  res := fun _ => .ok (.ret (.bool true))
  post := fun _ => [(198, listO ⟨vs⟩ 0)]
noncomputable def C_ce (vs : List Value) : Code → Ldg → Spec := fun c _ => oS c (match c with
  | .call (.ref f) _ => match Nat.beq f 146 with
    | true => some ()
    | false => none
  | _ => none) fun _ =>
    S_ce vs
theorem C_ce_ok {V : VV} {vs : List Value} (m : Meets V (S_ce vs)) (c : Code) (l : Ldg) : Meets V (C_ce vs c l) := by
  exact oS_ok fun _ => m
noncomputable def C_i2 (V : VV) : Code → Ldg → Spec := fun c _ => oS c (match c with
  | .call (.ref f) ⟨[.int av t, .int _ u], []⟩ => match Nat.beq f 52 with
    | true => some (av, t, u)
    | false => none
  | _ => none) fun (av, t, u) =>
    { S_i2 V av 0 t u with hasHyp := true, hyp := PB av }
theorem C_i2_ok {V : VV} (m : ∀ av t u, PB av → Meets V (S_i2 V av 0 t u)) (c : Code) (l : Ldg) : Meets V (C_i2 V c l) := by
  refine oS_ok fun ⟨av, t, u⟩ => ?_
  show Meets _ ({ S_i2 V av 0 t u with hasHyp := true, hyp := PB av })
  intro q hy
  have hy' : PB _ := hy
  exact m _ _ _ hy' q trivial
noncomputable def dR (vs : List Value) (k : Nat) : Nat := match k with
  | 0 => natZ (zOf vs 0)
  | 1 => natZ (zOf vs 1)
  | 2 => natZ (zOf vs 2)
  | _ => natZ (zOf vs 3)
noncomputable def tR (vs : List Value) (k : Nat) : Nat := match k with
  | 0 => tOf vs 0
  | 1 => tOf vs 1
  | 2 => tOf vs 2
  | _ => tOf vs 3
noncomputable def rK (ss : Int) (k : Nat) : Nat := (kindZ ss k).toNat
noncomputable def RunOk (h : Nat) (pv : List Value) (d : Nat → Nat) : Prop := h ∈ [4, 6, 8] ∧ AllInt pv ∧ pv.length ≤ 1000 ∧ ∀ k, 1 ≤ d k ∧ d k ≤ 12
noncomputable def C_run (V : VV) : Code → Ldg → Spec := fun c l => oS c (match c with
  | .call (.ref f) ⟨[.ref a, .int ss ts, .int hz th, .ref pa], []⟩ => match Nat.beq f 172 with
    | true => some (a, ss, ts, hz, th, pa)
    | false => none
  | _ => none) fun (a, ss, ts, hz, th, pa) =>
    { S_run V (dR (seqOf (ob l 0)).1) (tR (seqOf (ob l 0)).1) (rK ss) a pa (seqOf (ob l 1)).2 ss ts (natZ hz) th (seqOf (ob l 1)).1 with hasHyp := true, hyp := RunOk (natZ hz) (seqOf (ob l 1)).1 (dR (seqOf (ob l 0)).1) }
theorem C_run_ok {V : VV} (m : ∀ d tt a pa pe ss ts (h : Nat) th pv, RunOk h pv d → Meets V (S_run V d tt (rK ss) a pa pe ss ts h th pv)) (c : Code) (l : Ldg) : Meets V (C_run V c l) := by
  refine oS_ok fun ⟨a, ss, ts, hz, th, pa⟩ => ?_
  show Meets _ ({ S_run V (dR (seqOf (ob l 0)).1) (tR (seqOf (ob l 0)).1) (rK ss) a pa (seqOf (ob l 1)).2 ss ts (natZ hz) th (seqOf (ob l 1)).1 with hasHyp := true, hyp := RunOk (natZ hz) (seqOf (ob l 1)).1 (dR (seqOf (ob l 0)).1) })
  intro q hy
  have hy' : RunOk _ _ _ := hy
  exact m _ _ _ _ _ _ _ _ _ _ hy' q trivial
noncomputable def C_calm : Code → Ldg → Spec := fun c l => oS c (match c with
  | .call (.ref f) ⟨[.ref a], []⟩ => match Nat.beq f 177 with
    | true => some a
    | false => none
  | _ => none) fun a =>
    S_calm a (seqOf (ob l 0)).1 (seqOf (ob l 0)).2
theorem C_calm_ok {V : VV} (m : ∀ a vs e, Meets V (S_calm a vs e)) (c : Code) (l : Ldg) : Meets V (C_calm c l) := by
  exact oS_ok fun a => m _ _ _
noncomputable def C_turn (V : VV) (c1 t1 : Nat) (v1 : List Value) : Code → Ldg → Spec := fun c l => oS c (match c with
  | .call (.ref f) ⟨[.ref a], []⟩ => match Nat.beq f 187 with
    | true => some a
    | false => none
  | _ => none) fun a =>
    S_turn V (natZ (zOf (seqOf (ob l 0)).1 19)) a (seqOf (ob l 0)).1 (seqOf (ob l 0)).2 c1 t1 v1
theorem C_turn_ok {V : VV} {c1 t1 : Nat} {v1 : List Value} (m : ∀ s a vs e, Meets V (S_turn V s a vs e c1 t1 v1)) (c : Code) (l : Ldg) : Meets V (C_turn V c1 t1 v1 c l) := by
  exact oS_ok fun a => m _ _ _ _
noncomputable def C_due : Code → Ldg → Spec := fun c l => oS c (match c with
  | .call (.ref f) ⟨[.int z0 t0, .ref a], []⟩ => match Nat.beq f 192 with
    | true => some (z0, t0, a)
    | false => none
  | _ => none) fun (z0, t0, a) =>
    S_due (natZ z0 + cntZ (zOf (seqOf (ob l 0)).1) (Int.ofNat 0) 0 27) (natZ (zOf (seqOf (ob l 0)).1 26)) a (seqOf (ob l 0)).1 (seqOf (ob l 0)).2 (natZ z0) t0
theorem C_due_ok {V : VV} (m : ∀ D q a vs e D0 t0, Meets V (S_due D q a vs e D0 t0)) (c : Code) (l : Ldg) : Meets V (C_due c l) := by
  exact oS_ok fun ⟨z0, t0, a⟩ => m _ _ _ _ _ _ _
noncomputable def C_lawF (V : VV) (vs : List Value) : Code → Ldg → Spec := fun c l => oS c (match c with
  | .func _ _ => match ob l 0 with
    | ⟨_, _, .dict ⟨[⟨h0, .str _ k0, _⟩]⟩ _, _⟩ => some (h0, k0)
    | _ => none
  | _ => none) fun (h0, k0) =>
    S_lawF V (ad l 0) h0 k0 vs
theorem C_lawF_ok {V : VV} {vs : List Value} (m : ∀ fa h0 k0, Meets V (S_lawF V fa h0 k0 vs)) (c : Code) (l : Ldg) : Meets V (C_lawF V vs c l) := by
  exact oS_ok fun ⟨h0, k0⟩ => m _ _ _
end Mine
end
section
set_option maxRecDepth 100000
set_option maxHeartbeats 0
namespace Mine
open PySem PySem.W PySem.W.X PyProof.Rows
theorem IsI.z {vs : List Value} {ns : List Nat} (h : IsI vs ns) {i n : Nat} (e : ns[i]? = some n) : zOf vs i = Int.ofNat n := by
  obtain ⟨t, g⟩ := h.2 i n e
  exact zOf_eq g
theorem IsI.all {vs : List Value} {ns : List Nat} (h : IsI vs ns) : AllInt vs := fun i hi => by
  obtain ⟨t, g⟩ := h.2 i _ (List.getElem?_eq_getElem (by rw [← h.1]; exact hi))
  exact ⟨_, t, g⟩
theorem IsI.get {vs : List Value} {ns : List Nat} (h : IsI vs ns) {i : Nat} (hi : i < ns.length) : zOf vs i = Int.ofNat ((ns[i]?).getD 0) := by
  have e := List.getElem?_eq_getElem hi
  rw [h.z e, e]
  rfl
theorem cnt_is {vs : List Value} {ns : List Nat} (h : IsI vs ns) (k : Nat) : ∀ m j, j + m = ns.length → cntZ (zOf vs) (Int.ofNat k) j m = cntL k (ns.drop j)
  | 0, j, e => by
    rw [List.drop_eq_nil_of_le (by omega)]
    rfl
  | m + 1, j, e => by
    have hj : j < ns.length := by omega
    rw [List.drop_eq_getElem_cons hj]
    show (if zOf vs j = Int.ofNat k then 1 else 0) + cntZ (zOf vs) (Int.ofNat k) (j + 1) m = (if ns[j] = k then 1 else 0) + cntL k (ns.drop (j + 1))
    rw [cnt_is h k m (j + 1) (by omega), h.z (List.getElem?_eq_getElem hj)]
    by_cases g : ns[j] = k
    · rw [if_pos g, if_pos (by rw [g])]
    · rw [if_neg g, if_neg (fun q => g (Int.ofNat.inj q))]
theorem cnt_all {vs : List Value} {ns : List Nat} (h : IsI vs ns) (hn : ns.length = 27) (k : Nat) : cntZ (zOf vs) (Int.ofNat k) 0 27 = cntL k ns := by
  rw [cnt_is h k 27 0 (by omega)]
  rfl
section
variable {H : Nat} {pv cs ms : List Value} {d : Nat → Nat} (R : RunOk H pv d)
include R
theorem calm_ok (h : IsI cs (crR H pv 0 27 d)) : CalmOk cs := by
  have hl : LenOk 12 d := fun k _ => R.2.2.2 k
  have n := cr_len (h := H) (pv := pv) 27 0 d
  refine ⟨h.all, by rw [h.1, n], fun i hi => ?_, fun i h1 h2 => ?_⟩
  · rw [h.get (by omega), h.get (by omega)]
    exact Int.ofNat_le.mpr (cr_mono R.1 27 0 12 d hl (by omega) i)
  · exact h.z (cr_one R.1 27 0 12 d hl (by omega) i (by have := rk_le (len := d) R.1; omega) h2)
theorem turn_ok (h : IsI ms (mvR H pv 0 27 d)) : TurnOk ms (natZ (zOf ms 19)) := by
  have hl : LenOk 12 d := fun k _ => R.2.2.2 k
  have n := mv_len (h := H) (pv := pv) 27 0 d
  obtain ⟨m, len', hm, e1, _, _⟩ := mv_last (pv := pv) R.1 hl
  have at8 : ∀ i, i < 8 → zOf ms (19 + i) = Int.ofNat ((m + i) % 4) := fun i hi => by
    refine h.z ?_
    rw [e1, List.getElem?_append_right (by rw [mv_len]; omega), mv_len]
    have a := four hm
    have b : i = 0 ∨ i = 1 ∨ i = 2 ∨ i = 3 ∨ i = 4 ∨ i = 5 ∨ i = 6 ∨ i = 7 := by omega
    rcases a with rfl | rfl | rfl | rfl <;> rcases b with rfl | rfl | rfl | rfl | rfl | rfl | rfl | rfl <;> rfl
  have em : natZ (zOf ms 19) = m := by
    have := at8 0 (by omega)
    rw [show (19 : Nat) = 19 + 0 from rfl, this]
    show (m + 0) % 4 = m
    omega
  rw [em]
  refine ⟨h.all, by rw [h.1, n], fun k hk => ?_, hm, at8⟩
  rw [cnt_all h n, cnt_all h n]
  exact tm_all R.1 hl hk
theorem due_ok (h : IsI ms (mvR H pv 0 27 d)) : DueOk ms (d 0) (d 0 + cntZ (zOf ms) (Int.ofNat 0) 0 27) (natZ (zOf ms 26)) := by
  have hl : LenOk 12 d := fun k _ => R.2.2.2 k
  have n := mv_len (h := H) (pv := pv) 27 0 d
  have f := fn_zero (pv := pv) R.1 27 0 12 d hl (by omega)
  have g := fn_ok (pv := pv) R.1 27 0 12 d hl 0 (by omega)
  refine ⟨h.all, by rw [h.1, n], ?_, rfl, ?_, ?_⟩
  · rw [h.get (by omega)]
    rfl
  · have := (hl 0 (by omega)).1
    omega
  · rw [cnt_all h n]
    omega
theorem words_ok {w : Nat → Nat} {tw : Nat → Nat} {l : List Value} (h : IsI ms (mvR H pv 0 27 d)) (hw : ∀ k, k < 4 → w k = fnR H pv 0 27 d k) (hd : IsW (wD (d 0 + cntZ (zOf ms) (Int.ofNat 0) 0 27) (natZ (zOf ms 26))) l 4) : EqVs (wordsL (fun k => dotS (w k)) tw) l := by
  have hl : LenOk 12 d := fun k _ => R.2.2.2 k
  have n := mv_len (h := H) (pv := pv) 27 0 d
  obtain ⟨q, _, e1, e2⟩ := fn_due (pv := pv) R.1 hl
  have eq : natZ (zOf ms 26) = q := by rw [h.z e1]; rfl
  rw [eq, cnt_all h n] at hd
  have key : ∀ k, k < 4 → w k = wD (d 0 + cntL 0 (mvR H pv 0 27 d)) q k := fun k hk => by
    rw [hw k hk, e2 k hk]
    rfl
  refine ⟨by rw [hd.1]; rfl, fun i h1 h2 => .inr ?_⟩
  have hi : i < 4 := h1
  obtain ⟨u, e⟩ := hd.2 i hi
  rw [← key i hi] at e
  refine ⟨dotS (w i), tw i, u, ?_, (List.getElem?_eq_some_iff.mp e).2⟩
  rcases four hi with rfl | rfl | rfl | rfl <;> rfl
end
noncomputable def dL (z : Nat → Int) (k : Nat) : Nat := match k with
  | 0 => (Int.fmod (z 1) (Int.ofNat 12)).toNat + 1
  | 1 => (Int.fmod (z 2) (Int.ofNat 12)).toNat + 1
  | 2 => (Int.fmod (z 3) (Int.ofNat 12)).toNat + 1
  | _ => (Int.fmod (z 4) (Int.ofNat 12)).toNat + 1
noncomputable def r0 (z : Nat → Int) : Nat := (Int.fmod (z 0) (Int.ofNat 3)).toNat
theorem r0_lt (z : Nat → Int) : r0 z < 3 := by
  have h1 : 0 ≤ Int.fmod (z 0) (Int.ofNat 3) := Int.fmod_nonneg_of_pos _ (by decide)
  have h2 : Int.fmod (z 0) (Int.ofNat 3) < Int.ofNat 3 := Int.fmod_lt_of_pos _ (by decide)
  have : Int.ofNat 3 = 3 := rfl
  unfold r0
  omega
theorem fm12 (x : Int) : 1 ≤ (Int.fmod x (Int.ofNat 12)).toNat + 1 ∧ (Int.fmod x (Int.ofNat 12)).toNat + 1 ≤ 12 := by
  have h1 : 0 ≤ Int.fmod x (Int.ofNat 12) := Int.fmod_nonneg_of_pos _ (by decide)
  have h2 : Int.fmod x (Int.ofNat 12) < Int.ofNat 12 := Int.fmod_lt_of_pos _ (by decide)
  have : Int.ofNat 12 = 12 := rfl
  omega
theorem run_ok {z : Nat → Int} {pv : List Value} (h : AllInt pv ∧ pv.length ≤ 60) : RunOk (hsel (r0 z)) pv (dL z) := by
  refine ⟨?_, h.1, by omega, fun k => ?_⟩
  · have := r0_lt z
    have : r0 z = 0 ∨ r0 z = 1 ∨ r0 z = 2 := by omega
    rcases this with e | e | e <;> rw [e] <;> decide
  · rcases k with _ | _ | _ | k <;> exact fm12 _
theorem pb_ok {z : Nat → Int} (h : cBound 16777216 z) : PB (z 5 + z 6 * (Int.ofNat 2) ^ (Int.ofNat 20).toNat + z 7 * (Int.ofNat 2) ^ (Int.ofNat 40).toNat) := by
  have h5 := h 5 (by decide)
  have h6 := h 6 (by decide)
  have h7 := h 7 (by decide)
  have e1 : (Int.ofNat 2) ^ (Int.ofNat 20).toNat = 1048576 := by decide
  have e2 : (Int.ofNat 2) ^ (Int.ofNat 40).toNat = 1099511627776 := by decide
  rw [e1, e2]
  unfold PB
  omega
theorem tup_ok (z : Nat → Int) (x : Nat) : 0 ≤ Int.ofNat (r0 z) ∧ Int.ofNat (r0 z) < 1000 ∧ ∃ u, ([.int 4 x, .int 6 (Nat.succ x), .int 8 (Nat.succ (Nat.succ x))] : List Value)[(Int.ofNat (r0 z)).toNat]? = some (.int (Int.ofNat (hsel (Int.ofNat (r0 z)).toNat)) u) := by
  have := r0_lt z
  refine ⟨Int.natCast_nonneg _, Int.ofNat_lt.mpr (show r0 z < 1000 by omega), ?_⟩
  have : r0 z = 0 ∨ r0 z = 1 ∨ r0 z = 2 := by omega
  rcases this with e | e | e <;> rw [e] <;> exact ⟨_, rfl⟩
theorem kind_ge (ss : Int) (k : Nat) : 0 ≤ kindZ ss k ∧ kindZ ss k < 3 := by
  have h1 : 0 ≤ kindZ ss k := Int.fmod_nonneg_of_pos _ (by decide)
  have h2 : kindZ ss k < Int.ofNat 3 := Int.fmod_lt_of_pos _ (by decide)
  exact ⟨h1, h2⟩
theorem kind_ok (ss : Int) (k : Nat) : kindZ ss k = Int.ofNat (rK ss k) := (Int.toNat_of_nonneg (kind_ge ss k).1).symm
theorem kind_lt (ss : Int) (k : Nat) : rK ss k < 3 := by
  have := kind_ge ss k
  unfold rK
  omega
theorem ints_len : ∀ {vs : List Value} {ns : List Int}, IntsAre vs ns → vs.length = ns.length
  | _, _, .nil => rfl
  | _, _, .cons n t h => congrArg Nat.succ (ints_len h)
theorem ints_all : ∀ {vs : List Value} {ns : List Int}, IntsAre vs ns → AllInt vs
  | _, _, .nil => fun i hi => absurd hi (Nat.not_lt_zero _)
  | _, _, .cons n t h => fun i hi => by
    cases i with
    | zero => exact ⟨n, t, rfl⟩
    | succ i => exact ints_all h i (Nat.lt_of_succ_lt_succ hi)
noncomputable abbrev runF5 (z : Nat → Int) (pv : List Value) (τ : Sup) : Prop := IsI (τ.v 0) (crR (hsel (r0 z)) pv 0 27 (dL z)) ∧ IsI (τ.v 1) (mvR (hsel (r0 z)) pv 0 27 (dL z)) ∧ ∀ k, k < 4 → τ.n (20 + k) = fnR (hsel (r0 z)) pv 0 27 (dL z) k
noncomputable abbrev dueD (z : Nat → Int) (ms : List Value) : Nat := dL z 0 + cntZ (zOf ms) (Int.ofNat 0) 0 27
noncomputable def lwC (V : VV) (vs : List Value) (P : Nat → Ev) : List (Code → Ldg → Spec) := [C_ce vs, C_modN, C_imL, C_pow, C_i2 V, C_fdN, C_tup3, C_run V, C_calm, C_turn V ((P 16).s.n 1) ((P 16).s.n 2) ((P 16).s.v 0), C_due]
noncomputable def lwDep : Nat → Nat
  | 9 => 17
  | _ => 0
theorem lwC_dep {V : VV} {vs : List Value} (k : Nat) (P Q : Nat → Ev) (g : Agree (lwDep k) P Q) : (lwC V vs P)[k]? = (lwC V vs Q)[k]? := by
  unfold lwC
  rcases k with _ | _ | _ | _ | _ | _ | _ | _ | _ | _ | k
  all_goals first | rfl | (have e : P 16 = Q 16 := g 16 (by show 16 < 17; decide); rw [e])
noncomputable def lwL (tk : Nat) (P : Nat → Ev) : List Prop := [(Nat.succ ((P 26).tk) ≤ (P 27).tk), IsW (wD (dueD (P 0).s.z ((P 21).s.v 1)) (natZ (zOf ((P 21).s.v 1) 26))) ((P 27).s.v 0) 4, ((P 25).tk ≤ (P 26).tk), (Nat.succ (Nat.succ (Nat.succ ((P 21).tk))) ≤ (P 25).tk), ((P 20).tk ≤ (P 21).tk), runF5 (P 0).s.z ((P 16).s.v 1) (P 21).s, ((P 19).tk ≤ (P 20).tk), (Nat.succ (Nat.succ (Nat.succ (Nat.succ (Nat.succ ((P 17).tk))))) ≤ (P 19).tk), (Nat.succ (Nat.succ (Nat.succ ((P 16).tk))) ≤ (P 17).tk), (Nat.succ (Nat.succ ((P 15).tk)) ≤ (P 16).tk), (AllInt ((P 16).s.v 1) ∧ ((P 16).s.v 1).length ≤ 60), ((P 14).tk ≤ (P 15).tk), (Nat.succ (Nat.succ (Nat.succ (Nat.succ ((P 13).tk)))) ≤ (P 14).tk), ((P 12).tk ≤ (P 13).tk), (Nat.succ (Nat.succ (Nat.succ (Nat.succ (Nat.succ (Nat.succ (Nat.succ ((P 9).tk))))))) ≤ (P 12).tk), (Nat.succ (Nat.succ (Nat.succ (Nat.succ ((P 8).tk)))) ≤ (P 9).tk), (Nat.succ (Nat.succ (Nat.succ (Nat.succ ((P 7).tk)))) ≤ (P 8).tk), (Nat.succ (Nat.succ (Nat.succ (Nat.succ ((P 6).tk)))) ≤ (P 7).tk), (Nat.succ (Nat.succ (Nat.succ (Nat.succ (Nat.succ ((P 0).tk))))) ≤ (P 6).tk), (tk ≤ (P 0).tk), cBound 16777216 (P 0).s.z]
noncomputable def lwH : Bool → List Hint
  | true => [.t, .l 0, .t, .c 0 [1], .l 2, .l 2, .l 2, .l 2, .l 2, .l 2, .i, .l 2, .l 0, .l 0, .l 0, .l 0, .l 0, .l 2, .l 0, .l 0, .i, .l 0, .l 0, .i, .l 2, .i, .l 2, .l 2, .l 2, .l 3, .l 2, .l 2, .l 0, .l 0, .l 0, .c 1 [], .i, .i, .l 1, .l 1, .l 1, .l 1, .l 2, .i, .l 2, .l 2, .l 2, .l 3, .l 2, .l 2, .l 0, .l 0, .l 0, .c 1 [], .i, .i, .l 1, .l 1, .l 1, .l 1, .l 2, .i, .l 2, .l 2, .l 2, .l 3, .l 2, .l 2, .l 0, .l 0, .l 0, .c 1 [], .i, .i, .l 1, .l 1, .l 1, .l 1, .l 2, .i, .l 2, .l 2, .l 2, .l 3, .l 2, .l 2, .l 0, .l 0, .l 0, .c 1 [], .i, .i, .l 1, .l 1, .l 1, .l 1, .l 2, .i, .l 2, .l 2, .l 2, .l 3, .l 2, .l 2, .l 0, .l 9, .l 9, .l 2, .l 2, .l 2, .t, .l 9, .l 8, .l 8, .l 8, .i, .l 8, .l 8, .l 9, .l 8, .l 8, .l 8, .i, .l 8, .l 8, .c 3 [], .c 2 [], .i, .l 9, .l 8, .l 8, .l 8, .i, .l 8, .l 8, .c 3 [], .c 2 [], .i, .t, .ch 4 [10] 0, .l 12, .l 12, .t, .l 12, .l 12, .l 11, .l 11, .l 11, .i, .l 11, .l 11, .ch 5 [] 1, .l 13, .l 12, .l 12, .l 12, .i, .l 12, .l 12, .c 1 [], .l 0, .l 0, .l 0, .ch 6 [0] 2, .i, .l 13, .t, .ch 7 [7, 3, 13] 3, .l 0, .l 0, .l 0, .i, .l 0, .l 0, .l 0, .i, .l 0, .l 0, .l 0, .l 1, .l 0, .l 0, .l 0, .i, .l 0, .l 0, .l 0, .l 1, .l 0, .l 0, .l 0, .i, .l 0, .l 0, .l 0, .l 1, .l 0, .l 0, .l 0, .i, .l 0, .l 0, .l 0, .l 1, .l 0, .l 0, .l 0, .l 19, .l 19, .l 19, .l 19, .l 19, .l 19, .t, .l 19, .t, .ch 8 [4] 4, .t, .l 19, .t, .ch 9 [5, 8, 8, 17] 5, .l 17, .t, .l 17, .l 7, .l 7, .l 7, .i, .l 7, .l 7, .l 17, .t, .ch 10 [0] 6, .qh 0 [6, 0] 7]
  | false => [.t, .l 0, .t, .c 0 [1], .l 2, .l 2, .l 2, .l 2, .l 2, .l 2, .i, .l 2, .l 0, .l 0, .l 0, .l 0, .l 0, .l 2, .l 0, .l 0, .i, .l 0, .l 0, .i, .l 2, .l 2, .i, .l 2, .l 2, .l 2, .i, .l 2, .l 2, .l 2, .l 3, .l 2, .l 2, .l 0, .l 0, .l 0, .c 1 [], .i, .i, .l 1, .l 1, .l 1, .l 1, .l 2, .i, .l 2, .l 2, .l 2, .l 3, .l 2, .l 2, .l 0, .l 0, .l 0, .c 1 [], .i, .i, .l 1, .l 1, .l 1, .l 1, .l 2, .i, .l 2, .l 2, .l 2, .l 3, .l 2, .l 2, .l 0, .l 0, .l 0, .c 1 [], .i, .i, .l 1, .l 1, .l 1, .l 1, .l 2, .i, .l 2, .l 2, .l 2, .l 3, .l 2, .l 2, .l 0, .l 0, .l 0, .c 1 [], .i, .i, .l 1, .l 1, .l 1, .l 1, .l 2, .i, .l 2, .l 2, .l 2, .l 3, .l 2, .l 2, .l 0, .l 9, .l 9, .l 2, .l 2, .l 2, .t, .l 9, .l 8, .l 8, .l 8, .i, .l 8, .l 8, .l 9, .l 8, .l 8, .l 8, .i, .l 8, .l 8, .c 3 [], .c 2 [], .i, .l 9, .l 8, .l 8, .l 8, .i, .l 8, .l 8, .c 3 [], .c 2 [], .i, .t, .ch 4 [10] 0, .l 12, .l 12, .t, .l 12, .l 12, .l 11, .l 11, .l 11, .i, .l 11, .l 11, .ch 5 [] 1, .l 13, .l 12, .l 12, .l 12, .i, .l 12, .l 12, .c 1 [], .l 0, .l 0, .l 0, .ch 6 [0] 2, .i, .l 13, .t, .ch 7 [7, 3, 13] 3, .l 0, .l 0, .l 0, .i, .l 0, .l 0, .l 0, .i, .l 0, .l 0, .l 0, .l 1, .l 0, .l 0, .l 0, .i, .l 0, .l 0, .l 0, .l 1, .l 0, .l 0, .l 0, .i, .l 0, .l 0, .l 0, .l 1, .l 0, .l 0, .l 0, .i, .l 0, .l 0, .l 0, .l 1, .l 0, .l 0, .l 0, .l 19, .l 19, .l 19, .l 19, .l 19, .l 19, .t, .l 19, .t, .ch 8 [4] 4, .t, .l 19, .t, .ch 9 [5, 8, 8, 17] 5, .l 17, .t, .l 17, .l 7, .l 7, .l 7, .i, .l 7, .l 7, .l 17, .t, .ch 10 [0] 6, .qh 0 [6, 0] 7]
section
variable {U : Un} {b₁ b₂ : Bool} (G : Good (mkV U b₁ b₂))
theorem lwf_conv {A : Around} {R : RPost} {L : Ldg} {tk : Nat} {fa : Addr} (q : SgGo (mkV U b₁ b₂) A (.func (fnBody (mkV U b₁ b₂) 197) (lawEnv (mkV U b₁ b₂) fa)) R (sgLw (mkV U b₁ b₂) fa) L tk) : CodeG (mkV U b₁ b₂) A (.func (fnBody (mkV U b₁ b₂) 197) (lawEnv (mkV U b₁ b₂) fa)) R L tk := by
  cases b₁ <;> cases b₂ <;> exact law_conv (p1 := retPos (nthS (fnBody (mkV U true true) 197) 4)) (p2 := boPos (retE (nthS (fnBody (mkV U true true) 197) 4))) (p3 := exPos (lawRet (mkV U true true) 2)) (by kernel_rfl!) (by kernel_rfl!) q
include G
theorem lwC_ok {vs : List Value} (hd : AllInt vs) (hl : vs.length ≤ 63) (P : Nat → Ev) : CsOk (mkV U b₁ b₂) (lwC (mkV U b₁ b₂) vs P) :=
  ⟨C_ce_ok (ce_meets G vs hd hl), C_modN_ok, C_imL_ok, C_pow_ok, C_i2_ok fun av t u h => (by
    obtain ⟨k, m⟩ := i2_meets G t u av h
    exact m), C_fdN_ok, C_tup3_ok, C_run_ok fun d tt a pa pe ss ts h th pv r => run_meets G r.1 r.2.1 r.2.2.1 r.2.2.2 (fun k _ => kind_ok ss k) (fun k => kind_lt ss k), C_calm_ok fun a vs e => calm_meets G a vs e, C_turn_ok fun s a vs e => turn_meets G s a vs e _ _ _, C_due_ok fun D q a vs e D0 t0 => due_meets G D q a vs e D0 t0, trivial⟩
theorem lwf_meets (fa : Addr) (h0 : Int) (k0 : Nat) (vs : List Value) (hd : AllInt vs) (hl : vs.length ≤ 63) : Meets (mkV U b₁ b₂) (S_lawF (mkV U b₁ b₂) fa h0 k0 vs) := by
  have D : DsOk (mkV U b₁ b₂) [D_eqT] := ⟨D_eqT_ok, trivial⟩
  refine meets_dep (cs := lwC (mkV U b₁ b₂) vs) (dep := lwDep) G (lwC_ok G hd hl) lwC_dep D (sgLw (mkV U b₁ b₂) fa) (fun A R L tk q => lwf_conv q) 555 (lwH b₂) (fun tk P => sup0) (fun tk P => lwL tk P) [15] (fun tk P => (P 27).tk)
    (fun tk ht P m => match m with
      | 0 => ⟨impL ((lwL tk P).drop 11) (PB ((P 0).s.z 5 + (P 0).s.z 6 * (Int.ofNat 2) ^ (Int.ofNat 20).toNat + (P 0).s.z 7 * (Int.ofNat 2) ^ (Int.ofNat 40).toNat)), impI (fun g => pb_ok (g (cBound 16777216 (P 0).s.z) (.tail _ (.tail _ (.tail _ (.tail _ (.tail _ (.tail _ (.tail _ (.tail _ (.tail _ (.head _))))))))))))⟩
      | 1 => ⟨impL ((lwL tk P).drop 9) (Int.ofNat 3 ≠ 0 ∧ Builtin.divisionGoesByPylong ((P 0).s.z 0) (Int.ofNat 3) = false), impI (fun g => ⟨by decide, PyProof.noPylong_small (by decide)⟩)⟩
      | 2 => ⟨impL ((lwL tk P).drop 7) (0 ≤ Int.ofNat (r0 (P 0).s.z) ∧ Int.ofNat (r0 (P 0).s.z) < 1000 ∧ ∃ u, ([.int 4 (Nat.succ ((P 17).tk)), .int 6 (Nat.succ (Nat.succ ((P 17).tk))), .int 8 (Nat.succ (Nat.succ (Nat.succ ((P 17).tk))))] : List Value)[(Int.ofNat (r0 (P 0).s.z)).toNat]? = some (.int (Int.ofNat (hsel (Int.ofNat (r0 (P 0).s.z)).toNat)) u)), impI (fun g => tup_ok (P 0).s.z _)⟩
      | 3 => ⟨impL ((lwL tk P).drop 6) (RunOk (hsel (r0 (P 0).s.z)) ((P 16).s.v 1) (dL (P 0).s.z)), impI (fun g => (run_ok (g (AllInt ((P 16).s.v 1) ∧ ((P 16).s.v 1).length ≤ 60) (.tail _ (.tail _ (.tail _ (.tail _ (.head _))))))))⟩
      | 4 => ⟨impL ((lwL tk P).drop 4) (CalmOk ((P 21).s.v 0)), impI (fun g => calm_ok (run_ok (g (AllInt ((P 16).s.v 1) ∧ ((P 16).s.v 1).length ≤ 60) (.tail _ (.tail _ (.tail _ (.tail _ (.tail _ (.tail _ (.head _))))))))) (g (runF5 (P 0).s.z ((P 16).s.v 1) (P 21).s) (.tail _ (.head _))).1)⟩
      | 5 => ⟨impL ((lwL tk P).drop 3) (TurnOk ((P 21).s.v 1) (natZ (zOf ((P 21).s.v 1) 19))), impI (fun g => turn_ok (run_ok (g (AllInt ((P 16).s.v 1) ∧ ((P 16).s.v 1).length ≤ 60) (.tail _ (.tail _ (.tail _ (.tail _ (.tail _ (.tail _ (.tail _ (.head _)))))))))) (g (runF5 (P 0).s.z ((P 16).s.v 1) (P 21).s) (.tail _ (.tail _ (.head _)))).2.1)⟩
      | 6 => ⟨impL ((lwL tk P).drop 2) (DueOk ((P 21).s.v 1) (dL (P 0).s.z 0) (dueD (P 0).s.z ((P 21).s.v 1)) (natZ (zOf ((P 21).s.v 1) 26))), impI (fun g => due_ok (run_ok (g (AllInt ((P 16).s.v 1) ∧ ((P 16).s.v 1).length ≤ 60) (.tail _ (.tail _ (.tail _ (.tail _ (.tail _ (.tail _ (.tail _ (.tail _ (.head _))))))))))) (g (runF5 (P 0).s.z ((P 16).s.v 1) (P 21).s) (.tail _ (.tail _ (.tail _ (.head _))))).2.1)⟩
      | _ => ⟨impL ((lwL tk P).drop 0) (EqVs (wordsL (fun k => dotS ((P 21).s.n (20 + k))) (fun k => (P 21).s.n (30 + k))) ((P 27).s.v 0)), impI (fun g => words_ok (run_ok (g (AllInt ((P 16).s.v 1) ∧ ((P 16).s.v 1).length ≤ 60) (.tail _ (.tail _ (.tail _ (.tail _ (.tail _ (.tail _ (.tail _ (.tail _ (.tail _ (.tail _ (.head _))))))))))))) (g (runF5 (P 0).s.z ((P 16).s.v 1) (P 21).s) (.tail _ (.tail _ (.tail _ (.tail _ (.tail _ (.head _))))))).2.1 (g (runF5 (P 0).s.z ((P 16).s.v 1) (P 21).s) (.tail _ (.tail _ (.tail _ (.tail _ (.tail _ (.head _))))))).2.2 (g (IsW (wD (dueD (P 0).s.z ((P 21).s.v 1)) (natZ (zOf ((P 21).s.v 1) 26))) ((P 27).s.v 0) 4) (.tail _ (.head _))))⟩)
    (fun tk ht P hp => ⟨trivial, trivial⟩) (fun tk ht P => ?_)
  exact Bool.casesOn b₁ (Bool.casesOn b₂ (by kernel_rfl!) (by kernel_rfl!)) (Bool.casesOn b₂ (by kernel_rfl!) (by kernel_rfl!))
theorem law_meets (vs : List Value) (hd : AllInt vs) (hl : vs.length ≤ 63) : Meets (mkV U b₁ b₂) (S_law (mkV U b₁ b₂) vs) := by
  have C : CsOk (mkV U b₁ b₂) [C_lawF (mkV U b₁ b₂) vs] := ⟨C_lawF_ok fun fa h0 k0 => lwf_meets G fa h0 k0 vs hd hl, trivial⟩
  exact meets_of G C 23 [.t, .t, .l 0, .l 0, .e none 0 [] ⟨#[108, 97, 119, 46, 60, 108, 111, 99, 97, 108, 115, 62, 46]⟩, .a 0 [0, 0, 0, 0, 0]] (fun tk P => sup0) (fun tk P => []) [0] (fun _ _ _ => trivial) (fun tk P => by exact Bool.casesOn b₁ (by kernel_rfl!) (by kernel_rfl!))
end
theorem lawMeets : LawMeets := fun U b₁ b₂ G vs ns h hl => law_meets G vs (ints_all h) (by rw [ints_len h]; exact hl)
end Mine
end
theorem PySem.Challenge.cw_sl0016_01_holds : PySem.Challenge.rw_sl0016_01.Holds :=
  Mine.join Mine.lawMeets
